import PyProof.Rows.All
import Wide.All
import OpenK.AllK
import Wide.FinOn
import PyProof.CallType
import PyProof.DefCall
import PyProof.RulesTry
import PyProof.EvalArms
import OpenK.KMore
import PyProof.RulesAs
import PyProof.StationsW
import PyProof.Rows.Catch
import OpenK.KWalk
import PyProof.ExcStrCall
import PyProof.ExcStrAll.NotImplementedError
import KE.KIsBytes
import PyProof.IsiBase
import PyProof.Walks
import PyProof.Rows.StrComp
import PyProof.ListNew
import PyProof.FactsAll.list
import PyProof.EnumMake
import PyProof.Draws
import PyProof.AutoIntOps
import PyProof.Rows.LoopPair
import PyProof.ListIndex
import PySem.Challenge.RW_br5013_01
set_option maxHeartbeats 1000000
-- BrBase
section
open PySem PySem.W PySem.Calls PyProof.Rows
set_option Elab.async false
set_option maxRecDepth 100000
namespace Br

/-! ## contexts without a built-in that holds a bytearray -/
def cleanCode : Code → Bool
  | .builtin id _ => !((["bytearray.__contains__", "bytearray.__mod__", "bytearray.__rmod__", "_struct.pack_into.held", "bytearray.find.held"] : List String).contains id || Builtin.Bytes.decodersThatHold.contains id)
  | _ => true
def CleanL (l : List (Code × Pos)) : Prop := ∀ x ∈ l, cleanCode x.1 = true
def Clean (Γ : Ctx) : Prop := cleanCode Γ.code = true ∧ CleanL Γ.below
theorem CleanL.cons {c : Code} {p : Pos} {l : List (Code × Pos)} (h : cleanCode c = true) (hl : CleanL l) : CleanL ((c, p) :: l) := fun x hx => by
  rcases List.mem_cons.mp hx with rfl | hx
  · exact h
  · exact hl x hx

def wpQ {α : Type} (M : Model) (A : Around) (t : Sem α) (Q : α → Shared → Prop) (E : Value → Shared → Prop) (s : Shared) : Prop :=
  ∀ Γ p, Γ.In A → Clean Γ → Sem.wp M Γ t (fun a _ s' => Q a s') (fun e _ s' => E e s') p s
def codeQ (M : Model) (A : Around) (c : Code) (R : Result → Shared → Prop) (s : Shared) : Prop :=
  ∀ Γ p, Γ.code = c → Γ.Below A → CleanL Γ.below → wpCode M Γ R p s

section
variable {α β : Type} {M : Model} {A : Around} {E : Value → Shared → Prop} {s : Shared}
theorem wpQ_of {t : Sem α} {Q : α → Shared → Prop} (h : wpAny M A t Q E s) : wpQ M A t Q E s := fun Γ p hΓ _ => h Γ p hΓ
theorem codeQ_of {c : Code} {R : Result → Shared → Prop} (h : codeAny M A c R s) : codeQ M A c R s := fun Γ p hc hΓ _ => h Γ p hc hΓ
theorem wpQ_mono {t : Sem α} {Q Q' : α → Shared → Prop} {E' : Value → Shared → Prop} (h : wpQ M A t Q E s) (hQ : ∀ a s, Q a s → Q' a s) (hE : ∀ e s, E e s → E' e s) : wpQ M A t Q' E' s :=
  fun Γ p hΓ hc => Sem.wp_mono M Γ t (fun a _ s => hQ a s) (fun e _ s => hE e s) p s (h Γ p hΓ hc)
theorem codeQ_mono {c : Code} {R R' : Result → Shared → Prop} (h : codeQ M A c R s) (hR : ∀ r s, R r s → R' r s) : codeQ M A c R' s :=
  fun Γ p hc hΓ hl => wpCode_mono hR (h Γ p hc hΓ hl)
theorem wpQ_pure {a : α} {Q : α → Shared → Prop} (h : Q a s) : wpQ M A (pure a) Q E s := fun _ _ _ _ => h
theorem wpQ_bind {m : Sem α} {f : α → Sem β} {Q : β → Shared → Prop} (h : wpQ M A m (fun a s' => wpQ M A (f a) Q E s') E s) : wpQ M A (m >>= f) Q E s := fun Γ p hΓ hc => by
  rw [Sem.wp_bind']
  exact Sem.wp_mono M Γ m (fun a p' s' h' => h' Γ p' hΓ hc) (fun _ _ _ h' => h') p s (h Γ p hΓ hc)
theorem wpQ_andThen {m : Sem α} {f : α → Sem β} {Q : β → Shared → Prop} (h : wpAny M A m (fun a s' => wpQ M A (f a) Q E s') E s) : wpQ M A (m >>= f) Q E s := wpQ_bind (wpQ_of h)
theorem wpQ_holding {vs : List Value} {m : Sem α} {Q : α → Shared → Prop} (h : wpQ M A m Q E s) : wpQ M A (holding vs m) Q E s :=
  fun Γ p hΓ hc => by rw [Sem.wp_holding]; exact h Γ p hΓ hc
theorem wpQ_onRaise {m : Sem α} {k : Value → Sem Unit} {Q : α → Shared → Prop}
    (h : wpQ M A m Q (fun e s' => wpQ M A (k e) (fun _ s'' => E e s'') E s') s) : wpQ M A (m.onRaise k) Q E s := fun Γ p hΓ hc => by
  rw [Sem.wp_onRaise]
  exact Sem.wp_mono M Γ m (fun _ _ _ h' => h') (fun e p' s' h' => h' Γ p' hΓ hc) p s (h Γ p hΓ hc)
theorem wpQ_attempt {m : Sem α} {Q : Except Value α → Shared → Prop} (h : wpQ M A m (fun a => Q (.ok a)) (fun e => Q (.error e)) s) :
    wpQ M A m.attempt Q E s := fun Γ p hΓ hc => by rw [Sem.wp_attempt]; exact h Γ p hΓ hc
theorem wpQ_standAt {pos : Pos} {Q : Unit → Shared → Prop} (h : Q () s) : wpQ M A (standAt pos) Q E s := fun _ _ _ _ => h
theorem wpQ_run {c : Code} {h : Option Value} {Q : Flow → Shared → Prop}
    (hc : codeQ M (A.mark h) c (fun r s' => match r with | .ok f => Q f s' | .error e => E e s') s) (hnb : h ≠ some byPass := by intro x; cases x) :
    wpQ M A (run c h) Q E s :=
  fun Γ p hΓ hcl => by rw [Sem.wp_run]; exact hc _ p rfl (hΓ.enter c h p hnb) (hcl.2.cons hcl.1)
theorem wpQ_runValue {c : Code} {Q : Value → Shared → Prop}
    (hc : codeQ M A c (fun r s' => match r with | .ok (.ret v) => Q v s' | .ok _ => False | .error e => E e s') s) :
    wpQ M A (runValue c) Q E s := fun Γ p hΓ hcl => by rw [Sem.wp_runValue]; exact hc _ p rfl (hΓ.enter c none p (by intro x; cases x)) (hcl.2.cons hcl.1)
theorem wpQ_call {f : Value} {pos : List Value} {kw : List (Str × Value)} {Q : Value → Shared → Prop}
    (hc : codeQ M A (.call f ⟨pos, kw⟩) (fun r s' => match r with | .ok (.ret v) => Q v s' | .ok _ => False | .error e => E e s') s) :
    wpQ M A (PySem.call f pos kw) Q E s := wpQ_runValue hc
/-- a code's own tree, in a clean context -/
theorem codeQ_of_tree {c : Code} {R : Result → Shared → Prop} (hcc : cleanCode c = true)
    (h : wpQ M (A.under c) (M.den c) (fun fin s' => match fin with | .done f => R (.ok f) s' | .again c' => c'.quiet = true ∧ codeQ M A c' R s')
      (fun e s' => R (.error e) s') s) : codeQ M A c R s := fun Γ p hc hΓ hl => by
  rw [wpCode_iff_wp, hc]
  refine Sem.wp_mono M Γ _ (fun fin p' s' h' => ?_) (fun _ _ _ h' => h') p s (h Γ p (hc ▸ hΓ.in) ⟨hc ▸ hcc, hl⟩)
  cases fin with
  | done f => exact h'
  | again c' => exact ⟨h'.1, h'.2 (Γ.goto c') p' rfl (hΓ.goto c') hl⟩
end

theorem wpQ_exported {M : Model} {A : Around} {E : Value → Shared → Prop} {s : Shared} {self : Value} {Q : Bool → Shared → Prop} (h : Q false s) : wpQ M A (Builtin.Bytes.exported self) Q E s := fun Γ p hΓ hc => by
  unfold Builtin.Bytes.exported
  show Sem.wp M Γ (stack >>= fun l => pure (l.any _)) _ _ p s
  rw [Sem.wp_bind']
  show Q (((Γ.code, p) :: Γ.below).any _) s
  have hl : CleanL ((Γ.code, p) :: Γ.below) := hc.2.cons hc.1
  revert hl
  generalize ((Γ.code, p) :: Γ.below) = l
  intro hl
  rw [List.any_eq_false.mpr fun x hx => ?_]
  · exact h
  · have hc' := hl x hx
    unfold cleanCode at hc'
    split <;> simp_all
end Br
end
-- BrHead
section
open PySem PySem.W PySem.Calls PyProof.Rows
set_option Elab.async false
set_option maxRecDepth 100000
namespace Br

/-! ## the head, over clean contexts: the caller's context is one -/
abbrev callerCtx : Ctx := ⟨.builtin "claim.caller" {}, none, none, [], none⟩
theorem caller_clean : Clean callerCtx := ⟨by decide +kernel, fun _ hx => nomatch hx⟩

theorem ends_at {prog : Program} {w : World} {t : Sem Fin} {s : Shared} {R : Result → Shared → Prop} (hz : s.asleep)
    (h : wpQ (model prog w) callerA t (fun fin s' => ∃ f, fin = .done f ∧ (R (.ok f) s' ∧ leftWithCleanup s'.gens = false)) (fun e s' => R (.error e) s' ∧ leftWithCleanup s'.gens = false) s) :
    ∃ n r s' s'', schedN (denote table) prog w n (.single s ⟨t, .builtin "claim.caller" {}, default, []⟩) = .halted (outcomeOf r) s'' ∧
      runN (denote table) prog w n s ⟨t, .builtin "claim.caller" {}, default, []⟩ = .halted (outcomeOf r) s'' ∧ s''.forget = s'.forget ∧ R r s' :=
  wp_halts_full (M := model prog w) (R := R) hz (Sem.wp_mono (model prog w) callerCtx t (fun fin _ _ ⟨f, e, k⟩ => by subst e; exact k) (fun _ _ _ k => k) default s (h callerCtx default caller_in caller_clean))

/-- the tables of code objects of the two defs that hold a generator expression -/
def tabObj : Obj := { cls := .none, data := .fields #[] }
def tabsSeen (s : Shared) : List (Option Obj) := [s.heap.get? 320, s.heap.get? 330]
def tabsAre : List (Option Obj) := [some tabObj, some tabObj]

abbrev WalkQ (q : Program) (loose : List Str) (XP : (Str → Option Value) → Heap → Prop) (YP : World → Heap → Prop) (r : RowW) (d : DefRec) (kwd : List (Str × Expr)) : Prop :=
  ∀ (w : World) (s₀ s₁ : Shared) (mg mb : Str → Option Value), Ground q loose r.records XP w s₀ mg mb s₁.heap → YP w s₁.heap → s₁.heap.get? 320 = some tabObj → s₁.heap.get? 330 = some tabObj → ∀ (a : Addr) (o : Obj) (pm cd doc dV kV : Value), s₁.heap.get? a = some o →
    o.data = .func { docDef d.name d.params d.body d.scope pm cd doc with defaults := dV, kwdefaults := kV } → s₁.heap.CodeRec cd d.name → Dflts mg s₁.heap d.params kwd dV kV → mg d.name = some (.ref a) → s₁.gens = #[] →
    ∀ (args : List WData) (vals : List Value) (as : List Addr), r.claim.pre args = true → WData.layableAll args = true → ReadsAllW r.records (classAt s₀.heap) s₁.heap vals args as → WellAll w.params s₁.heap vals args → (∀ a ∈ as, (a == sysModules) = false) →
      wpQ (model r.prog w) callerA (PySem.call (.ref a) vals) (fun v s' => GoodWG r.claim (classAt s₀.heap) (ExcName.means s₀.heap) args s₁ (.ok (.ret v)) s')
        (fun e s' => GoodWG r.claim (classAt s₀.heap) (ExcName.means s₀.heap) args s₁ (.error e) s') s₁

theorem PySem.W.holds_open {r : OpenRow} {q : Program} {loose : List Str} {Xt : Shared → Bool} {XP : (Str → Option Value) → Heap → Prop} {α : Type} {Yf : Shared → α} {Ya : World → α} {YP : World → Heap → Prop} {d : DefRec} {kwd : List (Str × Expr)} {N : Nat}
    (left : LeftO r.prog q loose Xt (fun s => (Yf s, tabsSeen s)) (fun w => (Ya w, tabsAre)) N) (hY : ∀ w s, Yf s = Ya w → YP w s.heap) (hYk : ∀ w h h', YP w h → (∀ b o, h.get? b = some o → h'.get? b = some o) → YP w h')
    (hX : ∀ s, Xt s = true → XP (s.heap.nsMap mainGlobals) s.heap) (hXk : ∀ mg h h', XP mg h → (∀ b o, h.get? b = some o → h'.get? b = some o) → XP mg h')
    (hdef : defOf q r.name = some (d, kwd)) (hp : r.prog.theDef r.name = some (d.params, d.body, d.scope)) (hk : kwWritten? d.params.kwonlyargs d.params.kw_defaults = some kwd) (hRf : ∀ s, Xt s = true → RecFacts r.records s.heap) (hwr : (!r.writes || r.records.isEmpty) = true)
    (k1 : r.wellSaid = true) (ok : (chainsOk q && opensWell r.prog && (frees r.toRowW && r.within.isEmpty)) = true) (hb : r.prog.bare) (hw : r.toRowW.promised)
    (call : WalkQ q loose XP YP r.toRowW d kwd) : r.Holds := by
  simp only [Bool.and_eq_true] at ok
  obtain ⟨⟨chains, opens⟩, free, within⟩ := ok
  obtain ⟨same, hu, ha, hap, makers⟩ := frees_parts free
  have ident : ∀ a b, r.claim.ident a b = true := fun _ _ => ident_freeW hu ha hap _ _
  have within' : r.claim.within = [] := List.isEmpty_iff.mp within
  refine ⟨k1, hw, ⟨hb, opens, by show r.makers.map _ = []; rw [makers]; rfl⟩, hw.witness, fun w => ?_⟩
  have both := left.behind (XP := fun mg h => XP mg h ∧ RecFacts r.records h) (fun s hs => ⟨hX s hs, hRf s hs⟩) chains w
  refine ⟨both.1, fun sO hO => ?_⟩
  obtain ⟨sF, hF, gF, sT, ran, sleeps, gT, nsT, G₀, y⟩ := both.2 sO hO
  obtain ⟨xp, rec⟩ := G₀.X
  have G₁ : Ground q loose [] XP w sT (sT.heap.nsMap mainGlobals) (sT.heap.nsMap builtinsNs) sT.heap :=
    { T := G₀.T, B := G₀.B, D := G₀.D, TE := G₀.TE, TD := G₀.TD, W := G₀.W, X := xp, cls := G₀.cls, has := G₀.has, apart := G₀.apart, once := G₀.once, K := G₀.K }
  have noGens : sT.gens = #[] := Array.eq_empty_of_size_eq_zero (beq_iff_eq.mp gT)
  have G : Ground q loose r.records XP w sT _ _ sT.heap := rec.ground G₁
  refine ⟨sF, hF, gF, sT, ran, fun n hn => ?_, rec.1, rec.2.1, fun args hpre hlay ord hord => ?_⟩
  · obtain rfl : n = r.name := by split at hn <;> simp_all
    exact pinned_of_view nsT G₁ hdef hp hk
  obtain ⟨⟨vs, sL⟩, laid⟩ := Option.isSome_iff_exists.mp (layAllW_isSome (P := w.params) (ord := ord) G.has args r.args sT (pre_splitW hpre).1)
  have keeps := layAllW_keeps _ _ _ laid
  have rest := layAllW_rest _ _ _ laid
  obtain ⟨as, reads, inn, old⟩ := reads_layAllW hord _ _ _ laid hlay sL.heap (fun _ _ e => e)
  have L : Laid r.records w sT sL args vs as := ⟨⟨ord, hord, laid⟩, reads, inn, old, keeps, rest.1.trans noGens, rest.2.2.1⟩
  have GL := G.keeps hXk keeps
  obtain ⟨a, o, pm, cd, doc, dV, kV, h1, h2, h3, h4, h5⟩ := GL.fn hdef
  have hn : r.name = d.name := (defOf_name hdef).symm
  have walk := call w sT sL _ _ GL (hYk _ _ _ (hY w sT (congrArg Prod.fst y)) keeps) (keeps _ _ (congrArg (fun x => (x.2.getD 0 none)) y)) (keeps _ _ (congrArg (fun x => (x.2.getD 1 none)) y)) a o pm cd doc dV kV h2 h3 h4 h5 (hn ▸ h1) L.gens args vs as hpre hlay L.reads L.well (L.low G.low)
  have ends : ∀ res s', GoodWG r.claim (classAt sT.heap) (ExcName.means sT.heap) args sL res s' →
      (r.claim.Ends sT args vs sL res s' ∧ s'.os = sT.os ∧ (r.writes = true → namesKept r.prog r.keeps sT.heap s'.heap ∧ ∀ x ∈ r.records, ∀ b, classAt sT.heap x.1 = some b → recordClass s'.heap b x.1 (x.2.map (·.1)) = true)) ∧ leftWithCleanup s'.gens = false := fun res s' g => by
    obtain ⟨e1, e2, e3⟩ := g.laid (c := r.claim) same within' ident L
    exact ⟨⟨e1, e2, fun wr => ⟨namesKept_of ran nsT r.keeps keeps g.2.1.old, noTable hwr wr⟩⟩, leftWithCleanup_false_of_bare e3⟩
  obtain ⟨n, res, s', s'', sched, run, forget, cases', os, kept⟩ := ends_at (R := fun res s' => r.claim.Ends sT args vs sL res s' ∧ s'.os = sT.os ∧ (r.writes = true → namesKept r.prog r.keeps sT.heap s'.heap ∧ ∀ x ∈ r.records, ∀ b, classAt sT.heap x.1 = some b → recordClass s'.heap b x.1 (x.2.map (·.1)) = true)) (t := do match ← nsGet mainNs r.name with
      | some f => do ret (← PySem.call f vs)
      | none => unsupported "claim.caller:no-such-global") (prog := r.prog) (w := w) (s := sL) (Shared.asleep_of_life rest.2.2.2 sleeps) (wpQ_andThen (wpAny_nsGet GL.T.g (by
      rw [h1]
      exact wpQ_bind (wpQ_mono walk (fun v s' g => wpQ_pure ⟨.ret v, rfl, ends (.ok (.ret v)) s' g⟩) fun e s' g => ends (.error e) s' g))))
  obtain ⟨eh, _, _, eo, _⟩ := Shared.forget_eq forget
  have cases' := cases'.congr eh
  have life : s''.heap.life = sT.heap.life := (runN_life _ _ _ run).trans rest.2.2.2
  refine ⟨vs, sL, laid, n, _, s'', sched, ?_, (fun _ i x hx => by rw [noGens] at hx; simp at hx), (by show r.writes = true → _; rw [eh]; exact kept), by rw [life], Shared.rest_eq (eo.trans os)⟩
  rcases cases' with ⟨v, rfl, d1, d2, d3, d4, d5⟩ | ⟨e, ob, cls, rfl, d1, d2, d3, d4, d5⟩
  · exact .inl ⟨v, rfl, d1, d2, d3, fun b o y _ => d4 b o y, d5⟩
  · exact .inr ⟨e, ob, cls, rfl, d1, d2, d3, d4, fun b o y _ => d5 b o y⟩
set_option maxHeartbeats 8000000
open_top hd for PySem.Challenge.rw_br5013_01
end Br
end
-- BrFn
section
open PySem PySem.W PySem.Calls PyProof.Rows
set_option Elab.async false
set_option maxRecDepth 100000
set_option linter.unusedVariables false
namespace Br

/-! ## what a call leaves as it was -/
abbrev frs (l : List Env) : List Addr := l.filterMap (·.frame)
def isTab (a : Addr) : Prop := a = 320 ∨ a = 330
abbrev tabO (ps : Array Value) : Obj := { cls := .none, data := .fields ps }
structure Tabs (h : Heap) : Prop where
  one : ∃ ps, h.get? 320 = some (tabO ps) ∧ TriplesOk ps.toList
  many : ∃ ps, h.get? 330 = some (tabO ps) ∧ TriplesOk ps.toList

structure Cx (n : Nat) (b : Heap) (A : Around) (outer : List Env) (h : Heap) : Prop where
  fr : A.frames = some outer
  ff : h.FunFrames b outer
  di : ∀ a ∈ frs outer, ∃ o es n, h.get? a = some o ∧ o.data = .dict es n
  st : b.StaysIn h
  tb : Tabs h
  dp : A.depth + n < recursionLimit
  un : A.units + 20 * n + 100 < cLine
  hd : A.handled = none

structure Af (outer : List Env) (h h' : Heap) : Prop where
  keep : ∀ a o, h.get? a = some o → a ∉ frs outer → ¬ isTab a → h'.get? a = some o
  slots : h.UpToSlots h'
  tb : Tabs h'

theorem Af.refl {outer : List Env} {h : Heap} (T : Tabs h) : Af outer h h := ⟨fun _ _ e _ _ => e, .refl h, T⟩
theorem Af.trans {outer : List Env} {h h₁ h₂ : Heap} (x : Af outer h h₁) (y : Af outer h₁ h₂) : Af outer h h₂ :=
  ⟨fun a o e n t => y.keep a o (x.keep a o e n t) n t, x.slots.trans y.slots, y.tb⟩
theorem Tabs.keeps {h h' : Heap} (T : Tabs h) (k : ∀ b o, h.get? b = some o → h'.get? b = some o) : Tabs h' :=
  ⟨let ⟨ps, e, t⟩ := T.one; ⟨ps, k _ _ e, t⟩, let ⟨ps, e, t⟩ := T.many; ⟨ps, k _ _ e, t⟩⟩
theorem Af.of_keeps {outer : List Env} {h h' : Heap} (T : Tabs h) (k : ∀ b o, h.get? b = some o → h'.get? b = some o) : Af outer h h' :=
  ⟨fun a o e _ _ => k a o e, .of_keeps k, T.keeps k⟩

theorem tab_fields {h : Heap} (T : Tabs h) {a : Addr} (t : isTab a) : ∃ ps, h.get? a = some (tabO ps) := by
  rcases t with rfl | rfl
  · obtain ⟨ps, e, _⟩ := T.one; exact ⟨ps, e⟩
  · obtain ⟨ps, e, _⟩ := T.many; exact ⟨ps, e⟩

/-- an object that is no dict and has a class is none of the frames, no table -/
theorem Af.get {n : Nat} {b : Heap} {A : Around} {outer : List Env} {h h' : Heap} (x : Af outer h h') (C : Cx n b A outer h) {a : Addr} {o : Obj} (e : h.get? a = some o) (hd : ∀ es k, o.data ≠ .dict es k) (hc : o.cls ≠ .none) : h'.get? a = some o := by
  refine x.keep a o e (fun m => ?_) fun t => ?_
  · obtain ⟨o', es, k, e', d⟩ := C.di a m
    rw [e] at e'; cases e'
    exact hd es k d
  · obtain ⟨ps, e'⟩ := tab_fields C.tb t
    rw [e] at e'; cases e'
    exact hc rfl

theorem Cx.af {n : Nat} {b : Heap} {A : Around} {outer : List Env} {h h' : Heap} (C : Cx n b A outer h) (bt : ∀ a, isTab a → b.get? a = none) (x : Af outer h h') : Cx n b A outer h' where
  fr := C.fr
  ff := C.ff.of_keeps fun a o e d => let ⟨_, e'⟩ := x.slots a o e d; ⟨_, e', rfl⟩
  di := fun a m => let ⟨o, es, k, e, d⟩ := C.di a m; let ⟨_, e'⟩ := x.slots a o e (fun vs q => by rw [d] at q; cases q); ⟨_, es, k, e', d⟩
  st := fun a o e => x.keep a o (C.st a o e) (fun m => by rw [(C.ff.mem m).1] at e; cases e) (fun t => by rw [bt a t] at e; cases e)
  tb := x.tb
  dp := C.dp
  un := C.un
  hd := C.hd
theorem Cx.less {n m : Nat} {b : Heap} {A : Around} {outer : List Env} {h : Heap} (C : Cx n b A outer h) (hm : m ≤ n) : Cx m b A outer h :=
  ⟨C.fr, C.ff, C.di, C.st, C.tb, by have := C.dp; omega, by have := C.un; omega, C.hd⟩

/-! ## the ledger's tail: the frames below, the tables -/
structure LG (h₀ : Heap) (outer : List Env) (fl : List (Addr × Obj)) : Prop where
  fr : ∀ a ∈ frs outer, ∃ o sl es n, h₀.get? a = some o ∧ o.data = .dict es n ∧ (a, ({ o with slots := sl } : Obj)) ∈ fl
  one : ∃ ps, (320, tabO ps) ∈ fl ∧ TriplesOk ps.toList
  many : ∃ ps, (330, tabO ps) ∈ fl ∧ TriplesOk ps.toList

inductive Spl (fl : List (Addr × Obj)) : List (Addr × Obj) → List (Addr × Obj) → Prop where
  | nil : Spl fl fl []
  | cons {news loc} (p) : Spl fl news loc → Spl fl (p :: news) (p :: loc)
theorem Spl.eq {fl news loc : List (Addr × Obj)} (x : Spl fl news loc) : news = loc ++ fl := by
  induction x with
  | nil => rfl
  | cons p _ ih => rw [ih]; rfl
def NDs (l : List (Addr × Obj)) : Prop := ∀ p ∈ l, (∀ es k, p.2.data ≠ .dict es k) ∧ ∀ ps, p.2 ≠ tabO ps

/-- the base of a def's frame: the caller's heap without the frames below and the tables -/
abbrev under (h : Heap) (outer : List Env) : Heap := hideAll h (frs outer ++ [320, 330])
theorem under_get {h : Heap} {outer : List Env} {a : Addr} {o : Obj} (e : h.get? a = some o) (n : a ∉ frs outer) (t : ¬ isTab a) : (under h outer).get? a = some o :=
  hideAll_get _ e fun m => by
    rcases List.mem_append.mp m with m | m
    · exact n m
    · exact t (by simpa [isTab] using m)
theorem under_of {h : Heap} {outer : List Env} {a : Addr} {o : Obj} (e : (under h outer).get? a = some o) : h.get? a = some o ∧ a ∉ frs outer ∧ ¬ isTab a :=
  ⟨of_hideAll _ e, (fun m => by rw [hideAll_none _ (List.mem_append_left _ m)] at e; cases e), (fun t => by
    rw [hideAll_none _ (List.mem_append_right _ (by simpa [isTab] using t))] at e; cases e)⟩
theorem under_frame {h : Heap} {outer : List Env} {a : Addr} (m : a ∈ frs outer) : (under h outer).get? a = none := hideAll_none _ (List.mem_append_left _ m)
theorem under_tab {h : Heap} {outer : List Env} {a : Addr} (t : isTab a) : (under h outer).get? a = none := hideAll_none _ (List.mem_append_right _ (by simpa [isTab] using t))
theorem under_size {h : Heap} {outer : List Env} : (under h outer).objs.size = h.objs.size := hideAll_size _ _
theorem Cx.base {n : Nat} {b : Heap} {A : Around} {outer : List Env} {h : Heap} (C : Cx n b A outer h) (bt : ∀ a, isTab a → b.get? a = none) : b.StaysIn (under h outer) := fun a o e =>
  under_get (C.st a o e) (fun m => by rw [(C.ff.mem m).1] at e; cases e) (fun t => by rw [bt a t] at e; cases e)
/-- an object of the caller's, seen in the base -/
theorem Cx.sees {n : Nat} {b : Heap} {A : Around} {outer : List Env} {h : Heap} (C : Cx n b A outer h) {a : Addr} {o : Obj} (e : h.get? a = some o) (hd : ∀ es k, o.data ≠ .dict es k) (hc : o.cls ≠ .none) : (under h outer).get? a = some o := by
  refine under_get e (fun m => ?_) fun t => ?_
  · obtain ⟨o', es, k, e', d⟩ := C.di a m
    rw [e] at e'; cases e'
    exact hd es k d
  · obtain ⟨ps, e'⟩ := tab_fields C.tb t
    rw [e] at e'; cases e'
    exact hc rfl

section
variable {n : Nat} {b : Heap} {A : Around} {outer : List Env} {h g : Heap} {L : Addr} {m : Str → Option Value} {env : Env} {news loc fl : List (Addr × Obj)}

/-- inside a frame: the context of the calls that it makes -/
theorem Cx.push {h₀ : Heap} (C : Cx (n + 1) b A outer h₀) (bt : ∀ a, isTab a → b.get? a = none) (bg : b.StaysIn g) (F : Fr g L h m) (N : News g L h news) (S : Spl fl news loc) (G : LG h₀ outer fl) (hf : env.frame = some L) (hl : env.locals = L) (hk : env.scope.kind = .function) :
    Cx n b (A.deeper env) (env :: outer) h where
  fr := Around.frames_deeper C.fr
  ff := by
    have bL : b.get? L = none := by
      cases q : b.get? L with
      | none => rfl
      | some o => exact absurd (Nat.lt_of_lt_of_le (Heap.lt_size (bg _ _ q)) F.above) (Nat.lt_irrefl _)
    refine Heap.FunFrames.cons (by rw [hk]; decide) hf F.ns bL ?_
    have key : ∀ l : List Env, (∀ a ∈ frs l, a ∈ frs outer) → h₀.FunFrames b l → h.FunFrames b l := by
      intro l
      induction l with
      | nil => intros; trivial
      | cons e l ih =>
        rintro hm ⟨k1, ⟨a, o, h1, h2, h3, h4⟩, r⟩
        have ha : a ∈ frs (e :: l) := by simp [frs, h1]
        obtain ⟨o', sl, es, k, e1, e2, e3⟩ := G.fr a (hm a ha)
        rw [h3] at e1; cases e1
        refine ⟨k1, ⟨a, _, h1, h2, (N _ (S.eq ▸ List.mem_append_right _ e3)).1, fun vs q => ?_⟩, ih (fun c hc => hm c ?_) r⟩
        · rw [show ({ o with slots := sl } : Obj).data = o.data from rfl, e2] at q; cases q
        · simp only [frs, List.filterMap_cons, h1]; exact List.mem_cons_of_mem _ hc
    exact key outer (fun _ x => x) C.ff
  di := fun a ha => by
    simp only [frs, List.filterMap_cons, hf] at ha
    rcases List.mem_cons.mp ha with rfl | ha
    · obtain ⟨o, es, k, e, d, _⟩ := F.ns; exact ⟨o, es, k, e, d⟩
    · obtain ⟨o', sl, es, k, _, e2, e3⟩ := G.fr a ha
      exact ⟨({ o' with slots := sl } : Obj), es, k, (N _ (S.eq ▸ List.mem_append_right _ e3)).1, e2⟩
  st := fun a o e => F.keep a o (bg a o e)
  tb := ⟨let ⟨ps, e, t⟩ := G.one; ⟨ps, (N _ (S.eq ▸ List.mem_append_right _ e)).1, t⟩, let ⟨ps, e, t⟩ := G.many; ⟨ps, (N _ (S.eq ▸ List.mem_append_right _ e)).1, t⟩⟩
  dp := by have := C.dp; show A.depth + 1 + n < _; omega
  un := by have := C.un; show A.units + 3 + 20 * n + 100 < _; omega
  hd := C.hd

/-- behind a call: the frame, the ledger -/
theorem back_frame {h' : Heap} (F : Fr g L h m) (hf : env.frame = some L) (gf : ∀ a ∈ frs outer, g.get? a = none) (gt : ∀ a, isTab a → g.get? a = none) (x : Af (env :: outer) h h') : Fr g L h' m :=
  ⟨x.slots.ns F.ns, fun a o e => x.keep a o (F.keep a o e) (fun hm => by
    simp only [frs, List.filterMap_cons, hf] at hm
    rcases List.mem_cons.mp hm with rfl | hm
    · exact absurd (Nat.lt_of_lt_of_le (Heap.lt_size e) F.above) (Nat.lt_irrefl _)
    · rw [gf a hm] at e; cases e) (fun t => by rw [gt a t] at e; cases e), F.above⟩
theorem back_news {h₀ h' : Heap} (C : Cx n b A outer h₀) (F : Fr g L h m) (N : News g L h news) (S : Spl fl news loc) (G : LG h₀ outer fl) (nd : NDs loc) (hf : env.frame = some L) (gf : ∀ a ∈ frs outer, g.get? a = none) (gt : ∀ a, isTab a → g.get? a = none) (lo : ∀ a ∈ frs outer, a ≠ L)
    (x : Af (env :: outer) h h') : ∃ fl', LG h₀ outer fl' ∧ News g L h' (loc ++ fl') := by
  have mem : ∀ p, p ∈ loc ++ fl → p ∈ news := fun p hp => S.eq ▸ hp
  obtain ⟨ps1, t1, k1⟩ := x.tb.one
  obtain ⟨ps2, t2, k2⟩ := x.tb.many
  have sl : ∀ a ∈ frs outer, ∃ o sl es n, h₀.get? a = some o ∧ o.data = .dict es n ∧ h'.get? a = some ({ o with slots := sl } : Obj) := fun a ha => by
    obtain ⟨o, s1, es, k, e1, e2, e3⟩ := G.fr a ha
    obtain ⟨s2, e4⟩ := x.slots a _ (N _ (mem _ (List.mem_append_right _ e3))).1 (fun vs q => by rw [show ({ o with slots := s1 } : Obj).data = o.data from rfl, e2] at q; cases q)
    exact ⟨o, s2, es, k, e1, e2, e4⟩
  have L1 : L ≠ 320 ∧ L ≠ 330 := by
    obtain ⟨ps, e, _⟩ := G.one
    obtain ⟨qs, e', _⟩ := G.many
    exact ⟨fun z => (N _ (mem _ (List.mem_append_right _ e))).2.1 z.symm, fun z => (N _ (mem _ (List.mem_append_right _ e'))).2.1 z.symm⟩
  refine ⟨((frs outer).filterMap fun a => (h'.get? a).map fun o => (a, o)) ++ [(320, tabO ps1), (330, tabO ps2)], ⟨fun a ha => ?_, ⟨ps1, by simp, k1⟩, ⟨ps2, by simp, k2⟩⟩, fun p hp => ?_⟩
  · obtain ⟨o, s2, es, k, e1, e2, e4⟩ := sl a ha
    exact ⟨o, s2, es, k, e1, e2, List.mem_append_left _ (List.mem_filterMap.mpr ⟨a, ha, by rw [e4]; rfl⟩)⟩
  · rcases List.mem_append.mp hp with hp | hp
    · have N1 := N p (mem p (List.mem_append_left _ hp))
      refine ⟨x.keep _ _ N1.1 (fun hm => ?_) (fun t => ?_), N1.2⟩
      · simp only [frs, List.filterMap_cons, hf] at hm
        rcases List.mem_cons.mp hm with e | hm
        · exact N1.2.1 e
        · obtain ⟨o, s1, es, k, e1, e2, e3⟩ := G.fr p.1 hm
          have := (N _ (mem _ (List.mem_append_right _ e3))).1
          rw [N1.1] at this
          have e5 : p.2 = _ := Option.some.inj this
          exact (nd p hp).1 es k (by rw [e5]; exact e2)
      · rcases t with t | t
        · obtain ⟨ps, e, _⟩ := G.one
          have := (N _ (mem _ (List.mem_append_right _ e))).1
          rw [← t, N1.1] at this
          have e5 : p.2 = _ := Option.some.inj this
          exact (nd p hp).2 ps e5
        · obtain ⟨ps, e, _⟩ := G.many
          have := (N _ (mem _ (List.mem_append_right _ e))).1
          rw [← t, N1.1] at this
          have e5 : p.2 = _ := Option.some.inj this
          exact (nd p hp).2 ps e5
    · rcases List.mem_append.mp hp with hp | hp
      · obtain ⟨a, ha, hq⟩ := List.mem_filterMap.mp hp
        obtain ⟨o, s2, es, k, e1, e2, e4⟩ := sl a ha
        rw [e4] at hq
        cases hq
        exact ⟨e4, lo a ha, gf a ha⟩
      · rcases List.mem_cons.mp hp with rfl | hp
        · exact ⟨t1, fun z => L1.1 z.symm, gt _ (.inl rfl)⟩
        · rcases List.mem_cons.mp hp with rfl | hp
          · exact ⟨t2, fun z => L1.2 z.symm, gt _ (.inr rfl)⟩
          · cases hp

/-- at a def's end -/
theorem ends_af {h₀ h' : Heap} {L' : Addr} {m' : Str → Option Value} (F : Fr (under h₀ outer) L' h' m') (N : News (under h₀ outer) L' h' news) (S : Spl fl news loc) (G : LG h₀ outer fl) (Th : Tabs h₀) : Af outer h₀ h' := by
  have mem : ∀ p, p ∈ fl → p ∈ news := fun p hp => S.eq ▸ List.mem_append_right _ hp
  refine ⟨fun a o e n t => F.keep a o (under_get e n t), fun a o e d => ?_, ⟨let ⟨ps, e, t⟩ := G.one; ⟨ps, (N _ (mem _ e)).1, t⟩, let ⟨ps, e, t⟩ := G.many; ⟨ps, (N _ (mem _ e)).1, t⟩⟩⟩
  by_cases hm : a ∈ frs outer
  · obtain ⟨o', sl, es, k, e1, e2, e3⟩ := G.fr a hm
    rw [e] at e1; cases e1
    exact ⟨sl, (N _ (mem _ e3)).1⟩
  · by_cases t : isTab a
    · obtain ⟨ps, e'⟩ := tab_fields Th t
      rw [e] at e'; cases e'
      exact absurd rfl (d ps)
    · exact ⟨o.slots, F.keep a o (under_get e hm t)⟩
end
end Br
end
-- BrCall
section
open PySem PySem.W PySem.Calls PyProof.Rows
set_option Elab.async false
set_option maxRecDepth 100000
set_option linter.unusedVariables false
namespace Br
section
variable {prog : Program} {w : World} {n : Nat} {b : Heap} {A : Around} {outer : List Env} {s : Shared} {f : Addr} {K : Frag}
  {name qual : Str} {params : Arguments} {body : List Stmt} {scope : Scope} {dV kV doc pm cdv ct oc : Value} {an od : Option Addr} {osl : Array (Option Value)} {vs : List Value} {binds : List (Str × Value)}
  {Q E : Value → Shared → Prop}

theorem entry_led (C : Cx n b A outer s.heap) {h₁ : Heap} (hk : ∀ b o, s.heap.get? b = some o → h₁.get? b = some o) :
    ∃ fl, News (under s.heap outer) s.heap.objs.size h₁ fl ∧ LG s.heap outer fl := by
  obtain ⟨ps1, t1, k1⟩ := C.tb.one
  obtain ⟨ps2, t2, k2⟩ := C.tb.many
  refine ⟨((frs outer).filterMap fun a => (s.heap.get? a).map fun o => (a, o)) ++ [(320, tabO ps1), (330, tabO ps2)], fun p hp => ?_, ⟨fun a ha => ?_, ⟨ps1, by simp, k1⟩, ⟨ps2, by simp, k2⟩⟩⟩
  · have key : s.heap.get? p.1 = some p.2 ∧ (under s.heap outer).get? p.1 = none := by
      rcases List.mem_append.mp hp with hp | hp
      · obtain ⟨a, ha, hq⟩ := List.mem_filterMap.mp hp
        obtain ⟨o, es, k, e, _⟩ := C.di a ha
        rw [e] at hq; cases hq
        exact ⟨e, under_frame ha⟩
      · rcases List.mem_cons.mp hp with rfl | hp
        · exact ⟨t1, under_tab (.inl rfl)⟩
        · rcases List.mem_cons.mp hp with rfl | hp
          · exact ⟨t2, under_tab (.inr rfl)⟩
          · cases hp
    exact ⟨hk _ _ key.1, Nat.ne_of_lt (Heap.lt_size key.1), key.2⟩
  · obtain ⟨o, es, k, e, d⟩ := C.di a ha
    exact ⟨o, o.slots, es, k, e, d, List.mem_append_left _ (List.mem_filterMap.mpr ⟨a, ha, by rw [e]; rfl⟩)⟩

theorem enter_any (C : Cx n b A outer s.heap) (X : K.In b) (lim : b.NoLimit)
    (ho : K.lookup f = some ⟨oc, od, .func (fnX name qual params body scope [] dV kV doc pm an cdv ct), osl⟩) (hcd : codeIn K cdv qual = true)
    (hbind : BindsTo s (fnX name qual params body scope [] dV kV doc pm an cdv ct) ⟨vs, []⟩ binds)
    (hloc : ∀ y ∈ binds, scope.names.lookup y.1 = some .local) (hcell : ∀ x ∈ scope.names, x.2 ≠ .cell)
    (hco : scope.isCoroutine = false) (hgen : scope.isGenerator = false) (hk : scope.kind = .function)
    (h : ∀ L h₁ fl, Fr (under s.heap outer) L h₁ (fun y => binds.reverse.lookup y) → News (under s.heap outer) L h₁ fl → LG s.heap outer fl → s.heap.objs.size ≤ h₁.objs.size →
      wpAny (model prog w) (A.deeper (envX qual scope L f cdv [])) (execs body (envX qual scope L f cdv []))
        (fun fl s' => Q (match fl with | .ret v => v | _ => .none) s')
        (fun e s' => wpAny (model prog w) (A.deeper (envX qual scope L f cdv [])) (leaving (envX qual scope L f cdv []) e) (fun _ s'' => E e s'') (fun e' s'' => E e' s'') s')
        { s with heap := h₁, toks := s.toks + binds.length }) : wpAny (model prog w) A (PySem.call (.ref f) vs) Q E s := by
  have X' : K.In s.heap := X.keeps C.st
  have roo : A.depth < recursionLimit := by have := C.dp; omega
  refine wpAny_call (codeAny_call_def (fd := fnX name qual params body scope [] dV kV doc pm an cdv ct) (body := body) (binds := binds) roo (X' _ _ ho) rfl (lim.keeps C.st) (codeRec_of X' hcd) rfl hbind hcell hloc (fun h₁ hns hk₁ => ?_) hco hgen hk)
  obtain ⟨fl, N, G⟩ := entry_led C hk₁
  refine wpAny_mono (h s.heap.objs.size h₁ fl ⟨hns, fun a o e => hk₁ _ _ (of_hideAll _ e), Nat.le_of_eq under_size⟩ N G (Nat.le_of_lt hns.lt)) (fun fl s' q => q) fun e s' q => q

/-- a def's entry, in a clean context -/
theorem enter_Q (C : Cx n b A outer s.heap) (X : K.In b) (lim : b.NoLimit)
    (ho : K.lookup f = some ⟨oc, od, .func (fnX name qual params body scope [] dV kV doc pm an cdv ct), osl⟩) (hcd : codeIn K cdv qual = true)
    (hbind : BindsTo s (fnX name qual params body scope [] dV kV doc pm an cdv ct) ⟨vs, []⟩ binds)
    (hloc : ∀ y ∈ binds, scope.names.lookup y.1 = some .local) (hcell : ∀ x ∈ scope.names, x.2 ≠ .cell)
    (hco : scope.isCoroutine = false) (hgen : scope.isGenerator = false) (hk : scope.kind = .function)
    (h : ∀ L h₁ fl, Fr (under s.heap outer) L h₁ (fun y => binds.reverse.lookup y) → News (under s.heap outer) L h₁ fl → LG s.heap outer fl → s.heap.objs.size ≤ h₁.objs.size →
      wpQ (model prog w) (A.deeper (envX qual scope L f cdv [])) (execs body (envX qual scope L f cdv []))
        (fun fl s' => Q (match fl with | .ret v => v | _ => .none) s')
        (fun e s' => wpQ (model prog w) (A.deeper (envX qual scope L f cdv [])) (leaving (envX qual scope L f cdv []) e) (fun _ s'' => E e s'') (fun e' s'' => E e' s'') s')
        { s with heap := h₁, toks := s.toks + binds.length }) : wpQ (model prog w) A (PySem.call (.ref f) vs) Q E s := by
  have X' : K.In s.heap := X.keeps C.st
  have roo : A.depth < recursionLimit := by have := C.dp; omega
  have lim' : s.heap.NoLimit := lim.keeps C.st
  refine wpQ_call (codeQ_of_tree rfl ?_)
  show wpQ _ A.in1 (callAny (.ref f) ⟨vs, []⟩) _ _ s
  refine wpQ_of ?_
  simp only [callAny]
  refine wpAny_bind (wpAny_load (X' _ _ ho) ?_)
  obtain ⟨c, oc', vs', tq, hc, hoc, hdc, hq⟩ := codeRec_of X' hcd
  simp only [callFunction, hco, hgen, hc]
  refine wpAny_bind (m := field (.ref c) 1) (wpAny_field hoc hdc hq (wpAny_bind (wpAny_pure ?_)))
  have hb := hbind (model prog w) A.in1 (fun e s' => E e s') (fun bs s₁ => bs = binds ∧ s₁ = s) ⟨rfl, rfl⟩
  rw [hc] at hb
  refine wpAny_bind (wpAny_mono hb (fun bs s₁ e => ?_) fun _ _ x => x)
  obtain ⟨rfl, rfl⟩ := e
  refine wpAny_bind (wpAny_newFunctionEnv hcell hloc (fun h₁ hns hsb => ?_) hk)
  refine wpAny_bind (wpAny_enterFrame (lim'.fresh _ hsb) roo (wpAny_pure ⟨rfl, ?_⟩))
  have hk₁ : ∀ b o, s₁.heap.get? b = some o → h₁.get? b = some o := fun b o e => hsb.extBut b o (Nat.ne_of_lt (Heap.lt_size e)) (Heap.get?_push_of_some _ e)
  obtain ⟨fl, N, G⟩ := entry_led C hk₁
  have body' := h s₁.heap.objs.size h₁ fl ⟨hns, fun a o e => hk₁ _ _ (of_hideAll _ e), Nat.le_of_eq under_size⟩ N G (Nat.le_of_lt hns.lt)
  rw [hc] at body'
  refine codeQ_of_tree rfl ?_
  show wpQ _ (A.deeper _) (do point; match ← (execs body _).onRaise (leaving _) with | .ret v => ret v | _ => ret .none) _ _ _
  refine wpQ_andThen (wpAny_point (wpQ_bind (wpQ_onRaise (wpQ_mono body' (fun fl s' h' => ?_) fun e s' h' => h'))))
  cases fl <;> exact wpQ_pure h'

/-- a def's entry, some of its names captured -/
theorem enter_cells (C : Cx n b A outer s.heap) (X : K.In b) (lim : b.NoLimit)
    (ho : K.lookup f = some ⟨oc, od, .func (fnX name qual params body scope [] dV kV doc pm an cdv ct), osl⟩) (hcd : codeIn K cdv qual = true)
    (hbind : BindsTo s (fnX name qual params body scope [] dV kV doc pm an cdv ct) ⟨vs, []⟩ binds)
    (hkind : (binds.all fun y => scope.names.lookup y.1 == some .local || scope.names.lookup y.1 == some .cell) = true) (hnd : ((cellsFrom 0 scope.names []).map (·.1)).Nodup)
    (hco : scope.isCoroutine = false) (hgen : scope.isGenerator = false) (hk : scope.kind = .function)
    (h : ∀ L h₁ tk cells fl, Fr (under s.heap outer) L h₁ (bindL (envOfC qual scope L f cdv).kindOf binds fun _ => none) → News (under s.heap outer) L h₁ (cells ++ fl) →
      CellsAre (bindC (envOfC qual scope L f cdv).kindOf binds fun _ => none) (cellsFrom (L + 1) scope.names []) cells → LG s.heap outer fl →
      wpAny (model prog w) (A.deeper (envOfC qual scope L f cdv)) (execs body (envOfC qual scope L f cdv))
        (fun fl s' => Q (match fl with | .ret v => v | _ => .none) s')
        (fun e s' => wpAny (model prog w) (A.deeper (envOfC qual scope L f cdv)) (leaving (envOfC qual scope L f cdv) e) (fun _ s'' => E e s'') (fun e' s'' => E e' s'') s')
        { s with heap := h₁, toks := tk }) : wpAny (model prog w) A (PySem.call (.ref f) vs) Q E s := by
  have X' : K.In s.heap := X.keeps C.st
  have roo : A.depth < recursionLimit := by have := C.dp; omega
  refine wpAny_call (codeAny_call_function roo (X' _ _ ho) rfl hco hgen rfl (codeRec_of X' hcd) (hbind _ _ _ _ ?_))
  refine wpAny_newFunctionEnv_cells hk (kindsX hkind _) fun env' he s' x => ?_
  subst he
  refine ⟨(lim.keeps C.st).keeps x.toInCall.keep, codeAny_func ?_⟩
  obtain ⟨h₁, tk, rfl, _⟩ := x.done
  have hk₁ := x.toInCall.keep
  obtain ⟨cells, NC, Y⟩ := Cl.news (h₀ := s.heap) (Nat.le_refl _) fun n c hm => ⟨x.cell n c (lookup_of_mem_nodup (cellsFrom_names scope.names 0 (s.heap.objs.size + 1) [] [] rfl ▸ hnd) hm), x.above n c hm⟩
  obtain ⟨fl, N, G⟩ := entry_led C hk₁
  refine wpAny_mono (h s.heap.objs.size h₁ tk cells fl ⟨x.toInCall.ns, fun a o e => hk₁ _ _ (of_hideAll _ e), Nat.le_of_eq under_size⟩ (fun p hp => ?_) Y G) (fun fl s' q => q) fun e s' q => q
  rcases List.mem_append.mp hp with hp | hp
  · refine ⟨(NC p hp).1, (NC p hp).2.1, ?_⟩
    cases q : (under s.heap outer).get? p.1 with
    | none => rfl
    | some o => have := of_hideAll _ q; rw [(NC p hp).2.2] at this; cases this
  · exact N p hp
end
end Br
end
-- BrUse
section
open PySem PySem.W PySem.Calls PyProof.Rows
set_option Elab.async false
set_option maxRecDepth 100000
set_option linter.unusedVariables false
namespace Br
/-- an exception on its way, in the frames below -/
def Thrown (outer : List Env) (h₀ : Heap) (cls : Value) (vs : List Value) (e : Value) (h' : Heap) : Prop :=
  ∃ B ea t, e = .ref ea ∧ Heap.FlyingW B outer ea cls (.ref t) h' ∧ (∀ a o, h₀.get? a = some o → a ∉ frs outer → ¬ isTab a → B.get? a = some o) ∧ Tabs B ∧ B.get? t = none ∧ h'.TupAt t vs ∧ h₀.UpToSlots h'

theorem Thrown.af {outer : List Env} {h₀ h' : Heap} {cls e : Value} {vs : List Value} (x : Thrown outer h₀ cls vs e h') : Af outer h₀ h' := by
  obtain ⟨B, ea, t, _, fl, k, T, _, _, sl⟩ := x
  exact ⟨fun a o e n t => fl.1 a o (k a o e n t), sl, T.keeps fl.1⟩

abbrev AllBare (g : Array GenState) : Prop := ∀ x ∈ g, x.bare = true

section
variable {n : Nat} {b : Heap} {A : Around} {outer : List Env} {h₀ h : Heap} {L : Addr} {m : Str → Option Value} {env : Env} {news loc fl : List (Addr × Obj)} {M : Model} {s : Shared} {E : Value → Shared → Prop}

theorem kf (C : Cx (n + 1) b A outer h₀) (F : Fr (under h₀ outer) L h m) : h₀.objs.size ≤ L := under_size ▸ F.above
theorem lo_ (C : Cx (n + 1) b A outer h₀) (F : Fr (under h₀ outer) L h m) : ∀ a ∈ frs outer, a ≠ L := fun a ha e => by
  obtain ⟨o, es, k, q, _⟩ := C.di a ha
  have h1 := Heap.lt_size q
  have h2 : h₀.objs.size ≤ L := kf C F
  rw [e] at h1
  exact absurd (Nat.lt_of_lt_of_le h1 h2) (Nat.lt_irrefl _)
theorem tab_ne_L (F : Fr (under h₀ outer) L h m) (N : News (under h₀ outer) L h news) (S : Spl fl news loc) (G : LG h₀ outer fl) : ¬ isTab L := by
  rintro (t | t)
  · obtain ⟨ps, e, _⟩ := G.one
    exact (N _ (S.eq ▸ List.mem_append_right _ e)).2.1 t.symm
  · obtain ⟨ps, e, _⟩ := G.many
    exact (N _ (S.eq ▸ List.mem_append_right _ e)).2.1 t.symm

/-- an exception made in this frame leaves it -/
theorem leave_raise {e : Addr} {cls : Value} {vs : List Value} {Q : Unit → Shared → Prop} (C : Cx (n + 1) b A outer h₀) (bt : ∀ a, isTab a → b.get? a = none) (F : Fr (under h₀ outer) L h m) (N : News (under h₀ outer) L h news) (S : Spl fl news loc) (G : LG h₀ outer fl)
    (hf : env.frame = some L) (hl : env.locals = L) (hk : env.scope.kind = .function) (hx : Heap.MadeExcOf h s.heap e cls vs)
    (hQ : ∀ h', Thrown outer h₀ cls vs (.ref e) h' → Q () { s with heap := h' }) : wpAny M (A.deeper env) (leaving env (.ref e)) Q E s := by
  have C' := Cx.push C bt (C.base bt) F N S G hf hl hk
  have hin : ∀ env' ∈ (env :: outer), ∀ c, env'.frame = some c → c ∈ frs (env :: outer) := fun env' he c hb => List.mem_filterMap.mpr ⟨env', he, hb⟩
  have mL : L ∈ frs (env :: outer) := hin env (.head _) L hf
  refine wpAny_leaves_madeW (base := hideAll h (frs (env :: outer))) C'.fr hf (fun _ _ q => of_hideAll _ q) (funFrames_hide C'.ff hin) hx fun h' t x1 x2 x3 x4 => hQ h' ?_
  have nm : ∀ a, a ∉ frs outer → a ≠ L → a ∉ frs (env :: outer) := fun a h1 h2 hm => by
    simp only [frs, List.filterMap_cons, hf] at hm
    rcases List.mem_cons.mp hm with e | hm
    · exact h2 e
    · exact h1 hm
  have tabs : Tabs (hideAll h (frs (env :: outer))) := by
    obtain ⟨ps1, t1, k1⟩ := C'.tb.one
    obtain ⟨ps2, t2, k2⟩ := C'.tb.many
    have nf : ∀ a, isTab a → a ∉ frs (env :: outer) := fun a ta hm => by
      obtain ⟨o, es, k, q, d⟩ := C'.di a hm
      obtain ⟨ps, q'⟩ := tab_fields C'.tb ta
      rw [q] at q'; cases q'
      cases d
    exact ⟨⟨ps1, hideAll_get _ t1 (nf _ (.inl rfl)), k1⟩, ⟨ps2, hideAll_get _ t2 (nf _ (.inr rfl)), k2⟩⟩
  refine ⟨_, e, t, rfl, x1, fun a o q h1 h2 => hideAll_get _ (F.keep a o (under_get q h1 h2)) (nm a h1 fun z => ?_), tabs, x3, x2, fun a o q d => ?_⟩
  · have : h₀.objs.size ≤ L := kf C F
    exact absurd (Nat.lt_of_lt_of_le (z ▸ Heap.lt_size q) this) (Nat.lt_irrefl _)
  · have A1 : Af outer h₀ h := ends_af F N S G C.tb
    obtain ⟨s1, q1⟩ := A1.slots a o q d
    obtain ⟨s2, q2⟩ := x4 a _ (hx.keeps _ _ q1) d
    exact ⟨s2, q2⟩

/-- an exception that comes out of a call leaves this frame -/
theorem leave_on {e cls : Value} {vs : List Value} {Q : Unit → Shared → Prop} (C : Cx (n + 1) b A outer h₀) (bt : ∀ a, isTab a → b.get? a = none) (F : Fr (under h₀ outer) L h m) (N : News (under h₀ outer) L h news) (S : Spl fl news loc) (G : LG h₀ outer fl)
    (hf : env.frame = some L) (hl : env.locals = L) (hk : env.scope.kind = .function) (hx : Thrown (env :: outer) h cls vs e s.heap)
    (hQ : ∀ h', Thrown outer h₀ cls vs e h' → Q () { s with heap := h' }) : wpAny M (A.deeper env) (leaving env e) Q E s := by
  have C' := Cx.push C bt (C.base bt) F N S G hf hl hk
  obtain ⟨B, ea, t, rfl, fl', k, T, tn, tt, sl⟩ := hx
  refine wpAny_leaves_onW C'.fr hf fl' fun h' x1 x4 => hQ h' ?_
  refine ⟨B, ea, t, rfl, x1, fun a o q h1 h2 => k a o (F.keep a o (under_get q h1 h2)) (fun hm => ?_) h2, T, tn, tt.of_slots x4, fun a o q d => ?_⟩
  · simp only [frs, List.filterMap_cons, hf] at hm
    rcases List.mem_cons.mp hm with z | hm
    · have : h₀.objs.size ≤ L := kf C F
      exact absurd (Nat.lt_of_lt_of_le (z ▸ Heap.lt_size q) this) (Nat.lt_irrefl _)
    · exact h1 hm
  · have A1 : Af outer h₀ h := ends_af F N S G C.tb
    obtain ⟨s1, q1⟩ := A1.slots a o q d
    obtain ⟨s2, q2⟩ := sl a _ q1 d
    obtain ⟨s3, q3⟩ := x4 a _ q2 d
    exact ⟨s3, q3⟩

/-- behind a call: what the frame has -/
theorem behind {h' : Heap} (C : Cx (n + 1) b A outer h₀) (bt : ∀ a, isTab a → b.get? a = none) (F : Fr (under h₀ outer) L h m) (N : News (under h₀ outer) L h news) (S : Spl fl news loc) (G : LG h₀ outer fl) (nd : NDs loc)
    (hf : env.frame = some L) (x : Af (env :: outer) h h') : ∃ fl', Fr (under h₀ outer) L h' m ∧ News (under h₀ outer) L h' (loc ++ fl') ∧ LG h₀ outer fl' := by
  obtain ⟨fl', G', N'⟩ := back_news C F N S G nd hf (fun a ha => under_frame ha) (fun a ha => under_tab ha) (lo_ C F) x
  exact ⟨fl', back_frame F hf (fun a ha => under_frame ha) (fun a ha => under_tab ha) x, N', G'⟩
end
end Br
end
-- BrIt
section
open PySem PySem.W PySem.Calls PyProof.Rows
set_option Elab.async false
set_option maxRecDepth 100000
set_option linter.unusedVariables false
namespace Br
namespace FA
open Builtin
theorem slot_next : Slot "bytearray_iterator" "__next__" "bytearray_iterator.__next__" :=
  .of (owner := "bytearray_iterator") (n := "__next__") (by rw [typeLookup_type, builtinLookup_eq_fast]; kernel_rfl) (by decide +kernel) (by decide +kernel) (by decide +kernel)
    (by first | exact .inl (by decide +kernel) | exact .inr (by decide +kernel)) (by rw [isSubtype_type]; kernel_rfl)
theorem slot_self : Slot "bytearray_iterator" "__iter__" "bytearray_iterator.__iter__" :=
  .of (owner := "bytearray_iterator") (n := "__iter__") (by rw [typeLookup_type, builtinLookup_eq_fast]; kernel_rfl) (by decide +kernel) (by decide +kernel) (by decide +kernel)
    (by first | exact .inl (by decide +kernel) | exact .inr (by decide +kernel)) (by rw [isSubtype_type]; kernel_rfl)
theorem slot_iter : Slot "bytearray" "__iter__" "bytearray.__iter__" :=
  .of (owner := "bytearray") (n := "__iter__") (by rw [typeLookup_type, builtinLookup_eq_fast]; kernel_rfl) (by decide +kernel) (by decide +kernel) (by decide +kernel)
    (by first | exact .inl (by decide +kernel) | exact .inr (by decide +kernel)) (by rw [isSubtype_type]; kernel_rfl)
theorem entry_next : entryFor table "bytearray_iterator.__next__" = some Builtin.«bytearray_iterator.__next__» := by first | exact entryFor_of_fast (by kernel_rfl) | exact entryFor_of_tree (by kernel_rfl)
theorem entry_self : entryFor table "bytearray_iterator.__iter__" = some Builtin.«dict_keyiterator.__iter__» := entryFor_alias (id' := "dict_keyiterator.__iter__") (by kernel_rfl) rfl (by decide +kernel) (by kernel_rfl)
theorem entry_iter : entryFor table "bytearray.__iter__" = some Builtin.«bytearray.__iter__» := by first | exact entryFor_of_fast (by kernel_rfl) | exact entryFor_of_tree (by kernel_rfl)
theorem args_next (a : Value) : argsOk "bytearray_iterator.__next__" ⟨[a], []⟩ := by unfold argsOk; kernel_rfl
theorem args_self (a : Value) : argsOk "bytearray_iterator.__iter__" ⟨[a], []⟩ := by unfold argsOk; kernel_rfl
theorem args_iter (a : Value) : argsOk "bytearray.__iter__" ⟨[a], []⟩ := by unfold argsOk; kernel_rfl
end FA

/-- a bytearray object -/
def IsBA (h : Heap) (a : Addr) (bs : Array UInt8) : Prop := ∃ o x, h.get? a = some o ∧ o.cls = .type "bytearray" ∧ o.data = .bytearray bs x ∧ o.dict = none
theorem IsBA.keeps {h h' : Heap} {a : Addr} {bs : Array UInt8} (x : IsBA h a bs) (k : ∀ b o, h.get? b = some o → h'.get? b = some o) : IsBA h' a bs := let ⟨o, n, e, r⟩ := x; ⟨o, n, k _ _ e, r⟩
theorem IsBA.typeIs {s : Shared} {a : Addr} {bs : Array UInt8} (x : IsBA s.heap a bs) : s.TypeIs (.ref a) "bytearray" := let ⟨o, _, e, c, _⟩ := x; ⟨o, e, c⟩
/-- what a reader takes: bytes, a bytearray -/
def DataAt (h : Heap) (v : Value) (bs : Array UInt8) (soft : Bool) : Prop := match soft with
  | false => ∃ t, v = .bytes bs t
  | true => ∃ a, v = .ref a ∧ IsBA h a bs
theorem DataAt.keeps {h h' : Heap} {v : Value} {bs : Array UInt8} {soft : Bool} (x : DataAt h v bs soft) (k : ∀ b o, h.get? b = some o → h'.get? b = some o) : DataAt h' v bs soft := by
  cases soft with
  | false => exact x
  | true => obtain ⟨a, e, y⟩ := x; exact ⟨a, e, y.keeps k⟩

def IsBAIter (h : Heap) (it a : Addr) (i : Nat) : Prop := ∃ o, h.get? it = some o ∧ o.cls = .type "bytearray_iterator" ∧ o.data = .fields #[.ref a, .int i 0]
theorem iter_typeIs {s : Shared} {it a : Addr} {i : Nat} (y : IsBAIter s.heap it a i) : s.TypeIs (.ref it) "bytearray_iterator" :=
  let ⟨o, ho, hc, _⟩ := y; ⟨o, ho, hc⟩
theorem IsBA.ext {h h' : Heap} {a c : Addr} {bs : Array UInt8} (x : IsBA h a bs) (k : Heap.ExtBut c h h') (n : a ≠ c) : IsBA h' a bs := let ⟨o, m, e, r⟩ := x; ⟨o, m, k _ _ n e, r⟩

section
variable {prog : Program} {w : World} {A : Around} {E : Value → Shared → Prop} {s : Shared} {bs : Array UInt8} {a : Addr}
theorem pyIter_ba {Q : Value → Shared → Prop} (hB : IsBA s.heap a bs) (hQ : Q (.ref s.heap.objs.size) { s with heap := s.heap.push { cls := .type "bytearray_iterator", data := .fields #[.ref a, .int 0 0] } }) : wpAny (model prog w) A (pyIter (.ref a)) Q E s := by
  refine wpAny_pyIter_slot hB.typeIs FA.slot_iter (wpAny_call_entry FA.slot_iter hB.typeIs FA.entry_iter ?_ (FA.args_iter _))
  show wpAny _ _ (do ret (← newFields "bytearray_iterator" [.ref a, rawInt 0])) _ _ s
  exact wpAny_bind (wpAny_newObj_type (wpAny_pure ⟨_, rfl, "bytearray_iterator", _, ⟨_, Heap.get?_push_size _ rfl, rfl⟩, FA.slot_next.lookup, hQ⟩))
theorem pyIter_baself {it : Addr} {i : Nat} {Q : Value → Shared → Prop} (hit : IsBAIter s.heap it a i) (h : Q (.ref it) s) : wpAny (model prog w) A (pyIter (.ref it)) Q E s := by
  refine wpAny_pyIter_slot (iter_typeIs hit) FA.slot_self (wpAny_call_entry FA.slot_self (iter_typeIs hit) FA.entry_self ?_ (FA.args_self _))
  show wpAny _ _ (ret (.ref it)) _ _ s
  exact wpAny_pure ⟨_, rfl, "bytearray_iterator", _, iter_typeIs hit, FA.slot_next.lookup, h⟩
theorem next_ba {it : Addr} {i : Nat} {c : UInt8} {Q : Option Value → Shared → Prop} (hit : IsBAIter s.heap it a i) (hB : IsBA s.heap a bs) (hx : bs[i]? = some c)
    (hQ : ∀ h', IsBAIter h' it a (i + 1) → Heap.SameBut it s.heap h' → Q (some (.int (c.toNat : Int) s.toks)) { s with heap := h', toks := s.toks + 1 }) : wpAny (model prog w) A (pyNext (.ref it)) Q E s := by
  obtain ⟨o, ho, hc, hd⟩ := id hit
  obtain ⟨oa, x, hoa, _, hda, _⟩ := id hB
  unfold pyNext
  refine wpAny_bind (wpAny_attempt (wpAny_callSpecial?_slot (name := PySem.Str.ofString "__next__") (iter_typeIs hit) FA.slot_next
    (wpAny_call_entry FA.slot_next (iter_typeIs hit) FA.entry_next ?_ (FA.args_next _))))
  show wpAny _ _ (field (.ref it) 0 >>= _) _ _ s
  refine wpAny_bind (wpAny_field ho hd (x := .ref a) rfl ?_)
  show wpAny _ _ (load a >>= _) _ _ s
  refine wpAny_bind (wpAny_load hoa ?_)
  rw [hda]
  show wpAny _ _ (field (.ref it) 1 >>= _) _ _ s
  refine wpAny_bind (wpAny_field ho hd (x := .int i 0) rfl ?_)
  simp only [Int.toNat_natCast, hx]
  refine wpAny_bind (wpAny_setField ho hd (by simp) (wpAny_bind (wpAny_mkInt (wpAny_pure ⟨_, rfl, wpAny_pure (hQ _ ?_ (Heap.SameBut.update ..))⟩))))
  exact ⟨_, Heap.get?_update_self _ ho (Obj.isFreed_of_fields (Obj.data_mapFields hd _)), (Obj.cls_mapFields ..).trans hc, by
    rw [Obj.data_mapFields hd]; simp [rawInt]⟩
theorem next_baend {it : Addr} {i : Nat} {Q : Option Value → Shared → Prop} (hh : A.handled = none) (hit : IsBAIter s.heap it a i) (hB : IsBA s.heap a bs) (hx : bs[i]? = none)
    (hQ : ∀ h', Heap.ExtBut it s.heap h' → Q none { s with heap := h' }) : wpAny (model prog w) A (pyNext (.ref it)) Q E s := by
  obtain ⟨o, ho, hc, hd⟩ := id hit
  obtain ⟨oa, x, hoa, _, hda, _⟩ := id hB
  unfold pyNext
  refine wpAny_bind (wpAny_attempt (wpAny_callSpecial?_slot (name := PySem.Str.ofString "__next__") (iter_typeIs hit) FA.slot_next
    (wpAny_call_entry FA.slot_next (iter_typeIs hit) FA.entry_next ?_ (FA.args_next _))))
  show wpAny _ _ (field (.ref it) 0 >>= _) _ _ s
  refine wpAny_bind (wpAny_field ho hd (x := .ref a) rfl ?_)
  show wpAny _ _ (load a >>= _) _ _ s
  refine wpAny_bind (wpAny_load hoa ?_)
  rw [hda]
  show wpAny _ _ (field (.ref it) 1 >>= _) _ _ s
  refine wpAny_bind (wpAny_field ho hd (x := .int i 0) rfl ?_)
  simp only [Int.toNat_natCast, hx]
  refine wpAny_bind (wpAny_rule (wpAny_bind (wpAny_setField ho hd (by simp) (wpAny_bind (wpAny_letGo ?_)))))
  show wpAny _ _ (newExc (.type "StopIteration") [] >>= _) _ _ _
  refine wpAny_bind ?_
  simp only [newExc, newTuple]
  refine wpAny_bind (wpAny_newObj_type ?_ (by size_fits))
  refine wpAny_bind (m := firstArgMember _ _) (wpAny_of_eq (a := Value.none) (by first | rfl | (simp only [firstArgMember]; rfl)) ?_)
  refine wpAny_newObj_type ?_ (by size_fits)
  simp only [raiseNew]
  refine wpAny_bind (wpAny_handled ?_)
  rw [show A.in1.handled = none from hh]
  refine wpAny_bind (wpAny_pure (wpAny_throw ?_))
  refine wpAny_bind (wpAny_isInstance (T := "StopIteration") (b := true) ⟨_, Heap.get?_push_size _ rfl, rfl⟩ isSubtype_stop ?_)
  exact wpAny_pure (hQ _ (((Heap.SameBut.update ..).extBut.push _).push _))
end

theorem walks_ba {prog : Program} {w : World} {A : Around} (hh : A.handled = none) (I a : Addr) (hne : a ≠ I) (bs : Array UInt8) :
    Walks prog w A I [I, a] [I] bs.size (fun i v => ∃ c u, bs[i]? = some c ∧ v = .int (c.toNat : Int) u) (fun i h => IsBAIter h I a i ∧ IsBA h a bs) where
  sub := fun b hb => by simp at hb; simp [hb]
  frame := fun _ _ _ st hk => ⟨let ⟨o, ho, r⟩ := st.1; ⟨o, hk I (by simp) o ho, r⟩, let ⟨o, x, ho, r⟩ := st.2; ⟨o, x, hk a (by simp) o ho, r⟩⟩
  item := fun i s Q E hi st hQ => by
    refine next_ba st.1 st.2 (c := bs[i]) (by simp [hi]) fun h' hit' hs' => ?_
    exact hQ _ h' (s.toks + 1) ⟨_, _, by simp [hi], rfl⟩ ⟨hit', st.2.ext hs'.extBut hne⟩ fun b o hb e => hs'.extBut b o (fun h => hb (by simp [h])) e
  done := fun s Q E st hQ => next_baend hh st.1 st.2 (by simp) fun h' he' => hQ h' s.toks fun b o hb e => he' b o (fun h => hb (by simp [h])) e
  self := fun _ _ _ _ st hQ => pyIter_baself st.1 hQ

/-- an iterator over the octets, of either kind -/
theorem iter_data {prog : Program} {w : World} {A : Around} {E : Value → Shared → Prop} {s : Shared} {v : Value} {bs : Array UInt8} {soft : Bool} {Q : Value → Shared → Prop} (hh : A.handled = none) (D : DataAt s.heap v bs soft)
    (h : ∀ (o : Obj) (fp : List Addr) (St : Nat → Heap → Prop), Walks prog w A s.heap.objs.size (s.heap.objs.size :: fp) [s.heap.objs.size] bs.size (fun i v => ∃ c u, bs[i]? = some c ∧ v = .int (c.toNat : Int) u) St →
      (∀ x ∈ fp, x < s.heap.objs.size) → St 0 (s.heap.push o) → Q (.ref s.heap.objs.size) { s with heap := s.heap.push o }) : wpAny (model prog w) A (pyIter v) Q E s := by
  cases soft with
  | false =>
    obtain ⟨t, rfl⟩ := D
    exact KBw.pyIter_bytes (h _ [] _ (KBw.walks hh _ bs t) (fun _ m => nomatch m) ⟨_, Heap.get?_push_size _ rfl, rfl, rfl⟩)
  | true =>
    obtain ⟨a, rfl, hB⟩ := D
    have lt : a < s.heap.objs.size := let ⟨_, _, e, _⟩ := hB; Heap.lt_size e
    exact pyIter_ba hB (h _ [a] _ (walks_ba hh _ a (Nat.ne_of_lt lt) bs) (fun x m => by simp at m; exact m ▸ lt) ⟨⟨_, Heap.get?_push_size _ rfl, rfl, rfl⟩, hB.keeps fun b o e => Heap.get?_push_of_some _ e⟩)
end Br
end
-- BrBy
section
open PySem PySem.W PySem.Calls PyProof.Rows
set_option Elab.async false
set_option maxRecDepth 100000
set_option linter.unusedVariables false
namespace Br
abbrev Kp (h h' : Heap) : Prop := ∀ b o, h.get? b = some o → h'.get? b = some o

section
variable {α : Type} {M : Model} {A : Around} {E : Value → Shared → Prop} {s : Shared}
theorem raiseWords {cls msg : String} {Q : α → Shared → Prop} (hp : PlainExc cls) (hh : A.handled = none)
    (h : ∀ h' tk e vs, Heap.MadeExcOf s.heap h' e (.type cls) vs → E (.ref e) { s with heap := h', toks := tk }) : wpAny M A (raiseErrorWords cls msg : Sem α) Q E s := by
  unfold raiseErrorWords
  refine wpAny_bind (wpAny_mkText (wpAny_bind ?_))
  unfold newExc newTuple
  refine wpAny_bind (wpAny_newObj_type ?_)
  refine wpAny_bind (m := firstArgMember _ _) (wpAny_of_eq (a := Value.none) (by simp only [firstArgMember, hp.first]; rfl) ?_)
  rw [hp.own]
  refine wpAny_newObj_type ?_
  unfold raiseNew
  refine wpAny_bind (wpAny_handled ?_)
  rw [hh]
  first
    | refine wpAny_throw ?_
    | refine wpAny_bind (wpAny_pure (wpAny_throw ?_))
  exact h _ _ _ _ ⟨fun b o hb => Heap.get?_push_of_some _ (Heap.get?_push_of_some _ hb), Heap.get?_none_of_le (by simp), s.heap.objs.size, Heap.get?_push_size _ rfl, Heap.get?_none_of_le (Nat.le_refl _), Heap.get?_push_of_some _ (Heap.get?_push_size _ rfl)⟩
theorem raiseMade {cls msg : String} {Q : α → Shared → Prop} (hp : PlainExc cls) (hh : A.handled = none)
    (h : ∀ h' tk e vs, Heap.MadeExcOf s.heap h' e (.type cls) vs → E (.ref e) { s with heap := h', toks := tk }) (hm : (msg : Str).length ≤ sizeLine := by size_fits) : wpAny M A (raiseErrorMade cls msg : Sem α) Q E s := by
  unfold raiseErrorMade
  refine wpAny_bind (wpAny_mkStr (wpAny_bind ?_) hm)
  unfold newExc newTuple
  refine wpAny_bind (wpAny_newObj_type ?_)
  refine wpAny_bind (m := firstArgMember _ _) (wpAny_of_eq (a := Value.none) (by simp only [firstArgMember, hp.first]; rfl) ?_)
  rw [hp.own]
  refine wpAny_newObj_type ?_
  unfold raiseNew
  refine wpAny_bind (wpAny_handled ?_)
  rw [hh]
  first
    | refine wpAny_throw ?_
    | refine wpAny_bind (wpAny_pure (wpAny_throw ?_))
  exact h _ _ _ _ ⟨fun b o hb => Heap.get?_push_of_some _ (Heap.get?_push_of_some _ hb), Heap.get?_none_of_le (by simp), s.heap.objs.size, Heap.get?_push_size _ rfl, Heap.get?_none_of_le (Nat.le_refl _), Heap.get?_push_of_some _ (Heap.get?_push_size _ rfl)⟩
end
theorem px_Value : PlainExc "ValueError" := ⟨fun _ => by kernel_rfl, by decide +kernel⟩
theorem px_Index : PlainExc "IndexError" := ⟨fun _ => by kernel_rfl, by decide +kernel⟩
theorem MadeExcOf.more {h h₁ h' : Heap} {e : Addr} {cls : Value} {vs : List Value} (k : Kp h h₁) (x : Heap.MadeExcOf h₁ h' e cls vs) : Heap.MadeExcOf h h' e cls vs := by
  obtain ⟨a, b, t, t1, t2, t3⟩ := x
  have no : ∀ c, h₁.get? c = none → h.get? c = none := fun c hc => by
    cases q : h.get? c with
    | none => rfl
    | some o => rw [k _ _ q] at hc; cases hc
  exact ⟨fun c o q => a c o (k c o q), no _ b, t, t1, no _ t2, t3⟩

section
variable {prog : Program} {w : World} {A : Around} {E : Value → Shared → Prop} {s : Shared} {v : Value} {bs : Array UInt8} {soft : Bool} {Q : Value → Shared → Prop}
def octs (bs : Array UInt8) : List Int := bs.toList.map fun c => (c.toNat : Int)

theorem moved_keeps {s s₂ : Shared} {o : Obj} {fp : List Addr} {s' : Shared} (m : Moved [s.heap.objs.size] (fun a b => b = a) { s with heap := s.heap.push o } s') : Kp s.heap s'.heap := fun b ob e =>
  m.heap b ob (fun hm => by simp at hm; exact absurd (hm ▸ Heap.lt_size e) (Nat.lt_irrefl _)) (Heap.get?_push_of_some _ e)

theorem val_ok (bs : Array UInt8) : ∀ (i : Nat) (v : Value), (∃ c u, bs[i]? = some c ∧ v = .int (c.toNat : Int) u) → ∃ t, v = Value.int (((bs[i]?).map fun c => (c.toNat : Int)).getD 0) t := fun i v ⟨c, u, e, r⟩ => ⟨u, by rw [e]; exact r⟩

theorem min_data (hh : A.handled = none) (D : DataAt s.heap v bs soft) (hn : 0 < bs.size)
    (h : ∀ k t h' tk, k ∈ octs bs → (∀ j ∈ octs bs, k ≤ j) → Kp s.heap h' → Q (.int k t) { s with heap := h', toks := tk }) : wpAny (model prog w) A (call (.builtin "min") [v]) Q E s := by
  refine call_min_walkS (iter_data (A := A.in1) hh D fun o fp St W hfp hst => ?_)
  refine ⟨_, _, _, _, _, _, _, _, rfl, W.toS, hst, fun b hb => ?_, hn, CmpOf.ints_lt _ (val_ok bs), fun v' s' hP hm => ?_⟩
  · show b < (s.heap.push o).objs.size
    rw [Heap.size_push]
    rcases List.mem_cons.mp hb with e | hb
    · exact e ▸ Nat.lt_succ_self _
    · exact Nat.lt_succ_of_lt (hfp b hb)
  · obtain ⟨c, u, e, rfl⟩ := hP
    have hs' : s' = { s with heap := s'.heap, toks := s'.toks } := by
      obtain ⟨h1, h2, h3, h4, _⟩ := hm
      cases s'
      simp only at h2 h3 h4
      subst h2 h3 h4
      rfl
    rw [hs']
    have key := argBest_lt (fun i => ((bs[i]?).map fun c => (c.toNat : Int)).getD 0) (bs.size - 1)
    refine h _ u _ _ ?_ (fun j hj => ?_) (moved_keeps (s₂ := s) (fp := []) hm)
    · exact List.mem_map.mpr ⟨c, Array.mem_toList_iff.mpr (Array.mem_of_getElem? e), rfl⟩
    · obtain ⟨d, hd, rfl⟩ := List.mem_map.mp hj
      obtain ⟨i, hi, hd'⟩ := List.mem_iff_getElem.mp hd
      simp only [Array.length_toList] at hi
      have := key.2 i (by omega)
      rw [e, show bs[i]? = some d by rw [← hd']; simp [hi]] at this
      simpa using this
theorem max_data (hh : A.handled = none) (D : DataAt s.heap v bs soft) (hn : 0 < bs.size)
    (h : ∀ k t h' tk, k ∈ octs bs → (∀ j ∈ octs bs, j ≤ k) → Kp s.heap h' → Q (.int k t) { s with heap := h', toks := tk }) : wpAny (model prog w) A (call (.builtin "max") [v]) Q E s := by
  refine call_max_walkS (iter_data (A := A.in1) hh D fun o fp St W hfp hst => ?_)
  refine ⟨_, _, _, _, _, _, _, _, rfl, W.toS, hst, fun b hb => ?_, hn, CmpOf.ints_gt _ (val_ok bs), fun v' s' hP hm => ?_⟩
  · show b < (s.heap.push o).objs.size
    rw [Heap.size_push]
    rcases List.mem_cons.mp hb with e | hb
    · exact e ▸ Nat.lt_succ_self _
    · exact Nat.lt_succ_of_lt (hfp b hb)
  · obtain ⟨c, u, e, rfl⟩ := hP
    have hs' : s' = { s with heap := s'.heap, toks := s'.toks } := by
      obtain ⟨h1, h2, h3, h4, _⟩ := hm
      cases s'
      simp only at h2 h3 h4
      subst h2 h3 h4
      rfl
    rw [hs']
    have key := argBest_gt (fun i => ((bs[i]?).map fun c => (c.toNat : Int)).getD 0) (bs.size - 1)
    refine h _ u _ _ ?_ (fun j hj => ?_) (moved_keeps (s₂ := s) (fp := []) hm)
    · exact List.mem_map.mpr ⟨c, Array.mem_toList_iff.mpr (Array.mem_of_getElem? e), rfl⟩
    · obtain ⟨d, hd, rfl⟩ := List.mem_map.mp hj
      obtain ⟨i, hi, hd'⟩ := List.mem_iff_getElem.mp hd
      simp only [Array.length_toList] at hi
      have := key.2 i (by omega)
      rw [e, show bs[i]? = some d by rw [← hd']; simp [hi]] at this
      simpa using this

theorem min_empty (hh : A.handled = none) (D : DataAt s.heap v bs soft) (hn : bs.size = 0)
    (h : ∀ h' tk e vs, Heap.MadeExcOf s.heap h' e (.type "ValueError") vs → E (.ref e) { s with heap := h', toks := tk }) : wpAny (model prog w) A (call (.builtin "min") [v]) Q E s := by
  have hname : (toString "min" ++ toString ".loop" : String) = "min.loop" := by decide
  refine call_function_tree F.kind_min F.plain_min F.entry_min (F.args_min1 _) ?_
  show wpAny _ A.in1 (Builtin.Builtins.bindParams "min" ["key", "default"] 0 ⟨[], []⟩ >>= _) _ _ s
  refine wpAny_bind (wpAny_of_eq (show Builtin.Builtins.bindParams "min" ["key", "default"] 0 ⟨[], []⟩ = pure [none, none] from rfl) ?_)
  refine wpAny_bind (wpAny_pure ?_)
  refine wpAny_bind (iter_data (A := A.in1) hh D fun o fp St W hfp hst => ?_)
  refine wpAny_bind (wpAny_newObj_type ?_)
  rw [hname]
  refine wpAny_pure ⟨plainId_quiet F.plain_min_loop _, codeAny_builtin F.entry_min_loop ?_⟩
  rw [Around.under_plainId F.plain_min_loop _]
  show wpAny _ A.in1 (seqItems? (.ref _) >>= _) _ _ _
  refine wpAny_bind (wpAny_seqItems (Heap.get?_push_size _ rfl) rfl ?_)
  show wpAny _ A.in1 (tryCatch (pyNext (.ref s.heap.objs.size)) _ >>= _) _ _ _
  rw [hn] at W
  refine wpAny_bind (wpAny_tryCatch (W.done _ _ _ (W.frame 0 _ _ hst fun b _ o e => Heap.get?_push_of_some _ e) fun h' tk hk => ?_))
  refine wpAny_bind (wpAny_rule ?_)
  have kk : Kp s.heap h' := fun b ob e => hk b ob (fun hm => by simp at hm; exact absurd (hm ▸ Heap.lt_size e) (Nat.lt_irrefl _)) (Heap.get?_push_of_some _ (Heap.get?_push_of_some _ e))
  first
    | exact raiseWords px_Value hh fun h'' tk' e vs x => h h'' tk' e vs (MadeExcOf.more kk x)
    | exact raiseMade px_Value hh fun h'' tk' e vs x => h h'' tk' e vs (MadeExcOf.more kk x)

theorem max_empty (hh : A.handled = none) (D : DataAt s.heap v bs soft) (hn : bs.size = 0)
    (h : ∀ h' tk e vs, Heap.MadeExcOf s.heap h' e (.type "ValueError") vs → E (.ref e) { s with heap := h', toks := tk }) : wpAny (model prog w) A (call (.builtin "max") [v]) Q E s := by
  have hname : (toString "max" ++ toString ".loop" : String) = "max.loop" := by decide
  refine call_function_tree F.kind_max F.plain_max F.entry_max (F.args_max1 _) ?_
  show wpAny _ A.in1 (Builtin.Builtins.bindParams "max" ["key", "default"] 0 ⟨[], []⟩ >>= _) _ _ s
  refine wpAny_bind (wpAny_of_eq (show Builtin.Builtins.bindParams "max" ["key", "default"] 0 ⟨[], []⟩ = pure [none, none] from rfl) ?_)
  refine wpAny_bind (wpAny_pure ?_)
  refine wpAny_bind (iter_data (A := A.in1) hh D fun o fp St W hfp hst => ?_)
  refine wpAny_bind (wpAny_newObj_type ?_)
  rw [hname]
  refine wpAny_pure ⟨plainId_quiet F.plain_max_loop _, codeAny_builtin F.entry_max_loop ?_⟩
  rw [Around.under_plainId F.plain_max_loop _]
  show wpAny _ A.in1 (seqItems? (.ref _) >>= _) _ _ _
  refine wpAny_bind (wpAny_seqItems (Heap.get?_push_size _ rfl) rfl ?_)
  show wpAny _ A.in1 (tryCatch (pyNext (.ref s.heap.objs.size)) _ >>= _) _ _ _
  rw [hn] at W
  refine wpAny_bind (wpAny_tryCatch (W.done _ _ _ (W.frame 0 _ _ hst fun b _ o e => Heap.get?_push_of_some _ e) fun h' tk hk => ?_))
  refine wpAny_bind (wpAny_rule ?_)
  have kk : Kp s.heap h' := fun b ob e => hk b ob (fun hm => by simp at hm; exact absurd (hm ▸ Heap.lt_size e) (Nat.lt_irrefl _)) (Heap.get?_push_of_some _ (Heap.get?_push_of_some _ e))
  first
    | exact raiseWords px_Value hh fun h'' tk' e vs x => h h'' tk' e vs (MadeExcOf.more kk x)
    | exact raiseMade px_Value hh fun h'' tk' e vs x => h h'' tk' e vs (MadeExcOf.more kk x)
end
namespace FA
open Builtin
theorem slot_getitem : Slot "bytearray" "__getitem__" "bytearray.__getitem__" :=
  .of (owner := "bytearray") (n := "__getitem__") (by rw [typeLookup_type, builtinLookup_eq_fast]; kernel_rfl) (by decide +kernel) (by decide +kernel) (by decide +kernel)
    (by first | exact .inl (by decide +kernel) | exact .inr (by decide +kernel)) (by rw [isSubtype_type]; kernel_rfl)
theorem entry_getitem : entryFor table "bytearray.__getitem__" = some Builtin.«bytearray.__getitem__» := by first | exact entryFor_of_fast (by kernel_rfl) | exact entryFor_of_tree (by kernel_rfl)
theorem args_getitem (a b : Value) : argsOk "bytearray.__getitem__" ⟨[a, b], []⟩ := by unfold argsOk; kernel_rfl
end FA
section
variable {prog : Program} {w : World} {A : Around} {E : Value → Shared → Prop} {s : Shared} {v : Value} {bs : Array UInt8} {soft : Bool} {Q : Value → Shared → Prop} {i : Int} {u : Tok}
theorem DataAt.ty (D : DataAt s.heap v bs soft) : s.TypeIs v (if soft then "bytearray" else "bytes") := by
  cases soft with
  | false => obtain ⟨t, rfl⟩ := D; exact typeIs_bytes s bs t
  | true => obtain ⟨a, rfl, hB⟩ := D; exact hB.typeIs
theorem wp_payload {M : Model} {A : Around} {E : Value → Shared → Prop} {Q : Array UInt8 → Shared → Prop} {a : Addr} (hB : IsBA s.heap a bs) (h : Q bs s) : wpAny M A (Builtin.Bytes.payload (.ref a)) Q E s := by
  obtain ⟨o, x, ho, _, hd, _⟩ := hB
  unfold Builtin.Bytes.payload Builtin.Bytes.payload?
  refine wpAny_bind (wpAny_bind (wpAny_load ho ?_))
  rw [hd]
  exact wpAny_pure (wpAny_pure h)
theorem wp_sub? {M : Model} {A : Around} {E : Value → Shared → Prop} {Q : Option Int → Shared → Prop} (hr : Builtin.Bytes.fitsIndex i = true) (h : Q (some i) s) : wpAny M A (Builtin.Bytes.subscript? (.int i u)) Q E s := by
  unfold Builtin.Bytes.subscript?
  refine wpAny_bind (wpAny_specialOf (typeIs_int s i u) F.slot_int_index.lookup ?_)
  show wpAny M A (if (!Builtin.Bytes.fitsIndex i) = true then _ else pure (some i)) _ E s
  rw [hr]
  exact wpAny_pure h
theorem getItem_data {c : UInt8} (D : DataAt s.heap v bs soft) (hr : Builtin.Bytes.fitsIndex i = true) (hx : (seqIndex? i bs.size).bind (bs[·]?) = some c)
    (h : Q (.int (c.toNat : Int) s.toks) { s with toks := s.toks + 1 }) : wpAny (model prog w) A (getItem v (.int i u)) Q E s := by
  cases soft with
  | false =>
    obtain ⟨t, rfl⟩ := D
    exact getItem_gives (typeIs_bytes s _ t) (by decide) FB.slot_bytes_getitem FB.entry_bytes_getitem (FB.args_bytes_getitem_2 _ _) (gives_bytes_getitem _ i t u c hr hx) h
  | true =>
    obtain ⟨a, rfl, hB⟩ := D
    refine wpAny_getItem_slot hB.typeIs (by decide) FA.slot_getitem (wpAny_call_entry FA.slot_getitem hB.typeIs FA.entry_getitem ?_ (FA.args_getitem _ _))
    show wpAny _ _ (Builtin.Bytes.subscript? (.int i u) >>= _) _ _ s
    refine wpAny_bind (wp_sub? hr ?_)
    show wpAny _ _ (Builtin.Bytes.payload (.ref a) >>= _) _ _ s
    refine wpAny_bind (wp_payload hB ?_)
    show wpAny _ _ (match (seqIndex? i bs.size).bind (bs[·]?) with | some x => _ | none => _) _ _ s
    rw [hx]
    exact wpAny_bind (wpAny_mkInt (wpAny_pure ⟨_, rfl, h⟩))
theorem getItem_data_out (hh : A.handled = none) (D : DataAt s.heap v bs soft) (hr : Builtin.Bytes.fitsIndex i = true) (hx : (seqIndex? i bs.size).bind (bs[·]?) = none)
    (h : ∀ h' tk e vs, Heap.MadeExcOf s.heap h' e (.type "IndexError") vs → E (.ref e) { s with heap := h', toks := tk }) : wpAny (model prog w) A (getItem v (.int i u)) Q E s := by
  cases soft with
  | false =>
    obtain ⟨t, rfl⟩ := D
    refine wpAny_getItem_slot (typeIs_bytes s _ t) (by decide) FB.slot_bytes_getitem (wpAny_call_entry FB.slot_bytes_getitem (typeIs_bytes s _ t) FB.entry_bytes_getitem ?_ (FB.args_bytes_getitem_2 _ _))
    show wpAny _ _ (Builtin.Bytes.subscript? (.int i u) >>= _) _ _ s
    refine wpAny_bind (wp_sub? hr ?_)
    show wpAny _ _ (match (seqIndex? i bs.size).bind (bs[·]?) with | some x => _ | none => _) _ _ s
    rw [hx]
    refine wpAny_bind (wpAny_rule ?_)
    (first | exact raiseWords px_Index hh h | exact raiseMade px_Index hh h | exact wpAny_bind (raiseWords px_Index hh h) | exact wpAny_bind (raiseMade px_Index hh h))
  | true =>
    obtain ⟨a, rfl, hB⟩ := D
    refine wpAny_getItem_slot hB.typeIs (by decide) FA.slot_getitem (wpAny_call_entry FA.slot_getitem hB.typeIs FA.entry_getitem ?_ (FA.args_getitem _ _))
    show wpAny _ _ (Builtin.Bytes.subscript? (.int i u) >>= _) _ _ s
    refine wpAny_bind (wp_sub? hr ?_)
    show wpAny _ _ (Builtin.Bytes.payload (.ref a) >>= _) _ _ s
    refine wpAny_bind (wp_payload hB ?_)
    show wpAny _ _ (match (seqIndex? i bs.size).bind (bs[·]?) with | some x => _ | none => _) _ _ s
    rw [hx]
    show wpAny _ _ (rule _ >>= _) _ _ s
    refine wpAny_bind (wpAny_rule ?_)
    (first | exact raiseWords px_Index hh h | exact raiseMade px_Index hh h | exact wpAny_bind (raiseWords px_Index hh h) | exact wpAny_bind (raiseMade px_Index hh h))
theorem sub_data {value slice : PySem.Expr} {c : UInt8} (D : DataAt s.heap v bs soft) (hr : Builtin.Bytes.fitsIndex i = true) (hx : (seqIndex? i bs.size).bind (bs[·]?) = some c)
    (h : Q (.int (c.toNat : Int) s.toks) { s with toks := s.toks + 1 }) (hs : subscripted slice false v (.int i u) = operate [v, .int i u] (getItem v (.int i u))) : wpAny (model prog w) A (subscriptTail value slice v (.int i u)) Q E s := by
  cases soft with
  | false => exact tail_any D.ty FB.slot_bytes_getitem.lookup (getItem_data D hr hx h) hs
  | true => exact tail_any D.ty FA.slot_getitem.lookup (getItem_data D hr hx h) hs
theorem sub_data_out {value slice : PySem.Expr} (hh : A.handled = none) (D : DataAt s.heap v bs soft) (hr : Builtin.Bytes.fitsIndex i = true) (hx : (seqIndex? i bs.size).bind (bs[·]?) = none)
    (h : ∀ h' tk e vs, Heap.MadeExcOf s.heap h' e (.type "IndexError") vs → E (.ref e) { s with heap := h', toks := tk }) (hs : subscripted slice false v (.int i u) = operate [v, .int i u] (getItem v (.int i u))) : wpAny (model prog w) A (subscriptTail value slice v (.int i u)) Q E s := by
  cases soft with
  | false => exact tail_any D.ty FB.slot_bytes_getitem.lookup (getItem_data_out hh D hr hx h) hs
  | true => exact tail_any D.ty FA.slot_getitem.lookup (getItem_data_out hh D hr hx h) hs
end
end Br
end
-- BrCon
section
open PySem PySem.W PySem.Calls PyProof.Rows
set_option Elab.async false
set_option maxRecDepth 100000
set_option linter.unusedVariables false
namespace Br
abbrev Ret (outer : List Env) (s : Shared) (P : Value → Heap → Prop) (Q : Value → Shared → Prop) : Prop := ∀ r h' g' tk', Af outer s.heap h' → AllBare g' → P r h' → Q r { heap := h', gens := g', drawn := s.drawn, toks := tk', os := s.os }
abbrev Thr (outer : List Env) (s : Shared) (X : String) (E : Value → Shared → Prop) : Prop := ∀ e vs h' g' tk', Thrown outer s.heap (.type X) vs e h' → AllBare g' → E e { heap := h', gens := g', drawn := s.drawn, toks := tk', os := s.os }
theorem fr_kp {g h h' : Heap} {L : Addr} {m : Str → Option Value} (F : Fr g L h m) (k : Kp h h') : Fr g L h' m := ⟨F.ns.keeps k, fun b o e => k _ _ (F.keep b o e), F.above⟩
theorem news_kp {g h h' : Heap} {L : Addr} {news : List (Addr × Obj)} (N : News g L h news) (k : Kp h h') : News g L h' news := fun p hp => ⟨k _ _ (N p hp).1, (N p hp).2⟩
theorem under_kp {outer : List Env} {n : Nat} {b : Heap} {A : Around} {h : Heap} (C : Cx n b A outer h) {v : Value} {bs : Array UInt8} {soft : Bool} (D : DataAt h v bs soft) : DataAt (under h outer) v bs soft := by
  cases soft with
  | false => exact D
  | true =>
    obtain ⟨a, e, o, x, e1, e2, e3, e4⟩ := D
    exact ⟨a, e, o, x, C.sees e1 (fun es k q => by rw [e3] at q; cases q) (fun q => by rw [e2] at q; cases q), e2, e3, e4⟩

structure Pg (w : World) (p : Program) (loose : List Str) (mg mb : Str → Option Value) (b : Heap) : Prop where
  X : (Br.hd.heap_39 w.params).In b
  T : TopRead p loose mg mb b
  bt : ∀ a, isTab a → b.get? a = none
  bm : ∃ bm ob, BMod b mainGlobals mg bm ob

section
variable {n : Nat} {b : Heap} {A : Around} {outer : List Env} {s : Shared} {h : Heap} {gs : Array GenState} {tk : Nat} {L : Addr} {m : Str → Option Value} {env : Env} {news loc fl : List (Addr × Obj)} {M : Model} {E : Value → Shared → Prop} {X : String}
theorem Spl.app {fl : List (Addr × Obj)} : ∀ loc, Spl fl (loc ++ fl) loc
  | [] => .nil
  | p :: loc => .cons p (Spl.app loc)
theorem after {P : Value → Heap → Prop} {Q : Value → Shared → Prop} (C : Cx (n + 1) b A outer s.heap) (bt : ∀ a, isTab a → b.get? a = none) (F : Fr (under s.heap outer) L h m) (N : News (under s.heap outer) L h news) (S : Spl fl news loc) (G : LG s.heap outer fl) (nd : NDs loc)
    (hf : env.frame = some L) (k : ∀ r h' g' tk' fl', Fr (under s.heap outer) L h' m → News (under s.heap outer) L h' (loc ++ fl') → Spl fl' (loc ++ fl') loc → LG s.heap outer fl' → AllBare g' → P r h' → Q r ⟨h', g', s.drawn, tk', s.os⟩) : Ret (env :: outer) ⟨h, gs, s.drawn, tk, s.os⟩ P Q :=
  fun r h' g' tk' af ab hp => let ⟨fl', F', N', G'⟩ := behind C bt F N S G nd hf af; k r h' g' tk' fl' F' N' (Spl.app loc) G' ab hp
theorem thr_up (ke : Thr outer s X E) (C : Cx (n + 1) b A outer s.heap) (bt : ∀ a, isTab a → b.get? a = none) (F : Fr (under s.heap outer) L h m) (N : News (under s.heap outer) L h news) (S : Spl fl news loc) (G : LG s.heap outer fl)
    (hf : env.frame = some L) (hl : env.locals = L) (hk : env.scope.kind = .function) : Thr (env :: outer) ⟨h, gs, s.drawn, tk, s.os⟩ X (fun e s' => wpAny M (A.deeper env) (leaving env e) (fun _ s'' => E e s'') (fun e' s'' => E e' s'') s') :=
  fun e vs h' g' tk' th ab => leave_on C bt F N S G hf hl hk th fun h'' th' => ke e vs h'' g' tk' th' ab
theorem raise_up (ke : Thr outer s X E) (C : Cx (n + 1) b A outer s.heap) (bt : ∀ a, isTab a → b.get? a = none) (F : Fr (under s.heap outer) L h m) (N : News (under s.heap outer) L h news) (S : Spl fl news loc) (G : LG s.heap outer fl)
    (hf : env.frame = some L) (hl : env.locals = L) (hk : env.scope.kind = .function) (ab : AllBare gs) {h' : Heap} {tk : Nat} {e : Addr} {vs : List Value} (x : Heap.MadeExcOf h h' e (.type X) vs) :
    wpAny M (A.deeper env) (leaving env (.ref e)) (fun _ s'' => E (.ref e) s'') (fun e' s'' => E e' s'') ⟨h', gs, s.drawn, tk, s.os⟩ :=
  leave_raise C bt F N S G hf hl hk x fun h'' th => ke (.ref e) vs h'' gs tk th ab
theorem nds_nil : NDs [] := fun _ m => nomatch m
theorem nds_cons {a : Addr} {o : Obj} {l : List (Addr × Obj)} (h1 : ∀ es k, o.data ≠ .dict es k) (h2 : ∀ ps, o ≠ tabO ps) (h : NDs l) : NDs ((a, o) :: l) := fun p hp => by
  rcases List.mem_cons.mp hp with rfl | hp
  · exact ⟨h1, h2⟩
  · exact h p hp
end
abbrev ThrV (outer : List Env) (s : Shared) (X : String) (V : List Value → Prop) (E : Value → Shared → Prop) : Prop := ∀ e vs h' g' tk', V vs → Thrown outer s.heap (.type X) vs e h' → AllBare g' → E e { heap := h', gens := g', drawn := s.drawn, toks := tk', os := s.os }
section
variable {n : Nat} {b : Heap} {A : Around} {outer : List Env} {s : Shared} {h : Heap} {gs : Array GenState} {tk : Nat} {L : Addr} {m : Str → Option Value} {env : Env} {news loc fl : List (Addr × Obj)} {M : Model} {E : Value → Shared → Prop} {X : String} {V : List Value → Prop}
theorem raise_upV (ke : ThrV outer s X V E) (C : Cx (n + 1) b A outer s.heap) (bt : ∀ a, isTab a → b.get? a = none) (F : Fr (under s.heap outer) L h m) (N : News (under s.heap outer) L h news) (S : Spl fl news loc) (G : LG s.heap outer fl)
    (hf : env.frame = some L) (hl : env.locals = L) (hk : env.scope.kind = .function) (ab : AllBare gs) {h' : Heap} {tk : Nat} {e : Addr} {vs : List Value} (hv : V vs) (x : Heap.MadeExcOf h h' e (.type X) vs) :
    wpAny M (A.deeper env) (leaving env (.ref e)) (fun _ s'' => E (.ref e) s'') (fun e' s'' => E e' s'') ⟨h', gs, s.drawn, tk, s.os⟩ :=
  leave_raise C bt F N S G hf hl hk x fun h'' th => ke (.ref e) vs h'' gs tk hv th ab
end
/-- where the walk is to stop -/
def Hold (p : Prop) : Prop := p
theorem hold {p : Prop} (h : Hold p) : p := h
theorem fr_map {g h : Heap} {L : Addr} {m m' : Str → Option Value} (F : Fr g L h m) (e : ∀ y, m y = m' y) : Fr g L h m' := (funext e : m = m') ▸ F
end Br
end
-- BrQx
section
open PySem PySem.W PySem.Calls PyProof.Rows
set_option Elab.async false
set_option maxRecDepth 100000
set_option linter.unusedVariables false
namespace Br
open Sem (wp)
section
variable {M : Model} {A : Around} {E : Value → Shared → Prop} {s : Shared} {env : Env}
theorem wpQ_execs_cons {st : Stmt} {rest : List Stmt} {Q : Flow → Shared → Prop}
    (h : wpQ M A (exec st env) (fun f s' => match f with | .next => wpQ M A (execs rest env) Q E s' | f => Q f s') E s) : wpQ M A (execs (st :: rest) env) Q E s := fun Γ p hΓ hc => by
  rw [execs_cons, Sem.wp_bind']
  refine Sem.wp_mono M Γ _ (fun f p' s' h' => ?_) (fun _ _ _ h' => h') _ _ (h Γ p hΓ hc)
  cases f <;> first | exact h' Γ p' hΓ hc | exact h'
theorem wpQ_Assign_Name {x : Str} {pos' : Pos} {value : PySem.Expr} {pos : Pos} {Q : Flow → Shared → Prop}
    (h : wpQ M A (eval value env) (fun v s₁ => wpQ M A (storeName env x v) (fun _ => Q .next) E s₁) E s)
    (hs : swapsWith value (some (.Name x pos')) pos.line env = pure false := by rfl) :
    wpQ M A (exec (.Assign [.Name x pos'] value pos) env) Q E s := fun Γ p hΓ hc => by
  simp only [exec_Assign_Name env x pos' value pos hs, Sem.wp_bind', Sem.wp_cmd_standAt, Sem.wp_bindName, Sem.wp_pure']
  exact Sem.wp_mono M Γ _ (fun v _ s₁ h₁ => h₁ Γ _ hΓ hc) (fun _ _ _ h' => h') _ _ (h Γ _ hΓ hc)
theorem callWithQ_type {pos : Pos} {T : String} {first : List Value} {args : List (Bool × Sem Value)} {Q : Value → Shared → Prop}
    (hplain : args.any (·.1) = false)
    (h : wpAny M A (evalArgs (.type T) true args []) (fun a s₁ => wpQ M A (PySem.call (.type T) (first ++ a.pos) a.kw) Q E s₁) E s) :
    wpQ M A (callWith pos (.type T) first args []) Q E s := by
  unfold callWith
  refine wpQ_andThen (wpAny_holding (wpAny_mono h (fun a s₁ h₁ => ?_) fun _ _ x => x))
  refine wpQ_andThen (wpAny_standAt ?_)
  simp only [hplain, List.any_nil, Bool.or_false]
  refine wpQ_andThen (wpAny_pure ?_)
  exact wpQ_bind (wpQ_mono h₁ (fun r s₂ hr => wpQ_andThen (wpAny_holding (wpAny_point (wpQ_pure hr)))) fun _ _ x => x)
theorem callQ_type1 {f : Str} {T : String} {p pos : Pos} {e : PySem.Expr} {Q : Value → Shared → Prop} (hs : backTo pos (starEach [e] env) = [(false, eval e env)])
    (h : wpAny M A (eval (.Name f p) env) (fun c s₀ => c = .type T ∧ wpAny M A (eval e env) (fun v s₁ => wpQ M A (PySem.call (.type T) [v]) Q E s₁) E s₀) E s) :
    wpQ M A (eval (.Call (.Name f p) [e] [] pos) env) Q E s := by
  show wpQ M A (do callWith pos (← eval (.Name f p) env) [] (backTo pos (starEach [e] env)) (backToKw pos (keywordEach [] env))) Q E s
  refine wpQ_andThen (wpAny_mono h (fun c s₀ h₀ => ?_) fun _ _ x => x)
  obtain ⟨rfl, h₁⟩ := h₀
  rw [hs]
  exact callWithQ_type rfl (Calls.evalArgs_plain (Calls.spliced_cons (wpAny_mono h₁ (fun v s₁ h₂ => Calls.spliced_nil h₂) fun _ _ e => e)))
end
end Br
end
-- BrQy
section
open PySem PySem.W PySem.Calls PyProof.Rows
set_option Elab.async false
set_option maxRecDepth 100000
set_option linter.unusedVariables false
namespace Br
open Sem (wp)
section
variable {α β : Type} {M : Model} {A : Around} {E : Value → Shared → Prop} {s : Shared} {env : Env}
theorem wpQ_toAny {t : Sem α} {u : Value → Sem β} {Q : α → Shared → Prop} {Q1 : Value → β → Shared → Prop} {E1 : Value → Value → Shared → Prop} (h : wpAny M A t Q (fun e s' => wpAny M A (u e) (Q1 e) (E1 e) s') s) :
    wpQ M A t Q (fun e s' => wpQ M A (u e) (Q1 e) (E1 e) s') s := wpQ_mono (wpQ_of h) (fun _ _ x => x) fun _ _ x => wpQ_of x
/-- an object made: the ledger gets it -/
theorem news_new {g h h' : Heap} {L : Addr} {m : Str → Option Value} {news : List (Addr × Obj)} {o : Obj} (F : Fr g L h m) (N : News g L h news) (k : Kp h h') (e : h'.get? h.objs.size = some o) : News g L h' ((h.objs.size, o) :: news) := fun p hp => by
  rcases List.mem_cons.mp hp with rfl | hp
  · refine ⟨e, fun q => absurd (q ▸ F.ns.lt) (Nat.lt_irrefl _), ?_⟩
    cases q : g.get? h.objs.size with
    | none => rfl
    | some o => exact absurd (Heap.lt_size (F.keep _ _ q)) (Nat.lt_irrefl _)
  · exact ⟨k _ _ (N p hp).1, (N p hp).2⟩
theorem spl_mid {fl : List (Addr × Obj)} {p : Addr × Obj} : ∀ own, Spl fl (own ++ p :: fl) (own ++ [p])
  | [] => .cons p .nil
  | q :: own => .cons q (spl_mid own)
theorem g_none {g h : Heap} {L x : Addr} {m : Str → Option Value} (F : Fr g L h m) (hx : h.objs.size ≤ x) : g.get? x = none := by
  cases q : g.get? x with
  | none => rfl
  | some o => exact absurd (Heap.lt_size (F.keep _ _ q)) (Nat.not_lt.mpr hx)
theorem news_lt {g h : Heap} {L : Addr} {news : List (Addr × Obj)} (N : News g L h news) {p : Addr × Obj} (hp : p ∈ news) : p.1 < h.objs.size := Heap.lt_size (N p hp).1
end
end Br
end
-- BrQz
section
open PySem PySem.W PySem.Calls PyProof.Rows
set_option Elab.async false
set_option maxRecDepth 100000
set_option linter.unusedVariables false
namespace Br
open Sem (wp)
/-! statements and calls of functions, in clean contexts -/
section
variable {α : Type} {M : Model} {A : Around} {E : Value → Shared → Prop} {s : Shared} {env : Env}
theorem wpQ_keep {vs : List Value} {m : Sem α} {Q : α → Shared → Prop} (h : wpQ M A m Q E s) : wpQ M A (m.keep vs) Q E s :=
  fun Γ p hΓ hc => by rw [Sem.wp_keep]; exact h Γ p hΓ hc
theorem wpQ_ite {c : Prop} [Decidable c] {t u : Sem α} {Q : α → Shared → Prop} (h1 : c → wpQ M A t Q E s) (h2 : ¬ c → wpQ M A u Q E s) : wpQ M A (if c then t else u) Q E s := by
  split
  · exact h1 ‹_›
  · exact h2 ‹_›
theorem callWithQ_function {pos : Pos} {a : Addr} {o : Obj} {fd : FuncData} {first : List Value} {args : List (Bool × Sem Value)} {Q : Value → Shared → Prop}
    (h : wpAny M A (evalArgs (.ref a) true args []) (fun x s₁ => (s₁.heap.get? a = some o ∧ o.data = .func fd) ∧ wpQ M A (call (.ref a) (first ++ x.pos) x.kw) Q E s₁) E s) :
    wpQ M A (callWith pos (.ref a) first args []) Q E s := by
  unfold callWith
  refine wpQ_andThen (wpAny_holding (wpAny_mono h (fun x s₁ h₁ => ?_) fun _ _ x => x))
  refine wpQ_andThen (wpAny_standAt ?_)
  have tail : ∀ {t : Sem Value}, wpQ M A t Q E s₁ → wpQ M A (t >>= fun r => holding [r] point >>= fun _ => pure r) Q E s₁ :=
    fun ht => wpQ_bind (wpQ_mono ht (fun r s₂ hr => wpQ_andThen (wpAny_holding (wpAny_point (wpQ_pure hr)))) fun _ _ x => x)
  cases hs : args.any (·.1) <;> simp only [List.any_nil, Bool.or_false] <;>
    refine wpQ_andThen (m := keeperOf (.ref a)) ?_ <;> unfold keeperOf <;>
    refine wpAny_bind (wpAny_load h₁.1.1 ?_) <;> rw [h₁.1.2] <;> refine wpAny_pure ?_
  · first
      | refine wpQ_ite (fun _ => tail h₁.2) (fun _ => tail (by unfold callMarked; exact wpQ_keep h₁.2))
      | (dsimp only; exact wpQ_ite (fun _ => tail h₁.2) (fun _ => tail (by unfold callMarked; exact wpQ_keep h₁.2)))
  · exact tail (by unfold callMarked; exact wpQ_keep h₁.2)
theorem callWithQ_def {pos : Pos} {f : Addr} {o : Obj} {fd : FuncData} {K : Frag} {e : Expr} {rest : List Expr} {Q : Value → Shared → Prop} (ho : K.lookup f = some o) (hd : o.data = .func fd)
    (h : wpAny M A (spliced (backTo pos (starEach (e :: rest) env))) (fun vs s₁ => K.In s₁.heap ∧ wpQ M A (call (.ref f) vs) Q E s₁) E s)
    (he : starEach (e :: rest) env = (false, eval e env) :: starEach rest env := by rfl) :
    wpQ M A (callWith pos (.ref f) [] (backTo pos (starEach (e :: rest) env)) (backToKw pos (keywordEach [] env))) Q E s := by
  show wpQ M A (callWith pos (.ref f) [] (backTo pos (starEach (e :: rest) env)) []) Q E s
  rw [he] at h ⊢
  exact callWithQ_function (o := o) (fd := fd) (evalArgs_plain (wpAny_mono h (fun vs s₁ h₁ => ⟨⟨h₁.1 _ _ ho, hd⟩, h₁.2⟩) fun _ _ x => x))
theorem callQ_name {f : Str} {p pos : Pos} {args : List Expr} {Q : Value → Shared → Prop}
    (h : wpAny M A (eval (.Name f p) env) (fun c s₀ => wpQ M A (callWith pos c [] (backTo pos (starEach args env)) (backToKw pos (keywordEach [] env))) Q E s₀) E s) :
    wpQ M A (eval (.Call (.Name f p) args [] pos) env) Q E s := by
  show wpQ M A (do callWith pos (← eval (.Name f p) env) [] (backTo pos (starEach args env)) (backToKw pos (keywordEach [] env))) Q E s
  exact wpQ_andThen h
theorem callQ_attr {o : Expr} {name : Str} {apos pos : Pos} {args : List Expr} {pl : Sem Bool} {Q : Value → Shared → Prop}
    (h : wpAny M A (eval o env) (fun ov s₁ => wpAny M A (getMethod ov name pl) (fun fx s₂ => wpQ M A (callWith pos fx.1 fx.2 (backTo pos (starEach args env)) (backToKw pos (keywordEach [] env))) Q E s₂) E s₁) E s)
    (he : eval (.Call (.Attribute o name apos) args [] pos) env = (do
      let ov ← eval o env
      standAt apos.atName
      let (f, first) ← holding [ov] (getMethod ov name pl)
      callWith pos f first (backTo pos (starEach args env)) (backToKw pos (keywordEach [] env))) := by rfl) :
    wpQ M A (eval (.Call (.Attribute o name apos) args [] pos) env) Q E s := by
  rw [he]
  refine wpQ_andThen (wpAny_mono h (fun ov s₁ h₁ => wpQ_andThen (wpAny_standAt (wpQ_andThen (wpAny_holding (wpAny_mono h₁ (fun fx s₂ h₂ => ?_) fun _ _ x => x))))) fun _ _ x => x)
  exact h₂
theorem wpQ_If {test body orelse pos} {Q : Flow → Shared → Prop}
    (h : wpQ M A (isTrue test env (eval test env))
      (fun b s₂ => if b then wpQ M A (execs body env) Q E s₂ else wpQ M A (execs orelse env) Q E s₂) E s) :
    wpQ M A (exec (.If test body orelse pos) env) Q E s := fun Γ p hΓ hc => by
  simp only [exec_If, Sem.wp_bind', Sem.wp_cmd_standAt]
  refine Sem.wp_mono M Γ _ (fun b p₂ s₂ h₂ => ?_) (fun _ _ _ h' => h') _ _ (h Γ _ hΓ hc)
  cases b <;> exact h₂ Γ p₂ hΓ hc
theorem wpQ_Return_some {e pos} {Q : Flow → Shared → Prop} (h : wpQ M A (eval e env) (fun v => Q (.ret v)) E s) :
    wpQ M A (exec (.Return (some e) pos) env) Q E s := fun Γ p hΓ hc => by
  simp only [exec_Return_some, Sem.wp_bind', Sem.wp_cmd_standAt, Sem.wp_pure']; exact h Γ _ hΓ hc
theorem wpQ_IfExp {test body orelse pos} {Q : Value → Shared → Prop}
    (h : wpAny M A (isTrue test env (eval test env)) (fun b s₂ => if b then wpQ M A (eval body env) Q E s₂ else wpQ M A (eval orelse env) Q E s₂) E s) :
    wpQ M A (eval (.IfExp test body orelse pos) env) Q E s := by
  show wpQ M A (do if ← isTrue test env (eval test env) then eval body env else eval orelse env) Q E s
  refine wpQ_andThen (wpAny_mono h (fun b s₂ h₂ => ?_) fun _ _ x => x)
  cases b <;> exact h₂
theorem wpQ_isTrue_Compare1 {l op r pos whole} {Q : Bool → Shared → Prop}
    (h : wpQ M A (eval l env) (fun a s₁ => wpQ M A (eval r env) (fun b s₂ => wpQ M A (compareOp op a b)
      (fun c s₃ => wpQ M A (truthy c) Q E s₃) E s₂) E s₁) E s)
    (hm : behindInMarks op r = false := by with_unfolding_all rfl) : wpQ M A (isTrue (.Compare l [op] [r] pos) env whole) Q E s := fun Γ p hΓ hc => by
  simp only [isTrue_Compare1, markedBehindIn_of_false hm, Sem.wp_bind', Sem.wp_holding, Sem.wp_cmd_standAt, Sem.wp_operate]
  exact Sem.wp_mono M Γ _ (fun a p₁ s₁ h₁ => Sem.wp_mono M Γ _ (fun b _ s₂ h₂ => Sem.wp_mono M Γ _ (fun c p₃ s₃ h₃ => h₃ Γ p₃ hΓ hc)
    (fun _ _ _ h' => h') _ _ (h₂ Γ _ hΓ hc)) (fun _ _ _ h' => h') _ _ (h₁ Γ p₁ hΓ hc)) (fun _ _ _ h' => h') _ _ (h Γ p hΓ hc)
end
section
variable {prog : Program} {w : World} {A : Around} {E : Value → Shared → Prop} {s : Shared} {env : Env}
theorem wpQ_Try_except {body : List Stmt} {h₀ : ExceptHandler} {hs : List ExceptHandler} {pos : Pos} {Q : Flow → Shared → Prop} 
    (h : wpQ (model prog w) A (execs body env) (fun f s₁ => match f with | .next => wpQ (model prog w) A (execs [] env) Q E s₁ | f => Q f s₁)
      (fun e s₁ => wpAny (model prog w) A (noteFrame e env) (fun _ s₂ => wpAny (model prog w) A (setFlight e none) (fun _ s₃ => wpAny (model prog w) A (handleBy e env (h₀ :: hs)) Q E s₃) E s₂) E s₁) s) :
    wpQ (model prog w) A (exec (.Try body (h₀ :: hs) [] [] pos) env) Q E s := by
  rw [arm_exec_Try]
  refine wpQ_andThen (wpAny_standAt ?_)
  unfold tryStmt
  simp only [List.isEmpty_nil, if_true, List.isEmpty_cons, Bool.false_and, Bool.false_eq_true, if_false]
  refine wpQ_bind (wpQ_attempt (wpQ_mono h (fun f s₁ h₁ => ?_) fun e s₁ h₁ => ?_))
  · cases f <;> first | exact h₁ | exact wpQ_pure h₁
  · exact wpQ_andThen (wpAny_mono h₁ (fun _ _ h₂ => wpQ_andThen (wpAny_mono h₂ (fun _ _ h₃ => wpQ_of h₃) fun _ _ x => x)) fun _ _ x => x)
theorem wpQ_runOwn {c : Code} {h : Option Value} {Q : Flow → Shared → Prop}
    (hc : codeQ (model prog w) (A.mark h) c (fun r s' => match r with | .ok f => Q f s' | .error e => False) s) (hnb : h ≠ some byPass := by intro x; cases x) :
    wpQ (model prog w) A (runOwn c env h) Q E s := by
  unfold runOwn
  exact wpQ_onRaise (wpQ_run (codeQ_mono hc fun r s' x => by cases r <;> first | exact x | exact x.elim) hnb)
theorem wpQ_For {target iter body orelse pos} {Q : Flow → Shared → Prop}
    (h : wpAny (model prog w) A (eval iter env) (fun x s₁ => wpAny (model prog w) A (pyIter x) (fun it s₂ =>
      codeQ (model prog w) A (.forLoop target it body orelse env) (fun r s' => match r with | .ok f => Q f s' | .error e => False) s₂) E s₁) E s)
    (hs : ∀ x, foldedSetIterable iter env x = pure x := by intro _; rfl) :
    wpQ (model prog w) A (exec (.For target iter body orelse pos) env) Q E s := by
  rw [exec_For]
  exact wpQ_andThen (wpAny_standAt (wpQ_andThen (wpAny_mono h (fun x s₁ h₁ => wpQ_andThen (wpAny_of_eq (hs x) (wpQ_andThen (wpAny_standAt (wpQ_andThen (wpAny_holding
    (wpAny_mono h₁ (fun it s₂ h₂ => wpQ_runOwn h₂) fun _ _ h' => h'))))))) fun _ _ h' => h')))
theorem codeQ_loop {c : Code} {R : Result → Shared → Prop} (hcc : cleanCode c = true) (hq : c.quiet = true) (I : Nat → Shared → Prop)
    (turn : ∀ n s, I n s → wpQ (model prog w) (A.under c) ((model prog w).den c)
      (fun fin s' => match fin with
        | .done f => R (.ok f) s'
        | .again c' => (c' = c ∧ ∃ m, m < n ∧ I m s') ∨ (c'.quiet = true ∧ codeQ (model prog w) A c' R s')) (fun e s' => R (.error e) s') s)
    (n : Nat) (h : I n s) : codeQ (model prog w) A c R s := by
  induction n using Nat.strongRecOn generalizing s with
  | ind n ih =>
    refine codeQ_of_tree hcc (wpQ_mono (turn n s h) (fun fin s' hf => ?_) fun _ _ h' => h')
    cases fin with
    | done f => exact hf
    | again c' =>
      rcases hf with ⟨rfl, m, hm, hI⟩ | hf
      · exact ⟨hq, ih m hm hI⟩
      · exact hf
theorem codeQ_forLoop {R : Result → Shared → Prop} {x px it body env} (I : Nat → Shared → Prop)
    (turn : ∀ n s, I n s → wpAny (model prog w) A (pyNext it) (fun r s₁ => match r with
      | none => R (.ok .next) s₁
      | some v => wpAny (model prog w) A (assign (.Name x px) env v) (fun _ s₂ => wpQ (model prog w) A (execs body env) (fun f s₃ => match f with
            | .next | .cont => ∃ m, m < n ∧ I m s₃
            | .brk => R (.ok .next) s₃
            | .ret v => R (.ok (.ret v)) s₃) (fun _ _ => False) s₂) (fun _ _ => False) s₁) (fun _ _ => False) s)
    (n : Nat) (h : I n s) : codeQ (model prog w) A (.forLoop (.Name x px) it body [] env) R s := by
  refine codeQ_loop rfl rfl I (fun n s hI => ?_) n h
  show wpQ _ A ((forTurn (.Name x px) it body [] env).onRaise (fun x => do noteFrame x env; theTreesLotGoes x)) _ _ s
  refine wpQ_onRaise (wpQ_mono (Q := fun fin s' => match fin with
        | .done f => R (.ok f) s'
        | .again c' => (c' = .forLoop (.Name x px) it body [] env ∧ ∃ m, m < n ∧ I m s') ∨ (c'.quiet = true ∧ codeQ (model prog w) A c' R s')) (E := fun _ _ => False) ?_ (fun _ _ x => x) fun _ _ x => x.elim)
  simp only [forTurn]
  refine wpQ_andThen (wpAny_standAt (wpQ_andThen (wpAny_onRaise (wpAny_mono (turn n s hI) (fun r s₁ h₁ => ?_) fun _ _ h' => h'.elim))))
  cases r with
  | none => exact wpQ_pure (.inr ⟨rfl, codeQ_of (codeAny_block (wpAny_execs_nil h₁))⟩)
  | some v =>
    refine wpQ_andThen (wpAny_of_eq (a := ()) rfl ?_)
    refine wpQ_andThen (wpAny_mono h₁ (fun _ s₂ h₂ => wpQ_bind (wpQ_mono h₂ (fun f s₃ h₃ => ?_) fun _ _ h' => h')) fun _ _ h' => h')
    cases f with
    | next => exact wpQ_pure (.inl ⟨rfl, h₃⟩)
    | cont => exact wpQ_pure (.inl ⟨rfl, h₃⟩)
    | brk => exact wpQ_pure h₃
    | ret v => exact wpQ_pure h₃
end
end Br
end
-- BrLs
section
open PySem PySem.W PySem.Calls PyProof.Rows
set_option Elab.async false
set_option maxRecDepth 100000
set_option linter.unusedVariables false
namespace Br
/-! the law's own frame: what it has, what a call leaves of it, a loop over a list -/
structure LS (h₀ : Heap) (outer : List Env) (L : Addr) (dr : Drawn) (os : OsState) (own : List (Addr × Obj)) (m : Str → Option Value) (s : Shared) : Prop where
  ex : ∃ fl, Fr (under h₀ outer) L s.heap m ∧ News (under h₀ outer) L s.heap (own ++ fl) ∧ LG h₀ outer fl
  bare : AllBare s.gens
  drawn : s.drawn = dr
  osd : s.os = os
  nd : NDs own

theorem LG.only {h₀ : Heap} {outer : List Env} {fl : List (Addr × Obj)} (G : LG h₀ outer fl) (T : Tabs h₀) {I : Addr} (hI : h₀.objs.size ≤ I) : LG h₀ outer (fl.filter fun p => p.1 != I) := by
  have ok : ∀ {a : Addr} {o : Obj}, h₀.get? a = some o → (a != I) = true := fun e => bne_iff_ne.mpr (Nat.ne_of_lt (Nat.lt_of_lt_of_le (Heap.lt_size e) hI))
  obtain ⟨ps1, t1, k1⟩ := T.one
  obtain ⟨ps2, t2, k2⟩ := T.many
  refine ⟨fun a ha => ?_, ?_, ?_⟩
  · obtain ⟨o, sl, es, n, e, d, hm⟩ := G.fr a ha
    exact ⟨o, sl, es, n, e, d, List.mem_filter.mpr ⟨hm, ok e⟩⟩
  · obtain ⟨ps, e, t⟩ := G.one
    exact ⟨ps, List.mem_filter.mpr ⟨e, ok t1⟩, t⟩
  · obtain ⟨ps, e, t⟩ := G.many
    exact ⟨ps, List.mem_filter.mpr ⟨e, ok t2⟩, t⟩

section
variable {h₀ : Heap} {outer : List Env} {L : Addr} {dr : Drawn} {os : OsState} {own own' : List (Addr × Obj)} {m m' : Str → Option Value} {s : Shared} {n : Nat} {b : Heap} {A : Around} {env : Env}
theorem LS.of {fl news : List (Addr × Obj)} (F : Fr (under h₀ outer) L s.heap m) (N : News (under h₀ outer) L s.heap news) (S : Spl fl news own) (G : LG h₀ outer fl) (ab : AllBare s.gens) (hd : s.drawn = dr) (ho : s.os = os) (nd : NDs own) : LS h₀ outer L dr os own m s :=
  ⟨⟨fl, F, S.eq ▸ N, G⟩, ab, hd, ho, nd⟩
theorem LS.sub (S : LS h₀ outer L dr os own m s) (h : ∀ p ∈ own', p ∈ own) : LS h₀ outer L dr os own' m s :=
  let ⟨fl, F, N, G⟩ := S.ex
  ⟨⟨fl, F, fun p hp => N p ((List.mem_append.mp hp).elim (fun x => List.mem_append_left _ (h p x)) fun x => List.mem_append_right _ x), G⟩, S.bare, S.drawn, S.osd, fun p hp => S.nd p (h p hp)⟩
theorem LS.map (S : LS h₀ outer L dr os own m s) (e : ∀ y, m y = m' y) : LS h₀ outer L dr os own m' s := (funext e : m = m') ▸ S
theorem LS.tk {h : Heap} {gs : Array GenState} {d9 : Drawn} {o9 : OsState} {t t' : Nat} (S : LS h₀ outer L dr os own m ⟨h, gs, d9, t, o9⟩) : LS h₀ outer L dr os own m ⟨h, gs, d9, t', o9⟩ := ⟨S.ex, S.bare, S.drawn, S.osd, S.nd⟩
theorem LS.get (S : LS h₀ outer L dr os own m s) {p : Addr × Obj} (hp : p ∈ own) : s.heap.get? p.1 = some p.2 :=
  let ⟨fl, F, N, G⟩ := S.ex
  (N p (List.mem_append_left _ hp)).1
theorem LS.cx (S : LS h₀ outer L dr os own m s) (C : Cx (n + 1) b A outer h₀) (bt : ∀ a, isTab a → b.get? a = none) (hf : env.frame = some L) (hl : env.locals = L) (hk : env.scope.kind = .function) : Cx n b (A.deeper env) (env :: outer) s.heap :=
  let ⟨fl, F, N, G⟩ := S.ex
  Cx.push C bt (C.base bt) F N (Spl.app own) G hf hl hk
theorem LS.ret {P : Value → Heap → Prop} {Q : Value → Shared → Prop} (S : LS h₀ outer L dr os own m s) (C : Cx (n + 1) b A outer h₀) (bt : ∀ a, isTab a → b.get? a = none) (hf : env.frame = some L)
    (k : ∀ r s', LS h₀ outer L dr os own m s' → Af (env :: outer) s.heap s'.heap → P r s'.heap → Q r s') : Ret (env :: outer) s P Q :=
  let ⟨fl, F, N, G⟩ := S.ex
  fun r h' g' tk' af ab hp => let ⟨fl', F', N', G'⟩ := behind C bt F N (Spl.app own) G S.nd hf af
    k r ⟨h', g', s.drawn, tk', s.os⟩ ⟨⟨fl', F', N', G'⟩, ab, S.drawn, S.osd, S.nd⟩ af hp

theorem cell_nd {o : Obj} {v : Option Value} (h : o.data = .cell v) : (∀ es k, o.data ≠ .dict es k) ∧ ∀ ps, o ≠ tabO ps :=
  ⟨fun es k q => (by rw [h] at q; cases q), fun ps q => (by rw [q] at h; cases h)⟩
theorem nds_in {l : List (Addr × Obj)} (h : NDs l) {a : Addr} {o : Obj} (h1 : (∀ es k, o.data ≠ .dict es k) ∧ ∀ ps, o ≠ tabO ps) : NDs ((a, o) :: l) := nds_cons h1.1 h1.2 h
theorem nds_sub {l l' : List (Addr × Obj)} (h : NDs l) (k : ∀ p ∈ l', p ∈ l) : NDs l' := fun p hp => h p (k p hp)
end

section
variable {prog : Program} {w : World} {h₀ : Heap} {outer : List Env} {L : Addr} {dr : Drawn} {os : OsState} {own own' : List (Addr × Obj)} {m m' : Str → Option Value} {s : Shared} {n : Nat} {b : Heap} {A : Around} {env : Env} {E : Value → Shared → Prop}
abbrev iterO (l : Addr) (i : Nat) : Obj := { cls := .type "list_iterator", data := .fields #[.ref l, .int i 0] }
def IsIt (o : Obj) (l : Addr) (i : Nat) : Prop := o.cls = .type "list_iterator" ∧ o.data = .fields #[.ref l, .int i 0]
theorem LS.at_it {I l : Addr} {i : Nat} {o : Obj} {h' : Heap} (S : LS h₀ outer L dr os ((I, o) :: own) m s) (C : Cx (n + 1) b A outer h₀) (hI : ∀ p ∈ own, p.1 ≠ I) (hn : h₀.objs.size ≤ I) (hit : h'.IsListIter I l i) (sb : Heap.SameBut I s.heap h') :
    ∃ o', IsIt o' l i ∧ LS h₀ outer L dr os ((I, o') :: own) m { s with heap := h' } := by
  obtain ⟨fl, F, N, G⟩ := S.ex
  obtain ⟨o', e, c, d⟩ := hit
  have hL := (N _ (.head _)).2.1
  have hg := (N _ (.head _)).2.2
  have nd' := S.nd
  refine ⟨o', ⟨c, d⟩, ⟨fl.filter fun p => p.1 != I, ⟨?_, ?_, F.above⟩, fun p hp => ?_, G.only C.tb hn⟩, S.bare, S.drawn, S.osd, nds_in (nds_sub S.nd fun p hp => .tail _ hp) ⟨fun es k q => (by rw [d] at q; cases q), fun ps q => (by rw [q] at c; cases c)⟩⟩
  · obtain ⟨oL, es, ep, q1, q2⟩ := F.ns
    exact ⟨oL, es, ep, (sb.2 _ (Ne.symm hL)).trans q1, q2⟩
  · intro a ob q
    refine sb.extBut _ _ (fun z => ?_) (F.keep a ob q)
    rw [z, hg] at q; cases q
  · have old : ∀ p, p ∈ (I, o) :: (own ++ fl) → p.1 ≠ I → h'.get? p.1 = some p.2 ∧ p.1 ≠ L ∧ (under h₀ outer).get? p.1 = none := fun p hp hne => ⟨(sb.2 _ hne).trans (N p hp).1, (N p hp).2⟩
    rcases List.mem_append.mp hp with hp | hp
    · rcases List.mem_cons.mp hp with rfl | hp
      · exact ⟨e, hL, hg⟩
      · exact old p (.tail _ (List.mem_append_left _ hp)) (hI p hp)
    · have := List.mem_filter.mp hp
      exact old p (.tail _ (List.mem_append_right _ this.1)) (bne_iff_ne.mp this.2)
theorem LS.drop_it {I : Addr} {o : Obj} {h' : Heap} (S : LS h₀ outer L dr os ((I, o) :: own) m s) (C : Cx (n + 1) b A outer h₀) (hI : ∀ p ∈ own, p.1 ≠ I) (hn : h₀.objs.size ≤ I) (sb : Heap.ExtBut I s.heap h') : LS h₀ outer L dr os own m { s with heap := h' } := by
  obtain ⟨fl, F, N, G⟩ := S.ex
  have hL := (N _ (.head _)).2.1
  have hg := (N _ (.head _)).2.2
  refine ⟨⟨fl.filter fun p => p.1 != I, ⟨?_, ?_, F.above⟩, fun p hp => ?_, G.only C.tb hn⟩, S.bare, S.drawn, S.osd, nds_sub S.nd fun p hp => .tail _ hp⟩
  · obtain ⟨oL, es, ep, q1, q2⟩ := F.ns
    exact ⟨oL, es, ep, sb _ _ (Ne.symm hL) q1, q2⟩
  · intro a ob q
    refine sb _ _ (fun z => ?_) (F.keep a ob q)
    rw [z, hg] at q; cases q
  · have old : ∀ p, p ∈ (I, o) :: (own ++ fl) → p.1 ≠ I → h'.get? p.1 = some p.2 ∧ p.1 ≠ L ∧ (under h₀ outer).get? p.1 = none := fun p hp hne => ⟨sb _ _ hne (N p hp).1, (N p hp).2⟩
    rcases List.mem_append.mp hp with hp | hp
    · exact old p (.tail _ (List.mem_append_left _ hp)) (hI p hp)
    · have := List.mem_filter.mp hp
      exact old p (.tail _ (List.mem_append_right _ this.1)) (bne_iff_ne.mp this.2)

/-- for x in l: .. -/
theorem LS.for_list {l : Addr} {vs : List Value} {nx : Nat} {x : Str} {px : Pos} {body : List Stmt} {Q : Flow → Shared → Prop} (J : Nat → List (Addr × Obj) → (Str → Option Value) → Prop)
    (hh : A.handled = none) {A₀ : Around} (C : Cx (n + 1) b A₀ outer h₀) (S : LS h₀ outer L dr os own m s) (hl : ∀ i own₁ m₁, J i own₁ m₁ → (l, listOf vs.toArray nx) ∈ own₁ ∧ own₁.map (·.1) = own.map (·.1)) (h0 : J 0 own m)
    (step : ∀ i v own₁ m₁ q s₁, (∃ fs, q.2.data = .fields fs ∧ q.2.cls = .type "list_iterator") → vs[i]? = some v → J i own₁ m₁ → LS h₀ outer L dr os (q :: own₁) m₁ s₁ →
      wpAny (model prog w) A (assign (.Name x px) env v) (fun _ s₂ => wpQ (model prog w) A (execs body env) (fun f s₃ => match f with
        | .next | .cont => ∃ own₂ m₂, J (i + 1) own₂ m₂ ∧ LS h₀ outer L dr os (q :: own₂) m₂ s₃
        | .brk => False
        | .ret v => Q (.ret v) s₃) (fun _ _ => False) s₂) (fun _ _ => False) s₁)
    (fin : ∀ own₁ m₁ s₁, J vs.length own₁ m₁ → LS h₀ outer L dr os own₁ m₁ s₁ → Q .next s₁) :
    wpAny (model prog w) A (pyIter (.ref l)) (fun it s₂ => codeQ (model prog w) A (.forLoop (.Name x px) it body [] env) (fun r s' => match r with | .ok f => Q f s' | .error e => False) s₂) E s := by
  have hm := (hl 0 own m h0).1
  have hls : s.heap.IsList l vs.toArray := ⟨_, S.get hm, rfl, nx, rfl⟩
  refine wpAny_pyIter_list hls ?_
  have hlt : ∀ p ∈ own, p.1 < s.heap.objs.size := fun p hp => Heap.lt_size (S.get hp)
  have hI : ∀ own₁ : List (Addr × Obj), own₁.map (·.1) = own.map (·.1) → ∀ p ∈ own₁, p.1 ≠ s.heap.objs.size := fun own₁ e p hp => by
    have : p.1 ∈ own.map (·.1) := e ▸ List.mem_map.mpr ⟨p, hp, rfl⟩
    obtain ⟨q, hq, e⟩ := List.mem_map.mp this
    exact e ▸ Nat.ne_of_lt (hlt q hq)
  have hn : h₀.objs.size ≤ s.heap.objs.size := by
    obtain ⟨fl, F, N, G⟩ := S.ex
    exact Nat.le_trans (Nat.le_trans (Nat.le_of_eq under_size.symm) F.above) (Nat.le_of_lt F.ns.lt)
  have S0 : LS h₀ outer L dr os ((s.heap.objs.size, iterO l 0) :: own) m { s with heap := s.heap.push (iterO l 0) } := by
    obtain ⟨fl, F, N, G⟩ := S.ex
    exact ⟨⟨fl, fr_kp F (fun b o e => Heap.get?_push_of_some _ e), news_new F N (fun b o e => Heap.get?_push_of_some _ e) (Heap.get?_push_size _ rfl), G⟩, S.bare, S.drawn, S.osd, nds_cons (fun _ _ q => nomatch q) (fun _ q => nomatch q) S.nd⟩
  refine codeQ_forLoop (fun k s' => ∃ i own₁ m₁ o, k + i = vs.length ∧ J i own₁ m₁ ∧ IsIt o l i ∧ LS h₀ outer L dr os ((s.heap.objs.size, o) :: own₁) m₁ s') ?_ vs.length ⟨0, own, m, iterO l 0, Nat.add_zero _, h0, ⟨rfl, rfl⟩, S0⟩
  rintro k s' ⟨i, own₁, m₁, o, hk, hJ, ho, S₁⟩
  obtain ⟨hm₁, hmap⟩ := hl i own₁ m₁ hJ
  have hls₁ : s'.heap.IsList l vs.toArray := ⟨_, S₁.get (.tail _ hm₁), rfl, nx, rfl⟩
  have hit : s'.heap.IsListIter s.heap.objs.size l i := ⟨o, S₁.get (.head _), ho.1, ho.2⟩
  rcases Nat.lt_or_ge i vs.length with hi | hi
  · obtain ⟨v, hv⟩ : ∃ v, vs[i]? = some v := ⟨vs[i], by simp [hi]⟩
    refine wpAny_pyNext_list_item hit hls₁ (x := v) (by simpa using hv) fun h' hit' sb => ?_
    obtain ⟨o', ho', S₂⟩ := S₁.at_it C (hI own₁ hmap) hn hit' sb
    refine wpAny_mono (step i v own₁ m₁ _ _ ⟨_, ho'.2, ho'.1⟩ hv hJ S₂) (fun _ s₂ h₂ => wpQ_mono h₂ (fun f s₃ h₃ => ?_) fun _ _ x => x) fun _ _ x => x
    cases f with
    | next => obtain ⟨own₂, m₂, hJ₂, S₃⟩ := h₃; exact ⟨k - 1, by omega, i + 1, own₂, m₂, o', by omega, hJ₂, ho', S₃⟩
    | cont => obtain ⟨own₂, m₂, hJ₂, S₃⟩ := h₃; exact ⟨k - 1, by omega, i + 1, own₂, m₂, o', by omega, hJ₂, ho', S₃⟩
    | brk => exact h₃.elim
    | ret v => exact h₃
  · have e : i = vs.length := by omega
    subst e
    refine wpAny_pyNext_list_end hh hit hls₁ (by simp) fun h' he' => ?_
    exact fin own₁ m₁ _ hJ (S₁.drop_it C (hI own₁ hmap) hn he')
end
abbrev upd (m : Str → Option Value) (x : Str) (v : Value) : Str → Option Value := fun y => if y = x then some v else m y
theorem upd_say {m : Str → Option Value} {x : Str} {v : Value} (e : m x = some v) : upd m x v = m := funext fun y => by
  show (if y = x then some v else m y) = m y
  split
  · rename_i h; rw [h, e]
  · rfl
theorem LS.to {h₀ : Heap} {outer : List Env} {L : Addr} {dr : Drawn} {os : OsState} {own : List (Addr × Obj)} {m m' : Str → Option Value} {s : Shared} (S : LS h₀ outer L dr os own m s) (e : m = m') : LS h₀ outer L dr os own m' s := e ▸ S
abbrev baO (bs : Array UInt8) : Obj := { cls := .type "bytearray", data := .bytearray bs }
/-- the data, bytes or a bytearray of the ledger -/
def DX (X : List (Addr × Obj)) (v : Value) (bs : Array UInt8) : Bool → Prop
  | false => ∃ t, v = .bytes bs t
  | true => ∃ a, v = .ref a ∧ (a, baO bs) ∈ X
theorem DX.mono {X Y : List (Addr × Obj)} {v : Value} {bs : Array UInt8} {soft : Bool} (D : DX X v bs soft) (h : ∀ p ∈ X, p ∈ Y) : DX Y v bs soft := by
  cases soft with
  | false => exact D
  | true => obtain ⟨a, e, hm⟩ := D; exact ⟨a, e, h _ hm⟩
theorem LS.data {h₀ : Heap} {outer : List Env} {L : Addr} {dr : Drawn} {os : OsState} {own : List (Addr × Obj)} {m : Str → Option Value} {s : Shared} (S : LS h₀ outer L dr os own m s) {v : Value} {bs : Array UInt8} {soft : Bool} (D : DX own v bs soft) : DataAt s.heap v bs soft := by
  cases soft with
  | false => exact D
  | true => obtain ⟨a, e, hm⟩ := D; exact ⟨a, e, _, _, S.get hm, rfl, rfl, rfl⟩
theorem LS.dataH {h₀ : Heap} {outer : List Env} {L : Addr} {dr : Drawn} {os : OsState} {own : List (Addr × Obj)} {m : Str → Option Value} {h : Heap} {gs : Array GenState} {d9 : Drawn} {o9 : OsState} {t : Nat} (S : LS h₀ outer L dr os own m ⟨h, gs, d9, t, o9⟩) {v : Value} {bs : Array UInt8} {soft : Bool} (D : DX own v bs soft) : DataAt h v bs soft := S.data D
theorem LS.listH {h₀ : Heap} {outer : List Env} {L : Addr} {dr : Drawn} {os : OsState} {own : List (Addr × Obj)} {m : Str → Option Value} {h : Heap} {gs : Array GenState} {d9 : Drawn} {o9 : OsState} {t : Nat} (S : LS h₀ outer L dr os own m ⟨h, gs, d9, t, o9⟩) {l : Addr} {vs : List Value} {nx : Nat} (hm : (l, listOf vs.toArray nx) ∈ own) : h.IsList l vs.toArray := ⟨_, S.get hm, rfl, nx, rfl⟩
theorem data_af {n : Nat} {b h h' : Heap} {A : Around} {outer : List Env} {v : Value} {bs : Array UInt8} {soft : Bool} (D : DataAt h v bs soft) (C : Cx n b A outer h) (x : Af outer h h') : DataAt h' v bs soft := by
  cases soft with
  | false => exact D
  | true =>
    obtain ⟨a, e, o, k, h1, h2, h3, h4⟩ := D
    exact ⟨a, e, o, k, x.get C h1 (fun es j q => by rw [h3] at q; cases q) (fun q => by rw [h2] at q; cases q), h2, h3, h4⟩
theorem list_af {n : Nat} {b h h' : Heap} {A : Around} {outer : List Env} {l : Addr} {vs : Array Value} (H : h.IsList l vs) (C : Cx n b A outer h) (x : Af outer h h') : h'.IsList l vs := by
  obtain ⟨o, e, c, k, d⟩ := H
  exact ⟨o, x.get C e (fun es j q => by rw [d] at q; cases q) (fun q => by rw [c] at q; cases q), c, k, d⟩
theorem ints_af {n : Nat} {b h h' : Heap} {A : Around} {outer : List Env} {r : Value} {ns : List Int} (H : ∃ l vs, r = .ref l ∧ h.IsList l (List.toArray vs) ∧ IntsAre vs ns) (C : Cx n b A outer h) (x : Af outer h h') : ∃ l vs, r = .ref l ∧ h'.IsList l (List.toArray vs) ∧ IntsAre vs ns :=
  let ⟨l, vs, e, H, i⟩ := H
  ⟨l, vs, e, list_af H C x, i⟩
def NCc (c : Addr) (own : List (Addr × Obj)) : Prop := ∀ p ∈ own, p.1 ≠ c ∨ ∀ v, p.2.data ≠ .cell v
theorem ncc_nil {c : Addr} : NCc c [] := fun _ m => nomatch m
theorem ncc_cons {c a : Addr} {o : Obj} {l : List (Addr × Obj)} (h : a ≠ c ∨ ∀ v, o.data ≠ .cell v) (H : NCc c l) : NCc c ((a, o) :: l) := fun p hp => by
  rcases List.mem_cons.mp hp with rfl | hp
  · exact h
  · exact H p hp
/-- no cell among them -/
def NC (X : List (Addr × Obj)) : Prop := ∀ p ∈ X, ∀ v, p.2.data ≠ .cell v
theorem NC.at {X : List (Addr × Obj)} (h : NC X) {c : Addr} : NCc c X := fun p hp => .inr (h p hp)
theorem LS.storeCell {M : Model} {A₁ A : Around} {n : Nat} {b h₀ h : Heap} {outer : List Env} {L a c : Addr} {dr : Drawn} {os : OsState} {own1 own2 : List (Addr × Obj)} {m : Str → Option Value} {gs : Array GenState} {d9 : Drawn} {o9 : OsState} {t t' : Nat} {o : Obj} {v0 : Option Value} {v cd : Value} {x name : Str} {scope : Scope} {Q : Unit → Shared → Prop} {E : Value → Shared → Prop}
    (S : LS h₀ outer L dr os (own1 ++ (c, o) :: own2) m ⟨h, gs, d9, t, o9⟩) (C : Cx n b A₁ outer h₀) (hc : (cellsFrom (L + 1) scope.names []).lookup x = some c) (hLc : L < c) (hd : o.data = .cell v0) (h1 : NCc c (own1 ++ own2))
    (k : ∀ h' o', o'.data = .cell (some v) → LS h₀ outer L dr os (own1 ++ (c, o') :: own2) m ⟨h', gs, d9, t', o9⟩ → Q () ⟨h', gs, d9, t', o9⟩) (hk : scope.kind = .function := by rfl) (hl : (envOfC name scope L a cd).kindOf x = some .cell := by rfl) :
    wpAny M A (storeName (envOfC name scope L a cd) x v) Q E ⟨h, gs, d9, t', o9⟩ := by
  obtain ⟨fl, F, N, G⟩ := S.ex
  have hm : (c, o) ∈ own1 ++ (c, o) :: own2 := List.mem_append_right _ (.head _)
  have hmem := N _ (List.mem_append_left _ hm)
  have hn : h₀.objs.size ≤ c := Nat.le_trans (Nat.le_trans (Nat.le_of_eq under_size.symm) F.above) (Nat.le_of_lt hLc)
  refine wpAny_storeName_cell hk hl hc ⟨o, hmem.1, hd⟩ fun h' hv hs => ?_
  obtain ⟨o', ho', hd'⟩ := hv
  have old : ∀ p, p ∈ (own1 ++ (c, o) :: own2) ++ fl → p.1 ≠ c → h'.get? p.1 = some p.2 ∧ p.1 ≠ L ∧ (under h₀ outer).get? p.1 = none := fun p hp hne => ⟨(hs.2 _ hne).trans (N p hp).1, (N p hp).2⟩
  have nc : ∀ p, p ∈ own1 ++ own2 → p.1 ≠ c := fun p hp => by
    rcases h1 p hp with h | h
    · exact h
    · intro q
      have hp' : p ∈ own1 ++ (c, o) :: own2 := (List.mem_append.mp hp).elim (fun z => List.mem_append_left _ z) fun z => List.mem_append_right _ (.tail _ z)
      have := S.get hp'
      rw [q] at this
      have e := this.symm.trans hmem.1
      exact h v0 (by rw [Option.some.inj e]; exact hd)
  refine k h' o' hd' ⟨⟨fl.filter fun p => p.1 != c, ⟨F.ns.sameBut hs (Ne.symm hmem.2.1), fun b ob e => (hs.2 b (fun q => ?_)).trans (F.keep b ob e), F.above⟩, fun p hp => ?_, G.only C.tb hn⟩, S.bare, S.drawn, S.osd, fun p hp => ?_⟩
  · rw [q, hmem.2.2] at e; cases e
  · rcases List.mem_append.mp hp with hp | hp
    · rcases List.mem_append.mp hp with hp | hp
      · exact old p (List.mem_append_left _ (List.mem_append_left _ hp)) (nc p (List.mem_append_left _ hp))
      · rcases List.mem_cons.mp hp with rfl | hp
        · exact ⟨ho', hmem.2⟩
        · exact old p (List.mem_append_left _ (List.mem_append_right _ (.tail _ hp))) (nc p (List.mem_append_right _ hp))
    · have := List.mem_filter.mp hp
      exact old p (List.mem_append_right _ this.1) (bne_iff_ne.mp this.2)
  · rcases List.mem_append.mp hp with hp | hp
    · exact S.nd p (List.mem_append_left _ hp)
    · rcases List.mem_cons.mp hp with rfl | hp
      · exact cell_nd hd'
      · exact S.nd p (List.mem_append_right _ (.tail _ hp))
theorem lt_1 (L : Addr) : L < L + 1 := Nat.lt_succ_self _
theorem lt_2 (L : Addr) : L < L + 2 := Nat.lt_add_of_pos_right (by decide)
theorem lt_3 (L : Addr) : L < L + 3 := Nat.lt_add_of_pos_right (by decide)
theorem ne_13 (L : Addr) : L + 1 ≠ L + 3 := fun q => absurd (Nat.add_left_cancel q) (by decide)
theorem ne_23 (L : Addr) : L + 2 ≠ L + 3 := fun q => absurd (Nat.add_left_cancel q) (by decide)
theorem ne_12 (L : Addr) : L + 1 ≠ L + 2 := fun q => absurd (Nat.add_left_cancel q) (by decide)
theorem LS.drop2 {h₀ : Heap} {outer : List Env} {L : Addr} {dr : Drawn} {os : OsState} {own : List (Addr × Obj)} {m : Str → Option Value} {s : Shared} {p q : Addr × Obj} (S : LS h₀ outer L dr os (p :: q :: own) m s) : LS h₀ outer L dr os (p :: own) m s := S.sub fun r hr => by
  rcases List.mem_cons.mp hr with rfl | hr
  · exact .head _
  · exact .tail _ (.tail _ hr)
/-- a bytearray object, whatever else it bears -/
structure IsBO (o : Obj) (bs : Array UInt8) : Prop where
  cls : o.cls = .type "bytearray"
  data : ∃ x, o.data = .bytearray bs x
  dict : o.dict = none
theorem IsBO.ba {o : Obj} {bs : Array UInt8} {h : Heap} {a : Addr} (H : IsBO o bs) (e : h.get? a = some o) : IsBA h a bs := let ⟨x, d⟩ := H.data; ⟨o, x, e, H.cls, d, H.dict⟩
theorem wpQ_If_l {M : Model} {A : Around} {E : Value → Shared → Prop} {s : Shared} {env : Env} {test body orelse pos} {Q : Flow → Shared → Prop}
    (h : wpQ M A (isTrue test env (eval test env)) (fun b s₂ => if b then wpAny M A (execs body env) Q E s₂ else wpAny M A (execs orelse env) Q E s₂) E s) : wpQ M A (exec (.If test body orelse pos) env) Q E s :=
  wpQ_If (wpQ_mono h (fun b s₂ h₂ => by cases b <;> exact wpQ_of h₂) fun _ _ x => x)
theorem wpQ_Compare_l {M : Model} {A : Around} {E : Value → Shared → Prop} {s : Shared} {env : Env} {l op r pos whole} {Q : Bool → Shared → Prop}
    (h : wpQ M A (eval l env) (fun a s₁ => wpAny M A (eval r env) (fun b s₂ => wpAny M A (compareOp op a b) (fun c s₃ => wpAny M A (truthy c) Q E s₃) E s₂) E s₁) E s)
    (hm : behindInMarks op r = false := by with_unfolding_all rfl) : wpQ M A (isTrue (.Compare l [op] [r] pos) env whole) Q E s :=
  wpQ_isTrue_Compare1 (wpQ_mono h (fun a s₁ h₁ => wpQ_of (wpAny_mono h₁ (fun b s₂ h₂ => wpQ_of (wpAny_mono h₂ (fun c s₃ h₃ => wpQ_of h₃) fun _ _ x => x)) fun _ _ x => x)) fun _ _ x => x) hm
section
variable {h₀ : Heap} {outer : List Env} {L : Addr} {dr : Drawn} {os : OsState} {X : List (Addr × Obj)} {m : Str → Option Value} {s : Shared} {q l k1 k2 k3 k4 : Addr × Obj}
theorem in_1 {p : Addr × Obj} : p ∈ k1 :: k2 :: k3 :: k4 :: q :: X ↔ p ∈ q :: k1 :: k2 :: k3 :: k4 :: X := by
  simp only [List.mem_cons]
  constructor <;> (rintro (h | h | h | h | h | h) <;> simp [h])
theorem in_2 {p : Addr × Obj} : p ∈ k1 :: k2 :: k3 :: k4 :: q :: l :: X ↔ p ∈ q :: l :: k1 :: k2 :: k3 :: k4 :: X := by
  simp only [List.mem_cons]
  constructor <;> (rintro (h | h | h | h | h | h | h) <;> simp [h])
theorem LS.in1 (S : LS h₀ outer L dr os (q :: k1 :: k2 :: k3 :: k4 :: X) m s) : LS h₀ outer L dr os (k1 :: k2 :: k3 :: k4 :: q :: X) m s := S.sub fun _ h => in_1.mp h
theorem LS.out1 (S : LS h₀ outer L dr os (k1 :: k2 :: k3 :: k4 :: q :: X) m s) : LS h₀ outer L dr os (q :: k1 :: k2 :: k3 :: k4 :: X) m s := S.sub fun _ h => in_1.mpr h
theorem LS.in2 (S : LS h₀ outer L dr os (q :: l :: k1 :: k2 :: k3 :: k4 :: X) m s) : LS h₀ outer L dr os (k1 :: k2 :: k3 :: k4 :: q :: l :: X) m s := S.sub fun _ h => in_2.mp h
theorem LS.out2 (S : LS h₀ outer L dr os (k1 :: k2 :: k3 :: k4 :: q :: l :: X) m s) : LS h₀ outer L dr os (q :: l :: k1 :: k2 :: k3 :: k4 :: X) m s := S.sub fun _ h => in_2.mpr h
theorem LS.drop1 (S : LS h₀ outer L dr os (q :: X) m s) : LS h₀ outer L dr os X m s := S.sub fun _ h => .tail _ h
/-- drops what stands behind the first four -/
theorem LS.dropX {Y : List (Addr × Obj)} (S : LS h₀ outer L dr os (k1 :: k2 :: k3 :: k4 :: Y) m s) (h : ∀ p ∈ X, p ∈ Y) : LS h₀ outer L dr os (k1 :: k2 :: k3 :: k4 :: X) m s := S.sub fun p hp => by
  simp only [List.mem_cons] at hp ⊢
  rcases hp with h1 | h1 | h1 | h1 | h1
  · exact .inl h1
  · exact .inr (.inl h1)
  · exact .inr (.inr (.inl h1))
  · exact .inr (.inr (.inr (.inl h1)))
  · exact .inr (.inr (.inr (.inr (h p h1))))
end
end Br
end
-- BrL0
section
open PySem PySem.W PySem.Calls PyProof.Rows
set_option Elab.async false
set_option maxRecDepth 100000
set_option linter.unusedVariables false
namespace Br
/-! the law's statements, by where they stand -/
def defBody : Stmt → List Stmt
  | .FunctionDef _ _ body _ _ _ _ _ _ _ => body
  | .For _ _ body _ _ => body
  | .If _ body _ _ => body
  | _ => []
def elseBody : Stmt → List Stmt
  | .If _ _ e _ => e
  | _ => []
def defScope : Stmt → Scope
  | .FunctionDef _ _ _ _ _ _ scope _ _ _ => scope
  | _ => default
def nth : List Stmt → Nat → Stmt
  | [], _ => .Pass default
  | x :: _, 0 => x
  | _ :: l, n + 1 => nth l n
def lastSt : List Stmt → Stmt
  | [] => .Pass default
  | [x] => x
  | _ :: y :: l => lastSt (y :: l)
def lawDef : Stmt := lastSt PySem.Challenge.rw_br5013_01.row.prog.main.body
def lawBody : List Stmt := defBody lawDef
def lawScope : Scope := defScope lawDef
def outBody : List Stmt := defBody (nth lawBody 3)
def inBody : List Stmt := defBody (nth outBody 2)
def wildBody : List Stmt := defBody (nth inBody 6)
def tameBody : List Stmt := elseBody (nth inBody 6)
def kindBody : List Stmt := defBody (nth wildBody 1)
def cutBody : List Stmt := defBody (nth outBody 3)
def iterOf : Stmt → PySem.Expr
  | .For _ it _ _ _ => it
  | _ => default
def testOf : Stmt → PySem.Expr
  | .If t _ _ _ => t
  | _ => default
abbrev lawEnv (L a : Addr) (cd : Value) : Env := envOfC (Str.ofString "law") lawScope L a cd
theorem lens : (lawBody.length, outBody.length, inBody.length, wildBody.length, tameBody.length, kindBody.length, cutBody.length) = (7, 5, 13, 5, 6, 1, 5) := by decide +kernel
theorem law_cells : cellsFrom 0 lawScope.names [] = [(Str.ofString "key", 2), (Str.ofString "row", 1), (Str.ofString "number", 0)] := by decide +kernel
end Br
end
-- BrTr
section
open PySem PySem.W PySem.Calls PyProof.Rows
set_option Elab.async false
set_option maxRecDepth 100000
set_option linter.unusedVariables false
namespace Br
section
variable {M : Model} {A : Around} {E : Value → Shared → Prop} {s : Shared} {outer l : List Env} {h : Heap} {env : Env} {L : Addr} {cls e : Value} {vs : List Value}

theorem land {Q : Unit → Shared → Prop} (hfr : A.frames = some (env :: outer)) (hf : env.frame = some L) (x : Thrown (env :: outer) h cls vs e s.heap)
    (hQ : ∀ h', Thrown (env :: outer) h cls vs e h' → Q () { s with heap := h' }) :
    wpAny M A (noteFrame e env) (fun _ s₂ => wpAny M A (setFlight e none) Q E s₂) E s := by
  obtain ⟨B, ea, t, rfl, fl, k, T, tn, tt, sl⟩ := x
  exact wpAny_looks_onW hfr hf fl fun h4 hd4 sm4 => wpAny_landsW hd4 fun h5 fl5 sm5 => hQ h5 ⟨B, ea, t, rfl, fl5, k, T, tn, (tt.of_slots sm4).of_slots sm5, (sl.trans sm4).trans sm5⟩

theorem land_again {Q : Unit → Shared → Prop} (x : Thrown l h cls vs e s.heap) (hQ : ∀ h', Thrown l h cls vs e h' → Q () { s with heap := h' }) : wpAny M A (setFlight e none) Q E s := by
  obtain ⟨B, ea, t, rfl, fl, k, T, tn, tt, sl⟩ := x
  exact lands_againW fl fun h5 fl5 sm5 => hQ h5 ⟨B, ea, t, rfl, fl5, k, T, tn, tt.of_slots sm5, sl.trans sm5⟩

theorem Thrown.typeIs {X : String} (x : Thrown l h (.type X) vs e s.heap) : s.TypeIs e X := by
  obtain ⟨B, ea, t, rfl, fl, k, T, tn, tt, sl⟩ := x
  obtain ⟨ob, h1, h2⟩ := fl.there
  exact ⟨ob, h1, h2⟩
end

section
variable {prog : Program} {w : World} {A : Around} {E : Value → Shared → Prop} {s : Shared} {l : List Env} {g h : Heap} {L a : Addr} {m mg mb : Str → Option Value} {e cd : Value} {vs : List Value} {K : Frag} {p : Program} {loose : List Str}
  {X T : String} {x name : Str} {scope : Scope} {np pos : Pos} {b₀ : Stmt} {suite : List Stmt} {rest : List ExceptHandler} {Q : Flow → Shared → Prop}

theorem clause_miss (x9 : Thrown l h (.type X) vs e s.heap) (F : Fr g L s.heap m) (KX : K.In g) (TT : TopRead p loose mg mb g) (ex : nsIn K mainGlobals x = some none) (hv : bootBuiltins x = some (.type T)) (hn : x ≠ "__name__")
    (hexc : isSubtype (.type T) (.type "BaseException") = pure true) (hnt : isSubtype (.type ((Manifest.find? T).elim "type" fun y => y.metatype)) (.type "tuple") = pure false) (hsub : isSubtype (.type X) (.type T) = pure false)
    (h : wpAny (model prog w) A (handleBy e (envOf name scope L a cd) rest) Q E s)
    (hk : scope.kind = .function := by rfl) (hx : (envOf name scope L a cd).kindOf x = some .globalImplicit := by rfl) (hd : (x == ("__debug__" : Str)) = false := by decide) :
    wpAny (model prog w) A (handleBy e (envOf name scope L a cd) (.ExceptHandler (some (.Name x np)) none (b₀ :: suite) pos :: rest)) Q E s := by
  have ty := x9.typeIs
  obtain ⟨B, ea, t, rfl, _⟩ := x9
  exact wpAny_handleBy_builtin (X := X) (T := T) (b := false) hexc hnt hsub (name_B F KX TT ex hv hn ⟨rfl, ty, h⟩ hk hx hd)

theorem clause_hit (x9 : Thrown l h (.type X) vs e s.heap) (F : Fr g L s.heap m) (KX : K.In g) (TT : TopRead p loose mg mb g) (ex : nsIn K mainGlobals x = some none) (hv : bootBuiltins x = some (.type T)) (hn : x ≠ "__name__")
    (hexc : isSubtype (.type T) (.type "BaseException") = pure true) (hnt : isSubtype (.type ((Manifest.find? T).elim "type" fun y => y.metatype)) (.type "tuple") = pure false) (hsub : isSubtype (.type X) (.type T) = pure true)
    (h : ∀ E' h', Thrown l h (.type X) vs e h' → wpAny (model prog w) (A.mark (some e)) (execs (b₀ :: suite) (envOf name scope L a cd)) Q E' { s with heap := h' })
    (hk : scope.kind = .function := by rfl) (hx : (envOf name scope L a cd).kindOf x = some .globalImplicit := by rfl) (hd : (x == ("__debug__" : Str)) = false := by decide) :
    wpAny (model prog w) A (handleBy e (envOf name scope L a cd) (.ExceptHandler (some (.Name x np)) none (b₀ :: suite) pos :: rest)) Q E s := by
  have ty := x9.typeIs
  have x8 := x9
  obtain ⟨B, ea, t, rfl, _⟩ := x9
  exact wpAny_handleBy_builtin (X := X) (T := T) (b := true) hexc hnt hsub (name_B F KX TT ex hv hn ⟨rfl, ty, land_again x8 fun h' y => h _ h' y⟩ hk hx hd)
end
end Br
end
-- BrTs
section
open PySem PySem.W PySem.Calls PyProof.Rows
set_option Elab.async false
set_option maxRecDepth 100000
set_option linter.unusedVariables false
namespace Br
theorem fr_store {g h h' : Heap} {L : Addr} {m m' : Str → Option Value} (F : Fr g L h m) (hn : h'.Ns L m') (sb : Heap.SameBut L h h') : Fr g L h' m' :=
  ⟨hn, fun b o e => sb.extBut b o (fun q => absurd (Heap.lt_size e) (by have := F.above; have q' : b = L := q; rw [q']; exact Nat.not_lt.mpr this)) (F.keep b o e), F.above⟩
theorem news_store {g h h' : Heap} {L : Addr} {news : List (Addr × Obj)} (N : News g L h news) (sb : Heap.SameBut L h h') : News g L h' news := fun p hp =>
  ⟨sb.extBut _ _ (N p hp).2.1 (N p hp).1, (N p hp).2⟩

theorem told_at {l : List Env} {h h6 h7 : Heap} {L : Addr} {m : Str → Option Value} {X : String} {msg : Str} {t : Tok} {e : Value} (x : Thrown l h (.type X) [.str msg t] e h6) (hn : h6.Ns L m) (sb : Heap.SameBut L h6 h7) :
    ∃ ea t0, e = .ref ea ∧ h7.ExcAt ea X (.ref t0) ∧ h7.TupAt t0 [.str msg t] := by
  obtain ⟨B, ea, t0, rfl, fl, k, T, tn, tt, sl⟩ := x
  obtain ⟨oe, vs, h1, h2, h3, h4⟩ := fl.first
  obtain ⟨oL, es, ep, q1, q2, _⟩ := hn
  obtain ⟨ot, n, t1, t2, t3⟩ := tt
  refine ⟨ea, t0, rfl, ⟨oe, vs, sb.extBut _ _ (fun z => ?_) h1, h2, h3, h4⟩, ⟨ot, n, sb.extBut _ _ (fun z => ?_) t1, t2, t3⟩⟩
  · rw [z, q1] at h1; cases h1; rw [q2] at h3; cases h3
  · rw [z, q1] at t1; cases t1; rw [q2] at t3; cases t3

section
variable {prog : Program} {w : World} {A : Around} {E : Value → Shared → Prop} {s : Shared} {l : List Env} {g h : Heap} {L a : Addr} {m mg mb : Str → Option Value} {e cd : Value} {vs : List Value} {K : Frag} {p : Program} {loose : List Str}
  {X T : String} {x n name : Str} {scope : Scope} {np pos : Pos} {b₀ : Stmt} {suite : List Stmt} {rest : List ExceptHandler} {Q : Flow → Shared → Prop}
theorem clause_as (x9 : Thrown l h (.type X) vs e s.heap) (F : Fr g L s.heap m) (KX : K.In g) (TT : TopRead p loose mg mb g) (ex : nsIn K mainGlobals x = some none) (hv : bootBuiltins x = some (.type T)) (hn : x ≠ "__name__")
    (hexc : isSubtype (.type T) (.type "BaseException") = pure true) (hnt : isSubtype (.type ((Manifest.find? T).elim "type" fun y => y.metatype)) (.type "tuple") = pure false) (hsub : isSubtype (.type X) (.type T) = pure true)
    (h : ∀ E' E'' h', Thrown l h (.type X) vs e h' → wpAny (model prog w) (A.mark (some e)) (storeName (envOf name scope L a cd) n e) (fun _ s₃ => wpAny (model prog w) (A.mark (some e)) (execs (b₀ :: suite) (envOf name scope L a cd))
      (fun f s₄ => wpAny (model prog w) A (do bindName (envOf name scope L a cd) n .none; unbindBehindTheSuite (envOf name scope L a cd) n pos) (fun _ s₅ => Q f s₅) E s₄) E' s₃) E'' { s with heap := h' })
    (hk : scope.kind = .function := by rfl) (hx : (envOf name scope L a cd).kindOf x = some .globalImplicit := by rfl) (hd : (x == ("__debug__" : Str)) = false := by decide) :
    wpAny (model prog w) A (handleBy e (envOf name scope L a cd) (.ExceptHandler (some (.Name x np)) (some n) (b₀ :: suite) pos :: rest)) Q E s := by
  have ty := x9.typeIs
  have x8 := x9
  obtain ⟨B, ea, t, rfl, _⟩ := x9
  exact wpAny_handleBy_builtin_as (X := X) (T := T) (b := true) hexc hnt hsub (name_B F KX TT ex hv hn ⟨rfl, ty, land_again x8 fun h' y => h _ _ h' y⟩ hk hx hd)
end
end Br
end
-- BrLt
section
open PySem PySem.W PySem.Calls PyProof.Rows
set_option Elab.async false
set_option maxRecDepth 100000
set_option linter.unusedVariables false
namespace Br
theorem upd_eq {m : Str → Option Value} {x : Str} {v : Value} : upd m x v x = some v := if_pos rfl
theorem upd_ne {m : Str → Option Value} {x y : Str} {v : Value} (h : y ≠ x) : upd m x v y = m y := if_neg h
/-- what the loops ask of the frame's names -/
structure MF (m : Str → Option Value) (many : Nat) (tm : Tok) (v : Value) (soft : Bool) (ln : Addr) : Prop where
  many : m (Str.ofString "many") = some (.int (many : Nat) tm)
  data : m (Str.ofString "data") = some v
  soft : m (Str.ofString "soft") = some (.bool soft)
  nums : m (Str.ofString "numbers") = some (.ref ln)
theorem mf_upd {m : Str → Option Value} {many : Nat} {tm : Tok} {v x' : Value} {soft : Bool} {ln : Addr} (H : MF m many tm v soft ln) {x : Str}
    (h1 : Str.ofString "many" ≠ x := by decide) (h2 : Str.ofString "data" ≠ x := by decide) (h3 : Str.ofString "soft" ≠ x := by decide) (h4 : Str.ofString "numbers" ≠ x := by decide) : MF (upd m x x') many tm v soft ln :=
  ⟨(upd_ne h1).trans H.many, (upd_ne h2).trans H.data, (upd_ne h3).trans H.soft, (upd_ne h4).trans H.nums⟩
section
variable {h₀ : Heap} {outer : List Env} {L a : Addr} {dr : Drawn} {os : OsState} {own own1 own2 : List (Addr × Obj)} {m : Str → Option Value} {n : Nat} {b : Heap} {A A₁ : Around} {M : Model} {s : Shared} {x : Str} {px : Pos} {v cd : Value} {Q : Unit → Shared → Prop} {E : Value → Shared → Prop}
theorem ls_assign (S : LS h₀ outer L dr os own m s) (hx : (lawEnv L a cd).kindOf x = some .local) (k : ∀ s', LS h₀ outer L dr os own (upd m x v) s' → Q () s') : wpAny M A (assign (.Name x px) (lawEnv L a cd) v) Q E s := by
  obtain ⟨fl, F, N, G⟩ := S.ex
  refine wpAny_assign_Name (wpAny_storeName_local (m := m) hx F.ns (fun h7 hn7 sb7 => ?_) (by rfl))
  exact k _ ⟨⟨fl, fr_store F hn7 sb7, news_store N sb7, G⟩, S.bare, S.drawn, S.osd, S.nd⟩
theorem ls_assignC {c : Addr} {o : Obj} {v0 : Option Value} (S : LS h₀ outer L dr os (own1 ++ (c, o) :: own2) m s) (C : Cx n b A₁ outer h₀) (hc : (cellsFrom (L + 1) lawScope.names []).lookup x = some c) (hLc : L < c) (hd : o.data = .cell v0) (h1 : NCc c (own1 ++ own2))
    (k : ∀ s' o', o'.data = .cell (some v) → LS h₀ outer L dr os (own1 ++ (c, o') :: own2) m s' → Q () s') (hl : (lawEnv L a cd).kindOf x = some .cell) : wpAny M A (assign (.Name x px) (lawEnv L a cd) v) Q E s := by
  obtain ⟨h, gs, d9, tk, o9⟩ := s
  exact wpAny_assign_Name (LS.storeCell S C hc hLc hd h1 (fun h' o' d' S' => k _ o' d' S') (by rfl) hl)
end
theorem inBody_eq : inBody = [nth inBody 0, nth inBody 1, nth inBody 2, nth inBody 3, nth inBody 4, nth inBody 5, nth inBody 6, nth inBody 7, nth inBody 8, nth inBody 9, nth inBody 10, nth inBody 11, nth inBody 12] := rfl
theorem wildBody_eq : wildBody = [nth wildBody 0, nth wildBody 1, nth wildBody 2, nth wildBody 3, nth wildBody 4] := rfl
theorem tameBody_eq : tameBody = [nth tameBody 0, nth tameBody 1, nth tameBody 2, nth tameBody 3, nth tameBody 4, nth tameBody 5] := rfl
theorem kindBody_eq : kindBody = [nth kindBody 0] := rfl
theorem cutBody_eq : cutBody = [nth cutBody 0, nth cutBody 1, nth cutBody 2, nth cutBody 3, nth cutBody 4] := rfl
theorem outBody_eq : outBody = [nth outBody 0, nth outBody 1, nth outBody 2, nth outBody 3, nth outBody 4] := rfl
theorem lawBody_eq : lawBody = [nth lawBody 0, nth lawBody 1, nth lawBody 2, nth lawBody 3, nth lawBody 4, nth lawBody 5, nth lawBody 6] := rfl
theorem six_eq : ∃ p, nth inBody 6 = .If (testOf (nth inBody 6)) wildBody tameBody p := ⟨_, rfl⟩
theorem cut_eq : ∃ p, nth outBody 3 = .If (testOf (nth outBody 3)) cutBody [] p := ⟨_, rfl⟩
theorem kinds_eq : ∃ px p, nth wildBody 1 = .For (.Name (Str.ofString "kind") px) (iterOf (nth wildBody 1)) kindBody [] p := ⟨_, _, rfl⟩
theorem nums_eq : ∃ px p, nth outBody 2 = .For (.Name (Str.ofString "number") px) (iterOf (nth outBody 2)) inBody [] p := ⟨_, _, rfl⟩
theorem softs_eq : ∃ px p, nth lawBody 3 = .For (.Name (Str.ofString "soft") px) (iterOf (nth lawBody 3)) outBody [] p := ⟨_, _, rfl⟩
end Br
end
-- BrMk
section
open PySem PySem.W PySem.Calls PyProof.Rows
set_option Elab.async false
set_option maxRecDepth 100000
set_option linter.unusedVariables false
namespace Br
section
variable {prog : Program} {w : World} {A : Around} {E : Value → Shared → Prop} {s : Shared} {R : Result → Shared → Prop} {I : Addr} {fp wr : List Addr} {G : Array GenState → Array GenState → Prop} {n : Nat} {P : Nat → Value → Prop} {St : Nat → Shared → Prop} {val : Nat → Int}
abbrev arr (val : Nat → Int) (n : Nat) : Array UInt8 := byteArr ((List.range n).map val)
theorem arr_size (val : Nat → Int) (n : Nat) : (arr val n).size = n := by rw [byteArr_size]; simp
theorem arr_succ (val : Nat → Int) (i : Nat) : arr val (i + 1) = (arr val i).push (val i).toNat.toUInt8 := by
  unfold arr byteArr
  rw [List.range_succ]
  simp
theorem bytes_loop (W : WalksS prog w A.in1 I fp wr G n P St) (hv : ∀ i v, P i v → ∃ t, v = .int (val i) t) (hr : ∀ i, i < n → 0 ≤ val i ∧ val i < 256) (hz : n ≤ sizeLine) {S : Addr} (hSf : S ∉ fp) :
    ∀ (k i : Nat) (s : Shared), n - i = k → i ≤ n → St i s → s.heap.get? S = some { cls := .type "bytearray", data := .bytearray (arr val i) } →
      (∀ s' t, Moved (S :: wr) G s s' → R (.ok (.ret (.bytes (arr val n) t))) s') → codeAny (model prog w) A (.builtin "bytes.__new__.loop" ⟨[.type "bytes", .ref I, .ref S], []⟩) R s := by
  have hSw : S ∉ wr := fun h => hSf (W.sub _ h)
  have hsub : ∀ b ∈ wr, b ∈ S :: wr := fun b hb => List.mem_cons_of_mem _ hb
  intro k
  induction k with
  | zero =>
    intro i s hk hle st hS hR
    have hin : i = n := by omega
    subst hin
    refine codeAny_builtin F.bm_entry_loop ?_
    rw [Around.under_plainId F.bm_plain_loop _]
    show wpAny _ A.in1 (pyNext (.ref I) >>= _) _ _ s
    refine wpAny_bind (W.done _ _ _ st fun s' hm => ?_)
    have hS' := hm.heap S _ hSw hS
    refine wpAny_bind ?_
    unfold Builtin.Bytes.payload Builtin.Bytes.payload?
    refine wpAny_bind (wpAny_bind (wpAny_load hS' ?_))
    refine wpAny_pure (wpAny_pure ?_)
    refine wpAny_bind (wpAny_mkBytes ?_ (by rw [arr_size]; exact hz))
    show wpAny _ _ (if (Value.type "bytes" == Value.type "bytes") = true then _ else _) _ _ _
    refine bm_if_true (by decide) ?_
    have fin := hR { s' with toks := s'.toks + 1 } s'.toks ((hm.mono hsub).then_heap (Nat.le_succ _) fun b o _ e => e)
    first
      | exact wpAny_pure fin
      | exact wpAny_bind (wpAny_pure (wpAny_pure fin))
  | succ k ih =>
    intro i s hk hle st hS hR
    have hlt : i < n := by omega
    refine codeAny_builtin F.bm_entry_loop ?_
    rw [Around.under_plainId F.bm_plain_loop _]
    show wpAny _ A.in1 (pyNext (.ref I) >>= _) _ _ s
    refine wpAny_bind (W.item i s _ _ hlt st fun v s' hP st' hm => ?_)
    obtain ⟨t, rfl⟩ := hv i v hP
    obtain ⟨h0, h1⟩ := hr i hlt
    have hS' := hm.heap S _ hSw hS
    refine wpAny_bind (wpAny_holding (wpAny_of_eq (rfl : asIndex (.int (val i) t) = pure (val i)) ?_))
    refine wpAny_bind (wpAny_letGo ?_)
    refine bm_if_false (by simp only [Bool.or_eq_false_iff, decide_eq_false_iff_not]; omega) ?_
    refine wpAny_bind ?_
    show wpAny _ _ (updateBytearray S (·.push (val i).toNat.toUInt8)) _ _ _
    unfold updateBytearray
    refine wpAny_bind (wpAny_load hS' ?_)
    show wpAny _ _ (update S (Obj.mapBytearray (·.push (val i).toNat.toUInt8)) >>= fun _ => lookBehind S) _ _ _
    refine wpAny_bind (wpAny_update hS' ?_)
    have hS₂ : (s'.heap.update S (Obj.mapBytearray (·.push (val i).toNat.toUInt8))).get? S = some { cls := .type "bytearray", data := .bytearray (arr val (i + 1)) } := by
      rw [arr_succ]
      exact Heap.get?_update_self (Obj.mapBytearray (·.push (val i).toNat.toUInt8)) hS' rfl
    refine wpAny_lookBehind hS₂ ?_ ?_
    · show (if (arr val (i + 1)).size > sizeLine then some "bytearray:memory" else none) = none
      rw [if_neg]
      rw [arr_size]
      omega
    · have oth : ∀ b o, b ≠ S → s'.heap.get? b = some o → (s'.heap.update S (Obj.mapBytearray (·.push (val i).toNat.toUInt8))).get? b = some o := fun b o hb e => (Heap.get?_update_other _ _ (Ne.symm hb)).trans e
      refine wpAny_pure ⟨plainId_quiet F.bm_plain_loop _, ih (i + 1) _ (by omega) hlt (W.frame _ s' _ s'.toks st' (Nat.le_refl _) fun b hb o e => oth b o (fun z => hSf (z ▸ hb)) e) hS₂ fun s'' t' hm' => ?_⟩
      exact hR s'' t' (((hm.mono hsub).then_heap (Nat.le_refl _) fun b o hb e => oth b o (fun z => hb (z ▸ List.mem_cons_self)) e).trans W.gtrans hm')

/-- the first item is no octet -/
theorem bytes_loop_bad (hh : A.handled = none) (W : WalksS prog w A.in1 I fp wr G n P St) (hv : ∀ i v, P i v → ∃ t, v = .int (val i) t) (hn : 0 < n) (hb : val 0 < 0 ∨ 256 ≤ val 0) {S : Addr} {s : Shared} (st : St 0 s)
    (hR : ∀ s₁ h' tk e vs, Moved wr G s s₁ → Heap.MadeExcOf s₁.heap h' e (.type "ValueError") vs → R (.error (.ref e)) { s₁ with heap := h', toks := tk }) :
    codeAny (model prog w) A (.builtin "bytes.__new__.loop" ⟨[.type "bytes", .ref I, .ref S], []⟩) R s := by
  refine codeAny_builtin F.bm_entry_loop ?_
  rw [Around.under_plainId F.bm_plain_loop _]
  show wpAny _ A.in1 (pyNext (.ref I) >>= _) _ _ s
  refine wpAny_bind (W.item 0 s _ _ hn st fun v s' hP st' hm => ?_)
  obtain ⟨t, rfl⟩ := hv 0 v hP
  refine wpAny_bind (wpAny_holding (wpAny_of_eq (rfl : asIndex (.int (val 0) t) = pure (val 0)) ?_))
  refine wpAny_bind (wpAny_letGo ?_)
  refine bm_if_true (by simp only [Bool.or_eq_true, decide_eq_true_eq]; omega) ?_
  refine wpAny_bind (wpAny_rule ?_)
  have k : ∀ h' tk e vs, Heap.MadeExcOf s'.heap h' e (.type "ValueError") vs → R (.error (.ref e)) { s' with heap := h', toks := tk } := fun h' tk e vs x => hR s' h' tk e vs hm x
  first | exact raiseWords px_Value hh k | exact raiseMade px_Value hh k | exact wpAny_bind (raiseWords px_Value hh k) | exact wpAny_bind (raiseMade px_Value hh k)

/-- what bytes.__new__ needs of a source's type -/
structure SrcT (T : String) : Prop where
  nbytes : typeLookup (.type T) "__bytes__" = pure none
  nindex : typeLookup (.type T) "__index__" = pure none
  nbuffer : typeLookup (.type T) "__buffer__" = pure none
theorem src_tuple : SrcT "tuple" := ⟨by rw [typeLookup_type, builtinLookup_eq_fast]; kernel_rfl, by rw [typeLookup_type, builtinLookup_eq_fast]; kernel_rfl, by rw [typeLookup_type, builtinLookup_eq_fast]; kernel_rfl⟩
theorem src_gen : SrcT "generator" := ⟨by rw [typeLookup_type, builtinLookup_eq_fast]; kernel_rfl, by rw [typeLookup_type, builtinLookup_eq_fast]; kernel_rfl, by rw [typeLookup_type, builtinLookup_eq_fast]; kernel_rfl⟩
def noText (o : Obj) : Prop := ∀ v, o.data ≠ .prim v

/-- bytes(x): x iterable, no text, no buffer -/
theorem bytes_new {T : String} {a : Addr} {o : Obj} {R' : Result → Shared → Prop} (sT : SrcT T) (ho : s.heap.get? a = some o) (hc : o.cls = .type T) (hp : noText o)
    (hit : wpAny (model prog w) A.in1 (pyIter (.ref a)) (fun it s₂ => ∃ I, it = .ref I ∧ (∀ (Q' : Unit → Shared → Prop) (E' : Value → Shared → Prop), Q' () s₂ → wpAny (model prog w) A.in1 (Builtin.Bytes.lengthHint "bytes.__new__" (.ref a)) Q' E' s₂) ∧
      codeAny (model prog w) A (.builtin "bytes.__new__.loop" ⟨[.type "bytes", .ref I, .ref s₂.heap.objs.size], []⟩) R' { s₂ with heap := s₂.heap.push { cls := .type "bytearray", data := .bytearray #[] } }) (fun _ _ => False) s) :
    codeAny (model prog w) A (.call (.builtin "bytes.__new__") ⟨[.type "bytes", .ref a], []⟩) R' s := by
  refine codeAny_of_tree ?_
  show wpAny _ A.in1 (do checkBuiltinCall "bytes.__new__" ⟨[.type "bytes", .ref a], []⟩; again (.builtin "bytes.__new__" ⟨[.type "bytes", .ref a], []⟩)) _ _ s
  refine wpAny_bind (wpAny_of_eq (F.bm_newCall _) (wpAny_pure ⟨plainId_quiet F.bm_plain _, codeAny_builtin F.bm_entry ?_⟩))
  rw [Around.under_plainId F.bm_plain _]
  have hT : s.TypeIs (.ref a) T := ⟨o, ho, hc⟩
  unfold Builtin.«bytes.__new__»
  refine wpAny_bind (wpAny_of_eq (a := true) rfl ?_)
  refine bm_if_false rfl ?_
  refine wpAny_bind (wpAny_of_eq F.bm_sub ?_)
  refine bm_if_false rfl ?_
  refine wpAny_bind (wpAny_of_eq (F.bm_bind _) ?_)
  refine wpAny_bind (wpAny_of_eq (a := ()) rfl ?_)
  refine wpAny_bind (wpAny_of_eq (a := ()) rfl ?_)
  refine bm_if_false rfl ?_
  refine wpAny_bind (wpAny_specialOf hT sT.nbytes ?_)
  refine wpAny_bind (wpAny_bind ?_)
  have hstr : ∀ (Q' : Option Str → Shared → Prop) (E' : Value → Shared → Prop), Q' none s → wpAny (model prog w) A.in1 (asStr? (.ref a)) Q' E' s := fun Q' E' q => by
    show wpAny _ _ (load a >>= _) _ _ _
    refine wpAny_bind (wpAny_load ho ?_)
    cases hd : o.data with
    | prim v => exact absurd hd (hp v)
    | _ => exact wpAny_pure q
  refine hstr _ _ (wpAny_pure ?_)
  refine bm_if_false rfl ?_
  refine wpAny_bind (wpAny_specialOf hT sT.nindex ?_)
  refine bm_if_true rfl ?_
  first
    | show wpAny _ _ (Builtin.Bytes.buffer? "bytes.__new__" (.ref a) true >>= _) _ _ _
    | (refine wpAny_bind ?_; show wpAny _ _ (Builtin.Bytes.buffer? "bytes.__new__" (.ref a) true >>= _) _ _ _)
  refine wpAny_bind ?_
  unfold Builtin.Bytes.buffer?
  refine wpAny_bind (wpAny_specialOf hT sT.nbuffer ?_)
  refine wpAny_bind (wpAny_specialOf hT sT.nbuffer ?_)
  refine wpAny_pure ?_
  refine wpAny_bind (wpAny_tryCatch (wpAny_mono hit (fun it s₂ x => ?_) fun _ _ f => f.elim))
  obtain ⟨I, rfl, hint, main⟩ := x
  refine wpAny_bind (wpAny_holding (hint _ _ ?_))
  refine wpAny_bind ?_
  unfold Builtin.Bytes.newBytearray
  refine wpAny_newObj_type ?_ (Nat.zero_le _)
  first
    | exact wpAny_pure ⟨plainId_quiet F.bm_plain_loop _, main⟩
    | exact wpAny_pure (wpAny_pure ⟨plainId_quiet F.bm_plain_loop _, main⟩)

theorem hint_tuple {x : Value} {Q : Unit → Shared → Prop} (hT : s.TypeIs x "tuple") (h : Q () s) : wpAny (model prog w) A (Builtin.Bytes.lengthHint "bytes.__new__" x) Q E s := by
  unfold Builtin.Bytes.lengthHint
  refine wpAny_bind (wpAny_specialOf hT F.slot_tuple_len.lookup ?_)
  dsimp only
  rw [show splitId "tuple.__len__" = some ("tuple", "__len__") by decide +kernel]
  dsimp only
  refine wpAny_bind (wpAny_isInstance hT (show isSubtype (.type "tuple") (.type "tuple") = pure true by rw [isSubtype_type]; kernel_rfl) ?_)
  refine bm_if_false rfl ?_
  refine bm_if_true (by decide +kernel) ?_
  exact wpAny_pure h
theorem hint_gen {x : Value} {Q : Unit → Shared → Prop} (hT : s.TypeIs x "generator") (h : Q () s) : wpAny (model prog w) A (Builtin.Bytes.lengthHint "bytes.__new__" x) Q E s := by
  unfold Builtin.Bytes.lengthHint
  refine wpAny_bind (wpAny_specialOf hT (show typeLookup (.type "generator") "__len__" = pure none by rw [typeLookup_type, builtinLookup_eq_fast]; kernel_rfl) ?_)
  refine bm_if_false (by decide +kernel) ?_
  refine wpAny_bind (wpAny_specialOf hT (show typeLookup (.type "generator") "__length_hint__" = pure none by rw [typeLookup_type, builtinLookup_eq_fast]; kernel_rfl) ?_)
  exact wpAny_pure h
section
variable {Q : Value → Shared → Prop}
theorem moved_keeps2 {s : Shared} {o₁ o₂ : Obj} {s' : Shared} {G : Array GenState → Array GenState → Prop} {g : Array GenState} {tk : Nat} (m : Moved [(s.heap.push o₁).objs.size, s.heap.objs.size] G { s with heap := (s.heap.push o₁).push o₂, gens := g, toks := tk } s') : Kp s.heap s'.heap := fun b ob e =>
  m.heap b ob (fun hm => by
    have lt := Heap.lt_size e
    simp only [List.mem_cons, List.not_mem_nil, or_false, Heap.size_push] at hm
    rcases hm with z | z
    · exact absurd (z ▸ lt) (Nat.not_lt.mpr (Nat.le_succ _))
    · exact absurd (z ▸ lt) (Nat.lt_irrefl _)) (Heap.get?_push_of_some _ (Heap.get?_push_of_some _ e))
theorem same_rest {s s' : Shared} {wr : List Addr} {h : Heap} {tk : Nat} (m : Moved wr (fun a b => b = a) { s with heap := h, toks := tk } s') : s' = { s with heap := s'.heap, toks := s'.toks } := by
  obtain ⟨h1, h2, h3, h4, _⟩ := m
  cases s'
  simp only at h2 h3 h4
  subst h2 h3 h4
  rfl
theorem call_bytes_tup {t : Addr} {o : Obj} {i : Int} {u : Tok} {nx : Nat} (hh : A.handled = none) (ho : s.heap.get? t = some o) (hc : o.cls = .type "tuple") (hd : o.data = .seq #[.int i u] nx) (h0 : 0 ≤ i) (h1 : i < 256)
    (hQ : ∀ h' t k, Kp s.heap h' → Q (.bytes #[i.toNat.toUInt8] t) { s with heap := h', toks := k }) : wpAny (model prog w) A (call (.type "bytes") [.ref t]) Q E s := by
  refine callType_codes (Q₁ := fun obj s₁ => s₁.TypeIs obj "bytes" ∧ Q obj s₁) F.bm_called (F.bm_typeCall _) F.entry_object_init
    (bytes_new src_tuple ho hc (fun v e => by rw [hd] at e; cases e) ?_) fun obj s₁ h₁ => ⟨h₁.1, F.args_object_init_2 obj _, object_init_meets F.bm_called.init.lookup F.bm_called.made (by decide) prog w A.in1 _ s₁ ⟨h₁.1, rfl, h₁.2⟩⟩
  have hT : s.heap.IsTuple t #[.int i u] := ⟨o, ho, hc, nx, hd⟩
  have lt := Heap.lt_size ho
  refine wpAny_pyIter_tuple hT ⟨_, rfl, fun Q' E' q => hint_tuple (hT.push _).typeIs q, ?_⟩
  have W := (Walks.tuple (prog := prog) (w := w) (A := A.in1.in1) hh s.heap.objs.size t (Nat.ne_of_lt lt) #[.int i u]).toS
  refine bytes_loop (A := A.in1) (val := fun _ => i) W (fun j v e => ?_) (fun _ _ => ⟨h0, h1⟩) (show 1 ≤ sizeLine by decide) (fun hm => ?_) 1 0 _ rfl (Nat.zero_le 1) ⟨⟨_, Heap.get?_push_of_some _ (Heap.get?_push_size _ rfl), rfl, rfl⟩, (hT.push _).push _⟩ (Heap.get?_push_size _ rfl) fun s' t' hm => ?_
  · cases j with
    | zero => simp at e; exact ⟨u, e.symm⟩
    | succ j => simp at e
  · simp only [List.mem_cons, List.not_mem_nil, or_false, Heap.size_push] at hm
    rcases hm with z | z
    · exact absurd z (Nat.succ_ne_self _)
    · exact absurd (z ▸ lt) (Nat.not_lt.mpr (Nat.le_succ _))
  · rw [same_rest hm]
    exact ⟨typeIs_bytes _ _ _, hQ _ _ _ (moved_keeps2 (g := s.gens) hm)⟩
theorem call_bytes_tup_bad {t : Addr} {o : Obj} {i : Int} {u : Tok} {nx : Nat} (hh : A.handled = none) (ho : s.heap.get? t = some o) (hc : o.cls = .type "tuple") (hd : o.data = .seq #[.int i u] nx) (hb : i < 0 ∨ 256 ≤ i)
    (hE : ∀ h' tk e vs, Heap.MadeExcOf s.heap h' e (.type "ValueError") vs → E (.ref e) { s with heap := h', toks := tk }) : wpAny (model prog w) A (call (.type "bytes") [.ref t]) Q E s := by
  refine callType_codes (Q₁ := fun obj s₁ => s₁.TypeIs obj "bytes" ∧ Q obj s₁) F.bm_called (F.bm_typeCall _) F.entry_object_init
    (bytes_new src_tuple ho hc (fun v e => by rw [hd] at e; cases e) ?_) fun obj s₁ h₁ => ⟨h₁.1, F.args_object_init_2 obj _, object_init_meets F.bm_called.init.lookup F.bm_called.made (by decide) prog w A.in1 _ s₁ ⟨h₁.1, rfl, h₁.2⟩⟩
  have hT : s.heap.IsTuple t #[.int i u] := ⟨o, ho, hc, nx, hd⟩
  have lt := Heap.lt_size ho
  refine wpAny_pyIter_tuple hT ⟨_, rfl, fun Q' E' q => hint_tuple (hT.push _).typeIs q, ?_⟩
  have W := (Walks.tuple (prog := prog) (w := w) (A := A.in1.in1) hh s.heap.objs.size t (Nat.ne_of_lt lt) #[.int i u]).toS
  refine bytes_loop_bad (A := A.in1) (val := fun _ => i) hh W (fun j v e => ?_) (Nat.one_pos) hb ?_ fun s₁ h' tk e vs hm hx => ?_
  · cases j with
    | zero => simp at e; exact ⟨u, e.symm⟩
    | succ j => simp at e
  · exact ⟨⟨_, Heap.get?_push_of_some _ (Heap.get?_push_size _ rfl), rfl, rfl⟩, (hT.push _).push _⟩
  · have kk : Kp s.heap s₁.heap := fun b ob q => hm.heap b ob (fun z => by simp at z; exact absurd (z ▸ Heap.lt_size q) (Nat.lt_irrefl _)) (Heap.get?_push_of_some _ (Heap.get?_push_of_some _ q))
    have e1 := same_rest hm
    have := hE h' tk e vs (MadeExcOf.more kk hx)
    rw [e1]
    exact this
end
end
end Br
end
-- BrM1
section
open PySem PySem.W PySem.Calls PyProof.Rows
set_option Elab.async false
set_option maxRecDepth 100000
set_option linter.unusedVariables false
set_option linter.unusedSimpArgs false
set_option pp.deepTerms false
set_option pp.deepTerms.threshold 3
namespace Br
variable {w : World} {n : Nat} {b : Heap} {A : Around} {outer : List Env} {s : Shared} {Q E : Value → Shared → Prop} {p : Program} {loose : List Str} {mg mb : Str → Option Value}
set_option maxHeartbeats 4000000 in
theorem c_int_from_byte (P9 : Pg w p loose mg mb b) (C : Cx (n+1) b A outer s.heap) (g : AllBare s.gens) (v : Value) (k : Ret outer s (fun r _ => r = v) Q) : wpAny (model PySem.Challenge.rw_br5013_01.row.prog w) A (PySem.call (.ref 355) [v]) Q E s := by
  have X := P9.X
  have T := P9.T
  have bt := P9.bt
  revert X
  k_fill
  intro X
  refine' enter_any (f := 355) C X T.nolimit (ho := ?h1) (hcd := ?h2) (hbind := ?h3) (hloc := ?h4) (hcell := ?h5) (hco := ?h6) (hgen := ?h7) (hk := ?h8) (h := ?h9)
  case h1 => k_is
  case h2 => k_is
  case h3 => exact .of_eq rfl
  case h4 => exact locs rfl
  case h5 => decide
  case h6 => rfl
  case h7 => rfl
  case h8 => rfl
  intro L h₁ fl F N G hs
  have hh9 := C.hd
  replace X := X.keeps (C.base bt)
  replace T := T.keeps (C.base bt)
  k_steps
  exact k _ _ _ _ (ends_af F N .nil G C.tb) g rfl

set_option maxHeartbeats 4000000 in
theorem c_min (P9 : Pg w p loose mg mb b) (C : Cx (n+2) b A outer s.heap) (g : AllBare s.gens) (v : Value) (bs : Array UInt8) (soft : Bool) (D : DataAt s.heap v bs soft) (hn : 0 < bs.size) (k : Ret outer s (fun r _ => ∃ k t, r = Value.int k t ∧ k ∈ octs bs ∧ ∀ j ∈ octs bs, k ≤ j) Q) : wpAny (model PySem.Challenge.rw_br5013_01.row.prog w) A (PySem.call (.ref 385) [v]) Q E s := by
  have X := P9.X
  have T := P9.T
  have bt := P9.bt
  revert X
  k_fill
  intro X
  refine' enter_any (f := 385) C X T.nolimit (ho := ?h1) (hcd := ?h2) (hbind := ?h3) (hloc := ?h4) (hcell := ?h5) (hco := ?h6) (hgen := ?h7) (hk := ?h8) (h := ?h9)
  case h1 => k_is
  case h2 => k_is
  case h3 => exact .of_eq rfl
  case h4 => exact locs rfl
  case h5 => decide
  case h6 => rfl
  case h7 => rfl
  case h8 => rfl
  intro L h₁ fl F N G hs
  have hh9 := C.hd
  replace X := X.keeps (C.base bt)
  replace T := T.keeps (C.base bt)
  replace D := under_kp C D
  k_steps
  refine min_data hh9 (D.keeps F.keep) hn fun k0 t h' tk hk1 hk2 kk => ?_
  replace F := fr_kp F kk
  replace N := news_kp N kk
  k_steps
  refine' c_int_from_byte P9 ?hC9_23 ?hg9_23 _ ?hk9_23
  case hC9_23 => exact Cx.push C bt (C.base bt) F N .nil G rfl rfl rfl
  case hg9_23 => exact g
  refine' after C bt F N .nil G nds_nil ?hf9_23 ?_
  case hf9_23 => rfl
  intro r h' g' tk' fl F N S G g hr
  simp only [List.nil_append, List.cons_append] at N
  clear S
  subst hr
  k_steps
  exact k _ _ _ _ (ends_af F N .nil G C.tb) g ⟨_, _, rfl, hk1, hk2⟩

set_option maxHeartbeats 4000000 in
theorem c_min_empty (P9 : Pg w p loose mg mb b) (C : Cx (n+2) b A outer s.heap) (g : AllBare s.gens) (v : Value) (bs : Array UInt8) (soft : Bool) (D : DataAt s.heap v bs soft) (hn : bs.size = 0) (ke : Thr outer s "ValueError" E) : wpAny (model PySem.Challenge.rw_br5013_01.row.prog w) A (PySem.call (.ref 385) [v]) Q E s := by
  have X := P9.X
  have T := P9.T
  have bt := P9.bt
  revert X
  k_fill
  intro X
  refine' enter_any (f := 385) C X T.nolimit (ho := ?h1) (hcd := ?h2) (hbind := ?h3) (hloc := ?h4) (hcell := ?h5) (hco := ?h6) (hgen := ?h7) (hk := ?h8) (h := ?h9)
  case h1 => k_is
  case h2 => k_is
  case h3 => exact .of_eq rfl
  case h4 => exact locs rfl
  case h5 => decide
  case h6 => rfl
  case h7 => rfl
  case h8 => rfl
  intro L h₁ fl F N G hs
  have hh9 := C.hd
  replace X := X.keeps (C.base bt)
  replace T := T.keeps (C.base bt)
  replace D := under_kp C D
  k_steps
  refine min_empty hh9 (D.keeps F.keep) hn fun h' tk e vs x => ?_
  exact raise_up ke C bt F N .nil G rfl rfl rfl g x

set_option maxHeartbeats 4000000 in
theorem c_max (P9 : Pg w p loose mg mb b) (C : Cx (n+2) b A outer s.heap) (g : AllBare s.gens) (v : Value) (bs : Array UInt8) (soft : Bool) (D : DataAt s.heap v bs soft) (hn : 0 < bs.size) (k : Ret outer s (fun r _ => ∃ k t, r = Value.int k t ∧ k ∈ octs bs ∧ ∀ j ∈ octs bs, j ≤ k) Q) : wpAny (model PySem.Challenge.rw_br5013_01.row.prog w) A (PySem.call (.ref 395) [v]) Q E s := by
  have X := P9.X
  have T := P9.T
  have bt := P9.bt
  revert X
  k_fill
  intro X
  refine' enter_any (f := 395) C X T.nolimit (ho := ?h1) (hcd := ?h2) (hbind := ?h3) (hloc := ?h4) (hcell := ?h5) (hco := ?h6) (hgen := ?h7) (hk := ?h8) (h := ?h9)
  case h1 => k_is
  case h2 => k_is
  case h3 => exact .of_eq rfl
  case h4 => exact locs rfl
  case h5 => decide
  case h6 => rfl
  case h7 => rfl
  case h8 => rfl
  intro L h₁ fl F N G hs
  have hh9 := C.hd
  replace X := X.keeps (C.base bt)
  replace T := T.keeps (C.base bt)
  replace D := under_kp C D
  k_steps
  refine max_data hh9 (D.keeps F.keep) hn fun k0 t h' tk hk1 hk2 kk => ?_
  replace F := fr_kp F kk
  replace N := news_kp N kk
  k_steps
  refine' c_int_from_byte P9 ?hC9_40 ?hg9_40 _ ?hk9_40
  case hC9_40 => exact Cx.push C bt (C.base bt) F N .nil G rfl rfl rfl
  case hg9_40 => exact g
  refine' after C bt F N .nil G nds_nil ?hf9_40 ?_
  case hf9_40 => rfl
  intro r h' g' tk' fl F N S G g hr
  simp only [List.nil_append, List.cons_append] at N
  clear S
  subst hr
  k_steps
  exact k _ _ _ _ (ends_af F N .nil G C.tb) g ⟨_, _, rfl, hk1, hk2⟩

set_option maxHeartbeats 4000000 in
theorem c_max_empty (P9 : Pg w p loose mg mb b) (C : Cx (n+2) b A outer s.heap) (g : AllBare s.gens) (v : Value) (bs : Array UInt8) (soft : Bool) (D : DataAt s.heap v bs soft) (hn : bs.size = 0) (ke : Thr outer s "ValueError" E) : wpAny (model PySem.Challenge.rw_br5013_01.row.prog w) A (PySem.call (.ref 395) [v]) Q E s := by
  have X := P9.X
  have T := P9.T
  have bt := P9.bt
  revert X
  k_fill
  intro X
  refine' enter_any (f := 395) C X T.nolimit (ho := ?h1) (hcd := ?h2) (hbind := ?h3) (hloc := ?h4) (hcell := ?h5) (hco := ?h6) (hgen := ?h7) (hk := ?h8) (h := ?h9)
  case h1 => k_is
  case h2 => k_is
  case h3 => exact .of_eq rfl
  case h4 => exact locs rfl
  case h5 => decide
  case h6 => rfl
  case h7 => rfl
  case h8 => rfl
  intro L h₁ fl F N G hs
  have hh9 := C.hd
  replace X := X.keeps (C.base bt)
  replace T := T.keeps (C.base bt)
  replace D := under_kp C D
  k_steps
  refine max_empty hh9 (D.keeps F.keep) hn fun h' tk e vs x => ?_
  exact raise_up ke C bt F N .nil G rfl rfl rfl g x

set_option maxHeartbeats 4000000 in
theorem c_byte (P9 : Pg w p loose mg mb b) (C : Cx (n+1) b A outer s.heap) (g : AllBare s.gens) (i : Int) (u : Tok) (h0 : 0 ≤ i) (h1 : i < 256) (k : Ret outer s (fun r _ => ∃ t, r = Value.bytes #[i.toNat.toUInt8] t) Q) : wpAny (model PySem.Challenge.rw_br5013_01.row.prog w) A (PySem.call (.ref 365) [Value.int i u]) Q E s := by
  have X := P9.X
  have T := P9.T
  have bt := P9.bt
  revert X
  k_fill
  intro X
  refine' enter_any (f := 365) C X T.nolimit (ho := ?h1) (hcd := ?h2) (hbind := ?h3) (hloc := ?h4) (hcell := ?h5) (hco := ?h6) (hgen := ?h7) (hk := ?h8) (h := ?h9)
  case h1 => k_is
  case h2 => k_is
  case h3 => exact .of_eq rfl
  case h4 => exact locs rfl
  case h5 => decide
  case h6 => rfl
  case h7 => rfl
  case h8 => rfl
  intro L h₁ fl F N G hs
  have hh9 := C.hd
  replace X := X.keeps (C.base bt)
  replace T := T.keeps (C.base bt)
  k_steps
  rename_i D h2 F N l1
  refine call_bytes_tup hh9 (N _ (.head _)).1 rfl rfl h0 h1 fun h' t tk kk => ?_
  replace F := fr_kp F kk
  replace N := news_kp N kk
  k_steps
  exact k _ _ _ _ (ends_af F N (.cons _ .nil) G C.tb) g ⟨_, rfl⟩

set_option maxHeartbeats 4000000 in
theorem c_byte_bad (P9 : Pg w p loose mg mb b) (C : Cx (n+1) b A outer s.heap) (g : AllBare s.gens) (i : Int) (u : Tok) (hb : i < 0 ∨ 256 ≤ i) (ke : Thr outer s "ValueError" E) : wpAny (model PySem.Challenge.rw_br5013_01.row.prog w) A (PySem.call (.ref 365) [Value.int i u]) Q E s := by
  have X := P9.X
  have T := P9.T
  have bt := P9.bt
  revert X
  k_fill
  intro X
  refine' enter_any (f := 365) C X T.nolimit (ho := ?h1) (hcd := ?h2) (hbind := ?h3) (hloc := ?h4) (hcell := ?h5) (hco := ?h6) (hgen := ?h7) (hk := ?h8) (h := ?h9)
  case h1 => k_is
  case h2 => k_is
  case h3 => exact .of_eq rfl
  case h4 => exact locs rfl
  case h5 => decide
  case h6 => rfl
  case h7 => rfl
  case h8 => rfl
  intro L h₁ fl F N G hs
  have hh9 := C.hd
  replace X := X.keeps (C.base bt)
  replace T := T.keeps (C.base bt)
  k_steps
  rename_i D h2 F N l1
  refine call_bytes_tup_bad hh9 (N _ (.head _)).1 rfl rfl hb fun h' tk e vs x => ?_
  exact raise_up ke C bt F N (.cons _ .nil) G rfl rfl rfl g x

set_option maxHeartbeats 4000000 in
theorem c_index (P9 : Pg w p loose mg mb b) (C : Cx (n+2) b A outer s.heap) (g : AllBare s.gens) (v : Value) (bs : Array UInt8) (soft : Bool) (i : Int) (u : Tok) (c : UInt8) (D : DataAt s.heap v bs soft) (hr : Builtin.Bytes.fitsIndex i = true) (hx : (seqIndex? i bs.size).bind (bs[·]?) = some c) (k : Ret outer s (fun r _ => ∃ t, r = Value.int c.toNat t) Q) : wpAny (model PySem.Challenge.rw_br5013_01.row.prog w) A (PySem.call (.ref 375) [v, Value.int i u]) Q E s := by
  have X := P9.X
  have T := P9.T
  have bt := P9.bt
  revert X
  k_fill
  intro X
  refine' enter_any (f := 375) C X T.nolimit (ho := ?h1) (hcd := ?h2) (hbind := ?h3) (hloc := ?h4) (hcell := ?h5) (hco := ?h6) (hgen := ?h7) (hk := ?h8) (h := ?h9)
  case h1 => k_is
  case h2 => k_is
  case h3 => exact .of_eq rfl
  case h4 => exact locs rfl
  case h5 => decide
  case h6 => rfl
  case h7 => rfl
  case h8 => rfl
  intro L h₁ fl F N G hs
  have hh9 := C.hd
  replace X := X.keeps (C.base bt)
  replace T := T.keeps (C.base bt)
  replace D := under_kp C D
  k_steps
  refine sub_data (D.keeps F.keep) hr hx ?_ (by with_unfolding_all rfl)
  k_steps
  refine' c_int_from_byte P9 ?hC9_72 ?hg9_72 _ ?hk9_72
  case hC9_72 => exact Cx.push C bt (C.base bt) F N .nil G rfl rfl rfl
  case hg9_72 => exact g
  refine' after C bt F N .nil G nds_nil ?hf9_72 ?_
  case hf9_72 => rfl
  intro r h' g' tk' fl F N S G g hr
  simp only [List.nil_append, List.cons_append] at N
  clear S
  subst hr
  k_steps
  exact k _ _ _ _ (ends_af F N .nil G C.tb) g ⟨_, rfl⟩

set_option maxHeartbeats 4000000 in
theorem c_index_out (P9 : Pg w p loose mg mb b) (C : Cx (n+2) b A outer s.heap) (g : AllBare s.gens) (v : Value) (bs : Array UInt8) (soft : Bool) (i : Int) (u : Tok) (D : DataAt s.heap v bs soft) (hr : Builtin.Bytes.fitsIndex i = true) (hx : (seqIndex? i bs.size).bind (bs[·]?) = none) (ke : Thr outer s "IndexError" E) : wpAny (model PySem.Challenge.rw_br5013_01.row.prog w) A (PySem.call (.ref 375) [v, Value.int i u]) Q E s := by
  have X := P9.X
  have T := P9.T
  have bt := P9.bt
  revert X
  k_fill
  intro X
  refine' enter_any (f := 375) C X T.nolimit (ho := ?h1) (hcd := ?h2) (hbind := ?h3) (hloc := ?h4) (hcell := ?h5) (hco := ?h6) (hgen := ?h7) (hk := ?h8) (h := ?h9)
  case h1 => k_is
  case h2 => k_is
  case h3 => exact .of_eq rfl
  case h4 => exact locs rfl
  case h5 => decide
  case h6 => rfl
  case h7 => rfl
  case h8 => rfl
  intro L h₁ fl F N G hs
  have hh9 := C.hd
  replace X := X.keeps (C.base bt)
  replace T := T.keeps (C.base bt)
  replace D := under_kp C D
  k_steps
  refine sub_data_out hh9 (D.keeps F.keep) hr hx (fun h' tk e vs x => ?_) (by with_unfolding_all rfl)
  exact raise_up ke C bt F N .nil G rfl rfl rfl g x
end Br
end
-- BrGn
section
open PySem PySem.W PySem.Calls PyProof.Rows
set_option Elab.async false
set_option maxRecDepth 100000
set_option linter.unusedVariables false
namespace Br
/-- an iterator over the octets, in every context -/
theorem iter_data_all {prog : Program} {w : World} {A : Around} {E : Value → Shared → Prop} {s : Shared} {v : Value} {bs : Array UInt8} {soft : Bool} {Q : Value → Shared → Prop} (D : DataAt s.heap v bs soft)
    (h : ∀ (o : Obj) (fp : List Addr) (St : Nat → Heap → Prop), (∀ A' : Around, A'.handled = none → Walks prog w A' s.heap.objs.size (s.heap.objs.size :: fp) [s.heap.objs.size] bs.size (fun i v => ∃ c u, bs[i]? = some c ∧ v = .int (c.toNat : Int) u) St) →
      (∀ x ∈ fp, x < s.heap.objs.size ∧ ∃ o', s.heap.get? x = some o' ∧ o'.cls = .type "bytearray") → St 0 (s.heap.push o) → Q (.ref s.heap.objs.size) { s with heap := s.heap.push o }) : wpAny (model prog w) A (pyIter v) Q E s := by
  cases soft with
  | false =>
    obtain ⟨t, rfl⟩ := D
    exact KBw.pyIter_bytes (h _ [] _ (fun A' hh => KBw.walks hh _ bs t) (fun _ m => nomatch m) ⟨_, Heap.get?_push_size _ rfl, rfl, rfl⟩)
  | true =>
    obtain ⟨a, rfl, hB⟩ := D
    have lt : a < s.heap.objs.size := let ⟨_, _, e, _⟩ := hB; Heap.lt_size e
    exact pyIter_ba hB (h _ [a] _ (fun A' hh => walks_ba hh _ a (Nat.ne_of_lt lt) bs) (fun x m => by simp at m; subst m; exact ⟨lt, let ⟨o, _, e, c, _⟩ := hB; ⟨o, e, c⟩⟩) ⟨⟨_, Heap.get?_push_size _ rfl, rfl, rfl⟩, hB.keeps fun b o e => Heap.get?_push_of_some _ e⟩)

/-- a code object of the text's own, and its table's place -/
structure CodeOf (h : Heap) (c P : Addr) : Prop where
  at_ : ∃ o vs file tf flags tg inF text tt, h.get? c = some o ∧ o.cls = .type "code" ∧ o.data = .fields vs ∧ vs[11]? = some (.ref P) ∧ vs.getD 18 .none = .str file tf ∧ vs.getD 7 .none = .int flags tg ∧ vs.getD 9 .none = .bool inF ∧ vs.getD 10 .none = .int text tt
  ne : c ≠ P
theorem CodeOf.keeps {h h' : Heap} {c P : Addr} (x : CodeOf h c P) (k : Kp h h') : CodeOf h' c P := ⟨let ⟨o, vs, a, b, c', d, e, f, g, q, r⟩ := x.at_; ⟨o, vs, a, b, c', d, e, f, g, k _ _ q, r⟩, x.ne⟩
theorem CodeOf.isCode {h : Heap} {c P : Addr} {ps : Array Value} (x : CodeOf h c P) (t : h.get? P = some (tabO ps)) (k : TriplesOk ps.toList) : h.IsCode c P ps := by
  obtain ⟨⟨o, vs, file, tf, flags, tg, inF, text, tt, h1, h2, h3, h4, h5, h6, h7, h8⟩, ne⟩ := x
  exact ⟨o, vs, file, tf, flags, tg, inF, text, tt, _, h1, h3, by rw [Array.getD_eq_getD_getElem?, h4]; rfl, h5, h6, h7, h8, t, rfl, k, ne⟩
theorem CodeOf.tableAt {h : Heap} {c P : Addr} {ps : Array Value} (x : CodeOf h c P) (t : h.get? P = some (tabO ps)) : h.TableAt c P ps := by
  obtain ⟨⟨o, vs, file, tf, flags, tg, inF, text, tt, h1, h2, h3, h4, h5, h6, h7, h8⟩, ne⟩ := x
  exact ⟨⟨o, vs, h1, h2, h3, h4⟩, t⟩

section
variable {prog : Program} {w : World} {A A' : Around} {s : Shared} {c P : Addr} {env : Env} {M : Model} {E : Value → Shared → Prop}
theorem gen_code {pos : Pos} {qual : Str} {scope : Scope} {Q : Value → Shared → Prop} (Tb : Tabs s.heap) (hcode : env.code = .ref c) (hP : isTab P) (K : CodeOf s.heap c P)
    (hQ : ∀ c' h' tk', (∀ b o, b ≠ P → s.heap.get? b = some o → h'.get? b = some o) → Tabs h' → s.heap.objs.size ≤ h'.objs.size → Q c' { s with heap := h', toks := tk' }) :
    wpAny M A' (genexprCode env pos qual scope) Q E s := by
  obtain ⟨ps, hps, hok⟩ : ∃ ps, s.heap.get? P = some (tabO ps) ∧ TriplesOk ps.toList := by
    rcases hP with rfl | rfl
    · exact Tb.one
    · exact Tb.many
  cases hq : codeAmong pos ps.toList with
  | some c' =>
    refine wpAny_genexprCode_hit hcode (K.isCode hps hok) hq ?_
    rw [show s = { s with heap := s.heap, toks := s.toks } from rfl]
    exact hQ c' s.heap s.toks (fun _ _ _ e => e) Tb (Nat.le_refl _)
  | none =>
    refine wpAny_genexprCodeX hcode (K.isCode hps hok) (K.tableAt hps) hq fun c' h' tk' x hge hlt hcode' _ htab _ => ?_
    have htr : TriplesOk (ps ++ #[rawInt pos.line, rawInt pos.col, Value.ref c']).toList := by
      obtain ⟨o, vs, file, tf, flags, tg, inF, text, tt, op, h1, h2, h3, h4, h5, h6, h7, h8, h9, h10, h11⟩ := hcode'
      have e := htab.2
      rw [h8] at e; cases e
      cases h9
      exact h10
    have tabs : Tabs h' := by
      have oth : ∀ a ps', a ≠ P → s.heap.get? a = some (tabO ps') → h'.get? a = some (tabO ps') := fun a ps' ne e => x a _ ne e
      obtain ⟨p1, t1, k1⟩ := Tb.one
      obtain ⟨p2, t2, k2⟩ := Tb.many
      rcases hP with rfl | rfl
      · exact ⟨⟨_, htab.2, htr⟩, ⟨p2, oth _ _ (by decide) t2, k2⟩⟩
      · exact ⟨⟨p1, oth _ _ (by decide) t1, k1⟩, ⟨_, htab.2, htr⟩⟩
    exact hQ (.ref c') h' tk' (fun b o hb e => x b o hb e) tabs (Nat.le_trans hge (Nat.le_of_lt hlt))

theorem led_tabs {outer : List Env} {h₀ g h : Heap} {L : Addr} {news loc fl : List (Addr × Obj)} (N : News g L h news) (S : Spl fl news loc) (G : LG h₀ outer fl) : Tabs h :=
  ⟨let ⟨ps, e, t⟩ := G.one; ⟨ps, (N _ (S.eq ▸ List.mem_append_right _ e)).1, t⟩, let ⟨ps, e, t⟩ := G.many; ⟨ps, (N _ (S.eq ▸ List.mem_append_right _ e)).1, t⟩⟩
/-- over a generator's run -/
theorem gen_af {outer : List Env} {h h₃ hf : Heap} (T0 : Tabs h) (hP : isTab P) (k1 : ∀ b o, b ≠ P → h.get? b = some o → h₃.get? b = some o) (Tb : Tabs h₃) (k2 : ∀ b o, b < h.objs.size → h₃.get? b = some o → hf.get? b = some o) : Af outer h hf := by
  refine ⟨fun a o e _ t => k2 a o (Heap.lt_size e) (k1 a o (fun z => t (z ▸ hP)) e), fun a o e d => ?_, ?_⟩
  · refine ⟨o.slots, k2 a o (Heap.lt_size e) (k1 a o (fun z => ?_) e)⟩
    obtain ⟨ps, q⟩ := tab_fields T0 (z ▸ hP : isTab a)
    rw [q] at e; cases e
    exact d _ rfl
  · obtain ⟨p1, t1, x1⟩ := Tb.one
    obtain ⟨p2, t2, x2⟩ := Tb.many
    obtain ⟨q1, y1⟩ := tab_fields T0 (.inl rfl)
    obtain ⟨q2, y2⟩ := tab_fields T0 (.inr rfl)
    exact ⟨⟨p1, k2 _ _ (Heap.lt_size y1) t1, x1⟩, ⟨p2, k2 _ _ (Heap.lt_size y2) t2, x2⟩⟩

/-- bytes(generator) -/
theorem call_bytes_gen {a : Addr} {g n : Nat} {fp wr : List Addr} {G : Array GenState → Array GenState → Prop} {P : Nat → Value → Prop} {St : Nat → Shared → Prop} {val : Nat → Int} {Q : Value → Shared → Prop}
    (W : WalksS prog w A.in4 a fp wr G n P St) (st : St 0 s) (hg : s.heap.IsGen a g) (hfp : ∀ b ∈ fp, b < s.heap.objs.size) (hv : ∀ i v, P i v → ∃ t, v = .int (val i) t) (hr : ∀ i, i < n → 0 ≤ val i ∧ val i < 256) (hz : n ≤ sizeLine)
    (hQ : ∀ s' t, (∀ b o, b ∉ wr → s.heap.get? b = some o → s'.heap.get? b = some o) → G s.gens s'.gens → s'.drawn = s.drawn → s'.os = s.os → Q (.bytes (arr val n) t) s') : wpAny (model prog w) A (call (.type "bytes") [.ref a]) Q E s := by
  obtain ⟨o, ho, hc, hd⟩ : ∃ o, s.heap.get? a = some o ∧ o.cls = .type "generator" ∧ noText o := by
    obtain ⟨o, nm, qn, h1, h2, h3, _⟩ := hg
    exact ⟨o, h1, h2, fun v e => by rw [h3] at e; cases e⟩
  refine callType_codes (Q₁ := fun obj s₁ => s₁.TypeIs obj "bytes" ∧ Q obj s₁) F.bm_called (F.bm_typeCall _) F.entry_object_init
    (bytes_new src_gen ho hc hd ?_) fun obj s₁ h₁ => ⟨h₁.1, F.args_object_init_2 obj _, object_init_meets F.bm_called.init.lookup F.bm_called.made (by decide) prog w A.in1 _ s₁ ⟨h₁.1, rfl, h₁.2⟩⟩
  have W2 := W.in4_2
  refine W2.self 0 _ _ _ st ⟨_, rfl, fun Q' E' q => hint_gen ⟨o, ho, hc⟩ q, ?_⟩
  have hSf : s.heap.objs.size ∉ fp := fun hm => Nat.lt_irrefl _ (hfp _ hm)
  refine bytes_loop (A := A.in1) W2 hv hr hz hSf n 0 _ rfl (Nat.zero_le _) (W2.frame 0 s _ s.toks st (Nat.le_refl _) fun b _ o e => Heap.get?_push_of_some _ e) (Heap.get?_push_size _ rfl) fun s' t' hm => ?_
  refine ⟨typeIs_bytes _ _ _, hQ s' t' (fun b o hb e => hm.heap b o (fun z => ?_) (Heap.get?_push_of_some _ e)) hm.gens hm.drawn hm.os⟩
  rcases List.mem_cons.mp z with z | z
  · exact absurd (z ▸ Heap.lt_size e) (Nat.lt_irrefl _)
  · exact hb z
theorem call_bytes_gen_bad {a : Addr} {g n : Nat} {fp wr : List Addr} {G : Array GenState → Array GenState → Prop} {P : Nat → Value → Prop} {St : Nat → Shared → Prop} {val : Nat → Int} {Q : Value → Shared → Prop} (hh : A.handled = none)
    (W : WalksS prog w A.in4 a fp wr G n P St) (st : St 0 s) (hg : s.heap.IsGen a g) (hfp : ∀ b ∈ fp, b < s.heap.objs.size) (hv : ∀ i v, P i v → ∃ t, v = .int (val i) t) (hn : 0 < n) (hb : val 0 < 0 ∨ 256 ≤ val 0)
    (hE : ∀ (s₁ : Shared) h' tk e vs, (∀ b o, b ∉ wr → s.heap.get? b = some o → s₁.heap.get? b = some o) → G s.gens s₁.gens → s₁.drawn = s.drawn → s₁.os = s.os → Heap.MadeExcOf s₁.heap h' e (.type "ValueError") vs → E (.ref e) { s₁ with heap := h', toks := tk }) : wpAny (model prog w) A (call (.type "bytes") [.ref a]) Q E s := by
  obtain ⟨o, ho, hc, hd⟩ : ∃ o, s.heap.get? a = some o ∧ o.cls = .type "generator" ∧ noText o := by
    obtain ⟨o, nm, qn, h1, h2, h3, _⟩ := hg
    exact ⟨o, h1, h2, fun v e => by rw [h3] at e; cases e⟩
  refine callType_codes (Q₁ := fun obj s₁ => s₁.TypeIs obj "bytes" ∧ Q obj s₁) F.bm_called (F.bm_typeCall _) F.entry_object_init
    (bytes_new src_gen ho hc hd ?_) fun obj s₁ h₁ => ⟨h₁.1, F.args_object_init_2 obj _, object_init_meets F.bm_called.init.lookup F.bm_called.made (by decide) prog w A.in1 _ s₁ ⟨h₁.1, rfl, h₁.2⟩⟩
  have W2 := W.in4_2
  refine W2.self 0 _ _ _ st ⟨_, rfl, fun Q' E' q => hint_gen ⟨o, ho, hc⟩ q, ?_⟩
  refine bytes_loop_bad (A := A.in1) hh W2 hv hn hb (W2.frame 0 s _ s.toks st (Nat.le_refl _) fun b _ o e => Heap.get?_push_of_some _ e) fun s₁ h' tk e vs hm hx => ?_
  exact hE s₁ h' tk e vs (fun b o hb e => hm.heap b o hb (Heap.get?_push_of_some _ e)) hm.gens hm.drawn hm.os hx
def env0 (L : Addr) : Env := { scope := { kind := .function, names := [], isGenerator := false, isCoroutine := false }, locals := L, globals := mainGlobals, cells := [], qual := Str.ofString "", func := none, code := .none, frame := some L, builtins := builtinsNs }
theorem passing_all (n : Nat) : passing (fun _ => true) n 0 = List.range n := by unfold passing; simp
theorem passing_val {bs : Array UInt8} {key : Int} {j : Nat} {y : Value} (h : ∃ i, (passing (fun _ => true) bs.size 0)[j]? = some i ∧ ∃ c u, bs[i]? = some c ∧ y = Value.int (Builtin.bitXor (c.toNat : Int) key) u) : ∃ t, y = Value.int (Builtin.bitXor ((octs bs).getD j 0) key) t := by
  obtain ⟨i, e, c, u, hc, rfl⟩ := h
  rw [passing_all] at e
  have e2 : j = i := by
    rw [List.getElem?_range (by
      rcases Nat.lt_or_ge j bs.size with h | h
      · exact h
      · rw [List.getElem?_eq_none (by simpa using h)] at e; cases e)] at e
    exact Option.some.inj e
  subst e2
  refine ⟨u, ?_⟩
  have : (octs bs).getD j 0 = (c.toNat : Int) := by unfold octs; simp [hc]
  rw [this]
theorem bare_push {g : Array GenState} {gs : GenState} (h : AllBare g) (hb : gs.bare = true) : AllBare (g.push gs) := fun x hx => by
  rcases Array.mem_push.mp hx with hx | rfl
  · exact h x hx
  · exact hb
end
end Br
end
-- BrLp
section
open PySem PySem.W PySem.Calls PyProof.Rows
set_option Elab.async false
set_option maxRecDepth 100000
set_option linter.unusedVariables false
namespace Br
theorem under_list {outer : List Env} {n : Nat} {b : Heap} {A : Around} {h : Heap} (C : Cx n b A outer h) {l : Addr} {vs : Array Value} (H : h.IsList l vs) : (under h outer).IsList l vs := by
  obtain ⟨o, e, c, k, d⟩ := H
  exact ⟨o, C.sees e (fun es k q => by rw [d] at q; cases q) (fun q => by rw [c] at q; cases q), c, k, d⟩
section
variable {prog : Program} {w : World} {A : Around} {E : Value → Shared → Prop} {s : Shared} {env : Env} {g : Heap} {x : Str} {body : List Stmt} {Q : Flow → Shared → Prop} {news : List (Addr × Obj)} {m : Str → Option Value}
/-- a turn's end -/
abbrev TurnEnd (Q : Flow → Shared → Prop) (s : Shared) (K : Heap → Prop) (f : Flow) (s3 : Shared) : Prop := match f with
  | .ret v => Q (.ret v) s3
  | .brk => Q .next s3
  | _ => ∃ h' tk', s3 = { s with heap := h', toks := tk' } ∧ K h'
theorem at_walks {I : Addr} {fp wr : List Addr} {n : Nat} {P : Nat → Value → Prop} {St : Nat → Heap → Prop} (W : Walks prog w A I fp wr n P St) (hst : St 0 s.heap) (hLf : env.locals ∉ fp) (hwr : ∀ b ∈ wr, g.get? b = none) (hnw : ∀ p ∈ news, p.1 ∉ wr)
    (F : Fr g env.locals s.heap m) (N : News g env.locals s.heap news) (J : Nat → (Str → Option Value) → Prop) (h0 : J 0 m)
    (step : ∀ i v m₁ h₁ tk₁ own, i < n → P i v → J i m₁ → Fr g env.locals h₁ (fun y => if y = x then some v else m₁ y) → News g env.locals h₁ (own ++ news) →
      wpAny (model prog w) A (execs body env) (TurnEnd Q s fun h' => ∃ m', Fr g env.locals h' m' ∧ News g env.locals h' (own ++ news) ∧ J (i + 1) m') E { s with heap := h₁, toks := tk₁ })
    (fin : ∀ h' tk m', Fr g env.locals h' m' → News g env.locals h' news → J n m' → Q .next { s with heap := h', toks := tk }) : LoopAt3 prog w A g env x body Q E (.ref I) s := by
  refine ⟨I, fp, wr, n, P, St, m, news, fun i m' nw => nw = news ∧ J i m', rfl, W, hLf, hwr, hnw, hst, F, N, ⟨rfl, h0⟩, ?_, fun h' tk m' news' F' N' _ j => fin h' tk m' F' (j.1 ▸ N') j.2⟩
  rintro i v m₁ news₁ s₁ own ⟨h₁, tk₁, rfl⟩ hi hP ⟨rfl, hJ⟩ _ _ _ F₁ N₁
  refine wpAny_mono (step i v m₁ h₁ tk₁ own hi hP hJ F₁ N₁) (fun f s3 e => ?_) fun _ _ e => e
  have go : ∀ s3 : Shared, (∃ h' tk', s3 = { s with heap := h', toks := tk' } ∧ ∃ m', Fr g env.locals h' m' ∧ News g env.locals h' (own ++ news₁) ∧ J (i + 1) m') → LoopStep2 g env.locals own news₁ (fun m' nw => nw = news₁ ∧ J (i + 1) m') { s with heap := h₁, toks := tk₁ } .next s3 := by
    rintro s3 ⟨h', tk', rfl, m', F', N', j⟩
    exact ⟨rfl, h', tk', m', news₁, rfl, F', N', rfl, rfl, j⟩
  cases f with
  | ret v => exact e
  | brk => exact e
  | next => exact go s3 e
  | cont => exact go s3 e

theorem at_range {R : Addr} {a b c : Int} {t u v : Tok} {n : Nat} (hh : A.handled = none) (hr : IsRange s.heap R a b c t u v) (hsm : Builtin.Range.small a b c = true) (hn : Builtin.Range.rangeSize a b c = (n : Int))
    (F : Fr g env.locals s.heap m) (N : News g env.locals s.heap news) (J : Nat → (Str → Option Value) → Prop) (h0 : J 0 m)
    (step : ∀ i tv m₁ h₁ tk₁ own, i < n → J i m₁ → Fr g env.locals h₁ (fun y => if y = x then some (.int (a + (i : Int) * c) tv) else m₁ y) → News g env.locals h₁ (own ++ news) →
      wpAny (model prog w) A (execs body env) (TurnEnd Q s fun h' => ∃ m', Fr g env.locals h' m' ∧ News g env.locals h' (own ++ news) ∧ J (i + 1) m') E { s with heap := h₁, toks := tk₁ })
    (fin : ∀ h' tk m', Fr g env.locals h' m' → News g env.locals h' news → J n m' → Q .next { s with heap := h', toks := tk }) : wpAny (model prog w) A (pyIter (.ref R)) (fun it s₂ => LoopAt3 prog w A g env x body Q E it s₂) E s := by
  refine wpAny_pyIter_range hr hsm ?_
  have nb : g.get? s.heap.objs.size = none := by
    cases q : g.get? s.heap.objs.size with
    | none => rfl
    | some o => exact absurd (Heap.lt_size (F.keep _ _ q)) (Nat.lt_irrefl _)
  refine at_walks (s := { s with heap := s.heap.push { cls := .type "range_iterator", data := .fields #[rawInt a, rawInt (Builtin.Range.rangeSize a b c), rawInt c] } }) (Walks.range hh s.heap.objs.size a c n) ?_ ?_ ?_ ?_ (F.push _) (News.pushKeep N _) J h0 (fun i v m₁ h₁ tk₁ own hi hP hJ F₁ N₁ => ?_) fun h' tk m' F' N' j => fin h' tk m' F' N' j
  · show IsRangeIter _ _ _ _ _
    have : (s.heap.push { cls := .type "range_iterator", data := .fields #[rawInt a, rawInt (Builtin.Range.rangeSize a b c), rawInt c] }).get? s.heap.objs.size = some _ := Heap.get?_push_size _ rfl
    rw [hn] at this
    rw [hn]
    simpa using this
  · intro hm
    simp only [List.mem_singleton] at hm
    exact absurd (hm ▸ F.ns.lt) (Nat.lt_irrefl _)
  · intro b' hb
    simp only [List.mem_singleton] at hb
    exact hb ▸ nb
  · intro p hp hm
    simp only [List.mem_singleton] at hm
    exact absurd (hm ▸ Heap.lt_size (N p hp).1) (Nat.lt_irrefl _)
  · obtain ⟨tv, rfl⟩ := hP
    exact step i tv m₁ h₁ tk₁ own hi hJ F₁ N₁
theorem at_list {l : Addr} {vs : List Value} {ns : List Int} (hh : A.handled = none) (hl : g.IsList l vs.toArray) (hi : IntsAre vs ns)
    (F : Fr g env.locals s.heap m) (N : News g env.locals s.heap news) (J : Nat → (Str → Option Value) → Prop) (h0 : J 0 m)
    (step : ∀ i k tv m₁ h₁ tk₁ own, ns[i]? = some k → J i m₁ → Fr g env.locals h₁ (fun y => if y = x then some (.int k tv) else m₁ y) → News g env.locals h₁ (own ++ news) →
      wpAny (model prog w) A (execs body env) (TurnEnd Q s fun h' => ∃ m', Fr g env.locals h' m' ∧ News g env.locals h' (own ++ news) ∧ J (i + 1) m') E { s with heap := h₁, toks := tk₁ })
    (fin : ∀ h' tk m', Fr g env.locals h' m' → News g env.locals h' news → J ns.length m' → Q .next { s with heap := h', toks := tk }) : wpAny (model prog w) A (pyIter (.ref l)) (fun it s₂ => LoopAt3 prog w A g env x body Q E it s₂) E s := by
  have hl' : s.heap.IsList l vs.toArray := let ⟨o, e, r⟩ := hl; ⟨o, F.keep _ _ e, r⟩
  refine wpAny_pyIter_list hl' ?_
  have nb : g.get? s.heap.objs.size = none := by
    cases q : g.get? s.heap.objs.size with
    | none => rfl
    | some o => exact absurd (Heap.lt_size (F.keep _ _ q)) (Nat.lt_irrefl _)
  have lt : l < g.objs.size := let ⟨o, e, _⟩ := hl; Heap.lt_size e
  have lt2 : l < s.heap.objs.size := let ⟨o, e, _⟩ := hl'; Heap.lt_size e
  have hlen : vs.toArray.size = ns.length := by simpa using hi.length
  refine at_walks (s := { s with heap := s.heap.push { cls := .type "list_iterator", data := .fields #[.ref l, .int 0 0] } }) (n := ns.length) (hlen ▸ Walks.list hh s.heap.objs.size l (Nat.ne_of_lt lt2) vs.toArray) ⟨⟨_, Heap.get?_push_size _ rfl, rfl, rfl⟩, hl'.push _⟩ ?_ ?_ ?_ (F.push _) (News.pushKeep N _) J h0 (fun i v m₁ h₁ tk₁ own hi' hP hJ F₁ N₁ => ?_) fun h' tk m' F' N' j => fin h' tk m' F' N' j
  · intro hm
    simp only [List.mem_cons, List.not_mem_nil, or_false] at hm
    rcases hm with z | z
    · exact absurd (z ▸ F.ns.lt) (Nat.lt_irrefl _)
    · exact absurd (Nat.lt_of_lt_of_le lt F.above) (by rw [z]; exact Nat.lt_irrefl _)
  · intro b' hb
    simp only [List.mem_singleton] at hb
    exact hb ▸ nb
  · intro p hp hm
    simp only [List.mem_singleton] at hm
    exact absurd (hm ▸ Heap.lt_size (N p hp).1) (Nat.lt_irrefl _)
  · obtain ⟨k, tv, rfl, e⟩ := IntsAre.at hi i v (by simpa using hP)
    exact step i k tv m₁ h₁ tk₁ own e hJ F₁ N₁
end
theorem small_range {a b c : Int} (h1 : 0 ≤ a) (h2 : a ≤ 100) (h3 : -100 ≤ b) (h4 : b ≤ 100) (h5 : c = 1 ∨ c = 2) : Builtin.Range.small a b c = true := by
  have hs : 0 ≤ Builtin.Range.rangeSize a b c ∧ Builtin.Range.rangeSize a b c ≤ 101 := by
    unfold Builtin.Range.rangeSize
    rcases h5 with rfl | rfl
    · rw [if_pos (by decide)]; split <;> omega
    · rw [if_pos (by decide)]; split <;> omega
  unfold Builtin.Range.small Builtin.Range.rangeFitsLong
  rcases h5 with rfl | rfl <;> simp <;> omega
theorem map_init {g h : Heap} {L : Addr} {a : Str} {R : Str → Option Value} (F : Fr g L h R) (hR : R a = none) : Fr g L h (fun z => if z = a then none else R z) :=
  fr_map F fun z => by
    by_cases h1 : z = a
    · subst h1; simp [hR]
    · simp [h1]
theorem map_next {g h : Heap} {L : Addr} {a : Str} {x M : Option Value} {R : Str → Option Value} (F : Fr g L h (fun z => if z = a then x else if z = a then M else R z)) : Fr g L h (fun z => if z = a then x else R z) :=
  fr_map F fun z => by
    by_cases h1 : z = a
    · simp [h1]
    · simp [h1]
def IsInts (h : Heap) (r : Value) (ns : List Int) : Prop := ∃ l vs, r = .ref l ∧ h.IsList l (List.toArray vs) ∧ IntsAre vs ns
theorem isInts_of {g h : Heap} {L D : Addr} {ws : List Value} {rest : List (Addr × Obj)} {ns1 ns2 : List Int} {nx : Nat} (N : News g L h ((D, PySem.W.listOf ws.toArray nx) :: rest)) (hI : IntsAre ws ns1) (e : ns1 = ns2) : IsInts h (.ref D) ns2 :=
  ⟨D, ws, rfl, ⟨_, (N _ (.head _)).1, rfl, nx, rfl⟩, e ▸ hI⟩
theorem IsInts.keeps {h h' : Heap} {r : Value} {ns : List Int} (x : IsInts h r ns) (k : Kp h h') : IsInts h' r ns := let ⟨l, vs, e, ⟨o, q, r⟩, i⟩ := x; ⟨l, vs, e, ⟨o, k _ _ q, r⟩, i⟩
theorem list_kp {h h' : Heap} {l : Addr} {a : Array Value} (x : h.IsList l a) (k : Kp h h') : h'.IsList l a := let ⟨o, q, r⟩ := x; ⟨o, k _ _ q, r⟩
def cutL (ns : List Int) (j n : Int) : List Int := if j < 0 then ns else ns.take (j + n).toNat
def FirstAt (ns : List Int) (i j : Int) : Prop := (j = -1 ∧ ∀ j' < ns.length, ns[j']? ≠ some i) ∨ (∃ m : Nat, j = m ∧ ns[m]? = some i ∧ ∀ j' < m, ns[j']? ≠ some i)
def Extreme (ns : List Int) (gr : Bool) (b : Int) : Prop := b ∈ ns ∧ ∀ x ∈ ns, if gr then x ≤ b else b ≤ x
theorem ext_turn {ns : List Int} {gr : Bool} {b0 k0 b1 : Int} {j : Nat} (hno : ∀ j' < j, ∀ x, ns[j']? = some x → if gr then x ≤ b0 else b0 ≤ x) (hj : ns[j]? = some k0) (h1 : if gr then b0 ≤ b1 else b1 ≤ b0) (h2 : if gr then k0 ≤ b1 else b1 ≤ k0) :
    ∀ j' < j + 1, ∀ x, ns[j']? = some x → if gr then x ≤ b1 else b1 ≤ x := fun j' h x hx => by
  rcases Nat.lt_or_ge j' j with h' | h'
  · have := hno j' h' x hx
    cases gr
    · simp only [Bool.false_eq_true, if_false] at *; omega
    · simp only [if_true] at *; omega
  · have e : j' = j := by omega
    subst e
    rw [hj] at hx; cases hx
    exact h2
theorem map_swap {g h : Heap} {L : Addr} {a c : Str} {x x' y : Option Value} {R : Str → Option Value} (F : Fr g L h (fun z => if z = a then x else if z = c then y else if z = a then x' else R z)) (hne : c ≠ a) : Fr g L h (fun z => if z = c then y else if z = a then x else R z) :=
  fr_map F fun z => by
    by_cases h1 : z = a
    · subst h1; simp [Ne.symm hne]
    · by_cases h2 : z = c
      · subst h2; simp [hne]
      · simp [h1, h2]
theorem getD_mem {ns : List Int} (h : 0 < ns.length) : ns.getD 0 0 ∈ ns := by
  cases ns with
  | nil => cases h
  | cons a r => simp
def StripAt (ns : List Int) (i : Int) (m : Nat) : Prop := m ≤ ns.length ∧ (∀ j, m ≤ j → j < ns.length → ns[j]? = some i) ∧ (m = 0 ∨ ns[m - 1]? ≠ some i)
def PairAt (ns e : List Int) (j : Int) : Prop := (j = -1 ∧ ∀ q < ns.length / 2, (ns.drop (2 * q)).take 2 ≠ e) ∨ (∃ q : Nat, j = 2 * q ∧ q < ns.length / 2 ∧ (ns.drop (2 * q)).take 2 = e ∧ ∀ q' < q, (ns.drop (2 * q')).take 2 ≠ e)
end Br
end
-- BrM9
section
open PySem PySem.W PySem.Calls PyProof.Rows
set_option Elab.async false
set_option maxRecDepth 100000
set_option linter.unusedVariables false
set_option linter.unusedSimpArgs false
set_option pp.deepTerms false
set_option pp.deepTerms.threshold 6
namespace Br
local macro_rules | `(tactic| walk_at "Exists") => `(tactic| (refine hold ?_))
local macro_rules | `(tactic| walk_at "exec For") => `(tactic| (refine hold ?_))
local macro_rules | `(tactic| walk_at "exec For Name") => `(tactic| (refine hold ?_))
local macro_rules | `(tactic| walk_at "exec For Name Call") => `(tactic| (refine hold ?_))
local macro_rules | `(tactic| walk_at "exec For Name Call cons") => `(tactic| (refine hold ?_))
local macro_rules | `(tactic| walk_at "exec For Name Call cons nil") => `(tactic| (refine hold ?_))
local macro_rules | `(tactic| walk_at "exec For Name Name") => `(tactic| (refine hold ?_))
local macro_rules | `(tactic| walk_at "exec For Name Name cons") => `(tactic| (refine hold ?_))
local macro_rules | `(tactic| walk_at "exec For Name Name cons nil") => `(tactic| (refine hold ?_))
local macro_rules | `(tactic| walk_at "pyIter ref") => `(tactic| (refine hold ?_))
local macro_rules | `(tactic| walk_at "exec While") => `(tactic| (refine hold ?_))
local macro_rules | `(tactic| walk_at "exec While BoolOp") => `(tactic| (refine hold ?_))
local macro_rules | `(tactic| walk_at "exec While BoolOp And") => `(tactic| (refine hold ?_))
local macro_rules | `(tactic| walk_at "exec While BoolOp cons") => `(tactic| (refine hold ?_))
local macro_rules | `(tactic| walk_at "exec While BoolOp cons nil") => `(tactic| (refine hold ?_))
local macro_rules | `(tactic| walk_at "exec While BoolOp And cons") => `(tactic| (refine hold ?_))
local macro_rules | `(tactic| walk_at "exec While BoolOp And cons nil") => `(tactic| (refine hold ?_))
variable {w : World} {n : Nat} {b : Heap} {A : Around} {outer : List Env} {s : Shared} {Q E : Value → Shared → Prop} {p : Program} {loose : List Str} {mg mb : Str → Option Value}
set_option maxHeartbeats 4000000 in
theorem c_stripped (P9 : Pg w p loose mg mb b) (C : Cx (n+1) b A outer s.heap) (g : AllBare s.gens) (l : Addr) (vs : List Value) (ns : List Int) (i : Int) (u : Tok) (hl : s.heap.IsList l vs.toArray) (hi : IntsAre vs ns) (hz : ns.length ≤ 63) (k : Ret outer s (fun r h' => ∃ m : Nat, StripAt ns i m ∧ IsInts h' r (ns.take m)) Q) : wpAny (model PySem.Challenge.rw_br5013_01.row.prog w) A (PySem.call (.ref 559) [Value.ref l, Value.int i u]) Q E s := by
  have X := P9.X
  have T := P9.T
  have bt := P9.bt
  revert X
  k_fill
  intro X
  refine' enter_any (f := 559) C X T.nolimit (ho := ?h1) (hcd := ?h2) (hbind := ?h3) (hloc := ?h4) (hcell := ?h5) (hco := ?h6) (hgen := ?h7) (hk := ?h8) (h := ?h9)
  case h1 => k_is
  case h2 => k_is
  case h3 => exact .of_eq rfl
  case h4 => exact locs rfl
  case h5 => decide
  case h6 => rfl
  case h7 => rfl
  case h8 => rfl
  intro L h₁ fl F N G hs
  have hh9 := C.hd
  replace X := X.keeps (C.base bt)
  replace T := T.keeps (C.base bt)
  replace F : Fr (under s.heap outer) L h₁ (fun y => List.lookup y [(Str.ofString "sign", Value.int i u), (Str.ofString "row", Value.ref l)]) := F
  replace hl := under_list C hl
  k_steps
  rename_i F N
  refine (show wpAny _ _ _ _ _ _ from ?_)
  refine wpAny_While (codeAny_whileLoop (fun k s' => ∃ h9 tk t1, s' = ⟨h9, s.gens, s.drawn, tk, s.os⟩ ∧ Fr (under s.heap outer) L h9 (fun y => if y = Str.ofString "kept" then some (Value.int (k : Int) t1) else List.lookup y [(Str.ofString "sign", Value.int i u), (Str.ofString "row", Value.ref l)]) ∧
      News (under s.heap outer) L h9 fl ∧ k ≤ ns.length ∧ ∀ j, k ≤ j → j < ns.length → ns[j]? = some i) ?_ ns.length ⟨_, _, _, rfl, F, N, Nat.le_refl _, fun j h1 h2 => absurd h1 (Nat.not_le.mpr h2)⟩)
  rintro k9 s' ⟨h9, tk, t1, rfl, F, N, hle, hall⟩
  k_steps
  · have h0 := (by assumption : (0 : Int) < k9)
    have hq := (by assumption : ns.getD ((k9 : Int) - 1).toNat 0 = i)
    rename_i F8 N8
    have e1 : ((k9 : Int) - 1) = ((k9 - 1 : Nat) : Int) := by omega
    have e2 : ((k9 : Int) - 1).toNat = k9 - 1 := by omega
    rw [e2] at hq
    rw [e1] at F8
    refine ⟨k9 - 1, by omega, _, _, _, rfl, map_next F8, N8, by omega, fun j h1 h2 => ?_⟩
    rcases Nat.lt_or_ge j k9 with h | h
    · have e : j = k9 - 1 := by omega
      subst e
      rw [List.getD_eq_getElem?_getD, List.getElem?_eq_getElem h2] at hq
      rw [List.getElem?_eq_getElem h2]
      exact congrArg some hq
    · exact hall j h h2
  · have h0 := (by assumption : (0 : Int) < k9)
    have hq := (by assumption : ns.getD ((k9 : Int) - 1).toNat 0 ≠ i)
    have e2 : ((k9 : Int) - 1).toNat = k9 - 1 := by omega
    rw [e2] at hq
    exact k _ _ _ _ (ends_af (by assumption) (by assumption) (.cons _ .nil) G C.tb) g ⟨k9, ⟨hle, hall, .inr fun q => hq (by rw [List.getD_eq_getElem?_getD, q]; rfl)⟩, isInts_of (by assumption) (by assumption) rfl⟩
  · have h0 := (by assumption : ¬ (0 : Int) < k9)
    exact k _ _ _ _ (ends_af (by assumption) (by assumption) (.cons _ .nil) G C.tb) g ⟨k9, ⟨hle, hall, .inl (by omega)⟩, isInts_of (by assumption) (by assumption) rfl⟩
end Br
end
-- BrM10
section
open PySem PySem.W PySem.Calls PyProof.Rows
set_option Elab.async false
set_option maxRecDepth 100000
set_option linter.unusedVariables false
set_option linter.unusedSimpArgs false
set_option pp.deepTerms false
set_option pp.deepTerms.threshold 6
namespace Br
local macro_rules | `(tactic| walk_at "Exists") => `(tactic| (refine hold ?_))
local macro_rules | `(tactic| walk_at "exec For") => `(tactic| (refine hold ?_))
local macro_rules | `(tactic| walk_at "exec For Name") => `(tactic| (refine hold ?_))
local macro_rules | `(tactic| walk_at "exec For Name Call") => `(tactic| (refine hold ?_))
local macro_rules | `(tactic| walk_at "exec For Name Call cons") => `(tactic| (refine hold ?_))
local macro_rules | `(tactic| walk_at "exec For Name Call cons nil") => `(tactic| (refine hold ?_))
local macro_rules | `(tactic| walk_at "exec For Name Name") => `(tactic| (refine hold ?_))
local macro_rules | `(tactic| walk_at "exec For Name Name cons") => `(tactic| (refine hold ?_))
local macro_rules | `(tactic| walk_at "exec For Name Name cons nil") => `(tactic| (refine hold ?_))
local macro_rules | `(tactic| walk_at "pyIter ref") => `(tactic| (refine hold ?_))
local macro_rules | `(tactic| walk_at "exec While") => `(tactic| (refine hold ?_))
local macro_rules | `(tactic| walk_at "exec While BoolOp") => `(tactic| (refine hold ?_))
local macro_rules | `(tactic| walk_at "exec While BoolOp And") => `(tactic| (refine hold ?_))
local macro_rules | `(tactic| walk_at "exec While BoolOp cons") => `(tactic| (refine hold ?_))
local macro_rules | `(tactic| walk_at "exec While BoolOp cons nil") => `(tactic| (refine hold ?_))
local macro_rules | `(tactic| walk_at "exec While BoolOp And cons") => `(tactic| (refine hold ?_))
local macro_rules | `(tactic| walk_at "exec While BoolOp And cons nil") => `(tactic| (refine hold ?_))
local macro_rules | `(tactic| walk_at "call type:range") => `(tactic| (refine hold ?_))
local macro_rules | `(tactic| walk_at "subscriptTail Name Slice ref ref") => `(tactic| (k_here; (with_reducible show wpAny _ _ (subscriptTail _ (Expr.Slice (some _) _ _ _) _ _) _ _ _); refine hold ?_))
local macro_rules | `(tactic| walk_at "compareOp Eq ref ref") => `(tactic| (refine hold ?_))
variable {w : World} {n : Nat} {b : Heap} {A : Around} {outer : List Env} {s : Shared} {Q E : Value → Shared → Prop} {p : Program} {loose : List Str} {mg mb : Str → Option Value}
set_option maxHeartbeats 4000000 in
theorem c_cut2 (P9 : Pg w p loose mg mb b) (C : Cx (n+1) b A outer s.heap) (g : AllBare s.gens) (l l2 : Addr) (vs vs2 : List Value) (ns ns2 : List Int) (inc : Bool) (hl : s.heap.IsList l vs.toArray) (hi : IntsAre vs ns) (hl2 : s.heap.IsList l2 vs2.toArray) (hi2 : IntsAre vs2 ns2) (hz : ns.length ≤ 63) (hz2 : ns2.length ≤ 63) (k : Ret outer s (fun r h' => ∃ j, PairAt ns ns2 j ∧ IsInts h' r (cutL ns j (if inc then 2 else 0))) Q) : wpAny (model PySem.Challenge.rw_br5013_01.row.prog w) A (PySem.call (.ref 552) [Value.ref l, Value.ref l2, Value.bool inc]) Q E s := by
  have X := P9.X
  have T := P9.T
  have bt := P9.bt
  revert X
  k_fill
  intro X
  refine' enter_any (f := 552) C X T.nolimit (ho := ?h1) (hcd := ?h2) (hbind := ?h3) (hloc := ?h4) (hcell := ?h5) (hco := ?h6) (hgen := ?h7) (hk := ?h8) (h := ?h9)
  case h1 => k_is
  case h2 => k_is
  case h3 => exact .of_eq rfl
  case h4 => exact locs rfl
  case h5 => decide
  case h6 => rfl
  case h7 => rfl
  case h8 => rfl
  intro L h₁ fl F N G hs
  have hh9 := C.hd
  replace X := X.keeps (C.base bt)
  replace T := T.keeps (C.base bt)
  replace F : Fr (under s.heap outer) L h₁ (fun y => List.lookup y [(Str.ofString "include", Value.bool inc), (Str.ofString "end", Value.ref l2), (Str.ofString "row", Value.ref l)]) := F
  replace hl := under_list C hl
  replace hl2 := under_list C hl2
  k_steps
  refine (show wpAny _ _ _ _ _ _ from ?_)
  refine For_inv3 (under s.heap outer) rfl rfl ?_
  k_steps
  refine (show wpAny _ _ _ _ _ _ from ?_)
  refine range3_rows F N (by decide) (fun h2 t1 u1 v1 hr0 hr F N hk => ?_)
  k_steps
  refine (show wpAny _ _ _ _ _ _ from ?_)
  refine at_range (n := ns.length / 2) hh9 hr (small_range (by omega) (by omega) (by omega) (by omega) (.inr rfl)) (by unfold Builtin.Range.rangeSize; rw [if_pos (by decide)]; split <;> omega) (map_init (a := Str.ofString "k") F rfl) N
    (fun j m' => ∃ M, m' = (fun y => if y = Str.ofString "k" then M else List.lookup y [(Str.ofString "include", Value.bool inc), (Str.ofString "end", Value.ref l2), (Str.ofString "row", Value.ref l)]) ∧ ∀ j' < j, (ns.drop (2 * j')).take 2 ≠ ns2) ⟨none, rfl, fun j' h => absurd h (Nat.not_lt_zero _)⟩ (fun j tv m₁ h₃ tk₃ own hj hJ F₁ N₁ => ?_) (fun h' tk m' F' N' hJ => ?_)
  · obtain ⟨M, rfl, hno⟩ := hJ
    replace F₁ := map_next F₁
    simp only [Int.zero_add] at F₁
    clear F N hr
    k_steps
    refine (show wpAny _ _ _ _ _ _ from ?_)
    refine kmk_slice_ints (s := ⟨_, _, _, _, _⟩) F₁ N₁ (list_kp hl F₁.keep) (.int _ _) (.int _ _) hi (kmk_run hi (by omega) (by omega)) rfl (fun D ws h5 F5 N5 lt5 hI5 hlen5 hle5 => ?_) (by with_unfolding_all rfl) (by intro _; with_unfolding_all rfl) (by rw [sizeLine_eq]; have := hi.length; simp; omega)
    have he : List.take (min ((j : Int) * 2 + 2).toNat ns.length - ((j : Int) * 2).toNat) (List.drop ((j : Int) * 2).toNat ns) = (ns.drop (2 * j)).take 2 := by
      rw [show min ((j : Int) * 2 + 2).toNat ns.length - ((j : Int) * 2).toNat = 2 by omega, show ((j : Int) * 2).toNat = 2 * j by omega]
    rw [he] at hI5
    clear F₁ N₁ hlen5 hle5
    k_steps
    refine (show wpAny _ _ _ _ _ _ from ?_)
    refine eq_intsK (N5.isList (.head _)) hI5 (list_kp hl2 F5.keep) hi2 (by have := C.un; show A.units + 3 + 64 < _; omega) ?_
    k_steps
    · exact k _ _ _ _ (ends_af (by assumption) (by assumption) (.cons _ (.cons _ (Spl.app own))) G C.tb) g ⟨2 * j, .inr ⟨j, rfl, hj, by assumption, hno⟩, isInts_of (by assumption) (by assumption) (by
        unfold cutL
        rw [if_neg (by omega), if_pos (by assumption)]
        congr 1
        omega)⟩
    · exact k _ _ _ _ (ends_af (by assumption) (by assumption) (.cons _ (.cons _ (Spl.app own))) G C.tb) g ⟨2 * j, .inr ⟨j, rfl, hj, by assumption, hno⟩, isInts_of (by assumption) (by assumption) (by
        have hf := (by assumption : inc = false)
        unfold cutL
        rw [if_neg (by omega), hf]
        congr 1
        simp
        omega)⟩
    · exact ⟨_, _, rfl, _, F5, fun p hp => N5 p (.tail _ hp), _, rfl, fun j' h' => (Nat.lt_or_ge j' j).elim (fun h => hno j' h) fun h => by
        have e : j' = j := by omega
        subst e
        assumption⟩
  · obtain ⟨M, rfl, hno⟩ := hJ
    clear F N hr
    k_steps
    exact k _ _ _ _ (ends_af (by assumption) (by assumption) (.cons _ (.cons _ .nil)) G C.tb) g ⟨-1, .inl ⟨rfl, hno⟩, isInts_of (by assumption) (by assumption) (by unfold cutL; simp)⟩
end Br
end
-- BrM8
section
open PySem PySem.W PySem.Calls PyProof.Rows
set_option Elab.async false
set_option maxRecDepth 100000
set_option linter.unusedVariables false
set_option linter.unusedSimpArgs false
set_option pp.deepTerms false
set_option pp.deepTerms.threshold 6
namespace Br
local macro_rules | `(tactic| walk_at "Exists") => `(tactic| (refine hold ?_))
local macro_rules | `(tactic| walk_at "exec For") => `(tactic| (refine hold ?_))
local macro_rules | `(tactic| walk_at "exec For Name") => `(tactic| (refine hold ?_))
local macro_rules | `(tactic| walk_at "exec For Name Call") => `(tactic| (refine hold ?_))
local macro_rules | `(tactic| walk_at "exec For Name Call cons") => `(tactic| (refine hold ?_))
local macro_rules | `(tactic| walk_at "exec For Name Call cons nil") => `(tactic| (refine hold ?_))
local macro_rules | `(tactic| walk_at "exec For Name Name") => `(tactic| (refine hold ?_))
local macro_rules | `(tactic| walk_at "exec For Name Name cons") => `(tactic| (refine hold ?_))
local macro_rules | `(tactic| walk_at "exec For Name Name cons nil") => `(tactic| (refine hold ?_))
local macro_rules | `(tactic| walk_at "pyIter ref") => `(tactic| (refine hold ?_))
variable {w : World} {n : Nat} {b : Heap} {A : Around} {outer : List Env} {s : Shared} {Q E : Value → Shared → Prop} {p : Program} {loose : List Str} {mg mb : Str → Option Value}
set_option maxHeartbeats 4000000 in
theorem c_first (P9 : Pg w p loose mg mb b) (C : Cx (n+1) b A outer s.heap) (g : AllBare s.gens) (l : Addr) (vs : List Value) (ns : List Int) (i : Int) (u : Tok) (hl : s.heap.IsList l vs.toArray) (hi : IntsAre vs ns) (hz : ns.length ≤ 63) (k : Ret outer s (fun r _ => ∃ (j : Int) (t : Tok), r = Value.int j t ∧ FirstAt ns i j) Q) : wpAny (model PySem.Challenge.rw_br5013_01.row.prog w) A (PySem.call (.ref 538) [Value.ref l, Value.int i u]) Q E s := by
  have X := P9.X
  have T := P9.T
  have bt := P9.bt
  revert X
  k_fill
  intro X
  refine' enter_any (f := 538) C X T.nolimit (ho := ?h1) (hcd := ?h2) (hbind := ?h3) (hloc := ?h4) (hcell := ?h5) (hco := ?h6) (hgen := ?h7) (hk := ?h8) (h := ?h9)
  case h1 => k_is
  case h2 => k_is
  case h3 => exact .of_eq rfl
  case h4 => exact locs rfl
  case h5 => decide
  case h6 => rfl
  case h7 => rfl
  case h8 => rfl
  intro L h₁ fl F N G hs
  have hh9 := C.hd
  replace X := X.keeps (C.base bt)
  replace T := T.keeps (C.base bt)
  replace F : Fr (under s.heap outer) L h₁ (fun y => List.lookup y [(Str.ofString "sign", Value.int i u), (Str.ofString "row", Value.ref l)]) := F
  replace hl := under_list C hl
  k_steps
  refine (show wpAny _ _ _ _ _ _ from ?_)
  refine For_inv3 (under s.heap outer) rfl rfl ?_
  k_steps
  rename_i h2 tk2 t1 u1 v1 hr F N hk
  refine (show wpAny _ _ _ _ _ _ from ?_)
  refine at_range (n := ns.length) hh9 hr (small_range (by omega) (by omega) (by omega) (by omega) (.inl rfl)) (by unfold Builtin.Range.rangeSize; rw [if_pos (by decide)]; split <;> omega) (map_init (a := Str.ofString "k") F rfl) N
    (fun j m' => ∃ M, m' = (fun y => if y = Str.ofString "k" then M else List.lookup y [(Str.ofString "sign", Value.int i u), (Str.ofString "row", Value.ref l)]) ∧ ∀ j' < j, ns[j']? ≠ some i) ⟨none, rfl, fun j' h => absurd h (Nat.not_lt_zero _)⟩ (fun j tv m₁ h₃ tk₃ own hj hJ F₁ N₁ => ?_) (fun h' tk m' F' N' hJ => ?_)
  · obtain ⟨M, rfl, hno⟩ := hJ
    replace F₁ := map_next F₁
    simp only [Int.zero_add, Int.mul_one] at F₁
    clear F N
    k_steps
    · exact k _ _ _ _ (ends_af F₁ N₁ (Spl.app own) G C.tb) g ⟨j, tv, rfl, .inr ⟨j, rfl, by simpa [hj] using (by assumption : ns.getD (j : Int).toNat 0 = i), hno⟩⟩
    · exact ⟨_, _, rfl, _, F₁, N₁, _, rfl, fun j' h' => (Nat.lt_or_ge j' j).elim (fun h => hno j' h) fun h => by
        have e : j' = j := by omega
        subst e
        have hne := (by assumption : ns.getD (j' : Int).toNat 0 ≠ i)
        intro q
        simp [q] at hne⟩
  · obtain ⟨M, rfl, hno⟩ := hJ
    clear F N
    k_steps
    exact k _ _ _ _ (ends_af F' N' .nil G C.tb) g ⟨-1, _, rfl, .inl ⟨rfl, hno⟩⟩

set_option maxHeartbeats 4000000 in
theorem c_cut (P9 : Pg w p loose mg mb b) (C : Cx (n+2) b A outer s.heap) (g : AllBare s.gens) (l : Addr) (vs : List Value) (ns : List Int) (i : Int) (u : Tok) (inc : Bool) (hl : s.heap.IsList l vs.toArray) (hi : IntsAre vs ns) (hz : ns.length ≤ 63) (k : Ret outer s (fun r h' => ∃ j, FirstAt ns i j ∧ IsInts h' r (cutL ns j (if inc then 1 else 0))) Q) : wpAny (model PySem.Challenge.rw_br5013_01.row.prog w) A (PySem.call (.ref 545) [Value.ref l, Value.int i u, Value.bool inc]) Q E s := by
  have X := P9.X
  have T := P9.T
  have bt := P9.bt
  revert X
  k_fill
  intro X
  refine' enter_any (f := 545) C X T.nolimit (ho := ?h1) (hcd := ?h2) (hbind := ?h3) (hloc := ?h4) (hcell := ?h5) (hco := ?h6) (hgen := ?h7) (hk := ?h8) (h := ?h9)
  case h1 => k_is
  case h2 => k_is
  case h3 => exact .of_eq rfl
  case h4 => exact locs rfl
  case h5 => decide
  case h6 => rfl
  case h7 => rfl
  case h8 => rfl
  intro L h₁ fl F N G hs
  have hh9 := C.hd
  replace X := X.keeps (C.base bt)
  replace T := T.keeps (C.base bt)
  replace F : Fr (under s.heap outer) L h₁ (fun y => List.lookup y [(Str.ofString "include", Value.bool inc), (Str.ofString "sign", Value.int i u), (Str.ofString "row", Value.ref l)]) := F
  replace hl := under_list C hl
  k_steps
  refine' c_first P9 ?hC9_56 ?hg9_56 l vs ns i u (list_kp hl F.keep) hi hz ?hk9_56
  case hC9_56 => exact Cx.push C bt (C.base bt) F N .nil G rfl rfl rfl
  case hg9_56 => exact g
  refine' after C bt F N .nil G nds_nil ?hf9_56 ?_
  case hf9_56 => rfl
  intro r h' g' tk' fl F N S G g hr
  simp only [List.nil_append, List.cons_append] at N
  clear S
  obtain ⟨j, t, rfl, hj⟩ := hr
  k_steps
  all_goals first
    | exact k _ _ _ _ (ends_af (by assumption) (by assumption) (.cons _ .nil) G C.tb) g ⟨j, hj, isInts_of (by assumption) (by assumption) (by unfold cutL; simp [*])⟩
    | exact k _ _ _ _ (ends_af (by assumption) (by assumption) (.cons _ (.cons _ .nil)) G C.tb) g ⟨j, hj, isInts_of (by assumption) (by assumption) (by unfold cutL; simp [*])⟩

set_option maxHeartbeats 4000000 in
theorem c_extreme (P9 : Pg w p loose mg mb b) (C : Cx (n+1) b A outer s.heap) (g : AllBare s.gens) (l : Addr) (vs : List Value) (ns : List Int) (gr : Bool) (hl : s.heap.IsList l vs.toArray) (hi : IntsAre vs ns) (hz : ns.length ≤ 63) (hn : 0 < ns.length) (k : Ret outer s (fun r _ => ∃ (b : Int) (t : Tok), r = Value.int b t ∧ Extreme ns gr b) Q) : wpAny (model PySem.Challenge.rw_br5013_01.row.prog w) A (PySem.call (.ref 566) [Value.ref l, Value.bool gr]) Q E s := by
  have X := P9.X
  have T := P9.T
  have bt := P9.bt
  revert X
  k_fill
  intro X
  refine' enter_any (f := 566) C X T.nolimit (ho := ?h1) (hcd := ?h2) (hbind := ?h3) (hloc := ?h4) (hcell := ?h5) (hco := ?h6) (hgen := ?h7) (hk := ?h8) (h := ?h9)
  case h1 => k_is
  case h2 => k_is
  case h3 => exact .of_eq rfl
  case h4 => exact locs rfl
  case h5 => decide
  case h6 => rfl
  case h7 => rfl
  case h8 => rfl
  intro L h₁ fl F N G hs
  have hh9 := C.hd
  replace X := X.keeps (C.base bt)
  replace T := T.keeps (C.base bt)
  replace F : Fr (under s.heap outer) L h₁ (fun y => List.lookup y [(Str.ofString "greatest", Value.bool gr), (Str.ofString "row", Value.ref l)]) := F
  replace hl := under_list C hl
  k_steps
  rename_i F N
  refine (show wpAny _ _ _ _ _ _ from ?_)
  refine For_inv3 (under s.heap outer) rfl rfl ?_
  k_steps
  refine (show wpAny _ _ _ _ _ _ from ?_)
  refine at_list hh9 hl hi (map_init (a := Str.ofString "octet") F (by rfl)) N
    (fun j m' => ∃ M b t, m' = (fun y => if y = Str.ofString "octet" then M else if y = Str.ofString "best" then some (Value.int b t) else List.lookup y [(Str.ofString "greatest", Value.bool gr), (Str.ofString "row", Value.ref l)]) ∧ b ∈ ns ∧ ∀ j' < j, ∀ x, ns[j']? = some x → if gr then x ≤ b else b ≤ x) ⟨none, _, _, rfl, ?hb, fun j' h => absurd h (Nat.not_lt_zero _)⟩ (fun j k0 tv m₁ h₃ tk₃ own hj hJ F₁ N₁ => ?_) (fun h' tk m' F' N' hJ => ?_)
  case hb => exact getD_mem hn
  · obtain ⟨M, b0, t0, rfl, hb0, hno⟩ := hJ
    replace F₁ := map_next F₁
    clear F N
    k_steps
    · rename_i F8 N8
      refine ⟨_, _, rfl, _, map_swap F8 (by decide), N8, _, _, _, rfl, List.mem_of_getElem? hj, ext_turn hno hj ?_ ?_⟩
      · have hq := (by assumption : (decide (b0 < k0) == gr) = true)
        have hne := (by assumption : k0 ≠ b0)
        cases gr <;> simp at hq ⊢ <;> omega
      · cases gr <;> simp
    · refine ⟨_, _, rfl, _, F₁, N₁, _, _, _, rfl, hb0, ext_turn hno hj ?_ ?_⟩
      · cases gr <;> simp
      · have hne := (by assumption : k0 = b0)
        cases gr <;> simp <;> omega
    · refine ⟨_, _, rfl, _, F₁, N₁, _, _, _, rfl, hb0, ext_turn hno hj ?_ ?_⟩
      · cases gr <;> simp
      · have hq := (by assumption : (decide (b0 < k0) == gr) = false)
        cases gr <;> simp at hq ⊢ <;> omega
  · obtain ⟨M, b0, t0, rfl, hb0, hno⟩ := hJ
    clear F N
    k_steps
    exact k _ _ _ _ (ends_af F' N' .nil G C.tb) g ⟨b0, _, rfl, hb0, fun x hx => by
      obtain ⟨j', hj'⟩ := List.getElem?_of_mem hx
      exact hno j' (by
        rcases Nat.lt_or_ge j' ns.length with h | h
        · exact h
        · rw [List.getElem?_eq_none h] at hj'; cases hj') x hj'⟩
end Br
end
-- BrAl
section
open PySem PySem.W PySem.Calls PyProof.Rows
set_option Elab.async false
set_option maxRecDepth 100000
set_option linter.unusedVariables false
namespace Br
open Sem (wp)
namespace FA
theorem slot_ba_getattribute : Slot "bytearray" "__getattribute__" "bytearray.__getattribute__" :=
  .of (owner := "bytearray") (n := "__getattribute__") (by rw [typeLookup_type, builtinLookup_eq_fast]; kernel_rfl) (by decide +kernel) (by decide +kernel) (by decide +kernel)
    (by first | exact .inl (by decide +kernel) | exact .inr (by decide +kernel)) (by rw [isSubtype_type]; kernel_rfl)
theorem args_ba_getattribute_2 (a b : Value) : argsOk "bytearray.__getattribute__" ⟨[a, b], []⟩ := by unfold argsOk; kernel_rfl
theorem entry_ba_ga : entryFor table "bytearray.__getattribute__" = some Builtin.«object.__getattribute__» :=
  entryFor_alias (id' := "object.__getattribute__") (by kernel_rfl) (by first | rfl | decide +kernel) (by decide +kernel) (by kernel_rfl)
theorem lk_ba_class : typeLookup (.type "bytearray") "__class__" = pure (some (.builtin "object.__class__")) := by rw [typeLookup_type, builtinLookup_eq_fast]; kernel_rfl
theorem sub_ba_class_owner : isSubtype (.type "bytearray") (.type (".".intercalate ("object.__class__".cutAt '.').dropLast)) = pure true := by
  rw [F.owner_object_class, isSubtype_type]; kernel_rfl
end FA

section
variable {prog : Program} {w : World} {A : Around} {E : Value → Shared → Prop} {h : Heap} {g : Array GenState} {d : Drawn} {t : Nat} {os : OsState} {a : Addr} {o : Obj}

theorem class_get_ba {R : Result → Shared → Prop} (hx : h.get? a = some o) (hc : o.cls = .type "bytearray") (hq : R (.ok (.ret (.type "bytearray"))) ⟨h, g, d, t, os⟩) :
    codeAny (model prog w) A (.call (.builtin "getset_descriptor.__get__") ⟨[.builtin "object.__class__", .ref a, .type "bytearray"], []⟩) R ⟨h, g, d, t, os⟩ := by
  have hT : (⟨h, g, d, t, os⟩ : Shared).TypeIs (.ref a) "bytearray" := ⟨_, hx, hc⟩
  have hT5 : (⟨h, g, d, t, os⟩ : Shared).TypeIs (.builtin "object.__class__") "getset_descriptor" := F.typeOf_object_class
  have f8 := FA.sub_ba_class_owner
  refine codeAny_call_builtin F.slot_gs_get.plain F.entry_gs_get (F.slot_gs_get.check _ _ _ _ _ _ _ _ hT5 (F.args_gs_get _ _ _) ?_)
  repeat (any_goals (first | assumption | wp_step))
  refine ⟨Code.quiet_builtin _ (by decide +kernel), codeAny_builtin F.entry_object_class ?_⟩
  repeat (any_goals (first | assumption | wp_step))

theorem class_entry_ba {tk : Tok} {Q : Fin → Shared → Prop} (hx : h.get? a = some o) (hc : o.cls = .type "bytearray") (hq : Q (.done (.ret (.type "bytearray"))) ⟨h, g, d, t, os⟩) :
    wpAny (model prog w) A (Builtin.«object.__getattribute__» ⟨[.ref a, .str "__class__" tk], []⟩) Q E ⟨h, g, d, t, os⟩ := by
  have hT : (⟨h, g, d, t, os⟩ : Shared).TypeIs (.ref a) "bytearray" := ⟨_, hx, hc⟩
  have hT5 : (⟨h, g, d, t, os⟩ : Shared).TypeIs (.builtin "object.__class__") "getset_descriptor" := F.typeOf_object_class
  have f4 := FA.lk_ba_class
  have f5 := F.typeOf_object_class
  have f6 := F.slot_gs_get.lookup
  have f7 := F.slot_gs_set.lookup
  repeat (any_goals (first | assumption | wp_step))
  refine class_get_ba hx hc ?_
  repeat (any_goals (first | assumption | wp_step))

theorem class_call_ba {tk : Tok} {R : Result → Shared → Prop} (hx : h.get? a = some o) (hc : o.cls = .type "bytearray") (hq : R (.ok (.ret (.type "bytearray"))) ⟨h, g, d, t, os⟩) :
    codeAny (model prog w) A (.call (.builtin "bytearray.__getattribute__") ⟨[.ref a, .str "__class__" tk], []⟩) R ⟨h, g, d, t, os⟩ :=
  codeAny_call_builtin FA.slot_ba_getattribute.plain FA.entry_ba_ga (FA.slot_ba_getattribute.check _ _ _ _ _ _ _ _ (show (⟨h, g, d, t, os⟩ : Shared).TypeIs (.ref a) "bytearray" from ⟨_, hx, hc⟩) (FA.args_ba_getattribute_2 _ _) (class_entry_ba hx hc hq))

theorem class_by_ba {tk : Tok} {Q : Value → Shared → Prop} (hx : h.get? a = some o) (hc : o.cls = .type "bytearray") (hq : Q (.type "bytearray") ⟨h, g, d, t, os⟩) : wpAny (model prog w) A (getAttrBy (.ref a) (.str "__class__" tk) false) Q E ⟨h, g, d, t, os⟩ := by
  have hT : (⟨h, g, d, t, os⟩ : Shared).TypeIs (.ref a) "bytearray" := ⟨_, hx, hc⟩
  have f2 := FA.slot_ba_getattribute.lookup
  have f3 := FA.slot_ba_getattribute.bind (.ref a)
  repeat (any_goals (first | assumption | wp_step))
  refine class_call_ba hx hc ?_
  repeat (any_goals (first | assumption | wp_step))

theorem class_attr_ba {Q : Option Value → Shared → Prop} (hx : h.get? a = some o) (hc : o.cls = .type "bytearray") (hq : Q (some (.type "bytearray")) ⟨h, g, d, t + 1, os⟩) : wpAny (model prog w) A (getAttr? (.ref a) "__class__") Q E ⟨h, g, d, t, os⟩ := by
  unfold getAttr? getAttrBy?
  repeat (any_goals (first | assumption | with_reducible apply class_by_ba hx hc | wp_step))

end
theorem kitx_ba {K : Frag} {a : Addr} : KitX K (.ref a) (.type "bytearray") (KitAt a "bytearray") := kitx_of kitAt_ty (fun {_ _ _ _ _ s} p k => by obtain ⟨h, g, d, t, os⟩ := s; obtain ⟨o, h1, h2⟩ := p; exact class_attr_ba h1 h2 k)

section
variable {K : Frag} {prog : Program} {w : World} {A : Around} {E : Value → Shared → Prop} {s : Shared} {Q : Value → Shared → Prop} {bs : Array UInt8}
theorem isi_ba {a : Addr} {T : String} {b : Bool} (X : K.In s.heap) (hB : IsBA s.heap a bs) (e : kitOne K (.type "bytearray") (.type T) = some b) (h : ∀ tk, Q (.bool b) { s with toks := tk }) :
    wpAny (model prog w) A (call (.builtin "isinstance") [.ref a, .type T]) Q E s :=
  kia_one kitx_ba X (by obtain ⟨o, x, ho, hc, _⟩ := hB; exact ⟨_, ho, hc⟩) e (fun h => by cases h) h
theorem isi_by {n : Array UInt8} {u : Tok} {T : String} {b : Bool} (X : K.In s.heap) (e : kitOne K (.type "bytes") (.type T) = some b) (h : ∀ tk, Q (.bool b) { s with toks := tk }) :
    wpAny (model prog w) A (call (.builtin "isinstance") [.bytes n u, .type T]) Q E s :=
  kia_one kitx_bytes X trivial e (fun h => by cases h) h
end
end Br
end
-- BrLc
section
open PySem PySem.W PySem.Calls PyProof.Rows
set_option Elab.async false
set_option maxRecDepth 100000
set_option linter.unusedVariables false
namespace Br
section
variable {prog : Program} {w : World} {A : Around} {E : Value → Shared → Prop} {s : Shared} {g : Heap} {L : Addr} {m : Str → Option Value} {news : List (Addr × Obj)} {env : Env}

theorem ints_of_get : ∀ {vs : List Value} {ns : List Int}, vs.length = ns.length → (∀ (j : Nat) (v : Value), vs[j]? = some v → ∃ (n : Int) (t : Tok), ns[j]? = some n ∧ v = Value.int n t) → IntsAre vs ns
  | [], [], _, _ => .nil
  | [], _ :: _, h, _ => by simp at h
  | _ :: _, [], h, _ => by simp at h
  | v :: vs, n :: ns, h, k => by
    obtain ⟨n', t, e, rfl⟩ := k 0 v rfl
    cases (by simpa using e : n = n')
    exact .cons _ t (ints_of_get (by simpa using h) fun j u hu => by simpa using k (j + 1) u (by simpa using hu))

theorem paired_eq {α : Type} : ∀ {l₁ l₂ : List α}, Paired (fun a b => b = a) l₁ l₂ → l₂ = l₁
  | _, _, .nil => rfl
  | _, _, .cons h t => by rw [h, paired_eq t]

theorem listComp_data {iter : Expr} {x : Str} {px pe : Pos} {scope : Scope} {pos : Pos} {Q : Value → Shared → Prop} (hh : A.handled = none) (F₀ : Fr g L s.heap m) (N₀ : News g L s.heap news)
    (hfree : ∀ y ∈ scope.names, y.2 ≠ .free) (hcell : ∀ y ∈ scope.names, y.2 ≠ .cell) (hkind : scope.kind = .function)
    (hnames : ∀ y ∈ scope.names, y.2 = .local → scope.names.lookup y.1 = some .local) (hx : scope.names.lookup x = some .local) (hdb : (x == ("__debug__" : Str)) = false)
    (h : wpAny (model prog w) A (eval iter env) (fun v s₁ => ∃ bs soft, DataAt s₁.heap v bs soft ∧ bs.size ≤ sizeLine ∧ Fr g L s₁.heap m ∧ News g L s₁.heap news ∧
      (∀ D vs h' tk, Fr g L h' m → News g L h' news → h'.IsList D vs.toArray → IntsAre vs (octs bs) → Q (.ref D) { s₁ with heap := h', toks := tk })) E s)
    (hs : ∀ x, foldedSetIterable iter env x = pure x) :
    wpAny (model prog w) A (eval (.ListComp (.Name x pe) [⟨.Name x px, iter, [], 0⟩] scope pos) env) Q E s := by
  refine wpAny_ListComp_walk (fun _ => true) (fun v r => r = v) hfree hcell hkind hnames hx (wpAny_mono h (fun xv s₁ h₁ => ?_) fun _ _ e => e) hs
  obtain ⟨bs, soft, D, hsz, F, N, hQ⟩ := h₁
  refine iter_data hh D fun o fp St W hfp hst => ?_
  have up : ∀ (h' : Heap), (∀ b o', b ∉ [s₁.heap.objs.size] → (s₁.heap.push o).get? b = some o' → h'.get? b = some o') → ∀ b o', s₁.heap.get? b = some o' → h'.get? b = some o' :=
    fun h' hk b o' e => hk b o' (old_not_new e) (Heap.get?_push_of_some _ e)
  refine ⟨s₁.heap.objs.size, _, [s₁.heap.objs.size], bs.size, _, St, rfl, W, hsz, hst, ?_, ⟨?_, ?_⟩, ?_⟩
  · intro b hb
    show b < (s₁.heap.push o).objs.size
    rw [Heap.size_push]
    rcases List.mem_cons.mp hb with rfl | hb
    · exact Nat.lt_succ_self _
    · exact Nat.lt_succ_of_lt (hfp _ hb)
  · intro C i v s₃ m₃ E' hP hn hm _ _
    exact wpAny_pure ⟨rfl, ⟨_, _, rfl, fun _ _ e => e⟩⟩
  · intro C i v s₃ m₃ E' hP hp hn hm _ _
    refine wpAny_Name (wpAny_loadName_local hkind hx hn hm ⟨rfl, ⟨_, _, rfl, fun _ _ e => e⟩⟩) hdb
  · intro D' h' tk ys vs hnew hlD hplD hlen hP hF hk
    have e := paired_eq hF
    rw [List.filter_eq_self.mpr (fun _ _ => rfl)] at e
    refine hQ D' vs h' tk (F.keeps (up h' hk)) (N.grown (up h' hk)) ?_ (ints_of_get ?_ ?_)
    · rw [← e, Array.toArray_toList]; exact hlD
    · rw [hlen]; simp [octs]
    · intro j v hv
      obtain ⟨c, u, hc, rfl⟩ := hP j v hv
      refine ⟨_, u, ?_, rfl⟩
      simp [octs, hc]
theorem isi_ba_str {K : Frag} {a : Addr} {bs : Array UInt8} {Q : Value → Shared → Prop} {h₀ : Heap} (X : K.In h₀) (hB : IsBA h₀ a bs) (k : Kp h₀ s.heap) (h : ∀ tk, Q (.bool false) { s with toks := tk }) :
    wpAny (model prog w) A (call (.builtin "isinstance") [.ref a, .type "str"]) Q E s := isi_ba (X.keeps k) (hB.keeps k) (by kernel_rfl) h
theorem isi_ba_ba {K : Frag} {a : Addr} {bs : Array UInt8} {Q : Value → Shared → Prop} {h₀ : Heap} (X : K.In h₀) (hB : IsBA h₀ a bs) (k : Kp h₀ s.heap) (h : ∀ tk, Q (.bool true) { s with toks := tk }) :
    wpAny (model prog w) A (call (.builtin "isinstance") [.ref a, .type "bytearray"]) Q E s := isi_ba (X.keeps k) (hB.keeps k) (by kernel_rfl) h
end
end Br
end
-- BrM11
section
open PySem PySem.W PySem.Calls PyProof.Rows
set_option Elab.async false
set_option maxRecDepth 100000
set_option linter.unusedVariables false
set_option linter.unusedSimpArgs false
set_option pp.deepTerms false
set_option pp.deepTerms.threshold 6
namespace Br
local macro_rules | `(tactic| walk_at "eval ListComp") => `(tactic| (refine hold ?_))
local macro_rules | `(tactic| walk_at "exec Return ListComp") => `(tactic| (refine hold ?_))
local macro_rules | `(tactic| walk_at "compareOp Eq ref ref") => `(tactic| (refine hold ?_))
local macro_rules | `(tactic| walk_at "exec Return Compare ListComp") => `(tactic| (refine hold ?_))
local macro_rules | `(tactic| walk_at "call builtin:isinstance") => `(tactic| ((with_reducible show wpAny _ _ (call _ [Value.ref _, Value.type _]) _ _ _); refine isi_ba_str (by assumption) (by assumption) (Fr.keep (by assumption)) (fun _ => ?_)))
local macro_rules | `(tactic| walk_at "call builtin:isinstance") => `(tactic| ((with_reducible show wpAny _ _ (call _ [Value.ref _, Value.type _]) _ _ _); refine isi_ba_ba (by assumption) (by assumption) (Fr.keep (by assumption)) (fun _ => ?_)))
local macro_rules | `(tactic| walk_at "Exists") => `(tactic| (refine hold ?_))
variable {w : World} {n : Nat} {b : Heap} {A : Around} {outer : List Env} {s : Shared} {Q E : Value → Shared → Prop} {p : Program} {loose : List Str} {mg mb : Str → Option Value}
set_option maxHeartbeats 4000000 in
theorem c_alike_by (P9 : Pg w p loose mg mb b) (C : Cx (n+1) b A outer s.heap) (g : AllBare s.gens) (bs : Array UInt8) (u : Tok) (l : Addr) (vs : List Value) (ns : List Int) (hl : s.heap.IsList l vs.toArray) (hi : IntsAre vs ns) (hz : ns.length ≤ 63) (hb : bs.size ≤ 63) (k : Ret outer s (fun r _ => r = .bool (decide (octs bs = ns))) Q) : wpAny (model PySem.Challenge.rw_br5013_01.row.prog w) A (PySem.call (.ref 531) [Value.bytes bs u, Value.ref l, Value.bool false]) Q E s := by
  have X := P9.X
  have T := P9.T
  have bt := P9.bt
  revert X
  k_fill
  intro X
  refine' enter_any (f := 531) C X T.nolimit (ho := ?h1) (hcd := ?h2) (hbind := ?h3) (hloc := ?h4) (hcell := ?h5) (hco := ?h6) (hgen := ?h7) (hk := ?h8) (h := ?h9)
  case h1 => k_is
  case h2 => k_is
  case h3 => exact .of_eq rfl
  case h4 => exact locs rfl
  case h5 => decide
  case h6 => rfl
  case h7 => rfl
  case h8 => rfl
  intro L h₁ fl F N G hs
  have hh9 := C.hd
  replace X := X.keeps (C.base bt)
  replace T := T.keeps (C.base bt)
  replace F : Fr (under s.heap outer) L h₁ (fun y => List.lookup y [(Str.ofString "soft", Value.bool false), (Str.ofString "octets", Value.ref l), (Str.ofString "told", Value.bytes bs u)]) := F
  replace hl := under_list C hl
  k_steps
  rename_i F t1 t2 t3
  refine (show wpAny _ _ _ _ _ _ from ?_)
  refine listComp_data hh9 F N (by decide) (by decide) rfl (by decide) rfl (by decide) ?_ (by intro _; rfl)
  k_steps
  refine (show Exists _ from ?_)
  refine ⟨bs, false, ⟨u, rfl⟩, by rw [sizeLine_eq]; omega, F, N, fun D ws h5 tk5 F5 N5 hl5 hi5 => ?_⟩
  clear F N
  k_steps
  refine (show wpAny _ _ _ _ _ _ from ?_)
  refine eq_intsK hl5 hi5 (list_kp hl F5.keep) hi (by have := C.un; show A.units + 3 + 64 < _; omega) ?_
  k_steps
  exact k _ _ _ _ (ends_af F5 N5 .nil G C.tb) g rfl
set_option maxHeartbeats 4000000 in
theorem c_alike_ba (P9 : Pg w p loose mg mb b) (C : Cx (n+1) b A outer s.heap) (g : AllBare s.gens) (bs : Array UInt8) (a : Addr) (hB : IsBA s.heap a bs) (l : Addr) (vs : List Value) (ns : List Int) (hl : s.heap.IsList l vs.toArray) (hi : IntsAre vs ns) (hz : ns.length ≤ 63) (hb : bs.size ≤ 63) (k : Ret outer s (fun r _ => r = .bool (decide (octs bs = ns))) Q) : wpAny (model PySem.Challenge.rw_br5013_01.row.prog w) A (PySem.call (.ref 531) [Value.ref a, Value.ref l, Value.bool true]) Q E s := by
  have X := P9.X
  have T := P9.T
  have bt := P9.bt
  revert X
  k_fill
  intro X
  refine' enter_any (f := 531) C X T.nolimit (ho := ?h1) (hcd := ?h2) (hbind := ?h3) (hloc := ?h4) (hcell := ?h5) (hco := ?h6) (hgen := ?h7) (hk := ?h8) (h := ?h9)
  case h1 => k_is
  case h2 => k_is
  case h3 => exact .of_eq rfl
  case h4 => exact locs rfl
  case h5 => decide
  case h6 => rfl
  case h7 => rfl
  case h8 => rfl
  intro L h₁ fl F N G hs
  have hh9 := C.hd
  replace X := X.keeps (C.base bt)
  replace T := T.keeps (C.base bt)
  replace F : Fr (under s.heap outer) L h₁ (fun y => List.lookup y [(Str.ofString "soft", Value.bool true), (Str.ofString "octets", Value.ref l), (Str.ofString "told", Value.ref a)]) := F
  replace hl := under_list C hl
  replace hB : IsBA (under s.heap outer) a bs := by
    obtain ⟨_, e, q⟩ := under_kp (soft := true) (v := Value.ref a) C ⟨a, rfl, hB⟩
    cases e
    exact q
  k_steps
  rename_i F t1 t2
  refine (show wpAny _ _ _ _ _ _ from ?_)
  refine listComp_data hh9 F N (by decide) (by decide) rfl (by decide) rfl (by decide) ?_ (by intro _; rfl)
  k_steps
  refine (show Exists _ from ?_)
  refine ⟨bs, true, ⟨a, rfl, IsBA.keeps hB (Fr.keep F)⟩, by rw [sizeLine_eq]; omega, F, N, fun D ws h5 tk5 F5 N5 hl5 hi5 => ?_⟩
  clear F N
  k_steps
  refine (show wpAny _ _ _ _ _ _ from ?_)
  refine eq_intsK hl5 hi5 (list_kp hl F5.keep) hi (by have := C.un; show A.units + 3 + 64 < _; omega) ?_
  k_steps
  exact k _ _ _ _ (ends_af F5 N5 .nil G C.tb) g rfl

theorem c_alike (P9 : Pg w p loose mg mb b) (C : Cx (n + 1) b A outer s.heap) (g : AllBare s.gens) (v : Value) (bs : Array UInt8) (soft : Bool) (l : Addr) (vs : List Value) (ns : List Int) (D : DataAt s.heap v bs soft) (hl : s.heap.IsList l vs.toArray) (hi : IntsAre vs ns) (hz : ns.length ≤ 63) (hb : bs.size ≤ 63) (k : Ret outer s (fun r _ => r = .bool (decide (octs bs = ns))) Q) : wpAny (model PySem.Challenge.rw_br5013_01.row.prog w) A (PySem.call (.ref 531) [v, .ref l, .bool soft]) Q E s := by
  cases soft with
  | false => obtain ⟨u, rfl⟩ := D; exact c_alike_by P9 C g bs u l vs ns hl hi hz hb k
  | true => obtain ⟨a, rfl, hB⟩ := D; exact c_alike_ba P9 C g bs a hB l vs ns hl hi hz hb k
end Br
end
-- BrZip
section
open PySem PySem.W PySem.Calls PyProof.Rows
set_option Elab.async false
set_option maxRecDepth 100000
set_option linter.unusedVariables false
namespace Br
structure Nx (prog : Program) (w : World) (A : Around) (I : Addr) (fp : List Addr) (n : Nat) (P : Nat → Value → Prop) (St : Nat → Heap → Prop) : Prop where
  lt : ∀ i h, St i h → I < h.objs.size
  frame : ∀ i h h', St i h → (∀ b ∈ I :: fp, ∀ o, h.get? b = some o → h'.get? b = some o) → St i h'
  item : ∀ i (s : Shared) (Q : Value → Shared → Prop) (E : Value → Shared → Prop), i < n → St i s.heap →
    (∀ v h' tk, P i v → St (i + 1) h' → Heap.SameBut I s.heap h' → Q v { s with heap := h', toks := tk }) → wpAny (model prog w) A (Builtin.SmallTypes.nextOf (.ref I)) Q E s
  done : ∀ (s : Shared) (Q : Value → Shared → Prop) (E : Value → Shared → Prop), St n s.heap →
    (∀ h' e, Heap.ExtBut I s.heap h' → (∃ o, h'.get? e = some o ∧ o.cls = .type "StopIteration") → E (.ref e) { s with heap := h' }) → wpAny (model prog w) A (Builtin.SmallTypes.nextOf (.ref I)) Q E s
abbrev Oct (bs : Array UInt8) (i : Nat) (v : Value) : Prop := ∃ c u, bs[i]? = some c ∧ v = .int (c.toNat : Int) u

section
variable {prog : Program} {w : World} {A : Around} {E : Value → Shared → Prop} {s : Shared} {b bs : Array UInt8} {t : Tok} {a : Addr}
theorem nb_item {it : Addr} {i : Nat} {c : UInt8} {Q : Value → Shared → Prop} (hit : KBw.IsBytesIter s.heap it b t i) (hx : b[i]? = some c)
    (hQ : ∀ h', KBw.IsBytesIter h' it b t (i + 1) → Heap.SameBut it s.heap h' → Q (.int (c.toNat : Int) s.toks) { s with heap := h', toks := s.toks + 1 }) : wpAny (model prog w) A (Builtin.SmallTypes.nextOf (.ref it)) Q E s := by
  obtain ⟨o, ho, hc, hd⟩ := id hit
  unfold Builtin.SmallTypes.nextOf
  refine wpAny_bind (wpAny_callSpecial?_slot (name := PySem.Str.ofString "__next__") (KBw.iter_typeIs hit) KBw.slot_next
    (wpAny_call_entry KBw.slot_next (KBw.iter_typeIs hit) KBw.entry_next ?_ (KBw.args_next _)))
  show wpAny _ _ (field (.ref it) 0 >>= _) _ _ s
  refine wpAny_bind (wpAny_field ho hd (x := .bytes b t) rfl ?_)
  show wpAny _ _ (if (Value.bytes b t == Value.none) = true then _ else _) _ _ s
  rw [if_neg (show ¬ ((Value.bytes b t == Value.none) = true) from Bool.false_ne_true)]
  show wpAny _ _ (field (.ref it) 1 >>= _) _ _ s
  refine wpAny_bind (wpAny_field ho hd (x := .int i 0) rfl ?_)
  refine wpAny_bind (wpAny_of_eq (a := b) rfl ?_)
  simp only [Int.toNat_natCast, hx]
  refine wpAny_bind (wpAny_setField ho hd (by simp) (wpAny_bind (wpAny_mkInt (wpAny_pure ⟨_, rfl, wpAny_pure (hQ _ ?_ (Heap.SameBut.update ..))⟩))))
  exact ⟨_, Heap.get?_update_self _ ho (Obj.isFreed_of_fields (Obj.data_mapFields hd _)), (Obj.cls_mapFields ..).trans hc, by
    rw [Obj.data_mapFields hd]; simp [rawInt]⟩
theorem nb_end {it : Addr} {i : Nat} {Q : Value → Shared → Prop} (hh : A.handled = none) (hit : KBw.IsBytesIter s.heap it b t i) (hx : b[i]? = none)
    (hE : ∀ h' e, Heap.ExtBut it s.heap h' → (∃ o, h'.get? e = some o ∧ o.cls = .type "StopIteration") → E (.ref e) { s with heap := h' }) : wpAny (model prog w) A (Builtin.SmallTypes.nextOf (.ref it)) Q E s := by
  obtain ⟨o, ho, hc, hd⟩ := id hit
  unfold Builtin.SmallTypes.nextOf
  refine wpAny_bind (wpAny_callSpecial?_slot (name := PySem.Str.ofString "__next__") (KBw.iter_typeIs hit) KBw.slot_next
    (wpAny_call_entry KBw.slot_next (KBw.iter_typeIs hit) KBw.entry_next ?_ (KBw.args_next _)))
  show wpAny _ _ (field (.ref it) 0 >>= _) _ _ s
  refine wpAny_bind (wpAny_field ho hd (x := .bytes b t) rfl ?_)
  show wpAny _ _ (if (Value.bytes b t == Value.none) = true then _ else _) _ _ s
  rw [if_neg (show ¬ ((Value.bytes b t == Value.none) = true) from Bool.false_ne_true)]
  show wpAny _ _ (field (.ref it) 1 >>= _) _ _ s
  refine wpAny_bind (wpAny_field ho hd (x := .int i 0) rfl ?_)
  refine wpAny_bind (wpAny_of_eq (a := b) rfl ?_)
  simp only [Int.toNat_natCast, hx]
  refine wpAny_bind (wpAny_rule (wpAny_bind (wpAny_setField ho hd (by simp) ?_)))
  show wpAny _ _ (newExc (.type "StopIteration") [] >>= _) _ _ _
  refine wpAny_bind ?_
  simp only [newExc, newTuple]
  refine wpAny_bind (wpAny_newObj_type ?_ (by size_fits))
  refine wpAny_bind (m := firstArgMember _ _) (wpAny_of_eq (a := Value.none) (by first | rfl | (simp only [firstArgMember]; rfl)) ?_)
  refine wpAny_newObj_type ?_ (by size_fits)
  simp only [raiseNew]
  refine wpAny_bind (wpAny_handled ?_)
  rw [show A.in1.handled = none from hh]
  refine wpAny_bind (wpAny_pure (wpAny_throw ?_))
  exact hE _ _ (((Heap.SameBut.update ..).extBut.push _).push _) ⟨_, Heap.get?_push_size _ rfl, rfl⟩
theorem na_item {it : Addr} {i : Nat} {c : UInt8} {Q : Value → Shared → Prop} (hit : IsBAIter s.heap it a i) (hB : IsBA s.heap a bs) (hx : bs[i]? = some c)
    (hQ : ∀ h', IsBAIter h' it a (i + 1) → Heap.SameBut it s.heap h' → Q (.int (c.toNat : Int) s.toks) { s with heap := h', toks := s.toks + 1 }) : wpAny (model prog w) A (Builtin.SmallTypes.nextOf (.ref it)) Q E s := by
  obtain ⟨o, ho, hc, hd⟩ := id hit
  obtain ⟨oa, x, hoa, _, hda, _⟩ := id hB
  unfold Builtin.SmallTypes.nextOf
  refine wpAny_bind (wpAny_callSpecial?_slot (name := PySem.Str.ofString "__next__") (iter_typeIs hit) FA.slot_next
    (wpAny_call_entry FA.slot_next (iter_typeIs hit) FA.entry_next ?_ (FA.args_next _)))
  show wpAny _ _ (field (.ref it) 0 >>= _) _ _ s
  refine wpAny_bind (wpAny_field ho hd (x := .ref a) rfl ?_)
  show wpAny _ _ (load a >>= _) _ _ s
  refine wpAny_bind (wpAny_load hoa ?_)
  rw [hda]
  show wpAny _ _ (field (.ref it) 1 >>= _) _ _ s
  refine wpAny_bind (wpAny_field ho hd (x := .int i 0) rfl ?_)
  simp only [Int.toNat_natCast, hx]
  refine wpAny_bind (wpAny_setField ho hd (by simp) (wpAny_bind (wpAny_mkInt (wpAny_pure ⟨_, rfl, wpAny_pure (hQ _ ?_ (Heap.SameBut.update ..))⟩))))
  exact ⟨_, Heap.get?_update_self _ ho (Obj.isFreed_of_fields (Obj.data_mapFields hd _)), (Obj.cls_mapFields ..).trans hc, by
    rw [Obj.data_mapFields hd]; simp [rawInt]⟩
theorem na_end {it : Addr} {i : Nat} {Q : Value → Shared → Prop} (hh : A.handled = none) (hit : IsBAIter s.heap it a i) (hB : IsBA s.heap a bs) (hx : bs[i]? = none)
    (hE : ∀ h' e, Heap.ExtBut it s.heap h' → (∃ o, h'.get? e = some o ∧ o.cls = .type "StopIteration") → E (.ref e) { s with heap := h' }) : wpAny (model prog w) A (Builtin.SmallTypes.nextOf (.ref it)) Q E s := by
  obtain ⟨o, ho, hc, hd⟩ := id hit
  obtain ⟨oa, x, hoa, _, hda, _⟩ := id hB
  unfold Builtin.SmallTypes.nextOf
  refine wpAny_bind (wpAny_callSpecial?_slot (name := PySem.Str.ofString "__next__") (iter_typeIs hit) FA.slot_next
    (wpAny_call_entry FA.slot_next (iter_typeIs hit) FA.entry_next ?_ (FA.args_next _)))
  show wpAny _ _ (field (.ref it) 0 >>= _) _ _ s
  refine wpAny_bind (wpAny_field ho hd (x := .ref a) rfl ?_)
  show wpAny _ _ (load a >>= _) _ _ s
  refine wpAny_bind (wpAny_load hoa ?_)
  rw [hda]
  show wpAny _ _ (field (.ref it) 1 >>= _) _ _ s
  refine wpAny_bind (wpAny_field ho hd (x := .int i 0) rfl ?_)
  simp only [Int.toNat_natCast, hx]
  refine wpAny_bind (wpAny_rule (wpAny_bind (wpAny_setField ho hd (by simp) (wpAny_bind (wpAny_letGo ?_)))))
  show wpAny _ _ (newExc (.type "StopIteration") [] >>= _) _ _ _
  refine wpAny_bind ?_
  simp only [newExc, newTuple]
  refine wpAny_bind (wpAny_newObj_type ?_ (by size_fits))
  refine wpAny_bind (m := firstArgMember _ _) (wpAny_of_eq (a := Value.none) (by first | rfl | (simp only [firstArgMember]; rfl)) ?_)
  refine wpAny_newObj_type ?_ (by size_fits)
  simp only [raiseNew]
  refine wpAny_bind (wpAny_handled ?_)
  rw [show A.in1.handled = none from hh]
  refine wpAny_bind (wpAny_pure (wpAny_throw ?_))
  exact hE _ _ (((Heap.SameBut.update ..).extBut.push _).push _) ⟨_, Heap.get?_push_size _ rfl, rfl⟩
end
theorem nx_bytes {prog : Program} {w : World} {A : Around} (hh : A.handled = none) (I : Addr) (b : Array UInt8) (t : Tok) : Nx prog w A I [] b.size (Oct b) (fun i h => KBw.IsBytesIter h I b t i) where
  lt := fun _ _ st => let ⟨_, ho, _⟩ := st; Heap.lt_size ho
  frame := fun _ _ _ st hk => let ⟨o, ho, r⟩ := st; ⟨o, hk I (by simp) o ho, r⟩
  item := fun i s Q E hi st hQ => nb_item st (c := b[i]) (by simp [hi]) fun h' hit' hs' => hQ _ h' _ ⟨_, _, by simp [hi], rfl⟩ hit' hs'
  done := fun s Q E st hQ => nb_end hh st (by simp) hQ
theorem nx_ba {prog : Program} {w : World} {A : Around} (hh : A.handled = none) (I a : Addr) (hne : a ≠ I) (bs : Array UInt8) : Nx prog w A I [a] bs.size (Oct bs) (fun i h => IsBAIter h I a i ∧ IsBA h a bs) where
  lt := fun _ _ st => let ⟨_, ho, _⟩ := st.1; Heap.lt_size ho
  frame := fun _ _ _ st hk => ⟨let ⟨o, ho, r⟩ := st.1; ⟨o, hk I (by simp) o ho, r⟩, let ⟨o, x, ho, r⟩ := st.2; ⟨o, x, hk a (by simp) o ho, r⟩⟩
  item := fun i s Q E hi st hQ => na_item st.1 st.2 (c := bs[i]) (by simp [hi]) fun h' hit' hs' => hQ _ h' _ ⟨_, _, by simp [hi], rfl⟩ ⟨hit', st.2.ext hs'.extBut hne⟩ hs'
  done := fun s Q E st hQ => na_end hh st.1 st.2 (by simp) hQ
/-- iter(data), its turns -/
theorem iter_data_nx {prog : Program} {w : World} {A : Around} {E : Value → Shared → Prop} {s : Shared} {v : Value} {bs : Array UInt8} {soft : Bool} {Q : Value → Shared → Prop} (D : DataAt s.heap v bs soft)
    (h : ∀ (o : Obj) (fp : List Addr) (St : Nat → Heap → Prop), (∀ A' : Around, A'.handled = none → Nx prog w A' s.heap.objs.size fp bs.size (Oct bs) St) →
      (∀ x ∈ fp, x < s.heap.objs.size ∧ ∃ o', s.heap.get? x = some o' ∧ o'.cls = .type "bytearray") → St 0 (s.heap.push o) → Q (.ref s.heap.objs.size) { s with heap := s.heap.push o }) : wpAny (model prog w) A (pyIter v) Q E s := by
  cases soft with
  | false =>
    obtain ⟨t, rfl⟩ := D
    exact KBw.pyIter_bytes (h _ [] _ (fun A' hh => nx_bytes hh _ bs t) (fun _ m => nomatch m) ⟨_, Heap.get?_push_size _ rfl, rfl, rfl⟩)
  | true =>
    obtain ⟨a, rfl, hB⟩ := D
    have lt : a < s.heap.objs.size := let ⟨_, _, e, _⟩ := hB; Heap.lt_size e
    exact pyIter_ba hB (h _ [a] _ (fun A' hh => nx_ba hh _ a (Nat.ne_of_lt lt) bs) (fun x m => by simp at m; subst m; exact ⟨lt, let ⟨o, _, e, c, _⟩ := hB; ⟨o, e, c⟩⟩) ⟨⟨_, Heap.get?_push_size _ rfl, rfl, rfl⟩, hB.keeps fun b o e => Heap.get?_push_of_some _ e⟩)

structure ZA (z TI TO i1 i2 : Addr) (f1 f2 : List Addr) : Prop where
  TIz : TI ≠ z
  TOz : TO ≠ z
  i1z : i1 ≠ z
  i2z : i2 ≠ z
  TITO : TI ≠ TO
  TIi1 : TI ≠ i1
  TIi2 : TI ≠ i2
  TOi1 : TO ≠ i1
  TOi2 : TO ≠ i2
  i12 : i1 ≠ i2
  a1 : ∀ b ∈ f1, b ≠ z ∧ b ≠ TO ∧ b ≠ i2
  a2 : ∀ b ∈ f2, b ≠ z ∧ b ≠ TO ∧ b ≠ i1

section
variable {prog : Program} {w : World} {A : Around} {E : Value → Shared → Prop} {s : Shared} {z TI TO i1 i2 : Addr} {f1 f2 : List Addr} {n1 n2 : Nat} {P1 P2 : Nat → Value → Prop} {S1 S2 : Nat → Heap → Prop} {k : Nat} {a b : Value}
theorem ZA.m1 (D : ZA z TI TO i1 i2 f1 f2) {c : Addr} (h : c ∈ i1 :: f1) : c ≠ z ∧ c ≠ TO ∧ c ≠ i2 := by
  rcases List.mem_cons.mp h with rfl | h
  · exact ⟨D.i1z, D.TOi1.symm, D.i12⟩
  · exact D.a1 c h
theorem ZA.m2 (D : ZA z TI TO i1 i2 f1 f2) {c : Addr} (h : c ∈ i2 :: f2) : c ≠ z ∧ c ≠ TO ∧ c ≠ i1 := by
  rcases List.mem_cons.mp h with rfl | h
  · exact ⟨D.i2z, D.TOi2.symm, D.i12.symm⟩
  · exact D.a2 c h

theorem zn_item {Q : Value → Shared → Prop} (D : ZA z TI TO i1 i2 f1 f2) (W1 : Nx prog w A.in1 i1 f1 n1 P1 S1) (W2 : Nx prog w A.in1 i2 f2 n2 P2 S2)
    (hz : IsZip s.heap z TI TO .none) (hTI : IsPair s.heap TI (.ref i1) (.ref i2)) (hTO : IsPair s.heap TO a b) (h1 : S1 k s.heap) (h2 : S2 k s.heap) (l1 : k < n1) (l2 : k < n2)
    (hQ : ∀ h' tk (T : Addr) x y, P1 k x → P2 k y → IsZip h' z TI TO (rawInt T) → IsPair h' TO x y → S1 (k + 1) h' → S2 (k + 1) h' → IsPair h' T x y → (T ≠ z ∧ T ≠ TO ∧ T ≠ i1 ∧ T ≠ i2) →
      (∀ c o, c ≠ z → c ≠ TO → c ≠ i1 → c ≠ i2 → s.heap.get? c = some o → h'.get? c = some o) → Q (.ref T) { s with heap := h', toks := tk }) (hi1 : i1 < s.heap.objs.size) (hi2 : i2 < s.heap.objs.size) :
    wpAny (model prog w) A.in1 (Builtin.«zip.__next__» ⟨[.ref z], []⟩) (fun fin s' => ∃ v, fin = .done (.ret v) ∧ Q v s') E s := by
  show wpAny _ _ (field (.ref z) 2 >>= _) _ _ _
  refine wpAny_bind (wpAny_field hz rfl (x := .bool false) rfl ?_)
  show wpAny _ _ (field (.ref z) 3 >>= _) _ _ _
  refine wpAny_bind (wpAny_field hz rfl (x := .ref TI) rfl ?_)
  refine wpAny_bind (wpAny_seqItems hTI rfl ?_)
  show wpAny _ _ (Builtin.SmallTypes.ownedTupleIsFree (.ref z) >>= _) _ _ _
  refine wpAny_bind ?_
  unfold Builtin.SmallTypes.ownedTupleIsFree
  refine wpAny_bind (wpAny_field hz rfl (x := .none) rfl (wpAny_pure ?_))
  simp only [if_true]
  refine wpAny_bind (wpAny_rule ?_)
  refine wpAny_bind (wpAny_field hz rfl (x := .ref TO) rfl ?_)
  refine wpAny_bind (wpAny_setField_rec hz (by simp) fun h₁ hz₁ hs₁ => ?_)
  replace hz₁ : IsZip h₁ z TI TO .ellipsis := hz₁
  refine wpAny_bind ?_
  simp only [List.zipIdx_cons, List.zipIdx_nil, List.forIn_cons, List.forIn_nil]
  refine wpAny_bind (wpAny_bind (wpAny_onRaise ?_))
  show wpAny _ _ (Builtin.SmallTypes.nextOf (.ref i1) >>= _) _ _ _
  have h1₁ : S1 k h₁ := W1.frame _ _ _ h1 fun c hc o e => hs₁.extBut _ _ (D.m1 hc).1 e
  refine wpAny_bind (W1.item k _ _ _ l1 h1₁ fun x h₂ tk₂ hx h1₂ hs₂ => wpAny_pure ?_)
  have hTO₂ : IsPair h₂ TO a b := hs₂.extBut _ _ D.TOi1 (hs₁.extBut _ _ D.TOz hTO)
  refine wpAny_bind (wpAny_seqItems hTO₂ rfl ?_)
  refine wpAny_bind (wpAny_updateSeq_pair hTO₂ fun h₃ hTO₃ hs₃ => ?_)
  replace hTO₃ : IsPair h₃ TO x b := hTO₃
  refine wpAny_bind (wpAny_letGo (wpAny_pure ?_))
  refine wpAny_bind (wpAny_bind (wpAny_onRaise ?_))
  show wpAny _ _ (Builtin.SmallTypes.nextOf (.ref i2) >>= _) _ _ _
  have h2₃ : S2 k h₃ := W2.frame _ _ _ h2 fun c hc o e => hs₃.extBut _ _ (D.m2 hc).2.1 (hs₂.extBut _ _ (D.m2 hc).2.2 (hs₁.extBut _ _ (D.m2 hc).1 e))
  refine wpAny_bind (W2.item k _ _ _ l2 h2₃ fun y h₄ tk₄ hy h2₄ hs₄ => wpAny_pure ?_)
  have hTO₄ : IsPair h₄ TO x b := hs₄.extBut _ _ D.TOi2 hTO₃
  refine wpAny_bind (wpAny_seqItems hTO₄ rfl ?_)
  refine wpAny_bind (wpAny_updateSeq_pair hTO₄ fun h₅ hTO₅ hs₅ => ?_)
  replace hTO₅ : IsPair h₅ TO x y := hTO₅
  refine wpAny_bind (wpAny_letGo (wpAny_pure (wpAny_pure ?_)))
  refine wpAny_bind (wpAny_seqItems hTO₅ rfl ?_)
  refine wpAny_bind (wpAny_newTuple ?_)
  have hsz : h₅.objs.size = s.heap.objs.size := by rw [hs₅.1, hs₄.1, hs₃.1, hs₂.1, hs₁.1]
  have hz₅ : IsZip h₅ z TI TO .ellipsis := hs₅.extBut _ _ D.TOz.symm (hs₄.extBut _ _ D.i2z.symm (hs₃.extBut _ _ D.TOz.symm (hs₂.extBut _ _ D.i1z.symm hz₁)))
  have hk₅ : ∀ c o, c ≠ z → c ≠ TO → c ≠ i1 → c ≠ i2 → s.heap.get? c = some o → h₅.get? c = some o := fun c o c1 c2 c3 c4 e =>
    hs₅.extBut _ _ c2 (hs₄.extBut _ _ c4 (hs₃.extBut _ _ c2 (hs₂.extBut _ _ c3 (hs₁.extBut _ _ c1 e))))
  have h1₅ : S1 (k + 1) h₅ := W1.frame _ _ _ h1₂ fun c hc o e => hs₅.extBut _ _ (D.m1 hc).2.1 (hs₄.extBut _ _ (D.m1 hc).2.2 (hs₃.extBut _ _ (D.m1 hc).2.1 e))
  have h2₅ : S2 (k + 1) h₅ := W2.frame _ _ _ h2₄ fun c hc o e => hs₅.extBut _ _ (D.m2 hc).2.1 e
  have hzlt : z < h₅.objs.size := Heap.lt_size hz₅
  have hTOlt : TO < h₅.objs.size := Heap.lt_size hTO₅
  show wpAny _ _ (Builtin.SmallTypes.ownedTupleHandOut (.ref z) (.ref h₅.objs.size) >>= _) _ _ _
  refine wpAny_bind ?_
  unfold Builtin.SmallTypes.ownedTupleHandOut
  have hz₆ : IsZip (h₅.push { cls := .type "tuple", data := .seq #[x, y] }) z TI TO .ellipsis := Heap.get?_push_of_some _ hz₅
  refine wpAny_bind (wpAny_setField_rec hz₆ (by simp) fun h₇ hz₇ hs₇ => ?_)
  replace hz₇ : IsZip h₇ z TI TO (rawInt h₅.objs.size) := hz₇
  refine wpAny_setField_rec hz₇ (by simp) fun h₈ hz₈ hs₈ => ?_
  replace hz₈ : IsZip h₈ z TI TO (rawInt h₅.objs.size) := hz₈
  have up : ∀ c o, c ≠ z → h₅.get? c = some o → h₈.get? c = some o := fun c o c1 e => hs₈.extBut _ _ c1 (hs₇.extBut _ _ c1 (Heap.get?_push_of_some _ e))
  have hT₈ : IsPair h₈ h₅.objs.size x y := hs₈.extBut _ _ (Nat.ne_of_gt hzlt) (hs₇.extBut _ _ (Nat.ne_of_gt hzlt) (Heap.get?_push_size _ rfl))
  refine wpAny_pure ⟨_, rfl, ?_⟩
  exact hQ h₈ _ h₅.objs.size x y hx hy hz₈ (up _ _ D.TOz hTO₅) (W1.frame _ _ _ h1₅ fun c hc o e => up _ o (D.m1 hc).1 e) (W2.frame _ _ _ h2₅ fun c hc o e => up _ o (D.m2 hc).1 e) hT₈
    ⟨Nat.ne_of_gt hzlt, Nat.ne_of_gt hTOlt, Nat.ne_of_gt (hsz ▸ hi1), Nat.ne_of_gt (hsz ▸ hi2)⟩ fun c o c1 c2 c3 c4 e => up c o c1 (hk₅ c o c1 c2 c3 c4 e)

theorem zn_end {Q : Fin → Shared → Prop} (D : ZA z TI TO i1 i2 f1 f2) (W1 : Nx prog w A.in1 i1 f1 n1 P1 S1) (W2 : Nx prog w A.in1 i2 f2 n2 P2 S2)
    (hz : IsZip s.heap z TI TO .none) (hTI : IsPair s.heap TI (.ref i1) (.ref i2)) (hTO : IsPair s.heap TO a b) (h1 : S1 k s.heap) (h2 : S2 k s.heap) (hend : k = n1 ∨ (k < n1 ∧ k = n2))
    (hE : ∀ h' tk e, (∀ c o, c ≠ z → c ≠ TO → c ≠ i1 → c ≠ i2 → s.heap.get? c = some o → h'.get? c = some o) → (∃ o, h'.get? e = some o ∧ o.cls = .type "StopIteration") → E (.ref e) { s with heap := h', toks := tk }) :
    wpAny (model prog w) A.in1 (Builtin.«zip.__next__» ⟨[.ref z], []⟩) Q E s := by
  show wpAny _ _ (field (.ref z) 2 >>= _) _ _ _
  refine wpAny_bind (wpAny_field hz rfl (x := .bool false) rfl ?_)
  show wpAny _ _ (field (.ref z) 3 >>= _) _ _ _
  refine wpAny_bind (wpAny_field hz rfl (x := .ref TI) rfl ?_)
  refine wpAny_bind (wpAny_seqItems hTI rfl ?_)
  show wpAny _ _ (Builtin.SmallTypes.ownedTupleIsFree (.ref z) >>= _) _ _ _
  refine wpAny_bind ?_
  unfold Builtin.SmallTypes.ownedTupleIsFree
  refine wpAny_bind (wpAny_field hz rfl (x := .none) rfl (wpAny_pure ?_))
  simp only [if_true]
  refine wpAny_bind (wpAny_rule ?_)
  refine wpAny_bind (wpAny_field hz rfl (x := .ref TO) rfl ?_)
  refine wpAny_bind (wpAny_setField_rec hz (by simp) fun h₁ hz₁ hs₁ => ?_)
  replace hz₁ : IsZip h₁ z TI TO .ellipsis := hz₁
  refine wpAny_bind ?_
  simp only [List.zipIdx_cons, List.zipIdx_nil, List.forIn_cons, List.forIn_nil]
  refine wpAny_bind (wpAny_bind (wpAny_onRaise ?_))
  show wpAny _ _ (Builtin.SmallTypes.nextOf (.ref i1) >>= _) _ _ _
  have h1₁ : S1 k h₁ := W1.frame _ _ _ h1 fun c hc o e => hs₁.extBut _ _ (D.m1 hc).1 e
  rcases hend with hk | ⟨hlt, hk⟩
  · subst hk
    refine wpAny_bind (W1.done _ _ _ h1₁ fun h₂ e hs₂ he => ?_)
    obtain ⟨oe, hoe, hce⟩ := he
    have hz₂ : IsZip h₂ z TI TO .ellipsis := hs₂ _ _ D.i1z.symm hz₁
    have hez : e ≠ z := fun x => by subst x; rw [hz₂] at hoe; cases hoe; simp at hce
    refine wpAny_setField_rec hz₂ (by simp) fun h₃ _ hs₃ => hE h₃ _ e (fun c o c1 _ c3 _ x => hs₃.extBut _ _ c1 (hs₂ _ _ c3 (hs₁.extBut _ _ c1 x))) ⟨oe, hs₃.extBut _ _ hez hoe, hce⟩
  · refine wpAny_bind (W1.item k _ _ _ hlt h1₁ fun x h₂ tk₂ hx h1₂ hs₂ => wpAny_pure ?_)
    have hTO₂ : IsPair h₂ TO a b := hs₂.extBut _ _ D.TOi1 (hs₁.extBut _ _ D.TOz hTO)
    refine wpAny_bind (wpAny_seqItems hTO₂ rfl ?_)
    refine wpAny_bind (wpAny_updateSeq_pair hTO₂ fun h₃ hTO₃ hs₃ => ?_)
    refine wpAny_bind (wpAny_letGo (wpAny_pure ?_))
    refine wpAny_bind (wpAny_bind (wpAny_onRaise ?_))
    show wpAny _ _ (Builtin.SmallTypes.nextOf (.ref i2) >>= _) _ _ _
    have h2₃ : S2 k h₃ := W2.frame _ _ _ h2 fun c hc o e => hs₃.extBut _ _ (D.m2 hc).2.1 (hs₂.extBut _ _ (D.m2 hc).2.2 (hs₁.extBut _ _ (D.m2 hc).1 e))
    subst hk
    refine wpAny_bind (W2.done _ _ _ h2₃ fun h₄ e hs₄ he => ?_)
    obtain ⟨oe, hoe, hce⟩ := he
    have hz₄ : IsZip h₄ z TI TO .ellipsis := hs₄ _ _ D.i2z.symm (hs₃.extBut _ _ D.TOz.symm (hs₂.extBut _ _ D.i1z.symm hz₁))
    have hez : e ≠ z := fun x => by subst x; rw [hz₄] at hoe; cases hoe; simp at hce
    refine wpAny_setField_rec hz₄ (by simp) fun h₅ _ hs₅ => hE h₅ _ e (fun c o c1 c2 c3 c4 x => hs₅.extBut _ _ c1 (hs₄ _ _ c4 (hs₃.extBut _ _ c2 (hs₂.extBut _ _ c3 (hs₁.extBut _ _ c1 x))))) ⟨oe, hs₅.extBut _ _ hez hoe, hce⟩
end

theorem walks_zip {prog : Program} {w : World} {A : Around} {z TI TO i1 i2 : Addr} {f1 f2 : List Addr} {n1 n2 : Nat} {P1 P2 : Nat → Value → Prop} {S1 S2 : Nat → Heap → Prop} (D : ZA z TI TO i1 i2 f1 f2)
    (W1 : Nx prog w A.in1 i1 f1 n1 P1 S1) (W2 : Nx prog w A.in1 i2 f2 n2 P2 S2) :
    WalksU prog w A z (z :: TI :: TO :: i1 :: i2 :: (f1 ++ f2)) [z, TO, i1, i2] (min n1 n2) (fun i vals => ∃ x y, P1 i x ∧ P2 i y ∧ vals = #[x, y])
      (fun i h => IsZip h z TI TO .none ∧ IsPair h TI (.ref i1) (.ref i2) ∧ (∃ a b, IsPair h TO a b) ∧ S1 i h ∧ S2 i h)
      (fun i T h => IsZip h z TI TO (rawInt T) ∧ IsPair h TI (.ref i1) (.ref i2) ∧ (∃ a b, IsPair h TO a b) ∧ S1 (i + 1) h ∧ S2 (i + 1) h ∧ T ≠ z ∧ T ≠ TO ∧ T ≠ i1 ∧ T ≠ i2) where
  sub := fun c hc => by simp at hc ⊢; rcases hc with rfl | rfl | rfl | rfl <;> simp
  frame := fun i h h' hst hk => by
    obtain ⟨hz, hTI, ⟨a, b, hTO⟩, h1, h2⟩ := hst
    exact ⟨hk z (by simp) _ hz, hk TI (by simp) _ hTI, ⟨a, b, hk TO (by simp) _ hTO⟩, W1.frame _ _ _ h1 fun c hc o e => hk c (by simp at hc ⊢; rcases hc with rfl | hc <;> simp [*]) o e,
      W2.frame _ _ _ h2 fun c hc o e => hk c (by simp at hc ⊢; rcases hc with rfl | hc <;> simp [*]) o e⟩
  item := fun i s Q E hi hst hQ => by
    obtain ⟨hz, hTI, ⟨a, b, hTO⟩, h1, h2⟩ := hst
    have hT : s.TypeIs (.ref z) "zip" := ⟨_, hz, rfl⟩
    unfold pyNext
    refine wpAny_bind (wpAny_attempt (wpAny_callSpecial?_slot (name := Str.ofString "__next__") hT F.slot_zip_next (wpAny_call_entry F.slot_zip_next hT F.entry_zip_next
      (zn_item D W1 W2 hz hTI hTO h1 h2 (by omega) (by omega) (fun h' tk T x y hx hy a1 a2 a3 a4 a5 a6 hk => wpAny_pure ?_) (W1.lt _ _ h1) (W2.lt _ _ h2)) (F.args_zip_next_1 _))))
    exact hQ T #[x, y] h' tk ⟨_, _, hx, hy, rfl⟩ ⟨_, a5, rfl, _, rfl⟩ ⟨a1, hk _ _ D.TIz D.TITO D.TIi1 D.TIi2 hTI, ⟨_, _, a2⟩, a3, a4, a6⟩
      fun c o hc e => hk c o (fun x => hc (by simp [x])) (fun x => hc (by simp [x])) (fun x => hc (by simp [x])) (fun x => hc (by simp [x])) e
  go := fun elts k pos i T s Q E hm hQ => by
    obtain ⟨hz, hTI, ⟨a, b, hTO⟩, h1, h2, _⟩ := hm
    exact wpAny_letOwnedTupleGo_zip hz fun h' hz' hs' => hQ h' ⟨hz', hs'.extBut _ _ D.TIz hTI, ⟨a, b, hs'.extBut _ _ D.TOz hTO⟩, W1.frame _ _ _ h1 fun c hc o e => hs'.extBut _ _ (D.m1 hc).1 e,
      W2.frame _ _ _ h2 fun c hc o e => hs'.extBut _ _ (D.m2 hc).1 e⟩ fun c o hc e => hs'.extBut _ _ (fun x => hc (by simp [x])) e
  apart := fun i T h hm hT => by
    obtain ⟨_, _, _, _, _, t1, t2, t3, t4⟩ := hm
    simp at hT
    rcases hT with rfl | rfl | rfl | rfl
    · exact t1 rfl
    · exact t2 rfl
    · exact t3 rfl
    · exact t4 rfl
  done := fun s Q E hst hQ => by
    obtain ⟨hz, hTI, ⟨a, b, hTO⟩, h1, h2⟩ := hst
    have hT : s.TypeIs (.ref z) "zip" := ⟨_, hz, rfl⟩
    unfold pyNext
    refine wpAny_bind (wpAny_attempt (wpAny_callSpecial?_slot (name := Str.ofString "__next__") hT F.slot_zip_next (wpAny_call_entry F.slot_zip_next hT F.entry_zip_next
      (zn_end D W1 W2 hz hTI hTO h1 h2 (by omega) fun h' tk e hk he => ?_) (F.args_zip_next_1 _))))
    obtain ⟨o, ho, hc⟩ := he
    refine wpAny_bind (wpAny_isInstance (T := "StopIteration") (b := true) ⟨o, ho, hc⟩ isSubtype_stop ?_)
    exact wpAny_pure (hQ h' tk fun c o hc e => hk c o (fun x => hc (by simp [x])) (fun x => hc (by simp [x])) (fun x => hc (by simp [x])) (fun x => hc (by simp [x])) e)
  self := fun i s Q E hst hQ => wpAny_pyIter_zip hst.1 hQ

theorem zplain : plainId "zip.__new__" = true := by decide +kernel
/-- zip(v1, v2) -/
theorem call_zip {prog : Program} {w : World} {A : Around} {E : Value → Shared → Prop} {s : Shared} {v1 v2 : Value} {Q : Value → Shared → Prop}
    (h : wpAny (model prog w) A.in1.in1 (pyIter v1) (fun it1 s₁ => wpAny (model prog w) A.in1.in1 (pyIter v2) (fun it2 s₂ => ∀ h', IsZip h' (s₂.heap.objs.size + 2) s₂.heap.objs.size (s₂.heap.objs.size + 1) .none → IsPair h' s₂.heap.objs.size it1 it2 →
      IsPair h' (s₂.heap.objs.size + 1) .none .none → (∀ c o, s₂.heap.get? c = some o → h'.get? c = some o) → Q (.ref (s₂.heap.objs.size + 2)) { s₂ with heap := h' }) (fun _ _ => False) s₁) (fun _ _ => False) s) :
    wpAny (model prog w) A (call (.type "zip") [v1, v2]) Q E s := by
  refine callType_codes (Q₁ := fun obj s₁ => s₁.TypeIs obj "zip" ∧ Q obj s₁) F.called_zip (F.typeCall_zip_2 _ _) F.entry_object_init ?_ fun obj s₁ h₁ => ⟨h₁.1, F.args_object_init_3 obj _ _, object_init_meets F.called_zip.init.lookup F.called_zip.made (by decide) prog w A.in1 _ s₁ ⟨h₁.1, rfl, h₁.2⟩⟩
  refine codeAny_of_tree ?_
  show wpAny _ A.in1.in1 (do checkBuiltinCall "zip.__new__" ⟨[.type "zip", v1, v2], []⟩; again (.builtin "zip.__new__" ⟨[.type "zip", v1, v2], []⟩)) _ _ s
  refine wpAny_bind (wpAny_of_eq (F.newCall_zip_2 _ _) (wpAny_pure ⟨plainId_quiet zplain _, codeAny_builtin F.entry_zip_new ?_⟩))
  rw [Around.under_plainId zplain _]
  unfold Builtin.«zip.__new__»
  refine wpAny_bind ?_
  unfold Builtin.SmallTypes.newClass
  refine wpAny_bind (wpAny_of_eq (a := true) rfl ?_)
  refine bm_if_false rfl ?_
  refine wpAny_bind (wpAny_of_eq sub_zip ?_)
  refine bm_if_false rfl ?_
  refine wpAny_pure ?_
  show wpAny _ _ (Builtin.SmallTypes.iterAll [v1, v2] >>= _) _ _ _
  refine wpAny_bind ?_
  unfold Builtin.SmallTypes.iterAll
  simp only [List.forIn_cons, List.forIn_nil]
  refine wpAny_bind (wpAny_bind (wpAny_bind (wpAny_holding (wpAny_mono h (fun it1 s₁ h₁ => ?_) fun _ _ f => f.elim))))
  refine wpAny_pure (wpAny_bind (wpAny_bind (wpAny_holding (wpAny_mono h₁ (fun it2 s₂ h₂ => ?_) fun _ _ f => f.elim))))
  refine wpAny_pure (wpAny_pure (wpAny_pure ?_))
  refine wpAny_bind (wpAny_newTuple (hsz := (by decide : 2 ≤ sizeLine)) ?_)
  refine wpAny_bind (wpAny_newTuple (hsz := (by decide : 2 ≤ sizeLine)) ?_)
  refine wpAny_bind ?_
  unfold Builtin.SmallTypes.newRecord
  refine wpAny_newObj_type ?_ (show 5 ≤ sizeLine + 2 by decide)
  have z1 : (s₂.heap.push { cls := .type "tuple", data := .seq #[it1, it2] }).objs.size = s₂.heap.objs.size + 1 := Heap.size_push _ _
  have z2 : ((s₂.heap.push { cls := .type "tuple", data := .seq #[it1, it2] }).push { cls := .type "tuple", data := .seq #[.none, .none] }).objs.size = s₂.heap.objs.size + 2 := by rw [Heap.size_push, z1]
  have g3 : (((s₂.heap.push { cls := .type "tuple", data := .seq #[it1, it2] }).push { cls := .type "tuple", data := .seq #[.none, .none] }).push { cls := .type "zip", data := .fields #[.none, .bool false, .bool false, .ref s₂.heap.objs.size, .ref (s₂.heap.objs.size + 1)] }).get? (s₂.heap.objs.size + 2) = some { cls := .type "zip", data := .fields #[.none, .bool false, .bool false, .ref s₂.heap.objs.size, .ref (s₂.heap.objs.size + 1)] } := by
    rw [← z2]; exact Heap.get?_push_size _ rfl
  have g2 := Heap.get?_push_of_some { cls := .type "zip", data := .fields #[.none, .bool false, .bool false, .ref s₂.heap.objs.size, .ref (s₂.heap.objs.size + 1)] } (show ((s₂.heap.push { cls := .type "tuple", data := .seq #[it1, it2] }).push { cls := .type "tuple", data := .seq #[.none, .none] }).get? (s₂.heap.objs.size + 1) = some { cls := .type "tuple", data := .seq #[.none, .none] } by
    rw [← z1]; exact Heap.get?_push_size _ rfl)
  have g1 := Heap.get?_push_of_some { cls := .type "zip", data := .fields #[.none, .bool false, .bool false, .ref s₂.heap.objs.size, .ref (s₂.heap.objs.size + 1)] } (Heap.get?_push_of_some { cls := .type "tuple", data := .seq #[.none, .none] } (show (s₂.heap.push { cls := .type "tuple", data := .seq #[it1, it2] }).get? s₂.heap.objs.size = some { cls := .type "tuple", data := .seq #[it1, it2] } from Heap.get?_push_size _ rfl))
  have fin := h₂ _ g3 g1 g2 fun c o e => Heap.get?_push_of_some _ (Heap.get?_push_of_some _ (Heap.get?_push_of_some _ e))
  refine wpAny_pure ?_
  have e0 : ((s₂.heap.push { cls := .type "tuple", data := .seq #[it1, it2] }).push { cls := .type "tuple", data := .seq #[.none, .none] }).objs.size = s₂.heap.objs.size + 2 := z2
  show Shared.TypeIs ({ s₂ with heap := (((s₂.heap.push { cls := .type "tuple", data := .seq #[it1, it2] }).push { cls := .type "tuple", data := .seq #[.none, .none] }).push { cls := .type "zip", data := .fields #[.none, .bool false, .bool false, .ref s₂.heap.objs.size, .ref (s₂.heap.push { cls := .type "tuple", data := .seq #[it1, it2] }).objs.size] }) } : Shared) (Value.ref ((s₂.heap.push { cls := .type "tuple", data := .seq #[it1, it2] }).push { cls := .type "tuple", data := .seq #[.none, .none] }).objs.size) "zip" ∧ Q (Value.ref ((s₂.heap.push { cls := .type "tuple", data := .seq #[it1, it2] }).push { cls := .type "tuple", data := .seq #[.none, .none] }).objs.size) { s₂ with heap := (((s₂.heap.push { cls := .type "tuple", data := .seq #[it1, it2] }).push { cls := .type "tuple", data := .seq #[.none, .none] }).push { cls := .type "zip", data := .fields #[.none, .bool false, .bool false, .ref s₂.heap.objs.size, .ref (s₂.heap.push { cls := .type "tuple", data := .seq #[it1, it2] }).objs.size] }) }
  rw [e0, z1]
  exact ⟨⟨_, g3, rfl⟩, fin⟩

namespace FA
open Builtin
theorem slot_len : Slot "bytearray" (Str.ofString "__len__") "bytearray.__len__" :=
  .of (owner := "bytearray") (n := "__len__") (by rw [typeLookup_type, builtinLookup_eq_fast]; kernel_rfl) (by decide +kernel) (by decide +kernel) (by decide +kernel)
    (by first | exact .inl (by decide +kernel) | exact .inr (by decide +kernel)) (by rw [isSubtype_type]; kernel_rfl)
theorem entry_balen : entryFor table "bytearray.__len__" = some Builtin.«bytearray.__len__» := by first | exact entryFor_of_fast (by kernel_rfl) | exact entryFor_of_tree (by kernel_rfl)
theorem args_balen (a : Value) : argsOk "bytearray.__len__" ⟨[a], []⟩ := by unfold argsOk; kernel_rfl
end FA
section
variable {prog : Program} {w : World} {A : Around} {E : Value → Shared → Prop} {s : Shared} {v : Value} {bs : Array UInt8} {soft : Bool} {Q : Value → Shared → Prop}
theorem len_data (D : DataAt s.heap v bs soft) (hz : bs.size ≤ 1099511627776) (h : Q (.int bs.size (s.toks + 1)) { s with toks := s.toks + 1 + 1 }) : wpAny (model prog w) A (call (.builtin "len") [v]) Q E s := by
  cases soft with
  | false => obtain ⟨t, rfl⟩ := D; exact len_bytes hz h
  | true =>
    obtain ⟨a, rfl, hB⟩ := D
    refine Calls.call_function_entry kind_len plain_len entry_len (args_len1 _) ?_
    unfold Builtin.«len»
    refine wpAny_bind (m := oneArg "len" _) (wpAny_pure ?_)
    refine wpAny_bind (m := callSpecial? (.ref a) (Str.ofString "__len__")) (wpAny_callSpecial?_slot (name := Str.ofString "__len__") hB.typeIs FA.slot_len (wpAny_call_entry FA.slot_len hB.typeIs FA.entry_balen ?_ (FA.args_balen _)))
    show wpAny _ _ (Builtin.Bytes.payload (.ref a) >>= _) _ _ _
    refine wpAny_bind (wp_payload hB (wpAny_bind (wpAny_mkInt (wpAny_pure ⟨_, rfl, ?_⟩))))
    show wpAny _ _ _ _ _ { s with toks := s.toks + 1 }
    refine wpAny_bind (wpAny_holding (wpAny_pure ?_))
    refine wpAny_bind (wpAny_letGo ?_)
    show wpAny _ _ (if (bs.size : Int) < 0 then _ else _) _ _ _
    rw [if_neg (by omega)]
    show wpAny _ _ (if (bs.size : Int) ≥ 2 ^ 63 then _ else _) _ _ _
    rw [if_neg (by omega)]
    exact wpAny_bind (wpAny_mkInt (wpAny_pure ⟨_, rfl, h⟩))
end
open Builtin in
theorem gives_mul0 {n : Int} {t u : Tok} (hf : Bytes.fitsIndex n = true) : Gives («bytes.__mul__» ⟨[.bytes #[] t, .int n u], []⟩) (.val (.bytes #[] t)) := by
  refine .of_wp fun M A E s Q hq => ?_
  show wpAny M A (Bytes.repeatArgs .bytes "__mul__" ⟨[.bytes #[] t, .int n u], []⟩ >>= fun r => _) _ E s
  refine wpAny_bind (wpAny_of_eq (BMul.args_eq hf) ?_)
  refine wpAny_bind (wpAny_of_eq (a := #[]) rfl ?_)
  have e1 : (#[] : Array UInt8).size * n.toNat = 0 := by simp
  show wpAny M A (if (#[] : Array UInt8).size * n.toNat ≥ 2 ^ 63 then _ else _) _ E s
  rw [if_neg (by rw [e1]; omega)]
  refine bm_if_true (by rw [e1]; rfl) ?_
  refine wpAny_bind (wpAny_typeOf (typeIs_bytes s #[] t) ?_)
  exact wpAny_bind (wpAny_rule (wpAny_pure ⟨_, rfl, hq⟩))
section
variable {prog : Program} {w : World} {A : Around} {E : Value → Shared → Prop} {s : Shared} {Q : Value → Shared → Prop}
def repd (kb : Array UInt8) (n : Nat) : Array UInt8 := ((List.replicate n kb.toList).flatten).toArray
theorem repd_size (kb : Array UInt8) (n : Nat) : (repd kb n).size = n * kb.size := by unfold repd; simp
theorem mul_nil {n : Int} {t u : Tok} (hf : Builtin.Bytes.fitsIndex n = true) (h : Q (.bytes #[] t) s) : wpAny (model prog w) A (binaryOp .Mult (.bytes #[] t) (.int n u)) Q E s :=
  wpAny_binaryOp_repeat (T := "bytes") (U := "int") (by decide) (fun s' => typeIs_bytes s' _ t) (fun s' => typeIs_int s' n u) BMul.noFill F.fills_int_mul F.slot_int_rmul BMul.repeats F.slot_int_index.lookup
    (call_gives F.slot_int_rmul (typeIs_int s n u) F.entry_int_rmul (F.args_int_rmul_2 _ _) (BMul.int_declines n u _ t)
      ⟨rfl, call_gives BMul.slot_mul (typeIs_bytes s _ t) BMul.entry_mul (BMul.args_mul _ _) (gives_mul0 hf) h⟩)
theorem mul_key {kb : Array UInt8} {n : Nat} {t u : Tok} (hn : n ≤ 8) (hk : kb.size ≤ 3) (h : ∀ t' k, Q (.bytes (repd kb n) t') { s with toks := k }) : wpAny (model prog w) A (binaryOp .Mult (.bytes kb t) (.int (n : Int) u)) Q E s := by
  by_cases hb : kb.toList = []
  · have e : kb = #[] := by simpa using hb
    subst e
    have hf : Builtin.Bytes.fitsIndex (n : Int) = true := by simp only [Builtin.Bytes.fitsIndex, Bool.and_eq_true, decide_eq_true_eq]; omega
    refine mul_nil hf ?_
    have := h t s.toks
    rw [show repd #[] n = #[] by unfold repd; show ((List.replicate n ([] : List UInt8)).flatten).toArray = #[]; rw [List.flatten_replicate_nil]] at this
    exact this
  · have e : kb = kb.toList.toArray := (Array.toArray_toList (xs := kb)).symm
    have hl : kb.toList.length ≤ 16 := by rw [Array.length_toList]; exact Nat.le_trans hk (by decide)
    have key := bytes_mul_any (prog := prog) (w := w) (A := A) (E := E) (s := s) (b := kb.toList) (n := (n : Int)) (t := t) (u := u) (Q := Q) hb (by omega) (by omega) hl fun t' k => h t' k
    rw [← e] at key
    exact key
end
abbrev XF (bs kk : Array UInt8) (i : Nat) (y : Value) : Prop := ∃ (c d : UInt8) (u : Tok), bs[i]? = some c ∧ kk[i]? = some d ∧ y = Value.int (Builtin.bitXor (c.toNat : Int) (d.toNat : Int)) u
theorem za_new {n : Nat} {f1 f2 : List Addr} (h1 : ∀ x ∈ f1, x < n) (h2 : ∀ x ∈ f2, x < n) : ZA (n + 4) (n + 2) (n + 3) n (n + 1) f1 f2 where
  TIz := Nat.ne_of_lt (Nat.add_lt_add_left (by decide) n)
  TOz := Nat.ne_of_lt (Nat.add_lt_add_left (by decide) n)
  i1z := Nat.ne_of_lt (Nat.lt_add_of_pos_right (by decide))
  i2z := Nat.ne_of_lt (Nat.add_lt_add_left (by decide) n)
  TITO := Nat.ne_of_lt (Nat.add_lt_add_left (by decide) n)
  TIi1 := Nat.ne_of_gt (Nat.lt_add_of_pos_right (by decide))
  TIi2 := Nat.ne_of_gt (Nat.add_lt_add_left (by decide) n)
  TOi1 := Nat.ne_of_gt (Nat.lt_add_of_pos_right (by decide))
  TOi2 := Nat.ne_of_gt (Nat.add_lt_add_left (by decide) n)
  i12 := Nat.ne_of_lt (Nat.lt_add_of_pos_right (by decide))
  a1 := fun b hb => ⟨Nat.ne_of_lt (Nat.lt_of_lt_of_le (h1 b hb) (Nat.le_add_right n 4)), Nat.ne_of_lt (Nat.lt_of_lt_of_le (h1 b hb) (Nat.le_add_right n 3)), Nat.ne_of_lt (Nat.lt_of_lt_of_le (h1 b hb) (Nat.le_add_right n 1))⟩
  a2 := fun b hb => ⟨Nat.ne_of_lt (Nat.lt_of_lt_of_le (h2 b hb) (Nat.le_add_right n 4)), Nat.ne_of_lt (Nat.lt_of_lt_of_le (h2 b hb) (Nat.le_add_right n 3)), Nat.ne_of_lt (h2 b hb)⟩
/-- zip(data, key), its turns ahead -/
theorem zip_data {prog : Program} {w : World} {A : Around} {E : Value → Shared → Prop} {s : Shared} {v : Value} {bs kb : Array UInt8} {soft : Bool} {u : Tok} {Q : Value → Shared → Prop} (D : DataAt s.heap v bs soft)
    (h : ∀ (h' : Heap) (z : Addr) (fp wr : List Addr) (St : Nat → Heap → Prop) (Mid : Nat → Addr → Heap → Prop), (∀ A' : Around, A'.handled = none → WalksU prog w A' z fp wr (min bs.size kb.size) (fun i vals => ∃ x y, Oct bs i x ∧ Oct kb i y ∧ vals = #[x, y]) St Mid) →
      St 0 h' → (∀ b ∈ fp, b < h'.objs.size ∧ (s.heap.objs.size ≤ b ∨ ∃ o, s.heap.get? b = some o ∧ o.cls = .type "bytearray")) → (∀ b ∈ wr, s.heap.objs.size ≤ b) → Kp s.heap h' → Q (.ref z) { s with heap := h' }) :
    wpAny (model prog w) A (call (.type "zip") [v, .bytes kb u]) Q E s := by
  refine call_zip (iter_data_nx D fun o1 f1 S1 W1 hf1 st1 => KBw.pyIter_bytes (fun h' hz hTI hTO hk => ?_))
  have hk1 : Kp s.heap h' := fun b o e => hk _ _ (Heap.get?_push_of_some _ (Heap.get?_push_of_some _ e))
  have e1 : (s.heap.push o1).objs.size = s.heap.objs.size + 1 := Heap.size_push _ _
  have e2 : ((s.heap.push o1).push { cls := .type "bytes_iterator", data := .fields #[.bytes kb u, .int 0 0] }).objs.size = s.heap.objs.size + 2 := by rw [Heap.size_push, e1]
  have hi2 : h'.get? (s.heap.push o1).objs.size = some { cls := .type "bytes_iterator", data := .fields #[.bytes kb u, .int 0 0] } := hk _ _ (Heap.get?_push_size _ rfl)
  have hz' : IsZip h' (s.heap.objs.size + 2 + 2) (s.heap.objs.size + 2) (s.heap.objs.size + 2 + 1) .none := e2 ▸ hz
  have hTI' : IsPair h' (s.heap.objs.size + 2) (.ref s.heap.objs.size) (.ref (s.heap.objs.size + 1)) := by
    have := hTI
    simp only [e1, e2] at this
    exact this
  have hTO' : IsPair h' (s.heap.objs.size + 2 + 1) .none .none := e2 ▸ hTO
  rw [e1] at hi2
  have st1' : S1 0 h' := (W1 callerA rfl).frame _ _ _ st1 fun b _ o e => hk _ _ (Heap.get?_push_of_some _ e)
  have D9 : ZA (s.heap.objs.size + 4) (s.heap.objs.size + 2) (s.heap.objs.size + 3) s.heap.objs.size (s.heap.objs.size + 1) f1 [] := za_new (fun x hx => (hf1 x hx).1) (fun _ m => nomatch m)
  have fin := h h' (s.heap.objs.size + 4) _ _ _ _ (fun A' hh => walks_zip D9 (W1 A'.in1 hh) (nx_bytes (A := A'.in1) hh (s.heap.objs.size + 1) kb u)) ⟨hz', hTI', ⟨_, _, hTO'⟩, st1', ⟨_, hi2, rfl, rfl⟩⟩ ?_ ?_ hk1
  · show Q (.ref _) _
    rw [show ({ s with heap := (s.heap.push o1).push { cls := .type "bytes_iterator", data := .fields #[.bytes kb u, .int 0 0] } } : Shared).heap.objs.size = s.heap.objs.size + 2 from e2]
    exact fin
  · intro b hb
    have lz := Heap.lt_size hz'
    have low : ∀ k : Nat, k ≤ 4 → (s.heap.objs.size + k : Nat) < h'.objs.size := fun k hk4 => Nat.lt_of_le_of_lt (Nat.add_le_add_left hk4 _) lz
    simp only [List.mem_cons, List.append_nil] at hb
    rcases hb with rfl | rfl | rfl | rfl | rfl | hb
    · exact ⟨lz, .inl (Nat.le_add_right _ _)⟩
    · exact ⟨low 2 (by decide), .inl (Nat.le_add_right _ _)⟩
    · exact ⟨low 3 (by decide), .inl (Nat.le_add_right _ _)⟩
    · exact ⟨low 0 (by decide), .inl (Nat.le_refl _)⟩
    · exact ⟨low 1 (by decide), .inl (Nat.le_add_right _ _)⟩
    · obtain ⟨lt, o, e, c⟩ := hf1 b hb
      exact ⟨Nat.lt_trans lt (low 0 (by decide)), .inr ⟨o, e, c⟩⟩
  · intro b hb
    simp only [List.mem_cons, List.not_mem_nil, or_false] at hb
    rcases hb with rfl | rfl | rfl | rfl
    · exact Nat.le_add_right _ _
    · exact Nat.le_add_right _ _
    · exact Nat.le_refl _
    · exact Nat.le_add_right _ _
theorem flat_get {α : Type} {l : List α} (hl : 0 < l.length) : ∀ (n i : Nat), i < n * l.length → ((List.replicate n l).flatten)[i]? = l[i % l.length]?
  | 0, i, h => by simp at h
  | n + 1, i, h => by
    rw [List.replicate_succ, List.flatten_cons]
    by_cases hi : i < l.length
    · rw [List.getElem?_append_left hi, Nat.mod_eq_of_lt hi]
    · have hi' : l.length ≤ i := Nat.le_of_not_lt hi
      rw [List.getElem?_append_right hi', flat_get hl n (i - l.length) (by rw [Nat.succ_mul] at h; omega)]
      rw [Nat.mod_eq_sub_mod hi']
theorem repd_get {kb : Array UInt8} {n i : Nat} {c : UInt8} (h : (repd kb n)[i]? = some c) : (octs kb).getD (i % kb.size) 0 = (c.toNat : Int) := by
  have hi : i < n * kb.size := by
    rcases Nat.lt_or_ge i (repd kb n).size with h' | h'
    · rwa [repd_size] at h'
    · rw [Array.getElem?_eq_none h'] at h; cases h
  have hpos : 0 < kb.toList.length := by
    rw [Array.length_toList]
    rcases Nat.eq_zero_or_pos kb.size with z | z
    · rw [z] at hi; simp at hi
    · exact z
  unfold repd at h
  rw [List.getElem?_toArray, flat_get hpos n i (by rw [Array.length_toList]; exact hi)] at h
  unfold octs
  rw [Array.length_toList] at h
  rw [List.getD_eq_getElem?_getD, List.getElem?_map, h]
  rfl
theorem passing_xf {bs kb : Array UInt8} {n m j : Nat} {y : Value} (h : ∃ i, (passing (fun _ => true) n 0)[j]? = some i ∧ XF bs (repd kb m) i y) : ∃ t, y = Value.int (Builtin.bitXor ((octs bs).getD j 0) ((octs kb).getD (j % kb.size) 0)) t := by
  obtain ⟨i, e, c, d, u, hc, hd, rfl⟩ := h
  rw [passing_all] at e
  have e2 : j = i := by
    rw [List.getElem?_range (by
      rcases Nat.lt_or_ge j n with h | h
      · exact h
      · rw [List.getElem?_eq_none (by simpa using h)] at e; cases e)] at e
    exact Option.some.inj e
  subst e2
  refine ⟨u, ?_⟩
  rw [repd_get hd]
  have : (octs bs).getD j 0 = (c.toNat : Int) := by unfold octs; simp [hc]
  rw [this]
theorem octs_mem {bs : Array UInt8} {i : Nat} (hi : i < bs.size) : (octs bs).getD i 0 ∈ octs bs := by
  have : i < (octs bs).length := by unfold octs; simpa using hi
  rw [List.getD_eq_getElem?_getD, List.getElem?_eq_getElem this]
  exact List.getElem_mem this
end Br
end
-- BrM6
section
open PySem PySem.W PySem.Calls PyProof.Rows
set_option Elab.async false
set_option maxRecDepth 100000
set_option linter.unusedVariables false
set_option linter.unusedSimpArgs false
set_option pp.deepTerms false
set_option pp.deepTerms.threshold 6
namespace Br
variable {w : World} {n : Nat} {b : Heap} {A : Around} {outer : List Env} {s : Shared} {Q E : Value → Shared → Prop} {p : Program} {loose : List Str} {mg mb : Str → Option Value}
set_option maxHeartbeats 4000000 in
theorem c_xorm (P9 : Pg w p loose mg mb b) (C : Cx (n+2) b A outer s.heap) (g : AllBare s.gens) (v : Value) (bs kb : Array UInt8) (soft : Bool) (u : Tok) (D : DataAt s.heap v bs soft) (hz : bs.size ≤ 8) (hkb : kb.size ≤ 3) (hx : ∀ c ∈ octs bs, ∀ d ∈ octs kb, 0 ≤ Builtin.bitXor c d ∧ Builtin.bitXor c d < 256) (k : Ret outer s (fun r _ => ∃ t, r = Value.bytes (arr (fun i => Builtin.bitXor ((octs bs).getD i 0) ((octs kb).getD (i % kb.size) 0)) (if kb.size = 0 then 0 else bs.size)) t) Q) : wpAny (model PySem.Challenge.rw_br5013_01.row.prog w) A (PySem.call (.ref 335) [v, Value.bytes kb u]) Q E s := by
  have X := P9.X
  have T := P9.T
  have bt := P9.bt
  revert X
  k_fill
  intro X
  refine' enter_any (f := 335) C X T.nolimit (ho := ?h1) (hcd := ?h2) (hbind := ?h3) (hloc := ?h4) (hcell := ?h5) (hco := ?h6) (hgen := ?h7) (hk := ?h8) (h := ?h9)
  case h1 => k_is
  case h2 => k_is
  case h3 => exact .of_eq rfl
  case h4 => exact locs rfl
  case h5 => decide
  case h6 => rfl
  case h7 => rfl
  case h8 => rfl
  intro L h₁ fl F N G hs
  have hh9 := C.hd
  replace X := X.keeps (C.base bt)
  replace T := T.keeps (C.base bt)
  replace F : Fr (under s.heap outer) L h₁ (fun y => List.lookup y [(Str.ofString "key", Value.bytes kb u), (Str.ofString "data", v)]) := F
  replace D := under_kp C D
  have KC : CodeOf (under s.heap outer) 334 330 := ⟨⟨_, _, _, _, _, _, _, _, _, X _ _ (by k_is), rfl, rfl, rfl, rfl, rfl, rfl, rfl⟩, by decide⟩
  obtain ⟨bmA, bmO, BM⟩ := P9.bm
  replace BM := BM.keeps (C.base bt)
  k_steps
  refine wpAny_GeneratorExp_walksQT hh9 rfl rfl (by decide) rfl rfl rfl (by decide) rfl (by have := C.dp; show _ + 1 < _; omega) ?_ (fun _ => rfl)
  k_steps
  refine len_data (D.keeps F.keep) (by omega) ?_
  k_steps
  refine mul_key hz hkb fun t9 k9 => ?_
  k_steps
  refine zip_data (D.keeps F.keep) fun h2 z fp wr St Mid W hst hfp hwr hk2 => ?_
  k_steps
  refine' (W _ (by exact hh9)).self 0 _ _ _ ?hst9 ?_
  case hst9 => exact hst
  have T1 : Tabs h₁ := led_tabs N .nil G
  have ne330 : (330 : Nat) < h₁.objs.size := by obtain ⟨ps, e⟩ := tab_fields T1 (.inr rfl); exact Heap.lt_size e
  have F2 := fr_kp F hk2
  have T2 : Tabs h2 := T1.keeps hk2
  refine ⟨T.nolimit.keeps F2.keep, ?_⟩
  refine gen_code (c := 334) (P := 330) T2 rfl (.inr rfl) (KC.keeps F2.keep) fun c' h3 tk3 k3 Tb3 hs3 => ?_
  have lt1 : ∀ b o, b ≠ 330 → h₁.get? b = some o → h3.get? b = some o := fun b o hb e => k3 b o hb (hk2 _ _ e)
  have keep3 : ∀ b o, (under s.heap outer).get? b = some o → h3.get? b = some o := fun b o e => lt1 b o (fun z => by rw [z, under_tab (.inr rfl)] at e; cases e) (F.keep b o e)
  replace BM := BM.keeps keep3
  refine wpAny_builtinsFor BM.ns BM.name BM.ne BM.obj BM.cls BM.dict BM.data ?_
  have nl3 : h3.NoLimit := T.nolimit.keeps keep3
  refine ⟨_, fp, wr, _, _, St, Mid, fun _ => true, XF bs (repd kb bs.size), rfl, W, fun i vals h => (let ⟨x, y, _, _, e⟩ := h; ⟨x, y, e⟩), ?st, fun b hb => Nat.lt_of_lt_of_le (hfp b hb).1 hs3, nl3, ?cw, fun href hh => ?quiet, fun a h5 tk gs hgb hag hsz5 hk5 WS hat => ?fin⟩
  case st =>
    refine (W callerA rfl).frame 0 _ _ hst fun b hb o e => k3 b o (fun zz => ?_) e
    subst zz
    rcases (hfp _ hb).2 with z | ⟨o', e', c'⟩
    · exact absurd ne330 (Nat.not_lt.mpr z)
    · obtain ⟨ps, q⟩ := tab_fields T1 (.inr rfl)
      have e' : h₁.get? 330 = some o' := e'
      rw [q] at e'; cases e'; cases c'
  case cw =>
    intro hm
    obtain ⟨_, ⟨_, _, _, e, _⟩, _⟩ := T.nolimit.keeps F.keep
    exact absurd (Heap.lt_size e) (Nat.not_lt.mpr (hwr _ hm))
  case quiet =>
    refine ⟨fun A' E' i va vb s₂ m₂ hA hP hn hma hmb hkp => wpAny_pure ⟨rfl, s₂.heap, s₂.toks, rfl, fun _ _ e => e⟩, fun A' E' i va vb s₂ m₂ hA hP hp hn hma hmb hkp => ?_⟩
    obtain ⟨x, y, ⟨c, u1, hc, rfl⟩, ⟨d, u2, hd, rfl⟩, e⟩ := hP
    cases e
    refine wpAny_BinOp (wpAny_Name (wpAny_loadName_local rfl rfl hn hma ?_) (by decide))
    refine wpAny_Name (wpAny_loadName_local rfl rfl hn hmb ?_) (by decide)
    exact PyProof.Rows.xor_int ⟨⟨c, d, _, hc, hd, rfl⟩, s₂.heap, s₂.toks + 1, rfl, fun _ _ e => e⟩
  case fin =>
    k_steps
    have hlen : (passing (fun _ => true) (min bs.size (repd kb bs.size).size) 0).length = (if kb.size = 0 then 0 else bs.size) := by
      rw [passing_all, repd_size]
      split
      · rename_i hk0; rw [hk0]; simp
      · rename_i hk0
        have : bs.size ≤ bs.size * kb.size := Nat.le_mul_of_pos_right _ (Nat.pos_of_ne_zero hk0)
        simp [Nat.min_eq_left this]
    rw [hlen] at WS
    refine call_bytes_gen (val := fun i => Builtin.bitXor ((octs bs).getD i 0) ((octs kb).getD (i % kb.size) 0)) WS hat hat.1 ?hfp (fun i v hp => passing_xf hp) ?hr (by rw [sizeLine_eq]; split <;> omega) fun s' t kp gg dd oo => ?hQ
    case hfp =>
      intro b hb
      show b < h5.objs.size
      rw [hsz5]
      rcases List.mem_cons.mp hb with z | hb
      · exact z ▸ Nat.lt_succ_self _
      · rcases List.mem_cons.mp hb with z | hb
        · exact z ▸ Nat.lt_succ_of_lt hag
        · exact Nat.lt_succ_of_lt (Nat.lt_trans (List.mem_range.mp hb) hag)
    case hr =>
      intro i hi
      split at hi
      · omega
      · rename_i hk0
        exact hx _ (octs_mem hi) _ (octs_mem (Nat.mod_lt _ (Nat.pos_of_ne_zero hk0)))
    case hQ =>
      k_steps
      have k2 : ∀ b o, b < h₁.objs.size → h3.get? b = some o → s'.heap.get? b = some o := fun b o hb e => kp b o (fun z => by
        rcases List.mem_cons.mp z with z | z
        · exact absurd (z ▸ Heap.lt_size e) (Nat.lt_irrefl _)
        · exact absurd hb (Nat.not_lt.mpr (hwr _ z))) (hk5 _ _ e)
      obtain ⟨fl', F', N', G'⟩ := behind C bt F N .nil G nds_nil (env := env0 L) rfl (gen_af T1 (.inr rfl) lt1 Tb3 k2)
      have es : s' = ⟨s'.heap, s'.gens, s.drawn, s'.toks, s.os⟩ := by
        cases s'; simp only at dd oo; subst dd oo; rfl
      rw [es]
      exact k _ _ _ _ (ends_af F' N' .nil G' C.tb) (GenOnlyQ.bare gg (bare_push g hgb)) ⟨t, rfl⟩
end Br
end
-- BrFs
section
open PySem PySem.W PySem.Calls PyProof.Rows
set_option Elab.async false
set_option maxRecDepth 100000
set_option linter.unusedVariables false
namespace Br
namespace FA
open Builtin
theorem plainAttrs_ba : PlainAttrs "bytearray" := by
  first
    | exact ⟨⟨"bytearray.__getattribute__", by rw [typeLookup_type, builtinLookup_eq_fast]; kernel_rfl, by decide +kernel⟩, by rw [typeLookup_type, builtinLookup_eq_fast]; kernel_rfl⟩
    | exact ⟨⟨"object.__getattribute__", by rw [typeLookup_type, builtinLookup_eq_fast]; kernel_rfl, by decide +kernel⟩, by rw [typeLookup_type, builtinLookup_eq_fast]; kernel_rfl⟩
theorem slot_find : Slot "bytes" (Str.ofString "find") "bytes.find" :=
  .of (owner := "bytes") (n := "find") (by rw [typeLookup_type, builtinLookup_eq_fast]; kernel_rfl) (by decide +kernel) (by decide +kernel) (by decide +kernel)
    (by first | exact .inl (by decide +kernel) | exact .inr (by decide +kernel)) (by rw [isSubtype_type]; kernel_rfl)
theorem slot_bafind : Slot "bytearray" (Str.ofString "find") "bytearray.find" :=
  .of (owner := "bytearray") (n := "find") (by rw [typeLookup_type, builtinLookup_eq_fast]; kernel_rfl) (by decide +kernel) (by decide +kernel) (by decide +kernel)
    (by first | exact .inl (by decide +kernel) | exact .inr (by decide +kernel)) (by rw [isSubtype_type]; kernel_rfl)
theorem slot_rstrip : Slot "bytes" (Str.ofString "rstrip") "bytes.rstrip" :=
  .of (owner := "bytes") (n := "rstrip") (by rw [typeLookup_type, builtinLookup_eq_fast]; kernel_rfl) (by decide +kernel) (by decide +kernel) (by decide +kernel)
    (by first | exact .inl (by decide +kernel) | exact .inr (by decide +kernel)) (by rw [isSubtype_type]; kernel_rfl)
theorem slot_barstrip : Slot "bytearray" (Str.ofString "rstrip") "bytearray.rstrip" :=
  .of (owner := "bytearray") (n := "rstrip") (by rw [typeLookup_type, builtinLookup_eq_fast]; kernel_rfl) (by decide +kernel) (by decide +kernel) (by decide +kernel)
    (by first | exact .inl (by decide +kernel) | exact .inr (by decide +kernel)) (by rw [isSubtype_type]; kernel_rfl)
theorem entry_find : entryFor table "bytes.find" = some Builtin.«bytes.find» := by first | exact entryFor_of_fast (by kernel_rfl) | exact entryFor_of_tree (by kernel_rfl)
theorem entry_bafind : entryFor table "bytearray.find" = some Builtin.«bytearray.find» := by first | exact entryFor_of_fast (by kernel_rfl) | exact entryFor_of_tree (by kernel_rfl)
theorem entry_rstrip : entryFor table "bytes.rstrip" = some Builtin.«bytes.rstrip» := by first | exact entryFor_of_fast (by kernel_rfl) | exact entryFor_of_tree (by kernel_rfl)
theorem entry_barstrip : entryFor table "bytearray.rstrip" = some Builtin.«bytearray.rstrip» := by first | exact entryFor_of_fast (by kernel_rfl) | exact entryFor_of_tree (by kernel_rfl)
theorem args_find (a b : Value) : argsOk "bytes.find" ⟨[a, b], []⟩ := by unfold argsOk; kernel_rfl
theorem args_find3 (a b c : Value) : argsOk "bytes.find" ⟨[a, b, c], []⟩ := by unfold argsOk; kernel_rfl
theorem args_bafind (a b : Value) : argsOk "bytearray.find" ⟨[a, b], []⟩ := by unfold argsOk; kernel_rfl
theorem args_bafind3 (a b c : Value) : argsOk "bytearray.find" ⟨[a, b, c], []⟩ := by unfold argsOk; kernel_rfl
theorem args_rstrip (a b : Value) : argsOk "bytes.rstrip" ⟨[a, b], []⟩ := by unfold argsOk; kernel_rfl
theorem args_barstrip (a b : Value) : argsOk "bytearray.rstrip" ⟨[a, b], []⟩ := by unfold argsOk; kernel_rfl
theorem ty_find : typeOf (.builtin "bytes.find") = pure (.type "method_descriptor") := by show builtinType _ = _; rw [builtinType_eq_fast]; kernel_rfl
theorem ty_bafind : typeOf (.builtin "bytearray.find") = pure (.type "method_descriptor") := by show builtinType _ = _; rw [builtinType_eq_fast]; kernel_rfl
theorem ty_rstrip : typeOf (.builtin "bytes.rstrip") = pure (.type "method_descriptor") := by show builtinType _ = _; rw [builtinType_eq_fast]; kernel_rfl
theorem ty_barstrip : typeOf (.builtin "bytearray.rstrip") = pure (.type "method_descriptor") := by show builtinType _ = _; rw [builtinType_eq_fast]; kernel_rfl
end FA
open Builtin in
def fnd (b sub : Array UInt8) (lo : Nat) : Int := match (if (b.size : Int) - lo < sub.size then none else some (lo, b.size)).bind fun (x : Nat × Nat) => Bytes.find? b sub x.1 x.2 with
  | some i => (i : Int)
  | none => -1
section
variable {M : Model} {A : Around} {E : Value → Shared → Prop} {s : Shared} {self : Value} {b sub : Array UInt8} {u : Tok} {Q : Value → Shared → Prop}
open Builtin
theorem wp_find1 {k : Bytes.Kind} (hp : ∀ (Q : Array UInt8 → Shared → Prop) (E : Value → Shared → Prop), Q b s → wpAny M A (Bytes.payload self) Q E s)
    (h : Q (.int (fnd b sub 0) s.toks) { s with toks := s.toks + 1 }) : wpAny M A (Bytes.searchM k "find" false false ⟨[self, .bytes sub u], []⟩) (fun fin s' => ∃ v, fin = .done (.ret v) ∧ Q v s') E s := by
  unfold Bytes.searchM
  refine wpAny_bind ?_
  unfold Bytes.searchArgs
  refine wpAny_bind (wpAny_of_eq (a := (self, [.bytes sub u])) (by rfl) ?_)
  refine wpAny_bind (wpAny_of_eq (a := none) (by rfl) ?_)
  refine wpAny_bind (wpAny_of_eq (a := none) (by rfl) ?_)
  refine wpAny_bind (wpAny_of_eq (a := some sub) KBy.buffer_eq ?_)
  refine wpAny_bind (wpAny_pure ?_)
  refine wpAny_bind (hp _ _ (wpAny_pure ?_))
  have e : Bytes.window b.size none none = (0, (b.size : Int)) := by
    simp only [Bytes.window, Option.getD_none]
    rw [if_neg (by omega), if_neg (by omega)]
    simp
  unfold fnd at h
  simp only [Option.getD_none, if_neg (show ¬ ((b.size : Int) < 0) by omega), if_neg (show ¬ ((0 : Int) < 0) by omega), Int.min_self]
  by_cases hc : (b.size : Int) - 0 < sub.size
  · rw [if_pos hc]
    rw [if_pos (by simpa using hc)] at h
    refine wpAny_bind (wpAny_rule ?_)
    exact wpAny_bind (wpAny_mkInt (wpAny_pure ⟨_, rfl, h⟩))
  · rw [if_neg hc]
    rw [if_neg (by simpa using hc)] at h
    simp only [Option.bind_some, Int.toNat_natCast, Int.toNat_zero] at h ⊢
    cases q : Bytes.find? b sub 0 b.size with
    | none =>
      rw [q] at h
      exact wpAny_bind (wpAny_rule (wpAny_bind (wpAny_mkInt (wpAny_pure ⟨_, rfl, h⟩))))
    | some i =>
      rw [q] at h
      exact wpAny_bind (wpAny_mkInt (wpAny_pure ⟨_, rfl, h⟩))
theorem wp_find2 {k : Bytes.Kind} {lo : Nat} {u2 : Tok} (hp : ∀ (Q : Array UInt8 → Shared → Prop) (E : Value → Shared → Prop), Q b s → wpAny M A (Bytes.payload self) Q E s)
    (h : Q (.int (fnd b sub lo) s.toks) { s with toks := s.toks + 1 }) : wpAny M A (Bytes.searchM k "find" false false ⟨[self, .bytes sub u, .int (lo : Nat) u2], []⟩) (fun fin s' => ∃ v, fin = .done (.ret v) ∧ Q v s') E s := by
  unfold Bytes.searchM
  refine wpAny_bind ?_
  unfold Bytes.searchArgs
  refine wpAny_bind (wpAny_of_eq (a := (self, [.bytes sub u, .int (lo : Nat) u2])) (by rfl) ?_)
  refine wpAny_bind ?_
  show wpAny _ _ (specialOf (.int (lo : Nat) u2) _ >>= _) _ _ _
  refine wpAny_bind (wpAny_specialOf (typeIs_int s lo u2) F.slot_int_index.lookup ?_)
  refine bm_if_false rfl ?_
  refine wpAny_bind (wpAny_of_eq (a := (lo : Int)) rfl (wpAny_pure ?_))
  refine wpAny_bind (wpAny_of_eq (a := none) (by rfl) ?_)
  refine wpAny_bind (wpAny_of_eq (a := some sub) KBy.buffer_eq ?_)
  refine wpAny_bind (wpAny_pure ?_)
  refine wpAny_bind (hp _ _ (wpAny_pure ?_))
  have e : Bytes.window b.size (some (lo : Int)) none = ((lo : Int), (b.size : Int)) := by
    simp only [Bytes.window, Option.getD_none, Option.getD_some]
    rw [if_neg (by omega), if_neg (by omega)]
    simp
  unfold fnd at h
  simp only [Option.getD_none, Option.getD_some, if_neg (show ¬ ((b.size : Int) < 0) by omega), if_neg (show ¬ ((lo : Int) < 0) by omega), Int.min_self]
  by_cases hc : (b.size : Int) - lo < sub.size
  · rw [if_pos hc]
    rw [if_pos hc] at h
    refine wpAny_bind (wpAny_rule ?_)
    exact wpAny_bind (wpAny_mkInt (wpAny_pure ⟨_, rfl, h⟩))
  · rw [if_neg hc]
    rw [if_neg hc] at h
    simp only [Option.bind_some, Int.toNat_natCast] at h ⊢
    cases q : Bytes.find? b sub lo b.size with
    | none =>
      rw [q] at h
      exact wpAny_bind (wpAny_rule (wpAny_bind (wpAny_mkInt (wpAny_pure ⟨_, rfl, h⟩))))
    | some i =>
      rw [q] at h
      exact wpAny_bind (wpAny_mkInt (wpAny_pure ⟨_, rfl, h⟩))

def stripR (b sub : Array UInt8) : Array UInt8 := (b.toList.reverse.dropWhile sub.contains).reverse.toArray
theorem stripR_whole {b sub : Array UInt8} (h : ((b.toList.reverse.dropWhile sub.contains).reverse.length == b.size) = true) : stripR b sub = b := by
  have h' := eq_of_beq h
  unfold stripR
  have hs : (b.toList.reverse.dropWhile sub.contains) <:+ b.toList.reverse := List.dropWhile_suffix _
  have e : b.toList.reverse.dropWhile sub.contains = b.toList.reverse := hs.eq_of_length (by rw [List.length_reverse] at h'; rw [h']; simp)
  rw [e]
  simp
theorem stripR_size (b sub : Array UInt8) : (stripR b sub).size ≤ b.size := by
  unfold stripR
  have := (List.dropWhile_suffix (l := b.toList.reverse) sub.contains).length_le
  simpa using this
theorem wp_strip_bytes {t : Tok} (hz : b.size ≤ sizeLine) (h : ∀ t' k, Q (.bytes (stripR b sub) t') { s with toks := k }) : wpAny M A (Bytes.stripM .bytes "rstrip" false true ⟨[.bytes b t, .bytes sub u], []⟩) (fun fin s' => ∃ v, fin = .done (.ret v) ∧ Q v s') E s := by
  unfold Bytes.stripM
  refine wpAny_bind (wpAny_of_eq (a := (.bytes b t, [.bytes sub u])) (by rfl) ?_)
  refine wpAny_bind (wpAny_bind ?_)
  refine wpAny_of_eq (a := some sub) KBy.buffer_eq ?_
  refine wpAny_pure ?_
  refine wpAny_bind (wpAny_pure ?_)
  refine wpAny_bind (wpAny_of_eq (a := b) rfl ?_)
  show wpAny _ _ (if ((b.toList.reverse.dropWhile sub.contains).reverse.length == b.size) = true then _ else _) _ _ _
  by_cases hc : ((b.toList.reverse.dropWhile sub.contains).reverse.length == b.size) = true
  · rw [if_pos hc]
    refine wpAny_bind (wpAny_rule ?_)
    have h' := h t s.toks
    rw [stripR_whole hc] at h'
    unfold Bytes.Kind.same
    refine wpAny_bind ?_
    show wpAny _ _ (typeOf (.bytes b t) >>= _) _ _ _
    refine wpAny_bind (wpAny_typeOf (typeIs_bytes s b t) ?_)
    exact wpAny_pure (wpAny_pure ⟨_, rfl, h'⟩)
  · rw [if_neg hc]
    refine wpAny_bind ?_
    show wpAny _ _ (mkBytes (stripR b sub)) _ _ _
    exact wpAny_mkBytes (wpAny_pure ⟨_, rfl, h _ _⟩) (Nat.le_trans (stripR_size b sub) hz)
theorem wp_strip_ba {a : Addr} (hB : IsBA s.heap a b) (hz : b.size ≤ sizeLine) (h : Q (.ref s.heap.objs.size) { s with heap := s.heap.push { cls := .type "bytearray", data := .bytearray (stripR b sub) } }) : wpAny M A (Bytes.stripM .bytearray "rstrip" false true ⟨[.ref a, .bytes sub u], []⟩) (fun fin s' => ∃ v, fin = .done (.ret v) ∧ Q v s') E s := by
  unfold Bytes.stripM
  refine wpAny_bind (wpAny_of_eq (a := (.ref a, [.bytes sub u])) (by rfl) ?_)
  refine wpAny_bind (wpAny_bind ?_)
  refine wpAny_of_eq (a := some sub) KBy.buffer_eq ?_
  refine wpAny_pure ?_
  refine wpAny_bind (wpAny_pure ?_)
  refine wpAny_bind (wp_payload hB ?_)
  show wpAny _ _ (if ((b.toList.reverse.dropWhile sub.contains).reverse.length == b.size) = true then _ else _) _ _ _
  by_cases hc : ((b.toList.reverse.dropWhile sub.contains).reverse.length == b.size) = true
  · rw [if_pos hc]
    refine wpAny_bind (wpAny_rule ?_)
    rw [stripR_whole hc] at h
    unfold Bytes.Kind.same
    refine wpAny_bind ?_
    refine bm_if_false (by decide) ?_
    refine wpAny_bind (wp_payload hB ?_)
    show wpAny _ _ (Bytes.newBytearray b) _ _ _
    unfold Bytes.newBytearray
    exact wpAny_newObj_type (wpAny_pure ⟨_, rfl, h⟩) hz
  · rw [if_neg hc]
    refine wpAny_bind ?_
    show wpAny _ _ (Bytes.newBytearray (stripR b sub)) _ _ _
    unfold Bytes.newBytearray
    exact wpAny_newObj_type (wpAny_pure ⟨_, rfl, h⟩) (Nat.le_trans (stripR_size b sub) hz)
end
section
variable {prog : Program} {w : World} {A : Around} {E : Value → Shared → Prop} {s : Shared} {a : Addr} {b sub : Array UInt8} {t u u2 : Tok} {lo : Nat} {pl : Sem Bool} {Q : Value → Shared → Prop} {Q2 : Value × List Value → Shared → Prop}
theorem IsBA.noDict {h : Heap} (hB : IsBA h a b) : True := trivial
theorem meth_find (h : Q2 (.builtin "bytes.find", [.bytes b t]) s) : wpAny (model prog w) A (getMethod (.bytes b t) (Str.ofString "find") pl) Q2 E s := getMethod_builtin (name := Str.ofString "find") (typeIs_bytes s b t) FB.plainAttrs_bytes FA.slot_find FA.ty_find (fun _ e => nomatch e) h
theorem meth_rstrip (h : Q2 (.builtin "bytes.rstrip", [.bytes b t]) s) : wpAny (model prog w) A (getMethod (.bytes b t) (Str.ofString "rstrip") pl) Q2 E s := getMethod_builtin (name := Str.ofString "rstrip") (typeIs_bytes s b t) FB.plainAttrs_bytes FA.slot_rstrip FA.ty_rstrip (fun _ e => nomatch e) h
/-- a bytearray without a dict of its own -/
theorem meth_bafind (hB : IsBA s.heap a b) (h : Q2 (.builtin "bytearray.find", [.ref a]) s) : wpAny (model prog w) A (getMethod (.ref a) (Str.ofString "find") pl) Q2 E s := getMethod_builtin (name := Str.ofString "find") hB.typeIs FA.plainAttrs_ba FA.slot_bafind FA.ty_bafind (fun _ e => by cases e; obtain ⟨o, x, ho, _, _, hd⟩ := hB; exact ⟨o, ho, hd⟩) h
theorem meth_barstrip (hB : IsBA s.heap a b) (h : Q2 (.builtin "bytearray.rstrip", [.ref a]) s) : wpAny (model prog w) A (getMethod (.ref a) (Str.ofString "rstrip") pl) Q2 E s := getMethod_builtin (name := Str.ofString "rstrip") hB.typeIs FA.plainAttrs_ba FA.slot_barstrip FA.ty_barstrip (fun _ e => by cases e; obtain ⟨o, x, ho, _, _, hd⟩ := hB; exact ⟨o, ho, hd⟩) h
theorem call_find (h : Q (.int (fnd b sub 0) s.toks) { s with toks := s.toks + 1 }) : wpAny (model prog w) A (call (.builtin "bytes.find") [.bytes b t, .bytes sub u]) Q E s :=
  wpAny_call_entry FA.slot_find (typeIs_bytes s b t) FA.entry_find (wp_find1 (k := .bytes) (fun Q E q => wpAny_of_eq (a := b) rfl q) h) (FA.args_find _ _)
theorem call_find2 (h : Q (.int (fnd b sub lo) s.toks) { s with toks := s.toks + 1 }) : wpAny (model prog w) A (call (.builtin "bytes.find") [.bytes b t, .bytes sub u, .int (lo : Nat) u2]) Q E s :=
  wpAny_call_entry FA.slot_find (typeIs_bytes s b t) FA.entry_find (wp_find2 (k := .bytes) (fun Q E q => wpAny_of_eq (a := b) rfl q) h) (FA.args_find3 _ _ _)
theorem call_bafind (hB : IsBA s.heap a b) (h : Q (.int (fnd b sub 0) s.toks) { s with toks := s.toks + 1 }) : wpAny (model prog w) A (call (.builtin "bytearray.find") [.ref a, .bytes sub u]) Q E s :=
  wpAny_call_entry FA.slot_bafind hB.typeIs FA.entry_bafind (wp_find1 (k := .bytearray) (fun Q E q => wp_payload hB q) h) (FA.args_bafind _ _)
theorem call_bafind2 (hB : IsBA s.heap a b) (h : Q (.int (fnd b sub lo) s.toks) { s with toks := s.toks + 1 }) : wpAny (model prog w) A (call (.builtin "bytearray.find") [.ref a, .bytes sub u, .int (lo : Nat) u2]) Q E s :=
  wpAny_call_entry FA.slot_bafind hB.typeIs FA.entry_bafind (wp_find2 (k := .bytearray) (fun Q E q => wp_payload hB q) h) (FA.args_bafind3 _ _ _)
theorem call_rstrip (hz : b.size ≤ sizeLine) (h : ∀ t' k, Q (.bytes (stripR b sub) t') { s with toks := k }) : wpAny (model prog w) A (call (.builtin "bytes.rstrip") [.bytes b t, .bytes sub u]) Q E s :=
  wpAny_call_entry FA.slot_rstrip (typeIs_bytes s b t) FA.entry_rstrip (wp_strip_bytes hz h) (FA.args_rstrip _ _)
theorem call_barstrip (hB : IsBA s.heap a b) (hz : b.size ≤ sizeLine) (h : Q (.ref s.heap.objs.size) { s with heap := s.heap.push { cls := .type "bytearray", data := .bytearray (stripR b sub) } }) : wpAny (model prog w) A (call (.builtin "bytearray.rstrip") [.ref a, .bytes sub u]) Q E s :=
  wpAny_call_entry FA.slot_barstrip hB.typeIs FA.entry_barstrip (wp_strip_ba hB hz h) (FA.args_barstrip _ _)
theorem call_find2x {x : Int} (h0 : 0 ≤ x) (h : Q (.int (fnd b sub x.toNat) s.toks) { s with toks := s.toks + 1 }) : wpAny (model prog w) A (call (.builtin "bytes.find") [.bytes b t, .bytes sub u, .int x u2]) Q E s := by
  obtain ⟨lo, rfl⟩ := Int.eq_ofNat_of_zero_le h0
  exact call_find2 h
theorem call_bafind2x {x : Int} (hB : IsBA s.heap a b) (h0 : 0 ≤ x) (h : Q (.int (fnd b sub x.toNat) s.toks) { s with toks := s.toks + 1 }) : wpAny (model prog w) A (call (.builtin "bytearray.find") [.ref a, .bytes sub u, .int x u2]) Q E s := by
  obtain ⟨lo, rfl⟩ := Int.eq_ofNat_of_zero_le h0
  exact call_bafind2 hB h
end
end Br
end
-- BrM2
section
open PySem PySem.W PySem.Calls PyProof.Rows
set_option Elab.async false
set_option maxRecDepth 100000
set_option linter.unusedVariables false
set_option linter.unusedSimpArgs false
set_option pp.deepTerms false
set_option pp.deepTerms.threshold 4
namespace Br
local macro_rules | `(tactic| walk_at "getMethod ref") => `(tactic| (k_here; (with_reducible show wpAny _ _ (getMethod (Value.ref _) (Str.ofString "find") _) _ _ _); refine meth_bafind (IsBA.keeps (by assumption) (Fr.keep (by assumption))) ?_; k_whole))
local macro_rules | `(tactic| walk_at "getMethod ref") => `(tactic| (k_here; (with_reducible show wpAny _ _ (getMethod (Value.ref _) (Str.ofString "rstrip") _) _ _ _); refine meth_barstrip (IsBA.keeps (by assumption) (Fr.keep (by assumption))) ?_; k_whole))
local macro_rules | `(tactic| walk_at "getMethod bytes") => `(tactic| (k_here; (with_reducible show wpAny _ _ (getMethod (Value.bytes _ _) (Str.ofString "find") _) _ _ _); refine meth_find ?_; k_whole))
local macro_rules | `(tactic| walk_at "getMethod bytes") => `(tactic| (k_here; (with_reducible show wpAny _ _ (getMethod (Value.bytes _ _) (Str.ofString "rstrip") _) _ _ _); refine meth_rstrip ?_; k_whole))
variable {w : World} {n : Nat} {b : Heap} {A : Around} {outer : List Env} {s : Shared} {Q E : Value → Shared → Prop} {p : Program} {loose : List Str} {mg mb : Str → Option Value}
set_option maxHeartbeats 4000000 in
theorem c_find (P9 : Pg w p loose mg mb b) (C : Cx (n+2) b A outer s.heap) (g : AllBare s.gens) (v : Value) (bs : Array UInt8) (soft : Bool) (i : Int) (u : Tok) (D : DataAt s.heap v bs soft) (h0 : 0 ≤ i) (h1 : i < 256) (k : Ret outer s (fun r _ => ∃ t, r = Value.int (fnd bs #[i.toNat.toUInt8] 0) t) Q) : wpAny (model PySem.Challenge.rw_br5013_01.row.prog w) A (PySem.call (.ref 405) [v, Value.int i u]) Q E s := by
  have X := P9.X
  have T := P9.T
  have bt := P9.bt
  revert X
  k_fill
  intro X
  refine' enter_any (f := 405) C X T.nolimit (ho := ?h1) (hcd := ?h2) (hbind := ?h3) (hloc := ?h4) (hcell := ?h5) (hco := ?h6) (hgen := ?h7) (hk := ?h8) (h := ?h9)
  case h1 => k_is
  case h2 => k_is
  case h3 => exact .of_eq rfl
  case h4 => exact locs rfl
  case h5 => decide
  case h6 => rfl
  case h7 => rfl
  case h8 => rfl
  intro L h₁ fl F N G hs
  have hh9 := C.hd
  replace X := X.keeps (C.base bt)
  replace T := T.keeps (C.base bt)
  replace D := under_kp C D
  cases soft
  · obtain ⟨t, rfl⟩ := D
    k_steps
    refine' c_byte P9 ?hC9_22 ?hg9_22 _ _ h0 h1 ?hk9_22
    case hC9_22 => exact Cx.push C bt (C.base bt) F N .nil G rfl rfl rfl
    case hg9_22 => exact g
    refine' after C bt F N .nil G nds_nil ?hf9_22 ?_
    case hf9_22 => rfl
    intro r h' g' tk' fl F N S G g hr
    simp only [List.nil_append, List.cons_append] at N
    clear S
    obtain ⟨t1, rfl⟩ := hr
    k_steps
    refine call_find ?_
    k_steps
    exact k _ _ _ _ (ends_af F N .nil G C.tb) g ⟨_, rfl⟩
  · obtain ⟨a, rfl, hB⟩ := D
    k_steps
    refine' c_byte P9 ?hC9_30 ?hg9_30 _ _ h0 h1 ?hk9_30
    case hC9_30 => exact Cx.push C bt (C.base bt) F N .nil G rfl rfl rfl
    case hg9_30 => exact g
    refine' after C bt F N .nil G nds_nil ?hf9_30 ?_
    case hf9_30 => rfl
    intro r h' g' tk' fl F N S G g hr
    simp only [List.nil_append, List.cons_append] at N
    clear S
    obtain ⟨t1, rfl⟩ := hr
    k_steps
    refine call_bafind (hB.keeps F.keep) ?_
    k_steps
    exact k _ _ _ _ (ends_af F N .nil G C.tb) g ⟨_, rfl⟩

set_option maxHeartbeats 4000000 in
theorem c_find_bad (P9 : Pg w p loose mg mb b) (C : Cx (n+2) b A outer s.heap) (g : AllBare s.gens) (v : Value) (bs : Array UInt8) (soft : Bool) (i : Int) (u : Tok) (D : DataAt s.heap v bs soft) (hb : i < 0 ∨ 256 ≤ i) (ke : Thr outer s "ValueError" E) : wpAny (model PySem.Challenge.rw_br5013_01.row.prog w) A (PySem.call (.ref 405) [v, Value.int i u]) Q E s := by
  have X := P9.X
  have T := P9.T
  have bt := P9.bt
  revert X
  k_fill
  intro X
  refine' enter_any (f := 405) C X T.nolimit (ho := ?h1) (hcd := ?h2) (hbind := ?h3) (hloc := ?h4) (hcell := ?h5) (hco := ?h6) (hgen := ?h7) (hk := ?h8) (h := ?h9)
  case h1 => k_is
  case h2 => k_is
  case h3 => exact .of_eq rfl
  case h4 => exact locs rfl
  case h5 => decide
  case h6 => rfl
  case h7 => rfl
  case h8 => rfl
  intro L h₁ fl F N G hs
  have hh9 := C.hd
  replace X := X.keeps (C.base bt)
  replace T := T.keeps (C.base bt)
  replace D := under_kp C D
  cases soft
  · obtain ⟨t, rfl⟩ := D
    k_steps
    refine' c_byte_bad P9 ?hC9_42 ?hg9_42 _ _ hb ?hk9_42
    case hC9_42 => exact Cx.push C bt (C.base bt) F N .nil G rfl rfl rfl
    case hg9_42 => exact g
    exact thr_up ke C bt F N .nil G rfl rfl rfl
  · obtain ⟨a, rfl, hB⟩ := D
    k_steps
    refine' c_byte_bad P9 ?hC9_45 ?hg9_45 _ _ hb ?hk9_45
    case hC9_45 => exact Cx.push C bt (C.base bt) F N .nil G rfl rfl rfl
    case hg9_45 => exact g
    exact thr_up ke C bt F N .nil G rfl rfl rfl

set_option maxHeartbeats 4000000 in
theorem c_strip (P9 : Pg w p loose mg mb b) (C : Cx (n+2) b A outer s.heap) (g : AllBare s.gens) (v : Value) (bs : Array UInt8) (soft : Bool) (i : Int) (u : Tok) (D : DataAt s.heap v bs soft) (hz : bs.size ≤ sizeLine) (h0 : 0 ≤ i) (h1 : i < 256) (k : Ret outer s (fun r h' => DataAt h' r (stripR bs #[i.toNat.toUInt8]) soft) Q) : wpAny (model PySem.Challenge.rw_br5013_01.row.prog w) A (PySem.call (.ref 197) [v, Value.int i u]) Q E s := by
  have X := P9.X
  have T := P9.T
  have bt := P9.bt
  revert X
  k_fill
  intro X
  refine' enter_any (f := 197) C X T.nolimit (ho := ?h1) (hcd := ?h2) (hbind := ?h3) (hloc := ?h4) (hcell := ?h5) (hco := ?h6) (hgen := ?h7) (hk := ?h8) (h := ?h9)
  case h1 => k_is
  case h2 => k_is
  case h3 => exact .of_eq rfl
  case h4 => exact locs rfl
  case h5 => decide
  case h6 => rfl
  case h7 => rfl
  case h8 => rfl
  intro L h₁ fl F N G hs
  have hh9 := C.hd
  replace X := X.keeps (C.base bt)
  replace T := T.keeps (C.base bt)
  replace D := under_kp C D
  cases soft
  · obtain ⟨t, rfl⟩ := D
    k_steps
    refine' c_byte P9 ?hC9_52 ?hg9_52 _ _ h0 h1 ?hk9_52
    case hC9_52 => exact Cx.push C bt (C.base bt) F N .nil G rfl rfl rfl
    case hg9_52 => exact g
    refine' after C bt F N .nil G nds_nil ?hf9_52 ?_
    case hf9_52 => rfl
    intro r h' g' tk' fl F N S G g hr
    simp only [List.nil_append, List.cons_append] at N
    clear S
    obtain ⟨t1, rfl⟩ := hr
    k_steps
    refine call_rstrip hz fun t' k' => ?_
    k_steps
    exact k _ _ _ _ (ends_af F N .nil G C.tb) g ⟨_, rfl⟩
  · obtain ⟨a, rfl, hB⟩ := D
    k_steps
    refine' c_byte P9 ?hC9_60 ?hg9_60 _ _ h0 h1 ?hk9_60
    case hC9_60 => exact Cx.push C bt (C.base bt) F N .nil G rfl rfl rfl
    case hg9_60 => exact g
    refine' after C bt F N .nil G nds_nil ?hf9_60 ?_
    case hf9_60 => rfl
    intro r h' g' tk' fl F N S G g hr
    simp only [List.nil_append, List.cons_append] at N
    clear S
    obtain ⟨t1, rfl⟩ := hr
    k_steps
    refine call_barstrip (hB.keeps F.keep) hz ?_
    replace N := News.push F N ({ cls := .type "bytearray", data := .bytearray (stripR bs #[i.toNat.toUInt8]) } : Obj) rfl
    replace F := F.push ({ cls := .type "bytearray", data := .bytearray (stripR bs #[i.toNat.toUInt8]) } : Obj)
    k_steps
    exact k _ _ _ _ (ends_af F N (.cons _ .nil) G C.tb) g ⟨_, rfl, _, _, (N _ (.head _)).1, rfl, rfl, rfl⟩

set_option maxHeartbeats 4000000 in
theorem c_strip_bad (P9 : Pg w p loose mg mb b) (C : Cx (n+2) b A outer s.heap) (g : AllBare s.gens) (v : Value) (bs : Array UInt8) (soft : Bool) (i : Int) (u : Tok) (D : DataAt s.heap v bs soft) (hb : i < 0 ∨ 256 ≤ i) (ke : Thr outer s "ValueError" E) : wpAny (model PySem.Challenge.rw_br5013_01.row.prog w) A (PySem.call (.ref 197) [v, Value.int i u]) Q E s := by
  have X := P9.X
  have T := P9.T
  have bt := P9.bt
  revert X
  k_fill
  intro X
  refine' enter_any (f := 197) C X T.nolimit (ho := ?h1) (hcd := ?h2) (hbind := ?h3) (hloc := ?h4) (hcell := ?h5) (hco := ?h6) (hgen := ?h7) (hk := ?h8) (h := ?h9)
  case h1 => k_is
  case h2 => k_is
  case h3 => exact .of_eq rfl
  case h4 => exact locs rfl
  case h5 => decide
  case h6 => rfl
  case h7 => rfl
  case h8 => rfl
  intro L h₁ fl F N G hs
  have hh9 := C.hd
  replace X := X.keeps (C.base bt)
  replace T := T.keeps (C.base bt)
  replace D := under_kp C D
  cases soft
  · obtain ⟨t, rfl⟩ := D
    k_steps
    refine' c_byte_bad P9 ?hC9_75 ?hg9_75 _ _ hb ?hk9_75
    case hC9_75 => exact Cx.push C bt (C.base bt) F N .nil G rfl rfl rfl
    case hg9_75 => exact g
    exact thr_up ke C bt F N .nil G rfl rfl rfl
  · obtain ⟨a, rfl, hB⟩ := D
    k_steps
    refine' c_byte_bad P9 ?hC9_78 ?hg9_78 _ _ hb ?hk9_78
    case hC9_78 => exact Cx.push C bt (C.base bt) F N .nil G rfl rfl rfl
    case hg9_78 => exact g
    exact thr_up ke C bt F N .nil G rfl rfl rfl
end Br
end
-- BrSl
section
open PySem PySem.W PySem.Calls PyProof.Rows
set_option Elab.async false
set_option maxRecDepth 100000
set_option linter.unusedVariables false
namespace Br
open Builtin
set_option maxHeartbeats 2000000 in
theorem meets_baslice {b : Array UInt8} {c : Addr} (a : Addr) {l u : Value} {lo hi : Option Int} (hl : IsPart l lo) (hu : IsPart u hi) :
    Meets («bytearray.__getitem__» ⟨[.ref c, .ref a], []⟩) (fun _ R s => IsBA s.heap c b ∧ s.heap.IsSliceOf a l u .none ∧ (KBy.picked b lo hi).size ≤ sizeLine ∧ R (.ok (.ret (.ref s.heap.objs.size))) { s with heap := s.heap.push { cls := .type "bytearray", data := .bytearray (KBy.picked b lo hi) } }) := by
  refine .of_wp fun prog w A R s hS => ?_
  obtain ⟨hB, ⟨o, ho, hc, hd⟩, hsz, h⟩ := hS
  have hT : s.TypeIs (.ref a) "slice" := ⟨o, ho, hc⟩
  show wpAny _ _ (Bytes.subscript? (.ref a) >>= fun r => _) _ _ s
  refine wpAny_bind ?_
  unfold Bytes.subscript?
  refine wpAny_bind (wpAny_specialOf hT slice_no_index (wpAny_pure ?_))
  refine wpAny_bind (wpAny_typeOf hT ?_)
  show wpAny _ _ (Bytes.sliceParts (.ref a) >>= fun r => _) _ _ s
  refine wpAny_bind ?_
  unfold Bytes.sliceParts
  refine wpAny_bind (wpAny_field (x := .none) ho hd rfl ?_)
  kby_none
  refine wpAny_ite (KBy.ite_no (show ¬ ((Value.none == rawInt 0) = true) from Bool.false_ne_true) ?_)
  refine wpAny_bind (wpAny_field (x := l) ho hd rfl ?_)
  have go : wpAny (model prog w) A.in1 (sliceIndices (rawPart lo) (rawPart hi) (rawPart none) b.size) (fun r s' => r = sliceBounds lo hi none b.size ∧ s' = s) (fun _ _ => False) s :=
    wpAny_of_eq (sliceIndices_raw lo hi none b.size (fun e => nomatch e)) ⟨rfl, rfl⟩
  cases hl <;> cases hu <;> (first
    | (kby_none; (refine wpAny_bind (wpAny_field (x := .none) ho hd rfl ?_)); kby_none)
    | (kby_none; (refine wpAny_bind (wpAny_field (x := .int _ _) ho hd rfl ?_)); kby_int)
    | (kby_int; (refine wpAny_bind (wpAny_field (x := .none) ho hd rfl ?_)); kby_none)
    | (kby_int; (refine wpAny_bind (wpAny_field (x := .int _ _) ho hd rfl ?_)); kby_int)) <;> refine wpAny_pure ?_
  all_goals
    refine wpAny_bind (wp_payload hB ?_)
    refine wpAny_bind (wpAny_mono go (fun r s' hr => ?_) fun _ _ e => e.elim)
    obtain ⟨hr1, hr2⟩ := hr
    subst hr1 hr2
    refine wpAny_bind ?_
    unfold Bytes.newBytearray
    exact wpAny_newObj_type (wpAny_pure ⟨_, rfl, h⟩) hsz

section
variable {prog : Program} {w : World} {A : Around} {E : Value → Shared → Prop} {s : Shared} {value slice : PySem.Expr} {v : Value} {b : Array UInt8} {soft : Bool} {l u : Value} {lo hi : Option Int} {Q : Value → Shared → Prop}
theorem slice_data (D : DataAt s.heap v b soft) (hl : IsPart l lo) (hu : IsPart u hi) (hz : b.size ≤ 16777216)
    (h : ∀ h' r k, Kp s.heap h' → DataAt h' r (KBy.picked b lo hi) soft → (∀ a, r = .ref a → s.heap.objs.size ≤ a) → Q r { s with heap := h', toks := k })
    (hs : subscripted slice false v (.ref s.heap.objs.size) = operate [.ref s.heap.objs.size, v] (getItem v (.ref s.heap.objs.size)))
    (ht : ∀ r, letTemporaryGo value v r = pure ()) :
    wpAny (model prog w) A (subscriptTail value slice v (.ref s.heap.objs.size)) Q E { s with heap := s.heap.push { cls := .type "slice", data := .fields #[l, u, .none] } } := by
  have sz : (KBy.picked b lo hi).size ≤ sizeLine := Nat.le_trans (KBc.size_picked_le b lo hi) (by rw [sizeLine_eq]; exact hz)
  cases soft with
  | false =>
    obtain ⟨t, rfl⟩ := D
    exact tail_of_ItemOn ⟨"bytes", _, FB.slot_bytes_getitem.lookup, typeIs_bytes _ _ _, getItem_meets (typeIs_bytes _ _ _) (by decide) FB.slot_bytes_getitem FB.entry_bytes_getitem (FB.args_bytes_getitem_2 _ _) (KBc.meets_slice2 b t _ hl hu)
      ⟨Heap.IsSliceOf.new _ _ _ _, sz, fun t' k => h _ _ _ (fun b o e => Heap.get?_push_of_some _ e) ⟨_, rfl⟩ (fun _ e => nomatch e)⟩⟩ hs ht
  | true =>
    obtain ⟨a, rfl, hB⟩ := D
    have hB' : IsBA (s.heap.push { cls := .type "slice", data := .fields #[l, u, .none] }) a b := hB.keeps fun b o e => Heap.get?_push_of_some _ e
    refine tail_of_ItemOn ⟨"bytearray", _, FA.slot_getitem.lookup, IsBA.typeIs (s := { s with heap := _ }) hB', getItem_meets (IsBA.typeIs (s := { s with heap := _ }) hB') (by decide) FA.slot_getitem FA.entry_getitem (FA.args_getitem _ _) (meets_baslice (b := b) _ hl hu)
      ⟨hB', Heap.IsSliceOf.new _ _ _ _, sz, h _ _ s.toks (fun b o e => Heap.get?_push_of_some _ (Heap.get?_push_of_some _ e)) ⟨_, rfl, _, _, Heap.get?_push_size _ rfl, rfl, rfl, rfl⟩ (fun a e => ?_)⟩⟩ hs ht
    cases e
    show s.heap.objs.size ≤ (s.heap.push _).objs.size
    rw [Heap.size_push]
    exact Nat.le_succ _
end
end Br
end
-- BrM3
section
open PySem PySem.W PySem.Calls PyProof.Rows
set_option Elab.async false
set_option maxRecDepth 100000
set_option linter.unusedVariables false
set_option linter.unusedSimpArgs false
set_option pp.deepTerms false
set_option pp.deepTerms.threshold 4
namespace Br
def cutHi (j : Int) (n : Int) : Option Int := if j = -1 then none else some (j + n)
theorem fresh_of {h₀ h h' : Heap} {outer : List Env} {L : Addr} {m : Str → Option Value} {n : Nat} {b : Heap} {A : Around} (C : Cx (n+1) b A outer h₀) (F : Fr (under h₀ outer) L h m) {r : Value} (x : ∀ a, r = .ref a → h.objs.size ≤ a) : ∀ a, r = .ref a → h₀.get? a = none := fun a e =>
  Heap.get?_none_of_le (Nat.le_trans (Nat.le_of_lt (Nat.lt_of_le_of_lt (kf C F) F.ns.lt)) (x a e))
theorem cut_ret {h₀ h h' : Heap} {outer : List Env} {L : Addr} {m : Str → Option Value} {n : Nat} {b : Heap} {A : Around} {r : Value} {bs : Array UInt8} {hi hi' : Option Int} {soft : Bool} (C : Cx (n+1) b A outer h₀) (F : Fr (under h₀ outer) L h m) (x : ∀ a, r = .ref a → h.objs.size ≤ a)
    (D : DataAt h' r (KBy.picked bs none hi) soft) (e : hi = hi') : DataAt h' r (KBy.picked bs none hi') soft ∧ ∀ a, r = .ref a → h₀.get? a = none := ⟨e ▸ D, fresh_of C F (h' := h') x⟩
variable {w : World} {n : Nat} {b : Heap} {A : Around} {outer : List Env} {s : Shared} {Q E : Value → Shared → Prop} {p : Program} {loose : List Str} {mg mb : Str → Option Value}
set_option maxHeartbeats 4000000 in
theorem c_term (P9 : Pg w p loose mg mb b) (C : Cx (n+3) b A outer s.heap) (g : AllBare s.gens) (v : Value) (bs : Array UInt8) (soft inc : Bool) (i : Int) (u : Tok) (D : DataAt s.heap v bs soft) (h0 : 0 ≤ i) (h1 : i < 256) (hz : bs.size ≤ 16777216) (k : Ret outer s (fun r h' => DataAt h' r (KBy.picked bs none (cutHi (fnd bs #[i.toNat.toUInt8] 0) (if inc then 1 else 0))) soft ∧ ∀ a, r = .ref a → s.heap.get? a = none) Q) : wpAny (model PySem.Challenge.rw_br5013_01.row.prog w) A (PySem.call (.ref 207) [v, Value.int i u, Value.bool inc]) Q E s := by
  have X := P9.X
  have T := P9.T
  have bt := P9.bt
  revert X
  k_fill
  intro X
  refine' enter_any (f := 207) C X T.nolimit (ho := ?h1) (hcd := ?h2) (hbind := ?h3) (hloc := ?h4) (hcell := ?h5) (hco := ?h6) (hgen := ?h7) (hk := ?h8) (h := ?h9)
  case h1 => k_is
  case h2 => k_is
  case h3 => exact .of_eq rfl
  case h4 => exact locs rfl
  case h5 => decide
  case h6 => rfl
  case h7 => rfl
  case h8 => rfl
  intro L h₁ fl F N G hs
  have hh9 := C.hd
  replace X := X.keeps (C.base bt)
  replace T := T.keeps (C.base bt)
  replace D := under_kp C D
  k_steps
  refine' c_find P9 ?hC9_21 ?hg9_21 v bs soft i u (D.keeps F.keep) h0 h1 ?hk9_21
  case hC9_21 => exact Cx.push C bt (C.base bt) F N .nil G rfl rfl rfl
  case hg9_21 => exact g
  refine' after C bt F N .nil G nds_nil ?hf9_21 ?_
  case hf9_21 => rfl
  intro r h' g' tk' fl F N S G g hr
  simp only [List.nil_append, List.cons_append] at N
  clear S
  obtain ⟨t, rfl⟩ := hr
  k_steps
  all_goals
    refine slice_data (s := ⟨_, _, _, _, _⟩) (D.keeps (Fr.keep (by assumption))) (by constructor) (by constructor) hz (fun h9 r9 k9 kk dd fr => ?_) (by with_unfolding_all rfl) (by intro _; with_unfolding_all rfl)
    have hret := cut_ret C (by assumption) fr dd (hi' := cutHi (fnd bs #[i.toNat.toUInt8] 0) (if inc then 1 else 0)) (by unfold cutHi; simp [*])
    exact k _ _ _ _ (ends_af (fr_kp (by assumption) kk) (news_kp (by assumption) kk) .nil G C.tb) g hret

set_option maxHeartbeats 4000000 in
theorem c_term_bad (P9 : Pg w p loose mg mb b) (C : Cx (n+3) b A outer s.heap) (g : AllBare s.gens) (v : Value) (bs : Array UInt8) (soft inc : Bool) (i : Int) (u : Tok) (D : DataAt s.heap v bs soft) (hb : i < 0 ∨ 256 ≤ i) (ke : Thr outer s "ValueError" E) : wpAny (model PySem.Challenge.rw_br5013_01.row.prog w) A (PySem.call (.ref 207) [v, Value.int i u, Value.bool inc]) Q E s := by
  have X := P9.X
  have T := P9.T
  have bt := P9.bt
  revert X
  k_fill
  intro X
  refine' enter_any (f := 207) C X T.nolimit (ho := ?h1) (hcd := ?h2) (hbind := ?h3) (hloc := ?h4) (hcell := ?h5) (hco := ?h6) (hgen := ?h7) (hk := ?h8) (h := ?h9)
  case h1 => k_is
  case h2 => k_is
  case h3 => exact .of_eq rfl
  case h4 => exact locs rfl
  case h5 => decide
  case h6 => rfl
  case h7 => rfl
  case h8 => rfl
  intro L h₁ fl F N G hs
  have hh9 := C.hd
  replace X := X.keeps (C.base bt)
  replace T := T.keeps (C.base bt)
  replace D := under_kp C D
  k_steps
  refine' c_find_bad P9 ?hC9_32 ?hg9_32 v bs soft i u (D.keeps F.keep) hb ?hk9_32
  case hC9_32 => exact Cx.push C bt (C.base bt) F N .nil G rfl rfl rfl
  case hg9_32 => exact g
  exact thr_up ke C bt F N .nil G rfl rfl rfl
end Br
end
-- BrMa
section
open PySem PySem.W PySem.Calls PyProof.Rows
set_option Elab.async false
set_option maxRecDepth 100000
set_option linter.unusedVariables false
namespace Br
open Builtin
def matchAt (b sub : Array UInt8) (k : Nat) : Prop := k + sub.size ≤ b.size ∧ b.extract k (k + sub.size) = sub
theorem fnd_spec (b sub : Array UInt8) (lo : Nat) :
    (fnd b sub lo = -1 ∧ ∀ k, lo ≤ k → ¬ matchAt b sub k) ∨ (∃ i : Nat, fnd b sub lo = i ∧ lo ≤ i ∧ matchAt b sub i ∧ ∀ k, lo ≤ k → k < i → ¬ matchAt b sub k) := by
  unfold fnd
  by_cases hc : (b.size : Int) - lo < sub.size
  · rw [if_pos hc]
    refine .inl ⟨rfl, fun k hk hm => ?_⟩
    have := hm.1
    omega
  · rw [if_neg hc]
    simp only [Option.bind_some]
    unfold Bytes.find?
    have hmem : ∀ k, k ∈ (List.range (b.size + 1 - (lo + sub.size))).map (· + lo) ↔ lo ≤ k ∧ k + sub.size ≤ b.size := fun k => by
      simp only [List.mem_map, List.mem_range]
      constructor
      · rintro ⟨a, ha, rfl⟩; omega
      · rintro ⟨h1, h2⟩; exact ⟨k - lo, by omega, by omega⟩
    cases q : ((List.range (b.size + 1 - (lo + sub.size))).map (· + lo)).find? fun i => b.extract i (i + sub.size) == sub with
    | none =>
      refine .inl ⟨rfl, fun k hk hm => ?_⟩
      have := List.find?_eq_none.mp q k ((hmem k).mpr ⟨hk, hm.1⟩)
      rw [hm.2] at this
      simp at this
    | some i =>
      obtain ⟨h1, as, bs', h2, h3⟩ := List.find?_eq_some_iff_append.mp q
      have hi : i ∈ (List.range (b.size + 1 - (lo + sub.size))).map (· + lo) := by rw [h2]; simp
      obtain ⟨m1, m2⟩ := (hmem i).mp hi
      refine .inr ⟨i, rfl, m1, ⟨m2, by simpa using h1⟩, fun k hk hlt hm => ?_⟩
      have hkm := (hmem k).mpr ⟨hk, hm.1⟩
      rw [h2] at hkm
      rcases List.mem_append.mp hkm with hkm | hkm
      · have := h3 k hkm
        rw [hm.2] at this
        simp at this
      · have sorted : ((List.range (b.size + 1 - (lo + sub.size))).map (· + lo)).Pairwise (· < ·) := by
          rw [List.pairwise_map]
          exact List.pairwise_lt_range.imp fun h => by omega
        rw [h2, List.pairwise_append] at sorted
        rcases List.mem_cons.mp hkm with rfl | hkm
        · omega
        · have := (List.pairwise_cons.mp sorted.2.1).1 k hkm
          omega
end Br
end
-- BrM4
section
open PySem PySem.W PySem.Calls PyProof.Rows
set_option Elab.async false
set_option maxRecDepth 100000
set_option linter.unusedVariables false
set_option linter.unusedSimpArgs false
set_option pp.deepTerms false
set_option pp.deepTerms.threshold 6
namespace Br
theorem len_two {prog : Program} {w : World} {A : Around} {E : Value → Shared → Prop} {s : Shared} {a b : UInt8} {t : Tok} {Q : Value → Shared → Prop} (h : Q (.int 2 (s.toks + 1)) { s with toks := s.toks + 1 + 1 }) : wpAny (model prog w) A (call (.builtin "len") [.bytes #[a, b] t]) Q E s := len_bytes (b := #[a, b]) (show 2 ≤ 1099511627776 by decide) h
local macro_rules | `(tactic| walk_at "subscriptTail") => `(tactic| (refine hold ?_))
local macro_rules | `(tactic| walk_at "Exists") => `(tactic| (refine hold ?_))
local macro_rules | `(tactic| walk_at "getMethod ref") => `(tactic| (k_here; (with_reducible show wpAny _ _ (getMethod (Value.ref _) (Str.ofString "find") _) _ _ _); refine meth_bafind (IsBA.keeps (by assumption) (Fr.keep (by assumption))) ?_; k_whole))
local macro_rules | `(tactic| walk_at "getMethod bytes") => `(tactic| (k_here; (with_reducible show wpAny _ _ (getMethod (Value.bytes _ _) (Str.ofString "find") _) _ _ _); refine meth_find ?_; k_whole))
local macro_rules | `(tactic| walk_at "call builtin:bytes.find") => `(tactic| (k_here; (with_reducible show wpAny _ _ (call (Value.builtin "bytes.find") [Value.bytes _ _, Value.bytes _ _]) _ _ _); refine call_find ?_; k_whole))
local macro_rules | `(tactic| walk_at "call builtin:bytearray.find") => `(tactic| (k_here; (with_reducible show wpAny _ _ (call (Value.builtin "bytearray.find") [Value.ref _, Value.bytes _ _]) _ _ _); refine call_bafind (IsBA.keeps (by assumption) (Fr.keep (by assumption))) ?_; k_whole))
local macro_rules | `(tactic| walk_at "call builtin:len") => `(tactic| (k_here; (with_reducible show wpAny _ _ (call (Value.builtin "len") [Value.bytes #[_, _] _]) _ _ _); refine len_two ?_; k_whole))
local macro_rules | `(tactic| walk_at "exec While") => `(tactic| (refine hold ?_))
local macro_rules | `(tactic| walk_at "exec While Constant") => `(tactic| (refine hold ?_))
local macro_rules | `(tactic| walk_at "exec While Constant cons") => `(tactic| (refine hold ?_))
local macro_rules | `(tactic| walk_at "exec While Constant cons nil") => `(tactic| (refine hold ?_))
def FirstEven (bs e : Array UInt8) (j : Int) : Prop := (j = -1 ∧ ∀ k, k % 2 = 0 → ¬ matchAt bs e k) ∨ (∃ i : Nat, j = i ∧ i % 2 = 0 ∧ matchAt bs e i ∧ ∀ k, k < i → k % 2 = 0 → ¬ matchAt bs e k)
theorem multi_cut {h' : Heap} {r : Value} {bs : Array UInt8} {soft : Bool} {hi hi' : Option Int} (D : DataAt h' r (KBy.picked bs none hi) soft) (e : hi = hi') : DataAt h' r (KBy.picked bs none hi') soft := e ▸ D
theorem multi_init {g h : Heap} {L : Addr} {a m c : Str} {x y : Option Value} {R : Str → Option Value} (F : Fr g L h (fun z => if z = a then x else if z = c then y else R z)) (hR : R m = none) (hne : m ≠ c) : Fr g L h (fun z => if z = a then x else if z = m then none else if z = c then y else R z) :=
  fr_map F fun z => by
    by_cases h1 : z = a
    · simp [h1]
    · by_cases h2 : z = m
      · subst h2; simp [h1, hne, hR]
      · simp [h1, h2]
theorem multi_next {g h : Heap} {L : Addr} {a m c : Str} {x x' y M M' : Option Value} {R : Str → Option Value} (F : Fr g L h (fun z => if z = a then x' else if z = m then M' else if z = a then x else if z = m then M else if z = c then y else R z)) : Fr g L h (fun z => if z = a then x' else if z = m then M' else if z = c then y else R z) :=
  fr_map F fun z => by
    by_cases h1 : z = a
    · simp [h1]
    · by_cases h2 : z = m
      · simp [h1, h2]
      · simp [h1, h2]
variable {w : World} {n : Nat} {b : Heap} {A : Around} {outer : List Env} {s : Shared} {Q E : Value → Shared → Prop} {p : Program} {loose : List Str} {mg mb : Str → Option Value}
set_option maxHeartbeats 4000000 in
theorem c_multi (P9 : Pg w p loose mg mb b) (C : Cx (n+2) b A outer s.heap) (g : AllBare s.gens) (v : Value) (bs : Array UInt8) (soft inc : Bool) (e1 e2 : UInt8) (u : Tok) (D : DataAt s.heap v bs soft) (hz : bs.size ≤ 16777216) (k : Ret outer s (fun r h' => ∃ j : Int, DataAt h' r (KBy.picked bs none (cutHi j (if inc then 2 else 0))) soft ∧ FirstEven bs #[e1, e2] j) Q) : wpAny (model PySem.Challenge.rw_br5013_01.row.prog w) A (PySem.call (.ref 217) [v, Value.bytes #[e1, e2] u, Value.bool inc]) Q E s := by
  have X := P9.X
  have T := P9.T
  have bt := P9.bt
  revert X
  k_fill
  intro X
  refine' enter_any (f := 217) C X T.nolimit (ho := ?h1) (hcd := ?h2) (hbind := ?h3) (hloc := ?h4) (hcell := ?h5) (hco := ?h6) (hgen := ?h7) (hk := ?h8) (h := ?h9)
  case h1 => k_is
  case h2 => k_is
  case h3 => exact .of_eq rfl
  case h4 => exact locs rfl
  case h5 => decide
  case h6 => rfl
  case h7 => rfl
  case h8 => rfl
  intro L h₁ fl F N G hs
  have hh9 := C.hd
  replace X := X.keeps (C.base bt)
  replace T := T.keeps (C.base bt)
  replace F : Fr (under s.heap outer) L h₁ (fun y => List.lookup y [(Str.ofString "include_term", Value.bool inc), (Str.ofString "term", Value.bytes #[e1, e2] u), (Str.ofString "data", v)]) := F
  replace D := under_kp C D
  cases soft
  · obtain ⟨t, rfl⟩ := D
    have D : DataAt (under s.heap outer) (Value.bytes bs t) bs false := ⟨t, rfl⟩
    k_steps
    rename_i h9 F N
    have F1 := multi_init (m := Str.ofString "mod") F rfl (by decide)
    refine (show wpAny _ _ _ _ _ _ from ?_)
    refine wpAny_While (codeAny_whileLoop (fun k s' => ∃ h9 tk M t1 t2 lo, s' = ⟨h9, s.gens, s.drawn, tk, s.os⟩ ∧ Fr (under s.heap outer) L h9 (fun y => if y = Str.ofString "search_index" then some (Value.int (fnd bs #[e1, e2] lo) t1) else if y = Str.ofString "mod" then M else if y = Str.ofString "unit_size" then some (Value.int 2 t2) else List.lookup y [(Str.ofString "include_term", Value.bool inc), (Str.ofString "term", Value.bytes #[e1, e2] u), (Str.ofString "data", Value.bytes bs t)]) ∧
      News (under s.heap outer) L h9 fl ∧ (∀ j, j < lo → j % 2 = 0 → ¬ matchAt bs #[e1, e2] j) ∧ lo ≤ bs.size + 1 ∧ k + lo = bs.size + 2) ?_ (bs.size + 2) ⟨_, _, none, _, _, 0, rfl, F1, N, fun j hj => absurd hj (Nat.not_lt_zero _), Nat.zero_le _, rfl⟩)
    rintro kk s' ⟨h9, tk, M, t1, t2, lo, rfl, F, N, inv, hlo, hk⟩
    rcases fnd_spec bs #[e1, e2] lo with ⟨hj, hno⟩ | ⟨i, hj, h1, h2, h3⟩
    · rw [hj] at F
      k_steps
      refine slice_data (s := ⟨_, _, _, _, _⟩) (D.keeps (Fr.keep (by assumption))) (by constructor) (by constructor) hz (fun h9 r9 k9 kk dd fr => ?_) (by with_unfolding_all rfl) (by intro _; with_unfolding_all rfl)
      exact k _ _ _ _ (ends_af (fr_kp (by assumption) kk) (news_kp (by assumption) kk) .nil G C.tb) g ⟨-1, multi_cut dd (by unfold cutHi; simp), .inl ⟨rfl, fun k hk => (Nat.lt_or_ge k lo).elim (fun h => inv k h hk) (fun h => hno k h)⟩⟩
    · rw [hj] at F
      have hem : (i : Int).fmod 2 = (i : Int) % 2 := Int.fmod_eq_emod_of_nonneg _ (by decide)
      have hsz : i + 2 ≤ bs.size := h2.1
      k_steps
      all_goals first
        | (exfalso; omega)
        | (refine slice_data (s := ⟨_, _, _, _, _⟩) (D.keeps (Fr.keep (by assumption))) (by constructor) (by constructor) hz (fun h9 r9 k9 kk dd fr => ?_) (by with_unfolding_all rfl) (by intro _; with_unfolding_all rfl)
           exact k _ _ _ _ (ends_af (fr_kp (by assumption) kk) (news_kp (by assumption) kk) .nil G C.tb) g ⟨i, multi_cut dd (by unfold cutHi; rw [if_neg (by omega)]; simp [*]), .inr ⟨i, rfl, by omega, h2, fun k hk he => (Nat.lt_or_ge k lo).elim (fun h => inv k h he) (fun h => h3 k h hk)⟩⟩)
        | (refine call_find2x (by omega) ?_
           k_steps
           rename_i F9 N9
           have hlo' : ((i : Int) + (2 - (i : Int).fmod 2)).toNat = i + 1 := by omega
           rw [hlo'] at F9
           exact ⟨kk - (i + 1 - lo), by omega, _, _, _, _, _, i + 1, rfl, multi_next F9, N9, fun j hjj he => (Nat.lt_or_ge j lo).elim (fun h => inv j h he) (fun h => (Nat.lt_or_ge j i).elim (fun h' => h3 j h h') (fun h' => by omega)), by omega, by omega⟩)
  · obtain ⟨a, rfl, hB⟩ := D
    have D : DataAt (under s.heap outer) (Value.ref a) bs true := ⟨a, rfl, hB⟩
    k_steps
    rename_i h9 F N
    have F1 := multi_init (m := Str.ofString "mod") F rfl (by decide)
    refine (show wpAny _ _ _ _ _ _ from ?_)
    refine wpAny_While (codeAny_whileLoop (fun k s' => ∃ h9 tk M t1 t2 lo, s' = ⟨h9, s.gens, s.drawn, tk, s.os⟩ ∧ Fr (under s.heap outer) L h9 (fun y => if y = Str.ofString "search_index" then some (Value.int (fnd bs #[e1, e2] lo) t1) else if y = Str.ofString "mod" then M else if y = Str.ofString "unit_size" then some (Value.int 2 t2) else List.lookup y [(Str.ofString "include_term", Value.bool inc), (Str.ofString "term", Value.bytes #[e1, e2] u), (Str.ofString "data", Value.ref a)]) ∧
      News (under s.heap outer) L h9 fl ∧ (∀ j, j < lo → j % 2 = 0 → ¬ matchAt bs #[e1, e2] j) ∧ lo ≤ bs.size + 1 ∧ k + lo = bs.size + 2) ?_ (bs.size + 2) ⟨_, _, none, _, _, 0, rfl, F1, N, fun j hj => absurd hj (Nat.not_lt_zero _), Nat.zero_le _, rfl⟩)
    rintro kk s' ⟨h9, tk, M, t1, t2, lo, rfl, F, N, inv, hlo, hk⟩
    rcases fnd_spec bs #[e1, e2] lo with ⟨hj, hno⟩ | ⟨i, hj, h1, h2, h3⟩
    · rw [hj] at F
      k_steps
      refine slice_data (s := ⟨_, _, _, _, _⟩) (D.keeps (Fr.keep (by assumption))) (by constructor) (by constructor) hz (fun h9 r9 k9 kk dd fr => ?_) (by with_unfolding_all rfl) (by intro _; with_unfolding_all rfl)
      exact k _ _ _ _ (ends_af (fr_kp (by assumption) kk) (news_kp (by assumption) kk) .nil G C.tb) g ⟨-1, multi_cut dd (by unfold cutHi; simp), .inl ⟨rfl, fun k hk => (Nat.lt_or_ge k lo).elim (fun h => inv k h hk) (fun h => hno k h)⟩⟩
    · rw [hj] at F
      have hem : (i : Int).fmod 2 = (i : Int) % 2 := Int.fmod_eq_emod_of_nonneg _ (by decide)
      have hsz : i + 2 ≤ bs.size := h2.1
      k_steps
      all_goals first
        | (exfalso; omega)
        | (refine slice_data (s := ⟨_, _, _, _, _⟩) (D.keeps (Fr.keep (by assumption))) (by constructor) (by constructor) hz (fun h9 r9 k9 kk dd fr => ?_) (by with_unfolding_all rfl) (by intro _; with_unfolding_all rfl)
           exact k _ _ _ _ (ends_af (fr_kp (by assumption) kk) (news_kp (by assumption) kk) .nil G C.tb) g ⟨i, multi_cut dd (by unfold cutHi; rw [if_neg (by omega)]; simp [*]), .inr ⟨i, rfl, by omega, h2, fun k hk he => (Nat.lt_or_ge k lo).elim (fun h => inv k h he) (fun h => h3 k h hk)⟩⟩)
        | (refine call_bafind2x (hB.keeps (Fr.keep (by assumption))) (by omega) ?_
           k_steps
           rename_i F9 N9
           have hlo' : ((i : Int) + (2 - (i : Int).fmod 2)).toNat = i + 1 := by omega
           rw [hlo'] at F9
           exact ⟨kk - (i + 1 - lo), by omega, _, _, _, _, _, i + 1, rfl, multi_next F9, N9, fun j hjj he => (Nat.lt_or_ge j lo).elim (fun h => inv j h he) (fun h => (Nat.lt_or_ge j i).elim (fun h' => h3 j h h') (fun h' => by omega)), by omega, by omega⟩)
end Br
end
-- BrPc
section
open PySem PySem.W PySem.Calls PyProof.Rows PySem.Builtin PySem.Builtin.Str
set_option Elab.async false
set_option maxRecDepth 100000
set_option linter.unusedVariables false
namespace Br
theorem int_textN (c : Percent) (h1 : c.alt = false) (h2 : c.type = 100 ∨ c.type = 105 ∨ c.type = 117) (h3 : c.prec = none) {n : Int} (hn : n < 0) (d : List Nat) : percentInt c (decide (n < 0)) d = 45 :: d := by
  have hneg : decide (n < 0) = true := decide_eq_true hn
  unfold percentInt
  rcases h2 with h2 | h2 | h2 <;> simp [h1, h2, h3, hneg]
theorem neg_digits {n : Int} (h1 : -9 ≤ n) (h2 : n < 0) : 45 :: (PySem.Str.ofString (toString ((n.natAbs : Nat) : Int))).cps.toList = (PySem.Str.ofString (toString n)).cps.toList := by
  have : n = -1 ∨ n = -2 ∨ n = -3 ∨ n = -4 ∨ n = -5 ∨ n = -6 ∨ n = -7 ∨ n = -8 ∨ n = -9 := by omega
  rcases this with rfl | rfl | rfl | rfl | rfl | rfl | rfl | rfl | rfl <;> decide +kernel
theorem small_len {n : Int} (h1 : -9 ≤ n) (h2 : n ≤ 10) : (PySem.Str.ofString (toString n)).length ≤ 10 := by
  have : n = -1 ∨ n = -2 ∨ n = -3 ∨ n = -4 ∨ n = -5 ∨ n = -6 ∨ n = -7 ∨ n = -8 ∨ n = -9 ∨ n = 0 ∨ n = 1 ∨ n = 2 ∨ n = 3 ∨ n = 4 ∨ n = 5 ∨ n = 6 ∨ n = 7 ∨ n = 8 ∨ n = 9 ∨ n = 10 := by omega
  rcases this with rfl | rfl | rfl | rfl | rfl | rfl | rfl | rfl | rfl | rfl | rfl | rfl | rfl | rfl | rfl | rfl | rfl | rfl | rfl | rfl <;> decide +kernel
theorem log2_small {n : Int} (h1 : -9 ≤ n) (h2 : n ≤ 10) : n.natAbs.log2 < 1920 := by
  have : n.natAbs ≤ 10 := by omega
  have h3 : n.natAbs.log2 ≤ n.natAbs := Nat.log2_le_self _
  omega
section
variable {M : Model} {A : Around} {E : Value → Shared → Prop} {s : Shared} {l : List Nat} {p : List Value} {r : List Nat}
  {f : Nat → List Value × Writer × List Nat → Sem (ForInStep (List Value × Writer × List Nat))} {Q : List Value × Writer × List Nat → Shared → Prop}
  {w : Writer} {T x y : PySem.Str} {N K : Nat} {o : Option Value}
theorem after_intN {c : Percent} {n : Int} {d : List Nat} (g : KPc.Good w T N) (h1 : c.alt = false) (h2 : c.type = 100 ∨ c.type = 105 ∨ c.type = 117) (h3 : c.prec = none) (hn : -9 ≤ n) (hm : n ≤ 10)
    (hd : d = (PySem.Str.ofString (toString ((n.natAbs : Nat) : Int))).cps.toList) (ho : o = none) (h : ∀ w', KPc.Good w' (T ++ PySem.Str.ofString (toString n)) (N + 10) → wpAny M A (forIn l (p, w', r) f) Q E s) :
    wpAny M A (forIn l (p, w.add ⟨(percentInt c (decide (n < 0)) d).toArray⟩ o, r) f) Q E s := by
  by_cases h0 : n < 0
  · rw [int_textN c h1 h2 h3 h0, hd, neg_digits hn h0]
    exact KPc.after_str g (small_len hn hm) (KPc.obj_none ho) h
  · exact KPc.after_int g h1 h2 h3 (by omega) (by omega) hd ho h
end
local macro_rules | `(tactic| kpt_piece) => `(tactic| (refine after_intN (by kpc_g) rfl (by kpc_kind) rfl (by assumption) (by assumption) rfl (by kpc_none) ?_; intro _ _))
local macro_rules | `(tactic| kpt_hd) => `(tactic| (exact log2_small (by assumption) (by assumption)))
def groupMsg (n : Int) : PySem.Str := PySem.Str.ofString "unable to rotate group of " ++ PySem.Str.ofString (toString n) ++ PySem.Str.ofString " bytes yet"
set_option maxHeartbeats 4000000 in
theorem mod_msg {prog : Program} {w : World} {A : Around} {E : Value → Shared → Prop} {s : Shared} {Q : Value → Shared → Prop} {t u : Tok} {b L : Addr} {n : Int} {nx : Nat} {h₀ : Heap} {news : List (Addr × Obj)} (N : News h₀ L s.heap news) (hb : (b, ({ cls := .type "tuple", data := .seq #[.int n u] nx } : Obj)) ∈ news)
    (h1 : -9 ≤ n) (h2 : n ≤ 10) (h : ∀ t' k, Q (.str (groupMsg n) t') { s with toks := k }) : wpAny (model prog w) A (binaryOp .Mod (.str (PySem.Str.ofString "unable to rotate group of %d bytes yet") t) (.ref b)) Q E s := by
  refine' KPt.mod_tuple N hb ?kptF ?kptm ?k
  case kptF => kpt_eq
  case kptm => kpt_run
  case k =>
    intro t' k
    exact h t' k
end Br
end
-- BrM7
section
open PySem PySem.W PySem.Calls PyProof.Rows
set_option Elab.async false
set_option maxRecDepth 100000
set_option linter.unusedVariables false
set_option linter.unusedSimpArgs false
set_option pp.deepTerms false
set_option pp.deepTerms.threshold 6
namespace Br
local macro_rules | `(tactic| walk_at "exec Raise") => `(tactic| (refine hold ?_))
local macro_rules | `(tactic| walk_at "exec Raise some") => `(tactic| (refine hold ?_))
local macro_rules | `(tactic| walk_at "exec Raise some none") => `(tactic| (refine hold ?_))
local macro_rules | `(tactic| walk_at "call type:bytearray") => `(tactic| (refine hold ?_))
local macro_rules | `(tactic| walk_at "binaryOp Mod str ref") => `(tactic| (refine hold ?_))
variable {w : World} {n : Nat} {b : Heap} {A : Around} {outer : List Env} {s : Shared} {Q E : Value → Shared → Prop} {p : Program} {loose : List Str} {mg mb : Str → Option Value}
set_option maxHeartbeats 4000000 in
theorem c_rot_group (P9 : Pg w p loose mg mb b) (C : Cx (n+1) b A outer s.heap) (g : AllBare s.gens) (v : Value) (i k1 : Int) (u u1 : Tok) (hg : k1 ≠ 1) (hlo : -9 ≤ k1) (hhi : k1 ≤ 10) (ke : ThrV outer s "NotImplementedError" (fun vs => ∃ t, vs = [Value.str (groupMsg k1) t]) E) : wpAny (model PySem.Challenge.rw_br5013_01.row.prog w) A (PySem.call (.ref 345) [v, Value.int i u, Value.int k1 u1]) Q E s := by
  have X := P9.X
  have T := P9.T
  have bt := P9.bt
  revert X
  k_fill
  intro X
  refine' enter_any (f := 345) C X T.nolimit (ho := ?h1) (hcd := ?h2) (hbind := ?h3) (hloc := ?h4) (hcell := ?h5) (hco := ?h6) (hgen := ?h7) (hk := ?h8) (h := ?h9)
  case h1 => k_is
  case h2 => k_is
  case h3 => exact .of_eq rfl
  case h4 => exact locs rfl
  case h5 => decide
  case h6 => rfl
  case h7 => rfl
  case h8 => rfl
  intro L h₁ fl F N G hs
  have hh9 := C.hd
  replace X := X.keeps (C.base bt)
  replace T := T.keeps (C.base bt)
  k_steps
  rotate_left
  · exfalso; exact hg (by assumption)
  refine (show wpAny _ _ _ _ _ _ from ?_)
  refine Raise_madeB PySem.F.excCall_NotImplementedError PySem.F.excRaise_NotImplementedError hh9 (name_B F X T (by k_is) (by rfl) (by decide) ⟨rfl, ?_⟩)
  k_steps
  rename_i D h2 F N l1
  refine (show wpAny _ _ _ _ _ _ from ?_)
  refine mod_msg N (.head _) hlo hhi fun t' k' => ?_
  k_steps
  rename_i h' e x
  exact raise_upV ke C bt F N (.cons _ .nil) G rfl rfl rfl g ⟨_, rfl⟩ x.of
end Br
end
-- BrPl
section
open PySem PySem.W PySem.Calls PyProof.Rows
set_option Elab.async false
set_option maxRecDepth 100000
set_option linter.unusedVariables false
namespace Br
/-! plain laws: no program in sight -/
theorem fits_small {i : Int} (h1 : -10 ≤ i) (h2 : i ≤ 10) : Builtin.Bytes.fitsIndex i = true := by
  unfold Builtin.Bytes.fitsIndex
  simp only [Bool.and_eq_true, decide_eq_true_eq]
  omega
theorem octs_len (bs : Array UInt8) : (octs bs).length = bs.size := by simp [octs]
theorem octs_get {bs : Array UInt8} {i : Nat} (hi : i < bs.size) : (octs bs).getD i 0 = ((bs[i]).toNat : Int) := by
  simp [octs, List.getD_eq_getElem?_getD, hi]
theorem idx_in {bs : Array UInt8} {rs : List Int} {many : Nat} {place spot : Int} (hb : octs bs = rs) (hlen : rs.length = many) (hsp : spot = (if place < 0 then place + many else place)) (hin : 0 ≤ spot ∧ spot < many) :
    ∃ c : UInt8, (seqIndex? place bs.size).bind (bs[·]?) = some c ∧ (c.toNat : Int) = rs.getD spot.toNat 0 := by
  have hsz : bs.size = many := by rw [← hlen, ← hb, octs_len]
  have hlt : spot.toNat < bs.size := by omega
  refine ⟨bs[spot.toNat], ?_, ?_⟩
  · unfold seqIndex?
    rw [hsz, ← hsp]
    simp only [Bool.and_eq_true, decide_eq_true_eq]
    rw [if_pos hin]
    simp [hlt]
  · rw [← hb, octs_get hlt]
theorem idx_out {bs : Array UInt8} {rs : List Int} {many : Nat} {place spot : Int} (hb : octs bs = rs) (hlen : rs.length = many) (hsp : spot = (if place < 0 then place + many else place)) (hin : ¬ (0 ≤ spot ∧ spot < many)) :
    (seqIndex? place bs.size).bind (bs[·]?) = none := by
  have hsz : bs.size = many := by rw [← hlen, ← hb, octs_len]
  unfold seqIndex?
  rw [hsz, ← hsp]
  simp only [Bool.and_eq_true, decide_eq_true_eq]
  rw [if_neg hin]
  rfl
def sgn (k : Int) : Int := [0, 1, 37, 128, 255, 254, 64].getD k.toNat 0
theorem sgn_oct (k : Int) : 0 ≤ sgn k ∧ sgn k < 256 := by
  unfold sgn
  have : ∀ j : Nat, 0 ≤ ([0, 1, 37, 128, 255, 254, 64] : List Int).getD j 0 ∧ ([0, 1, 37, 128, 255, 254, 64] : List Int).getD j 0 < 256 := fun j => by
    by_cases h : j < 7
    · have : j = 0 ∨ j = 1 ∨ j = 2 ∨ j = 3 ∨ j = 4 ∨ j = 5 ∨ j = 6 := by omega
      rcases this with rfl | rfl | rfl | rfl | rfl | rfl | rfl <;> simp
    · rw [List.getD_eq_getElem?_getD, List.getElem?_eq_none (by simp; omega)]; simp
  exact this _
theorem u8_eq {c : UInt8} {i : Int} (h0 : 0 ≤ i) (h1 : i < 256) : c = i.toNat.toUInt8 ↔ (c.toNat : Int) = i := by
  constructor
  · rintro rfl
    rw [Nat.toUInt8, UInt8.toNat_ofNat']
    omega
  · intro h
    apply UInt8.toNat.inj
    rw [Nat.toUInt8, UInt8.toNat_ofNat']
    omega
theorem octs_at (bs : Array UInt8) (k : Nat) : (octs bs)[k]? = (bs[k]?).map fun c => (c.toNat : Int) := by
  unfold octs
  rw [List.getElem?_map, Array.getElem?_toList]
theorem match_one {bs : Array UInt8} {rs : List Int} {i : Int} (hb : octs bs = rs) (h0 : 0 ≤ i) (h1 : i < 256) (k : Nat) : matchAt bs #[i.toNat.toUInt8] k ↔ rs[k]? = some i := by
  rw [← hb, octs_at]
  unfold matchAt
  constructor
  · rintro ⟨hs, he⟩
    have hk : k < bs.size := hs
    have hsz : (bs.extract k (k + 1)).size = 1 := by rw [Array.size_extract]; omega
    have h2 : (bs.extract k (k + 1))[0]? = (#[i.toNat.toUInt8] : Array UInt8)[0]? := congrArg (fun a : Array UInt8 => a[0]?) he
    rw [Array.getElem?_eq_getElem (by omega), Array.getElem_extract] at h2
    have h3 : bs[k + 0] = i.toNat.toUInt8 := Option.some.inj h2
    rw [Array.getElem?_eq_getElem hk, Option.map_some, (u8_eq (c := bs[k]) h0 h1).mp h3]
  · intro h
    rcases Nat.lt_or_ge k bs.size with hk | hk
    · rw [Array.getElem?_eq_getElem hk, Option.map_some] at h
      have hc := (u8_eq (c := bs[k]) h0 h1).mpr (Option.some.inj h)
      refine ⟨hk, ?_⟩
      show bs.extract k (k + 1) = _
      apply Array.ext
      · rw [Array.size_extract]; show _ = 1; omega
      · intro j h2 h3
        have : j = 0 := Nat.lt_one_iff.mp h3
        subst this
        rw [Array.getElem_extract]
        exact hc
    · rw [Array.getElem?_eq_none hk] at h; cases h
theorem first_fnd {bs : Array UInt8} {rs : List Int} {i j : Int} (hb : octs bs = rs) (h0 : 0 ≤ i) (h1 : i < 256) (hj : FirstAt rs i j) : fnd bs #[i.toNat.toUInt8] 0 = j := by
  rcases fnd_spec bs #[i.toNat.toUInt8] 0 with ⟨e, hno⟩ | ⟨q, e, _, hm, hno⟩
  · rw [e]
    rcases hj with ⟨rfl, _⟩ | ⟨q, rfl, hq, _⟩
    · rfl
    · exact absurd ((match_one hb h0 h1 q).mpr hq) (hno q (Nat.zero_le _))
  · rw [e]
    have hm' := (match_one hb h0 h1 q).mp hm
    rcases hj with ⟨rfl, hn⟩ | ⟨r, rfl, hr, hn⟩
    · exact absurd hm' (hn q (by
        rcases Nat.lt_or_ge q rs.length with h | h
        · exact h
        · rw [List.getElem?_eq_none h] at hm'; cases hm'))
    · rcases Nat.lt_trichotomy q r with h | h | h
      · exact absurd hm' (hn q h)
      · rw [h]
      · exact absurd ((match_one hb h0 h1 r).mpr hr) (hno r (Nat.zero_le _) h)
theorem cutL_len (ns : List Int) (j k : Int) : (cutL ns j k).length ≤ ns.length := by
  unfold cutL
  split
  · exact Nat.le_refl _
  · rw [List.length_take]; omega
theorem map_dropWhile_ {α β : Type} {f : α → β} {p : α → Bool} {q : β → Bool} : ∀ (l : List α), (∀ x ∈ l, p x = q (f x)) → (l.dropWhile p).map f = (l.map f).dropWhile q
  | [], _ => rfl
  | x :: l, h => by
    have hx := h x (.head _)
    rw [List.map_cons, List.dropWhile_cons, List.dropWhile_cons, ← hx]
    split
    · exact map_dropWhile_ l fun y hy => h y (.tail _ hy)
    · rfl
theorem strip_ints {rs : List Int} {i : Int} {m : Nat} (hm : StripAt rs i m) : (rs.reverse.dropWhile (· == i)).reverse = rs.take m := by
  obtain ⟨h1, h2, h3⟩ := hm
  have e : rs.reverse = (rs.drop m).reverse ++ (rs.take m).reverse := by rw [← List.reverse_append, List.take_append_drop]
  rw [e, List.dropWhile_append_of_pos]
  · rcases h3 with rfl | h3
    · simp
    · rcases Nat.eq_zero_or_pos m with rfl | hp
      · simp
      · have hl : (rs.take m).length = m := by rw [List.length_take]; omega
        have e2 : (rs.take m).reverse = rs[m-1]'(by omega) :: ((rs.take m).reverse).tail := by
          cases q : (rs.take m).reverse with
          | nil => have := congrArg List.length q; simp [hl] at this; omega
          | cons x t =>
            have hx : ((rs.take m).reverse)[0]? = some x := by rw [q]; rfl
            rw [List.getElem?_reverse (by omega), hl, List.getElem?_take, if_pos (by omega)] at hx
            have : m - 1 - 0 = m - 1 := by omega
            rw [this, List.getElem?_eq_getElem (by omega)] at hx
            rw [Option.some.inj hx]; rfl
        rw [e2, List.dropWhile_cons, if_neg, ← e2, List.reverse_reverse]
        intro hb
        exact h3 (by rw [List.getElem?_eq_getElem (by omega)]; exact congrArg some (eq_of_beq hb))
  · intro a ha
    rw [List.mem_reverse] at ha
    obtain ⟨j, hj, rfl⟩ := List.getElem_of_mem ha
    rw [List.length_drop] at hj
    have := h2 (m + j) (by omega) (by omega)
    rw [List.getElem_drop]
    rw [List.getElem?_eq_getElem (by omega)] at this
    simpa using Option.some.inj this
theorem strip_octs {bs : Array UInt8} {rs : List Int} {i : Int} {m : Nat} (hb : octs bs = rs) (h0 : 0 ≤ i) (h1 : i < 256) (hm : StripAt rs i m) : octs (stripR bs #[i.toNat.toUInt8]) = rs.take m := by
  rw [← strip_ints hm, ← hb]
  unfold octs stripR
  rw [List.map_reverse, map_dropWhile_ (q := (· == i)), List.map_reverse]
  intro x _
  have h := u8_eq (c := x) h0 h1
  rw [Bool.eq_iff_iff]
  simp
  exact h
theorem take_range {α : Type} (b : Array α) : ∀ n, n ≤ b.size → (List.range n).filterMap (b[·]?) = b.toList.take n := by
  intro n hn
  induction n with
  | zero => simp
  | succ n ih =>
    rw [List.range_succ, List.filterMap_append, ih (by omega), List.take_add_one]
    congr 1
    rw [List.filterMap_cons]
    rw [Array.getElem?_toList]
    cases b[n]? <;> rfl
theorem picked_octs {bs : Array UInt8} {rs : List Int} {j k : Int} (hb : octs bs = rs) (hj : j = -1 ∨ (0 ≤ j ∧ j < rs.length)) (hk : 0 ≤ k) : octs (KBy.picked bs none (cutHi j k)) = cutL rs j k := by
  have hsz : bs.size = rs.length := by rw [← hb, octs_len]
  have key : ∀ n : Nat, n ≤ bs.size → octs (Builtin.Bytes.sliced bs 0 (n : Int) 1) = rs.take n := fun n hn => by
    unfold Builtin.Bytes.sliced octs
    have := sliceRange_one 0 n
    rw [show ((0 : Nat) : Int) = 0 from rfl] at this
    rw [this]
    simp only [Nat.sub_zero, Nat.zero_add, List.map_id']
    rw [take_range bs n hn, List.map_take, ← hb]
    rfl
  unfold KBy.picked cutHi cutL sliceBounds
  rcases hj with rfl | ⟨h0, h1⟩
  · simp only [if_true]
    rw [if_pos (by decide)]
    have := key bs.size (Nat.le_refl _)
    rw [hsz, List.take_length] at this
    rw [hsz]
    exact this
  · rw [if_neg (by omega), if_neg (by omega)]
    simp only
    have e : (max 0 (min (if j + k < 0 then j + k + (bs.size : Int) else j + k) (bs.size : Int)) : Int) = ((min (j + k).toNat bs.size : Nat) : Int) := by
      rw [if_neg (by omega)]; omega
    show octs (Builtin.Bytes.sliced bs 0 (if (1 : Int) > 0 then max 0 (min (if j + k < 0 then j + k + (bs.size : Int) else j + k) (bs.size : Int)) else _) 1) = _
    rw [if_pos (by decide), e, key _ (Nat.min_le_right _ _), hsz]
    rcases Nat.le_total (j + k).toNat rs.length with h | h
    · rw [Nat.min_eq_left h]
    · rw [Nat.min_eq_right h, List.take_length, List.take_of_length_le h]
theorem cut_octs {bs : Array UInt8} {rs : List Int} {i j k : Int} (hb : octs bs = rs) (h0 : 0 ≤ i) (h1 : i < 256) (hj : FirstAt rs i j) (hk : 0 ≤ k := by split <;> decide) : octs (KBy.picked bs none (cutHi (fnd bs #[i.toNat.toUInt8] 0) k)) = cutL rs j k := by
  rw [first_fnd hb h0 h1 hj]
  refine picked_octs hb ?_ hk
  rcases hj with ⟨rfl, _⟩ | ⟨q, rfl, hq, _⟩
  · exact .inl rfl
  · refine .inr ⟨by omega, ?_⟩
    rcases Nat.lt_or_ge q rs.length with h | h
    · omega
    · rw [List.getElem?_eq_none h] at hq; cases hq
theorem byte_arr {i : Int} (h0 : 0 ≤ i) (h1 : i < 256) : ¬ ((#[i.toNat.toUInt8] : Array UInt8).toList != (byteArr [i]).toList) = true := by
  rw [show byteArr [i] = #[i.toNat.toUInt8] from rfl]
  simp
theorem xor_pp {c d : Int} (hc : 0 ≤ c) (hd : 0 ≤ d) : Builtin.bitXor c d = ((c.toNat ||| d.toNat : Nat) : Int) - ((c.toNat &&& d.toNat : Nat) : Int) := by
  unfold Builtin.bitXor Builtin.bitOr Builtin.bitAnd
  have h1 : decide (0 ≤ c) = true := decide_eq_true hc
  have h2 : decide (0 ≤ d) = true := decide_eq_true hd
  have h3 : decide (0 ≤ Builtin.bitNot c) = false := decide_eq_false (by unfold Builtin.bitNot; omega)
  have h4 : decide (0 ≤ Builtin.bitNot d) = false := decide_eq_false (by unfold Builtin.bitNot; omega)
  have h5 : ∀ x : Int, Builtin.bitNot (Builtin.bitNot x) = x := fun x => by unfold Builtin.bitNot; omega
  simp only [h1, h2, h3, h4, h5]
theorem xor_pn {c d : Int} (hc : 0 ≤ c) (hd : d < 0) : Builtin.bitXor c d < 0 := by
  unfold Builtin.bitXor Builtin.bitOr Builtin.bitAnd
  have h1 : decide (0 ≤ c) = true := decide_eq_true hc
  have h2 : decide (0 ≤ d) = false := decide_eq_false (by omega)
  have h3 : decide (0 ≤ Builtin.bitNot c) = false := decide_eq_false (by unfold Builtin.bitNot; omega)
  have h4 : decide (0 ≤ Builtin.bitNot d) = true := decide_eq_true (by unfold Builtin.bitNot; omega)
  have h5 : Builtin.bitNot (Builtin.bitNot c) = c := by unfold Builtin.bitNot; omega
  simp only [h1, h2, h3, h4, h5]
  have e1 : (Builtin.bitNot d).toNat &&& c.toNat ≤ (Builtin.bitNot d).toNat := Nat.and_le_left
  have e2 : c.toNat &&& (Builtin.bitNot d).toNat ≤ c.toNat := Nat.and_le_left
  have e3 : ((Builtin.bitNot d).toNat : Int) = Builtin.bitNot d := Int.toNat_of_nonneg (by unfold Builtin.bitNot; omega)
  have e4 : (c.toNat : Int) = c := Int.toNat_of_nonneg hc
  show Builtin.bitNot (Builtin.bitNot d - _) - (c - _) < 0
  have e5 : ∀ x : Int, Builtin.bitNot x = -x - 1 := fun _ => rfl
  rw [e5 (Builtin.bitNot d - _)]
  omega
theorem xor_in {c d : Int} (hc : 0 ≤ c ∧ c < 256) (hd : 0 ≤ d ∧ d < 256) : 0 ≤ Builtin.bitXor c d ∧ Builtin.bitXor c d < 256 := by
  rw [xor_pp hc.1 hd.1]
  have h1 : c.toNat ||| d.toNat < 2 ^ 8 := Nat.or_lt_two_pow (by omega) (by omega)
  have h2 : c.toNat &&& d.toNat ≤ c.toNat := Nat.and_le_left
  have h3 : c.toNat ≤ c.toNat ||| d.toNat := Nat.left_le_or
  omega
theorem xor_out {c d : Int} (hc : 0 ≤ c ∧ c < 256) (hd : d < 0 ∨ 256 ≤ d) : Builtin.bitXor c d < 0 ∨ 256 ≤ Builtin.bitXor c d := by
  rcases hd with hd | hd
  · exact .inl (xor_pn hc.1 hd)
  · refine .inr ?_
    rw [xor_pp hc.1 (by omega)]
    have h1 : (c.toNat ||| d.toNat) / 2 ^ 8 = c.toNat / 2 ^ 8 ||| d.toNat / 2 ^ 8 := Nat.or_div_two_pow ..
    have h2 : (c.toNat ||| d.toNat) % 2 ^ 8 = c.toNat % 2 ^ 8 ||| d.toNat % 2 ^ 8 := Nat.or_mod_two_pow ..
    have h3 : (c.toNat &&& d.toNat) % 2 ^ 8 = c.toNat % 2 ^ 8 &&& d.toNat % 2 ^ 8 := Nat.and_mod_two_pow ..
    have h4 : c.toNat &&& d.toNat ≤ c.toNat := Nat.and_le_left
    have h5 : c.toNat % 2 ^ 8 &&& d.toNat % 2 ^ 8 ≤ c.toNat % 2 ^ 8 := Nat.and_le_left
    have h6 : c.toNat % 2 ^ 8 ≤ c.toNat % 2 ^ 8 ||| d.toNat % 2 ^ 8 := Nat.left_le_or
    have h7 : d.toNat / 2 ^ 8 ≤ c.toNat / 2 ^ 8 ||| d.toNat / 2 ^ 8 := Nat.right_le_or
    have h8 : 1 ≤ d.toNat / 2 ^ 8 := by omega
    omega
theorem octs_rng {bs : Array UInt8} : ∀ c ∈ octs bs, 0 ≤ c ∧ c < 256 := fun c hc => by
  obtain ⟨x, _, rfl⟩ := List.mem_map.mp hc
  have := x.toNat_lt
  exact ⟨by omega, by omega⟩
theorem octs_arr {val : Nat → Int} {n : Nat} (h : ∀ i < n, 0 ≤ val i ∧ val i < 256) : octs (arr val n) = (List.range n).map val := by
  apply List.ext_getElem?
  intro k
  rw [octs_at]
  rcases Nat.lt_or_ge k n with hk | hk
  · have : (arr val n)[k]? = some (val k).toNat.toUInt8 := by
      unfold arr byteArr
      simp [hk]
    rw [this, Option.map_some, (u8_eq (h k hk).1 (h k hk).2).mp rfl]
    simp [hk]
  · rw [Array.getElem?_eq_none (by rw [arr_size]; exact hk)]
    rw [List.getElem?_eq_none (by simpa using hk)]
    rfl
theorem octs_arr_xor {bs : Array UInt8} {rs : List Int} {key : Int} (hb : octs bs = rs) (hk : 0 ≤ key ∧ key < 256) : octs (arr (fun i => Builtin.bitXor ((octs bs).getD i 0) key) bs.size) = rs.map fun x => Builtin.bitXor x key := by
  have hsz : bs.size = rs.length := by rw [← hb, octs_len]
  rw [octs_arr, hsz]
  · apply List.ext_getElem?
    intro k
    rw [List.getElem?_map, List.getElem?_map, hb]
    rcases Nat.lt_or_ge k rs.length with h | h
    · rw [List.getElem?_range h]; simp [List.getD_eq_getElem?_getD, h]
    · rw [List.getElem?_eq_none (by simpa using h), List.getElem?_eq_none h]; rfl
  · intro i hi
    exact xor_in (octs_rng _ (octs_mem hi)) hk
theorem octs_arr_many {bs kb : Array UInt8} {rs ks : List Int} (hb : octs bs = rs) (hk : octs kb = ks) (hn : ks ≠ []) :
    octs (arr (fun i => Builtin.bitXor ((octs bs).getD i 0) ((octs kb).getD (i % kb.size) 0)) (if kb.size = 0 then 0 else bs.size)) = (List.range rs.length).map fun i => Builtin.bitXor (rs.getD i 0) (ks.getD (i % ks.length) 0) := by
  have hsz : bs.size = rs.length := by rw [← hb, octs_len]
  have hkz : kb.size = ks.length := by rw [← hk, octs_len]
  have hkp : 0 < ks.length := List.length_pos_iff.mpr hn
  rw [if_neg (by omega), octs_arr, hsz, hb, hk, hkz]
  intro i hi
  refine xor_in (octs_rng _ (octs_mem hi)) (octs_rng _ (octs_mem ?_))
  rw [hkz]
  exact Nat.mod_lt _ hkp
theorem match_two {bs : Array UInt8} {rs : List Int} {i1 i2 : Int} (hb : octs bs = rs) (h1 : 0 ≤ i1 ∧ i1 < 256) (h2 : 0 ≤ i2 ∧ i2 < 256) (k : Nat) :
    matchAt bs #[i1.toNat.toUInt8, i2.toNat.toUInt8] k ↔ rs[k]? = some i1 ∧ rs[k + 1]? = some i2 := by
  rw [← hb, octs_at, octs_at]
  unfold matchAt
  constructor
  · rintro ⟨hs, he⟩
    have hk : k + 1 < bs.size := hs
    have hsz : (bs.extract k (k + 2)).size = 2 := by rw [Array.size_extract]; omega
    have e0 : (bs.extract k (k + 2))[0]? = (#[i1.toNat.toUInt8, i2.toNat.toUInt8] : Array UInt8)[0]? := congrArg (fun a : Array UInt8 => a[0]?) he
    have e1 : (bs.extract k (k + 2))[1]? = (#[i1.toNat.toUInt8, i2.toNat.toUInt8] : Array UInt8)[1]? := congrArg (fun a : Array UInt8 => a[1]?) he
    rw [Array.getElem?_eq_getElem (by omega), Array.getElem_extract] at e0 e1
    have f0 : bs[k + 0] = i1.toNat.toUInt8 := Option.some.inj e0
    have f1 : bs[k + 1] = i2.toNat.toUInt8 := Option.some.inj e1
    rw [Array.getElem?_eq_getElem (by omega), Array.getElem?_eq_getElem hk, Option.map_some, Option.map_some, (u8_eq (c := bs[k]) h1.1 h1.2).mp f0, (u8_eq (c := bs[k + 1]) h2.1 h2.2).mp f1]
    exact ⟨rfl, rfl⟩
  · rintro ⟨e0, e1⟩
    rcases Nat.lt_or_ge (k + 1) bs.size with hk | hk
    · rw [Array.getElem?_eq_getElem (by omega), Option.map_some] at e0
      rw [Array.getElem?_eq_getElem hk, Option.map_some] at e1
      have f0 := (u8_eq (c := bs[k]) h1.1 h1.2).mpr (Option.some.inj e0)
      have f1 := (u8_eq (c := bs[k + 1]) h2.1 h2.2).mpr (Option.some.inj e1)
      refine ⟨hk, ?_⟩
      show bs.extract k (k + 2) = _
      apply Array.ext
      · rw [Array.size_extract]; show _ = 2; omega
      · intro j h2 h3
        have : j = 0 ∨ j = 1 := by have : j < 2 := h3; omega
        rcases this with rfl | rfl
        · rw [Array.getElem_extract]; exact f0
        · rw [Array.getElem_extract]; exact f1
    · rw [Array.getElem?_eq_none hk] at e1; cases e1
theorem pair_take {rs : List Int} {i1 i2 : Int} (k : Nat) : (rs.drop k).take 2 = [i1, i2] ↔ rs[k]? = some i1 ∧ rs[k + 1]? = some i2 := by
  constructor
  · intro h
    have e0 := congrArg (·[0]?) h
    have e1 := congrArg (·[1]?) h
    simp only [List.getElem?_take, List.getElem?_drop] at e0 e1
    simpa using And.intro e0 e1
  · rintro ⟨e0, e1⟩
    apply List.ext_getElem?
    intro j
    rw [List.getElem?_take, List.getElem?_drop]
    rcases Nat.lt_or_ge j 2 with hj | hj
    · rw [if_pos hj]
      have : j = 0 ∨ j = 1 := by omega
      rcases this with rfl | rfl
      · simpa using e0
      · simpa using e1
    · rw [if_neg (by omega), List.getElem?_eq_none (by simpa using hj)]
theorem first_pair {bs : Array UInt8} {rs : List Int} {i1 i2 j j' : Int} (hb : octs bs = rs) (h1 : 0 ≤ i1 ∧ i1 < 256) (h2 : 0 ≤ i2 ∧ i2 < 256) (hj : PairAt rs [i1, i2] j) (hj' : FirstEven bs #[i1.toNat.toUInt8, i2.toNat.toUInt8] j') : j' = j := by
  have key : ∀ q, matchAt bs #[i1.toNat.toUInt8, i2.toNat.toUInt8] (2 * q) ↔ (rs.drop (2 * q)).take 2 = [i1, i2] := fun q => (match_two hb h1 h2 _).trans (pair_take _).symm
  have lt : ∀ q, (rs.drop (2 * q)).take 2 = [i1, i2] → q < rs.length / 2 := fun q h => by
    have := congrArg List.length h
    simp at this
    omega
  rcases hj' with ⟨rfl, hno⟩ | ⟨i, rfl, he, hm, hno⟩
  · rcases hj with ⟨rfl, _⟩ | ⟨q, rfl, hq, hm, _⟩
    · rfl
    · exact absurd ((key q).mpr hm) (hno _ (by omega))
  · have ei : i = 2 * (i / 2) := by omega
    rw [ei] at hm
    have hm' := (key _).mp hm
    rcases hj with ⟨rfl, hn⟩ | ⟨q, rfl, hq, hmq, hn⟩
    · exact absurd hm' (hn _ (lt _ hm'))
    · rcases Nat.lt_trichotomy (i / 2) q with h | h | h
      · exact absurd hm' (hn _ h)
      · omega
      · exact absurd ((key q).mpr hmq) (hno _ (by omega) (by omega))
theorem pair_octs {bs : Array UInt8} {rs : List Int} {i1 i2 j j' k : Int} (hb : octs bs = rs) (h1 : 0 ≤ i1 ∧ i1 < 256) (h2 : 0 ≤ i2 ∧ i2 < 256) (hj : PairAt rs [i1, i2] j) (hj' : FirstEven bs #[i1.toNat.toUInt8, i2.toNat.toUInt8] j') (hk : 0 ≤ k := by split <;> decide) :
    octs (KBy.picked bs none (cutHi j' k)) = cutL rs j k := by
  rw [first_pair hb h1 h2 hj hj']
  refine picked_octs hb ?_ hk
  rcases hj with ⟨rfl, _⟩ | ⟨q, rfl, hq, _, _⟩
  · exact .inl rfl
  · exact .inr ⟨by omega, by omega⟩
theorem ext_min {bs : Array UInt8} {rs : List Int} {k b : Int} (hb : octs bs = rs) (h1 : k ∈ octs bs) (h2 : ∀ j ∈ octs bs, k ≤ j) (he : Extreme rs false b) : k = b := by
  have := he.2 k (hb ▸ h1)
  have := h2 b (hb ▸ he.1)
  simp at *
  omega
theorem ext_max {bs : Array UInt8} {rs : List Int} {k b : Int} (hb : octs bs = rs) (h1 : k ∈ octs bs) (h2 : ∀ j ∈ octs bs, j ≤ k) (he : Extreme rs true b) : k = b := by
  have := he.2 k (hb ▸ h1)
  have := h2 b (hb ▸ he.1)
  simp at *
  omega
def keyOf (num : Int) : List Int := List.take (num % 4).toNat [sgn (num / 5 % 7), 200, 3]
theorem keyOf_rng (num : Int) : ∀ d ∈ keyOf num, 0 ≤ d ∧ d < 256 := fun d hd => by
  have := List.mem_of_mem_take hd
  simp only [List.mem_cons, List.not_mem_nil, or_false] at this
  rcases this with rfl | rfl | rfl
  · exact sgn_oct _
  · decide
  · decide
theorem keyOf_len (num : Int) : (keyOf num).length ≤ 3 := by
  unfold keyOf
  rw [List.length_take]
  show min _ 3 ≤ 3
  omega
theorem group_same (gr : Int) : ¬ (groupMsg gr != PySem.Str.ofString "unable to rotate group of " ++ PySem.Str.ofString (toString gr) ++ PySem.Str.ofString " bytes yet") = true := by
  unfold groupMsg
  simp
theorem xor_none (f : Nat → Int) : ¬ ((arr f 0).toList != (#[] : Array UInt8).toList) = true := by
  rw [show arr f 0 = #[] from rfl]
  decide
theorem octs_byteArr {ks : List Int} (h : ∀ d ∈ ks, 0 ≤ d ∧ d < 256) : octs (byteArr ks) = ks := by
  unfold octs byteArr
  rw [List.toList_toArray, List.map_map]
  conv => rhs; rw [← List.map_id ks]
  exact List.map_congr_left fun d hd => (u8_eq (h d hd).1 (h d hd).2).mp rfl
theorem due_len (rs ks : List Int) (h : rs.length ≤ 63) : (if ks = [] then [] else (List.range rs.length).map fun i => Builtin.bitXor (rs.getD i 0) (ks.getD (i % ks.length) 0)).length ≤ 63 := by
  split
  · exact Nat.zero_le _
  · rw [List.length_map, List.length_range]; exact h
theorem many_octs {bs kb : Array UInt8} {rs ks : List Int} (hb : octs bs = rs) (hk : octs kb = ks) :
    octs (arr (fun i => Builtin.bitXor ((octs bs).getD i 0) ((octs kb).getD (i % kb.size) 0)) (if kb.size = 0 then 0 else bs.size)) = (if ks = [] then [] else (List.range rs.length).map fun i => Builtin.bitXor (rs.getD i 0) (ks.getD (i % ks.length) 0)) := by
  have hkz : kb.size = ks.length := by rw [← hk, octs_len]
  by_cases h : ks = []
  · rw [if_pos h, if_pos (by rw [hkz, h]; rfl)]
    rfl
  · rw [if_neg h]
    exact octs_arr_many hb hk h
theorem due_range {rs ks : List Int} {many : Nat} (hlen : rs.length = many) : (rangeKs 0 ((many : Int) - 0).toNat).map (fun k => Builtin.bitXor (rs.getD k.toNat 0) (ks.getD (k.fmod ks.length).toNat 0)) = (List.range rs.length).map fun i => Builtin.bitXor (rs.getD i 0) (ks.getD (i % ks.length) 0) := by
  unfold rangeKs
  rw [List.map_map, show ((many : Int) - 0).toNat = rs.length by omega]
  refine List.map_congr_left fun i _ => ?_
  simp only [Function.comp]
  have e1 : (0 + (i : Int)).toNat = i := by omega
  have e2 : ((0 + (i : Int)).fmod (ks.length : Int)).toNat = i % ks.length := by
    rw [Int.zero_add, Int.fmod_eq_emod_of_nonneg _ (by omega)]
    omega
  rw [e1, e2]
theorem cut_none {bs : Array UInt8} {rs : List Int} (hb : octs bs = rs) (hno : ∀ x ∈ rs, x ≠ 2) : KBy.picked bs none (cutHi (fnd bs #[(2 : Int).toNat.toUInt8] 0) (if false = true then 1 else 0)) = bs := by
  have hj : FirstAt rs 2 (-1) := .inl ⟨rfl, fun j hj q => hno 2 (List.mem_of_getElem? q) rfl⟩
  have h := picked_octs (k := if false = true then 1 else 0) hb (j := -1) (.inl rfl) (by decide)
  rw [first_fnd hb (by decide) (by decide) hj]
  have e : octs (KBy.picked bs none (cutHi (-1) (if false = true then 1 else 0))) = octs bs := by rw [h, hb]; rfl
  apply Array.ext'
  have inj : ∀ l1 l2 : List UInt8, l1.map (fun c => (c.toNat : Int)) = l2.map (fun c => (c.toNat : Int)) → l1 = l2 := by
    intro l1
    induction l1 with
    | nil => intro l2 h; cases l2 with | nil => rfl | cons _ _ => cases h
    | cons a l1 ih =>
      intro l2 h
      cases l2 with
      | nil => cases h
      | cons c l2 =>
        simp only [List.map_cons, List.cons.injEq] at h
        rw [ih l2 h.2, UInt8.toNat.inj (Int.ofNat.inj h.1)]
  exact inj _ _ e
theorem seq_zero {n : Nat} (h : 0 < n) : seqIndex? 0 n = some 0 := by
  unfold seqIndex?
  simp
  omega
theorem sgn_ne2 (k : Int) : sgn k ≠ 2 := by
  unfold sgn
  have : ∀ j : Nat, ([0, 1, 37, 128, 255, 254, 64] : List Int).getD j 0 ≠ 2 := fun j => by
    by_cases h : j < 7
    · have : j = 0 ∨ j = 1 ∨ j = 2 ∨ j = 3 ∨ j = 4 ∨ j = 5 ∨ j = 6 := by omega
      rcases this with rfl | rfl | rfl | rfl | rfl | rfl | rfl <;> decide
    · rw [List.getD_eq_getElem?_getD, List.getElem?_eq_none (by simp; omega)]; decide
  exact this _
theorem row_rng (ns : List Int) : ∀ d ∈ ns.map fun k => sgn (k % 7), 0 ≤ d ∧ d < 256 := fun d hd => by
  obtain ⟨k, _, rfl⟩ := List.mem_map.mp hd
  exact sgn_oct _
theorem row_ne2 (ns : List Int) : ∀ d ∈ ns.map fun k => sgn (k % 7), d ≠ 2 := fun d hd => by
  obtain ⟨k, _, rfl⟩ := List.mem_map.mp hd
  exact sgn_ne2 _
end Br
end
-- BrS0
section
open PySem PySem.W PySem.Calls PyProof.Rows
set_option Elab.async false
set_option maxRecDepth 100000
set_option linter.unusedVariables false
namespace Br
theorem signs_list {w : World} {h : Heap} (X : (hd.heap_39 w.params).In h) : ∃ vs : List Value, h.IsList 519 vs.toArray ∧ ∀ k : Nat, k < 7 → ∃ t, vs[k]? = some (.int ([0, 1, 37, 128, 255, 254, 64].getD k 0) t) := by
  have dummy : PySem.Challenge.rw_br5013_01.name = PySem.Challenge.rw_br5013_01.name := rfl
  revert dummy X
  k_fill
  intro X dummy
  refine ⟨_, ⟨_, X 519 _ (by k_is), rfl, _, rfl⟩, fun k hk => ?_⟩
  have : k = 0 ∨ k = 1 ∨ k = 2 ∨ k = 3 ∨ k = 4 ∨ k = 5 ∨ k = 6 := by omega
  rcases this with rfl | rfl | rfl | rfl | rfl | rfl | rfl <;> exact ⟨_, rfl⟩
section
variable {w : World} {prog : Program} {A : Around} {E : Value → Shared → Prop} {s : Shared} {g : Heap} {L : Addr} {m : Str → Option Value}
theorem item_signs {value slice : PySem.Expr} {k : Int} {u : Tok} {Q : Value → Shared → Prop} (F : Fr g L s.heap m) (X : (hd.heap_39 w.params).In g) (h0 : 0 ≤ k) (h7 : k < 7)
    (h : ∀ t, Q (.int (sgn k) t) s) (hs : subscripted slice false (.ref 519) (.int k u) = operate [.ref 519, .int k u] (getItem (.ref 519) (.int k u)) := by with_unfolding_all rfl) :
    wpAny (model prog w) A (subscriptTail value slice (.ref 519) (.int k u)) Q E s := by
  obtain ⟨vs, hl, hv⟩ := signs_list (X.keeps F.keep)
  obtain ⟨t, ht⟩ := hv k.toNat (by omega)
  exact tail_any hl.typeIs slot_list_getitem.lookup (wpAny_getItem_list hl h0 (by omega) (by rw [List.getElem?_toArray]; exact ht) (h t)) hs
open Calls in
theorem ldc_global {M : Model} {K : Frag} {p : Program} {loose : List Str} {mg mb : Str → Option Value} {x : Str} {pos : Pos} {v : Value} {scope : Scope} {cl : List (Str × Addr)} {C : Addr} {env : Env} {Q : Value → Shared → Prop} (F : Fr g L s.heap m) (X : K.In g) (T : TopRead p loose mg mb g) (e : nsIn K mainGlobals x = some (some v)) (h : Q v s) (hg : env.globals = mainGlobals := by rfl)
    (hk : (compEnvC scope cl C env).scope.kind = .function := by rfl) (hx : (compEnvC scope cl C env).kindOf x = some .globalImplicit := by rfl) (hd : (x == ("__debug__" : Str)) = false := by decide) :
    wpAny M A (eval (.Name x pos) (compEnvC scope cl C env)) Q E s :=
  Name_function_global hk hx (loadGlobal_global (env := compEnvC scope cl C env) (show s.heap.Ns env.globals mg from hg ▸ (T.keeps F.keep).g) (mg_of X T.g e) h) hd
open Calls in
theorem ldc_built {M : Model} {K : Frag} {p : Program} {loose : List Str} {mg mb : Str → Option Value} {x : Str} {pos : Pos} {v : Value} {scope : Scope} {cl : List (Str × Addr)} {C : Addr} {env : Env} {Q : Value → Shared → Prop} (F : Fr g L s.heap m) (X : K.In g) (T : TopRead p loose mg mb g) (e : nsIn K mainGlobals x = some none) (hv : bootBuiltins x = some v) (hn : x ≠ "__name__") (h : Q v s) (hg : env.globals = mainGlobals := by rfl) (hb : env.builtins = builtinsNs := by rfl)
    (hk : (compEnvC scope cl C env).scope.kind = .function := by rfl) (hx : (compEnvC scope cl C env).kindOf x = some .globalImplicit := by rfl) (hd : (x == ("__debug__" : Str)) = false := by decide) :
    wpAny M A (eval (.Name x pos) (compEnvC scope cl C env)) Q E s :=
  Name_function_global hk hx (loadGlobal_builtin (env := compEnvC scope cl C env) (show s.heap.Ns env.globals mg from hg ▸ (T.keeps F.keep).g) (mg_none_of X T.g e) (show s.heap.Ns env.builtins mb from hb ▸ (T.keeps F.keep).b) ((T.builtins x hn).trans hv) h) hd
theorem len_ints {l : Addr} {ys : List Value} {ns : List Int} {Q : Value → Shared → Prop} (hl : s.heap.IsList l ys.toArray) (hi : IntsAre ys ns) (hb : ns.length ≤ 63) (h : Q (.int (ns.length : Nat) (s.toks + 1)) { s with toks := s.toks + 1 + 1 }) : wpAny (model prog w) A (call (.builtin "len") [.ref l]) Q E s := by
  have e : ys.toArray.size = ns.length := by rw [List.size_toArray, hi.length]
  refine len_list hl (by rw [e]; omega) ?_
  rw [e]
  exact h
end
end Br
end
-- BrM5
section
open PySem PySem.W PySem.Calls PyProof.Rows
set_option Elab.async false
set_option maxRecDepth 100000
set_option linter.unusedVariables false
set_option linter.unusedSimpArgs false
set_option pp.deepTerms false
set_option pp.deepTerms.threshold 6
namespace Br
variable {w : World} {n : Nat} {b : Heap} {A : Around} {outer : List Env} {s : Shared} {Q E : Value → Shared → Prop} {p : Program} {loose : List Str} {mg mb : Str → Option Value}
set_option maxHeartbeats 4000000 in
theorem c_xor1 (P9 : Pg w p loose mg mb b) (C : Cx (n+2) b A outer s.heap) (g : AllBare s.gens) (v : Value) (bs : Array UInt8) (soft : Bool) (key : Int) (u : Tok) (D : DataAt s.heap v bs soft) (hz : bs.size ≤ 16777216) (hx : ∀ c ∈ octs bs, 0 ≤ Builtin.bitXor c key ∧ Builtin.bitXor c key < 256) (k : Ret outer s (fun r _ => ∃ t, r = Value.bytes (arr (fun i => Builtin.bitXor ((octs bs).getD i 0) key) bs.size) t) Q) : wpAny (model PySem.Challenge.rw_br5013_01.row.prog w) A (PySem.call (.ref 325) [v, Value.int key u]) Q E s := by
  have X := P9.X
  have T := P9.T
  have bt := P9.bt
  revert X
  k_fill
  intro X
  refine' enter_cells (f := 325) C X T.nolimit (ho := ?h1) (hcd := ?h2) (hbind := ?h3) (hkind := ?h4) (hnd := ?h5) (hco := ?h6) (hgen := ?h7) (hk := ?h8) (h := ?h9)
  case h1 => k_is
  case h2 => k_is
  case h3 => exact .of_eq rfl
  case h4 => rfl
  case h5 => decide
  case h6 => rfl
  case h7 => rfl
  case h8 => rfl
  intro L h₁ tk₁ cells fl F N Y G
  have hh9 := C.hd
  replace X := X.keeps (C.base bt)
  replace T := T.keeps (C.base bt)
  replace D := under_kp C D
  replace Y : CellsAre _ [(Str.ofString "key", L + 1)] cells := Y
  cases Y with
  | cons hd Y2 =>
  cases Y2
  rename_i o
  replace hd : o.data = .cell (some (.int key u)) := hd
  simp only [List.nil_append, List.cons_append] at N
  have KC : CodeOf (under s.heap outer) 324 320 := ⟨⟨_, _, _, _, _, _, _, _, _, X _ _ (by k_is), rfl, rfl, rfl, rfl, rfl, rfl, rfl⟩, by decide⟩
  obtain ⟨bmA, bmO, BM⟩ := P9.bm
  replace BM := BM.keeps (C.base bt)
  have nd1 : NDs [(L + 1, o)] := nds_cons (fun es k q => by rw [hd] at q; cases q) (fun ps q => by rw [q] at hd; cases hd) nds_nil
  k_steps
  refine wpAny_GeneratorExp_walksQ hh9 rfl rfl (by decide) rfl rfl rfl (by have := C.dp; show _ + 1 < _; omega) ?_ (fun _ => rfl)
  refine nameX_L F rfl ?_
  refine iter_data_all (D.keeps F.keep) fun oI fp St W hfp hst => ?_
  refine ⟨T.nolimit.keeps (F.push oI).keep, ?_⟩
  have T1 : Tabs h₁ := led_tabs N (.cons _ .nil) G
  refine gen_code (c := 324) (P := 320) (T1.keeps fun b o e => Heap.get?_push_of_some _ e) rfl (.inl rfl) (KC.keeps (F.push oI).keep) fun c' h3 tk3 k3 Tb3 hs3 => ?_
  have lt1 : ∀ b o, b ≠ 320 → h₁.get? b = some o → h3.get? b = some o := fun b o hb e => k3 b o hb (Heap.get?_push_of_some _ e)
  have hL1 : h₁.get? (L + 1) = some o := (N _ (.head _)).1
  have hne : L + 1 ≠ 320 := fun z => by
    obtain ⟨ps, e⟩ := tab_fields T1 (.inl rfl)
    rw [← z, hL1] at e; cases e; cases hd
  have ne320 : (320 : Nat) < h₁.objs.size := by obtain ⟨ps, e⟩ := tab_fields T1 (.inl rfl); exact Heap.lt_size e
  have keep3 : ∀ b o, (under s.heap outer).get? b = some o → h3.get? b = some o := fun b o e => lt1 b o (fun z => by rw [z, under_tab (.inl rfl)] at e; cases e) (F.keep b o e)
  replace BM := BM.keeps keep3
  refine wpAny_builtinsFor BM.ns BM.name BM.ne BM.obj BM.cls BM.dict BM.data ?_
  have nl3 : h3.NoLimit := T.nolimit.keeps keep3
  refine ⟨_, _, _, bs.size, _, St, fun _ => true, fun i y => ∃ c u, bs[i]? = some c ∧ y = Value.int (Builtin.bitXor (c.toNat : Int) key) u, rfl, W, ?st, ?fp, nl3, ?cw, fun href hh => ?quiet, fun a h5 tk gs hgb hag hsz5 hk5 WS hat => ?fin⟩
  case st =>
    refine (W A hh9).frame 0 _ _ hst fun b hb o e => k3 b o (fun z => ?_) e
    subst z
    rcases List.mem_cons.mp hb with z | hb
    · exact absurd ne320 (by rw [show h₁.objs.size = 320 from z.symm]; exact Nat.lt_irrefl _)
    · obtain ⟨_, o', e', c'⟩ := hfp _ hb
      obtain ⟨ps, q⟩ := tab_fields T1 (.inl rfl)
      have e' : h₁.get? 320 = some o' := e'
      rw [q] at e'; cases e'; cases c'
  case fp =>
    intro b hb
    have e1 : h₁.objs.size < h3.objs.size := Nat.lt_of_lt_of_le (by show _ < (h₁.push oI).objs.size; rw [Heap.size_push]; exact Nat.lt_succ_self _) hs3
    rcases List.mem_cons.mp hb with z | hb
    · exact z ▸ e1
    · exact Nat.lt_trans (hfp _ hb).1 e1
  case cw =>
    intro hm
    simp only [List.mem_singleton] at hm
    obtain ⟨_, ⟨_, _, _, e, _⟩, _⟩ := T.nolimit.keeps F.keep
    exact absurd (hm ▸ Heap.lt_size e) (Nat.lt_irrefl _)
  case quiet =>
    refine ⟨fun A' E' i v s₂ m₂ hA hP hn hm hkp => wpAny_pure ⟨rfl, s₂.heap, s₂.toks, rfl, fun _ _ e => e⟩, fun A' E' i v s₂ m₂ hA hP hp hn hm hkp => ?_⟩
    obtain ⟨c, u2, hc, rfl⟩ := hP
    refine wpAny_BinOp (wpAny_Name (wpAny_loadName_local rfl rfl hn hm ?_) (by decide))
    refine wpAny_Name (wpAny_loadName_free (v := Value.int key u) rfl rfl rfl ⟨o, hkp (L + 1) (List.mem_range.mpr (Heap.lt_size (lt1 _ _ ?_ hL1))) (fun hm => ?_) o (hh _ _ (lt1 _ _ ?_ hL1)), hd⟩ ?_) (by decide)
    rotate_right
    · exact PyProof.Rows.xor_int ⟨⟨c, _, hc, rfl⟩, s₂.heap, s₂.toks + 1, rfl, fun _ _ e => e⟩
    · exact fun z => hne z
    · simp only [List.mem_singleton] at hm
      exact absurd (hm ▸ Heap.lt_size hL1) (Nat.lt_irrefl _)
    · exact hne
  case fin =>
    k_steps
    rw [show (passing (fun _ => true) bs.size 0).length = bs.size by rw [passing_all]; simp] at WS
    refine call_bytes_gen (val := fun i => Builtin.bitXor ((octs bs).getD i 0) key) WS hat hat.1 ?hfp (fun i v hp => passing_val hp) ?hr (by rw [sizeLine_eq]; exact hz) fun s' t kp gg dd oo => ?hQ
    case hfp =>
      intro b hb
      show b < h5.objs.size
      rw [hsz5]
      rcases List.mem_cons.mp hb with z | hb
      · exact z ▸ Nat.lt_succ_self _
      · rcases List.mem_cons.mp hb with z | hb
        · exact z ▸ Nat.lt_succ_of_lt hag
        · exact Nat.lt_succ_of_lt (Nat.lt_trans (List.mem_range.mp hb) hag)
    case hr =>
      intro i hi
      exact hx _ (by
        have : i < (octs bs).length := by unfold octs; simpa using hi
        rw [List.getD_eq_getElem?_getD, List.getElem?_eq_getElem this]
        exact List.getElem_mem this)
    case hQ =>
      k_steps
      have k2 : ∀ b o, b < h₁.objs.size → h3.get? b = some o → s'.heap.get? b = some o := fun b o hb e => kp b o (fun z => by
        rcases List.mem_cons.mp z with z | z
        · exact absurd (z ▸ Heap.lt_size e) (Nat.lt_irrefl _)
        · simp only [List.mem_singleton] at z
          exact absurd (z ▸ hb) (Nat.lt_irrefl _)) (hk5 _ _ e)
      obtain ⟨fl', F', N', G'⟩ := behind C bt F N (.cons _ .nil) G nd1 (env := env0 L) rfl (gen_af T1 (.inl rfl) lt1 Tb3 k2)
      have es : s' = ⟨s'.heap, s'.gens, s.drawn, s'.toks, s.os⟩ := by
        cases s'; simp only at dd oo; subst dd oo; rfl
      rw [es]
      exact k _ _ _ _ (ends_af F' N' (.cons _ .nil) G' C.tb) (GenOnlyQ.bare gg (bare_push g hgb)) ⟨t, rfl⟩
set_option maxHeartbeats 4000000 in
theorem c_xor1_bad (P9 : Pg w p loose mg mb b) (C : Cx (n+2) b A outer s.heap) (g : AllBare s.gens) (v : Value) (bs : Array UInt8) (soft : Bool) (key : Int) (u : Tok) (D : DataAt s.heap v bs soft) (hz : bs.size ≤ 16777216) (hn : 0 < bs.size) (hb : Builtin.bitXor ((octs bs).getD 0 0) key < 0 ∨ 256 ≤ Builtin.bitXor ((octs bs).getD 0 0) key) (ke : Thr outer s "ValueError" E) : wpAny (model PySem.Challenge.rw_br5013_01.row.prog w) A (PySem.call (.ref 325) [v, Value.int key u]) Q E s := by
  have X := P9.X
  have T := P9.T
  have bt := P9.bt
  revert X
  k_fill
  intro X
  refine' enter_cells (f := 325) C X T.nolimit (ho := ?h1) (hcd := ?h2) (hbind := ?h3) (hkind := ?h4) (hnd := ?h5) (hco := ?h6) (hgen := ?h7) (hk := ?h8) (h := ?h9)
  case h1 => k_is
  case h2 => k_is
  case h3 => exact .of_eq rfl
  case h4 => rfl
  case h5 => decide
  case h6 => rfl
  case h7 => rfl
  case h8 => rfl
  intro L h₁ tk₁ cells fl F N Y G
  have hh9 := C.hd
  replace X := X.keeps (C.base bt)
  replace T := T.keeps (C.base bt)
  replace D := under_kp C D
  replace Y : CellsAre _ [(Str.ofString "key", L + 1)] cells := Y
  cases Y with
  | cons hd Y2 =>
  cases Y2
  rename_i o
  replace hd : o.data = .cell (some (.int key u)) := hd
  simp only [List.nil_append, List.cons_append] at N
  have KC : CodeOf (under s.heap outer) 324 320 := ⟨⟨_, _, _, _, _, _, _, _, _, X _ _ (by k_is), rfl, rfl, rfl, rfl, rfl, rfl, rfl⟩, by decide⟩
  obtain ⟨bmA, bmO, BM⟩ := P9.bm
  replace BM := BM.keeps (C.base bt)
  have nd1 : NDs [(L + 1, o)] := nds_cons (fun es k q => by rw [hd] at q; cases q) (fun ps q => by rw [q] at hd; cases hd) nds_nil
  k_steps
  refine wpAny_GeneratorExp_walksQ hh9 rfl rfl (by decide) rfl rfl rfl (by have := C.dp; show _ + 1 < _; omega) ?_ (fun _ => rfl)
  refine nameX_L F rfl ?_
  refine iter_data_all (D.keeps F.keep) fun oI fp St W hfp hst => ?_
  refine ⟨T.nolimit.keeps (F.push oI).keep, ?_⟩
  have T1 : Tabs h₁ := led_tabs N (.cons _ .nil) G
  refine gen_code (c := 324) (P := 320) (T1.keeps fun b o e => Heap.get?_push_of_some _ e) rfl (.inl rfl) (KC.keeps (F.push oI).keep) fun c' h3 tk3 k3 Tb3 hs3 => ?_
  have lt1 : ∀ b o, b ≠ 320 → h₁.get? b = some o → h3.get? b = some o := fun b o hb e => k3 b o hb (Heap.get?_push_of_some _ e)
  have hL1 : h₁.get? (L + 1) = some o := (N _ (.head _)).1
  have hne : L + 1 ≠ 320 := fun z => by
    obtain ⟨ps, e⟩ := tab_fields T1 (.inl rfl)
    rw [← z, hL1] at e; cases e; cases hd
  have ne320 : (320 : Nat) < h₁.objs.size := by obtain ⟨ps, e⟩ := tab_fields T1 (.inl rfl); exact Heap.lt_size e
  have keep3 : ∀ b o, (under s.heap outer).get? b = some o → h3.get? b = some o := fun b o e => lt1 b o (fun z => by rw [z, under_tab (.inl rfl)] at e; cases e) (F.keep b o e)
  replace BM := BM.keeps keep3
  refine wpAny_builtinsFor BM.ns BM.name BM.ne BM.obj BM.cls BM.dict BM.data ?_
  have nl3 : h3.NoLimit := T.nolimit.keeps keep3
  refine ⟨_, _, _, bs.size, _, St, fun _ => true, fun i y => ∃ c u, bs[i]? = some c ∧ y = Value.int (Builtin.bitXor (c.toNat : Int) key) u, rfl, W, ?st, ?fp, nl3, ?cw, fun href hh => ?quiet, fun a h5 tk gs hgb hag hsz5 hk5 WS hat => ?fin⟩
  case st =>
    refine (W A hh9).frame 0 _ _ hst fun b hb o e => k3 b o (fun z => ?_) e
    subst z
    rcases List.mem_cons.mp hb with z | hb
    · exact absurd ne320 (by rw [show h₁.objs.size = 320 from z.symm]; exact Nat.lt_irrefl _)
    · obtain ⟨_, o', e', c'⟩ := hfp _ hb
      obtain ⟨ps, q⟩ := tab_fields T1 (.inl rfl)
      have e' : h₁.get? 320 = some o' := e'
      rw [q] at e'; cases e'; cases c'
  case fp =>
    intro b hb
    have e1 : h₁.objs.size < h3.objs.size := Nat.lt_of_lt_of_le (by show _ < (h₁.push oI).objs.size; rw [Heap.size_push]; exact Nat.lt_succ_self _) hs3
    rcases List.mem_cons.mp hb with z | hb
    · exact z ▸ e1
    · exact Nat.lt_trans (hfp _ hb).1 e1
  case cw =>
    intro hm
    simp only [List.mem_singleton] at hm
    obtain ⟨_, ⟨_, _, _, e, _⟩, _⟩ := T.nolimit.keeps F.keep
    exact absurd (hm ▸ Heap.lt_size e) (Nat.lt_irrefl _)
  case quiet =>
    refine ⟨fun A' E' i v s₂ m₂ hA hP hn hm hkp => wpAny_pure ⟨rfl, s₂.heap, s₂.toks, rfl, fun _ _ e => e⟩, fun A' E' i v s₂ m₂ hA hP hp hn hm hkp => ?_⟩
    obtain ⟨c, u2, hc, rfl⟩ := hP
    refine wpAny_BinOp (wpAny_Name (wpAny_loadName_local rfl rfl hn hm ?_) (by decide))
    refine wpAny_Name (wpAny_loadName_free (v := Value.int key u) rfl rfl rfl ⟨o, hkp (L + 1) (List.mem_range.mpr (Heap.lt_size (lt1 _ _ ?_ hL1))) (fun hm => ?_) o (hh _ _ (lt1 _ _ ?_ hL1)), hd⟩ ?_) (by decide)
    rotate_right
    · exact PyProof.Rows.xor_int ⟨⟨c, _, hc, rfl⟩, s₂.heap, s₂.toks + 1, rfl, fun _ _ e => e⟩
    · exact fun z => hne z
    · simp only [List.mem_singleton] at hm
      exact absurd (hm ▸ Heap.lt_size hL1) (Nat.lt_irrefl _)
    · exact hne
  case fin =>
    k_steps
    rw [show (passing (fun _ => true) bs.size 0).length = bs.size by rw [passing_all]; simp] at WS
    refine call_bytes_gen_bad hh9 (val := fun i => Builtin.bitXor ((octs bs).getD i 0) key) WS hat hat.1 ?hfp (fun i v hp => passing_val hp) hn hb fun s' h' tk e vs kp gg dd oo x => ?hE
    case hfp =>
      intro b hb
      show b < h5.objs.size
      rw [hsz5]
      rcases List.mem_cons.mp hb with z | hb
      · exact z ▸ Nat.lt_succ_self _
      · rcases List.mem_cons.mp hb with z | hb
        · exact z ▸ Nat.lt_succ_of_lt hag
        · exact Nat.lt_succ_of_lt (Nat.lt_trans (List.mem_range.mp hb) hag)
    case hE =>
      have k2 : ∀ b o, b < h₁.objs.size → h3.get? b = some o → s'.heap.get? b = some o := fun b o hb e => kp b o (fun z => by
        rcases List.mem_cons.mp z with z | z
        · exact absurd (z ▸ Heap.lt_size e) (Nat.lt_irrefl _)
        · simp only [List.mem_singleton] at z
          exact absurd (z ▸ hb) (Nat.lt_irrefl _)) (hk5 _ _ e)
      obtain ⟨fl', F', N', G'⟩ := behind C bt F N (.cons _ .nil) G nd1 (env := env0 L) rfl (gen_af T1 (.inl rfl) lt1 Tb3 k2)
      have es : ({ s' with heap := h', toks := tk } : Shared) = ⟨h', s'.gens, s.drawn, tk, s.os⟩ := by
        cases s'; simp only at dd oo; subst dd oo; rfl
      rw [es]
      exact raise_up ke C bt F' N' (.cons _ .nil) G' rfl rfl rfl (GenOnlyQ.bare gg (bare_push g hgb)) x
end Br
end
-- BrKo
section
open PySem PySem.W PySem.Calls PyProof.Rows
set_option Elab.async false
set_option maxRecDepth 100000
set_option linter.unusedVariables false
set_option linter.unusedSimpArgs false
set_option pp.deepTerms false
set_option pp.deepTerms.threshold 6
namespace Br
local macro_rules | `(tactic| walk_at "exec Try") => `(tactic| (refine hold ?_))
local macro_rules | `(tactic| walk_at "exec Try If") => `(tactic| (refine hold ?_))
variable {w : World} {n : Nat} {b : Heap} {A : Around} {outer : List Env} {s : Shared} {Q E : Value → Shared → Prop} {p : Program} {loose : List Str} {mg mb : Str → Option Value}
set_option maxHeartbeats 4000000 in
theorem k_index (P9 : Pg w p loose mg mb b) (C : Cx (n+3) b A outer s.heap) (g : AllBare s.gens) (u0 : Tok) (v : Value) (bs : Array UInt8) (soft : Bool) (D : DataAt s.heap v bs soft) (i : Int) (u : Tok) (yv : Value) (c : UInt8) (hr : Builtin.Bytes.fitsIndex i = true) (hx : (seqIndex? i bs.size).bind (bs[·]?) = some c) (k : Ret outer s (fun r _ => ∃ t, r = Value.int c.toNat t) Q) : wpAny (model PySem.Challenge.rw_br5013_01.row.prog w) A (PySem.call (.ref 526) [Value.int 0 u0, v, Value.int i u, yv]) Q E s := by
  have X := P9.X
  have T := P9.T
  have bt := P9.bt
  revert X
  k_fill
  intro X
  refine' enter_any (f := 526) C X T.nolimit (ho := ?h1) (hcd := ?h2) (hbind := ?h3) (hloc := ?h4) (hcell := ?h5) (hco := ?h6) (hgen := ?h7) (hk := ?h8) (h := ?h9)
  case h1 => k_is
  case h2 => k_is
  case h3 => exact .of_eq rfl
  case h4 => exact locs rfl
  case h5 => decide
  case h6 => rfl
  case h7 => rfl
  case h8 => rfl
  intro L h₁ fl F N G hs
  have hh9 := C.hd
  replace X := X.keeps (C.base bt)
  replace T := T.keeps (C.base bt)
  replace F : Fr (under s.heap outer) L h₁ (fun y => List.lookup y [(Str.ofString "y", yv), (Str.ofString "x", Value.int i u), (Str.ofString "data", v), (Str.ofString "kind", Value.int 0 u0)]) := F
  replace D := under_kp C D
  k_steps
  refine (show wpAny _ _ _ _ _ _ from ?_)
  refine wpAny_Try_except ?_
  k_steps
  have hF9 := F
  refine' c_index P9 ?hC9_28 ?hg9_28 _ _ _ _ _ _ (D.keeps F.keep) hr hx ?hk9_28
  case hC9_28 => exact Cx.push C bt (C.base bt) F N .nil G rfl rfl rfl
  case hg9_28 => exact g
  refine' after C bt F N .nil G nds_nil ?hf9_28 ?_
  case hf9_28 => rfl
  intro r h' g' tk' fl F N S G g hr
  simp only [List.nil_append, List.cons_append] at N
  clear S
  k_steps
  exact k _ _ _ _ (ends_af F N .nil G C.tb) g hr
set_option maxHeartbeats 4000000 in
theorem k_min (P9 : Pg w p loose mg mb b) (C : Cx (n+3) b A outer s.heap) (g : AllBare s.gens) (u0 : Tok) (v : Value) (bs : Array UInt8) (soft : Bool) (D : DataAt s.heap v bs soft) (xv yv : Value) (hn : 0 < bs.size) (k : Ret outer s (fun r _ => ∃ k t, r = Value.int k t ∧ k ∈ octs bs ∧ ∀ j ∈ octs bs, k ≤ j) Q) : wpAny (model PySem.Challenge.rw_br5013_01.row.prog w) A (PySem.call (.ref 526) [Value.int 1 u0, v, xv, yv]) Q E s := by
  have X := P9.X
  have T := P9.T
  have bt := P9.bt
  revert X
  k_fill
  intro X
  refine' enter_any (f := 526) C X T.nolimit (ho := ?h1) (hcd := ?h2) (hbind := ?h3) (hloc := ?h4) (hcell := ?h5) (hco := ?h6) (hgen := ?h7) (hk := ?h8) (h := ?h9)
  case h1 => k_is
  case h2 => k_is
  case h3 => exact .of_eq rfl
  case h4 => exact locs rfl
  case h5 => decide
  case h6 => rfl
  case h7 => rfl
  case h8 => rfl
  intro L h₁ fl F N G hs
  have hh9 := C.hd
  replace X := X.keeps (C.base bt)
  replace T := T.keeps (C.base bt)
  replace F : Fr (under s.heap outer) L h₁ (fun y => List.lookup y [(Str.ofString "y", yv), (Str.ofString "x", xv), (Str.ofString "data", v), (Str.ofString "kind", Value.int 1 u0)]) := F
  replace D := under_kp C D
  k_steps
  refine (show wpAny _ _ _ _ _ _ from ?_)
  refine wpAny_Try_except ?_
  k_steps
  have hF9 := F
  refine' c_min P9 ?hC9_40 ?hg9_40 _ _ _ (D.keeps F.keep) hn ?hk9_40
  case hC9_40 => exact Cx.push C bt (C.base bt) F N .nil G rfl rfl rfl
  case hg9_40 => exact g
  refine' after C bt F N .nil G nds_nil ?hf9_40 ?_
  case hf9_40 => rfl
  intro r h' g' tk' fl F N S G g hr
  simp only [List.nil_append, List.cons_append] at N
  clear S
  k_steps
  exact k _ _ _ _ (ends_af F N .nil G C.tb) g hr
set_option maxHeartbeats 4000000 in
theorem k_max (P9 : Pg w p loose mg mb b) (C : Cx (n+3) b A outer s.heap) (g : AllBare s.gens) (u0 : Tok) (v : Value) (bs : Array UInt8) (soft : Bool) (D : DataAt s.heap v bs soft) (xv yv : Value) (hn : 0 < bs.size) (k : Ret outer s (fun r _ => ∃ k t, r = Value.int k t ∧ k ∈ octs bs ∧ ∀ j ∈ octs bs, j ≤ k) Q) : wpAny (model PySem.Challenge.rw_br5013_01.row.prog w) A (PySem.call (.ref 526) [Value.int 2 u0, v, xv, yv]) Q E s := by
  have X := P9.X
  have T := P9.T
  have bt := P9.bt
  revert X
  k_fill
  intro X
  refine' enter_any (f := 526) C X T.nolimit (ho := ?h1) (hcd := ?h2) (hbind := ?h3) (hloc := ?h4) (hcell := ?h5) (hco := ?h6) (hgen := ?h7) (hk := ?h8) (h := ?h9)
  case h1 => k_is
  case h2 => k_is
  case h3 => exact .of_eq rfl
  case h4 => exact locs rfl
  case h5 => decide
  case h6 => rfl
  case h7 => rfl
  case h8 => rfl
  intro L h₁ fl F N G hs
  have hh9 := C.hd
  replace X := X.keeps (C.base bt)
  replace T := T.keeps (C.base bt)
  replace F : Fr (under s.heap outer) L h₁ (fun y => List.lookup y [(Str.ofString "y", yv), (Str.ofString "x", xv), (Str.ofString "data", v), (Str.ofString "kind", Value.int 2 u0)]) := F
  replace D := under_kp C D
  k_steps
  refine (show wpAny _ _ _ _ _ _ from ?_)
  refine wpAny_Try_except ?_
  k_steps
  have hF9 := F
  refine' c_max P9 ?hC9_52 ?hg9_52 _ _ _ (D.keeps F.keep) hn ?hk9_52
  case hC9_52 => exact Cx.push C bt (C.base bt) F N .nil G rfl rfl rfl
  case hg9_52 => exact g
  refine' after C bt F N .nil G nds_nil ?hf9_52 ?_
  case hf9_52 => rfl
  intro r h' g' tk' fl F N S G g hr
  simp only [List.nil_append, List.cons_append] at N
  clear S
  k_steps
  exact k _ _ _ _ (ends_af F N .nil G C.tb) g hr
set_option maxHeartbeats 4000000 in
theorem k_find (P9 : Pg w p loose mg mb b) (C : Cx (n+3) b A outer s.heap) (g : AllBare s.gens) (u0 : Tok) (v : Value) (bs : Array UInt8) (soft : Bool) (D : DataAt s.heap v bs soft) (i : Int) (u : Tok) (yv : Value) (h0 : 0 ≤ i) (h1 : i < 256) (k : Ret outer s (fun r _ => ∃ t, r = Value.int (fnd bs #[i.toNat.toUInt8] 0) t) Q) : wpAny (model PySem.Challenge.rw_br5013_01.row.prog w) A (PySem.call (.ref 526) [Value.int 3 u0, v, Value.int i u, yv]) Q E s := by
  have X := P9.X
  have T := P9.T
  have bt := P9.bt
  revert X
  k_fill
  intro X
  refine' enter_any (f := 526) C X T.nolimit (ho := ?h1) (hcd := ?h2) (hbind := ?h3) (hloc := ?h4) (hcell := ?h5) (hco := ?h6) (hgen := ?h7) (hk := ?h8) (h := ?h9)
  case h1 => k_is
  case h2 => k_is
  case h3 => exact .of_eq rfl
  case h4 => exact locs rfl
  case h5 => decide
  case h6 => rfl
  case h7 => rfl
  case h8 => rfl
  intro L h₁ fl F N G hs
  have hh9 := C.hd
  replace X := X.keeps (C.base bt)
  replace T := T.keeps (C.base bt)
  replace F : Fr (under s.heap outer) L h₁ (fun y => List.lookup y [(Str.ofString "y", yv), (Str.ofString "x", Value.int i u), (Str.ofString "data", v), (Str.ofString "kind", Value.int 3 u0)]) := F
  replace D := under_kp C D
  k_steps
  refine (show wpAny _ _ _ _ _ _ from ?_)
  refine wpAny_Try_except ?_
  k_steps
  have hF9 := F
  refine' c_find P9 ?hC9_64 ?hg9_64 _ _ _ _ _ (D.keeps F.keep) h0 h1 ?hk9_64
  case hC9_64 => exact Cx.push C bt (C.base bt) F N .nil G rfl rfl rfl
  case hg9_64 => exact g
  refine' after C bt F N .nil G nds_nil ?hf9_64 ?_
  case hf9_64 => rfl
  intro r h' g' tk' fl F N S G g hr
  simp only [List.nil_append, List.cons_append] at N
  clear S
  k_steps
  exact k _ _ _ _ (ends_af F N .nil G C.tb) g hr
set_option maxHeartbeats 4000000 in
theorem k_byte (P9 : Pg w p loose mg mb b) (C : Cx (n+3) b A outer s.heap) (g : AllBare s.gens) (u0 : Tok) (v : Value) (bs : Array UInt8) (soft : Bool) (D : DataAt s.heap v bs soft) (i : Int) (u : Tok) (yv : Value) (h0 : 0 ≤ i) (h1 : i < 256) (k : Ret outer s (fun r _ => ∃ t, r = Value.bytes #[i.toNat.toUInt8] t) Q) : wpAny (model PySem.Challenge.rw_br5013_01.row.prog w) A (PySem.call (.ref 526) [Value.int 4 u0, v, Value.int i u, yv]) Q E s := by
  have X := P9.X
  have T := P9.T
  have bt := P9.bt
  revert X
  k_fill
  intro X
  refine' enter_any (f := 526) C X T.nolimit (ho := ?h1) (hcd := ?h2) (hbind := ?h3) (hloc := ?h4) (hcell := ?h5) (hco := ?h6) (hgen := ?h7) (hk := ?h8) (h := ?h9)
  case h1 => k_is
  case h2 => k_is
  case h3 => exact .of_eq rfl
  case h4 => exact locs rfl
  case h5 => decide
  case h6 => rfl
  case h7 => rfl
  case h8 => rfl
  intro L h₁ fl F N G hs
  have hh9 := C.hd
  replace X := X.keeps (C.base bt)
  replace T := T.keeps (C.base bt)
  replace F : Fr (under s.heap outer) L h₁ (fun y => List.lookup y [(Str.ofString "y", yv), (Str.ofString "x", Value.int i u), (Str.ofString "data", v), (Str.ofString "kind", Value.int 4 u0)]) := F
  replace D := under_kp C D
  k_steps
  refine (show wpAny _ _ _ _ _ _ from ?_)
  refine wpAny_Try_except ?_
  k_steps
  have hF9 := F
  refine' c_byte P9 ?hC9_76 ?hg9_76 _ _ h0 h1 ?hk9_76
  case hC9_76 => exact Cx.push C bt (C.base bt) F N .nil G rfl rfl rfl
  case hg9_76 => exact g
  refine' after C bt F N .nil G nds_nil ?hf9_76 ?_
  case hf9_76 => rfl
  intro r h' g' tk' fl F N S G g hr
  simp only [List.nil_append, List.cons_append] at N
  clear S
  k_steps
  exact k _ _ _ _ (ends_af F N .nil G C.tb) g hr
set_option maxHeartbeats 4000000 in
theorem k_xor1 (P9 : Pg w p loose mg mb b) (C : Cx (n+3) b A outer s.heap) (g : AllBare s.gens) (u0 : Tok) (v : Value) (bs : Array UInt8) (soft : Bool) (D : DataAt s.heap v bs soft) (i : Int) (u : Tok) (yv : Value) (hz : bs.size ≤ 16777216) (hx : ∀ c ∈ octs bs, 0 ≤ Builtin.bitXor c i ∧ Builtin.bitXor c i < 256) (k : Ret outer s (fun r _ => ∃ t, r = Value.bytes (arr (fun j => Builtin.bitXor ((octs bs).getD j 0) i) bs.size) t) Q) : wpAny (model PySem.Challenge.rw_br5013_01.row.prog w) A (PySem.call (.ref 526) [Value.int 5 u0, v, Value.int i u, yv]) Q E s := by
  have X := P9.X
  have T := P9.T
  have bt := P9.bt
  revert X
  k_fill
  intro X
  refine' enter_any (f := 526) C X T.nolimit (ho := ?h1) (hcd := ?h2) (hbind := ?h3) (hloc := ?h4) (hcell := ?h5) (hco := ?h6) (hgen := ?h7) (hk := ?h8) (h := ?h9)
  case h1 => k_is
  case h2 => k_is
  case h3 => exact .of_eq rfl
  case h4 => exact locs rfl
  case h5 => decide
  case h6 => rfl
  case h7 => rfl
  case h8 => rfl
  intro L h₁ fl F N G hs
  have hh9 := C.hd
  replace X := X.keeps (C.base bt)
  replace T := T.keeps (C.base bt)
  replace F : Fr (under s.heap outer) L h₁ (fun y => List.lookup y [(Str.ofString "y", yv), (Str.ofString "x", Value.int i u), (Str.ofString "data", v), (Str.ofString "kind", Value.int 5 u0)]) := F
  replace D := under_kp C D
  k_steps
  refine (show wpAny _ _ _ _ _ _ from ?_)
  refine wpAny_Try_except ?_
  k_steps
  have hF9 := F
  refine' c_xor1 P9 ?hC9_88 ?hg9_88 _ _ _ _ _ (D.keeps F.keep) hz hx ?hk9_88
  case hC9_88 => exact Cx.push C bt (C.base bt) F N .nil G rfl rfl rfl
  case hg9_88 => exact g
  refine' after C bt F N .nil G nds_nil ?hf9_88 ?_
  case hf9_88 => rfl
  intro r h' g' tk' fl F N S G g hr
  simp only [List.nil_append, List.cons_append] at N
  clear S
  k_steps
  exact k _ _ _ _ (ends_af F N .nil G C.tb) g hr
set_option maxHeartbeats 4000000 in
theorem k_xorm (P9 : Pg w p loose mg mb b) (C : Cx (n+3) b A outer s.heap) (g : AllBare s.gens) (u0 : Tok) (v : Value) (bs : Array UInt8) (soft : Bool) (D : DataAt s.heap v bs soft) (kb : Array UInt8) (u : Tok) (yv : Value) (hz : bs.size ≤ 8) (hkb : kb.size ≤ 3) (hx : ∀ c ∈ octs bs, ∀ d ∈ octs kb, 0 ≤ Builtin.bitXor c d ∧ Builtin.bitXor c d < 256) (k : Ret outer s (fun r _ => ∃ t, r = Value.bytes (arr (fun i => Builtin.bitXor ((octs bs).getD i 0) ((octs kb).getD (i % kb.size) 0)) (if kb.size = 0 then 0 else bs.size)) t) Q) : wpAny (model PySem.Challenge.rw_br5013_01.row.prog w) A (PySem.call (.ref 526) [Value.int 7 u0, v, Value.bytes kb u, yv]) Q E s := by
  have X := P9.X
  have T := P9.T
  have bt := P9.bt
  revert X
  k_fill
  intro X
  refine' enter_any (f := 526) C X T.nolimit (ho := ?h1) (hcd := ?h2) (hbind := ?h3) (hloc := ?h4) (hcell := ?h5) (hco := ?h6) (hgen := ?h7) (hk := ?h8) (h := ?h9)
  case h1 => k_is
  case h2 => k_is
  case h3 => exact .of_eq rfl
  case h4 => exact locs rfl
  case h5 => decide
  case h6 => rfl
  case h7 => rfl
  case h8 => rfl
  intro L h₁ fl F N G hs
  have hh9 := C.hd
  replace X := X.keeps (C.base bt)
  replace T := T.keeps (C.base bt)
  replace F : Fr (under s.heap outer) L h₁ (fun y => List.lookup y [(Str.ofString "y", yv), (Str.ofString "x", Value.bytes kb u), (Str.ofString "data", v), (Str.ofString "kind", Value.int 7 u0)]) := F
  replace D := under_kp C D
  k_steps
  refine (show wpAny _ _ _ _ _ _ from ?_)
  refine wpAny_Try_except ?_
  k_steps
  have hF9 := F
  refine' c_xorm P9 ?hC9_100 ?hg9_100 _ _ _ _ _ (D.keeps F.keep) hz hkb hx ?hk9_100
  case hC9_100 => exact Cx.push C bt (C.base bt) F N .nil G rfl rfl rfl
  case hg9_100 => exact g
  refine' after C bt F N .nil G nds_nil ?hf9_100 ?_
  case hf9_100 => rfl
  intro r h' g' tk' fl F N S G g hr
  simp only [List.nil_append, List.cons_append] at N
  clear S
  k_steps
  exact k _ _ _ _ (ends_af F N .nil G C.tb) g hr
set_option maxHeartbeats 4000000 in
theorem k_strip (P9 : Pg w p loose mg mb b) (C : Cx (n+3) b A outer s.heap) (g : AllBare s.gens) (u0 : Tok) (v : Value) (bs : Array UInt8) (soft : Bool) (D : DataAt s.heap v bs soft) (i : Int) (u : Tok) (yv : Value) (hz : bs.size ≤ sizeLine) (h0 : 0 ≤ i) (h1 : i < 256) (k : Ret outer s (fun r h' => DataAt h' r (stripR bs #[i.toNat.toUInt8]) soft) Q) : wpAny (model PySem.Challenge.rw_br5013_01.row.prog w) A (PySem.call (.ref 526) [Value.int 8 u0, v, Value.int i u, yv]) Q E s := by
  have X := P9.X
  have T := P9.T
  have bt := P9.bt
  revert X
  k_fill
  intro X
  refine' enter_any (f := 526) C X T.nolimit (ho := ?h1) (hcd := ?h2) (hbind := ?h3) (hloc := ?h4) (hcell := ?h5) (hco := ?h6) (hgen := ?h7) (hk := ?h8) (h := ?h9)
  case h1 => k_is
  case h2 => k_is
  case h3 => exact .of_eq rfl
  case h4 => exact locs rfl
  case h5 => decide
  case h6 => rfl
  case h7 => rfl
  case h8 => rfl
  intro L h₁ fl F N G hs
  have hh9 := C.hd
  replace X := X.keeps (C.base bt)
  replace T := T.keeps (C.base bt)
  replace F : Fr (under s.heap outer) L h₁ (fun y => List.lookup y [(Str.ofString "y", yv), (Str.ofString "x", Value.int i u), (Str.ofString "data", v), (Str.ofString "kind", Value.int 8 u0)]) := F
  replace D := under_kp C D
  k_steps
  refine (show wpAny _ _ _ _ _ _ from ?_)
  refine wpAny_Try_except ?_
  k_steps
  have hF9 := F
  refine' c_strip P9 ?hC9_112 ?hg9_112 _ _ _ _ _ (D.keeps F.keep) hz h0 h1 ?hk9_112
  case hC9_112 => exact Cx.push C bt (C.base bt) F N .nil G rfl rfl rfl
  case hg9_112 => exact g
  refine' after C bt F N .nil G nds_nil ?hf9_112 ?_
  case hf9_112 => rfl
  intro r h' g' tk' fl F N S G g hr
  simp only [List.nil_append, List.cons_append] at N
  clear S
  k_steps
  exact k _ _ _ _ (ends_af F N .nil G C.tb) g hr
set_option maxHeartbeats 4000000 in
theorem k_multi (P9 : Pg w p loose mg mb b) (C : Cx (n+3) b A outer s.heap) (g : AllBare s.gens) (u0 : Tok) (v : Value) (bs : Array UInt8) (soft : Bool) (D : DataAt s.heap v bs soft) (e1 e2 : UInt8) (u : Tok) (inc : Bool) (hz : bs.size ≤ 16777216) (k : Ret outer s (fun r h' => ∃ j : Int, DataAt h' r (KBy.picked bs none (cutHi j (if inc then 2 else 0))) soft ∧ FirstEven bs #[e1, e2] j) Q) : wpAny (model PySem.Challenge.rw_br5013_01.row.prog w) A (PySem.call (.ref 526) [Value.int 10 u0, v, Value.bytes #[e1, e2] u, Value.bool inc]) Q E s := by
  have X := P9.X
  have T := P9.T
  have bt := P9.bt
  revert X
  k_fill
  intro X
  refine' enter_any (f := 526) C X T.nolimit (ho := ?h1) (hcd := ?h2) (hbind := ?h3) (hloc := ?h4) (hcell := ?h5) (hco := ?h6) (hgen := ?h7) (hk := ?h8) (h := ?h9)
  case h1 => k_is
  case h2 => k_is
  case h3 => exact .of_eq rfl
  case h4 => exact locs rfl
  case h5 => decide
  case h6 => rfl
  case h7 => rfl
  case h8 => rfl
  intro L h₁ fl F N G hs
  have hh9 := C.hd
  replace X := X.keeps (C.base bt)
  replace T := T.keeps (C.base bt)
  replace F : Fr (under s.heap outer) L h₁ (fun y => List.lookup y [(Str.ofString "y", Value.bool inc), (Str.ofString "x", Value.bytes #[e1, e2] u), (Str.ofString "data", v), (Str.ofString "kind", Value.int 10 u0)]) := F
  replace D := under_kp C D
  k_steps
  refine (show wpAny _ _ _ _ _ _ from ?_)
  refine wpAny_Try_except ?_
  k_steps
  have hF9 := F
  refine' c_multi P9 ?hC9_124 ?hg9_124 _ _ _ _ _ _ _ (D.keeps F.keep) hz ?hk9_124
  case hC9_124 => exact Cx.push C bt (C.base bt) F N .nil G rfl rfl rfl
  case hg9_124 => exact g
  refine' after C bt F N .nil G nds_nil ?hf9_124 ?_
  case hf9_124 => rfl
  intro r h' g' tk' fl F N S G g hr
  simp only [List.nil_append, List.cons_append] at N
  clear S
  k_steps
  exact k _ _ _ _ (ends_af F N .nil G C.tb) g hr
end Br
end
-- BrK9
section
open PySem PySem.W PySem.Calls PyProof.Rows
set_option Elab.async false
set_option maxRecDepth 100000
set_option linter.unusedVariables false
set_option linter.unusedSimpArgs false
set_option pp.deepTerms false
set_option pp.deepTerms.threshold 6
namespace Br
local macro_rules | `(tactic| walk_at "exec Try") => `(tactic| (refine hold ?_))
local macro_rules | `(tactic| walk_at "exec Try If") => `(tactic| (refine hold ?_))
variable {w : World} {n : Nat} {b : Heap} {A : Around} {outer : List Env} {s : Shared} {Q E : Value → Shared → Prop} {p : Program} {loose : List Str} {mg mb : Str → Option Value}
theorem fresh_low {h₀ h : Heap} {outer : List Env} {n : Nat} {b : Heap} {A : Around} (C : Cx (n+1) b A outer h₀) (F : Af outer h₀ h) {r : Value} (x : ∀ a, r = .ref a → h.get? a = none) : ∀ a, r = .ref a → h₀.get? a = none := fun a e => by
  have z := x a e
  cases q : h₀.get? a with
  | none => rfl
  | some o =>
    exfalso
    by_cases m : a ∈ frs outer
    · obtain ⟨o', es, k, q', d⟩ := C.di a m
      rw [q] at q'
      cases q'
      obtain ⟨sl, hs⟩ := F.slots a o q (fun vs hv => by rw [d] at hv; cases hv)
      rw [z] at hs
      cases hs
    · by_cases t : isTab a
      · obtain ⟨ps, hs⟩ := tab_fields F.tb t
        rw [z] at hs
        cases hs
      · have hs := F.keep a o q m t
        rw [z] at hs
        cases hs
set_option maxHeartbeats 4000000 in
theorem k_term (P9 : Pg w p loose mg mb b) (C : Cx (n+4) b A outer s.heap) (g : AllBare s.gens) (u0 : Tok) (v : Value) (bs : Array UInt8) (soft : Bool) (D : DataAt s.heap v bs soft) (i : Int) (u : Tok) (inc : Bool) (h0 : 0 ≤ i) (h1 : i < 256) (hz : bs.size ≤ 16777216) (k : Ret outer s (fun r h' => DataAt h' r (KBy.picked bs none (cutHi (fnd bs #[i.toNat.toUInt8] 0) (if inc then 1 else 0))) soft ∧ ∀ a, r = .ref a → s.heap.get? a = none) Q) : wpAny (model PySem.Challenge.rw_br5013_01.row.prog w) A (PySem.call (.ref 526) [Value.int 9 u0, v, Value.int i u, Value.bool inc]) Q E s := by
  have X := P9.X
  have T := P9.T
  have bt := P9.bt
  revert X
  k_fill
  intro X
  refine' enter_any (f := 526) C X T.nolimit (ho := ?h1) (hcd := ?h2) (hbind := ?h3) (hloc := ?h4) (hcell := ?h5) (hco := ?h6) (hgen := ?h7) (hk := ?h8) (h := ?h9)
  case h1 => k_is
  case h2 => k_is
  case h3 => exact .of_eq rfl
  case h4 => exact locs rfl
  case h5 => decide
  case h6 => rfl
  case h7 => rfl
  case h8 => rfl
  intro L h₁ fl F N G hs
  have hh9 := C.hd
  replace X := X.keeps (C.base bt)
  replace T := T.keeps (C.base bt)
  replace F : Fr (under s.heap outer) L h₁ (fun y => List.lookup y [(Str.ofString "y", Value.bool inc), (Str.ofString "x", Value.int i u), (Str.ofString "data", v), (Str.ofString "kind", Value.int 9 u0)]) := F
  replace D := under_kp C D
  k_steps
  refine (show wpAny _ _ _ _ _ _ from ?_)
  refine wpAny_Try_except ?_
  k_steps
  have hF9 := ends_af F N .nil G C.tb
  refine' c_term P9 ?hC9_44 ?hg9_44 _ _ _ _ _ _ (D.keeps F.keep) h0 h1 hz ?hk9_44
  case hC9_44 => exact Cx.push C bt (C.base bt) F N .nil G rfl rfl rfl
  case hg9_44 => exact g
  refine' after C bt F N .nil G nds_nil ?hf9_44 ?_
  case hf9_44 => rfl
  intro r h' g' tk' fl F N S G g hr
  simp only [List.nil_append, List.cons_append] at N
  clear S
  k_steps
  exact k _ _ _ _ (ends_af F N .nil G C.tb) g ⟨hr.1, fresh_low C hF9 hr.2⟩
end Br
end
-- BrS3
section
open PySem PySem.W PySem.Calls PyProof.Rows
set_option Elab.async false
set_option maxRecDepth 100000
set_option linter.unusedVariables false
set_option pp.deepTerms false
set_option pp.deepTerms.threshold 6
namespace Br
local macro_rules | `(tactic| walk_at "call ref") => `(tactic| (refine hold ?_))
local macro_rules | `(tactic| walk_at "subscriptTail") => `(tactic| ((with_reducible show wpAny _ _ (subscriptTail _ _ (Value.ref 519) (Value.int (Int.fmod _ 7) _)) _ _ _); refine item_signs (by assumption) (by assumption) (Int.fmod_nonneg_of_pos _ (by decide)) (Int.fmod_lt_of_pos _ (by decide)) (fun tz => ?_)))
variable {w : World} {n : Nat} {b h₀ : Heap} {A : Around} {outer : List Env} {s : Shared} {Q : Flow → Shared → Prop} {p : Program} {loose : List Str} {mg mb : Str → Option Value} {L a : Addr} {cd : Value} {dr : Drawn} {os : OsState} {X : List (Addr × Obj)} {m : Str → Option Value} {oK oR oN : Obj} {lr : Addr} {rv : List Value} {nr : Nat}
local macro_rules | `(tactic| walk_at "call type:bytes") => `(tactic| (refine hold ?_))
set_option maxHeartbeats 4000000 in
theorem t_find (P9 : Pg w p loose mg mb b) (C : Cx (n + 9) b A outer h₀) {ts : Tok} {v : Value} {bs : Array UInt8} {soft : Bool} {sg : Int} {rs : List Int} (D : DX X v bs soft) (hb : octs bs = rs) (hi : IntsAre rv rs) (hlen : rs.length ≤ 8) (dR : oR.data = .cell (some (.ref lr))) (h0 : 0 ≤ sg) (h1 : sg < 256) (S : LS h₀ outer L dr os ((L+3, oK) :: (L+2, oR) :: (L+1, oN) :: (lr, listOf rv.toArray nr) :: X) m s) (hm0 : m (Str.ofString "data") = some (v)) (hm1 : m (Str.ofString "sign") = some (.int sg ts)) (k : ∀ s', LS h₀ outer L dr os ((L+3, oK) :: (L+2, oR) :: (L+1, oN) :: (lr, listOf rv.toArray nr) :: X) m s' → Q .next s') : wpAny (model PySem.Challenge.rw_br5013_01.row.prog w) (A.deeper (lawEnv L a cd)) (exec (nth tameBody 0) (lawEnv L a cd)) Q (fun _ _ => False) s := by
  rw [← upd_say hm0, ← upd_say hm1] at S
  obtain ⟨⟨fl, F, N, G⟩, ab, hd, ho, nd⟩ := S
  obtain ⟨h, gs, d9, tk, o9⟩ := s
  have X9 := P9.X.keeps (C.base P9.bt)
  revert X9
  k_fill
  intro X9
  have T := P9.T.keeps (C.base P9.bt)
  have hh9 := C.hd
  have bt := P9.bt
  simp only [lawEnv]
  conv in (nth tameBody 0) => whnf
  conv in (occs := *) lawScope => all_goals whnf
  have XK := X9
  clear X9
  dsimp only [upd] at F N ab hd ho
  k_steps
  refine (show wpAny _ _ _ _ _ _ from ?_)
  have S9 := LS.of (s := ⟨_, gs, d9, 0, o9⟩) (by assumption) (by assumption) (.cons _ (.cons _ (.cons _ (.cons _ (Spl.app X))))) G ab hd ho nd
  refine' k_find P9 ?hC_21 ?hg_21 _ v bs soft ?hD_21 sg _ _ h0 h1 ?hk_21
  case hC_21 => exact LS.cx (LS.tk S9) C bt (by rfl) (by rfl) (by rfl)
  case hg_21 => exact ab
  case hD_21 => exact S9.dataH (D.mono fun q hq => (.tail _ (.tail _ (.tail _ (.tail _ hq)))))
  refine LS.ret (LS.tk S9) C bt (by rfl) (fun r s9 S8 af9 hr => ?_)
  clear S9 af9
  repeat (rename News _ _ _ _ => Nz; clear Nz)
  repeat (rename Fr _ _ _ _ => Fz; clear Fz)
  clear G ab hd ho nd
  obtain ⟨⟨fl, F, N, G⟩, ab, hd, ho, nd⟩ := S8
  obtain ⟨h, gs, d9, tk, o9⟩ := s9
  dsimp only [upd] at F N ab hd ho hr
  obtain ⟨t, rfl⟩ := hr
  k_steps
  refine (show wpAny _ _ _ _ _ _ from ?_)
  have S9 := LS.of (s := ⟨_, gs, d9, 0, o9⟩) (by assumption) (by assumption) (.cons _ (.cons _ (.cons _ (.cons _ (Spl.app X))))) G ab hd ho nd
  refine' c_first P9 ?hC_25 ?hg_25 lr rv rs sg _ ?hR_25 hi (by omega) ?hk_25
  case hC_25 => exact LS.cx (LS.tk S9) C bt (by rfl) (by rfl) (by rfl)
  case hg_25 => exact ab
  case hR_25 => exact S9.listH (.tail _ (.tail _ (.tail _ (.head _))))
  refine LS.ret (LS.tk S9) C bt (by rfl) (fun r s9 S8 af9 hr => ?_)
  clear S9 af9
  repeat (rename News _ _ _ _ => Nz; clear Nz)
  repeat (rename Fr _ _ _ _ => Fz; clear Fz)
  clear G ab hd ho nd
  obtain ⟨⟨fl, F, N, G⟩, ab, hd, ho, nd⟩ := S8
  obtain ⟨h, gs, d9, tk, o9⟩ := s9
  dsimp only [upd] at F N ab hd ho hr
  obtain ⟨j, tj, rfl, hj⟩ := hr
  k_steps
  · exact absurd (first_fnd hb h0 h1 hj) (by assumption)
  · refine k _  (LS.to (LS.of (by assumption) (by assumption) (.cons _ (.cons _ (.cons _ (.cons _ (Spl.app X))))) G ab hd ho (by exact nd)) (by show (upd (upd m (Str.ofString "sign") _) (Str.ofString "data") _) = m; rw [upd_say hm1, upd_say hm0]))
set_option maxHeartbeats 4000000 in
theorem t_byte (P9 : Pg w p loose mg mb b) (C : Cx (n + 9) b A outer h₀) {ts : Tok} {v : Value} {bs : Array UInt8} {soft : Bool} {sg : Int} (D : DX X v bs soft) (h0 : 0 ≤ sg) (h1 : sg < 256) (S : LS h₀ outer L dr os ((L+3, oK) :: (L+2, oR) :: (L+1, oN) :: (lr, listOf rv.toArray nr) :: X) m s) (hm0 : m (Str.ofString "data") = some (v)) (hm1 : m (Str.ofString "sign") = some (.int sg ts)) (k : ∀ s', LS h₀ outer L dr os ((L+3, oK) :: (L+2, oR) :: (L+1, oN) :: (lr, listOf rv.toArray nr) :: X) m s' → Q .next s') : wpAny (model PySem.Challenge.rw_br5013_01.row.prog w) (A.deeper (lawEnv L a cd)) (exec (nth tameBody 1) (lawEnv L a cd)) Q (fun _ _ => False) s := by
  rw [← upd_say hm0, ← upd_say hm1] at S
  obtain ⟨⟨fl, F, N, G⟩, ab, hd, ho, nd⟩ := S
  obtain ⟨h, gs, d9, tk, o9⟩ := s
  have X9 := P9.X.keeps (C.base P9.bt)
  revert X9
  k_fill
  intro X9
  have T := P9.T.keeps (C.base P9.bt)
  have hh9 := C.hd
  have bt := P9.bt
  simp only [lawEnv]
  conv in (nth tameBody 1) => whnf
  conv in (occs := *) lawScope => all_goals whnf
  have XK := X9
  clear X9
  dsimp only [upd] at F N ab hd ho
  k_steps
  refine (show wpAny _ _ _ _ _ _ from ?_)
  have S9 := LS.of (s := ⟨_, gs, d9, 0, o9⟩) (by assumption) (by assumption) (.cons _ (.cons _ (.cons _ (.cons _ (Spl.app X))))) G ab hd ho nd
  refine' k_byte P9 ?hC_33 ?hg_33 _ v bs soft ?hD_33 sg _ _ h0 h1 ?hk_33
  case hC_33 => exact LS.cx (LS.tk S9) C bt (by rfl) (by rfl) (by rfl)
  case hg_33 => exact ab
  case hD_33 => exact S9.dataH (D.mono fun q hq => (.tail _ (.tail _ (.tail _ (.tail _ hq)))))
  refine LS.ret (LS.tk S9) C bt (by rfl) (fun r s9 S8 af9 hr => ?_)
  clear S9 af9
  repeat (rename News _ _ _ _ => Nz; clear Nz)
  repeat (rename Fr _ _ _ _ => Fz; clear Fz)
  clear G ab hd ho nd
  obtain ⟨⟨fl, F, N, G⟩, ab, hd, ho, nd⟩ := S8
  obtain ⟨h, gs, d9, tk, o9⟩ := s9
  dsimp only [upd] at F N ab hd ho hr
  obtain ⟨t, rfl⟩ := hr
  k_steps
  rename News _ _ _ _ => N2
  refine (show wpAny _ _ _ _ _ _ from ?_)
  refine call_bytes_ints (vs := [_]) (N2.isList (.head _)) (IntsAre.cons sg _ .nil) (fun q hq => ?_) (show 1 ≤ sizeLine by rw [sizeLine_eq]; omega) hh9 (fun h3 t3 k3 kk3 => ?_)
  · have : q = sg := by simpa using hq
    subst this; exact ⟨h0, h1⟩
  rename Fr _ _ _ _ => F2
  have F3 := fr_kp F2 kk3
  have N3 := news_kp N2 kk3
  clear F2 N2
  k_steps
  · exact absurd (by assumption) (byte_arr h0 h1)
  · refine k _  (LS.to (LS.sub (LS.of (by assumption) (by assumption) (.cons _ (.cons _ (.cons _ (.cons _ (.cons _ (Spl.app X)))))) G ab hd ho (by exact (nds_cons (fun _ _ q => nomatch q) (fun _ q => nomatch q) nd))) (fun q hq => (.tail _ hq))) (by show (upd (upd m (Str.ofString "sign") _) (Str.ofString "data") _) = m; rw [upd_say hm1, upd_say hm0]))
set_option maxHeartbeats 4000000 in
theorem t_strip (P9 : Pg w p loose mg mb b) (C : Cx (n + 9) b A outer h₀) {ts : Tok} {v : Value} {bs : Array UInt8} {soft : Bool} {sg : Int} {rs : List Int} (D : DX X v bs soft) (hb : octs bs = rs) (hi : IntsAre rv rs) (hlen : rs.length ≤ 8) (dR : oR.data = .cell (some (.ref lr))) (h0 : 0 ≤ sg) (h1 : sg < 256) (S : LS h₀ outer L dr os ((L+3, oK) :: (L+2, oR) :: (L+1, oN) :: (lr, listOf rv.toArray nr) :: X) m s) (hm0 : m (Str.ofString "data") = some (v)) (hm1 : m (Str.ofString "sign") = some (.int sg ts)) (hm2 : m (Str.ofString "soft") = some (.bool soft)) (k : ∀ s', LS h₀ outer L dr os ((L+3, oK) :: (L+2, oR) :: (L+1, oN) :: (lr, listOf rv.toArray nr) :: X) m s' → Q .next s') : wpAny (model PySem.Challenge.rw_br5013_01.row.prog w) (A.deeper (lawEnv L a cd)) (exec (nth tameBody 2) (lawEnv L a cd)) Q (fun _ _ => False) s := by
  rw [← upd_say hm0, ← upd_say hm1, ← upd_say hm2] at S
  obtain ⟨⟨fl, F, N, G⟩, ab, hd, ho, nd⟩ := S
  obtain ⟨h, gs, d9, tk, o9⟩ := s
  have X9 := P9.X.keeps (C.base P9.bt)
  revert X9
  k_fill
  intro X9
  have T := P9.T.keeps (C.base P9.bt)
  have hh9 := C.hd
  have bt := P9.bt
  simp only [lawEnv]
  conv in (nth tameBody 2) => whnf
  conv in (occs := *) lawScope => all_goals whnf
  have XK := X9
  clear X9
  dsimp only [upd] at F N ab hd ho
  have hz : bs.size ≤ 8 := by rw [← octs_len, hb]; exact hlen
  have hz2 : (stripR bs #[sg.toNat.toUInt8]).size ≤ 63 := Nat.le_trans (stripR_size _ _) (by omega)
  k_steps
  refine (show wpAny _ _ _ _ _ _ from ?_)
  have S9 := LS.of (s := ⟨_, gs, d9, 0, o9⟩) (by assumption) (by assumption) (.cons _ (.cons _ (.cons _ (.cons _ (Spl.app X))))) G ab hd ho nd
  refine' k_strip P9 ?hC_53 ?hg_53 _ v bs soft ?hD_53 sg _ _ (by rw [sizeLine_eq]; omega) h0 h1 ?hk_53
  case hC_53 => exact LS.cx (LS.tk S9) C bt (by rfl) (by rfl) (by rfl)
  case hg_53 => exact ab
  case hD_53 => exact S9.dataH (D.mono fun q hq => (.tail _ (.tail _ (.tail _ (.tail _ hq)))))
  refine LS.ret (LS.tk S9) C bt (by rfl) (fun r s9 S8 af9 hr => ?_)
  clear S9 af9
  repeat (rename News _ _ _ _ => Nz; clear Nz)
  repeat (rename Fr _ _ _ _ => Fz; clear Fz)
  clear G ab hd ho nd
  obtain ⟨⟨fl, F, N, G⟩, ab, hd, ho, nd⟩ := S8
  obtain ⟨h, gs, d9, tk, o9⟩ := s9
  dsimp only [upd] at F N ab hd ho hr
  have D8 := hr
  clear hr
  k_steps
  refine (show wpAny _ _ _ _ _ _ from ?_)
  have S9 := LS.of (s := ⟨_, gs, d9, 0, o9⟩) (by assumption) (by assumption) (.cons _ (.cons _ (.cons _ (.cons _ (Spl.app X))))) G ab hd ho nd
  refine' c_stripped P9 ?hC_59 ?hg_59 lr rv rs sg _ ?hR_59 hi (by omega) ?hk_59
  case hC_59 => exact LS.cx (LS.tk S9) C bt (by rfl) (by rfl) (by rfl)
  case hg_59 => exact ab
  case hR_59 => exact S9.listH (.tail _ (.tail _ (.tail _ (.head _))))
  refine LS.ret (LS.tk S9) C bt (by rfl) (fun r s9 S8 af9 hr => ?_)
  replace D8 := data_af D8 (LS.cx (n := n + 8) (LS.tk (t' := 0) S9) C bt (env := lawEnv L a cd) (by rfl) (by rfl) (by rfl)) af9
  clear S9 af9
  repeat (rename News _ _ _ _ => Nz; clear Nz)
  repeat (rename Fr _ _ _ _ => Fz; clear Fz)
  clear G ab hd ho nd
  obtain ⟨⟨fl, F, N, G⟩, ab, hd, ho, nd⟩ := S8
  obtain ⟨h, gs, d9, tk, o9⟩ := s9
  dsimp only [upd] at F N ab hd ho hr
  obtain ⟨mm, hm, la, va, rfl, hla, hva⟩ := hr
  k_steps
  refine (show wpAny _ _ _ _ _ _ from ?_)
  have S9 := LS.of (s := ⟨_, gs, d9, 0, o9⟩) (by assumption) (by assumption) (.cons _ (.cons _ (.cons _ (.cons _ (Spl.app X))))) G ab hd ho nd
  refine' c_alike P9 ?hC_63 ?hg_63 _ (stripR bs #[sg.toNat.toUInt8]) soft la va _ ?hX1_63 ?hX2_63 hva (by rw [List.length_take]; omega) hz2 ?hk_63
  case hC_63 => exact LS.cx (LS.tk S9) C bt (by rfl) (by rfl) (by rfl)
  case hg_63 => exact ab
  case hX1_63 => exact D8
  case hX2_63 => exact hla
  refine LS.ret (LS.tk S9) C bt (by rfl) (fun r s9 S8 af9 hr => ?_)
  clear S9 af9
  repeat (rename News _ _ _ _ => Nz; clear Nz)
  repeat (rename Fr _ _ _ _ => Fz; clear Fz)
  clear G ab hd ho nd
  obtain ⟨⟨fl, F, N, G⟩, ab, hd, ho, nd⟩ := S8
  obtain ⟨h, gs, d9, tk, o9⟩ := s9
  dsimp only [upd] at F N ab hd ho hr
  rw [decide_eq_true (strip_octs hb h0 h1 hm)] at hr
  subst hr
  k_steps
  refine k _  (LS.to (LS.of (by assumption) (by assumption) (.cons _ (.cons _ (.cons _ (.cons _ (Spl.app X))))) G ab hd ho (by exact nd)) (by show (upd (upd (upd m (Str.ofString "soft") _) (Str.ofString "sign") _) (Str.ofString "data") _) = m; rw [upd_say hm2, upd_say hm1, upd_say hm0]))
set_option maxHeartbeats 4000000 in
theorem t_cut (P9 : Pg w p loose mg mb b) (C : Cx (n + 9) b A outer h₀) {ts : Tok} {v : Value} {bs : Array UInt8} {soft inc : Bool} {sg : Int} {rs : List Int} (D : DX X v bs soft) (hb : octs bs = rs) (hi : IntsAre rv rs) (hlen : rs.length ≤ 8) (dR : oR.data = .cell (some (.ref lr))) (h0 : 0 ≤ sg) (h1 : sg < 256) (S : LS h₀ outer L dr os ((L+3, oK) :: (L+2, oR) :: (L+1, oN) :: (lr, listOf rv.toArray nr) :: X) m s) (hm0 : m (Str.ofString "data") = some (v)) (hm1 : m (Str.ofString "sign") = some (.int sg ts)) (hm2 : m (Str.ofString "soft") = some (.bool soft)) (hm3 : m (Str.ofString "include") = some (.bool inc)) (k : ∀ s', LS h₀ outer L dr os ((L+3, oK) :: (L+2, oR) :: (L+1, oN) :: (lr, listOf rv.toArray nr) :: X) m s' → Q .next s') : wpAny (model PySem.Challenge.rw_br5013_01.row.prog w) (A.deeper (lawEnv L a cd)) (exec (nth tameBody 3) (lawEnv L a cd)) Q (fun _ _ => False) s := by
  rw [← upd_say hm0, ← upd_say hm1, ← upd_say hm2, ← upd_say hm3] at S
  obtain ⟨⟨fl, F, N, G⟩, ab, hd, ho, nd⟩ := S
  obtain ⟨h, gs, d9, tk, o9⟩ := s
  have X9 := P9.X.keeps (C.base P9.bt)
  revert X9
  k_fill
  intro X9
  have T := P9.T.keeps (C.base P9.bt)
  have hh9 := C.hd
  have bt := P9.bt
  simp only [lawEnv]
  conv in (nth tameBody 3) => whnf
  conv in (occs := *) lawScope => all_goals whnf
  have XK := X9
  clear X9
  dsimp only [upd] at F N ab hd ho
  have hz : bs.size ≤ 8 := by rw [← octs_len, hb]; exact hlen
  k_steps
  refine (show wpAny _ _ _ _ _ _ from ?_)
  have S9 := LS.of (s := ⟨_, gs, d9, 0, o9⟩) (by assumption) (by assumption) (.cons _ (.cons _ (.cons _ (.cons _ (Spl.app X))))) G ab hd ho nd
  refine' k_term P9 ?hC_72 ?hg_72 _ v bs soft ?hD_72 sg _ inc h0 h1 (by omega) ?hk_72
  case hC_72 => exact LS.cx (LS.tk S9) C bt (by rfl) (by rfl) (by rfl)
  case hg_72 => exact ab
  case hD_72 => exact S9.dataH (D.mono fun q hq => (.tail _ (.tail _ (.tail _ (.tail _ hq)))))
  refine LS.ret (LS.tk S9) C bt (by rfl) (fun r s9 S8 af9 hr => ?_)
  clear S9 af9
  repeat (rename News _ _ _ _ => Nz; clear Nz)
  repeat (rename Fr _ _ _ _ => Fz; clear Fz)
  clear G ab hd ho nd
  obtain ⟨⟨fl, F, N, G⟩, ab, hd, ho, nd⟩ := S8
  obtain ⟨h, gs, d9, tk, o9⟩ := s9
  dsimp only [upd] at F N ab hd ho hr
  have D8 := hr.1
  clear hr
  k_steps
  refine (show wpAny _ _ _ _ _ _ from ?_)
  have S9 := LS.of (s := ⟨_, gs, d9, 0, o9⟩) (by assumption) (by assumption) (.cons _ (.cons _ (.cons _ (.cons _ (Spl.app X))))) G ab hd ho nd
  refine' c_cut P9 ?hC_78 ?hg_78 lr rv rs sg _ inc ?hR_78 hi (by omega) ?hk_78
  case hC_78 => exact LS.cx (LS.tk S9) C bt (by rfl) (by rfl) (by rfl)
  case hg_78 => exact ab
  case hR_78 => exact S9.listH (.tail _ (.tail _ (.tail _ (.head _))))
  refine LS.ret (LS.tk S9) C bt (by rfl) (fun r s9 S8 af9 hr => ?_)
  replace D8 := data_af D8 (LS.cx (n := n + 8) (LS.tk (t' := 0) S9) C bt (env := lawEnv L a cd) (by rfl) (by rfl) (by rfl)) af9
  clear S9 af9
  repeat (rename News _ _ _ _ => Nz; clear Nz)
  repeat (rename Fr _ _ _ _ => Fz; clear Fz)
  clear G ab hd ho nd
  obtain ⟨⟨fl, F, N, G⟩, ab, hd, ho, nd⟩ := S8
  obtain ⟨h, gs, d9, tk, o9⟩ := s9
  dsimp only [upd] at F N ab hd ho hr
  obtain ⟨mm, hm, la, va, rfl, hla, hva⟩ := hr
  k_steps
  refine (show wpAny _ _ _ _ _ _ from ?_)
  have S9 := LS.of (s := ⟨_, gs, d9, 0, o9⟩) (by assumption) (by assumption) (.cons _ (.cons _ (.cons _ (.cons _ (Spl.app X))))) G ab hd ho nd
  refine' c_alike P9 ?hC_82 ?hg_82 _ (KBy.picked bs none (cutHi (fnd bs #[sg.toNat.toUInt8] 0) (if inc then 1 else 0))) soft la va _ ?hX1_82 ?hX2_82 hva (Nat.le_trans (cutL_len _ _ _) (by omega)) (Nat.le_trans (KBc.size_picked_le _ _ _) (by omega)) ?hk_82
  case hC_82 => exact LS.cx (LS.tk S9) C bt (by rfl) (by rfl) (by rfl)
  case hg_82 => exact ab
  case hX1_82 => exact D8
  case hX2_82 => exact hla
  refine LS.ret (LS.tk S9) C bt (by rfl) (fun r s9 S8 af9 hr => ?_)
  clear S9 af9
  repeat (rename News _ _ _ _ => Nz; clear Nz)
  repeat (rename Fr _ _ _ _ => Fz; clear Fz)
  clear G ab hd ho nd
  obtain ⟨⟨fl, F, N, G⟩, ab, hd, ho, nd⟩ := S8
  obtain ⟨h, gs, d9, tk, o9⟩ := s9
  dsimp only [upd] at F N ab hd ho hr
  rw [decide_eq_true (cut_octs hb h0 h1 hm)] at hr
  subst hr
  k_steps
  refine k _  (LS.to (LS.of (by assumption) (by assumption) (.cons _ (.cons _ (.cons _ (.cons _ (Spl.app X))))) G ab hd ho (by exact nd)) (by show (upd (upd (upd (upd m (Str.ofString "include") _) (Str.ofString "soft") _) (Str.ofString "sign") _) (Str.ofString "data") _) = m; rw [upd_say hm3, upd_say hm2, upd_say hm1, upd_say hm0]))
end Br
end
-- BrS4
section
open PySem PySem.W PySem.Calls PyProof.Rows
set_option Elab.async false
set_option maxRecDepth 100000
set_option linter.unusedVariables false
set_option pp.deepTerms false
set_option pp.deepTerms.threshold 6
namespace Br
local macro_rules | `(tactic| walk_at "call ref") => `(tactic| (refine hold ?_))
local macro_rules | `(tactic| walk_at "subscriptTail") => `(tactic| ((with_reducible show wpAny _ _ (subscriptTail _ _ (Value.ref 519) (Value.int (Int.fmod _ 7) _)) _ _ _); refine item_signs (by assumption) (by assumption) (Int.fmod_nonneg_of_pos _ (by decide)) (Int.fmod_lt_of_pos _ (by decide)) (fun tz => ?_)))
local macro_rules | `(tactic| walk_at "call type:bytes") => `(tactic| (refine hold ?_))
variable {w : World} {n : Nat} {b h₀ : Heap} {A : Around} {outer : List Env} {s : Shared} {Q : Flow → Shared → Prop} {p : Program} {loose : List Str} {mg mb : Str → Option Value} {L a : Addr} {cd : Value} {dr : Drawn} {os : OsState} {X : List (Addr × Obj)} {m : Str → Option Value} {oK oR oN : Obj} {lr : Addr} {rv : List Value} {nr : Nat}
set_option maxHeartbeats 4000000 in
theorem t_end (P9 : Pg w p loose mg mb b) (C : Cx (n + 9) b A outer h₀) {ts : Tok} {sg num : Int} {u : Tok} (dN : oN.data = .cell (some (.int num u))) (S : LS h₀ outer L dr os ((L+3, oK) :: (L+2, oR) :: (L+1, oN) :: (lr, listOf rv.toArray nr) :: X) m s) (hm0 : m (Str.ofString "sign") = some (.int sg ts)) (k : ∀ s' le ve s2, IntsAre ve [sg, s2] → s2 = sgn (num / 3 % 7) → LS h₀ outer L dr os ((le, listOf ve.toArray 0) :: (L+3, oK) :: (L+2, oR) :: (L+1, oN) :: (lr, listOf rv.toArray nr) :: X) (upd m (Str.ofString "end") (.ref le)) s' → Q .next s') : wpAny (model PySem.Challenge.rw_br5013_01.row.prog w) (A.deeper (lawEnv L a cd)) (exec (nth tameBody 4) (lawEnv L a cd)) Q (fun _ _ => False) s := by
  rw [← upd_say hm0] at S
  obtain ⟨⟨fl, F, N, G⟩, ab, hd, ho, nd⟩ := S
  obtain ⟨h, gs, d9, tk, o9⟩ := s
  have X9 := P9.X.keeps (C.base P9.bt)
  revert X9
  k_fill
  intro X9
  have T := P9.T.keeps (C.base P9.bt)
  have hh9 := C.hd
  have bt := P9.bt
  simp only [lawEnv]
  conv in (nth tameBody 4) => whnf
  conv in (occs := *) lawScope => all_goals whnf
  have XK := X9
  clear X9
  dsimp only [upd] at F N ab hd ho
  k_steps
  refine k _ _ [_, _] _ (IntsAre.cons sg _ (IntsAre.cons _ _ .nil)) ?_ (LS.to (LS.of (by assumption) (by assumption) (.cons _ (.cons _ (.cons _ (.cons _ (.cons _ (Spl.app X)))))) G ab hd ho (by exact (nds_cons (fun _ _ q => nomatch q) (fun _ q => nomatch q) nd))) (by show upd (upd m (Str.ofString "sign") _) (Str.ofString "end") _ = _; rw [upd_say hm0]))
  rw [Int.fmod_eq_emod_of_nonneg _ (by decide), Int.fdiv_eq_ediv_of_nonneg _ (by decide)]
set_option maxHeartbeats 4000000 in
theorem t_multi (P9 : Pg w p loose mg mb b) (C : Cx (n + 9) b A outer h₀) {v : Value} {bs : Array UInt8} {soft inc : Bool} {sg s2 : Int} {rs : List Int} {le : Addr} {ve : List Value} (D : DX X v bs soft) (hb : octs bs = rs) (hi : IntsAre rv rs) (hlen : rs.length ≤ 8) (dR : oR.data = .cell (some (.ref lr))) (h1 : 0 ≤ sg ∧ sg < 256) (h2 : 0 ≤ s2 ∧ s2 < 256) (hle : (le, listOf ve.toArray 0) ∈ X) (hve : IntsAre ve [sg, s2]) (S : LS h₀ outer L dr os ((L+3, oK) :: (L+2, oR) :: (L+1, oN) :: (lr, listOf rv.toArray nr) :: X) m s) (hm0 : m (Str.ofString "data") = some (v)) (hm1 : m (Str.ofString "soft") = some (.bool soft)) (hm2 : m (Str.ofString "include") = some (.bool inc)) (hm3 : m (Str.ofString "end") = some (.ref le)) (k : ∀ s', LS h₀ outer L dr os ((L+3, oK) :: (L+2, oR) :: (L+1, oN) :: (lr, listOf rv.toArray nr) :: X) m s' → Q .next s') : wpAny (model PySem.Challenge.rw_br5013_01.row.prog w) (A.deeper (lawEnv L a cd)) (exec (nth tameBody 5) (lawEnv L a cd)) Q (fun _ _ => False) s := by
  rw [← upd_say hm0, ← upd_say hm1, ← upd_say hm2, ← upd_say hm3] at S
  obtain ⟨⟨fl, F, N, G⟩, ab, hd, ho, nd⟩ := S
  obtain ⟨h, gs, d9, tk, o9⟩ := s
  have X9 := P9.X.keeps (C.base P9.bt)
  revert X9
  k_fill
  intro X9
  have T := P9.T.keeps (C.base P9.bt)
  have hh9 := C.hd
  have bt := P9.bt
  simp only [lawEnv]
  conv in (nth tameBody 5) => whnf
  conv in (occs := *) lawScope => all_goals whnf
  have XK := X9
  clear X9
  dsimp only [upd] at F N ab hd ho
  have hz : bs.size ≤ 8 := by rw [← octs_len, hb]; exact hlen
  k_steps
  rename News _ _ _ _ => N2
  rename Fr _ _ _ _ => F2
  refine (show wpAny _ _ _ _ _ _ from ?_)
  have hlv : Heap.IsList _ le ve.toArray := ⟨_, (N2 _ (.tail _ (.tail _ (.tail _ (.tail _ (List.mem_append_left _ hle)))))).1, rfl, 0, rfl⟩
  refine call_bytes_ints hlv hve (fun q hq => ?_) (by have := hve.length; rw [sizeLine_eq]; simp at this; omega) hh9 (fun h3 t3 k3 kk3 => ?_)
  · simp only [List.mem_cons, List.not_mem_nil, or_false] at hq
    rcases hq with rfl | rfl
    · exact h1
    · exact h2
  have F3 := fr_kp F2 kk3
  have N3 := news_kp N2 kk3
  clear F2 N2 hlv
  k_steps
  refine (show wpAny _ _ _ _ _ _ from ?_)
  have S9 := LS.of (s := ⟨_, gs, d9, 0, o9⟩) (by assumption) (by assumption) (.cons _ (.cons _ (.cons _ (.cons _ (Spl.app X))))) G ab hd ho nd
  refine' k_multi P9 ?hC_37 ?hg_37 _ v bs soft ?hD_37 sg.toNat.toUInt8 s2.toNat.toUInt8 _ inc (by omega) ?hk_37
  case hC_37 => exact LS.cx (LS.tk S9) C bt (by rfl) (by rfl) (by rfl)
  case hg_37 => exact ab
  case hD_37 => exact S9.dataH (D.mono fun q hq => (.tail _ (.tail _ (.tail _ (.tail _ hq)))))
  refine LS.ret (LS.tk S9) C bt (by rfl) (fun r s9 S8 af9 hr => ?_)
  clear S9 af9
  repeat (rename News _ _ _ _ => Nz; clear Nz)
  repeat (rename Fr _ _ _ _ => Fz; clear Fz)
  clear G ab hd ho nd
  obtain ⟨⟨fl, F, N, G⟩, ab, hd, ho, nd⟩ := S8
  obtain ⟨h, gs, d9, tk, o9⟩ := s9
  dsimp only [upd] at F N ab hd ho hr
  obtain ⟨j', D8, hj'⟩ := hr
  k_steps
  refine (show wpAny _ _ _ _ _ _ from ?_)
  have S9 := LS.of (s := ⟨_, gs, d9, 0, o9⟩) (by assumption) (by assumption) (.cons _ (.cons _ (.cons _ (.cons _ (Spl.app X))))) G ab hd ho nd
  refine' c_cut2 P9 ?hC_42 ?hg_42 lr le rv ve rs [sg, s2] inc ?hR_42 hi ?hX1_42 hve (by omega) (show 2 ≤ 63 by decide) ?hk_42
  case hC_42 => exact LS.cx (LS.tk S9) C bt (by rfl) (by rfl) (by rfl)
  case hg_42 => exact ab
  case hR_42 => exact S9.listH (.tail _ (.tail _ (.tail _ (.head _))))
  case hX1_42 => exact S9.listH (.tail _ (.tail _ (.tail _ (.tail _ hle))))
  refine LS.ret (LS.tk S9) C bt (by rfl) (fun r s9 S8 af9 hr => ?_)
  replace D8 := data_af D8 (LS.cx (n := n + 8) (LS.tk (t' := 0) S9) C bt (env := lawEnv L a cd) (by rfl) (by rfl) (by rfl)) af9
  clear S9 af9
  repeat (rename News _ _ _ _ => Nz; clear Nz)
  repeat (rename Fr _ _ _ _ => Fz; clear Fz)
  clear G ab hd ho nd
  obtain ⟨⟨fl, F, N, G⟩, ab, hd, ho, nd⟩ := S8
  obtain ⟨h, gs, d9, tk, o9⟩ := s9
  dsimp only [upd] at F N ab hd ho hr
  obtain ⟨mm, hm, la, va, rfl, hla, hva⟩ := hr
  k_steps
  refine (show wpAny _ _ _ _ _ _ from ?_)
  have S9 := LS.of (s := ⟨_, gs, d9, 0, o9⟩) (by assumption) (by assumption) (.cons _ (.cons _ (.cons _ (.cons _ (Spl.app X))))) G ab hd ho nd
  refine' c_alike P9 ?hC_46 ?hg_46 _ (KBy.picked bs none (cutHi j' (if inc then 2 else 0))) soft la va _ ?hX1_46 ?hX2_46 hva (Nat.le_trans (cutL_len _ _ _) (by omega)) (Nat.le_trans (KBc.size_picked_le _ _ _) (by omega)) ?hk_46
  case hC_46 => exact LS.cx (LS.tk S9) C bt (by rfl) (by rfl) (by rfl)
  case hg_46 => exact ab
  case hX1_46 => exact D8
  case hX2_46 => exact hla
  refine LS.ret (LS.tk S9) C bt (by rfl) (fun r s9 S8 af9 hr => ?_)
  clear S9 af9
  repeat (rename News _ _ _ _ => Nz; clear Nz)
  repeat (rename Fr _ _ _ _ => Fz; clear Fz)
  clear G ab hd ho nd
  obtain ⟨⟨fl, F, N, G⟩, ab, hd, ho, nd⟩ := S8
  obtain ⟨h, gs, d9, tk, o9⟩ := s9
  dsimp only [upd] at F N ab hd ho hr
  rw [decide_eq_true (pair_octs hb h1 h2 hm hj')] at hr
  subst hr
  k_steps
  refine k _  (LS.to (LS.of (by assumption) (by assumption) (.cons _ (.cons _ (.cons _ (.cons _ (Spl.app X))))) G ab hd ho (by exact nd)) (by show (upd (upd (upd (upd m (Str.ofString "end") _) (Str.ofString "include") _) (Str.ofString "soft") _) (Str.ofString "data") _) = m; rw [upd_say hm3, upd_say hm2, upd_say hm1, upd_say hm0]))
end Br
end
-- BrKb
section
open PySem PySem.W PySem.Calls PyProof.Rows
set_option Elab.async false
set_option maxRecDepth 100000
set_option linter.unusedVariables false
set_option linter.unusedSimpArgs false
set_option pp.deepTerms false
set_option pp.deepTerms.threshold 6
namespace Br
local macro_rules | `(tactic| walk_at "exec Try") => `(tactic| (refine hold ?_))
local macro_rules | `(tactic| walk_at "exec Try If") => `(tactic| (refine hold ?_))
variable {w : World} {n : Nat} {b : Heap} {A : Around} {outer : List Env} {s : Shared} {Q E : Value → Shared → Prop} {p : Program} {loose : List Str} {mg mb : Str → Option Value}
set_option maxHeartbeats 4000000 in
theorem kb_index (P9 : Pg w p loose mg mb b) (C : Cx (n+3) b A outer s.heap) (g : AllBare s.gens) (u0 : Tok) (v : Value) (bs : Array UInt8) (soft : Bool) (D : DataAt s.heap v bs soft) (i : Int) (u : Tok) (yv : Value) (hr : Builtin.Bytes.fitsIndex i = true) (hx : (seqIndex? i bs.size).bind (bs[·]?) = none) (k : Ret outer s (fun r _ => ∃ t, r = Value.str (Str.ofString "no such place") t) Q) : wpAny (model PySem.Challenge.rw_br5013_01.row.prog w) A (PySem.call (.ref 526) [Value.int 0 u0, v, Value.int i u, yv]) Q E s := by
  have X := P9.X
  have T := P9.T
  have bt := P9.bt
  revert X
  k_fill
  intro X
  refine' enter_any (f := 526) C X T.nolimit (ho := ?h1) (hcd := ?h2) (hbind := ?h3) (hloc := ?h4) (hcell := ?h5) (hco := ?h6) (hgen := ?h7) (hk := ?h8) (h := ?h9)
  case h1 => k_is
  case h2 => k_is
  case h3 => exact .of_eq rfl
  case h4 => exact locs rfl
  case h5 => decide
  case h6 => rfl
  case h7 => rfl
  case h8 => rfl
  intro L h₁ fl F N G hs
  have hh9 := C.hd
  replace X := X.keeps (C.base bt)
  replace T := T.keeps (C.base bt)
  replace F : Fr (under s.heap outer) L h₁ (fun y => List.lookup y [(Str.ofString "y", yv), (Str.ofString "x", Value.int i u), (Str.ofString "data", v), (Str.ofString "kind", Value.int 0 u0)]) := F
  replace D := under_kp C D
  k_steps
  refine (show wpAny _ _ _ _ _ _ from ?_)
  refine wpAny_Try_except ?_
  k_steps
  refine' c_index_out P9 ?hC8 ?hg8 _ _ _ _ _ (D.keeps F.keep) hr hx ?hk8
  case hC8 => exact Cx.push C bt (C.base bt) F N .nil G rfl rfl rfl
  case hg8 => exact g
  intro e vs h' g' tk' x8 g2
  refine land (Around.frames_deeper C.fr) rfl x8 (fun h5 x5 => ?_)
  obtain ⟨fl5, F5, N5, G5⟩ := behind C bt F N .nil G nds_nil rfl x5.af
  refine clause_hit (T := "IndexError") x5 F5 X T (by kernel_rfl) (by kernel_rfl) (by decide) (by rw [isSubtype_type]; kernel_rfl) (by rw [isSubtype_type]; kernel_rfl) (by rw [isSubtype_type]; kernel_rfl) (fun E6 h6 x6 => ?_)
  obtain ⟨fl6, F6, N6, G6⟩ := behind C bt F N .nil G nds_nil rfl x6.af
  clear F N F5 N5
  k_steps
  exact k _ _ _ _ (ends_af F6 N6 .nil G6 C.tb) g2 ⟨_, rfl⟩
set_option maxHeartbeats 4000000 in
theorem kb_min (P9 : Pg w p loose mg mb b) (C : Cx (n+3) b A outer s.heap) (g : AllBare s.gens) (u0 : Tok) (v : Value) (bs : Array UInt8) (soft : Bool) (D : DataAt s.heap v bs soft) (xv yv : Value) (hn : bs.size = 0) (k : Ret outer s (fun r _ => ∃ t, r = Value.str (Str.ofString "no such octet") t) Q) : wpAny (model PySem.Challenge.rw_br5013_01.row.prog w) A (PySem.call (.ref 526) [Value.int 1 u0, v, xv, yv]) Q E s := by
  have X := P9.X
  have T := P9.T
  have bt := P9.bt
  revert X
  k_fill
  intro X
  refine' enter_any (f := 526) C X T.nolimit (ho := ?h1) (hcd := ?h2) (hbind := ?h3) (hloc := ?h4) (hcell := ?h5) (hco := ?h6) (hgen := ?h7) (hk := ?h8) (h := ?h9)
  case h1 => k_is
  case h2 => k_is
  case h3 => exact .of_eq rfl
  case h4 => exact locs rfl
  case h5 => decide
  case h6 => rfl
  case h7 => rfl
  case h8 => rfl
  intro L h₁ fl F N G hs
  have hh9 := C.hd
  replace X := X.keeps (C.base bt)
  replace T := T.keeps (C.base bt)
  replace F : Fr (under s.heap outer) L h₁ (fun y => List.lookup y [(Str.ofString "y", yv), (Str.ofString "x", xv), (Str.ofString "data", v), (Str.ofString "kind", Value.int 1 u0)]) := F
  replace D := under_kp C D
  k_steps
  refine (show wpAny _ _ _ _ _ _ from ?_)
  refine wpAny_Try_except ?_
  k_steps
  refine' c_min_empty P9 ?hC8 ?hg8 _ _ _ (D.keeps F.keep) hn ?hk8
  case hC8 => exact Cx.push C bt (C.base bt) F N .nil G rfl rfl rfl
  case hg8 => exact g
  intro e vs h' g' tk' x8 g2
  refine land (Around.frames_deeper C.fr) rfl x8 (fun h5 x5 => ?_)
  obtain ⟨fl5, F5, N5, G5⟩ := behind C bt F N .nil G nds_nil rfl x5.af
  refine clause_miss (T := "IndexError") x5 F5 X T (by kernel_rfl) (by kernel_rfl) (by decide) (by rw [isSubtype_type]; kernel_rfl) (by rw [isSubtype_type]; kernel_rfl) (by rw [isSubtype_type]; kernel_rfl) ?_
  refine clause_hit (T := "ValueError") x5 F5 X T (by kernel_rfl) (by kernel_rfl) (by decide) (by rw [isSubtype_type]; kernel_rfl) (by rw [isSubtype_type]; kernel_rfl) (by rw [isSubtype_type]; kernel_rfl) (fun E6 h6 x6 => ?_)
  obtain ⟨fl6, F6, N6, G6⟩ := behind C bt F N .nil G nds_nil rfl x6.af
  clear F N F5 N5
  k_steps
  exact k _ _ _ _ (ends_af F6 N6 .nil G6 C.tb) g2 ⟨_, rfl⟩
set_option maxHeartbeats 4000000 in
theorem kb_max (P9 : Pg w p loose mg mb b) (C : Cx (n+3) b A outer s.heap) (g : AllBare s.gens) (u0 : Tok) (v : Value) (bs : Array UInt8) (soft : Bool) (D : DataAt s.heap v bs soft) (xv yv : Value) (hn : bs.size = 0) (k : Ret outer s (fun r _ => ∃ t, r = Value.str (Str.ofString "no such octet") t) Q) : wpAny (model PySem.Challenge.rw_br5013_01.row.prog w) A (PySem.call (.ref 526) [Value.int 2 u0, v, xv, yv]) Q E s := by
  have X := P9.X
  have T := P9.T
  have bt := P9.bt
  revert X
  k_fill
  intro X
  refine' enter_any (f := 526) C X T.nolimit (ho := ?h1) (hcd := ?h2) (hbind := ?h3) (hloc := ?h4) (hcell := ?h5) (hco := ?h6) (hgen := ?h7) (hk := ?h8) (h := ?h9)
  case h1 => k_is
  case h2 => k_is
  case h3 => exact .of_eq rfl
  case h4 => exact locs rfl
  case h5 => decide
  case h6 => rfl
  case h7 => rfl
  case h8 => rfl
  intro L h₁ fl F N G hs
  have hh9 := C.hd
  replace X := X.keeps (C.base bt)
  replace T := T.keeps (C.base bt)
  replace F : Fr (under s.heap outer) L h₁ (fun y => List.lookup y [(Str.ofString "y", yv), (Str.ofString "x", xv), (Str.ofString "data", v), (Str.ofString "kind", Value.int 2 u0)]) := F
  replace D := under_kp C D
  k_steps
  refine (show wpAny _ _ _ _ _ _ from ?_)
  refine wpAny_Try_except ?_
  k_steps
  refine' c_max_empty P9 ?hC8 ?hg8 _ _ _ (D.keeps F.keep) hn ?hk8
  case hC8 => exact Cx.push C bt (C.base bt) F N .nil G rfl rfl rfl
  case hg8 => exact g
  intro e vs h' g' tk' x8 g2
  refine land (Around.frames_deeper C.fr) rfl x8 (fun h5 x5 => ?_)
  obtain ⟨fl5, F5, N5, G5⟩ := behind C bt F N .nil G nds_nil rfl x5.af
  refine clause_miss (T := "IndexError") x5 F5 X T (by kernel_rfl) (by kernel_rfl) (by decide) (by rw [isSubtype_type]; kernel_rfl) (by rw [isSubtype_type]; kernel_rfl) (by rw [isSubtype_type]; kernel_rfl) ?_
  refine clause_hit (T := "ValueError") x5 F5 X T (by kernel_rfl) (by kernel_rfl) (by decide) (by rw [isSubtype_type]; kernel_rfl) (by rw [isSubtype_type]; kernel_rfl) (by rw [isSubtype_type]; kernel_rfl) (fun E6 h6 x6 => ?_)
  obtain ⟨fl6, F6, N6, G6⟩ := behind C bt F N .nil G nds_nil rfl x6.af
  clear F N F5 N5
  k_steps
  exact k _ _ _ _ (ends_af F6 N6 .nil G6 C.tb) g2 ⟨_, rfl⟩
set_option maxHeartbeats 4000000 in
theorem kb_find (P9 : Pg w p loose mg mb b) (C : Cx (n+3) b A outer s.heap) (g : AllBare s.gens) (u0 : Tok) (v : Value) (bs : Array UInt8) (soft : Bool) (D : DataAt s.heap v bs soft) (i : Int) (u : Tok) (yv : Value) (hb : i < 0 ∨ 256 ≤ i) (k : Ret outer s (fun r _ => ∃ t, r = Value.str (Str.ofString "no such octet") t) Q) : wpAny (model PySem.Challenge.rw_br5013_01.row.prog w) A (PySem.call (.ref 526) [Value.int 3 u0, v, Value.int i u, yv]) Q E s := by
  have X := P9.X
  have T := P9.T
  have bt := P9.bt
  revert X
  k_fill
  intro X
  refine' enter_any (f := 526) C X T.nolimit (ho := ?h1) (hcd := ?h2) (hbind := ?h3) (hloc := ?h4) (hcell := ?h5) (hco := ?h6) (hgen := ?h7) (hk := ?h8) (h := ?h9)
  case h1 => k_is
  case h2 => k_is
  case h3 => exact .of_eq rfl
  case h4 => exact locs rfl
  case h5 => decide
  case h6 => rfl
  case h7 => rfl
  case h8 => rfl
  intro L h₁ fl F N G hs
  have hh9 := C.hd
  replace X := X.keeps (C.base bt)
  replace T := T.keeps (C.base bt)
  replace F : Fr (under s.heap outer) L h₁ (fun y => List.lookup y [(Str.ofString "y", yv), (Str.ofString "x", Value.int i u), (Str.ofString "data", v), (Str.ofString "kind", Value.int 3 u0)]) := F
  replace D := under_kp C D
  k_steps
  refine (show wpAny _ _ _ _ _ _ from ?_)
  refine wpAny_Try_except ?_
  k_steps
  refine' c_find_bad P9 ?hC8 ?hg8 _ _ _ _ _ (D.keeps F.keep) hb ?hk8
  case hC8 => exact Cx.push C bt (C.base bt) F N .nil G rfl rfl rfl
  case hg8 => exact g
  intro e vs h' g' tk' x8 g2
  refine land (Around.frames_deeper C.fr) rfl x8 (fun h5 x5 => ?_)
  obtain ⟨fl5, F5, N5, G5⟩ := behind C bt F N .nil G nds_nil rfl x5.af
  refine clause_miss (T := "IndexError") x5 F5 X T (by kernel_rfl) (by kernel_rfl) (by decide) (by rw [isSubtype_type]; kernel_rfl) (by rw [isSubtype_type]; kernel_rfl) (by rw [isSubtype_type]; kernel_rfl) ?_
  refine clause_hit (T := "ValueError") x5 F5 X T (by kernel_rfl) (by kernel_rfl) (by decide) (by rw [isSubtype_type]; kernel_rfl) (by rw [isSubtype_type]; kernel_rfl) (by rw [isSubtype_type]; kernel_rfl) (fun E6 h6 x6 => ?_)
  obtain ⟨fl6, F6, N6, G6⟩ := behind C bt F N .nil G nds_nil rfl x6.af
  clear F N F5 N5
  k_steps
  exact k _ _ _ _ (ends_af F6 N6 .nil G6 C.tb) g2 ⟨_, rfl⟩
set_option maxHeartbeats 4000000 in
theorem kb_byte (P9 : Pg w p loose mg mb b) (C : Cx (n+3) b A outer s.heap) (g : AllBare s.gens) (u0 : Tok) (v : Value) (bs : Array UInt8) (soft : Bool) (D : DataAt s.heap v bs soft) (i : Int) (u : Tok) (yv : Value) (hb : i < 0 ∨ 256 ≤ i) (k : Ret outer s (fun r _ => ∃ t, r = Value.str (Str.ofString "no such octet") t) Q) : wpAny (model PySem.Challenge.rw_br5013_01.row.prog w) A (PySem.call (.ref 526) [Value.int 4 u0, v, Value.int i u, yv]) Q E s := by
  have X := P9.X
  have T := P9.T
  have bt := P9.bt
  revert X
  k_fill
  intro X
  refine' enter_any (f := 526) C X T.nolimit (ho := ?h1) (hcd := ?h2) (hbind := ?h3) (hloc := ?h4) (hcell := ?h5) (hco := ?h6) (hgen := ?h7) (hk := ?h8) (h := ?h9)
  case h1 => k_is
  case h2 => k_is
  case h3 => exact .of_eq rfl
  case h4 => exact locs rfl
  case h5 => decide
  case h6 => rfl
  case h7 => rfl
  case h8 => rfl
  intro L h₁ fl F N G hs
  have hh9 := C.hd
  replace X := X.keeps (C.base bt)
  replace T := T.keeps (C.base bt)
  replace F : Fr (under s.heap outer) L h₁ (fun y => List.lookup y [(Str.ofString "y", yv), (Str.ofString "x", Value.int i u), (Str.ofString "data", v), (Str.ofString "kind", Value.int 4 u0)]) := F
  replace D := under_kp C D
  k_steps
  refine (show wpAny _ _ _ _ _ _ from ?_)
  refine wpAny_Try_except ?_
  k_steps
  refine' c_byte_bad P9 ?hC8 ?hg8 _ _ hb ?hk8
  case hC8 => exact Cx.push C bt (C.base bt) F N .nil G rfl rfl rfl
  case hg8 => exact g
  intro e vs h' g' tk' x8 g2
  refine land (Around.frames_deeper C.fr) rfl x8 (fun h5 x5 => ?_)
  obtain ⟨fl5, F5, N5, G5⟩ := behind C bt F N .nil G nds_nil rfl x5.af
  refine clause_miss (T := "IndexError") x5 F5 X T (by kernel_rfl) (by kernel_rfl) (by decide) (by rw [isSubtype_type]; kernel_rfl) (by rw [isSubtype_type]; kernel_rfl) (by rw [isSubtype_type]; kernel_rfl) ?_
  refine clause_hit (T := "ValueError") x5 F5 X T (by kernel_rfl) (by kernel_rfl) (by decide) (by rw [isSubtype_type]; kernel_rfl) (by rw [isSubtype_type]; kernel_rfl) (by rw [isSubtype_type]; kernel_rfl) (fun E6 h6 x6 => ?_)
  obtain ⟨fl6, F6, N6, G6⟩ := behind C bt F N .nil G nds_nil rfl x6.af
  clear F N F5 N5
  k_steps
  exact k _ _ _ _ (ends_af F6 N6 .nil G6 C.tb) g2 ⟨_, rfl⟩
set_option maxHeartbeats 4000000 in
theorem kb_xor1 (P9 : Pg w p loose mg mb b) (C : Cx (n+3) b A outer s.heap) (g : AllBare s.gens) (u0 : Tok) (v : Value) (bs : Array UInt8) (soft : Bool) (D : DataAt s.heap v bs soft) (i : Int) (u : Tok) (yv : Value) (hz : bs.size ≤ 16777216) (hn : 0 < bs.size) (hb : Builtin.bitXor ((octs bs).getD 0 0) i < 0 ∨ 256 ≤ Builtin.bitXor ((octs bs).getD 0 0) i) (k : Ret outer s (fun r _ => ∃ t, r = Value.str (Str.ofString "no such octet") t) Q) : wpAny (model PySem.Challenge.rw_br5013_01.row.prog w) A (PySem.call (.ref 526) [Value.int 5 u0, v, Value.int i u, yv]) Q E s := by
  have X := P9.X
  have T := P9.T
  have bt := P9.bt
  revert X
  k_fill
  intro X
  refine' enter_any (f := 526) C X T.nolimit (ho := ?h1) (hcd := ?h2) (hbind := ?h3) (hloc := ?h4) (hcell := ?h5) (hco := ?h6) (hgen := ?h7) (hk := ?h8) (h := ?h9)
  case h1 => k_is
  case h2 => k_is
  case h3 => exact .of_eq rfl
  case h4 => exact locs rfl
  case h5 => decide
  case h6 => rfl
  case h7 => rfl
  case h8 => rfl
  intro L h₁ fl F N G hs
  have hh9 := C.hd
  replace X := X.keeps (C.base bt)
  replace T := T.keeps (C.base bt)
  replace F : Fr (under s.heap outer) L h₁ (fun y => List.lookup y [(Str.ofString "y", yv), (Str.ofString "x", Value.int i u), (Str.ofString "data", v), (Str.ofString "kind", Value.int 5 u0)]) := F
  replace D := under_kp C D
  k_steps
  refine (show wpAny _ _ _ _ _ _ from ?_)
  refine wpAny_Try_except ?_
  k_steps
  refine' c_xor1_bad P9 ?hC8 ?hg8 _ _ _ _ _ (D.keeps F.keep) hz hn hb ?hk8
  case hC8 => exact Cx.push C bt (C.base bt) F N .nil G rfl rfl rfl
  case hg8 => exact g
  intro e vs h' g' tk' x8 g2
  refine land (Around.frames_deeper C.fr) rfl x8 (fun h5 x5 => ?_)
  obtain ⟨fl5, F5, N5, G5⟩ := behind C bt F N .nil G nds_nil rfl x5.af
  refine clause_miss (T := "IndexError") x5 F5 X T (by kernel_rfl) (by kernel_rfl) (by decide) (by rw [isSubtype_type]; kernel_rfl) (by rw [isSubtype_type]; kernel_rfl) (by rw [isSubtype_type]; kernel_rfl) ?_
  refine clause_hit (T := "ValueError") x5 F5 X T (by kernel_rfl) (by kernel_rfl) (by decide) (by rw [isSubtype_type]; kernel_rfl) (by rw [isSubtype_type]; kernel_rfl) (by rw [isSubtype_type]; kernel_rfl) (fun E6 h6 x6 => ?_)
  obtain ⟨fl6, F6, N6, G6⟩ := behind C bt F N .nil G nds_nil rfl x6.af
  clear F N F5 N5
  k_steps
  exact k _ _ _ _ (ends_af F6 N6 .nil G6 C.tb) g2 ⟨_, rfl⟩
set_option maxHeartbeats 4000000 in
theorem kb_strip (P9 : Pg w p loose mg mb b) (C : Cx (n+3) b A outer s.heap) (g : AllBare s.gens) (u0 : Tok) (v : Value) (bs : Array UInt8) (soft : Bool) (D : DataAt s.heap v bs soft) (i : Int) (u : Tok) (yv : Value) (hb : i < 0 ∨ 256 ≤ i) (k : Ret outer s (fun r _ => ∃ t, r = Value.str (Str.ofString "no such octet") t) Q) : wpAny (model PySem.Challenge.rw_br5013_01.row.prog w) A (PySem.call (.ref 526) [Value.int 8 u0, v, Value.int i u, yv]) Q E s := by
  have X := P9.X
  have T := P9.T
  have bt := P9.bt
  revert X
  k_fill
  intro X
  refine' enter_any (f := 526) C X T.nolimit (ho := ?h1) (hcd := ?h2) (hbind := ?h3) (hloc := ?h4) (hcell := ?h5) (hco := ?h6) (hgen := ?h7) (hk := ?h8) (h := ?h9)
  case h1 => k_is
  case h2 => k_is
  case h3 => exact .of_eq rfl
  case h4 => exact locs rfl
  case h5 => decide
  case h6 => rfl
  case h7 => rfl
  case h8 => rfl
  intro L h₁ fl F N G hs
  have hh9 := C.hd
  replace X := X.keeps (C.base bt)
  replace T := T.keeps (C.base bt)
  replace F : Fr (under s.heap outer) L h₁ (fun y => List.lookup y [(Str.ofString "y", yv), (Str.ofString "x", Value.int i u), (Str.ofString "data", v), (Str.ofString "kind", Value.int 8 u0)]) := F
  replace D := under_kp C D
  k_steps
  refine (show wpAny _ _ _ _ _ _ from ?_)
  refine wpAny_Try_except ?_
  k_steps
  refine' c_strip_bad P9 ?hC8 ?hg8 _ _ _ _ _ (D.keeps F.keep) hb ?hk8
  case hC8 => exact Cx.push C bt (C.base bt) F N .nil G rfl rfl rfl
  case hg8 => exact g
  intro e vs h' g' tk' x8 g2
  refine land (Around.frames_deeper C.fr) rfl x8 (fun h5 x5 => ?_)
  obtain ⟨fl5, F5, N5, G5⟩ := behind C bt F N .nil G nds_nil rfl x5.af
  refine clause_miss (T := "IndexError") x5 F5 X T (by kernel_rfl) (by kernel_rfl) (by decide) (by rw [isSubtype_type]; kernel_rfl) (by rw [isSubtype_type]; kernel_rfl) (by rw [isSubtype_type]; kernel_rfl) ?_
  refine clause_hit (T := "ValueError") x5 F5 X T (by kernel_rfl) (by kernel_rfl) (by decide) (by rw [isSubtype_type]; kernel_rfl) (by rw [isSubtype_type]; kernel_rfl) (by rw [isSubtype_type]; kernel_rfl) (fun E6 h6 x6 => ?_)
  obtain ⟨fl6, F6, N6, G6⟩ := behind C bt F N .nil G nds_nil rfl x6.af
  clear F N F5 N5
  k_steps
  exact k _ _ _ _ (ends_af F6 N6 .nil G6 C.tb) g2 ⟨_, rfl⟩
set_option maxHeartbeats 4000000 in
theorem kb_term (P9 : Pg w p loose mg mb b) (C : Cx (n+4) b A outer s.heap) (g : AllBare s.gens) (u0 : Tok) (v : Value) (bs : Array UInt8) (soft : Bool) (D : DataAt s.heap v bs soft) (i : Int) (u : Tok) (inc : Bool) (hb : i < 0 ∨ 256 ≤ i) (k : Ret outer s (fun r _ => ∃ t, r = Value.str (Str.ofString "no such octet") t) Q) : wpAny (model PySem.Challenge.rw_br5013_01.row.prog w) A (PySem.call (.ref 526) [Value.int 9 u0, v, Value.int i u, Value.bool inc]) Q E s := by
  have X := P9.X
  have T := P9.T
  have bt := P9.bt
  revert X
  k_fill
  intro X
  refine' enter_any (f := 526) C X T.nolimit (ho := ?h1) (hcd := ?h2) (hbind := ?h3) (hloc := ?h4) (hcell := ?h5) (hco := ?h6) (hgen := ?h7) (hk := ?h8) (h := ?h9)
  case h1 => k_is
  case h2 => k_is
  case h3 => exact .of_eq rfl
  case h4 => exact locs rfl
  case h5 => decide
  case h6 => rfl
  case h7 => rfl
  case h8 => rfl
  intro L h₁ fl F N G hs
  have hh9 := C.hd
  replace X := X.keeps (C.base bt)
  replace T := T.keeps (C.base bt)
  replace F : Fr (under s.heap outer) L h₁ (fun y => List.lookup y [(Str.ofString "y", Value.bool inc), (Str.ofString "x", Value.int i u), (Str.ofString "data", v), (Str.ofString "kind", Value.int 9 u0)]) := F
  replace D := under_kp C D
  k_steps
  refine (show wpAny _ _ _ _ _ _ from ?_)
  refine wpAny_Try_except ?_
  k_steps
  refine' c_term_bad P9 ?hC8 ?hg8 _ _ _ _ _ _ (D.keeps F.keep) hb ?hk8
  case hC8 => exact Cx.push C bt (C.base bt) F N .nil G rfl rfl rfl
  case hg8 => exact g
  intro e vs h' g' tk' x8 g2
  refine land (Around.frames_deeper C.fr) rfl x8 (fun h5 x5 => ?_)
  obtain ⟨fl5, F5, N5, G5⟩ := behind C bt F N .nil G nds_nil rfl x5.af
  refine clause_miss (T := "IndexError") x5 F5 X T (by kernel_rfl) (by kernel_rfl) (by decide) (by rw [isSubtype_type]; kernel_rfl) (by rw [isSubtype_type]; kernel_rfl) (by rw [isSubtype_type]; kernel_rfl) ?_
  refine clause_hit (T := "ValueError") x5 F5 X T (by kernel_rfl) (by kernel_rfl) (by decide) (by rw [isSubtype_type]; kernel_rfl) (by rw [isSubtype_type]; kernel_rfl) (by rw [isSubtype_type]; kernel_rfl) (fun E6 h6 x6 => ?_)
  obtain ⟨fl6, F6, N6, G6⟩ := behind C bt F N .nil G nds_nil rfl x6.af
  clear F N F5 N5
  k_steps
  exact k _ _ _ _ (ends_af F6 N6 .nil G6 C.tb) g2 ⟨_, rfl⟩
end Br
end
-- BrBa
section
open PySem PySem.W PySem.Calls PyProof.Rows
set_option Elab.async false
set_option maxRecDepth 100000
set_option linter.unusedVariables false
namespace Br
open Sem (wp)
section
variable {prog : Program} {w : World} {A : Around} {E : Value → Shared → Prop} {s : Shared} {R : Result → Shared → Prop}
theorem codeQ_builtin {id : String} {args : Args} {b : Builtin} (hc : cleanCode (.builtin id args) = true) (hb : entryFor table id = some b)
    (h : wpQ (model prog w) (A.under (.builtin id args)) (b args)
      (fun fin s' => match fin with | .done f => R (.ok f) s' | .again c' => c'.quiet = true ∧ codeQ (model prog w) A c' R s') (fun e s' => R (.error e) s') s) :
    codeQ (model prog w) A (.builtin id args) R s := by
  refine codeQ_of_tree hc ?_
  show wpQ _ _ (match entryFor table id with | some b => b args | none => unsupported ((withoutEnding? id "#data").getD id)) _ _ s
  rw [hb]; exact h

theorem wpQ_special_slot {M : Model} {self : Value} {T : String} {name : Str} {id : String} {args : List Value} {kw : List (Str × Value)}
    {Q : Option Value → Shared → Prop} (hT : s.TypeIs self T) (h : Slot T name id)
    (hc : wpQ M A (PySem.call (.builtin id) (self :: args) kw) (fun v => Q (some v)) E s) : wpQ M A (callSpecial? self name args kw) Q E s := by
  simp only [callSpecial?]
  refine wpQ_andThen (wpAny_specialOf hT h.lookup ?_)
  simp only [h.bind]
  exact wpQ_holding (wpQ_bind (wpQ_pure (wpQ_bind (wpQ_mono hc (fun v s' h' => wpQ_pure h') fun _ _ h' => h'))))

theorem callType_codesQ {T newId initId : String} {Bi : Builtin} {args : List Value} {Q Q₁ : Value → Shared → Prop} (ft : TypeCalled T newId initId)
    (hct : checkTypeCall T ⟨args, []⟩ = pure ()) (entryI : entryFor table initId = some Bi)
    (hnew : codeAny (model prog w) A.in1 (.call (.builtin newId) ⟨.type T :: args, []⟩) (wants Q₁ E) s)
    (hnext : ∀ obj s₁, Q₁ obj s₁ → s₁.TypeIs obj T ∧ codeQ (model prog w) A.in1 (.call (.builtin initId) ⟨obj :: args, []⟩) (wants (fun r s₂ => r = .none ∧ Q obj s₂) E) s₁) :
    wpQ (model prog w) A (PySem.call (.type T) args) Q E s := by
  obtain ⟨c, tl, hmro⟩ := ft.mro
  have hmade := ft.made
  have hsub := ft.sub
  refine wpQ_call (codeQ_of_tree rfl ?_)
  show wpQ _ _ (callAny (.type T) _) _ _ _
  refine wpQ_pure ⟨Code.quiet_builtin _ (by decide +kernel), codeQ_builtin (by rfl) F.entry_type_call ?_⟩
  rw [Around.under_plain (weight_type_call_type T args []) rfl]
  have h1 := ft.notType
  have h2 := ft.canCreate
  unfold Builtin.«type.__call__»
  dsimp only
  simp only [h1, h2, hct, Bool.false_eq_true, if_false, pure_bind, hmro, List.isEmpty_cons, hmade]
  refine wpQ_andThen (wpAny_holding (wpAny_call (codeAny_mono hnew fun r s₁ hr => ?_)))
  cases r with
  | error e => exact hr
  | ok fl =>
    cases fl with
    | ret obj =>
      obtain ⟨hT, hinit⟩ := hnext _ _ hr
      refine wpQ_andThen (wpAny_isInstance (b := true) hT hsub ?_)
      simp only [Bool.not_true, Bool.false_eq_true, if_false]
      refine wpQ_bind (wpQ_holding ?_)
      refine wpQ_special_slot hT ft.init (wpQ_call (codeQ_mono hinit fun r₂ s₂ hr₂ => ?_))
      cases r₂ with
      | error e => exact hr₂
      | ok fl₂ =>
        cases fl₂ with
        | ret r =>
          obtain ⟨rfl, hq⟩ := hr₂
          exact wpQ_pure hq
        | _ => exact hr₂.elim
    | _ => exact hr.elim
end
end Br
end
-- BrBn
section
open PySem PySem.W PySem.Calls PyProof.Rows
set_option Elab.async false
set_option maxRecDepth 100000
set_option linter.unusedVariables false
namespace Br
open Sem (wp)
namespace FN
theorem slot_ba_init : Slot "bytearray" "__init__" "bytearray.__init__" :=
  .of (owner := "bytearray") (n := "__init__") (by rw [typeLookup_type, builtinLookup_eq_fast]; kernel_rfl) (by decide +kernel) (by decide +kernel) (by decide +kernel)
    (by first | exact .inl (by decide +kernel) | exact .inr (by decide +kernel)) (by rw [isSubtype_type]; kernel_rfl)
theorem mro_ba : mroOf (.type "bytearray") = pure [.type "bytearray", .type "object"] := by rw [mroOf_type]; kernel_rfl
theorem lookup_ba_new : typeLookup (.type "bytearray") "__new__" = pure (some (.builtin "bytearray.__new__")) := by rw [typeLookup_type, builtinLookup_eq_fast]; kernel_rfl
theorem called_ba : TypeCalled "bytearray" "bytearray.__new__" "bytearray.__init__" :=
  ⟨by decide +kernel, by decide +kernel, ⟨_, _, mro_ba⟩, madeBy_type mro_ba lookup_ba_new (by decide +kernel), by decide +kernel, by rw [isSubtype_type]; kernel_rfl, slot_ba_init⟩
theorem typeCall_ba_1 (a : Value) : checkTypeCall "bytearray" ⟨[a], []⟩ = pure () := by kernel_rfl
theorem newCall_ba_1 (a : Value) : checkBuiltinCall "bytearray.__new__" ⟨[.type "bytearray", a], []⟩ = pure () := by kernel_rfl
theorem entry_ba_new : entryFor table "bytearray.__new__" = some Builtin.«list.__new__» :=
  entryFor_alias (id' := "list.__new__") (by kernel_rfl) (by first | rfl | decide +kernel) (by decide +kernel) (by kernel_rfl)
theorem plain_ba_new : plainId "bytearray.__new__" = true := by decide +kernel
theorem entry_ba_init : entryFor table "bytearray.__init__" = some Builtin.«bytearray.__init__» := entryFor_of_tree (by kernel_rfl)
theorem args_ba_init (a b : Value) : argsOk "bytearray.__init__" ⟨[a, b], []⟩ := by unfold argsOk; kernel_rfl
end FN
set_option maxRecDepth 1000000 in
set_option maxHeartbeats 4000000 in
theorem owner_ba_new : ("bytearray.__new__".splitOn ".__new__").headD "" = "bytearray" := by simp +decide [String.splitOn, String.splitOnAux]
theorem sub_ba_self : isSubtype (.type "bytearray") (.type "bytearray") = pure true := by rw [isSubtype_type]; kernel_rfl
section
variable {prog : Program} {w : World} {A : Around} {E : Value → Shared → Prop} {s : Shared}
theorem code_ba_new (a : Value) {Q₁ : Value → Shared → Prop}
    (h : Q₁ (.ref s.heap.objs.size) { s with heap := s.heap.push { cls := .type "bytearray", data := .bytearray #[] } }) :
    codeAny (model prog w) A (.call (.builtin "bytearray.__new__") ⟨[.type "bytearray", a], []⟩) (wants Q₁ E) s := by
  refine codeAny_of_tree ?_
  show wpAny _ A.in1 (do checkBuiltinCall "bytearray.__new__" ⟨[.type "bytearray", a], []⟩; again (.builtin "bytearray.__new__" ⟨[.type "bytearray", a], []⟩)) _ _ s
  refine wpAny_bind (wpAny_of_eq (FN.newCall_ba_1 a) (wpAny_pure ⟨plainId_quiet FN.plain_ba_new _, codeAny_builtin_stack FN.entry_ba_new rfl fun p st => ?_⟩))
  rw [Around.under_plainId FN.plain_ba_new _]
  have hsub := sub_ba_self
  have hown := owner_ba_new
  obtain ⟨hp, g, d, tk, os⟩ := s
  simp only [hown]
  wp_walk
  exact h
end
end Br
end
-- BrBo
section
open PySem PySem.W PySem.Calls PyProof.Rows
set_option Elab.async false
set_option maxRecDepth 100000
set_option linter.unusedVariables false
namespace Br
open Sem (wp)
open Builtin Builtin.Bytes
namespace FN
theorem look_release_ba : typeLookup (.type "bytearray") "__release_buffer__" = pure (some (.builtin "bytearray.__release_buffer__")) := by rw [typeLookup_type, builtinLookup_eq_fast]; kernel_rfl
theorem look_buffer_ba : typeLookup (.type "bytearray") "__buffer__" = pure (some (.builtin "bytearray.__buffer__")) := by rw [typeLookup_type, builtinLookup_eq_fast]; kernel_rfl
theorem ends_release : ("bytearray.__release_buffer__".endsWith ("." ++ "__release_buffer__")) = true := by decide +kernel
theorem drop_release : ("bytearray.__release_buffer__".dropRight ("__release_buffer__".length + 1)) = "bytearray" := by decide +kernel
theorem ends_buffer : ("bytearray.__buffer__".endsWith ("." ++ "__buffer__")) = true := by decide +kernel
theorem drop_buffer : ("bytearray.__buffer__".dropRight ("__buffer__".length + 1)) = "bytearray" := by decide +kernel
end FN
section
variable {M : Model} {A : Around} {E : Value → Shared → Prop} {s : Shared}
theorem wp_ownRelease {v : Value} {Q : Bool → Shared → Prop} (hT : s.TypeIs v "bytearray") (h : Q false s) : wpAny M A (ownRelease v) Q E s := by
  unfold ownRelease slotIsOwn
  refine wpAny_bind (wpAny_bind (wpAny_specialOf hT FN.look_release_ba ?_))
  dsimp only
  simp only [FN.ends_release, FN.drop_release, Bool.not_true, Bool.false_eq_true, if_false]
  exact wpAny_isInstance hT sub_ba_self (wpAny_pure h)
theorem wp_ownBuffer {v : Value} {Q : Bool → Shared → Prop} (hT : s.TypeIs v "bytearray") (h : Q true s) : wpAny M A (slotIsOwn v "__buffer__") Q E s := by
  unfold slotIsOwn
  refine wpAny_bind (wpAny_specialOf hT FN.look_buffer_ba ?_)
  dsimp only
  simp only [FN.ends_buffer, FN.drop_buffer, Bool.not_true, Bool.false_eq_true, if_false]
  exact wpAny_isInstance hT sub_ba_self h
end

theorem bind_one (src : Value) : bindOptional "bytearray.__init__" "bytearray" ["source", "encoding", "errors"] [src] [] = pure [some src, none, none] := by rfl
theorem codec_none (wh : String) : checkCodecArg "bytearray.__init__" "bytearray" wh none = pure () := by rfl
section
variable {M : Model} {A : Around} {E : Value → Shared → Prop} {s : Shared}
theorem wp_write {S : Addr} {c : Value} {d : Option Addr} {bs : Array UInt8} {n : Nat} {sl : Array (Option Value)} {f : Array UInt8 → Array UInt8} {Q : Unit → Shared → Prop} (hS : s.heap.get? S = some ⟨c, d, .bytearray bs n, sl⟩)
    (hz : (f bs).size ≤ sizeLine)
    (h : ∀ h', h'.get? S = some ⟨c, d, .bytearray (f bs) n, sl⟩ → Heap.SameBut S s.heap h' → Q () { s with heap := h' }) : wpAny M A (write (.ref S) f) Q E s := by
  unfold write updateBytearray
  dsimp only
  refine wpAny_bind (wpAny_load hS ?_)
  dsimp only
  refine wpAny_bind (wpAny_update hS ?_)
  have hg : (s.heap.update S (Obj.mapBytearray f)).get? S = some ⟨c, d, .bytearray (f bs) n, sl⟩ := Heap.get?_update_self (Obj.mapBytearray f) hS rfl
  refine wpAny_lookBehind hg ?_ (h _ hg ?_)
  · show (if (f bs).size > sizeLine then some "bytearray:memory" else none) = none
    rw [if_neg (by omega)]
  · exact Heap.SameBut.update _ _ _
end
section
variable {prog : Program} {w : World} {A : Around} {E : Value → Shared → Prop} {s : Shared}
theorem exports_no {M : Model} {S : Addr} {Q : Bool → Shared → Prop} {bs : Array UInt8} {o : Obj} (hS : s.heap.get? S = some o) (hd : o.data = .bytearray bs 0) (h : Q false s) :
    wpQ M A (exported (.ref S) <||> (do return (← exportsOf (.ref S)) > 0)) Q E s := by
  refine wpQ_bind (wpQ_exported ?_)
  refine wpQ_of ?_
  dsimp only [toBool]
  refine wpAny_bind ?_
  unfold exportsOf
  dsimp only
  refine wpAny_bind (wpAny_load hS ?_)
  rw [hd]
  exact wpAny_pure (wpAny_pure h)
def inOct : Value → Bool := fun | .int i _ => 0 ≤ i && i < 256 | _ => false
def toOct : Value → Option UInt8 := fun | .int i _ => some i.toNat.toUInt8 | _ => none
theorem good_all : ∀ {vs : List Value} {ns : List Int}, IntsAre vs ns → (∀ n ∈ ns, 0 ≤ n ∧ n < 256) → vs.takeWhile inOct = vs
  | _, _, .nil, _ => rfl
  | _, _, .cons n t h, k => by
    have := k n (.head _)
    rw [List.takeWhile_cons, if_pos (by simp [inOct, this.1, this.2]), good_all h fun m hm => k m (.tail _ hm)]
theorem good_oct : ∀ {vs : List Value} {ns : List Int}, IntsAre vs ns → vs.filterMap toOct = ns.map fun n => n.toNat.toUInt8
  | _, _, .nil => rfl
  | _, _, .cons n t h => by
    rw [List.filterMap_cons]
    show _ :: _ = _
    rw [good_oct h]; rfl
theorem lk_list_index : typeLookup (.type "list") "__index__" = pure none := by rw [typeLookup_type, builtinLookup_eq_fast]; kernel_rfl
theorem lk_list_buffer : typeLookup (.type "list") "__buffer__" = pure none := by rw [typeLookup_type, builtinLookup_eq_fast]; kernel_rfl
theorem init_list {S l : Addr} {items : Array Value} {Q : PySem.Fin → Shared → Prop} (hS : s.heap.get? S = some { cls := .type "bytearray", data := .bytearray #[] }) (hl : s.heap.IsList l items) (hne : l ≠ S) {vs : List Value} {ns : List Int} (hv : items = vs.toArray) (hi : IntsAre vs ns) (hr : ∀ n ∈ ns, 0 ≤ n ∧ n < 256) (hz : ns.length ≤ sizeLine)
    (h : ∀ h', h'.get? S = some { cls := .type "bytearray", data := .bytearray (ns.map fun n => n.toNat.toUInt8).toArray } → Heap.SameBut S s.heap h' → Q (.done (.ret .none)) { s with heap := h' }) :
    wpQ (model prog w) A (Builtin.«bytearray.__init__» ⟨[.ref S, .ref l], []⟩) Q E s := by
  have hT : s.TypeIs (.ref S) "bytearray" := ⟨_, hS, rfl⟩
  unfold Builtin.«bytearray.__init__»
  dsimp only
  refine wpQ_andThen (wp_ownRelease hT ?_)
  simp only [Bool.false_eq_true, if_false, bind_one, pure_bind, codec_none]
  refine wpQ_bind (exports_no hS rfl ?_)
  simp only [Bool.false_eq_true, if_false]
  refine wpQ_of ?_
  refine wpAny_bind (wp_write hS (Nat.zero_le _) fun h1 hg1 sb1 => ?_)
  have hl1 : h1.IsList l items := by obtain ⟨o, n, r⟩ := hl; exact ⟨o, sb1.extBut _ _ hne n, r⟩
  have hT1 : ({ s with heap := h1 } : Shared).TypeIs (.ref l) "list" := by obtain ⟨o, n, c, r⟩ := hl1; exact ⟨o, n, c⟩
  refine wpAny_bind ?_
  unfold asStr?
  dsimp only
  obtain ⟨o, n, c, k, r⟩ := hl1
  refine wpAny_bind (wpAny_load n ?_)
  rw [r]
  refine wpAny_pure ?_
  simp only [Option.isSome_none, Bool.false_eq_true, if_false]
  refine wpAny_bind (wpAny_pure ?_)
  refine wpAny_bind (wpAny_specialOf hT1 lk_list_index ?_)
  simp only [Option.isSome_none, Bool.false_eq_true, if_false]
  unfold buffer?
  refine wpAny_bind (wpAny_bind (wpAny_specialOf hT1 lk_list_buffer ?_))
  dsimp only
  refine wpAny_bind (wpAny_specialOf hT1 lk_list_buffer ?_)
  refine wpAny_pure ?_
  dsimp only
  refine wpAny_bind (wpAny_typeOf hT1 ?_)
  rw [if_pos (by decide)]
  refine wpAny_bind ?_
  unfold seqItems?
  dsimp only
  refine wpAny_bind (wpAny_load n ?_)
  rw [r]
  refine wpAny_pure ?_
  dsimp only
  subst hv
  have e1 : List.takeWhile inOct vs.toArray.toList = vs := good_all hi hr
  have e2 := good_oct hi
  have e0 : vs.toArray[(List.takeWhile inOct vs.toArray.toList).length]? = none := by rw [e1]; simp
  have e3 : (List.filterMap toOct (List.takeWhile inOct vs.toArray.toList)).toArray = (ns.map fun n => n.toNat.toUInt8).toArray := by rw [e1, e2]
  split
  · refine wpAny_bind (wpAny_rule ?_)
    refine wpAny_bind ?_
    refine wp_write hg1 ?_ fun h2 hg2 sb2 => ?_
    · show (List.filterMap toOct (List.takeWhile inOct vs.toArray.toList)).toArray.size ≤ sizeLine
      rw [e3]; simpa using hz
    · refine wpAny_pure (h h2 ?_ (sb1.trans sb2))
      exact hg2.trans (congrArg (fun b => some ({ cls := .type "bytearray", data := .bytearray b } : Obj)) e3)
  · rename_i heq
    exact absurd (heq.symm.trans e0) (by simp)
  · rename_i heq
    exact absurd (heq.symm.trans e0) (by simp)
theorem codeQ_call_builtin {id : String} {args : Args} {b : Builtin} {R : Result → Shared → Prop} (hq : plainId id = true) (hb : entryFor table id = some b) (hc : cleanCode (.builtin id args) = true)
    (h : wpAny (model prog w) A.in1 (checkBuiltinCall id args) (fun _ s₁ => wpQ (model prog w) A.in1 (b args)
      (fun fin s' => match fin with | .done f => R (.ok f) s' | .again c' => c'.quiet = true ∧ codeQ (model prog w) A c' R s') (fun e s' => R (.error e) s') s₁)
      (fun e s' => R (.error e) s') s) : codeQ (model prog w) A (.call (.builtin id) args) R s := by
  refine codeQ_of_tree rfl ?_
  show wpQ _ A.in1 (do checkBuiltinCall id args; again (.builtin id args)) _ _ s
  refine wpQ_andThen (wpAny_mono h (fun _ s₁ h₁ => wpQ_pure (And.intro (plainId_quiet hq args) (codeQ_builtin hc hb ?_))) fun _ _ h' => h')
  rw [Around.under_plainId hq args]
  exact h₁

theorem call_ba_list {l : Addr} {vs : List Value} {ns : List Int} {Q : Value → Shared → Prop} (hl : s.heap.IsList l vs.toArray) (hi : IntsAre vs ns) (hr : ∀ n ∈ ns, 0 ≤ n ∧ n < 256) (hz : ns.length ≤ sizeLine)
    (h : ∀ h', h'.get? s.heap.objs.size = some { cls := .type "bytearray", data := .bytearray (ns.map fun n => n.toNat.toUInt8).toArray } → Kp s.heap h' → Q (.ref s.heap.objs.size) { s with heap := h' }) : wpQ (model prog w) A (PySem.call (.type "bytearray") [.ref l]) Q E s := by
  refine callType_codesQ (Q₁ := fun obj s₁ => obj = .ref s.heap.objs.size ∧ s₁ = { s with heap := s.heap.push { cls := .type "bytearray", data := .bytearray #[] } }) FN.called_ba (FN.typeCall_ba_1 _) FN.entry_ba_init (code_ba_new _ ⟨rfl, rfl⟩) fun obj s₁ h₁ => ?_
  obtain ⟨rfl, rfl⟩ := h₁
  have hS : (s.heap.push { cls := .type "bytearray", data := .bytearray #[] }).get? s.heap.objs.size = some { cls := .type "bytearray", data := .bytearray #[] } := Heap.get?_push_size _ rfl
  have hne : l ≠ s.heap.objs.size := by obtain ⟨o, n, _⟩ := hl; exact Nat.ne_of_lt (Heap.lt_size n)
  have hT : ({ s with heap := s.heap.push { cls := .type "bytearray", data := .bytearray #[] } } : Shared).TypeIs (.ref s.heap.objs.size) "bytearray" := ⟨_, hS, rfl⟩
  refine ⟨hT, codeQ_call_builtin FN.slot_ba_init.plain FN.entry_ba_init (by rfl) (FN.slot_ba_init.check _ _ _ _ _ _ _ _ hT (FN.args_ba_init _ _) ?_)⟩
  refine init_list hS (hl.push _) hne rfl hi hr hz fun h' hg sb => ⟨rfl, h h' hg fun b o e => ?_⟩
  exact sb.extBut b o (Nat.ne_of_lt (Heap.lt_size e)) (Heap.get?_push_of_some _ e)
end
end Br
end
-- BrBq
section
open PySem PySem.W PySem.Calls PyProof.Rows
set_option Elab.async false
set_option maxRecDepth 100000
set_option linter.unusedVariables false
namespace Br
open Sem (wp)
open Builtin Builtin.Bytes
theorem lk_ba_index : typeLookup (.type "bytearray") "__index__" = pure none := by rw [typeLookup_type, builtinLookup_eq_fast]; kernel_rfl
theorem lk_bytes_index : typeLookup (.type "bytes") "__index__" = pure none := by rw [typeLookup_type, builtinLookup_eq_fast]; kernel_rfl
section
variable {prog : Program} {w : World} {A : Around} {E : Value → Shared → Prop} {s : Shared}
theorem wp_buffer_ba {M : Model} {id : String} {full : Bool} {a : Addr} {bs : Array UInt8} {Q : Option (Array UInt8) → Shared → Prop} (hB : IsBA s.heap a bs) (h : Q (some bs) s) : wpAny M A (buffer? id (.ref a) full) Q E s := by
  have hT := hB.typeIs
  unfold buffer?
  refine wpAny_bind (wpAny_specialOf hT FN.look_buffer_ba ?_)
  refine wpAny_bind (wp_ownBuffer hT ?_)
  simp only [Bool.not_true, Bool.false_eq_true, if_false]
  refine wpAny_bind (wpAny_specialOf hT FN.look_buffer_ba ?_)
  try dsimp only
  refine wpAny_bind (wp_ownRelease hT ?_)
  simp only [Bool.false_eq_true, if_false]
  exact wpAny_bind (wp_payload hB (wpAny_pure h))
theorem init_ba {S a : Addr} {bs : Array UInt8} {Q : PySem.Fin → Shared → Prop} (hS : s.heap.get? S = some { cls := .type "bytearray", data := .bytearray #[] }) (hB : IsBA s.heap a bs) (hne : a ≠ S) (hz : bs.size ≤ sizeLine)
    (h : ∀ h', h'.get? S = some { cls := .type "bytearray", data := .bytearray bs } → Heap.SameBut S s.heap h' → Q (.done (.ret .none)) { s with heap := h' }) :
    wpQ (model prog w) A (Builtin.«bytearray.__init__» ⟨[.ref S, .ref a], []⟩) Q E s := by
  have hT : s.TypeIs (.ref S) "bytearray" := ⟨_, hS, rfl⟩
  unfold Builtin.«bytearray.__init__»
  dsimp only
  refine wpQ_andThen (wp_ownRelease hT ?_)
  simp only [Bool.false_eq_true, if_false, bind_one, pure_bind, codec_none]
  refine wpQ_bind (exports_no hS rfl ?_)
  simp only [Bool.false_eq_true, if_false]
  refine wpQ_of ?_
  refine wpAny_bind (wp_write hS (Nat.zero_le _) fun h1 hg1 sb1 => ?_)
  have hB1 : IsBA h1 a bs := by obtain ⟨o, x, n, r⟩ := hB; exact ⟨o, x, sb1.extBut _ _ hne n, r⟩
  have hT1 : ({ s with heap := h1 } : Shared).TypeIs (.ref a) "bytearray" := hB1.typeIs
  refine wpAny_bind ?_
  unfold asStr?
  dsimp only
  have hB2 := hB1
  obtain ⟨o, x, n, c, r, _⟩ := hB2
  refine wpAny_bind (wpAny_load n ?_)
  rw [r]
  refine wpAny_pure ?_
  simp only [Option.isSome_none, Bool.false_eq_true, if_false]
  refine wpAny_bind (wpAny_pure ?_)
  refine wpAny_bind (wpAny_specialOf hT1 lk_ba_index ?_)
  simp only [Option.isSome_none, Bool.false_eq_true, if_false]
  refine wpAny_bind (wp_buffer_ba hB1 ?_)
  dsimp only
  refine wpAny_bind (wpAny_rule ?_)
  refine wpAny_bind (wp_write hg1 hz fun h2 hg2 sb2 => ?_)
  exact wpAny_pure (h h2 hg2 (sb1.trans sb2))
theorem init_by {S : Addr} {bs : Array UInt8} {u : Tok} {Q : PySem.Fin → Shared → Prop} (hS : s.heap.get? S = some { cls := .type "bytearray", data := .bytearray #[] }) (hz : bs.size ≤ sizeLine)
    (hbuf : buffer? "bytearray.__init__" (.bytes bs u) true = pure (some bs))
    (h : ∀ h', h'.get? S = some { cls := .type "bytearray", data := .bytearray bs } → Heap.SameBut S s.heap h' → Q (.done (.ret .none)) { s with heap := h' }) :
    wpQ (model prog w) A (Builtin.«bytearray.__init__» ⟨[.ref S, .bytes bs u], []⟩) Q E s := by
  have hT : s.TypeIs (.ref S) "bytearray" := ⟨_, hS, rfl⟩
  unfold Builtin.«bytearray.__init__»
  dsimp only
  refine wpQ_andThen (wp_ownRelease hT ?_)
  simp only [Bool.false_eq_true, if_false, bind_one, pure_bind, codec_none]
  refine wpQ_bind (exports_no hS rfl ?_)
  simp only [Bool.false_eq_true, if_false]
  refine wpQ_of ?_
  refine wpAny_bind (wp_write hS (Nat.zero_le _) fun h1 hg1 sb1 => ?_)
  have hT1 : ({ s with heap := h1 } : Shared).TypeIs (.bytes bs u) "bytes" := rfl
  refine wpAny_bind (wpAny_of_eq (a := none) rfl ?_)
  simp only [Option.isSome_none, Bool.false_eq_true, if_false]
  refine wpAny_bind (wpAny_pure ?_)
  refine wpAny_bind (wpAny_specialOf hT1 lk_bytes_index ?_)
  simp only [Option.isSome_none, Bool.false_eq_true, if_false]
  refine wpAny_bind (wpAny_of_eq (a := some bs) hbuf ?_)
  dsimp only
  refine wpAny_bind (wpAny_rule ?_)
  refine wpAny_bind (wp_write hg1 hz fun h2 hg2 sb2 => ?_)
  exact wpAny_pure (h h2 hg2 (sb1.trans sb2))
theorem buffer_full {id : String} {bs : Array UInt8} {u : Tok} : Bytes.buffer? id (.bytes bs u) true = pure (some bs) := by
  unfold Bytes.buffer?
  rw [KBy.special_eq KBy.look_buffer, KBy.own_buffer, KBy.own_release]
  kernel_rfl
theorem call_ba_data {v : Value} {bs : Array UInt8} {soft : Bool} {Q : Value → Shared → Prop} (D : DataAt s.heap v bs soft) (hz : bs.size ≤ sizeLine)
    (h : ∀ h', h'.get? s.heap.objs.size = some { cls := .type "bytearray", data := .bytearray bs } → Kp s.heap h' → Q (.ref s.heap.objs.size) { s with heap := h' }) : wpQ (model prog w) A (PySem.call (.type "bytearray") [v]) Q E s := by
  refine callType_codesQ (Q₁ := fun obj s₁ => obj = .ref s.heap.objs.size ∧ s₁ = { s with heap := s.heap.push { cls := .type "bytearray", data := .bytearray #[] } }) FN.called_ba (FN.typeCall_ba_1 _) FN.entry_ba_init (code_ba_new _ ⟨rfl, rfl⟩) fun obj s₁ h₁ => ?_
  obtain ⟨rfl, rfl⟩ := h₁
  have hS : (s.heap.push { cls := .type "bytearray", data := .bytearray #[] }).get? s.heap.objs.size = some { cls := .type "bytearray", data := .bytearray #[] } := Heap.get?_push_size _ rfl
  have hT : ({ s with heap := s.heap.push { cls := .type "bytearray", data := .bytearray #[] } } : Shared).TypeIs (.ref s.heap.objs.size) "bytearray" := ⟨_, hS, rfl⟩
  refine ⟨hT, codeQ_call_builtin FN.slot_ba_init.plain FN.entry_ba_init (by rfl) (FN.slot_ba_init.check _ _ _ _ _ _ _ _ hT (FN.args_ba_init _ _) ?_)⟩
  have fin : ∀ h', h'.get? s.heap.objs.size = some { cls := .type "bytearray", data := .bytearray bs } → Heap.SameBut s.heap.objs.size (s.heap.push { cls := .type "bytearray", data := .bytearray #[] }) h' → Q (.ref s.heap.objs.size) { s with heap := h' } := fun h' hg sb =>
    h h' hg fun b o e => sb.extBut b o (Nat.ne_of_lt (Heap.lt_size e)) (Heap.get?_push_of_some _ e)
  cases soft with
  | false =>
    obtain ⟨u, rfl⟩ := D
    exact init_by hS hz buffer_full fun h' hg sb => ⟨rfl, fin h' hg sb⟩
  | true =>
    obtain ⟨a, rfl, hB⟩ := D
    have hne : a ≠ s.heap.objs.size := by obtain ⟨o, x, n, _⟩ := hB; exact Nat.ne_of_lt (Heap.lt_size n)
    exact init_ba hS (hB.keeps fun b o e => Heap.get?_push_of_some _ e) hne hz fun h' hg sb => ⟨rfl, fin h' hg sb⟩
end
end Br
end
-- BrEn
section
open PySem PySem.W PySem.Calls PyProof.Rows
set_option Elab.async false
set_option maxRecDepth 100000
set_option linter.unusedVariables false
namespace Br
open Sem (wp)
/-! enumerate over a bytearray; a shift by less than nothing; bytes(bytearray) -/
def raisesOf (cls : String) : PySem.Spec := fun A R s => A.handled = none ∧ ∀ h' tk e vs, Heap.MadeExcOf s.heap h' e (.type cls) vs → R (.error (.ref e)) { s with heap := h', toks := tk }
theorem lshift_meets (a : Int) (t : Tok) (b : Int) (u : Tok) (hc0 : b < 0) : Meets (Builtin.«int.__lshift__» ⟨[.int a t, .int b u], []⟩) (raisesOf "ValueError") :=
  .of_wp fun prog w A R s h => by
    obtain ⟨hp, g, d, tk, os⟩ := s
    wp_walk
    first | exact raiseWords px_Value h.1 h.2 | (refine raiseMade px_Value h.1 h.2 ?_; size_fits)
section
variable {prog : Program} {w : World} {A : Around} {E : Value → Shared → Prop} {s : Shared}
theorem lshift_neg {a b : Int} {t u : Tok} {Q : Value → Shared → Prop} (hh : A.handled = none) (hc0 : b < 0) (h : ∀ h' tk e vs, Heap.MadeExcOf s.heap h' e (.type "ValueError") vs → E (.ref e) { s with heap := h', toks := tk }) :
    wpAny (model prog w) A (binaryOp .LShift (.int a t) (.int b u)) Q E s :=
  binaryOp_meets (op := .LShift) (typeIs_int s a t) (typeIs_int s b u) F.fills_int_lshift F.slot_int_lshift F.entry_int_lshift (F.args_int_lshift_2 _ _) (lshift_meets a t b u hc0) ⟨hh, h⟩

theorem meets_enum_ba (l : Addr) (bs : Array UInt8) (o : Obj) :
    Meets (Builtin.«enumerate.__new__» ⟨[.type "enumerate", .ref l], []⟩) (fun _ R s => s.heap.get? l = some o ∧ IsBA s.heap l bs ∧
      R (.ok (.ret (.ref (s.heap.push { cls := .type "bytearray_iterator", data := .fields #[.ref l, .int 0 0] }).objs.size)))
        { s with heap := (s.heap.push { cls := .type "bytearray_iterator", data := .fields #[.ref l, .int 0 0] }).push { cls := .type "enumerate", data := .fields #[.none, .bool false, .ref s.heap.objs.size, rawInt 0, .none, .none] } }) :=
  .of_wp fun prog w A R s h => by
    obtain ⟨hp, g, d, tk, os⟩ := s; obtain ⟨ho, hL, h⟩ := h
    have hsub := sub_enumerate
    wp_walk using AutoSeq1.wpAny_loadPart' ho
    refine wpAny_stack_any fun st => wpAny_pure ?_
    split
    · rename_i c _ _ _ _ _
      cases (c == Value.type "enumerate")
      · wp_walk using AutoSeq1.wpAny_loadPart' ho, pyIter_ba hL
        exact ⟨_, rfl, h⟩
      · wp_walk using AutoSeq1.wpAny_loadPart' ho, pyIter_ba hL
        exact ⟨_, rfl, h⟩
    · wp_walk using AutoSeq1.wpAny_loadPart' ho, pyIter_ba hL
      exact ⟨_, rfl, h⟩
theorem call_enum_ba {l : Addr} {bs : Array UInt8} {Q : Value → Shared → Prop} (hL : IsBA s.heap l bs)
    (h : ∀ h', IsEnum h' (s.heap.objs.size + 1) s.heap.objs.size 0 .none → IsBAIter h' s.heap.objs.size l 0 → h'.objs.size = s.heap.objs.size + 2 → Kp s.heap h' → Q (.ref (s.heap.objs.size + 1)) { s with heap := h' }) :
    wpAny (model prog w) A (call (.type "enumerate") [.ref l]) Q E s := by
  obtain ⟨o, x, ho, r⟩ := id hL
  refine callType_new F.called_enumerate (by decide) (F.typeCall_enumerate_1 _) (F.newCall_enumerate_1 _) (fun obj => F.args_object_init_2 obj _) F.entry_enumerate_new
    (meets_enum_ba l bs o) ⟨ho, hL, ?_⟩
  have hz : (s.heap.push { cls := .type "bytearray_iterator", data := .fields #[.ref l, .int 0 0] }).objs.size = s.heap.objs.size + 1 := Heap.size_push ..
  show _ ∧ _
  rw [hz]
  have he : IsEnum ((s.heap.push { cls := .type "bytearray_iterator", data := .fields #[.ref l, .int 0 0] }).push
      { cls := .type "enumerate", data := .fields #[.none, .bool false, .ref s.heap.objs.size, rawInt 0, .none, .none] }) (s.heap.objs.size + 1) s.heap.objs.size 0 .none := by
    have := Heap.get?_push_size (s.heap.push { cls := .type "bytearray_iterator", data := .fields #[.ref l, .int 0 0] })
      (o := { cls := .type "enumerate", data := .fields #[.none, .bool false, .ref s.heap.objs.size, rawInt 0, .none, .none] }) rfl
    rw [hz] at this; exact this
  refine ⟨⟨_, he, rfl⟩, h _ he ⟨_, Heap.get?_push_of_some _ (Heap.get?_push_size _ rfl), rfl, rfl⟩ (by rw [Heap.size_push, hz]) fun b o x => Heap.get?_push_of_some _ (Heap.get?_push_of_some _ x)⟩
theorem next_of_ba {it a : Addr} {i : Nat} {c : UInt8} {bs : Array UInt8} {Q : Value → Shared → Prop} (hit : IsBAIter s.heap it a i) (hB : IsBA s.heap a bs) (hx : bs[i]? = some c)
    (hQ : ∀ h', IsBAIter h' it a (i + 1) → Heap.SameBut it s.heap h' → Q (.int (c.toNat : Int) s.toks) { s with heap := h', toks := s.toks + 1 }) : wpAny (model prog w) A (Builtin.SmallTypes.nextOf (.ref it)) Q E s := by
  obtain ⟨o, ho, hc, hd⟩ := id hit
  obtain ⟨oa, x, hoa, _, hda, _⟩ := id hB
  unfold Builtin.SmallTypes.nextOf
  refine wpAny_bind (wpAny_callSpecial?_slot (name := PySem.Str.ofString "__next__") (iter_typeIs hit) FA.slot_next
    (wpAny_call_entry FA.slot_next (iter_typeIs hit) FA.entry_next ?_ (FA.args_next _)))
  show wpAny _ _ (field (.ref it) 0 >>= _) _ _ s
  refine wpAny_bind (wpAny_field ho hd (x := .ref a) rfl ?_)
  show wpAny _ _ (load a >>= _) _ _ s
  refine wpAny_bind (wpAny_load hoa ?_)
  rw [hda]
  show wpAny _ _ (field (.ref it) 1 >>= _) _ _ s
  refine wpAny_bind (wpAny_field ho hd (x := .int i 0) rfl ?_)
  simp only [Int.toNat_natCast, hx]
  refine wpAny_bind (wpAny_setField ho hd (by simp) (wpAny_bind (wpAny_mkInt (wpAny_pure ⟨_, rfl, wpAny_pure (hQ _ ?_ (Heap.SameBut.update ..))⟩))))
  exact ⟨_, Heap.get?_update_self _ ho (Obj.isFreed_of_fields (Obj.data_mapFields hd _)), (Obj.cls_mapFields ..).trans hc, by
    rw [Obj.data_mapFields hd]; simp [rawInt]⟩
theorem next_of_baend {it a : Addr} {i : Nat} {bs : Array UInt8} {Q : Value → Shared → Prop} (hh : A.handled = none) (hit : IsBAIter s.heap it a i) (hB : IsBA s.heap a bs) (hx : bs[i]? = none)
    (hE : ∀ h' e, Heap.ExtBut it s.heap h' → (∃ o, h'.get? e = some o ∧ o.cls = .type "StopIteration") → E (.ref e) { s with heap := h' }) : wpAny (model prog w) A (Builtin.SmallTypes.nextOf (.ref it)) Q E s := by
  obtain ⟨o, ho, hc, hd⟩ := id hit
  obtain ⟨oa, x, hoa, _, hda, _⟩ := id hB
  unfold Builtin.SmallTypes.nextOf
  refine wpAny_bind (wpAny_callSpecial?_slot (name := PySem.Str.ofString "__next__") (iter_typeIs hit) FA.slot_next
    (wpAny_call_entry FA.slot_next (iter_typeIs hit) FA.entry_next ?_ (FA.args_next _)))
  show wpAny _ _ (field (.ref it) 0 >>= _) _ _ s
  refine wpAny_bind (wpAny_field ho hd (x := .ref a) rfl ?_)
  show wpAny _ _ (load a >>= _) _ _ s
  refine wpAny_bind (wpAny_load hoa ?_)
  rw [hda]
  show wpAny _ _ (field (.ref it) 1 >>= _) _ _ s
  refine wpAny_bind (wpAny_field ho hd (x := .int i 0) rfl ?_)
  simp only [Int.toNat_natCast, hx]
  refine wpAny_bind (wpAny_rule (wpAny_bind (wpAny_setField ho hd (by simp) (wpAny_bind (wpAny_letGo ?_)))))
  show wpAny _ _ (newExc (.type "StopIteration") [] >>= _) _ _ _
  refine wpAny_bind ?_
  simp only [newExc, newTuple]
  refine wpAny_bind (wpAny_newObj_type ?_ (by size_fits))
  refine wpAny_bind (m := firstArgMember _ _) (wpAny_of_eq (a := Value.none) (by first | rfl | (simp only [firstArgMember]; rfl)) ?_)
  refine wpAny_newObj_type ?_ (by size_fits)
  simp only [raiseNew]
  refine wpAny_bind (wpAny_handled ?_)
  first | rw [show A.in1.handled = none from hh] | rw [hh]
  refine wpAny_bind (wpAny_pure (wpAny_throw ?_))
  exact hE _ _ (((Heap.SameBut.update ..).extBut.push _).push _) ⟨_, Heap.get?_push_size _ rfl, rfl⟩
theorem draws_ba (hh : A.handled = none) (it a : Addr) (hne : a ≠ it) (bs : Array UInt8) : Draws prog w A it [it, a] bs.size (fun i v => ∃ c u, bs[i]? = some c ∧ v = .int (c.toNat : Int) u) (fun i h => IsBAIter h it a i ∧ IsBA h a bs) where
  live := fun i h st => let ⟨⟨o, ho, _⟩, _⟩ := st; ⟨o, ho⟩
  frame := fun _ _ _ st hk => ⟨let ⟨o, ho, r⟩ := st.1; ⟨o, hk it (by simp) o ho, r⟩, let ⟨o, x, ho, r⟩ := st.2; ⟨o, x, hk a (by simp) o ho, r⟩⟩
  item := fun i s Q E hi st hQ => by
    refine next_of_ba st.1 st.2 (c := bs[i]) (by simp [hi]) fun h' hit' hs' => ?_
    exact hQ _ h' (s.toks + 1) ⟨_, _, by simp [hi], rfl⟩ ⟨hit', st.2.ext hs'.extBut hne⟩ hs'
  done := fun s Q E st hE => next_of_baend hh st.1 st.2 (by simp) hE
/-- for i, c in enumerate(r): the first turn raises, if there is one -/
theorem enum_once {e it a : Addr} {bs : Array UInt8} {g : Heap} {env : Env} {m : Str → Option Value} {news : List (Addr × Obj)} {xi xc : Str} {body : List Stmt} {Q : Flow → Shared → Prop} (hh : A.handled = none)
    (he : IsEnum s.heap e it 0 .none) (hi : IsBAIter s.heap it a 0) (hB : IsBA s.heap a bs) (hei : e ≠ it) (hae : a ≠ e) (hai : a ≠ it) (hg1 : g.get? e = none) (hg2 : g.get? it = none) (hL : ∀ b ∈ [e, it, a], env.locals ≠ b) (hn : ∀ p ∈ news, p.1 ≠ e ∧ p.1 ≠ it)
    (F : Fr g env.locals s.heap m) (N : News g env.locals s.heap news)
    (step : 0 < bs.size → ∀ c t u h₁ tk₁ own, Fr g env.locals h₁ (fun y => if y = xc then some (.int (c : Int) u) else if y = xi then some (.int 0 t) else m y) → News g env.locals h₁ (own ++ news) →
      wpAny (model prog w) A (execs body env) (fun _ _ => False) E { s with heap := h₁, toks := tk₁ })
    (fin : bs.size = 0 → ∀ h' tk, Fr g env.locals h' m → News g env.locals h' news → Q .next { s with heap := h', toks := tk }) :
    wpAny (model prog w) A (pyIter (.ref e)) (fun it s₂ => PairAt3 prog w A g env xi xc body Q E it s₂) E s := by
  refine wpAny_pyIter_enum he ?_
  refine ⟨e, [e, it, a], [e, it], bs.size, _, _, _, (fun i v0 v1 => ∃ t, v0 = .int i t ∧ ∃ c u, bs[i]? = some c ∧ v1 = .int (c.toNat : Int) u), m, news, (fun i m' nw => m' = m ∧ nw = news ∧ i = 0), rfl, WalksT.enumerateD (draws_ba (A := A.in1) hh it a hai bs) e hei (by simp; exact ⟨hei, Ne.symm hae⟩) (by simp), ?_, ?_, ?_, ?_, ⟨⟨_, by simpa using he⟩, hi, hB⟩, F, N, ⟨rfl, rfl, rfl⟩, ?_, ?_⟩
  · rintro i vals ⟨t, x, hPx, rfl⟩
    exact ⟨_, _, rfl, t, rfl, hPx⟩
  · exact fun hm => hL _ hm rfl
  · intro b hb
    rcases List.mem_cons.mp hb with rfl | hb
    · exact hg1
    · rw [List.mem_singleton.mp hb]; exact hg2
  · intro p hp hb
    rcases List.mem_cons.mp hb with e1 | hb
    · exact (hn p hp).1 e1
    · exact (hn p hp).2 (List.mem_singleton.mp hb)
  · rintro i v0 v1 m₁ news₁ s₁ own ⟨h₁, tk₁, rfl⟩ hlt ⟨t, rfl, c, u, hc, rfl⟩ ⟨rfl, rfl, rfl⟩ _ _ F₁ N₁
    exact wpAny_mono (step hlt _ t u h₁ tk₁ own F₁ N₁) (fun _ _ x => x.elim) fun _ _ x => x
  · rintro h' tk m' news' F' N' _ ⟨rfl, rfl, h0⟩
    exact fin h0 h' tk F' N'

theorem sub_bytes_bytes : isSubtype (.type "bytes") (.type "bytes") = pure true := by rw [isSubtype_type]; kernel_rfl
theorem lk_ba_bytes : typeLookup (.type "bytearray") "__bytes__" = pure none := by rw [typeLookup_type, builtinLookup_eq_fast]; kernel_rfl
theorem bytes_new_ba {a : Addr} {bs : Array UInt8} {R' : Result → Shared → Prop} (hB : IsBA s.heap a bs) (hz : bs.size ≤ sizeLine) (hR : R' (.ok (.ret (.bytes bs s.toks))) { s with toks := s.toks + 1 }) :
    codeAny (model prog w) A (.call (.builtin "bytes.__new__") ⟨[.type "bytes", .ref a], []⟩) R' s := by
  refine codeAny_of_tree ?_
  show wpAny _ A.in1 (do checkBuiltinCall "bytes.__new__" ⟨[.type "bytes", .ref a], []⟩; again (.builtin "bytes.__new__" ⟨[.type "bytes", .ref a], []⟩)) _ _ s
  refine wpAny_bind (wpAny_of_eq (F.bm_newCall _) (wpAny_pure ⟨plainId_quiet F.bm_plain _, codeAny_builtin F.bm_entry ?_⟩))
  rw [Around.under_plainId F.bm_plain _]
  have hT : s.TypeIs (.ref a) "bytearray" := hB.typeIs
  unfold Builtin.«bytes.__new__»
  refine wpAny_bind (wpAny_of_eq (a := true) rfl ?_)
  refine bm_if_false rfl ?_
  refine wpAny_bind (wpAny_of_eq F.bm_sub ?_)
  refine bm_if_false rfl ?_
  refine wpAny_bind (wpAny_of_eq (F.bm_bind _) ?_)
  refine wpAny_bind (wpAny_of_eq (a := ()) rfl ?_)
  refine wpAny_bind (wpAny_of_eq (a := ()) rfl ?_)
  refine bm_if_false rfl ?_
  refine wpAny_bind (wpAny_specialOf hT lk_ba_bytes ?_)
  refine wpAny_bind (wpAny_bind ?_)
  obtain ⟨o, x, ho, hc, hd, hdd⟩ := id hB
  have hstr : ∀ (Q' : Option Str → Shared → Prop) (E' : Value → Shared → Prop), Q' none s → wpAny (model prog w) A.in1 (asStr? (.ref a)) Q' E' s := fun Q' E' q => by
    show wpAny _ _ (load a >>= _) _ _ _
    refine wpAny_bind (wpAny_load ho ?_)
    rw [hd]
    exact wpAny_pure q
  refine hstr _ _ (wpAny_pure ?_)
  refine bm_if_false rfl ?_
  refine wpAny_bind (wpAny_specialOf hT lk_ba_index ?_)
  refine bm_if_true rfl ?_
  first
    | show wpAny _ _ (Builtin.Bytes.buffer? "bytes.__new__" (.ref a) true >>= _) _ _ _
    | (refine wpAny_bind ?_; show wpAny _ _ (Builtin.Bytes.buffer? "bytes.__new__" (.ref a) true >>= _) _ _ _)
  refine wpAny_bind (wp_buffer_ba hB ?_)
  dsimp only
  refine wpAny_bind (wpAny_rule (wpAny_bind (wpAny_mkBytes ?_)))
  exact wpAny_of_eq (a := PySem.Fin.done (.ret (.bytes bs s.toks))) rfl hR
theorem call_bytes_ba {a : Addr} {bs : Array UInt8} {Q : Value → Shared → Prop} (hB : IsBA s.heap a bs) (hz : bs.size ≤ sizeLine)
    (hQ : ∀ t k, Q (.bytes bs t) { s with toks := k }) : wpAny (model prog w) A (call (.type "bytes") [.ref a]) Q E s := by
  refine callType_codes (Q₁ := fun obj s₁ => s₁.TypeIs obj "bytes" ∧ Q obj s₁) F.bm_called (F.bm_typeCall _) F.entry_object_init
    (bytes_new_ba hB hz ?_) fun obj s₁ h₁ => ⟨h₁.1, F.args_object_init_2 obj _, object_init_meets F.bm_called.init.lookup F.bm_called.made (by decide) prog w A.in1 _ s₁ ⟨h₁.1, rfl, h₁.2⟩⟩
  exact ⟨typeIs_bytes _ _ _, hQ _ _⟩
end
end Br
end
-- BrM12
section
open PySem PySem.W PySem.Calls PyProof.Rows
set_option Elab.async false
set_option maxRecDepth 100000
set_option linter.unusedVariables false
set_option linter.unusedSimpArgs false
set_option pp.deepTerms false
set_option pp.deepTerms.threshold 6
namespace Br
local macro_rules | `(tactic| walk_at "call type:enumerate") => `(tactic| (refine hold ?_))
local macro_rules | `(tactic| walk_at "binaryOp LShift int int") => `(tactic| (refine hold ?_))
local macro_rules | `(tactic| walk_at "call type:bytes") => `(tactic| (refine hold ?_))
variable {w : World} {n : Nat} {b : Heap} {A : Around} {outer : List Env} {s : Shared} {Q E : Value → Shared → Prop} {p : Program} {loose : List Str} {mg mb : Str → Option Value}
set_option maxHeartbeats 4000000 in
theorem c_rot_neg (P9 : Pg w p loose mg mb b) (C : Cx (n+3) b A outer s.heap) (g : AllBare s.gens) (v : Value) (bs : Array UInt8) (soft : Bool) (i : Int) (u u1 : Tok) (D : DataAt s.heap v bs soft) (hz : bs.size ≤ sizeLine) (hi : i < 0) (k : bs.size = 0 → Ret outer s (fun r _ => ∃ t, r = Value.bytes #[] t) Q) (ke : 0 < bs.size → Thr outer s "ValueError" E) : wpQ (model PySem.Challenge.rw_br5013_01.row.prog w) A (PySem.call (.ref 345) [v, Value.int i u, Value.int 1 u1]) Q E s := by
  have X := P9.X
  have T := P9.T
  have bt := P9.bt
  revert X
  k_fill
  intro X
  refine' enter_Q (f := 345) C X T.nolimit (ho := ?h1) (hcd := ?h2) (hbind := ?h3) (hloc := ?h4) (hcell := ?h5) (hco := ?h6) (hgen := ?h7) (hk := ?h8) (h := ?h9)
  case h1 => k_is
  case h2 => k_is
  case h3 => exact .of_eq rfl
  case h4 => exact locs rfl
  case h5 => decide
  case h6 => rfl
  case h7 => rfl
  case h8 => rfl
  intro L h₁ fl F N G hs
  have hh9 := C.hd
  replace X := X.keeps (C.base bt)
  replace T := T.keeps (C.base bt)
  replace F : Fr (under s.heap outer) L h₁ (fun y => List.lookup y [(Str.ofString "group_size", Value.int 1 u1), (Str.ofString "amount", Value.int i u), (Str.ofString "data", v)]) := F
  replace D := under_kp C D
  refine wpQ_execs_cons (wpQ_of ?_)
  k_steps
  refine wpQ_execs_cons (wpQ_of ?_)
  k_steps
  rename_i hQ FQ NQ
  refine wpQ_execs_cons (wpQ_Assign_Name (callQ_type1 (T := "bytearray") rfl (name_B (v := .type "bytearray") FQ X T (by kernel_rfl) (by kernel_rfl) (by decide) ⟨rfl, ?_⟩)))
  k_steps
  refine call_ba_data (D.keeps FQ.keep) hz (fun h3 hB3 k3 => ?_)
  have F3 := fr_kp FQ k3
  have N3 := news_new FQ NQ k3 hB3
  clear FQ NQ
  dsimp only at hB3 k3 N3 ⊢
  refine wpQ_of ?_
  k_steps
  refine wpQ_toAny ?_
  rename_i F4 N4
  refine wpAny_execs_cons (For_pair3 (under s.heap outer) hh9 rfl rfl rfl ?_ (by intro _; rfl))
  k_steps
  rename_i h4
  refine (show wpAny _ _ _ _ _ _ from ?_)
  refine call_enum_ba ⟨_, _, (N4 _ (.head _)).1, rfl, rfl, rfl⟩ (fun h5 he5 hi5 hs5 k5 => ?_)
  have F5 := fr_kp F4 k5
  have N5 := news_kp N4 k5
  have lt1 : hQ.objs.size < h4.objs.size := news_lt N4 (.head _)
  have ltL : L < h4.objs.size := F4.ns.lt
  dsimp only at he5 hi5 hs5 F5 N5
  refine enum_once hh9 he5 hi5 ⟨_, _, (N5 _ (.head _)).1, rfl, rfl, rfl⟩ (Nat.succ_ne_self _) (Nat.ne_of_lt (Nat.lt_succ_of_lt lt1)) (Nat.ne_of_lt lt1) (g_none F4 (Nat.le_succ _)) (g_none F4 (Nat.le_refl _)) ?hL (fun p hp => ?hn) F5 N5 (fun hpos c t u8 h6 tk6 own F6 N6 => ?_) (fun h0 h6 tk6 F6 N6 => ?_)
  case hL =>
    intro b hb
    have e1 : L ≠ hQ.objs.size := Ne.symm (N4 _ (.head _)).2.1
    simp only [List.mem_cons, List.not_mem_nil, or_false] at hb
    rcases hb with rfl | rfl | rfl
    · exact Nat.ne_of_lt (Nat.lt_succ_of_lt ltL)
    · exact Nat.ne_of_lt ltL
    · exact e1
  case hn =>
    have := news_lt N4 hp
    exact ⟨Nat.ne_of_lt (Nat.lt_succ_of_lt this), Nat.ne_of_lt this⟩
  · clear F4 N4 F5 N5
    k_steps
    refine (show wpAny _ _ _ _ _ _ from ?_)
    refine lshift_neg hh9 hi (fun h7 tk7 e7 vs7 x7 => ?_)
    refine raise_up (ke hpos) C bt F6 N6 (spl_mid own) G rfl rfl rfl g x7
  · clear F4 N4 F5 N5
    k_steps
    refine (show wpAny _ _ _ _ _ _ from ?_)
    refine call_bytes_ba ⟨_, _, (N6 _ (.head _)).1, rfl, rfl, rfl⟩ hz (fun t9 tk9 => ?_)
    exact k h0 _ _ _ _ (ends_af F6 N6 (.cons _ .nil) G C.tb) g ⟨t9, by rw [Array.eq_empty_of_size_eq_zero h0]⟩
end Br
end
-- BrK6
section
open PySem PySem.W PySem.Calls PyProof.Rows
set_option Elab.async false
set_option maxRecDepth 100000
set_option linter.unusedVariables false
set_option linter.unusedSimpArgs false
set_option pp.deepTerms false
set_option pp.deepTerms.threshold 6
namespace Br
local macro_rules | `(tactic| walk_at "exec Try") => `(tactic| (refine hold ?_))
local macro_rules | `(tactic| walk_at "exec Try If") => `(tactic| (refine hold ?_))
variable {w : World} {n : Nat} {b : Heap} {A : Around} {outer : List Env} {s : Shared} {Q E : Value → Shared → Prop} {p : Program} {loose : List Str} {mg mb : Str → Option Value}
set_option maxHeartbeats 4000000 in
theorem k_rot (P9 : Pg w p loose mg mb b) (C : Cx (n+4) b A outer s.heap) (g : AllBare s.gens) (u0 : Tok) (v : Value) (bs : Array UInt8) (soft : Bool) (i : Int) (u : Tok) (yv : Value) (D : DataAt s.heap v bs soft) (hz : bs.size ≤ sizeLine) (hi : i < 0) (k : Ret outer s (fun r _ => if bs.size = 0 then ∃ t, r = Value.bytes #[] t else ∃ t, r = Value.str (Str.ofString "no such octet") t) Q) : wpQ (model PySem.Challenge.rw_br5013_01.row.prog w) A (PySem.call (.ref 526) [Value.int 6 u0, v, Value.int i u, yv]) Q E s := by
  have X := P9.X
  have T := P9.T
  have bt := P9.bt
  revert X
  k_fill
  intro X
  refine' enter_Q (f := 526) C X T.nolimit (ho := ?h1) (hcd := ?h2) (hbind := ?h3) (hloc := ?h4) (hcell := ?h5) (hco := ?h6) (hgen := ?h7) (hk := ?h8) (h := ?h9)
  case h1 => k_is
  case h2 => k_is
  case h3 => exact .of_eq rfl
  case h4 => exact locs rfl
  case h5 => decide
  case h6 => rfl
  case h7 => rfl
  case h8 => rfl
  intro L h₁ fl F N G hs
  have hh9 := C.hd
  replace X := X.keeps (C.base bt)
  replace T := T.keeps (C.base bt)
  replace F : Fr (under s.heap outer) L h₁ (fun y => List.lookup y [(Str.ofString "y", yv), (Str.ofString "x", Value.int i u), (Str.ofString "data", v), (Str.ofString "kind", Value.int 6 u0)]) := F
  replace D := under_kp C D
  refine wpQ_execs_cons (wpQ_Try_except ?_)
  refine wpQ_execs_cons (wpQ_of ?_)
  k_steps
  dsimp only
  refine wpQ_execs_cons (wpQ_of ?_)
  k_steps
  dsimp only
  refine wpQ_execs_cons (wpQ_of ?_)
  k_steps
  dsimp only
  refine wpQ_execs_cons (wpQ_of ?_)
  k_steps
  dsimp only
  refine wpQ_execs_cons (wpQ_of ?_)
  k_steps
  dsimp only
  refine wpQ_execs_cons (wpQ_of ?_)
  k_steps
  dsimp only
  refine wpQ_execs_cons (wpQ_If (wpQ_of ?_))
  k_steps
  refine wpQ_execs_cons (wpQ_Return_some (callQ_attr ?_))
  k_steps
  refine callWithQ_def (K := hd.heap_39 w.params) (f := 345) (by k_is) rfl ?_
  k_steps
  refine' c_rot_neg P9 ?hC8 ?hg8 _ _ _ _ _ _ (D.keeps F.keep) hz hi ?hk8 ?hke8
  case hC8 => exact Cx.push C bt (C.base bt) F N .nil G rfl rfl rfl
  case hg8 => exact g
  case hk8 =>
    intro h0
    refine after C bt F N .nil G nds_nil rfl ?_
    intro r h' g' tk' fl' F' N' S' G' g2 hr
    exact k _ _ _ _ (ends_af F' N' .nil G' C.tb) g2 (by show (if bs.size = 0 then _ else _); rw [if_pos h0]; exact hr)
  case hke8 =>
    intro h0 e vs h' g' tk' x8 g2
    refine land (Around.frames_deeper C.fr) rfl x8 (fun h5 x5 => ?_)
    obtain ⟨fl5, F5, N5, G5⟩ := behind C bt F N .nil G nds_nil rfl x5.af
    refine clause_miss (T := "IndexError") x5 F5 X T (by kernel_rfl) (by kernel_rfl) (by decide) (by rw [isSubtype_type]; kernel_rfl) (by rw [isSubtype_type]; kernel_rfl) (by rw [isSubtype_type]; kernel_rfl) ?_
    refine clause_hit (T := "ValueError") x5 F5 X T (by kernel_rfl) (by kernel_rfl) (by decide) (by rw [isSubtype_type]; kernel_rfl) (by rw [isSubtype_type]; kernel_rfl) (by rw [isSubtype_type]; kernel_rfl) (fun E6 h6 x6 => ?_)
    obtain ⟨fl6, F6, N6, G6⟩ := behind C bt F N .nil G nds_nil rfl x6.af
    clear F N F5 N5
    k_steps
    exact k _ _ _ _ (ends_af F6 N6 .nil G6 C.tb) g2 (by show (if bs.size = 0 then _ else _); rw [if_neg (Nat.ne_of_gt h0)]; exact ⟨_, rfl⟩)
end Br
end
-- BrS5
section
open PySem PySem.W PySem.Calls PyProof.Rows
set_option Elab.async false
set_option maxRecDepth 100000
set_option linter.unusedVariables false
set_option pp.deepTerms false
set_option pp.deepTerms.threshold 6
namespace Br
local macro_rules | `(tactic| walk_at "call ref") => `(tactic| (refine hold ?_))
local macro_rules | `(tactic| walk_at "subscriptTail") => `(tactic| ((with_reducible show wpAny _ _ (subscriptTail _ _ (Value.ref 519) (Value.int (Int.fmod _ 7) _)) _ _ _); refine item_signs (by assumption) (by assumption) (Int.fmod_nonneg_of_pos _ (by decide)) (Int.fmod_lt_of_pos _ (by decide)) (fun tz => ?_)))
local macro_rules | `(tactic| walk_at "call type:bytes") => `(tactic| (refine hold ?_))
variable {w : World} {n : Nat} {b h₀ : Heap} {A : Around} {outer : List Env} {s : Shared} {Q : Flow → Shared → Prop} {p : Program} {loose : List Str} {mg mb : Str → Option Value} {L a : Addr} {cd : Value} {dr : Drawn} {os : OsState} {X : List (Addr × Obj)} {m : Str → Option Value} {oK oR oN : Obj} {lr : Addr} {rv : List Value} {nr : Nat}
set_option maxHeartbeats 4000000 in
theorem w_wild (P9 : Pg w p loose mg mb b) (C : Cx (n + 9) b A outer h₀) {inc : Bool} {num : Int} {u : Tok} (dN : oN.data = .cell (some (.int num u))) (S : LS h₀ outer L dr os ((L+3, oK) :: (L+2, oR) :: (L+1, oN) :: (lr, listOf rv.toArray nr) :: X) m s) (hm0 : m (Str.ofString "include") = some (.bool inc)) (k : ∀ s' wi t, (wi < 0 ∨ 256 ≤ wi) → -60 ≤ wi → wi ≤ 310 → LS h₀ outer L dr os ((L+3, oK) :: (L+2, oR) :: (L+1, oN) :: (lr, listOf rv.toArray nr) :: X) (upd m (Str.ofString "wild") (.int wi t)) s' → Q .next s') : wpAny (model PySem.Challenge.rw_br5013_01.row.prog w) (A.deeper (lawEnv L a cd)) (exec (nth wildBody 0) (lawEnv L a cd)) Q (fun _ _ => False) s := by
  rw [← upd_say hm0] at S
  obtain ⟨⟨fl, F, N, G⟩, ab, hd, ho, nd⟩ := S
  obtain ⟨h, gs, d9, tk, o9⟩ := s
  have X9 := P9.X.keeps (C.base P9.bt)
  revert X9
  k_fill
  intro X9
  have T := P9.T.keeps (C.base P9.bt)
  have hh9 := C.hd
  have bt := P9.bt
  simp only [lawEnv]
  conv in (nth wildBody 0) => whnf
  conv in (occs := *) lawScope => all_goals whnf
  have XK := X9
  clear X9
  dsimp only [upd] at F N ab hd ho
  have hf1 := Int.fmod_nonneg_of_pos num (b := 50) (by decide)
  have hf2 := Int.fmod_lt_of_pos num (b := 50) (by decide)
  k_steps
  · refine k _ _ _ ?e_211 ?e_212 ?e_213 (LS.to (LS.of (by assumption) (by assumption) (.cons _ (.cons _ (.cons _ (.cons _ (Spl.app X))))) G ab hd ho (by exact nd)) (by show upd (upd m (Str.ofString "include") _) (Str.ofString "wild") _ = _; rw [upd_say hm0]))
    all_goals omega
  · refine k _ _ _ ?e_231 ?e_232 ?e_233 (LS.to (LS.of (by assumption) (by assumption) (.cons _ (.cons _ (.cons _ (.cons _ (Spl.app X))))) G ab hd ho (by exact nd)) (by show upd (upd m (Str.ofString "include") _) (Str.ofString "wild") _ = _; rw [upd_say hm0]))
    all_goals omega
set_option maxHeartbeats 4000000 in
theorem w_xor (P9 : Pg w p loose mg mb b) (C : Cx (n + 9) b A outer h₀) {tm tw : Tok} {v : Value} {bs : Array UInt8} {soft : Bool} {many : Nat} {wi : Int} (D : DX X v bs soft) (hlen : bs.size = many) (hmany : many ≤ 8) (hw : wi < 0 ∨ 256 ≤ wi) (hw1 : -60 ≤ wi) (hw2 : wi ≤ 310) (S : LS h₀ outer L dr os ((L+3, oK) :: (L+2, oR) :: (L+1, oN) :: (lr, listOf rv.toArray nr) :: X) m s) (hm0 : m (Str.ofString "many") = some (.int (many : Nat) tm)) (hm1 : m (Str.ofString "data") = some (v)) (hm2 : m (Str.ofString "wild") = some (.int wi tw)) (k : ∀ s', LS h₀ outer L dr os ((L+3, oK) :: (L+2, oR) :: (L+1, oN) :: (lr, listOf rv.toArray nr) :: X) m s' → Q .next s') : wpAny (model PySem.Challenge.rw_br5013_01.row.prog w) (A.deeper (lawEnv L a cd)) (exec (nth wildBody 2) (lawEnv L a cd)) Q (fun _ _ => False) s := by
  rw [← upd_say hm0, ← upd_say hm1, ← upd_say hm2] at S
  obtain ⟨⟨fl, F, N, G⟩, ab, hd, ho, nd⟩ := S
  obtain ⟨h, gs, d9, tk, o9⟩ := s
  have X9 := P9.X.keeps (C.base P9.bt)
  revert X9
  k_fill
  intro X9
  have T := P9.T.keeps (C.base P9.bt)
  have hh9 := C.hd
  have bt := P9.bt
  simp only [lawEnv]
  conv in (nth wildBody 2) => whnf
  conv in (occs := *) lawScope => all_goals whnf
  have XK := X9
  clear X9
  dsimp only [upd] at F N ab hd ho
  k_steps
  · refine (show wpAny _ _ _ _ _ _ from ?_)
    have hn : 0 < bs.size := by omega
    have S9 := LS.of (s := ⟨_, gs, d9, 0, o9⟩) (by assumption) (by assumption) (.cons _ (.cons _ (.cons _ (.cons _ (Spl.app X))))) G ab hd ho nd
    refine' kb_xor1 P9 ?hC_29 ?hg_29 _ v bs soft ?hD_29 _ _ _ (by omega) hn (xor_out (octs_rng _ (octs_mem hn)) hw) ?hk_29
    case hC_29 => exact LS.cx (LS.tk S9) C bt (by rfl) (by rfl) (by rfl)
    case hg_29 => exact ab
    case hD_29 => exact S9.dataH (D.mono fun q hq => (.tail _ (.tail _ (.tail _ (.tail _ hq)))))
    refine LS.ret (LS.tk S9) C bt (by rfl) (fun r s9 S8 af9 hr => ?_)
    clear S9 af9
    repeat (rename News _ _ _ _ => Nz; clear Nz)
    repeat (rename Fr _ _ _ _ => Fz; clear Fz)
    clear G ab hd ho nd
    obtain ⟨⟨fl, F, N, G⟩, ab, hd, ho, nd⟩ := S8
    obtain ⟨h, gs, d9, tk, o9⟩ := s9
    dsimp only [upd] at F N ab hd ho hr
    obtain ⟨t, rfl⟩ := hr
    k_steps
    refine k _  (LS.to (LS.of (by assumption) (by assumption) (.cons _ (.cons _ (.cons _ (.cons _ (Spl.app X))))) G ab hd ho (by exact nd)) (by show (upd (upd (upd m (Str.ofString "wild") _) (Str.ofString "data") _) (Str.ofString "many") _) = m; rw [upd_say hm2, upd_say hm1, upd_say hm0]))
  · refine k _  (LS.to (LS.of (by assumption) (by assumption) (.cons _ (.cons _ (.cons _ (.cons _ (Spl.app X))))) G ab hd ho (by exact nd)) (by show (upd (upd (upd m (Str.ofString "wild") _) (Str.ofString "data") _) (Str.ofString "many") _) = m; rw [upd_say hm2, upd_say hm1, upd_say hm0]))
set_option maxHeartbeats 4000000 in
theorem w_xor0 (P9 : Pg w p loose mg mb b) (C : Cx (n + 9) b A outer h₀) {tm tw : Tok} {v : Value} {bs : Array UInt8} {soft : Bool} {many : Nat} {wi : Int} (D : DX X v bs soft) (hlen : bs.size = many) (hmany : many ≤ 8) (hw : wi < 0 ∨ 256 ≤ wi) (hw1 : -60 ≤ wi) (hw2 : wi ≤ 310) (S : LS h₀ outer L dr os ((L+3, oK) :: (L+2, oR) :: (L+1, oN) :: (lr, listOf rv.toArray nr) :: X) m s) (hm0 : m (Str.ofString "many") = some (.int (many : Nat) tm)) (hm1 : m (Str.ofString "data") = some (v)) (hm2 : m (Str.ofString "wild") = some (.int wi tw)) (k : ∀ s', LS h₀ outer L dr os ((L+3, oK) :: (L+2, oR) :: (L+1, oN) :: (lr, listOf rv.toArray nr) :: X) m s' → Q .next s') : wpAny (model PySem.Challenge.rw_br5013_01.row.prog w) (A.deeper (lawEnv L a cd)) (exec (nth wildBody 3) (lawEnv L a cd)) Q (fun _ _ => False) s := by
  rw [← upd_say hm0, ← upd_say hm1, ← upd_say hm2] at S
  obtain ⟨⟨fl, F, N, G⟩, ab, hd, ho, nd⟩ := S
  obtain ⟨h, gs, d9, tk, o9⟩ := s
  have X9 := P9.X.keeps (C.base P9.bt)
  revert X9
  k_fill
  intro X9
  have T := P9.T.keeps (C.base P9.bt)
  have hh9 := C.hd
  have bt := P9.bt
  simp only [lawEnv]
  conv in (nth wildBody 3) => whnf
  conv in (occs := *) lawScope => all_goals whnf
  have XK := X9
  clear X9
  dsimp only [upd] at F N ab hd ho
  k_steps
  · refine (show wpAny _ _ _ _ _ _ from ?_)
    have hn : bs.size = 0 := by omega
    have S9 := LS.of (s := ⟨_, gs, d9, 0, o9⟩) (by assumption) (by assumption) (.cons _ (.cons _ (.cons _ (.cons _ (Spl.app X))))) G ab hd ho nd
    refine' k_xor1 P9 ?hC_38 ?hg_38 _ v bs soft ?hD_38 _ _ _ (by omega) (fun c hc => absurd hc (by rw [List.eq_nil_of_length_eq_zero ((octs_len bs).trans hn)]; exact fun q => nomatch q)) ?hk_38
    case hC_38 => exact LS.cx (LS.tk S9) C bt (by rfl) (by rfl) (by rfl)
    case hg_38 => exact ab
    case hD_38 => exact S9.dataH (D.mono fun q hq => (.tail _ (.tail _ (.tail _ (.tail _ hq)))))
    refine LS.ret (LS.tk S9) C bt (by rfl) (fun r s9 S8 af9 hr => ?_)
    clear S9 af9
    repeat (rename News _ _ _ _ => Nz; clear Nz)
    repeat (rename Fr _ _ _ _ => Fz; clear Fz)
    clear G ab hd ho nd
    obtain ⟨⟨fl, F, N, G⟩, ab, hd, ho, nd⟩ := S8
    obtain ⟨h, gs, d9, tk, o9⟩ := s9
    dsimp only [upd] at F N ab hd ho hr
    obtain ⟨t, rfl⟩ := hr
    rw [hn]
    k_steps
    · exact absurd (by assumption) (xor_none _)
    · refine k _  (LS.to (LS.of (by assumption) (by assumption) (.cons _ (.cons _ (.cons _ (.cons _ (Spl.app X))))) G ab hd ho (by exact nd)) (by show (upd (upd (upd m (Str.ofString "wild") _) (Str.ofString "data") _) (Str.ofString "many") _) = m; rw [upd_say hm2, upd_say hm1, upd_say hm0]))
  · refine k _  (LS.to (LS.of (by assumption) (by assumption) (.cons _ (.cons _ (.cons _ (.cons _ (Spl.app X))))) G ab hd ho (by exact nd)) (by show (upd (upd (upd m (Str.ofString "wild") _) (Str.ofString "data") _) (Str.ofString "many") _) = m; rw [upd_say hm2, upd_say hm1, upd_say hm0]))
set_option maxHeartbeats 4000000 in
theorem w_kind (P9 : Pg w p loose mg mb b) (C : Cx (n + 9) b A outer h₀) {tk0 tw : Tok} {v : Value} {bs : Array UInt8} {soft inc : Bool} {kd wi : Int} (D : DX X v bs soft) (hk : kd = 3 ∨ kd = 4 ∨ kd = 8 ∨ kd = 9) (hw : wi < 0 ∨ 256 ≤ wi) (S : LS h₀ outer L dr os ((L+3, oK) :: (L+2, oR) :: (L+1, oN) :: (lr, listOf rv.toArray nr) :: X) m s) (hm0 : m (Str.ofString "kind") = some (.int kd tk0)) (hm1 : m (Str.ofString "data") = some (v)) (hm2 : m (Str.ofString "wild") = some (.int wi tw)) (hm3 : m (Str.ofString "include") = some (.bool inc)) (k : ∀ s', LS h₀ outer L dr os ((L+3, oK) :: (L+2, oR) :: (L+1, oN) :: (lr, listOf rv.toArray nr) :: X) m s' → Q .next s') : wpAny (model PySem.Challenge.rw_br5013_01.row.prog w) (A.deeper (lawEnv L a cd)) (exec (nth kindBody 0) (lawEnv L a cd)) Q (fun _ _ => False) s := by
  rw [← upd_say hm0, ← upd_say hm1, ← upd_say hm2, ← upd_say hm3] at S
  obtain ⟨⟨fl, F, N, G⟩, ab, hd, ho, nd⟩ := S
  obtain ⟨h, gs, d9, tk, o9⟩ := s
  have X9 := P9.X.keeps (C.base P9.bt)
  revert X9
  k_fill
  intro X9
  have T := P9.T.keeps (C.base P9.bt)
  have hh9 := C.hd
  have bt := P9.bt
  simp only [lawEnv]
  conv in (nth kindBody 0) => whnf
  conv in (occs := *) lawScope => all_goals whnf
  have XK := X9
  clear X9
  dsimp only [upd] at F N ab hd ho
  rcases hk with rfl | rfl | rfl | rfl
  · k_steps
    refine (show wpAny _ _ _ _ _ _ from ?_)
    have S9 := LS.of (s := ⟨_, gs, d9, 0, o9⟩) (by assumption) (by assumption) (.cons _ (.cons _ (.cons _ (.cons _ (Spl.app X))))) G ab hd ho nd
    refine' kb_find P9 ?hC_49 ?hg_49 _ v bs soft ?hD_49 _ _ _ hw ?hk_49
    case hC_49 => exact LS.cx (LS.tk S9) C bt (by rfl) (by rfl) (by rfl)
    case hg_49 => exact ab
    case hD_49 => exact S9.dataH (D.mono fun q hq => (.tail _ (.tail _ (.tail _ (.tail _ hq)))))
    refine LS.ret (LS.tk S9) C bt (by rfl) (fun r s9 S8 af9 hr => ?_)
    clear S9 af9
    repeat (rename News _ _ _ _ => Nz; clear Nz)
    repeat (rename Fr _ _ _ _ => Fz; clear Fz)
    clear G ab hd ho nd
    obtain ⟨⟨fl, F, N, G⟩, ab, hd, ho, nd⟩ := S8
    obtain ⟨h, gs, d9, tk, o9⟩ := s9
    dsimp only [upd] at F N ab hd ho hr
    obtain ⟨t, rfl⟩ := hr
    k_steps
    refine k _  (LS.to (LS.of (by assumption) (by assumption) (.cons _ (.cons _ (.cons _ (.cons _ (Spl.app X))))) G ab hd ho (by exact nd)) (by show (upd (upd (upd (upd m (Str.ofString "include") _) (Str.ofString "wild") _) (Str.ofString "data") _) (Str.ofString "kind") _) = m; rw [upd_say hm3, upd_say hm2, upd_say hm1, upd_say hm0]))
  · k_steps
    refine (show wpAny _ _ _ _ _ _ from ?_)
    have S9 := LS.of (s := ⟨_, gs, d9, 0, o9⟩) (by assumption) (by assumption) (.cons _ (.cons _ (.cons _ (.cons _ (Spl.app X))))) G ab hd ho nd
    refine' kb_byte P9 ?hC_56 ?hg_56 _ v bs soft ?hD_56 _ _ _ hw ?hk_56
    case hC_56 => exact LS.cx (LS.tk S9) C bt (by rfl) (by rfl) (by rfl)
    case hg_56 => exact ab
    case hD_56 => exact S9.dataH (D.mono fun q hq => (.tail _ (.tail _ (.tail _ (.tail _ hq)))))
    refine LS.ret (LS.tk S9) C bt (by rfl) (fun r s9 S8 af9 hr => ?_)
    clear S9 af9
    repeat (rename News _ _ _ _ => Nz; clear Nz)
    repeat (rename Fr _ _ _ _ => Fz; clear Fz)
    clear G ab hd ho nd
    obtain ⟨⟨fl, F, N, G⟩, ab, hd, ho, nd⟩ := S8
    obtain ⟨h, gs, d9, tk, o9⟩ := s9
    dsimp only [upd] at F N ab hd ho hr
    obtain ⟨t, rfl⟩ := hr
    k_steps
    refine k _  (LS.to (LS.of (by assumption) (by assumption) (.cons _ (.cons _ (.cons _ (.cons _ (Spl.app X))))) G ab hd ho (by exact nd)) (by show (upd (upd (upd (upd m (Str.ofString "include") _) (Str.ofString "wild") _) (Str.ofString "data") _) (Str.ofString "kind") _) = m; rw [upd_say hm3, upd_say hm2, upd_say hm1, upd_say hm0]))
  · k_steps
    refine (show wpAny _ _ _ _ _ _ from ?_)
    have S9 := LS.of (s := ⟨_, gs, d9, 0, o9⟩) (by assumption) (by assumption) (.cons _ (.cons _ (.cons _ (.cons _ (Spl.app X))))) G ab hd ho nd
    refine' kb_strip P9 ?hC_62 ?hg_62 _ v bs soft ?hD_62 _ _ _ hw ?hk_62
    case hC_62 => exact LS.cx (LS.tk S9) C bt (by rfl) (by rfl) (by rfl)
    case hg_62 => exact ab
    case hD_62 => exact S9.dataH (D.mono fun q hq => (.tail _ (.tail _ (.tail _ (.tail _ hq)))))
    refine LS.ret (LS.tk S9) C bt (by rfl) (fun r s9 S8 af9 hr => ?_)
    clear S9 af9
    repeat (rename News _ _ _ _ => Nz; clear Nz)
    repeat (rename Fr _ _ _ _ => Fz; clear Fz)
    clear G ab hd ho nd
    obtain ⟨⟨fl, F, N, G⟩, ab, hd, ho, nd⟩ := S8
    obtain ⟨h, gs, d9, tk, o9⟩ := s9
    dsimp only [upd] at F N ab hd ho hr
    obtain ⟨t, rfl⟩ := hr
    k_steps
    refine k _  (LS.to (LS.of (by assumption) (by assumption) (.cons _ (.cons _ (.cons _ (.cons _ (Spl.app X))))) G ab hd ho (by exact nd)) (by show (upd (upd (upd (upd m (Str.ofString "include") _) (Str.ofString "wild") _) (Str.ofString "data") _) (Str.ofString "kind") _) = m; rw [upd_say hm3, upd_say hm2, upd_say hm1, upd_say hm0]))
  · k_steps
    refine (show wpAny _ _ _ _ _ _ from ?_)
    have S9 := LS.of (s := ⟨_, gs, d9, 0, o9⟩) (by assumption) (by assumption) (.cons _ (.cons _ (.cons _ (.cons _ (Spl.app X))))) G ab hd ho nd
    refine' kb_term P9 ?hC_68 ?hg_68 _ v bs soft ?hD_68 _ _ inc hw ?hk_68
    case hC_68 => exact LS.cx (LS.tk S9) C bt (by rfl) (by rfl) (by rfl)
    case hg_68 => exact ab
    case hD_68 => exact S9.dataH (D.mono fun q hq => (.tail _ (.tail _ (.tail _ (.tail _ hq)))))
    refine LS.ret (LS.tk S9) C bt (by rfl) (fun r s9 S8 af9 hr => ?_)
    clear S9 af9
    repeat (rename News _ _ _ _ => Nz; clear Nz)
    repeat (rename Fr _ _ _ _ => Fz; clear Fz)
    clear G ab hd ho nd
    obtain ⟨⟨fl, F, N, G⟩, ab, hd, ho, nd⟩ := S8
    obtain ⟨h, gs, d9, tk, o9⟩ := s9
    dsimp only [upd] at F N ab hd ho hr
    obtain ⟨t, rfl⟩ := hr
    k_steps
    refine k _  (LS.to (LS.of (by assumption) (by assumption) (.cons _ (.cons _ (.cons _ (.cons _ (Spl.app X))))) G ab hd ho (by exact nd)) (by show (upd (upd (upd (upd m (Str.ofString "include") _) (Str.ofString "wild") _) (Str.ofString "data") _) (Str.ofString "kind") _) = m; rw [upd_say hm3, upd_say hm2, upd_say hm1, upd_say hm0]))
end Br
end
-- BrS12
section
open PySem PySem.W PySem.Calls PyProof.Rows
set_option Elab.async false
set_option maxRecDepth 100000
set_option linter.unusedVariables false
set_option pp.deepTerms false
set_option pp.deepTerms.threshold 6
namespace Br
local macro_rules | `(tactic| walk_at "call ref") => `(tactic| (refine hold ?_))
local macro_rules | `(tactic| walk_at "call type:bytes") => `(tactic| (refine hold ?_))
variable {w : World} {n : Nat} {b h₀ : Heap} {A : Around} {outer : List Env} {s : Shared} {Q : Flow → Shared → Prop} {p : Program} {loose : List Str} {mg mb : Str → Option Value} {L a : Addr} {cd : Value} {dr : Drawn} {os : OsState} {X : List (Addr × Obj)} {m : Str → Option Value} {oK oR oN : Obj} {lr : Addr} {rv : List Value} {nr : Nat}
set_option maxHeartbeats 4000000 in
theorem w_rot (P9 : Pg w p loose mg mb b) (C : Cx (n + 9) b A outer h₀) {num : Int} {u tm : Tok} {v : Value} {bs : Array UInt8} {soft : Bool} {many : Nat} (D : DX X v bs soft) (hlen : bs.size = many) (hmany : many ≤ 8) (dN : oN.data = .cell (some (.int num u))) (S : LS h₀ outer L dr os ((L+3, oK) :: (L+2, oR) :: (L+1, oN) :: (lr, listOf rv.toArray nr) :: X) m s) (hm0 : m (Str.ofString "many") = some (.int (many : Nat) tm)) (hm1 : m (Str.ofString "data") = some (v)) (k : ∀ s', LS h₀ outer L dr os ((L+3, oK) :: (L+2, oR) :: (L+1, oN) :: (lr, listOf rv.toArray nr) :: X) m s' → Q .next s') : wpQ (model PySem.Challenge.rw_br5013_01.row.prog w) (A.deeper (lawEnv L a cd)) (exec (nth wildBody 4) (lawEnv L a cd)) Q (fun _ _ => False) s := by
  rw [← upd_say hm0, ← upd_say hm1] at S
  obtain ⟨⟨fl, F, N, G⟩, ab, hd, ho, nd⟩ := S
  obtain ⟨h, gs, d9, tk, o9⟩ := s
  have X9 := P9.X.keeps (C.base P9.bt)
  revert X9
  k_fill
  intro X9
  have T := P9.T.keeps (C.base P9.bt)
  have hh9 := C.hd
  have bt := P9.bt
  simp only [lawEnv]
  conv in (nth wildBody 4) => whnf
  conv in (occs := *) lawScope => all_goals whnf
  have XK := X9
  clear X9
  dsimp only [upd] at F N ab hd ho
  dsimp only
  have hf1 := Int.fmod_nonneg_of_pos num (b := 50) (by decide)
  refine wpQ_If_l (wpQ_Compare_l (callQ_name ?_))
  k_steps
  refine callWithQ_def (K := Br.hd.heap_39 w.params) (f := 526) (by k_is) rfl ?_
  k_steps
  have S9 := LS.of (s := ⟨_, gs, d9, 0, o9⟩) (by assumption) (by assumption) (.cons _ (.cons _ (.cons _ (.cons _ (Spl.app X))))) G ab hd ho (by exact nd)
  refine' k_rot P9 ?hC_19 ?hg_19 _ v bs soft _ _ _ ?hD_19 (by rw [sizeLine_eq]; omega) (by omega) ?hk_19
  case hC_19 => exact LS.cx (LS.tk S9) C bt (by rfl) (by rfl) (by rfl)
  case hg_19 => exact ab
  case hD_19 => exact S9.dataH (D.mono fun q hq => (.tail _ (.tail _ (.tail _ (.tail _ hq)))))
  refine LS.ret (LS.tk S9) C bt (by rfl) (fun r s9 S8 af9 hr => ?_)
  clear S9 af9
  repeat (rename News _ _ _ _ => Nz; clear Nz)
  repeat (rename Fr _ _ _ _ => Fz; clear Fz)
  clear G ab hd ho nd
  obtain ⟨⟨fl, F, N, G⟩, ab, hd, ho, nd⟩ := S8
  obtain ⟨h, gs, d9, tk, o9⟩ := s9
  dsimp only [upd] at F N ab hd ho hr
  by_cases hz : bs.size = 0
  · rw [if_pos hz] at hr
    obtain ⟨t, rfl⟩ := hr
    k_steps
    refine k _  (LS.to (LS.of (by assumption) (by assumption) (.cons _ (.cons _ (.cons _ (.cons _ (Spl.app X))))) G ab hd ho (by exact nd)) (by show (upd (upd m (Str.ofString "data") _) (Str.ofString "many") _) = m; rw [upd_say hm1, upd_say hm0]))
  · rw [if_neg hz] at hr
    obtain ⟨t, rfl⟩ := hr
    k_steps
    refine k _  (LS.to (LS.of (by assumption) (by assumption) (.cons _ (.cons _ (.cons _ (.cons _ (Spl.app X))))) G ab hd ho (by exact nd)) (by show (upd (upd m (Str.ofString "data") _) (Str.ofString "many") _) = m; rw [upd_say hm1, upd_say hm0]))
end Br
end
-- BrS14
section
open PySem PySem.W PySem.Calls PyProof.Rows
set_option Elab.async false
set_option maxRecDepth 100000
set_option linter.unusedVariables false
set_option pp.deepTerms false
set_option pp.deepTerms.threshold 6
namespace Br
variable {w : World} {n : Nat} {b h₀ : Heap} {A : Around} {outer : List Env} {s : Shared} {Q : Flow → Shared → Prop} {p : Program} {loose : List Str} {mg mb : Str → Option Value} {L a : Addr} {cd : Value} {dr : Drawn} {os : OsState} {X : List (Addr × Obj)} {m : Str → Option Value} {oK oR oN : Obj} {lr : Addr} {rv : List Value} {nr : Nat}
set_option maxHeartbeats 4000000 in
theorem i_soft (P9 : Pg w p loose mg mb b) (C : Cx (n + 9) b A outer h₀) {Qx : Value → Shared → Prop}  (S : LS h₀ outer L dr os ((L+3, oK) :: (L+2, oR) :: (L+1, oN) :: (lr, listOf rv.toArray nr) :: X) m s) (k : ∀ s' lb, LS h₀ outer L dr os ((lb, listOf [Value.bool false, Value.bool true].toArray 0) :: (L+3, oK) :: (L+2, oR) :: (L+1, oN) :: (lr, listOf rv.toArray nr) :: X) m s' → Qx (.ref lb) s') : wpAny (model PySem.Challenge.rw_br5013_01.row.prog w) (A.deeper (lawEnv L a cd)) (eval (iterOf (nth lawBody 3)) (lawEnv L a cd)) Qx (fun _ _ => False) s := by
  obtain ⟨⟨fl, F, N, G⟩, ab, hd, ho, nd⟩ := S
  obtain ⟨h, gs, d9, tk, o9⟩ := s
  have X9 := P9.X.keeps (C.base P9.bt)
  revert X9
  k_fill
  intro X9
  have T := P9.T.keeps (C.base P9.bt)
  have hh9 := C.hd
  have bt := P9.bt
  simp only [lawEnv]
  conv in (occs := *) (iterOf (nth lawBody 3)) => all_goals whnf
  conv in (occs := *) lawScope => all_goals whnf
  have XK := X9
  clear X9
  dsimp only [upd] at F N ab hd ho
  k_steps
  refine k _ _ (LS.of (by assumption) (by assumption) (.cons _ (.cons _ (.cons _ (.cons _ (.cons _ (Spl.app X)))))) G ab hd ho (by exact (nds_cons (fun _ _ q => nomatch q) (fun _ q => nomatch q) nd)))
set_option maxHeartbeats 4000000 in
theorem i_nums (P9 : Pg w p loose mg mb b) (C : Cx (n + 9) b A outer h₀) {Qx : Value → Shared → Prop} {ln : Addr} (S : LS h₀ outer L dr os ((L+3, oK) :: (L+2, oR) :: (L+1, oN) :: (lr, listOf rv.toArray nr) :: X) m s) (hm0 : m (Str.ofString "numbers") = some (.ref ln)) (k : ∀ s', LS h₀ outer L dr os ((L+3, oK) :: (L+2, oR) :: (L+1, oN) :: (lr, listOf rv.toArray nr) :: X) m s' → Qx (.ref ln) s') : wpAny (model PySem.Challenge.rw_br5013_01.row.prog w) (A.deeper (lawEnv L a cd)) (eval (iterOf (nth outBody 2)) (lawEnv L a cd)) Qx (fun _ _ => False) s := by
  rw [← upd_say hm0] at S
  obtain ⟨⟨fl, F, N, G⟩, ab, hd, ho, nd⟩ := S
  obtain ⟨h, gs, d9, tk, o9⟩ := s
  have X9 := P9.X.keeps (C.base P9.bt)
  revert X9
  k_fill
  intro X9
  have T := P9.T.keeps (C.base P9.bt)
  have hh9 := C.hd
  have bt := P9.bt
  simp only [lawEnv]
  conv in (occs := *) (iterOf (nth outBody 2)) => all_goals whnf
  conv in (occs := *) lawScope => all_goals whnf
  have XK := X9
  clear X9
  dsimp only [upd] at F N ab hd ho
  k_steps
  refine k _  (LS.to (LS.of (by assumption) (by assumption) (.cons _ (.cons _ (.cons _ (.cons _ (Spl.app X))))) G ab hd ho (by exact nd)) (by show (upd m (Str.ofString "numbers") _) = m; rw [upd_say hm0]))
set_option maxHeartbeats 4000000 in
theorem i_kinds (P9 : Pg w p loose mg mb b) (C : Cx (n + 9) b A outer h₀) {Qx : Value → Shared → Prop}  (S : LS h₀ outer L dr os ((L+3, oK) :: (L+2, oR) :: (L+1, oN) :: (lr, listOf rv.toArray nr) :: X) m s) (k : ∀ s' lb vs, IntsAre vs [3, 4, 8, 9] → LS h₀ outer L dr os ((lb, listOf vs.toArray 0) :: (L+3, oK) :: (L+2, oR) :: (L+1, oN) :: (lr, listOf rv.toArray nr) :: X) m s' → Qx (.ref lb) s') : wpAny (model PySem.Challenge.rw_br5013_01.row.prog w) (A.deeper (lawEnv L a cd)) (eval (iterOf (nth wildBody 1)) (lawEnv L a cd)) Qx (fun _ _ => False) s := by
  obtain ⟨⟨fl, F, N, G⟩, ab, hd, ho, nd⟩ := S
  obtain ⟨h, gs, d9, tk, o9⟩ := s
  have X9 := P9.X.keeps (C.base P9.bt)
  revert X9
  k_fill
  intro X9
  have T := P9.T.keeps (C.base P9.bt)
  have hh9 := C.hd
  have bt := P9.bt
  simp only [lawEnv]
  conv in (occs := *) (iterOf (nth wildBody 1)) => all_goals whnf
  conv in (occs := *) lawScope => all_goals whnf
  have XK := X9
  clear X9
  dsimp only [upd] at F N ab hd ho
  k_steps
  refine k _ _ [_, _, _, _] (.cons _ _ (.cons _ _ (.cons _ _ (.cons _ _ .nil)))) (LS.of (by assumption) (by assumption) (.cons _ (.cons _ (.cons _ (.cons _ (.cons _ (Spl.app X)))))) G ab hd ho (by exact (nds_cons (fun _ _ q => nomatch q) (fun _ q => nomatch q) nd)))
set_option maxHeartbeats 4000000 in
theorem t_six (P9 : Pg w p loose mg mb b) (C : Cx (n + 9) b A outer h₀) {Qx : Bool → Shared → Prop} {num : Int} {u : Tok} (dN : oN.data = .cell (some (.int num u))) (S : LS h₀ outer L dr os ((L+3, oK) :: (L+2, oR) :: (L+1, oN) :: (lr, listOf rv.toArray nr) :: X) m s) (k : ∀ s' b9, LS h₀ outer L dr os ((L+3, oK) :: (L+2, oR) :: (L+1, oN) :: (lr, listOf rv.toArray nr) :: X) m s' → Qx b9 s') : wpAny (model PySem.Challenge.rw_br5013_01.row.prog w) (A.deeper (lawEnv L a cd)) (PySem.isTrue (testOf (nth inBody 6)) (lawEnv L a cd) (eval (testOf (nth inBody 6)) (lawEnv L a cd))) Qx (fun _ _ => False) s := by
  obtain ⟨⟨fl, F, N, G⟩, ab, hd, ho, nd⟩ := S
  obtain ⟨h, gs, d9, tk, o9⟩ := s
  have X9 := P9.X.keeps (C.base P9.bt)
  revert X9
  k_fill
  intro X9
  have T := P9.T.keeps (C.base P9.bt)
  have hh9 := C.hd
  have bt := P9.bt
  simp only [lawEnv]
  conv in (occs := *) (testOf (nth inBody 6)) => all_goals whnf
  conv in (occs := *) lawScope => all_goals whnf
  have XK := X9
  clear X9
  dsimp only [upd] at F N ab hd ho
  k_steps
  refine k _ _ (LS.to (LS.of (by assumption) (by assumption) (.cons _ (.cons _ (.cons _ (.cons _ (Spl.app X))))) G ab hd ho (by exact nd)) rfl)
set_option maxHeartbeats 4000000 in
theorem t_cut3 (P9 : Pg w p loose mg mb b) (C : Cx (n + 9) b A outer h₀) {Qx : Bool → Shared → Prop} {many : Nat} {tm : Tok} {soft : Bool} (S : LS h₀ outer L dr os ((L+3, oK) :: (L+2, oR) :: (L+1, oN) :: (lr, listOf rv.toArray nr) :: X) m s) (hm0 : m (Str.ofString "many") = some (.int (many : Nat) tm)) (hm1 : m (Str.ofString "soft") = some (.bool soft)) (k : ∀ s' b9, (b9 = true → 0 < many ∧ soft = true) → LS h₀ outer L dr os ((L+3, oK) :: (L+2, oR) :: (L+1, oN) :: (lr, listOf rv.toArray nr) :: X) m s' → Qx b9 s') : wpAny (model PySem.Challenge.rw_br5013_01.row.prog w) (A.deeper (lawEnv L a cd)) (PySem.isTrue (testOf (nth outBody 3)) (lawEnv L a cd) (eval (testOf (nth outBody 3)) (lawEnv L a cd))) Qx (fun _ _ => False) s := by
  rw [← upd_say hm0, ← upd_say hm1] at S
  obtain ⟨⟨fl, F, N, G⟩, ab, hd, ho, nd⟩ := S
  obtain ⟨h, gs, d9, tk, o9⟩ := s
  have X9 := P9.X.keeps (C.base P9.bt)
  revert X9
  k_fill
  intro X9
  have T := P9.T.keeps (C.base P9.bt)
  have hh9 := C.hd
  have bt := P9.bt
  simp only [lawEnv]
  conv in (occs := *) (testOf (nth outBody 3)) => all_goals whnf
  conv in (occs := *) lawScope => all_goals whnf
  have XK := X9
  clear X9
  dsimp only [upd] at F N ab hd ho
  k_steps
  · refine k _ _ ?e_25 (LS.to (LS.of (by assumption) (by assumption) (.cons _ (.cons _ (.cons _ (.cons _ (Spl.app X))))) G ab hd ho (by exact nd)) (by show (upd (upd m (Str.ofString "soft") _) (Str.ofString "many") _) = m; rw [upd_say hm1, upd_say hm0]))
    exact fun _ => ⟨by omega, by assumption⟩
  · refine k _ _ ?e_27 (LS.to (LS.of (by assumption) (by assumption) (.cons _ (.cons _ (.cons _ (.cons _ (Spl.app X))))) G ab hd ho (by exact nd)) (by show (upd (upd m (Str.ofString "soft") _) (Str.ofString "many") _) = m; rw [upd_say hm1, upd_say hm0]))
    exact fun q => nomatch q
  · refine k _ _ ?e_29 (LS.to (LS.of (by assumption) (by assumption) (.cons _ (.cons _ (.cons _ (.cons _ (Spl.app X))))) G ab hd ho (by exact nd)) (by show (upd (upd m (Str.ofString "soft") _) (Str.ofString "many") _) = m; rw [upd_say hm1, upd_say hm0]))
    exact fun q => nomatch q
end Br
end
-- BrW1
section
open PySem PySem.W PySem.Calls PyProof.Rows
set_option Elab.async false
set_option maxRecDepth 100000
set_option linter.unusedVariables false
set_option pp.deepTerms false
set_option pp.deepTerms.threshold 6
namespace Br
variable {w : World} {n : Nat} {b h₀ : Heap} {A : Around} {outer : List Env} {s : Shared} {Q : Flow → Shared → Prop} {p : Program} {loose : List Str} {mg mb : Str → Option Value} {L a : Addr} {cd : Value} {dr : Drawn} {os : OsState} {X : List (Addr × Obj)} {m : Str → Option Value} {oK oR oN : Obj} {lr : Addr} {rv : List Value} {nr : Nat}
theorem wild_run (P9 : Pg w p loose mg mb b) (C : Cx (n + 9) b A outer h₀) {num : Int} {u tm : Tok} {many : Nat} {v : Value} {bs : Array UInt8} {soft inc : Bool} {ln : Addr} (D : DX X v bs soft) (hlen : bs.size = many) (hmany : many ≤ 8) (dN : oN.data = .cell (some (.int num u))) (H : MF m many tm v soft ln) (hinc : m (Str.ofString "include") = some (.bool inc))
    (S : LS h₀ outer L dr os ((L+3, oK) :: (L+2, oR) :: (L+1, oN) :: (lr, listOf rv.toArray nr) :: X) m s) (k : ∀ s' m', MF m' many tm v soft ln → LS h₀ outer L dr os ((L+3, oK) :: (L+2, oR) :: (L+1, oN) :: (lr, listOf rv.toArray nr) :: X) m' s' → Q .next s') : wpQ (model PySem.Challenge.rw_br5013_01.row.prog w) (A.deeper (lawEnv L a cd)) (execs wildBody (lawEnv L a cd)) Q (fun _ _ => False) s := by
  rw [wildBody_eq]
  refine wpQ_execs_cons (wpQ_of (w_wild P9 C dN S hinc (fun s1 wi t1 hw hw1 hw2 S1 => ?_)))
  have H1 := mf_upd (x' := .int wi t1) (x := Str.ofString "wild") H
  have i1 : upd m (Str.ofString "wild") (.int wi t1) (Str.ofString "include") = some (.bool inc) := (upd_ne (by decide)).trans hinc
  have j1 : upd m (Str.ofString "wild") (.int wi t1) (Str.ofString "wild") = some (.int wi t1) := upd_eq
  generalize upd m (Str.ofString "wild") (.int wi t1) = m1 at S1 H1 i1 j1
  show wpQ (model PySem.Challenge.rw_br5013_01.row.prog w) (A.deeper (lawEnv L a cd)) _ _ _ _
  obtain ⟨px, pz, e⟩ := kinds_eq
  rw [e]
  refine wpQ_execs_cons (wpQ_For (i_kinds P9 C S1 (fun s2 lb vs hvs S2 => ?_)) (by intro _; rfl))
  refine LS.for_list (vs := vs) (nx := 0) (fun i own m' => own = (lb, listOf vs.toArray 0) :: (L+3, oK) :: (L+2, oR) :: (L+1, oN) :: (lr, listOf rv.toArray nr) :: X ∧ MF m' many tm v soft ln ∧ m' (Str.ofString "include") = some (.bool inc) ∧ m' (Str.ofString "wild") = some (.int wi t1)) C.hd C S2 ?_ ⟨rfl, H1, i1, j1⟩ ?_ ?_
  · rintro i own₁ m₁ ⟨rfl, _⟩
    exact ⟨.head _, rfl⟩
  · rintro i v9 own₁ m₁ q s₁ _ hv9 ⟨rfl, H3, i3, j3⟩ S3
    obtain ⟨kd, tk0, rfl, hkd⟩ := IntsAre.at hvs i v9 hv9
    refine ls_assign S3 (by rfl) (fun s4 S4 => ?_)
    rw [kindBody_eq]
    have hk : kd = 3 ∨ kd = 4 ∨ kd = 8 ∨ kd = 9 := by
      have := List.mem_of_getElem? hkd
      simpa using this
    refine wpQ_execs_cons (wpQ_of (w_kind P9 C (D.mono fun _ h => .tail _ (.tail _ h)) hk hw S4.in2 upd_eq ((upd_ne (by decide)).trans H3.data) ((upd_ne (by decide)).trans j3) ((upd_ne (by decide)).trans i3) (fun s5 S5 => ?_)))
    refine wpQ_of (wpAny_execs_nil ?_)
    exact ⟨_, _, ⟨rfl, mf_upd H3, (upd_ne (by decide)).trans i3, (upd_ne (by decide)).trans j3⟩, S5.out2⟩
  · rintro own₁ m₁ s₁ ⟨rfl, H3, i3, j3⟩ S3
    replace S3 := S3.drop1
    refine wpQ_execs_cons (wpQ_of (w_xor P9 C D hlen hmany hw hw1 hw2 S3 H3.many H3.data j3 (fun s4 S4 => ?_)))
    refine wpQ_execs_cons (wpQ_of (w_xor0 P9 C D hlen hmany hw hw1 hw2 S4 H3.many H3.data j3 (fun s5 S5 => ?_)))
    refine wpQ_execs_cons (w_rot P9 C D hlen hmany dN S5 H3.many H3.data (fun s6 S6 => ?_))
    exact wpQ_of (wpAny_execs_nil (k _ _ H3 S6))
theorem tame_run (P9 : Pg w p loose mg mb b) (C : Cx (n + 9) b A outer h₀) {num sg : Int} {u tm ts : Tok} {many : Nat} {v : Value} {bs : Array UInt8} {soft inc : Bool} {ln : Addr} {rs : List Int} (D : DX X v bs soft) (hb : octs bs = rs) (hi : IntsAre rv rs) (hlen : rs.length ≤ 8) (dR : oR.data = .cell (some (.ref lr))) (dN : oN.data = .cell (some (.int num u))) (h0 : 0 ≤ sg) (h1 : sg < 256)
    (H : MF m many tm v soft ln) (hinc : m (Str.ofString "include") = some (.bool inc)) (hsg : m (Str.ofString "sign") = some (.int sg ts))
    (S : LS h₀ outer L dr os ((L+3, oK) :: (L+2, oR) :: (L+1, oN) :: (lr, listOf rv.toArray nr) :: X) m s) (k : ∀ s' m', MF m' many tm v soft ln → LS h₀ outer L dr os ((L+3, oK) :: (L+2, oR) :: (L+1, oN) :: (lr, listOf rv.toArray nr) :: X) m' s' → Q .next s') : wpQ (model PySem.Challenge.rw_br5013_01.row.prog w) (A.deeper (lawEnv L a cd)) (execs tameBody (lawEnv L a cd)) Q (fun _ _ => False) s := by
  rw [tameBody_eq]
  refine wpQ_execs_cons (wpQ_of (t_find P9 C D hb hi hlen dR h0 h1 S H.data hsg (fun s1 S1 => ?_)))
  refine wpQ_execs_cons (wpQ_of (t_byte P9 C D h0 h1 S1 H.data hsg (fun s2 S2 => ?_)))
  refine wpQ_execs_cons (wpQ_of (t_strip P9 C D hb hi hlen dR h0 h1 S2 H.data hsg H.soft (fun s3 S3 => ?_)))
  refine wpQ_execs_cons (wpQ_of (t_cut P9 C D hb hi hlen dR h0 h1 S3 H.data hsg H.soft hinc (fun s4 S4 => ?_)))
  refine wpQ_execs_cons (wpQ_of (t_end P9 C dN S4 hsg (fun s5 le ve s2 hve hs2 S5 => ?_)))
  have H5 := mf_upd (x' := .ref le) (x := Str.ofString "end") H
  refine wpQ_execs_cons (wpQ_of (t_multi P9 C (D.mono fun _ h => .tail _ h) hb hi hlen dR ⟨h0, h1⟩ (hs2 ▸ sgn_oct _) (.head _) hve S5.in1 H5.data H5.soft ((upd_ne (by decide)).trans hinc) upd_eq (fun s6 S6 => ?_)))
  exact wpQ_of (wpAny_execs_nil (k _ _ H5 S6.out1.drop1))
end Br
end
-- BrS1
section
open PySem PySem.W PySem.Calls PyProof.Rows
set_option Elab.async false
set_option maxRecDepth 100000
set_option linter.unusedVariables false
set_option pp.deepTerms false
set_option pp.deepTerms.threshold 6
namespace Br
variable {w : World} {n : Nat} {b h₀ : Heap} {A : Around} {outer : List Env} {s : Shared} {Q : Flow → Shared → Prop} {p : Program} {loose : List Str} {mg mb : Str → Option Value} {L a : Addr} {cd : Value} {dr : Drawn} {os : OsState} {X : List (Addr × Obj)} {m : Str → Option Value} {oK oR oN : Obj} {lr : Addr} {rv : List Value} {nr : Nat}
set_option maxHeartbeats 4000000 in
theorem s_include (P9 : Pg w p loose mg mb b) (C : Cx (n + 9) b A outer h₀) {num : Int} {u : Tok} (dN : oN.data = .cell (some (.int num u))) (S : LS h₀ outer L dr os ((L+3, oK) :: (L+2, oR) :: (L+1, oN) :: (lr, listOf rv.toArray nr) :: X) m s) (k : ∀ s' bv, bv = decide (num % 2 = 0) → LS h₀ outer L dr os ((L+3, oK) :: (L+2, oR) :: (L+1, oN) :: (lr, listOf rv.toArray nr) :: X) (upd m (Str.ofString "include") (.bool bv)) s' → Q .next s') : wpAny (model PySem.Challenge.rw_br5013_01.row.prog w) (A.deeper (lawEnv L a cd)) (exec (nth inBody 5) (lawEnv L a cd)) Q (fun _ _ => False) s := by
  obtain ⟨⟨fl, F, N, G⟩, ab, hd, ho, nd⟩ := S
  obtain ⟨h, gs, d9, tk, o9⟩ := s
  have X9 := P9.X.keeps (C.base P9.bt)
  have T := P9.T.keeps (C.base P9.bt)
  have hh9 := C.hd
  have bt := P9.bt
  simp only [lawEnv]
  conv in (nth inBody 5) => whnf
  conv in (occs := *) lawScope => all_goals whnf
  have XK := X9
  clear X9
  dsimp only [upd] at F N ab hd ho
  k_steps
  refine k _ _ ?e_131 (LS.to (LS.of (by assumption) (by assumption) (.cons _ (.cons _ (.cons _ (.cons _ (Spl.app X))))) G ab hd ho nd) rfl)
  rw [Int.fmod_eq_emod_of_nonneg _ (by decide)]
  by_cases h : num % 2 = 0 <;> simp [h]

set_option maxHeartbeats 4000000 in
theorem s_place (P9 : Pg w p loose mg mb b) (C : Cx (n + 9) b A outer h₀) {num : Int} {u tm : Tok} {many : Nat} (hmany : many ≤ 8) (dN : oN.data = .cell (some (.int num u))) (S : LS h₀ outer L dr os ((L+3, oK) :: (L+2, oR) :: (L+1, oN) :: (lr, listOf rv.toArray nr) :: X) m s) (hm0 : m (Str.ofString "many") = some (.int (many : Nat) tm)) (k : ∀ s' pl t, pl = num % (2 * many + 5) - many - 2 → LS h₀ outer L dr os ((L+3, oK) :: (L+2, oR) :: (L+1, oN) :: (lr, listOf rv.toArray nr) :: X) (upd m (Str.ofString "place") (.int pl t)) s' → Q .next s') : wpAny (model PySem.Challenge.rw_br5013_01.row.prog w) (A.deeper (lawEnv L a cd)) (exec (nth inBody 0) (lawEnv L a cd)) Q (fun _ _ => False) s := by
  rw [← upd_say hm0] at S
  obtain ⟨⟨fl, F, N, G⟩, ab, hd, ho, nd⟩ := S
  obtain ⟨h, gs, d9, tk, o9⟩ := s
  have X9 := P9.X.keeps (C.base P9.bt)
  have T := P9.T.keeps (C.base P9.bt)
  have hh9 := C.hd
  have bt := P9.bt
  simp only [lawEnv]
  conv in (nth inBody 0) => whnf
  conv in (occs := *) lawScope => all_goals whnf
  have XK := X9
  clear X9
  dsimp only [upd] at F N ab hd ho
  k_steps
  refine k _ _ _ ?e_191 (LS.to (LS.of (by assumption) (by assumption) (.cons _ (.cons _ (.cons _ (.cons _ (Spl.app X))))) G ab hd ho nd) (by show upd (upd m (Str.ofString "many") (.int (many : Nat) tm)) (Str.ofString "place") _ = _; rw [upd_say hm0]))
  rw [Int.fmod_eq_emod_of_nonneg _ (by omega)]

set_option maxHeartbeats 4000000 in
theorem s_spot (P9 : Pg w p loose mg mb b) (C : Cx (n + 9) b A outer h₀) {tm tp : Tok} {many : Nat} {place : Int} (hmany : many ≤ 8) (h1 : -10 ≤ place) (h2 : place ≤ 10) (S : LS h₀ outer L dr os ((L+3, oK) :: (L+2, oR) :: (L+1, oN) :: (lr, listOf rv.toArray nr) :: X) m s) (hm0 : m (Str.ofString "many") = some (.int (many : Nat) tm)) (hm1 : m (Str.ofString "place") = some (.int place tp)) (k : ∀ s' sp t, sp = (if place < 0 then place + many else place) → LS h₀ outer L dr os ((L+3, oK) :: (L+2, oR) :: (L+1, oN) :: (lr, listOf rv.toArray nr) :: X) (upd m (Str.ofString "spot") (.int sp t)) s' → Q .next s') : wpAny (model PySem.Challenge.rw_br5013_01.row.prog w) (A.deeper (lawEnv L a cd)) (exec (nth inBody 1) (lawEnv L a cd)) Q (fun _ _ => False) s := by
  rw [← upd_say hm0, ← upd_say hm1] at S
  obtain ⟨⟨fl, F, N, G⟩, ab, hd, ho, nd⟩ := S
  obtain ⟨h, gs, d9, tk, o9⟩ := s
  have X9 := P9.X.keeps (C.base P9.bt)
  have T := P9.T.keeps (C.base P9.bt)
  have hh9 := C.hd
  have bt := P9.bt
  simp only [lawEnv]
  conv in (nth inBody 1) => whnf
  conv in (occs := *) lawScope => all_goals whnf
  have XK := X9
  clear X9
  dsimp only [upd] at F N ab hd ho
  k_steps
  · refine k _ _ _ ?e_241 (LS.to (LS.of (by assumption) (by assumption) (.cons _ (.cons _ (.cons _ (.cons _ (Spl.app X))))) G ab hd ho nd) (by show upd (upd (upd m (Str.ofString "place") (.int place tp)) (Str.ofString "many") (.int (many : Nat) tm)) (Str.ofString "spot") _ = _; rw [upd_say hm1, upd_say hm0]))
    rw [if_pos (by assumption)]
  · refine k _ _ _ ?e_261 (LS.to (LS.of (by assumption) (by assumption) (.cons _ (.cons _ (.cons _ (.cons _ (Spl.app X))))) G ab hd ho nd) (by show upd (upd (upd m (Str.ofString "place") (.int place tp)) (Str.ofString "many") (.int (many : Nat) tm)) (Str.ofString "spot") _ = _; rw [upd_say hm1, upd_say hm0]))
    rw [if_neg (by assumption)]

set_option maxHeartbeats 4000000 in
theorem s_due (P9 : Pg w p loose mg mb b) (C : Cx (n + 9) b A outer h₀) {tm tp : Tok} {many : Nat} {spot : Int} {rs : List Int} (hi : IntsAre rv rs) (hlen : rs.length = many) (hmany : many ≤ 8) (dR : oR.data = .cell (some (.ref lr))) (S : LS h₀ outer L dr os ((L+3, oK) :: (L+2, oR) :: (L+1, oN) :: (lr, listOf rv.toArray nr) :: X) m s) (hm0 : m (Str.ofString "many") = some (.int (many : Nat) tm)) (hm1 : m (Str.ofString "spot") = some (.int spot tp)) (k : ∀ s' v, (if 0 ≤ spot ∧ spot < many then ∃ t, v = Value.int (rs.getD spot.toNat 0) t else ∃ t, v = Value.str (Str.ofString "no such place") t) → LS h₀ outer L dr os ((L+3, oK) :: (L+2, oR) :: (L+1, oN) :: (lr, listOf rv.toArray nr) :: X) (upd m (Str.ofString "due") v) s' → Q .next s') : wpAny (model PySem.Challenge.rw_br5013_01.row.prog w) (A.deeper (lawEnv L a cd)) (exec (nth inBody 2) (lawEnv L a cd)) Q (fun _ _ => False) s := by
  rw [← upd_say hm0, ← upd_say hm1] at S
  obtain ⟨⟨fl, F, N, G⟩, ab, hd, ho, nd⟩ := S
  obtain ⟨h, gs, d9, tk, o9⟩ := s
  have X9 := P9.X.keeps (C.base P9.bt)
  have T := P9.T.keeps (C.base P9.bt)
  have hh9 := C.hd
  have bt := P9.bt
  simp only [lawEnv]
  conv in (nth inBody 2) => whnf
  conv in (occs := *) lawScope => all_goals whnf
  have XK := X9
  clear X9
  dsimp only [upd] at F N ab hd ho
  k_steps
  · refine k _ _ ?e_311 (LS.to (LS.of (by assumption) (by assumption) (.cons _ (.cons _ (.cons _ (.cons _ (Spl.app X))))) G ab hd ho nd) (by show upd (upd (upd m (Str.ofString "spot") (.int spot tp)) (Str.ofString "many") (.int (many : Nat) tm)) (Str.ofString "due") _ = _; rw [upd_say hm1, upd_say hm0]))
    rw [if_pos ⟨by assumption, by assumption⟩]; exact ⟨_, rfl⟩
  · refine k _ _ ?e_331 (LS.to (LS.of (by assumption) (by assumption) (.cons _ (.cons _ (.cons _ (.cons _ (Spl.app X))))) G ab hd ho nd) (by show upd (upd (upd m (Str.ofString "spot") (.int spot tp)) (Str.ofString "many") (.int (many : Nat) tm)) (Str.ofString "due") _ = _; rw [upd_say hm1, upd_say hm0]))
    rw [if_neg (fun h => by omega)]; exact ⟨_, rfl⟩
  · refine k _ _ ?e_351 (LS.to (LS.of (by assumption) (by assumption) (.cons _ (.cons _ (.cons _ (.cons _ (Spl.app X))))) G ab hd ho nd) (by show upd (upd (upd m (Str.ofString "spot") (.int spot tp)) (Str.ofString "many") (.int (many : Nat) tm)) (Str.ofString "due") _ = _; rw [upd_say hm1, upd_say hm0]))
    rw [if_neg (fun h => by omega)]; exact ⟨_, rfl⟩
end Br
end
-- BrS2
section
open PySem PySem.W PySem.Calls PyProof.Rows
set_option Elab.async false
set_option maxRecDepth 100000
set_option linter.unusedVariables false
set_option pp.deepTerms false
set_option pp.deepTerms.threshold 6
namespace Br
local macro_rules | `(tactic| walk_at "call ref") => `(tactic| (refine hold ?_))
local macro_rules | `(tactic| walk_at "subscriptTail") => `(tactic| ((with_reducible show wpAny _ _ (subscriptTail _ _ (Value.ref 519) (Value.int (Int.fmod _ 7) _)) _ _ _); refine item_signs (by assumption) (by assumption) (Int.fmod_nonneg_of_pos _ (by decide)) (Int.fmod_lt_of_pos _ (by decide)) (fun tz => ?_)))
variable {w : World} {n : Nat} {b h₀ : Heap} {A : Around} {outer : List Env} {s : Shared} {Q : Flow → Shared → Prop} {p : Program} {loose : List Str} {mg mb : Str → Option Value} {L a : Addr} {cd : Value} {dr : Drawn} {os : OsState} {X : List (Addr × Obj)} {m : Str → Option Value} {oK oR oN : Obj} {lr : Addr} {rv : List Value} {nr : Nat}
set_option maxHeartbeats 4000000 in
theorem s_ask0 (P9 : Pg w p loose mg mb b) (C : Cx (n + 9) b A outer h₀) {tp : Tok} {v dv : Value} {bs : Array UInt8} {soft : Bool} {many : Nat} {place spot : Int} {rs : List Int} (D : DX X v bs soft) (hb : octs bs = rs) (hlen : rs.length = many) (hmany : many ≤ 8) (h1 : -10 ≤ place) (h2 : place ≤ 10) (hsp : spot = (if place < 0 then place + many else place)) (hdv : if 0 ≤ spot ∧ spot < many then ∃ t, dv = Value.int (rs.getD spot.toNat 0) t else ∃ t, dv = Value.str (Str.ofString "no such place") t) (S : LS h₀ outer L dr os ((L+3, oK) :: (L+2, oR) :: (L+1, oN) :: (lr, listOf rv.toArray nr) :: X) m s) (hm0 : m (Str.ofString "data") = some (v)) (hm1 : m (Str.ofString "place") = some (.int place tp)) (hm2 : m (Str.ofString "due") = some (dv)) (k : ∀ s', LS h₀ outer L dr os ((L+3, oK) :: (L+2, oR) :: (L+1, oN) :: (lr, listOf rv.toArray nr) :: X) m s' → Q .next s') : wpAny (model PySem.Challenge.rw_br5013_01.row.prog w) (A.deeper (lawEnv L a cd)) (exec (nth inBody 3) (lawEnv L a cd)) Q (fun _ _ => False) s := by
  rw [← upd_say hm0, ← upd_say hm1, ← upd_say hm2] at S
  obtain ⟨⟨fl, F, N, G⟩, ab, hd, ho, nd⟩ := S
  obtain ⟨h, gs, d9, tk, o9⟩ := s
  have X9 := P9.X.keeps (C.base P9.bt)
  revert X9
  k_fill
  intro X9
  have T := P9.T.keeps (C.base P9.bt)
  have hh9 := C.hd
  have bt := P9.bt
  simp only [lawEnv]
  conv in (nth inBody 3) => whnf
  conv in (occs := *) lawScope => all_goals whnf
  have XK := X9
  clear X9
  dsimp only [upd] at F N ab hd ho
  have hf : Builtin.Bytes.fitsIndex place = true := fits_small h1 h2
  by_cases hin : 0 ≤ spot ∧ spot < many
  · rw [if_pos hin] at hdv
    obtain ⟨td, rfl⟩ := hdv
    obtain ⟨c, hx, hc⟩ := idx_in hb hlen hsp hin
    k_steps
    refine (show wpAny _ _ _ _ _ _ from ?_)
    have S9 := LS.of (s := ⟨_, gs, d9, 0, o9⟩) (by assumption) (by assumption) (.cons _ (.cons _ (.cons _ (.cons _ (Spl.app X))))) G ab hd ho nd
    refine' k_index P9 ?hC_22 ?hg_22 _ v bs soft ?hD_22 _ _ _ c hf hx ?hk_22
    case hC_22 => exact LS.cx (LS.tk S9) C bt (by rfl) (by rfl) (by rfl)
    case hg_22 => exact ab
    case hD_22 => exact S9.dataH (D.mono fun q hq => (.tail _ (.tail _ (.tail _ (.tail _ hq)))))
    refine LS.ret (LS.tk S9) C bt (by rfl) (fun r s9 S8 af9 hr => ?_)
    clear S9 af9
    repeat (rename News _ _ _ _ => Nz; clear Nz)
    repeat (rename Fr _ _ _ _ => Fz; clear Fz)
    clear G ab hd ho nd
    obtain ⟨⟨fl, F, N, G⟩, ab, hd, ho, nd⟩ := S8
    obtain ⟨h, gs, d9, tk, o9⟩ := s9
    dsimp only [upd] at F N ab hd ho hr
    obtain ⟨t, rfl⟩ := hr
    k_steps
    · exact absurd hc (by assumption)
    · refine k _  (LS.to (LS.of (by assumption) (by assumption) (.cons _ (.cons _ (.cons _ (.cons _ (Spl.app X))))) G ab hd ho nd) (by show (upd (upd (upd m (Str.ofString "due") _) (Str.ofString "place") _) (Str.ofString "data") _) = m; rw [upd_say hm2, upd_say hm1, upd_say hm0]))
  · rw [if_neg hin] at hdv
    obtain ⟨td, rfl⟩ := hdv
    have hx := idx_out hb hlen hsp hin
    k_steps
    refine (show wpAny _ _ _ _ _ _ from ?_)
    have S9 := LS.of (s := ⟨_, gs, d9, 0, o9⟩) (by assumption) (by assumption) (.cons _ (.cons _ (.cons _ (.cons _ (Spl.app X))))) G ab hd ho nd
    refine' kb_index P9 ?hC_32 ?hg_32 _ v bs soft ?hD_32 _ _ _ hf hx ?hk_32
    case hC_32 => exact LS.cx (LS.tk S9) C bt (by rfl) (by rfl) (by rfl)
    case hg_32 => exact ab
    case hD_32 => exact S9.dataH (D.mono fun q hq => (.tail _ (.tail _ (.tail _ (.tail _ hq)))))
    refine LS.ret (LS.tk S9) C bt (by rfl) (fun r s9 S8 af9 hr => ?_)
    clear S9 af9
    repeat (rename News _ _ _ _ => Nz; clear Nz)
    repeat (rename Fr _ _ _ _ => Fz; clear Fz)
    clear G ab hd ho nd
    obtain ⟨⟨fl, F, N, G⟩, ab, hd, ho, nd⟩ := S8
    obtain ⟨h, gs, d9, tk, o9⟩ := s9
    dsimp only [upd] at F N ab hd ho hr
    obtain ⟨t, rfl⟩ := hr
    k_steps
    refine k _  (LS.to (LS.of (by assumption) (by assumption) (.cons _ (.cons _ (.cons _ (.cons _ (Spl.app X))))) G ab hd ho nd) (by show (upd (upd (upd m (Str.ofString "due") _) (Str.ofString "place") _) (Str.ofString "data") _) = m; rw [upd_say hm2, upd_say hm1, upd_say hm0]))
set_option maxHeartbeats 4000000 in
theorem s_sign (P9 : Pg w p loose mg mb b) (C : Cx (n + 9) b A outer h₀) {num : Int} {u : Tok} (dN : oN.data = .cell (some (.int num u))) (S : LS h₀ outer L dr os ((L+3, oK) :: (L+2, oR) :: (L+1, oN) :: (lr, listOf rv.toArray nr) :: X) m s) (k : ∀ s' sg t, sg = sgn (num / 7 % 7) → LS h₀ outer L dr os ((L+3, oK) :: (L+2, oR) :: (L+1, oN) :: (lr, listOf rv.toArray nr) :: X) (upd m (Str.ofString "sign") (.int sg t)) s' → Q .next s') : wpAny (model PySem.Challenge.rw_br5013_01.row.prog w) (A.deeper (lawEnv L a cd)) (exec (nth inBody 4) (lawEnv L a cd)) Q (fun _ _ => False) s := by
  obtain ⟨⟨fl, F, N, G⟩, ab, hd, ho, nd⟩ := S
  obtain ⟨h, gs, d9, tk, o9⟩ := s
  have X9 := P9.X.keeps (C.base P9.bt)
  revert X9
  k_fill
  intro X9
  have T := P9.T.keeps (C.base P9.bt)
  have hh9 := C.hd
  have bt := P9.bt
  simp only [lawEnv]
  conv in (nth inBody 4) => whnf
  conv in (occs := *) lawScope => all_goals whnf
  have XK := X9
  clear X9
  dsimp only [upd] at F N ab hd ho
  k_steps
  refine k _ _ _ ?e_38 (LS.to (LS.of (by assumption) (by assumption) (.cons _ (.cons _ (.cons _ (.cons _ (Spl.app X))))) G ab hd ho nd) rfl)
  rw [Int.fmod_eq_emod_of_nonneg _ (by decide), Int.fdiv_eq_ediv_of_nonneg _ (by decide)]
end Br
end
-- BrK11
section
open PySem PySem.W PySem.Calls PyProof.Rows
set_option Elab.async false
set_option maxRecDepth 100000
set_option linter.unusedVariables false
set_option linter.unusedSimpArgs false
set_option pp.deepTerms false
set_option pp.deepTerms.threshold 6
namespace Br
local macro_rules | `(tactic| walk_at "exec Try") => `(tactic| (refine hold ?_))
local macro_rules | `(tactic| walk_at "exec Try If") => `(tactic| (refine hold ?_))
local macro_rules | `(tactic| walk_at "call type:str") => `(tactic| ((with_reducible show wpAny _ _ (call _ [Value.ref _]) _ _ _); refine hold ?_))
variable {w : World} {n : Nat} {b : Heap} {A : Around} {outer : List Env} {s : Shared} {Q E : Value → Shared → Prop} {p : Program} {loose : List Str} {mg mb : Str → Option Value}
set_option maxHeartbeats 4000000 in
theorem k_group (P9 : Pg w p loose mg mb b) (C : Cx (n+3) b A outer s.heap) (g : AllBare s.gens) (u0 : Tok) (v : Value) (i k1 : Int) (u u1 : Tok) (hg : k1 ≠ 1) (hlo : -9 ≤ k1) (hhi : k1 ≤ 10) (k : Ret outer s (fun r _ => ∃ t, r = Value.str (groupMsg k1) t) Q) : wpAny (model PySem.Challenge.rw_br5013_01.row.prog w) A (PySem.call (.ref 526) [Value.int 11 u0, v, Value.int i u, Value.int k1 u1]) Q E s := by
  have X := P9.X
  have T := P9.T
  have bt := P9.bt
  revert X
  k_fill
  intro X
  refine' enter_any (f := 526) C X T.nolimit (ho := ?h1) (hcd := ?h2) (hbind := ?h3) (hloc := ?h4) (hcell := ?h5) (hco := ?h6) (hgen := ?h7) (hk := ?h8) (h := ?h9)
  case h1 => k_is
  case h2 => k_is
  case h3 => exact .of_eq rfl
  case h4 => exact locs rfl
  case h5 => decide
  case h6 => rfl
  case h7 => rfl
  case h8 => rfl
  intro L h₁ fl F N G hs
  have hh9 := C.hd
  replace X := X.keeps (C.base bt)
  replace T := T.keeps (C.base bt)
  replace F : Fr (under s.heap outer) L h₁ (fun y => List.lookup y [(Str.ofString "y", Value.int k1 u1), (Str.ofString "x", Value.int i u), (Str.ofString "data", v), (Str.ofString "kind", Value.int 11 u0)]) := F
  k_steps
  refine (show wpAny _ _ _ _ _ _ from ?_)
  refine wpAny_Try_except ?_
  k_steps
  refine' c_rot_group P9 ?hC8 ?hg8 _ _ _ _ _ hg hlo hhi ?hk8
  case hC8 => exact Cx.push C bt (C.base bt) F N .nil G rfl rfl rfl
  case hg8 => exact g
  intro e vs h' g' tk' hv8 x8 g2
  obtain ⟨tv, rfl⟩ := hv8
  refine land (Around.frames_deeper C.fr) rfl x8 (fun h5 x5 => ?_)
  obtain ⟨fl5, F5, N5, G5⟩ := behind C bt F N .nil G nds_nil rfl x5.af
  refine clause_miss (T := "IndexError") x5 F5 X T (by kernel_rfl) (by kernel_rfl) (by decide) (by rw [isSubtype_type]; kernel_rfl) (by rw [isSubtype_type]; kernel_rfl) (by rw [isSubtype_type]; kernel_rfl) ?_
  refine clause_miss (T := "ValueError") x5 F5 X T (by kernel_rfl) (by kernel_rfl) (by decide) (by rw [isSubtype_type]; kernel_rfl) (by rw [isSubtype_type]; kernel_rfl) (by rw [isSubtype_type]; kernel_rfl) ?_
  refine clause_as (T := "NotImplementedError") x5 F5 X T (by kernel_rfl) (by kernel_rfl) (by decide) (by rw [isSubtype_type]; kernel_rfl) (by rw [isSubtype_type]; kernel_rfl) (by rw [isSubtype_type]; kernel_rfl) (fun E6 E7 h6 x6 => ?_)
  obtain ⟨fl6, F6, N6, G6⟩ := behind C bt F N .nil G nds_nil rfl x6.af
  clear F N F5 N5
  refine wpAny_storeName_local rfl F6.ns (fun h7 hn7 sb7 => ?_)
  obtain ⟨ea, t0, rfl, hE7, hT7⟩ := told_at x6 F6.ns sb7
  have F7 := fr_store F6 hn7 sb7
  have N7 := news_store N6 sb7
  clear F6 N6
  k_steps
  refine (show wpAny _ _ _ _ _ _ from ?_)
  refine PySem.P.str_of_exc_one PySem.F.excStr_NotImplementedError (by have := C.un; first | (show A.units + 3 + 2 < cLine; omega) | (show A.units + 4 + 2 < cLine; omega) | (show A.units + 5 + 2 < cLine; omega) | (show A.units + 2 + 2 < cLine; omega) | (show A.units + 1 + 2 < cLine; omega)) hE7 hT7 ?_
  k_steps
  refine wpAny_nameGoes rfl F7.ns rfl (fun h8 m8 hn8 sb8 => ?_)
  exact k _ _ _ _ (ends_af (fr_store F7 hn8 sb8) (news_store N7 sb8) .nil G6 C.tb) g2 ⟨_, rfl⟩
end Br
end
-- BrS6
section
open PySem PySem.W PySem.Calls PyProof.Rows
set_option Elab.async false
set_option maxRecDepth 100000
set_option linter.unusedVariables false
set_option pp.deepTerms false
set_option pp.deepTerms.threshold 6
namespace Br
local macro_rules | `(tactic| walk_at "call ref") => `(tactic| (refine hold ?_))
local macro_rules | `(tactic| walk_at "subscriptTail") => `(tactic| ((with_reducible show wpAny _ _ (subscriptTail _ _ (Value.ref 519) (Value.int (Int.fmod _ 7) _)) _ _ _); refine item_signs (by assumption) (by assumption) (Int.fmod_nonneg_of_pos _ (by decide)) (Int.fmod_lt_of_pos _ (by decide)) (fun tz => ?_)))
local macro_rules | `(tactic| walk_at "call type:bytes") => `(tactic| (refine hold ?_))
variable {w : World} {n : Nat} {b h₀ : Heap} {A : Around} {outer : List Env} {s : Shared} {Q : Flow → Shared → Prop} {p : Program} {loose : List Str} {mg mb : Str → Option Value} {L a : Addr} {cd : Value} {dr : Drawn} {os : OsState} {X : List (Addr × Obj)} {m : Str → Option Value} {oK oR oN : Obj} {lr : Addr} {rv : List Value} {nr : Nat}
set_option maxHeartbeats 4000000 in
theorem s_group (P9 : Pg w p loose mg mb b) (C : Cx (n + 9) b A outer h₀) {num : Int} {u : Tok} (dN : oN.data = .cell (some (.int num u))) (S : LS h₀ outer L dr os ((L+3, oK) :: (L+2, oR) :: (L+1, oN) :: (lr, listOf rv.toArray nr) :: X) m s) (k : ∀ s' gr t, gr ≠ 1 → -9 ≤ gr → gr ≤ 10 → LS h₀ outer L dr os ((L+3, oK) :: (L+2, oR) :: (L+1, oN) :: (lr, listOf rv.toArray nr) :: X) (upd m (Str.ofString "group") (.int gr t)) s' → Q .next s') : wpAny (model PySem.Challenge.rw_br5013_01.row.prog w) (A.deeper (lawEnv L a cd)) (exec (nth inBody 7) (lawEnv L a cd)) Q (fun _ _ => False) s := by
  obtain ⟨⟨fl, F, N, G⟩, ab, hd, ho, nd⟩ := S
  obtain ⟨h, gs, d9, tk, o9⟩ := s
  have X9 := P9.X.keeps (C.base P9.bt)
  revert X9
  k_fill
  intro X9
  have T := P9.T.keeps (C.base P9.bt)
  have hh9 := C.hd
  have bt := P9.bt
  simp only [lawEnv]
  conv in (nth inBody 7) => whnf
  conv in (occs := *) lawScope => all_goals whnf
  have XK := X9
  clear X9
  dsimp only [upd] at F N ab hd ho
  have hf1 := Int.fmod_nonneg_of_pos num (b := 9) (by decide)
  have hf2 := Int.fmod_lt_of_pos num (b := 9) (by decide)
  k_steps
  · refine k _ _ _ ?e_201 ?e_202 ?e_203 (LS.to (LS.of (by assumption) (by assumption) (.cons _ (.cons _ (.cons _ (.cons _ (Spl.app X))))) G ab hd ho (by exact nd)) rfl)
    all_goals omega
  · refine k _ _ _ ?e_221 ?e_222 ?e_223 (LS.to (LS.of (by assumption) (by assumption) (.cons _ (.cons _ (.cons _ (.cons _ (Spl.app X))))) G ab hd ho (by exact nd)) rfl)
    all_goals omega
set_option maxHeartbeats 4000000 in
theorem s_ask11 (P9 : Pg w p loose mg mb b) (C : Cx (n + 9) b A outer h₀) {tg : Tok} {v : Value} {num gr : Int} {u : Tok} (dN : oN.data = .cell (some (.int num u))) (hg : gr ≠ 1) (hg1 : -9 ≤ gr) (hg2 : gr ≤ 10) (S : LS h₀ outer L dr os ((L+3, oK) :: (L+2, oR) :: (L+1, oN) :: (lr, listOf rv.toArray nr) :: X) m s) (hm0 : m (Str.ofString "data") = some (v)) (hm1 : m (Str.ofString "group") = some (.int gr tg)) (k : ∀ s', LS h₀ outer L dr os ((L+3, oK) :: (L+2, oR) :: (L+1, oN) :: (lr, listOf rv.toArray nr) :: X) m s' → Q .next s') : wpAny (model PySem.Challenge.rw_br5013_01.row.prog w) (A.deeper (lawEnv L a cd)) (exec (nth inBody 8) (lawEnv L a cd)) Q (fun _ _ => False) s := by
  rw [← upd_say hm0, ← upd_say hm1] at S
  obtain ⟨⟨fl, F, N, G⟩, ab, hd, ho, nd⟩ := S
  obtain ⟨h, gs, d9, tk, o9⟩ := s
  have X9 := P9.X.keeps (C.base P9.bt)
  revert X9
  k_fill
  intro X9
  have T := P9.T.keeps (C.base P9.bt)
  have hh9 := C.hd
  have bt := P9.bt
  simp only [lawEnv]
  conv in (nth inBody 8) => whnf
  conv in (occs := *) lawScope => all_goals whnf
  have XK := X9
  clear X9
  dsimp only [upd] at F N ab hd ho
  k_steps
  refine (show wpAny _ _ _ _ _ _ from ?_)
  have S9 := LS.of (s := ⟨_, gs, d9, 0, o9⟩) (by assumption) (by assumption) (.cons _ (.cons _ (.cons _ (.cons _ (Spl.app X))))) G ab hd ho nd
  refine' k_group P9 ?hC_27 ?hg_27 _ v _ gr _ _ hg hg1 hg2 ?hk_27
  case hC_27 => exact LS.cx (LS.tk S9) C bt (by rfl) (by rfl) (by rfl)
  case hg_27 => exact ab
  refine LS.ret (LS.tk S9) C bt (by rfl) (fun r s9 S8 af9 hr => ?_)
  clear S9 af9
  repeat (rename News _ _ _ _ => Nz; clear Nz)
  repeat (rename Fr _ _ _ _ => Fz; clear Fz)
  clear G ab hd ho nd
  obtain ⟨⟨fl, F, N, G⟩, ab, hd, ho, nd⟩ := S8
  obtain ⟨h, gs, d9, tk, o9⟩ := s9
  dsimp only [upd] at F N ab hd ho hr
  obtain ⟨t, rfl⟩ := hr
  k_steps
  · exact absurd (by assumption) (group_same gr)
  · refine k _  (LS.to (LS.of (by assumption) (by assumption) (.cons _ (.cons _ (.cons _ (.cons _ (Spl.app X))))) G ab hd ho (by exact nd)) (by show (upd (upd m (Str.ofString "group") _) (Str.ofString "data") _) = m; rw [upd_say hm1, upd_say hm0]))
set_option maxHeartbeats 4000000 in
theorem s_key (P9 : Pg w p loose mg mb b) (C : Cx (n + 9) b A outer h₀) {num : Int} {u : Tok} {ck : Option Value} (dN : oN.data = .cell (some (.int num u))) (dK : oK.data = .cell ck) (nc : NC X) (S : LS h₀ outer L dr os ((L+3, oK) :: (L+2, oR) :: (L+1, oN) :: (lr, listOf rv.toArray nr) :: X) m s) (k : ∀ s' oK' lk vk, IntsAre vk (keyOf num) → oK'.data = .cell (some (.ref lk)) → LS h₀ outer L dr os ((lk, listOf vk.toArray 0) :: (L+3, oK') :: (L+2, oR) :: (L+1, oN) :: (lr, listOf rv.toArray nr) :: X) m s' → Q .next s') : wpAny (model PySem.Challenge.rw_br5013_01.row.prog w) (A.deeper (lawEnv L a cd)) (exec (nth inBody 9) (lawEnv L a cd)) Q (fun _ _ => False) s := by
  obtain ⟨⟨fl, F, N, G⟩, ab, hd, ho, nd⟩ := S
  obtain ⟨h, gs, d9, tk, o9⟩ := s
  have X9 := P9.X.keeps (C.base P9.bt)
  revert X9
  k_fill
  intro X9
  have T := P9.T.keeps (C.base P9.bt)
  have hh9 := C.hd
  have bt := P9.bt
  simp only [lawEnv]
  conv in (nth inBody 9) => whnf
  conv in (occs := *) lawScope => all_goals whnf
  have XK := X9
  clear X9
  dsimp only [upd] at F N ab hd ho
  k_steps
  rename IntsAre _ _ => hI
  have S9 := LS.of (s := ⟨_, gs, d9, 0, o9⟩) (by assumption) (by assumption) (.cons _ (.cons _ (.cons _ (.cons _ (.cons _ (.cons _ (Spl.app X))))))) G ab hd ho (by exact (nds_cons (fun _ _ q => nomatch q) (fun _ q => nomatch q) (nds_cons (fun _ _ q => nomatch q) (fun _ q => nomatch q) nd)))
  refine LS.storeCell (own1 := [_, _]) S9 C (by rfl) (lt_3 L) dK (ncc_cons (.inr fun _ q => nomatch q) (ncc_cons (.inr fun _ q => nomatch q) (ncc_cons (.inl (ne_23 L)) (ncc_cons (.inl (ne_13 L)) (ncc_cons (.inr fun _ q => nomatch q) nc.at))))) (fun h7 o7 d7 S7 => ?_)
  refine k _ o7 _ _ ?_ d7 (LS.drop2 S7)
  rw [Int.fmod_eq_emod_of_nonneg _ (by decide), Int.fmod_eq_emod_of_nonneg _ (by decide), Int.fdiv_eq_ediv_of_nonneg _ (by decide)] at hI
  exact hI
end Br
end
-- BrS7
section
open PySem PySem.W PySem.Calls PyProof.Rows
set_option Elab.async false
set_option maxRecDepth 100000
set_option linter.unusedVariables false
set_option pp.deepTerms false
set_option pp.deepTerms.threshold 6
namespace Br
local macro_rules | `(tactic| walk_at "call ref") => `(tactic| (refine hold ?_))
local macro_rules | `(tactic| walk_at "subscriptTail") => `(tactic| ((with_reducible show wpAny _ _ (subscriptTail _ _ (Value.ref 519) (Value.int (Int.fmod _ 7) _)) _ _ _); refine item_signs (by assumption) (by assumption) (Int.fmod_nonneg_of_pos _ (by decide)) (Int.fmod_lt_of_pos _ (by decide)) (fun tz => ?_)))
local macro_rules | `(tactic| walk_at "call type:bytes") => `(tactic| (refine hold ?_))
local macro_rules | `(tactic| walk_at "compareOp NotEq ref ref") => `(tactic| (refine hold ?_))
local macro_rules | `(tactic| walk_at "eval Name") => `(tactic| ((with_reducible show wpAny _ _ (eval (Expr.Name _ _) (compEnvC _ _ _ _)) _ _ _); first
  | refine ldc_global (by assumption) (by assumption) (by assumption) (by k_is) ?_
  | refine ldc_built (by assumption) (by assumption) (by assumption) (by k_is) (by boot_by_name) (by decide) ?_))
variable {w : World} {n : Nat} {b h₀ : Heap} {A : Around} {outer : List Env} {s : Shared} {Q : Flow → Shared → Prop} {p : Program} {loose : List Str} {mg mb : Str → Option Value} {L a : Addr} {cd : Value} {dr : Drawn} {os : OsState} {X : List (Addr × Obj)} {m : Str → Option Value} {oK oR oN : Obj} {lr : Addr} {rv : List Value} {nr : Nat}
set_option maxHeartbeats 4000000 in
theorem s_due2 (P9 : Pg w p loose mg mb b) (C : Cx (n + 9) b A outer h₀) {tm : Tok} {many : Nat} {lk : Addr} {vk : List Value} {rs ks : List Int} (hi : IntsAre rv rs) (hlen : rs.length = many) (hmany : many ≤ 8) (hk : IntsAre vk ks) (hkl : ks.length ≤ 3) (hk2 : ∀ d ∈ ks, 0 ≤ d ∧ d < 256) (hr2 : ∀ d ∈ rs, 0 ≤ d ∧ d < 256) (dR : oR.data = .cell (some (.ref lr))) (dK : oK.data = .cell (some (.ref lk))) (S : LS h₀ outer L dr os ((L+3, oK) :: (L+2, oR) :: (L+1, oN) :: (lr, listOf rv.toArray nr) :: (lk, listOf vk.toArray 0) :: X) m s) (hm0 : m (Str.ofString "many") = some (.int (many : Nat) tm)) (k : ∀ s' ld vd nz, IntsAre vd (if ks = [] then [] else (List.range rs.length).map fun i => Builtin.bitXor (rs.getD i 0) (ks.getD (i % ks.length) 0)) → LS h₀ outer L dr os ((ld, listOf vd.toArray nz) :: (L+3, oK) :: (L+2, oR) :: (L+1, oN) :: (lr, listOf rv.toArray nr) :: (lk, listOf vk.toArray 0) :: X) (upd m (Str.ofString "due") (.ref ld)) s' → Q .next s') : wpAny (model PySem.Challenge.rw_br5013_01.row.prog w) (A.deeper (lawEnv L a cd)) (exec (nth inBody 10) (lawEnv L a cd)) Q (fun _ _ => False) s := by
  rw [← upd_say hm0] at S
  obtain ⟨⟨fl, F, N, G⟩, ab, hd, ho, nd⟩ := S
  obtain ⟨h, gs, d9, tk, o9⟩ := s
  have X9 := P9.X.keeps (C.base P9.bt)
  revert X9
  k_fill
  intro X9
  have T := P9.T.keeps (C.base P9.bt)
  have hh9 := C.hd
  have bt := P9.bt
  simp only [lawEnv]
  conv in (nth inBody 10) => whnf
  conv in (occs := *) lawScope => all_goals whnf
  have XK := X9
  clear X9
  dsimp only [upd] at F N ab hd ho
  k_steps
  rename News _ _ _ _ => N2
  rename Fr _ _ _ _ => F2
  refine (show wpAny _ _ _ _ _ _ from ?_)
  refine ne_intsK (us := []) (N2.isList (.tail _ (.tail _ (.tail _ (.tail _ (.tail _ (.head _))))))) hk (N2.isList (.head _)) .nil (by have := C.un; show A.units + 3 + 64 < _; omega) ?_
  by_cases hks : ks = []
  · rw [decide_eq_true hks]
    k_steps
    refine k _ _ [] 0 (by rw [if_pos hks]; exact .nil) (LS.drop2 (LS.to (LS.of (by assumption) (by assumption) (.cons _ (.cons _ (.cons _ (.cons _ (.cons _ (.cons _ (.cons _ (Spl.app X)))))))) G ab hd ho (by exact (nds_cons (fun _ _ q => nomatch q) (fun _ q => nomatch q) (nds_cons (fun _ _ q => nomatch q) (fun _ q => nomatch q) nd)))) (by show upd (upd m (Str.ofString "many") _) (Str.ofString "due") _ = _; rw [upd_say hm0])))
  · rw [decide_eq_false hks]
    have hkp : 0 < ks.length := List.length_pos_iff.mpr hks
    k_steps
    rename IsRange _ _ _ _ _ _ _ _ => hrg
    rename News _ _ _ _ => N2
    rename Fr _ _ _ _ => F2
    refine LCg.CompSrc.range hh9 F2 N2 hrg (small_one (by omega) (by omega) (by omega) (by omega)) (rangeSize_nat _ _) (by rw [sizeLine_eq]; omega) (fun g' => ?_)
    refine kcf_range (fun k => Builtin.bitXor (rs.getD k.toNat 0) (ks.getD (k.fmod ks.length).toNat 0)) (fun k' t' I' oI' C' oC' D' m' ys' h' tk' E' hlo' hhi' hC' hx' F' N' off' ne' hM' => ?_) ?_
    · clear F2 N2 hrg
      (try (simp only [LCg.Off3, and_true] at off'))
      have hf1 := Int.fmod_nonneg_of_pos k' (b := (ks.length : Int)) (by omega)
      have hf2 := Int.fmod_lt_of_pos k' (b := (ks.length : Int)) (by omega)
      k_steps
      refine len_ints (News.isList N' (.tail _ (.tail _ (.tail _ (.tail _ (.tail _ (.tail _ (.tail _ (.tail _ (.head _)))))))))) hk (by omega) ?_
      k_steps
    · show ∀ ys, _ → _
      intro ys hys
      clear F2 N2 hrg
      k_steps
      refine k _ _ ys ys.length ?_ (LS.drop2 (LS.to (LS.of (by assumption) (by assumption) (.cons _ (.cons _ (.cons _ (.cons _ (.cons _ (.cons _ (.cons _ (Spl.app X)))))))) G ab hd ho (by exact (nds_cons (fun _ _ q => nomatch q) (fun _ q => nomatch q) (nds_cons (fun _ _ q => nomatch q) (fun _ q => nomatch q) nd)))) (by show upd (upd m (Str.ofString "many") _) (Str.ofString "due") _ = _; rw [upd_say hm0])))
      rw [if_neg hks, ← due_range hlen]
      exact hys
end Br
end
-- BrS8
section
open PySem PySem.W PySem.Calls PyProof.Rows
set_option Elab.async false
set_option maxRecDepth 100000
set_option linter.unusedVariables false
set_option pp.deepTerms false
set_option pp.deepTerms.threshold 6
namespace Br
local macro_rules | `(tactic| walk_at "call ref") => `(tactic| (refine hold ?_))
local macro_rules | `(tactic| walk_at "subscriptTail") => `(tactic| ((with_reducible show wpAny _ _ (subscriptTail _ _ (Value.ref 519) (Value.int (Int.fmod _ 7) _)) _ _ _); refine item_signs (by assumption) (by assumption) (Int.fmod_nonneg_of_pos _ (by decide)) (Int.fmod_lt_of_pos _ (by decide)) (fun tz => ?_)))
local macro_rules | `(tactic| walk_at "call type:bytes") => `(tactic| (refine hold ?_))
variable {w : World} {n : Nat} {b h₀ : Heap} {A : Around} {outer : List Env} {s : Shared} {Q : Flow → Shared → Prop} {p : Program} {loose : List Str} {mg mb : Str → Option Value} {L a : Addr} {cd : Value} {dr : Drawn} {os : OsState} {X : List (Addr × Obj)} {m : Str → Option Value} {oK oR oN : Obj} {lr : Addr} {rv : List Value} {nr : Nat}
set_option maxHeartbeats 4000000 in
theorem s_many (P9 : Pg w p loose mg mb b) (C : Cx (n + 9) b A outer h₀) {v : Value} {bs : Array UInt8} {soft : Bool} {nz : Nat} {lk ld : Addr} {vk vd : List Value} {rs ks : List Int} (D : DX X v bs soft) (hb : octs bs = rs) (hlen : rs.length ≤ 8) (hlk : (lk, listOf vk.toArray 0) ∈ X) (hk : IntsAre vk ks) (hkl : ks.length ≤ 3) (hk2 : ∀ d ∈ ks, 0 ≤ d ∧ d < 256) (hld : (ld, listOf vd.toArray nz) ∈ X) (hd2 : IntsAre vd (if ks = [] then [] else (List.range rs.length).map fun i => Builtin.bitXor (rs.getD i 0) (ks.getD (i % ks.length) 0))) (dK : oK.data = .cell (some (.ref lk))) (S : LS h₀ outer L dr os ((L+3, oK) :: (L+2, oR) :: (L+1, oN) :: (lr, listOf rv.toArray nr) :: X) m s) (hm0 : m (Str.ofString "data") = some (v)) (hm1 : m (Str.ofString "due") = some (.ref ld)) (k : ∀ s', LS h₀ outer L dr os ((L+3, oK) :: (L+2, oR) :: (L+1, oN) :: (lr, listOf rv.toArray nr) :: X) m s' → Q .next s') : wpAny (model PySem.Challenge.rw_br5013_01.row.prog w) (A.deeper (lawEnv L a cd)) (exec (nth inBody 11) (lawEnv L a cd)) Q (fun _ _ => False) s := by
  rw [← upd_say hm0, ← upd_say hm1] at S
  obtain ⟨⟨fl, F, N, G⟩, ab, hd, ho, nd⟩ := S
  obtain ⟨h, gs, d9, tk, o9⟩ := s
  have X9 := P9.X.keeps (C.base P9.bt)
  revert X9
  k_fill
  intro X9
  have T := P9.T.keeps (C.base P9.bt)
  have hh9 := C.hd
  have bt := P9.bt
  simp only [lawEnv]
  conv in (nth inBody 11) => whnf
  conv in (occs := *) lawScope => all_goals whnf
  have XK := X9
  clear X9
  dsimp only [upd] at F N ab hd ho
  have hz : bs.size ≤ 8 := by rw [← octs_len, hb]; exact hlen
  k_steps
  rename News _ _ _ _ => N2
  rename Fr _ _ _ _ => F2
  refine (show wpAny _ _ _ _ _ _ from ?_)
  have hlv : Heap.IsList _ lk vk.toArray := ⟨_, (N2 _ (.tail _ (.tail _ (.tail _ (.tail _ (List.mem_append_left _ hlk)))))).1, rfl, 0, rfl⟩
  refine call_bytes_ints hlv hk hk2 (by have := hk.length; rw [sizeLine_eq]; omega) hh9 (fun h3 t3 k3 kk3 => ?_)
  have F3 := fr_kp F2 kk3
  have N3 := news_kp N2 kk3
  clear F2 N2 hlv
  k_steps
  refine (show wpAny _ _ _ _ _ _ from ?_)
  have ek : octs (byteArr ks) = ks := octs_byteArr hk2
  have hkz : (byteArr ks).size = ks.length := byteArr_size ks
  have S9 := LS.of (s := ⟨_, gs, d9, 0, o9⟩) (by assumption) (by assumption) (.cons _ (.cons _ (.cons _ (.cons _ (Spl.app X))))) G ab hd ho (by exact nd)
  refine' k_xorm P9 ?hC_30 ?hg_30 _ v bs soft ?hD_30 (byteArr ks) _ _ hz (by omega) (fun c hc d hd => xor_in (octs_rng c hc) (octs_rng d hd)) ?hk_30
  case hC_30 => exact LS.cx (LS.tk S9) C bt (by rfl) (by rfl) (by rfl)
  case hg_30 => exact ab
  case hD_30 => exact S9.dataH (D.mono fun q hq => (.tail _ (.tail _ (.tail _ (.tail _ hq)))))
  refine LS.ret (LS.tk S9) C bt (by rfl) (fun r s9 S8 af9 hr => ?_)
  clear S9 af9
  repeat (rename News _ _ _ _ => Nz; clear Nz)
  repeat (rename Fr _ _ _ _ => Fz; clear Fz)
  clear G ab hd ho nd
  obtain ⟨⟨fl, F, N, G⟩, ab, hd, ho, nd⟩ := S8
  obtain ⟨h, gs, d9, tk, o9⟩ := s9
  dsimp only [upd] at F N ab hd ho hr
  obtain ⟨t, rfl⟩ := hr
  k_steps
  refine (show wpAny _ _ _ _ _ _ from ?_)
  have S9 := LS.of (s := ⟨_, gs, d9, 0, o9⟩) (by assumption) (by assumption) (.cons _ (.cons _ (.cons _ (.cons _ (Spl.app X))))) G ab hd ho (by exact nd)
  refine' c_alike P9 ?hC_34 ?hg_34 _ (arr (fun i => Builtin.bitXor ((octs bs).getD i 0) ((octs (byteArr ks)).getD (i % (byteArr ks).size) 0)) (if (byteArr ks).size = 0 then 0 else bs.size)) false ld vd _ ?hX1_34 ?hX2_34 hd2 (due_len rs ks (by omega)) (by rw [arr_size]; split <;> omega) ?hk_34
  case hC_34 => exact LS.cx (LS.tk S9) C bt (by rfl) (by rfl) (by rfl)
  case hg_34 => exact ab
  case hX1_34 => exact ⟨_, rfl⟩
  case hX2_34 => exact S9.listH (.tail _ (.tail _ (.tail _ (.tail _ hld))))
  refine LS.ret (LS.tk S9) C bt (by rfl) (fun r s9 S8 af9 hr => ?_)
  clear S9 af9
  repeat (rename News _ _ _ _ => Nz; clear Nz)
  repeat (rename Fr _ _ _ _ => Fz; clear Fz)
  clear G ab hd ho nd
  obtain ⟨⟨fl, F, N, G⟩, ab, hd, ho, nd⟩ := S8
  obtain ⟨h, gs, d9, tk, o9⟩ := s9
  dsimp only [upd] at F N ab hd ho hr
  rw [decide_eq_true (many_octs hb ek)] at hr
  subst hr
  k_steps
  refine k _  (LS.to (LS.of (by assumption) (by assumption) (.cons _ (.cons _ (.cons _ (.cons _ (Spl.app X))))) G ab hd ho (by exact nd)) (by show (upd (upd m (Str.ofString "due") _) (Str.ofString "data") _) = m; rw [upd_say hm1, upd_say hm0]))
set_option maxHeartbeats 4000000 in
theorem s_one (P9 : Pg w p loose mg mb b) (C : Cx (n + 9) b A outer h₀) {v : Value} {bs : Array UInt8} {soft : Bool} {num : Int} {u : Tok} {rs : List Int} (D : DX X v bs soft) (hb : octs bs = rs) (hi : IntsAre rv rs) (hlen : rs.length ≤ 8) (dN : oN.data = .cell (some (.int num u))) (dR : oR.data = .cell (some (.ref lr))) (S : LS h₀ outer L dr os ((L+3, oK) :: (L+2, oR) :: (L+1, oN) :: (lr, listOf rv.toArray nr) :: X) m s) (hm0 : m (Str.ofString "data") = some (v)) (k : ∀ s', LS h₀ outer L dr os ((L+3, oK) :: (L+2, oR) :: (L+1, oN) :: (lr, listOf rv.toArray nr) :: X) m s' → Q .next s') : wpAny (model PySem.Challenge.rw_br5013_01.row.prog w) (A.deeper (lawEnv L a cd)) (exec (nth inBody 12) (lawEnv L a cd)) Q (fun _ _ => False) s := by
  rw [← upd_say hm0] at S
  obtain ⟨⟨fl, F, N, G⟩, ab, hd, ho, nd⟩ := S
  obtain ⟨h, gs, d9, tk, o9⟩ := s
  have X9 := P9.X.keeps (C.base P9.bt)
  revert X9
  k_fill
  intro X9
  have T := P9.T.keeps (C.base P9.bt)
  have hh9 := C.hd
  have bt := P9.bt
  simp only [lawEnv]
  conv in (nth inBody 12) => whnf
  conv in (occs := *) lawScope => all_goals whnf
  have XK := X9
  clear X9
  dsimp only [upd] at F N ab hd ho
  have hz : bs.size ≤ 8 := by rw [← octs_len, hb]; exact hlen
  have hm0' : 0 ≤ num.fmod 256 := Int.fmod_nonneg_of_pos _ (by decide)
  have hm1' : num.fmod 256 < 256 := Int.fmod_lt_of_pos _ (by decide)
  k_steps
  refine (show wpAny _ _ _ _ _ _ from ?_)
  have S9 := LS.of (s := ⟨_, gs, d9, 0, o9⟩) (by assumption) (by assumption) (.cons _ (.cons _ (.cons _ (.cons _ (Spl.app X))))) G ab hd ho (by exact nd)
  refine' k_xor1 P9 ?hC_45 ?hg_45 _ v bs soft ?hD_45 _ _ _ (by omega) (fun c hc => xor_in (octs_rng c hc) ⟨hm0', hm1'⟩) ?hk_45
  case hC_45 => exact LS.cx (LS.tk S9) C bt (by rfl) (by rfl) (by rfl)
  case hg_45 => exact ab
  case hD_45 => exact S9.dataH (D.mono fun q hq => (.tail _ (.tail _ (.tail _ (.tail _ hq)))))
  refine LS.ret (LS.tk S9) C bt (by rfl) (fun r s9 S8 af9 hr => ?_)
  clear S9 af9
  repeat (rename News _ _ _ _ => Nz; clear Nz)
  repeat (rename Fr _ _ _ _ => Fz; clear Fz)
  clear G ab hd ho nd
  obtain ⟨⟨fl, F, N, G⟩, ab, hd, ho, nd⟩ := S8
  obtain ⟨h, gs, d9, tk, o9⟩ := s9
  dsimp only [upd] at F N ab hd ho hr
  obtain ⟨t, rfl⟩ := hr
  k_steps
  rename News _ _ _ _ => N2
  rename Fr _ _ _ _ => F2
  refine LCg.CompSrc.ledger hh9 F2 N2 (.tail _ (.tail _ (.tail _ (.head _)))) (by have := hi.length; rw [sizeLine_eq]; simp; omega) (fun g' => ?_)
  refine kcf_list (fun x => Builtin.bitXor x (num.fmod 256)) hi (fun k' t' I' oI' C' oC' D' m' ys' h' tk' E' hk' hC' hx' F' N' off' ne' hM' => ?_) ?_
  · clear F2 N2
    (try (simp only [LCg.Off3, and_true] at off'))
    k_steps
  · show ∀ ys, _ → _
    intro ys hys
    unfold LCg.FinE
    intro D7 h7 tk7 F7 N7 o7
    clear F2 N2
    k_steps
    refine (show wpAny _ _ _ _ _ _ from ?_)
    have S9 := LS.of (s := ⟨_, gs, d9, 0, o9⟩) (by assumption) (by assumption) (.cons _ (.cons _ (.cons _ (.cons _ (.cons _ (Spl.app X)))))) G ab hd ho (by exact (nds_cons (fun _ _ q => nomatch q) (fun _ q => nomatch q) nd))
    refine' c_alike P9 ?hC_62 ?hg_62 _ (arr (fun i => Builtin.bitXor ((octs bs).getD i 0) (num.fmod 256)) bs.size) false D7 ys _ ?hX1_62 ?hX2_62 hys (by rw [List.length_map]; omega) (by rw [arr_size]; omega) ?hk_62
    case hC_62 => exact LS.cx (LS.tk S9) C bt (by rfl) (by rfl) (by rfl)
    case hg_62 => exact ab
    case hX1_62 => exact ⟨_, rfl⟩
    case hX2_62 => exact S9.listH (nx := ys.length) (.head _)
    refine LS.ret (LS.tk S9) C bt (by rfl) (fun r s9 S8 af9 hr => ?_)
    clear S9 af9
    repeat (rename News _ _ _ _ => Nz; clear Nz)
    repeat (rename Fr _ _ _ _ => Fz; clear Fz)
    clear G ab hd ho nd
    obtain ⟨⟨fl, F, N, G⟩, ab, hd, ho, nd⟩ := S8
    obtain ⟨h, gs, d9, tk, o9⟩ := s9
    dsimp only [upd] at F N ab hd ho hr
    rw [decide_eq_true (octs_arr_xor hb ⟨hm0', hm1'⟩)] at hr
    subst hr
    k_steps
    refine k _  (LS.to (LS.sub (LS.of (by assumption) (by assumption) (.cons _ (.cons _ (.cons _ (.cons _ (.cons _ (Spl.app X)))))) G ab hd ho (by exact nd)) (fun q hq => (.tail _ hq))) (by show (upd m (Str.ofString "data") _) = m; rw [upd_say hm0]))
end Br
end
-- BrW2
section
open PySem PySem.W PySem.Calls PyProof.Rows
set_option Elab.async false
set_option maxRecDepth 100000
set_option linter.unusedVariables false
set_option pp.deepTerms false
set_option pp.deepTerms.threshold 6
namespace Br
variable {w : World} {n : Nat} {b h₀ : Heap} {A : Around} {outer : List Env} {s : Shared} {Q : Flow → Shared → Prop} {p : Program} {loose : List Str} {mg mb : Str → Option Value} {L a : Addr} {cd : Value} {dr : Drawn} {os : OsState} {X : List (Addr × Obj)} {m : Str → Option Value} {oK oR oN : Obj} {lr : Addr} {rv : List Value} {nr : Nat}
theorem inner_tail (P9 : Pg w p loose mg mb b) (C : Cx (n + 9) b A outer h₀) {num : Int} {u tm : Tok} {many : Nat} {v : Value} {bs : Array UInt8} {soft : Bool} {ln : Addr} {rs : List Int} {ck : Option Value} (D : DX X v bs soft) (hb : octs bs = rs) (hi : IntsAre rv rs) (hlen : rs.length = many) (hmany : many ≤ 8) (hr2 : ∀ d ∈ rs, 0 ≤ d ∧ d < 256)
    (dR : oR.data = .cell (some (.ref lr))) (dN : oN.data = .cell (some (.int num u))) (dK : oK.data = .cell ck) (nc : NC X) (H : MF m many tm v soft ln) (S : LS h₀ outer L dr os ((L+3, oK) :: (L+2, oR) :: (L+1, oN) :: (lr, listOf rv.toArray nr) :: X) m s)
    (k : ∀ s' m' oK' ck', oK'.data = .cell ck' → MF m' many tm v soft ln → LS h₀ outer L dr os ((L+3, oK') :: (L+2, oR) :: (L+1, oN) :: (lr, listOf rv.toArray nr) :: X) m' s' → Q .next s') :
    wpQ (model PySem.Challenge.rw_br5013_01.row.prog w) (A.deeper (lawEnv L a cd)) (execs [nth inBody 7, nth inBody 8, nth inBody 9, nth inBody 10, nth inBody 11, nth inBody 12] (lawEnv L a cd)) Q (fun _ _ => False) s := by
  refine wpQ_execs_cons (wpQ_of (s_group P9 C dN S (fun s1 gr t1 hg hg1 hg2 S1 => ?_)))
  have H1 := mf_upd (x' := .int gr t1) (x := Str.ofString "group") H
  refine wpQ_execs_cons (wpQ_of (s_ask11 P9 C dN hg hg1 hg2 S1 H1.data upd_eq (fun s2 S2 => ?_)))
  refine wpQ_execs_cons (wpQ_of (s_key P9 C dN dK nc S2 (fun s3 oK' lk vk hvk dK' S3 => ?_)))
  refine wpQ_execs_cons (wpQ_of (s_due2 P9 C hi hlen hmany hvk (keyOf_len _) (keyOf_rng _) hr2 dR dK' S3.in1 H1.many (fun s4 ld vd nz hvd S4 => ?_)))
  have H4 := mf_upd (x' := .ref ld) (x := Str.ofString "due") H1
  refine wpQ_execs_cons (wpQ_of (s_many P9 C (D.mono fun _ h => .tail _ (.tail _ h)) hb (by omega) (.tail _ (.head _)) hvk (keyOf_len _) (keyOf_rng _) (.head _) hvd dK' S4.in1 H4.data upd_eq (fun s5 S5 => ?_)))
  refine wpQ_execs_cons (wpQ_of (s_one P9 C (D.mono fun _ h => .tail _ (.tail _ h)) hb hi (by omega) dN dR S5 H4.data (fun s6 S6 => ?_)))
  exact wpQ_of (wpAny_execs_nil (k _ _ oK' _ dK' H4 (S6.dropX fun _ h => .tail _ (.tail _ h))))
theorem inner_turn (P9 : Pg w p loose mg mb b) (C : Cx (n + 9) b A outer h₀) {num : Int} {u tm : Tok} {many : Nat} {v : Value} {bs : Array UInt8} {soft : Bool} {ln : Addr} {rs : List Int} {ck : Option Value} (D : DX X v bs soft) (hb : octs bs = rs) (hi : IntsAre rv rs) (hlen : rs.length = many) (hmany : many ≤ 8) (hr2 : ∀ d ∈ rs, 0 ≤ d ∧ d < 256)
    (dR : oR.data = .cell (some (.ref lr))) (dN : oN.data = .cell (some (.int num u))) (dK : oK.data = .cell ck) (nc : NC X) (H : MF m many tm v soft ln) (S : LS h₀ outer L dr os ((L+3, oK) :: (L+2, oR) :: (L+1, oN) :: (lr, listOf rv.toArray nr) :: X) m s)
    (k : ∀ s' m' oK' ck', oK'.data = .cell ck' → MF m' many tm v soft ln → LS h₀ outer L dr os ((L+3, oK') :: (L+2, oR) :: (L+1, oN) :: (lr, listOf rv.toArray nr) :: X) m' s' → Q .next s') :
    wpQ (model PySem.Challenge.rw_br5013_01.row.prog w) (A.deeper (lawEnv L a cd)) (execs inBody (lawEnv L a cd)) Q (fun _ _ => False) s := by
  have hsz : bs.size = many := by rw [← octs_len, hb]; exact hlen
  rw [inBody_eq]
  refine wpQ_execs_cons (wpQ_of (s_place P9 C hmany dN S H.many (fun s1 pl t1 hpl S1 => ?_)))
  have H1 := mf_upd (x' := .int pl t1) (x := Str.ofString "place") H
  have a1 := Int.emod_nonneg num (b := 2 * (many : Int) + 5) (by omega)
  have a2 := Int.emod_lt_of_pos num (b := 2 * (many : Int) + 5) (by omega)
  have b1 : -10 ≤ pl := by omega
  have b2 : pl ≤ 10 := by omega
  refine wpQ_execs_cons (wpQ_of (s_spot P9 C hmany b1 b2 S1 H1.many upd_eq (fun s2 sp t2 hsp S2 => ?_)))
  have H2 := mf_upd (x' := .int sp t2) (x := Str.ofString "spot") H1
  refine wpQ_execs_cons (wpQ_of (s_due P9 C hi hlen hmany dR S2 H2.many upd_eq (fun s3 dv hdv S3 => ?_)))
  have H3 := mf_upd (x' := dv) (x := Str.ofString "due") H2
  refine wpQ_execs_cons (wpQ_of (s_ask0 P9 C D hb hlen hmany b1 b2 hsp hdv S3 H3.data ((upd_ne (by decide)).trans ((upd_ne (by decide)).trans upd_eq)) upd_eq (fun s4 S4 => ?_)))
  refine wpQ_execs_cons (wpQ_of (s_sign P9 C dN S4 (fun s5 sg t5 hsg S5 => ?_)))
  have H5 := mf_upd (x' := .int sg t5) (x := Str.ofString "sign") H3
  refine wpQ_execs_cons (wpQ_of (s_include P9 C dN S5 (fun s6 inc hinc S6 => ?_)))
  have H6 := mf_upd (x' := .bool inc) (x := Str.ofString "include") H5
  obtain ⟨pz, e⟩ := six_eq
  rw [e]
  have hs := sgn_oct (num / 7 % 7)
  rw [← hsg] at hs
  have go : ∀ s' m', MF m' many tm v soft ln → LS h₀ outer L dr os ((L+3, oK) :: (L+2, oR) :: (L+1, oN) :: (lr, listOf rv.toArray nr) :: X) m' s' → wpQ (model PySem.Challenge.rw_br5013_01.row.prog w) (A.deeper (lawEnv L a cd)) (execs [nth inBody 7, nth inBody 8, nth inBody 9, nth inBody 10, nth inBody 11, nth inBody 12] (lawEnv L a cd)) Q (fun _ _ => False) s' := fun s' m' H' S' => inner_tail P9 C D hb hi hlen hmany hr2 dR dN dK nc H' S' k
  refine wpQ_execs_cons (wpQ_If (wpQ_of (t_six P9 C dN S6 (fun s7 b9 S7 => ?_))))
  cases b9 with
  | true => exact wild_run P9 C D hsz hmany dN H6 upd_eq S7 fun s' m' H' S' => go s' m' H' S'
  | false => exact tame_run P9 C D hb hi (by omega) dR dN hs.1 hs.2 H6 upd_eq ((upd_ne (by decide)).trans upd_eq) S7 fun s' m' H' S' => go s' m' H' S'
end Br
end
-- BrS9
section
open PySem PySem.W PySem.Calls PyProof.Rows
set_option Elab.async false
set_option maxRecDepth 100000
set_option linter.unusedVariables false
set_option pp.deepTerms false
set_option pp.deepTerms.threshold 6
namespace Br
local macro_rules | `(tactic| walk_at "call ref") => `(tactic| (refine hold ?_))
local macro_rules | `(tactic| walk_at "call type:bytes") => `(tactic| (refine hold ?_))
variable {w : World} {n : Nat} {b h₀ : Heap} {A : Around} {outer : List Env} {s : Shared} {Q : Flow → Shared → Prop} {p : Program} {loose : List Str} {mg mb : Str → Option Value} {L a : Addr} {cd : Value} {dr : Drawn} {os : OsState} {X : List (Addr × Obj)} {m : Str → Option Value} {oK oR oN : Obj} {lr : Addr} {rv : List Value} {nr : Nat}
set_option maxHeartbeats 4000000 in
theorem o_data (P9 : Pg w p loose mg mb b) (C : Cx (n + 9) b A outer h₀) {soft : Bool} {rs : List Int} (hi : IntsAre rv rs) (hlen : rs.length ≤ 8) (hr2 : ∀ d ∈ rs, 0 ≤ d ∧ d < 256) (dR : oR.data = .cell (some (.ref lr))) (S : LS h₀ outer L dr os ((L+3, oK) :: (L+2, oR) :: (L+1, oN) :: (lr, listOf rv.toArray nr) :: X) m s) (hm0 : m (Str.ofString "soft") = some (.bool soft)) (k : ∀ s' v X', DX X' v (byteArr rs) soft → (∀ p ∈ X, p ∈ X') → (∀ p ∈ X', p ∈ X ∨ (p.2 = baO (byteArr rs) ∧ L + 3 < p.1)) → LS h₀ outer L dr os ((L+3, oK) :: (L+2, oR) :: (L+1, oN) :: (lr, listOf rv.toArray nr) :: X') (upd m (Str.ofString "data") v) s' → Q .next s') : wpQ (model PySem.Challenge.rw_br5013_01.row.prog w) (A.deeper (lawEnv L a cd)) (exec (nth outBody 0) (lawEnv L a cd)) Q (fun _ _ => False) s := by
  rw [← upd_say hm0] at S
  obtain ⟨⟨fl, F, N, G⟩, ab, hd, ho, nd⟩ := S
  obtain ⟨h, gs, d9, tk, o9⟩ := s
  have X9 := P9.X.keeps (C.base P9.bt)
  revert X9
  k_fill
  intro X9
  have T := P9.T.keeps (C.base P9.bt)
  have hh9 := C.hd
  have bt := P9.bt
  simp only [lawEnv]
  conv in (occs := *) (nth outBody 0) => all_goals whnf
  conv in (occs := *) lawScope => all_goals whnf
  have XK := X9
  clear X9
  dsimp only [upd] at F N ab hd ho
  dsimp only
  cases soft
  · refine wpQ_of ?_
    k_steps
    rename News _ _ _ _ => N2
    rename Fr _ _ _ _ => F2
    refine (show wpAny _ _ _ _ _ _ from ?_)
    refine call_bytes_ints (N2.isList (.tail _ (.tail _ (.tail _ (.head _))))) hi hr2 (by have := hi.length; rw [sizeLine_eq]; omega) hh9 (fun h3 t3 k3 kk3 => ?_)
    have F3 := fr_kp F2 kk3
    have N3 := news_kp N2 kk3
    clear F2 N2
    k_steps
    refine k _ _ X ⟨_, rfl⟩ (fun q hq => hq) (fun q hq => .inl hq) (LS.to (LS.of (by assumption) (by assumption) (.cons _ (.cons _ (.cons _ (.cons _ (Spl.app X))))) G ab hd ho nd) (by show upd (upd m (Str.ofString "soft") _) (Str.ofString "data") _ = _; rw [upd_say hm0]))
  · refine wpQ_Assign_Name (wpQ_IfExp ?_)
    k_steps
    refine callQ_type1 (T := "bytearray") rfl ?_
    refine nameX_B F XK T (by kernel_rfl) (by kernel_rfl) (by decide) ⟨rfl, ?_⟩ rfl rfl
    k_steps
    refine call_ba_list (N.isList (.tail _ (.tail _ (.tail _ (.head _))))) hi hr2 (by rw [sizeLine_eq]; omega) (fun h3 hB3 k3 => ?_)
    have hlt : L + 3 < h.objs.size := news_lt N (.head _)
    have F3 := fr_kp F k3
    have N3 := news_new F N k3 hB3
    clear F N
    dsimp only at hB3 k3 N3 F3 ⊢
    refine wpQ_of ?_
    k_steps
    refine k _ _ ((h.objs.size, baO (byteArr rs)) :: X) ⟨_, rfl, .head _⟩ (fun q hq => .tail _ hq) (fun q hq => ?_) (LS.to (LS.sub (LS.of (by assumption) (by assumption) (.cons _ (.cons _ (.cons _ (.cons _ (.cons _ (Spl.app X)))))) G ab hd ho (by exact (nds_cons (fun _ _ q => nomatch q) (fun _ q => nomatch q) nd))) (fun q hq => ?_)) (by show upd (upd m (Str.ofString "soft") _) (Str.ofString "data") _ = _; rw [upd_say hm0]))
    · rcases List.mem_cons.mp hq with rfl | hq
      · exact .inr ⟨rfl, hlt⟩
      · exact .inl hq
    · simp only [List.mem_cons] at hq ⊢
      rcases hq with h | h | h | h | h | h
      · exact .inr (.inl h)
      · exact .inr (.inr (.inl h))
      · exact .inr (.inr (.inr (.inl h)))
      · exact .inr (.inr (.inr (.inr (.inl h))))
      · exact .inl h
      · exact .inr (.inr (.inr (.inr (.inr h))))
end Br
end
-- BrS10
section
open PySem PySem.W PySem.Calls PyProof.Rows
set_option Elab.async false
set_option maxRecDepth 100000
set_option linter.unusedVariables false
set_option pp.deepTerms false
set_option pp.deepTerms.threshold 6
namespace Br
local macro_rules | `(tactic| walk_at "call ref") => `(tactic| (refine hold ?_))
local macro_rules | `(tactic| walk_at "call type:bytes") => `(tactic| (refine hold ?_))
variable {w : World} {n : Nat} {b h₀ : Heap} {A : Around} {outer : List Env} {s : Shared} {Q : Flow → Shared → Prop} {p : Program} {loose : List Str} {mg mb : Str → Option Value} {L a : Addr} {cd : Value} {dr : Drawn} {os : OsState} {X : List (Addr × Obj)} {m : Str → Option Value} {oK oR oN : Obj} {lr : Addr} {rv : List Value} {nr : Nat}
set_option maxHeartbeats 4000000 in
theorem o_extreme (P9 : Pg w p loose mg mb b) (C : Cx (n + 9) b A outer h₀) {tm : Tok} {v : Value} {bs : Array UInt8} {soft : Bool} {many : Nat} {rs : List Int} (D : DX X v bs soft) (hb : octs bs = rs) (hi : IntsAre rv rs) (hlen : rs.length = many) (hmany : many ≤ 8) (dR : oR.data = .cell (some (.ref lr))) (S : LS h₀ outer L dr os ((L+3, oK) :: (L+2, oR) :: (L+1, oN) :: (lr, listOf rv.toArray nr) :: X) m s) (hm0 : m (Str.ofString "many") = some (.int (many : Nat) tm)) (hm1 : m (Str.ofString "data") = some (v)) (k : ∀ s', LS h₀ outer L dr os ((L+3, oK) :: (L+2, oR) :: (L+1, oN) :: (lr, listOf rv.toArray nr) :: X) m s' → Q .next s') : wpAny (model PySem.Challenge.rw_br5013_01.row.prog w) (A.deeper (lawEnv L a cd)) (exec (nth outBody 1) (lawEnv L a cd)) Q (fun _ _ => False) s := by
  rw [← upd_say hm0, ← upd_say hm1] at S
  obtain ⟨⟨fl, F, N, G⟩, ab, hd, ho, nd⟩ := S
  obtain ⟨h, gs, d9, tk, o9⟩ := s
  have X9 := P9.X.keeps (C.base P9.bt)
  revert X9
  k_fill
  intro X9
  have T := P9.T.keeps (C.base P9.bt)
  have hh9 := C.hd
  have bt := P9.bt
  simp only [lawEnv]
  conv in (nth outBody 1) => whnf
  conv in (occs := *) lawScope => all_goals whnf
  have XK := X9
  clear X9
  dsimp only [upd] at F N ab hd ho
  have hsz : bs.size = many := by rw [← octs_len, hb]; exact hlen
  k_steps
  · refine (show wpAny _ _ _ _ _ _ from ?_)
    have S9 := LS.of (s := ⟨_, gs, d9, 0, o9⟩) (by assumption) (by assumption) (.cons _ (.cons _ (.cons _ (.cons _ (Spl.app X))))) G ab hd ho (by exact nd)
    refine' kb_min P9 ?hC_19 ?hg_19 _ v bs soft ?hD_19 _ _ (by omega) ?hk_19
    case hC_19 => exact LS.cx (LS.tk S9) C bt (by rfl) (by rfl) (by rfl)
    case hg_19 => exact ab
    case hD_19 => exact S9.dataH (D.mono fun q hq => (.tail _ (.tail _ (.tail _ (.tail _ hq)))))
    refine LS.ret (LS.tk S9) C bt (by rfl) (fun r s9 S8 af9 hr => ?_)
    clear S9 af9
    repeat (rename News _ _ _ _ => Nz; clear Nz)
    repeat (rename Fr _ _ _ _ => Fz; clear Fz)
    clear G ab hd ho nd
    obtain ⟨⟨fl, F, N, G⟩, ab, hd, ho, nd⟩ := S8
    obtain ⟨h, gs, d9, tk, o9⟩ := s9
    dsimp only [upd] at F N ab hd ho hr
    obtain ⟨t, rfl⟩ := hr
    k_steps
    refine (show wpAny _ _ _ _ _ _ from ?_)
    have S9 := LS.of (s := ⟨_, gs, d9, 0, o9⟩) (by assumption) (by assumption) (.cons _ (.cons _ (.cons _ (.cons _ (Spl.app X))))) G ab hd ho (by exact nd)
    refine' kb_max P9 ?hC_23 ?hg_23 _ v bs soft ?hD_23 _ _ (by omega) ?hk_23
    case hC_23 => exact LS.cx (LS.tk S9) C bt (by rfl) (by rfl) (by rfl)
    case hg_23 => exact ab
    case hD_23 => exact S9.dataH (D.mono fun q hq => (.tail _ (.tail _ (.tail _ (.tail _ hq)))))
    refine LS.ret (LS.tk S9) C bt (by rfl) (fun r s9 S8 af9 hr => ?_)
    clear S9 af9
    repeat (rename News _ _ _ _ => Nz; clear Nz)
    repeat (rename Fr _ _ _ _ => Fz; clear Fz)
    clear G ab hd ho nd
    obtain ⟨⟨fl, F, N, G⟩, ab, hd, ho, nd⟩ := S8
    obtain ⟨h, gs, d9, tk, o9⟩ := s9
    dsimp only [upd] at F N ab hd ho hr
    obtain ⟨t, rfl⟩ := hr
    k_steps
    refine k _  (LS.to (LS.of (by assumption) (by assumption) (.cons _ (.cons _ (.cons _ (.cons _ (Spl.app X))))) G ab hd ho (by exact nd)) (by show (upd (upd m (Str.ofString "data") _) (Str.ofString "many") _) = m; rw [upd_say hm1, upd_say hm0]))
  · refine (show wpAny _ _ _ _ _ _ from ?_)
    have S9 := LS.of (s := ⟨_, gs, d9, 0, o9⟩) (by assumption) (by assumption) (.cons _ (.cons _ (.cons _ (.cons _ (Spl.app X))))) G ab hd ho (by exact nd)
    refine' k_min P9 ?hC_28 ?hg_28 _ v bs soft ?hD_28 _ _ (by omega) ?hk_28
    case hC_28 => exact LS.cx (LS.tk S9) C bt (by rfl) (by rfl) (by rfl)
    case hg_28 => exact ab
    case hD_28 => exact S9.dataH (D.mono fun q hq => (.tail _ (.tail _ (.tail _ (.tail _ hq)))))
    refine LS.ret (LS.tk S9) C bt (by rfl) (fun r s9 S8 af9 hr => ?_)
    clear S9 af9
    repeat (rename News _ _ _ _ => Nz; clear Nz)
    repeat (rename Fr _ _ _ _ => Fz; clear Fz)
    clear G ab hd ho nd
    obtain ⟨⟨fl, F, N, G⟩, ab, hd, ho, nd⟩ := S8
    obtain ⟨h, gs, d9, tk, o9⟩ := s9
    dsimp only [upd] at F N ab hd ho hr
    obtain ⟨k1, t1, rfl, hk1, hk2⟩ := hr
    k_steps
    refine (show wpAny _ _ _ _ _ _ from ?_)
    have S9 := LS.of (s := ⟨_, gs, d9, 0, o9⟩) (by assumption) (by assumption) (.cons _ (.cons _ (.cons _ (.cons _ (Spl.app X))))) G ab hd ho (by exact nd)
    refine' c_extreme P9 ?hC_32 ?hg_32 lr rv rs false ?hR_32 hi (by omega) (by omega) ?hk_32
    case hC_32 => exact LS.cx (LS.tk S9) C bt (by rfl) (by rfl) (by rfl)
    case hg_32 => exact ab
    case hR_32 => exact S9.listH (.tail _ (.tail _ (.tail _ (.head _))))
    refine LS.ret (LS.tk S9) C bt (by rfl) (fun r s9 S8 af9 hr => ?_)
    clear S9 af9
    repeat (rename News _ _ _ _ => Nz; clear Nz)
    repeat (rename Fr _ _ _ _ => Fz; clear Fz)
    clear G ab hd ho nd
    obtain ⟨⟨fl, F, N, G⟩, ab, hd, ho, nd⟩ := S8
    obtain ⟨h, gs, d9, tk, o9⟩ := s9
    dsimp only [upd] at F N ab hd ho hr
    obtain ⟨b1, u1, rfl, he1⟩ := hr
    k_steps
    · exact absurd (ext_min hb hk1 hk2 he1) (by assumption)
    · refine (show wpAny _ _ _ _ _ _ from ?_)
      have S9 := LS.of (s := ⟨_, gs, d9, 0, o9⟩) (by assumption) (by assumption) (.cons _ (.cons _ (.cons _ (.cons _ (Spl.app X))))) G ab hd ho (by exact nd)
      refine' k_max P9 ?hC_37 ?hg_37 _ v bs soft ?hD_37 _ _ (by omega) ?hk_37
      case hC_37 => exact LS.cx (LS.tk S9) C bt (by rfl) (by rfl) (by rfl)
      case hg_37 => exact ab
      case hD_37 => exact S9.dataH (D.mono fun q hq => (.tail _ (.tail _ (.tail _ (.tail _ hq)))))
      refine LS.ret (LS.tk S9) C bt (by rfl) (fun r s9 S8 af9 hr => ?_)
      clear S9 af9
      repeat (rename News _ _ _ _ => Nz; clear Nz)
      repeat (rename Fr _ _ _ _ => Fz; clear Fz)
      clear G ab hd ho nd
      obtain ⟨⟨fl, F, N, G⟩, ab, hd, ho, nd⟩ := S8
      obtain ⟨h, gs, d9, tk, o9⟩ := s9
      dsimp only [upd] at F N ab hd ho hr
      obtain ⟨k3, t3, rfl, hk3, hk4⟩ := hr
      k_steps
      refine (show wpAny _ _ _ _ _ _ from ?_)
      have S9 := LS.of (s := ⟨_, gs, d9, 0, o9⟩) (by assumption) (by assumption) (.cons _ (.cons _ (.cons _ (.cons _ (Spl.app X))))) G ab hd ho (by exact nd)
      refine' c_extreme P9 ?hC_41 ?hg_41 lr rv rs true ?hR_41 hi (by omega) (by omega) ?hk_41
      case hC_41 => exact LS.cx (LS.tk S9) C bt (by rfl) (by rfl) (by rfl)
      case hg_41 => exact ab
      case hR_41 => exact S9.listH (.tail _ (.tail _ (.tail _ (.head _))))
      refine LS.ret (LS.tk S9) C bt (by rfl) (fun r s9 S8 af9 hr => ?_)
      clear S9 af9
      repeat (rename News _ _ _ _ => Nz; clear Nz)
      repeat (rename Fr _ _ _ _ => Fz; clear Fz)
      clear G ab hd ho nd
      obtain ⟨⟨fl, F, N, G⟩, ab, hd, ho, nd⟩ := S8
      obtain ⟨h, gs, d9, tk, o9⟩ := s9
      dsimp only [upd] at F N ab hd ho hr
      obtain ⟨b3, u3, rfl, he3⟩ := hr
      k_steps
      · exact absurd (ext_max hb hk3 hk4 he3) (by assumption)
      · refine k _  (LS.to (LS.of (by assumption) (by assumption) (.cons _ (.cons _ (.cons _ (.cons _ (Spl.app X))))) G ab hd ho (by exact nd)) (by show (upd (upd m (Str.ofString "data") _) (Str.ofString "many") _) = m; rw [upd_say hm1, upd_say hm0]))
end Br
end
-- BrSe
section
open PySem PySem.W PySem.Calls PyProof.Rows
set_option Elab.async false
set_option maxRecDepth 100000
set_option linter.unusedVariables false
namespace Br
open Sem (wp)
open Builtin
namespace FS
theorem slot_set : Slot "bytearray" "__setitem__" "bytearray.__setitem__" :=
  .of (owner := "bytearray") (n := "__setitem__") (by rw [typeLookup_type, builtinLookup_eq_fast]; kernel_rfl) (by decide +kernel) (by decide +kernel) (by decide +kernel)
    (by first | exact .inl (by decide +kernel) | exact .inr (by decide +kernel)) (by rw [isSubtype_type]; kernel_rfl)
theorem entry_set : entryFor table "bytearray.__setitem__" = some Builtin.«bytearray.__setitem__» := by first | exact entryFor_of_fast (by kernel_rfl) | exact entryFor_of_tree (by kernel_rfl)
theorem args_set (a b c : Value) : argsOk "bytearray.__setitem__" ⟨[a, b, c], []⟩ := by unfold argsOk; kernel_rfl
end FS
section
variable {prog : Program} {w : World} {A : Around} {E : Value → Shared → Prop} {s : Shared}
theorem sub_int {M : Model} {k : Int} {t : Tok} {Q : Option Int → Shared → Prop} (hf : Bytes.fitsIndex k = true) (h : Q (some k) s) : wpAny M A (Bytes.subscript? (.int k t)) Q E s := by
  unfold Bytes.subscript?
  refine wpAny_bind (wpAny_specialOf (T := "int") (typeIs_int _ _ _) F.slot_int_index.lookup ?_)
  refine bm_if_false rfl ?_
  refine wpAny_bind (wpAny_of_eq (a := k) rfl ?_)
  refine bm_if_false (by simp [hf]) ?_
  exact wpAny_pure h
theorem set_ba {a : Addr} {bs : Array UInt8} {n : Nat} {sl : Array (Option Value)} {i v : Int} {t u : Tok} {k : Nat} {Q : Unit → Shared → Prop} (hB : s.heap.get? a = some ⟨.type "bytearray", none, .bytearray bs n, sl⟩)
    (hf : Bytes.fitsIndex i = true) (hk : seqIndex? i bs.size = some k) (h0 : 0 ≤ v) (h1 : v < 256) (hz : bs.size ≤ sizeLine)
    (h : ∀ h', h'.get? a = some ⟨.type "bytearray", none, .bytearray (bs.setIfInBounds k v.toNat.toUInt8) n, sl⟩ → Heap.SameBut a s.heap h' → Q () { s with heap := h' }) :
    wpAny (model prog w) A (setItem (.ref a) (.int i t) (.int v u)) Q E s := by
  have hT : s.TypeIs (.ref a) "bytearray" := ⟨_, hB, rfl⟩
  unfold setItem
  try with_reducible refine wpAny_holding ?_
  first | refine wpAny_bind (wpAny_pure ?_) | skip
  refine wpAny_bind (wpAny_sequenceKey hT (by decide) ?_)
  refine wpAny_bind (wpAny_callSpecial?_slot (name := PySem.Str.ofString "__setitem__") hT FS.slot_set
    (wpAny_call_entry FS.slot_set hT FS.entry_set ?_ (FS.args_set _ _ _)))
  unfold Builtin.«bytearray.__setitem__»
  refine bm_if_false rfl ?_
  dsimp only
  refine wpAny_bind (sub_int hf ?_)
  dsimp only
  unfold Bytes.byteValue
  refine wpAny_bind (wpAny_bind (wpAny_of_eq (a := v) rfl ?_))
  refine bm_if_false (by simp only [Bool.or_eq_false_iff, decide_eq_false_iff_not]; omega) ?_
  refine wpAny_pure ?_
  refine wpAny_bind (wp_payload (bs := bs) ⟨_, _, hB, rfl, rfl, rfl⟩ ?_)
  · rw [hk]
    dsimp only
    refine wpAny_bind (wp_write hB ?_ fun h' hg hs => ?_)
    · rw [Array.size_setIfInBounds]; exact hz
    · exact wpAny_pure ⟨_, rfl, wpAny_pure (h h' hg hs)⟩
end
section
variable {h₀ : Heap} {outer : List Env} {L : Addr} {dr : Drawn} {os : OsState} {own1 own2 : List (Addr × Obj)} {m : Str → Option Value} {n : Nat} {b : Heap} {A : Around}
/-- an object of the ledger changed -/
theorem LS.change {c : Addr} {o o' : Obj} {h h' : Heap} {gs : Array GenState} {d9 : Drawn} {o9 : OsState} {t : Nat} (S : LS h₀ outer L dr os (own1 ++ (c, o) :: own2) m ⟨h, gs, d9, t, o9⟩) (C : Cx n b A outer h₀) (hL : L < c) (h1 : ∀ p ∈ own1 ++ own2, p.1 ≠ c) (e : h'.get? c = some o') (hs : Heap.SameBut c h h')
    (nd : (∀ es k, o'.data ≠ .dict es k) ∧ ∀ ps, o' ≠ tabO ps) : LS h₀ outer L dr os (own1 ++ (c, o') :: own2) m ⟨h', gs, d9, t, o9⟩ := by
  obtain ⟨fl, F, N, G⟩ := S.ex
  have hmem := N _ (List.mem_append_left _ (List.mem_append_right own1 (.head own2)))
  have hn : h₀.objs.size ≤ c := Nat.le_trans (Nat.le_trans (Nat.le_of_eq under_size.symm) F.above) (Nat.le_of_lt hL)
  have old : ∀ p, p ∈ (own1 ++ (c, o) :: own2) ++ fl → p.1 ≠ c → h'.get? p.1 = some p.2 ∧ p.1 ≠ L ∧ (under h₀ outer).get? p.1 = none := fun p hp hne => ⟨(hs.2 _ hne).trans (N p hp).1, (N p hp).2⟩
  refine ⟨⟨fl.filter fun p => p.1 != c, ⟨F.ns.sameBut hs (Ne.symm hmem.2.1), fun b ob e => (hs.2 b (fun q => ?_)).trans (F.keep b ob e), F.above⟩, fun p hp => ?_, G.only C.tb hn⟩, S.bare, S.drawn, S.osd, fun p hp => ?_⟩
  · rw [q, hmem.2.2] at e; cases e
  · rcases List.mem_append.mp hp with hp | hp
    · rcases List.mem_append.mp hp with hp | hp
      · exact old p (List.mem_append_left _ (List.mem_append_left _ hp)) (h1 p (List.mem_append_left _ hp))
      · rcases List.mem_cons.mp hp with rfl | hp
        · exact ⟨e, hmem.2⟩
        · exact old p (List.mem_append_left _ (List.mem_append_right _ (.tail _ hp))) (h1 p (List.mem_append_right _ hp))
    · have := List.mem_filter.mp hp
      exact old p (List.mem_append_right _ this.1) (bne_iff_ne.mp this.2)
  · rcases List.mem_append.mp hp with hp | hp
    · exact S.nd p (List.mem_append_left _ hp)
    · rcases List.mem_cons.mp hp with rfl | hp
      · exact nd
      · exact S.nd p (List.mem_append_right _ (.tail _ hp))
/-- an object of the ledger stands above the frame -/
theorem LS.above {own : List (Addr × Obj)} {s : Shared} (S : LS h₀ outer L dr os own m s) {p : Addr × Obj} (hp : p ∈ own) (hc : p.2.cls ≠ .none) : p.1 ≠ L :=
  let ⟨fl, F, N, G⟩ := S.ex
  (N p (List.mem_append_left _ hp)).2.1
end
theorem set_zero {bs : Array UInt8} {rs : List Int} {x : UInt8} (hb : octs bs = rs) (hn : 0 < rs.length) : (bs.setIfInBounds 0 x).setIfInBounds 0 (rs.getD 0 0).toNat.toUInt8 = bs := by
  have hz : 0 < bs.size := by rw [← octs_len, hb]; exact hn
  have e : (rs.getD 0 0).toNat.toUInt8 = bs[0] := by
    have := octs_get hz
    rw [hb] at this
    rw [this]
    simp
  rw [e]
  apply Array.ext_getElem?
  intro i
  rw [Array.getElem?_setIfInBounds, Array.getElem?_setIfInBounds]
  by_cases h : 0 = i
  · subst h; simp [hz]
  · simp [h]
end Br
end
-- BrS11
section
open PySem PySem.W PySem.Calls PyProof.Rows
set_option Elab.async false
set_option maxRecDepth 100000
set_option linter.unusedVariables false
set_option pp.deepTerms false
set_option pp.deepTerms.threshold 6
namespace Br
local macro_rules | `(tactic| walk_at "call ref") => `(tactic| (refine hold ?_))
local macro_rules | `(tactic| walk_at "call type:bytes") => `(tactic| (refine hold ?_))
local macro_rules | `(tactic| walk_at "eval ListComp") => `(tactic| (refine hold ?_))
local macro_rules | `(tactic| walk_at "compareOp Is ref ref") => `(tactic| (refine hold ?_))
local macro_rules | `(tactic| walk_at "compareOp NotEq ref ref") => `(tactic| (refine hold ?_))
local macro_rules | `(tactic| walk_at "setItem ref int") => `(tactic| (refine hold ?_))
local macro_rules | `(tactic| walk_at "setItem ref int int") => `(tactic| (refine hold ?_))
local macro_rules | `(tactic| walk_at "Exists") => `(tactic| (refine hold ?_))
variable {w : World} {n : Nat} {b h₀ : Heap} {A : Around} {outer : List Env} {s : Shared} {Q : Flow → Shared → Prop} {p : Program} {loose : List Str} {mg mb : Str → Option Value} {L a : Addr} {cd : Value} {dr : Drawn} {os : OsState} {X : List (Addr × Obj)} {m : Str → Option Value} {oK oR oN : Obj} {lr : Addr} {rv : List Value} {nr : Nat}
set_option maxHeartbeats 4000000 in
theorem c_cutst (P9 : Pg w p loose mg mb b) (C : Cx (n + 9) b A outer h₀) {v : Value} {bs : Array UInt8} {rs : List Int} (D : DX X v bs true) (hb : octs bs = rs) (hlen : rs.length ≤ 8) (hno : ∀ x ∈ rs, x ≠ 2) (S : LS h₀ outer L dr os ((L+3, oK) :: (L+2, oR) :: (L+1, oN) :: (lr, listOf rv.toArray nr) :: X) m s) (hm0 : m (Str.ofString "data") = some (v)) (k : ∀ s' ac oA, IsBO oA bs → L ≠ ac → (∀ p ∈ X, p.1 ≠ ac) → LS h₀ outer L dr os ((ac, oA) :: (L+3, oK) :: (L+2, oR) :: (L+1, oN) :: (lr, listOf rv.toArray nr) :: X) (upd m (Str.ofString "cut") (.ref ac)) s' → Q .next s') : wpAny (model PySem.Challenge.rw_br5013_01.row.prog w) (A.deeper (lawEnv L a cd)) (exec (nth cutBody 0) (lawEnv L a cd)) Q (fun _ _ => False) s := by
  rw [← upd_say hm0] at S
  obtain ⟨⟨fl, F, N, G⟩, ab, hd, ho, nd⟩ := S
  obtain ⟨h, gs, d9, tk, o9⟩ := s
  have X9 := P9.X.keeps (C.base P9.bt)
  revert X9
  k_fill
  intro X9
  have T := P9.T.keeps (C.base P9.bt)
  have hh9 := C.hd
  have bt := P9.bt
  simp only [lawEnv]
  conv in (nth cutBody 0) => whnf
  conv in (occs := *) lawScope => all_goals whnf
  have XK := X9
  clear X9
  dsimp only [upd] at F N ab hd ho
  have hz : bs.size ≤ 8 := by rw [← octs_len, hb]; exact hlen
  k_steps
  refine (show wpAny _ _ _ _ _ _ from ?_)
  have old : ∀ c, h.get? c = none → (under h₀ outer).get? c = none ∧ L ≠ c ∧ ∀ q ∈ X, q.1 ≠ c := fun c e => ⟨(by
    cases q : (under h₀ outer).get? c with
    | none => rfl
    | some o => rw [F.keep _ _ q] at e; cases e), (fun q => by obtain ⟨oL, es, ep, q1, q2⟩ := F.ns; rw [q, e] at q1; cases q1), fun q hq z => by
      have := (N q (.tail _ (.tail _ (.tail _ (.tail _ (List.mem_append_left _ hq)))))).1
      rw [z, e] at this
      cases this⟩
  have S9 := LS.of (s := ⟨_, gs, d9, 0, o9⟩) (by assumption) (by assumption) (.cons _ (.cons _ (.cons _ (.cons _ (Spl.app X))))) G ab hd ho (by exact nd)
  refine' k_term P9 ?hC_35 ?hg_35 _ v bs true ?hD_35 2 _ false (by decide) (by decide) (by omega) ?hk_35
  case hC_35 => exact LS.cx (LS.tk S9) C bt (by rfl) (by rfl) (by rfl)
  case hg_35 => exact ab
  case hD_35 => exact S9.dataH (D.mono fun q hq => (.tail _ (.tail _ (.tail _ (.tail _ hq)))))
  refine LS.ret (LS.tk S9) C bt (by rfl) (fun r s9 S8 af9 hr => ?_)
  clear S9 af9
  repeat (rename News _ _ _ _ => Nz; clear Nz)
  repeat (rename Fr _ _ _ _ => Fz; clear Fz)
  clear G ab hd ho nd
  obtain ⟨⟨fl, F, N, G⟩, ab, hd, ho, nd⟩ := S8
  obtain ⟨h, gs, d9, tk, o9⟩ := s9
  dsimp only [upd] at F N ab hd ho hr
  obtain ⟨⟨ac, rfl, oA, x, hA1, hA2, hA3, hA4⟩, hfr⟩ := hr
  obtain ⟨f1, f2, f3⟩ := old ac (hfr ac rfl)
  rw [cut_none hb hno] at hA3
  have N2 : News (under h₀ outer) L h ((ac, oA) :: (L+3, oK) :: (L+2, oR) :: (L+1, oN) :: (lr, listOf rv.toArray nr) :: X ++ fl) := fun q hq => by
    rcases List.mem_cons.mp hq with rfl | hq
    · exact ⟨hA1, Ne.symm f2, f1⟩
    · exact N q hq
  clear N
  k_steps
  refine k _ ac oA ⟨hA2, ⟨x, hA3⟩, hA4⟩ f2 f3 (LS.to (LS.of (by assumption) (by assumption) (.cons _ (.cons _ (.cons _ (.cons _ (.cons _ (Spl.app X)))))) G ab hd ho (by exact nds_in nd ⟨fun es j q => (by rw [hA3] at q; cases q), fun ps q => (by rw [q] at hA2; cases hA2)⟩)) (by show upd (upd m (Str.ofString "data") _) (Str.ofString "cut") _ = _; rw [upd_say hm0]))
set_option maxHeartbeats 4000000 in
theorem c_same (P9 : Pg w p loose mg mb b) (C : Cx (n + 9) b A outer h₀) {ad ac : Addr} {oA oD : Obj} {bs : Array UInt8} {rs : List Int} (hne : ac ≠ ad) (hB : (ac, oA) ∈ X) (hA : IsBO oA bs) (hD : (ad, oD) ∈ X) (hb : octs bs = rs) (hi : IntsAre rv rs) (hlen : rs.length ≤ 8) (dR : oR.data = .cell (some (.ref lr))) (S : LS h₀ outer L dr os ((L+3, oK) :: (L+2, oR) :: (L+1, oN) :: (lr, listOf rv.toArray nr) :: X) m s) (hm0 : m (Str.ofString "data") = some (.ref ad)) (hm1 : m (Str.ofString "cut") = some (.ref ac)) (k : ∀ s', LS h₀ outer L dr os ((L+3, oK) :: (L+2, oR) :: (L+1, oN) :: (lr, listOf rv.toArray nr) :: X) m s' → Q .next s') : wpAny (model PySem.Challenge.rw_br5013_01.row.prog w) (A.deeper (lawEnv L a cd)) (exec (nth cutBody 1) (lawEnv L a cd)) Q (fun _ _ => False) s := by
  rw [← upd_say hm0, ← upd_say hm1] at S
  obtain ⟨⟨fl, F, N, G⟩, ab, hd, ho, nd⟩ := S
  obtain ⟨h, gs, d9, tk, o9⟩ := s
  have X9 := P9.X.keeps (C.base P9.bt)
  revert X9
  k_fill
  intro X9
  have T := P9.T.keeps (C.base P9.bt)
  have hh9 := C.hd
  have bt := P9.bt
  simp only [lawEnv]
  conv in (nth cutBody 1) => whnf
  conv in (occs := *) lawScope => all_goals whnf
  have XK := X9
  clear X9
  dsimp only [upd] at F N ab hd ho
  have hz : bs.size ≤ 8 := by rw [← octs_len, hb]; exact hlen
  k_steps
  refine (show wpAny _ _ _ _ _ _ from ?_)
  refine kto_is (N _ (.tail _ (.tail _ (.tail _ (.tail _ (List.mem_append_left _ hB)))))).1 (N _ (.tail _ (.tail _ (.tail _ (.tail _ (List.mem_append_left _ hD)))))).1 hne (by show oA.cls ≠ _; rw [hA.1]; decide) ?_
  k_steps
  refine (show wpAny _ _ _ _ _ _ from ?_)
  have S9 := LS.of (s := ⟨_, gs, d9, 0, o9⟩) (by assumption) (by assumption) (.cons _ (.cons _ (.cons _ (.cons _ (Spl.app X))))) G ab hd ho (by exact nd)
  refine' c_alike_ba P9 ?hC_53 ?hg_53 bs ac ?hX1_53 lr rv rs ?hR_53 hi (by omega) (by omega) ?hk_53
  case hC_53 => exact LS.cx (LS.tk S9) C bt (by rfl) (by rfl) (by rfl)
  case hg_53 => exact ab
  case hR_53 => exact S9.listH (.tail _ (.tail _ (.tail _ (.head _))))
  case hX1_53 => exact hA.ba (S9.get (.tail _ (.tail _ (.tail _ (.tail _ hB)))))
  refine LS.ret (LS.tk S9) C bt (by rfl) (fun r s9 S8 af9 hr => ?_)
  clear S9 af9
  repeat (rename News _ _ _ _ => Nz; clear Nz)
  repeat (rename Fr _ _ _ _ => Fz; clear Fz)
  clear G ab hd ho nd
  obtain ⟨⟨fl, F, N, G⟩, ab, hd, ho, nd⟩ := S8
  obtain ⟨h, gs, d9, tk, o9⟩ := s9
  dsimp only [upd] at F N ab hd ho hr
  rw [decide_eq_true hb] at hr
  subst hr
  k_steps
  refine k _  (LS.to (LS.of (by assumption) (by assumption) (.cons _ (.cons _ (.cons _ (.cons _ (Spl.app X))))) G ab hd ho (by exact nd)) (by show (upd (upd m (Str.ofString "cut") _) (Str.ofString "data") _) = m; rw [upd_say hm1, upd_say hm0]))
set_option maxHeartbeats 4000000 in
theorem c_alike2 (P9 : Pg w p loose mg mb b) (C : Cx (n + 9) b A outer h₀) {ac : Addr} {oA : Obj} {bs : Array UInt8} {rs : List Int} (hB : (ac, oA) ∈ X) (hA : IsBO oA bs) (hb : octs bs = rs) (hi : IntsAre rv rs) (hlen : rs.length ≤ 8) (dR : oR.data = .cell (some (.ref lr))) (S : LS h₀ outer L dr os ((L+3, oK) :: (L+2, oR) :: (L+1, oN) :: (lr, listOf rv.toArray nr) :: X) m s) (hm0 : m (Str.ofString "cut") = some (.ref ac)) (k : ∀ s', LS h₀ outer L dr os ((L+3, oK) :: (L+2, oR) :: (L+1, oN) :: (lr, listOf rv.toArray nr) :: X) m s' → Q .next s') : wpAny (model PySem.Challenge.rw_br5013_01.row.prog w) (A.deeper (lawEnv L a cd)) (exec (nth cutBody 3) (lawEnv L a cd)) Q (fun _ _ => False) s := by
  rw [← upd_say hm0] at S
  obtain ⟨⟨fl, F, N, G⟩, ab, hd, ho, nd⟩ := S
  obtain ⟨h, gs, d9, tk, o9⟩ := s
  have X9 := P9.X.keeps (C.base P9.bt)
  revert X9
  k_fill
  intro X9
  have T := P9.T.keeps (C.base P9.bt)
  have hh9 := C.hd
  have bt := P9.bt
  simp only [lawEnv]
  conv in (nth cutBody 3) => whnf
  conv in (occs := *) lawScope => all_goals whnf
  have XK := X9
  clear X9
  dsimp only [upd] at F N ab hd ho
  have hz : bs.size ≤ 8 := by rw [← octs_len, hb]; exact hlen
  k_steps
  refine (show wpAny _ _ _ _ _ _ from ?_)
  have S9 := LS.of (s := ⟨_, gs, d9, 0, o9⟩) (by assumption) (by assumption) (.cons _ (.cons _ (.cons _ (.cons _ (Spl.app X))))) G ab hd ho (by exact nd)
  refine' c_alike_ba P9 ?hC_62 ?hg_62 bs ac ?hX1_62 lr rv rs ?hR_62 hi (by omega) (by omega) ?hk_62
  case hC_62 => exact LS.cx (LS.tk S9) C bt (by rfl) (by rfl) (by rfl)
  case hg_62 => exact ab
  case hR_62 => exact S9.listH (.tail _ (.tail _ (.tail _ (.head _))))
  case hX1_62 => exact hA.ba (S9.get (.tail _ (.tail _ (.tail _ (.tail _ hB)))))
  refine LS.ret (LS.tk S9) C bt (by rfl) (fun r s9 S8 af9 hr => ?_)
  clear S9 af9
  repeat (rename News _ _ _ _ => Nz; clear Nz)
  repeat (rename Fr _ _ _ _ => Fz; clear Fz)
  clear G ab hd ho nd
  obtain ⟨⟨fl, F, N, G⟩, ab, hd, ho, nd⟩ := S8
  obtain ⟨h, gs, d9, tk, o9⟩ := s9
  dsimp only [upd] at F N ab hd ho hr
  rw [decide_eq_true hb] at hr
  subst hr
  k_steps
  refine k _  (LS.to (LS.of (by assumption) (by assumption) (.cons _ (.cons _ (.cons _ (.cons _ (Spl.app X))))) G ab hd ho (by exact nd)) (by show (upd m (Str.ofString "cut") _) = m; rw [upd_say hm0]))
set_option maxHeartbeats 4000000 in
theorem o_octets (P9 : Pg w p loose mg mb b) (C : Cx (n + 9) b A outer h₀) {v : Value} {bs : Array UInt8} {soft : Bool} {rs : List Int} (D : DX X v bs soft) (hb : octs bs = rs) (hi : IntsAre rv rs) (hlen : rs.length ≤ 8) (dR : oR.data = .cell (some (.ref lr))) (S : LS h₀ outer L dr os ((L+3, oK) :: (L+2, oR) :: (L+1, oN) :: (lr, listOf rv.toArray nr) :: X) m s) (hm0 : m (Str.ofString "data") = some (v)) (k : ∀ s', LS h₀ outer L dr os ((L+3, oK) :: (L+2, oR) :: (L+1, oN) :: (lr, listOf rv.toArray nr) :: X) m s' → Q .next s') : wpAny (model PySem.Challenge.rw_br5013_01.row.prog w) (A.deeper (lawEnv L a cd)) (exec (nth outBody 4) (lawEnv L a cd)) Q (fun _ _ => False) s := by
  rw [← upd_say hm0] at S
  obtain ⟨⟨fl, F, N, G⟩, ab, hd, ho, nd⟩ := S
  obtain ⟨h, gs, d9, tk, o9⟩ := s
  have X9 := P9.X.keeps (C.base P9.bt)
  revert X9
  k_fill
  intro X9
  have T := P9.T.keeps (C.base P9.bt)
  have hh9 := C.hd
  have bt := P9.bt
  simp only [lawEnv]
  conv in (nth outBody 4) => whnf
  conv in (occs := *) lawScope => all_goals whnf
  have XK := X9
  clear X9
  dsimp only [upd] at F N ab hd ho
  have hz : bs.size ≤ 8 := by rw [← octs_len, hb]; exact hlen
  have S9 := LS.of (s := ⟨_, gs, d9, 0, o9⟩) F N (.cons _ (.cons _ (.cons _ (.cons _ (Spl.app X))))) G ab hd ho nd
  have D9 : DataAt h v bs soft := S9.dataH (D.mono fun q hq => (.tail _ (.tail _ (.tail _ (.tail _ hq)))))
  clear S9
  k_steps
  refine (show wpAny _ _ _ _ _ _ from ?_)
  refine listComp_data hh9 F N (by decide) (by decide) rfl (by decide) rfl (by decide) ?_ (by intro _; rfl)
  k_steps
  refine (show Exists _ from ?_)
  refine ⟨bs, soft, D9, by rw [sizeLine_eq]; omega, F, N, fun D ws h5 tk5 F5 N5 hl5 hi5 => ?_⟩
  clear F N
  k_steps
  refine (show wpAny _ _ _ _ _ _ from ?_)
  refine ne_intsK hl5 hi5 (N5.isList (.tail _ (.tail _ (.tail _ (.head _))))) hi (by have := C.un; show A.units + 3 + 64 < _; omega) ?_
  rw [hb, decide_eq_true rfl]
  k_steps
  refine k _  (LS.to (LS.of (by assumption) (by assumption) (.cons _ (.cons _ (.cons _ (.cons _ (Spl.app X))))) G ab hd ho (by exact nd)) (by show (upd m (Str.ofString "data") _) = m; rw [upd_say hm0]))
set_option maxHeartbeats 4000000 in
theorem c_set1 (P9 : Pg w p loose mg mb b) (C : Cx (n + 9) b A outer h₀) {ad : Addr} {bs : Array UInt8} {rs : List Int} (hX : ∀ p ∈ X, p.1 ≠ ad) (ha : L + 3 < ad) (hz : bs.size ≤ 8) (hn : 0 < rs.length) (hb : bs.size = rs.length) (hi : IntsAre rv rs) (hl : lr ≠ ad) (dR : oR.data = .cell (some (.ref lr))) (S : LS h₀ outer L dr os ((L+3, oK) :: (L+2, oR) :: (L+1, oN) :: (lr, listOf rv.toArray nr) :: (ad, baO bs) :: X) m s) (hm0 : m (Str.ofString "data") = some (.ref ad)) (k : ∀ s' x, LS h₀ outer L dr os ((L+3, oK) :: (L+2, oR) :: (L+1, oN) :: (lr, listOf rv.toArray nr) :: (ad, baO (bs.setIfInBounds 0 x)) :: X) m s' → Q .next s') : wpAny (model PySem.Challenge.rw_br5013_01.row.prog w) (A.deeper (lawEnv L a cd)) (exec (nth cutBody 2) (lawEnv L a cd)) Q (fun _ _ => False) s := by
  rw [← upd_say hm0] at S
  obtain ⟨⟨fl, F, N, G⟩, ab, hd, ho, nd⟩ := S
  obtain ⟨h, gs, d9, tk, o9⟩ := s
  have X9 := P9.X.keeps (C.base P9.bt)
  revert X9
  k_fill
  intro X9
  have T := P9.T.keeps (C.base P9.bt)
  have hh9 := C.hd
  have bt := P9.bt
  simp only [lawEnv]
  conv in (nth cutBody 2) => whnf
  conv in (occs := *) lawScope => all_goals whnf
  have XK := X9
  clear X9
  dsimp only [upd] at F N ab hd ho
  k_steps
  rename News _ _ _ _ => N2
  rename Fr _ _ _ _ => F2
  refine (show wpAny _ _ _ _ _ _ from ?_)
  refine set_ba (k := 0) (N2 _ (.tail _ (.tail _ (.tail _ (.tail _ (.head _)))))).1 (by decide) (seq_zero (by omega)) (Int.fmod_nonneg_of_pos _ (by decide)) (Int.fmod_lt_of_pos _ (by decide)) (by rw [sizeLine_eq]; omega) (fun h8 hg hs => ?_)
  have S9 := LS.of (s := ⟨_, gs, d9, 0, o9⟩) F2 N2 (.cons _ (.cons _ (.cons _ (.cons _ (.cons _ (Spl.app X)))))) G ab hd ho nd
  have S8 := LS.change (own1 := [_, _, _, _]) S9 C (Nat.lt_trans (lt_3 L) ha) (fun q hq => ?hdis) hg hs ⟨(fun _ _ q => nomatch q), (fun _ q => nomatch q)⟩
  · refine k _ _ (LS.to (LS.tk S8) (by show upd m (Str.ofString "data") _ = m; rw [upd_say hm0]))
  case hdis =>
    rcases List.mem_append.mp hq with hq | hq
    · simp only [List.mem_cons, List.not_mem_nil, or_false] at hq
      rcases hq with rfl | rfl | rfl | rfl
      · exact Nat.ne_of_lt ha
      · exact Nat.ne_of_lt (Nat.lt_trans (Nat.lt_succ_self _) ha)
      · exact Nat.ne_of_lt (Nat.lt_trans (Nat.lt_trans (Nat.lt_succ_self _) (Nat.lt_succ_self _)) ha)
      · exact hl
    · exact hX q hq
set_option maxHeartbeats 4000000 in
theorem c_set2 (P9 : Pg w p loose mg mb b) (C : Cx (n + 9) b A outer h₀) {ad : Addr} {bs : Array UInt8} {rs : List Int} (hX : ∀ p ∈ X, p.1 ≠ ad) (ha : L + 3 < ad) (hz : bs.size ≤ 8) (hn : 0 < rs.length) (hb : bs.size = rs.length) (hi : IntsAre rv rs) (hl : lr ≠ ad) (hr1 : 0 ≤ rs.getD 0 0) (hr2 : rs.getD 0 0 < 256) (dR : oR.data = .cell (some (.ref lr))) (S : LS h₀ outer L dr os ((L+3, oK) :: (L+2, oR) :: (L+1, oN) :: (lr, listOf rv.toArray nr) :: (ad, baO bs) :: X) m s) (hm0 : m (Str.ofString "data") = some (.ref ad)) (k : ∀ s', LS h₀ outer L dr os ((L+3, oK) :: (L+2, oR) :: (L+1, oN) :: (lr, listOf rv.toArray nr) :: (ad, baO (bs.setIfInBounds 0 (rs.getD 0 0).toNat.toUInt8)) :: X) m s' → Q .next s') : wpAny (model PySem.Challenge.rw_br5013_01.row.prog w) (A.deeper (lawEnv L a cd)) (exec (nth cutBody 4) (lawEnv L a cd)) Q (fun _ _ => False) s := by
  rw [← upd_say hm0] at S
  obtain ⟨⟨fl, F, N, G⟩, ab, hd, ho, nd⟩ := S
  obtain ⟨h, gs, d9, tk, o9⟩ := s
  have X9 := P9.X.keeps (C.base P9.bt)
  revert X9
  k_fill
  intro X9
  have T := P9.T.keeps (C.base P9.bt)
  have hh9 := C.hd
  have bt := P9.bt
  simp only [lawEnv]
  conv in (nth cutBody 4) => whnf
  conv in (occs := *) lawScope => all_goals whnf
  have XK := X9
  clear X9
  dsimp only [upd] at F N ab hd ho
  k_steps
  rename News _ _ _ _ => N2
  rename Fr _ _ _ _ => F2
  refine (show wpAny _ _ _ _ _ _ from ?_)
  refine set_ba (k := 0) (N2 _ (.tail _ (.tail _ (.tail _ (.tail _ (.head _)))))).1 (by decide) (seq_zero (by omega)) hr1 hr2 (by rw [sizeLine_eq]; omega) (fun h8 hg hs => ?_)
  have S9 := LS.of (s := ⟨_, gs, d9, 0, o9⟩) F2 N2 (.cons _ (.cons _ (.cons _ (.cons _ (.cons _ (Spl.app X)))))) G ab hd ho nd
  have S8 := LS.change (own1 := [_, _, _, _]) S9 C (Nat.lt_trans (lt_3 L) ha) (fun q hq => ?hdis) hg hs ⟨(fun _ _ q => nomatch q), (fun _ q => nomatch q)⟩
  · refine k _ (LS.to (LS.tk S8) (by show upd m (Str.ofString "data") _ = m; rw [upd_say hm0]))
  case hdis =>
    rcases List.mem_append.mp hq with hq | hq
    · simp only [List.mem_cons, List.not_mem_nil, or_false] at hq
      rcases hq with rfl | rfl | rfl | rfl
      · exact Nat.ne_of_lt ha
      · exact Nat.ne_of_lt (Nat.lt_trans (Nat.lt_succ_self _) ha)
      · exact Nat.ne_of_lt (Nat.lt_trans (Nat.lt_trans (Nat.lt_succ_self _) (Nat.lt_succ_self _)) ha)
      · exact hl
    · exact hX q hq
end Br
end
-- BrW3
section
open PySem PySem.W PySem.Calls PyProof.Rows
set_option Elab.async false
set_option maxRecDepth 100000
set_option linter.unusedVariables false
set_option pp.deepTerms false
set_option pp.deepTerms.threshold 6
namespace Br
variable {w : World} {n : Nat} {b h₀ : Heap} {A : Around} {outer : List Env} {s : Shared} {Q : Flow → Shared → Prop} {p : Program} {loose : List Str} {mg mb : Str → Option Value} {L a : Addr} {cd : Value} {dr : Drawn} {os : OsState} {X : List (Addr × Obj)} {m : Str → Option Value} {oK oR oN : Obj} {lr : Addr} {rv : List Value} {nr : Nat}
theorem nc_cons {q : Addr × Obj} (h : ∀ v, q.2.data ≠ .cell v) (H : NC X) : NC (q :: X) := fun p hp => by
  rcases List.mem_cons.mp hp with rfl | hp
  · exact h
  · exact H p hp
/-- the cut, made anew -/
theorem cut_run (P9 : Pg w p loose mg mb b) (C : Cx (n + 9) b A outer h₀) {tm : Tok} {many : Nat} {v : Value} {bs : Array UInt8} {ln : Addr} {rs : List Int} (D : DX X v bs true) (hX : ∀ p ∈ X, p.2.cls = .type "bytearray" → p.2 = baO bs ∧ L + 3 < p.1) (hb : octs bs = rs) (hi : IntsAre rv rs) (hlen : rs.length = many) (hmany : many ≤ 8) (hn : 0 < many) (hr2 : ∀ d ∈ rs, 0 ≤ d ∧ d < 256) (hno : ∀ d ∈ rs, d ≠ 2)
    (dR : oR.data = .cell (some (.ref lr))) (H : MF m many tm v true ln) (S : LS h₀ outer L dr os ((L+3, oK) :: (L+2, oR) :: (L+1, oN) :: (lr, listOf rv.toArray nr) :: X) m s)
    (k : ∀ s' m', MF m' many tm v true ln → LS h₀ outer L dr os ((L+3, oK) :: (L+2, oR) :: (L+1, oN) :: (lr, listOf rv.toArray nr) :: X) m' s' → Q .next s') : wpQ (model PySem.Challenge.rw_br5013_01.row.prog w) (A.deeper (lawEnv L a cd)) (execs cutBody (lawEnv L a cd)) Q (fun _ _ => False) s := by
  have hsz : bs.size = rs.length := by rw [← octs_len, hb]
  rw [cutBody_eq]
  refine wpQ_execs_cons (wpQ_of (c_cutst P9 C D hb (by omega) hno S H.data (fun s1 ac oA hA hLa hXa S1 => ?_)))
  have H1 := mf_upd (x' := .ref ac) (x := Str.ofString "cut") H
  obtain ⟨ad, rfl, hD⟩ := D
  have hne : ac ≠ ad := fun e => hXa _ hD e.symm
  have had := (hX _ hD rfl).2
  refine wpQ_execs_cons (wpQ_of (c_same P9 C (X := (ac, oA) :: X) hne (.head _) hA (.tail _ hD) hb hi (by omega) dR S1.in1 H1.data upd_eq (fun s2 S2 => ?_)))
  have hlr : lr ≠ ad := fun e => by
    have e1 := S2.get (p := (lr, listOf rv.toArray nr)) (.tail _ (.tail _ (.tail _ (.head _))))
    have e2 := S2.get (p := (ad, baO bs)) (.tail _ (.tail _ (.tail _ (.tail _ (.tail _ hD)))))
    dsimp only at e1 e2
    rw [e, e2] at e1
    exact absurd (Value.type.inj (congrArg Obj.cls (Option.some.inj e1))) (by decide)
  have same : ∀ p ∈ X, p.1 = ad → p = (ad, baO bs) := fun p hp e => by
    have e1 := S2.get (p := p) (.tail _ (.tail _ (.tail _ (.tail _ (.tail _ hp)))))
    have e2 := S2.get (p := (ad, baO bs)) (.tail _ (.tail _ (.tail _ (.tail _ (.tail _ hD)))))
    rw [e, e2] at e1
    obtain ⟨p1, p2⟩ := p
    cases e
    cases Option.some.inj e1
    rfl
  have hY : ∀ p ∈ (ac, oA) :: X.filter (fun p => p.1 != ad), p.1 ≠ ad := fun p hp => by
    rcases List.mem_cons.mp hp with rfl | hp
    · exact hne
    · exact bne_iff_ne.mp (List.mem_filter.mp hp).2
  have S3 : LS h₀ outer L dr os ((L+3, oK) :: (L+2, oR) :: (L+1, oN) :: (lr, listOf rv.toArray nr) :: (ad, baO bs) :: (ac, oA) :: X.filter (fun p => p.1 != ad)) _ s2 := S2.dropX fun p hp => by
    rcases List.mem_cons.mp hp with rfl | hp
    · exact .tail _ hD
    · rcases List.mem_cons.mp hp with rfl | hp
      · exact .head _
      · exact .tail _ (List.mem_filter.mp hp).1
  have hr0 : 0 ≤ rs.getD 0 0 ∧ rs.getD 0 0 < 256 := hr2 _ (getD_mem (by omega))
  refine wpQ_execs_cons (wpQ_of (c_set1 P9 C hY had (by omega) (by omega) hsz hi hlr dR S3 H1.data (fun s4 x S4 => ?_)))
  refine wpQ_execs_cons (wpQ_of (c_alike2 P9 C (X := (ad, baO (bs.setIfInBounds 0 x)) :: (ac, oA) :: X.filter (fun p => p.1 != ad)) (.tail _ (.head _)) hA hb hi (by omega) dR S4 upd_eq (fun s5 S5 => ?_)))
  refine wpQ_execs_cons (wpQ_of (c_set2 P9 C hY had (by rw [Array.size_setIfInBounds]; omega) (by omega) (by rw [Array.size_setIfInBounds]; exact hsz) hi hlr hr0.1 hr0.2 dR S5 H1.data (fun s6 S6 => ?_)))
  rw [set_zero hb (by omega)] at S6
  refine wpQ_of (wpAny_execs_nil (k _ _ H1 (S6.dropX fun p hp => ?_)))
  by_cases e : p.1 = ad
  · rw [same p hp e]; exact .head _
  · exact .tail _ (.tail _ (List.mem_filter.mpr ⟨hp, bne_iff_ne.mpr e⟩))
theorem outer_turn (P9 : Pg w p loose mg mb b) (C : Cx (n + 9) b A outer h₀) {tm : Tok} {many nxn : Nat} {soft : Bool} {ln : Addr} {nv : List Value} {ns rs : List Int} {ck cn : Option Value} (hi : IntsAre rv rs) (hlen : rs.length = many) (hmany : many ≤ 8) (hr2 : ∀ d ∈ rs, 0 ≤ d ∧ d < 256) (hno : ∀ d ∈ rs, d ≠ 2)
    (hln : (ln, listOf nv.toArray nxn) ∈ X) (hin : IntsAre nv ns) (dR : oR.data = .cell (some (.ref lr))) (dN : oN.data = .cell cn) (dK : oK.data = .cell ck) (nc : NC X) (nb : ∀ p ∈ X, p.2.cls ≠ .type "bytearray")
    (hm1 : m (Str.ofString "many") = some (.int (many : Nat) tm)) (hm2 : m (Str.ofString "soft") = some (.bool soft)) (hm3 : m (Str.ofString "numbers") = some (.ref ln)) (S : LS h₀ outer L dr os ((L+3, oK) :: (L+2, oR) :: (L+1, oN) :: (lr, listOf rv.toArray nr) :: X) m s)
    (k : ∀ s' m' oK' oN' ck' cn', oK'.data = .cell ck' → oN'.data = .cell cn' → m' (Str.ofString "many") = some (.int (many : Nat) tm) → m' (Str.ofString "numbers") = some (.ref ln) → LS h₀ outer L dr os ((L+3, oK') :: (L+2, oR) :: (L+1, oN') :: (lr, listOf rv.toArray nr) :: X) m' s' → Q .next s') :
    wpQ (model PySem.Challenge.rw_br5013_01.row.prog w) (A.deeper (lawEnv L a cd)) (execs outBody (lawEnv L a cd)) Q (fun _ _ => False) s := by
  rw [outBody_eq]
  refine wpQ_execs_cons (o_data P9 C hi (by omega) hr2 dR S hm2 (fun s1 v X' D1 hs1 hs2 S1 => ?_))
  have hb : octs (byteArr rs) = rs := octs_byteArr hr2
  have H1 : MF (upd m (Str.ofString "data") v) many tm v soft ln := ⟨(upd_ne (by decide)).trans hm1, upd_eq, (upd_ne (by decide)).trans hm2, (upd_ne (by decide)).trans hm3⟩
  have nc' : NC X' := fun p hp v9 q => by
    rcases hs2 p hp with h | ⟨h, _⟩
    · exact nc p h v9 q
    · rw [h] at q; cases q
  have hX' : ∀ p ∈ X', p.2.cls = .type "bytearray" → p.2 = baO (byteArr rs) ∧ L + 3 < p.1 := fun p hp hc => (hs2 p hp).elim (fun h => absurd hc (nb p h)) id
  refine wpQ_execs_cons (wpQ_of (o_extreme P9 C D1 hb hi hlen hmany dR S1 H1.many H1.data (fun s2 S2 => ?_)))
  obtain ⟨px, pz, e⟩ := nums_eq
  rw [e]
  refine wpQ_execs_cons (wpQ_For (i_nums P9 C S2 H1.nums (fun s3 S3 => ?_)) (by intro _; rfl))
  refine LS.for_list (vs := nv) (nx := nxn) (fun i own m' => ∃ oK' oN' ck' cn', own = (L+3, oK') :: (L+2, oR) :: (L+1, oN') :: (lr, listOf rv.toArray nr) :: X' ∧ oK'.data = .cell ck' ∧ oN'.data = .cell cn' ∧ MF m' many tm v soft ln) C.hd C S3 ?_ ⟨oK, oN, ck, cn, rfl, dK, dN, H1⟩ ?_ ?_
  · rintro i own₁ m₁ ⟨oK', oN', ck', cn', rfl, _⟩
    exact ⟨.tail _ (.tail _ (.tail _ (.tail _ (hs1 _ hln)))), rfl⟩
  · rintro i v9 own₁ m₁ q s₁ ⟨fs, hq, _⟩ hv9 ⟨oK', oN', ck', cn', rfl, dK', dN', H3⟩ S4
    obtain ⟨num, u, rfl, _⟩ := IntsAre.at hin i v9 hv9
    have nq : ∀ v, q.2.data ≠ .cell v := fun v z => by rw [hq] at z; cases z
    refine ls_assignC (own1 := [q, (L+3, oK'), (L+2, oR)]) S4 C (by rfl) (lt_1 L) dN' (ncc_cons (.inr nq) (ncc_cons (.inl (Ne.symm (ne_13 L))) (ncc_cons (.inl (Ne.symm (ne_12 L))) (ncc_cons (.inr fun _ z => nomatch z) nc'.at)))) (fun s5 oN5 d5 S5 => ?_) (by rfl)
    have S6 := LS.in1 S5
    refine inner_turn P9 C (D1.mono fun _ h => .tail _ h) hb hi hlen hmany hr2 dR d5 dK' (nc_cons nq nc') H3 S6 (fun s7 m7 oK7 ck7 dK7 H7 S7 => ?_)
    exact ⟨_, _, ⟨oK7, oN5, ck7, _, rfl, dK7, d5, H7⟩, S7.out1⟩
  · rintro own₁ m₁ s₁ ⟨oK', oN', ck', cn', rfl, dK', dN', H3⟩ S4
    obtain ⟨pc, ec⟩ := cut_eq
    rw [ec]
    have go : ∀ s' m', MF m' many tm v soft ln → LS h₀ outer L dr os ((L+3, oK') :: (L+2, oR) :: (L+1, oN') :: (lr, listOf rv.toArray nr) :: X') m' s' → wpQ (model PySem.Challenge.rw_br5013_01.row.prog w) (A.deeper (lawEnv L a cd)) (execs [nth outBody 4] (lawEnv L a cd)) Q (fun _ _ => False) s' := fun s' m' H' S' => by
      refine wpQ_execs_cons (wpQ_of (o_octets P9 C D1 hb hi (by omega) dR S' H'.data (fun s6 S6 => ?_)))
      exact wpQ_of (wpAny_execs_nil (k _ _ oK' oN' _ _ dK' dN' H'.many H'.nums (S6.dropX hs1)))
    refine wpQ_execs_cons (wpQ_If (wpQ_of (t_cut3 P9 C S4 H3.many H3.soft (fun s5 b9 hb9 S5 => ?_))))
    cases b9 with
    | true =>
      obtain ⟨hn, hsf⟩ := hb9 rfl
      subst hsf
      exact cut_run P9 C D1 hX' hb hi hlen hmany hn hr2 hno dR H3 S5 fun s' m' H' S' => go s' m' H' S'
    | false => exact wpQ_of (wpAny_execs_nil (go _ _ H3 S5))
end Br
end
-- BrIf
section
open PySem PySem.W PySem.Calls PyProof.Rows
set_option Elab.async false
set_option maxRecDepth 100000
set_option linter.unusedVariables false
namespace Br
section
variable {prog : Program} {w : World} {n : Nat} {b : Heap} {A : Around} {outer : List Env} {s : Shared} {f : Addr} {K : Frag}
  {name qual : Str} {params : Arguments} {body : List Stmt} {scope : Scope} {dV kV doc pm cdv ct oc : Value} {an od : Option Addr} {osl : Array (Option Value)} {vs : List Value} {binds : List (Str × Value)}
  {Q E : Value → Shared → Prop}
/-- a def's entry, the whole heap its base: for a body that calls nothing -/
theorem enter_kp (C : Cx n b A outer s.heap) (X : K.In b) (lim : b.NoLimit)
    (ho : K.lookup f = some ⟨oc, od, .func (fnX name qual params body scope [] dV kV doc pm an cdv ct), osl⟩) (hcd : codeIn K cdv qual = true)
    (hbind : BindsTo s (fnX name qual params body scope [] dV kV doc pm an cdv ct) ⟨vs, []⟩ binds)
    (hloc : ∀ y ∈ binds, scope.names.lookup y.1 = some .local) (hcell : ∀ x ∈ scope.names, x.2 ≠ .cell)
    (hco : scope.isCoroutine = false) (hgen : scope.isGenerator = false) (hk : scope.kind = .function)
    (h : ∀ L h₁, Fr s.heap L h₁ (fun y => binds.reverse.lookup y) → News s.heap L h₁ [] →
      wpAny (model prog w) (A.deeper (envX qual scope L f cdv [])) (execs body (envX qual scope L f cdv []))
        (fun fl s' => Q (match fl with | .ret v => v | _ => .none) s')
        (fun e s' => wpAny (model prog w) (A.deeper (envX qual scope L f cdv [])) (leaving (envX qual scope L f cdv []) e) (fun _ s'' => E e s'') (fun e' s'' => E e' s'') s')
        { s with heap := h₁, toks := s.toks + binds.length }) : wpAny (model prog w) A (PySem.call (.ref f) vs) Q E s := by
  have X' : K.In s.heap := X.keeps C.st
  have roo : A.depth < recursionLimit := by have := C.dp; omega
  refine wpAny_call (codeAny_call_def (fd := fnX name qual params body scope [] dV kV doc pm an cdv ct) (body := body) (binds := binds) roo (X' _ _ ho) rfl (lim.keeps C.st) (codeRec_of X' hcd) rfl hbind hcell hloc (fun h₁ hns hk₁ => ?_) hco hgen hk)
  exact wpAny_mono (h s.heap.objs.size h₁ ⟨hns, hk₁, Nat.le_refl _⟩ News.nil) (fun fl s' q => q) fun e s' q => q
end
variable {w : World} {n : Nat} {b : Heap} {A : Around} {outer : List Env} {s : Shared} {Q E : Value → Shared → Prop} {p : Program} {loose : List Str} {mg mb : Str → Option Value}
set_option maxHeartbeats 4000000 in
theorem c_ifb (P9 : Pg w p loose mg mb b) (C : Cx (n + 1) b A outer s.heap) (v : Value) (k : ∀ h' tk', Kp s.heap h' → Q v { s with heap := h', toks := tk' }) : wpAny (model PySem.Challenge.rw_br5013_01.row.prog w) A (PySem.call (.ref 355) [v]) Q E s := by
  have X := P9.X
  have T := P9.T
  have bt := P9.bt
  revert X
  k_fill
  intro X
  refine' enter_kp (f := 355) C X T.nolimit (ho := ?h1) (hcd := ?h2) (hbind := ?h3) (hloc := ?h4) (hcell := ?h5) (hco := ?h6) (hgen := ?h7) (hk := ?h8) (h := ?h9)
  case h1 => k_is
  case h2 => k_is
  case h3 => exact .of_eq rfl
  case h4 => exact locs rfl
  case h5 => decide
  case h6 => rfl
  case h7 => rfl
  case h8 => rfl
  intro L h₁ F N
  have hh9 := C.hd
  replace X := X.keeps C.st
  replace T := T.keeps C.st
  k_steps
  exact k _ _ F.keep
end Br
end
-- BrS13
section
open PySem PySem.W PySem.Calls PyProof.Rows
set_option Elab.async false
set_option maxRecDepth 100000
set_option linter.unusedVariables false
set_option pp.deepTerms false
set_option pp.deepTerms.threshold 6
namespace Br
local macro_rules | `(tactic| walk_at "call ref") => `(tactic| (refine hold ?_))
local macro_rules | `(tactic| walk_at "subscriptTail") => `(tactic| ((with_reducible show wpAny _ _ (subscriptTail _ _ (Value.ref 519) (Value.int (Int.fmod _ 7) _)) _ _ _); refine item_signs (by assumption) (by assumption) (Int.fmod_nonneg_of_pos _ (by decide)) (Int.fmod_lt_of_pos _ (by decide)) (fun tz => ?_)))
local macro_rules | `(tactic| walk_at "eval Name") => `(tactic| ((with_reducible show wpAny _ _ (eval (Expr.Name _ _) (compEnvC _ _ _ _)) _ _ _); first
  | refine ldc_global (by assumption) (by assumption) (by assumption) (by k_is) ?_
  | refine ldc_built (by assumption) (by assumption) (by assumption) (by k_is) (by boot_by_name) (by decide) ?_))
local macro_rules | `(tactic| walk_at "eval ListComp") => `(tactic| (refine hold ?_))
local macro_rules | `(tactic| walk_at "compareOp NotEq ref ref") => `(tactic| (refine hold ?_))
local macro_rules | `(tactic| walk_at "compareOp Eq ref ref") => `(tactic| (refine hold ?_))
variable {w : World} {n : Nat} {b h₀ : Heap} {A : Around} {outer : List Env} {s : Shared} {Q : Flow → Shared → Prop} {p : Program} {loose : List Str} {mg mb : Str → Option Value} {L a : Addr} {cd : Value} {dr : Drawn} {os : OsState} {X : List (Addr × Obj)} {m : Str → Option Value} {oK oR oN : Obj} {lr : Addr} {rv : List Value} {nr : Nat}
set_option maxHeartbeats 4000000 in
theorem l_numbers (P9 : Pg w p loose mg mb b) (C : Cx (n + 9) b A outer h₀) {ls : Addr} {sv : List Value} {ns : List Int} (hls : (under h₀ outer).IsList ls sv.toArray) (hi : IntsAre sv ns) (hz : ns.length ≤ 63) (S : LS h₀ outer L dr os ((L+3, oK) :: (L+2, oR) :: (L+1, oN) :: X) m s) (hm0 : m (Str.ofString "script") = some (.ref ls)) (k : ∀ s' ln nv nx, IntsAre nv (ns.take 8) → LS h₀ outer L dr os ((ln, listOf nv.toArray nx) :: (L+3, oK) :: (L+2, oR) :: (L+1, oN) :: X) (upd m (Str.ofString "numbers") (.ref ln)) s' → Q .next s') : wpAny (model PySem.Challenge.rw_br5013_01.row.prog w) (A.deeper (lawEnv L a cd)) (exec (nth lawBody 0) (lawEnv L a cd)) Q (fun _ _ => False) s := by
  rw [← upd_say hm0] at S
  obtain ⟨⟨fl, F, N, G⟩, ab, hd, ho, nd⟩ := S
  obtain ⟨h, gs, d9, tk, o9⟩ := s
  have X9 := P9.X.keeps (C.base P9.bt)
  revert X9
  k_fill
  intro X9
  have T := P9.T.keeps (C.base P9.bt)
  have hh9 := C.hd
  have bt := P9.bt
  simp only [lawEnv]
  conv in (nth lawBody 0) => whnf
  conv in (occs := *) lawScope => all_goals whnf
  have XK := X9
  clear X9
  dsimp only [upd] at F N ab hd ho
  k_steps
  rename IntsAre _ _ => hI
  refine k _ _ _ _ ?_ (LS.to (LS.of (by assumption) (by assumption) (.cons _ (.cons _ (.cons _ (.cons _ (Spl.app X))))) G ab hd ho (by exact (nds_cons (fun _ _ q => nomatch q) (fun _ q => nomatch q) nd))) (by show upd (upd m (Str.ofString "script") _) (Str.ofString "numbers") _ = _; rw [upd_say hm0]))
  exact hI
set_option maxHeartbeats 4000000 in
theorem l_row (P9 : Pg w p loose mg mb b) (C : Cx (n + 9) b A outer h₀) {ln : Addr} {nx : Nat} {nv : List Value} {ns : List Int} {cr : Option Value} (hi : IntsAre nv ns) (hz : ns.length ≤ 8) (dR : oR.data = .cell cr) (nc : NC X) (S : LS h₀ outer L dr os ((L+3, oK) :: (L+2, oR) :: (L+1, oN) :: (ln, listOf nv.toArray nx) :: X) m s) (hm0 : m (Str.ofString "numbers") = some (.ref ln)) (k : ∀ s' oR' lr rv nr, IntsAre rv (ns.map fun k => sgn (k % 7)) → oR'.data = .cell (some (.ref lr)) → LS h₀ outer L dr os ((lr, listOf rv.toArray nr) :: (L+3, oK) :: (L+2, oR') :: (L+1, oN) :: (ln, listOf nv.toArray nx) :: X) m s' → Q .next s') : wpAny (model PySem.Challenge.rw_br5013_01.row.prog w) (A.deeper (lawEnv L a cd)) (exec (nth lawBody 1) (lawEnv L a cd)) Q (fun _ _ => False) s := by
  rw [← upd_say hm0] at S
  obtain ⟨⟨fl, F, N, G⟩, ab, hd, ho, nd⟩ := S
  obtain ⟨h, gs, d9, tk, o9⟩ := s
  have X9 := P9.X.keeps (C.base P9.bt)
  revert X9
  k_fill
  intro X9
  have T := P9.T.keeps (C.base P9.bt)
  have hh9 := C.hd
  have bt := P9.bt
  simp only [lawEnv]
  conv in (nth lawBody 1) => whnf
  conv in (occs := *) lawScope => all_goals whnf
  have XK := X9
  clear X9
  dsimp only [upd] at F N ab hd ho
  k_steps
  refine (show wpAny _ _ _ _ _ _ from ?_)
  refine LCg.ListComp_U (F₀ := F) (by with_unfolding_all rfl) (by decide) (by rfl) (by decide) (by rfl) ?_
  k_steps
  refine LCg.CompSrc.ledger hh9 F N (.tail _ (.tail _ (.tail _ (.head _)))) (by have := hi.length; rw [sizeLine_eq]; simp; omega) (fun g' => ?_)
  refine kcf_list (fun x => sgn (x.fmod 7)) hi (fun k' t' I' oI' C' oC' D' m' ys' h' tk' E' hk' hC' hx' F' N' off' ne' hM' => ?_) ?_
  · clear F N
    (try (simp only [LCg.Off3, and_true] at off'))
    k_steps
  · show ∀ ys, _ → _
    intro ys hys
    unfold LCg.FinE
    intro D7 h7 tk7 F7 N7 o7
    clear F N
    have S9 := LS.of (s := ⟨h7, gs, d9, 0, o9⟩) F7 N7 (.cons _ (.cons _ (.cons _ (.cons _ (.cons _ (Spl.app X)))))) G ab hd ho (by exact (nds_cons (fun _ _ q => nomatch q) (fun _ q => nomatch q) nd))
    refine LS.storeCell (own1 := [_, _]) S9 C (by rfl) (lt_2 L) dR (ncc_cons (.inr fun _ q => nomatch q) (ncc_cons (.inl (Ne.symm (ne_23 L))) (ncc_cons (.inl (ne_12 L)) (ncc_cons (.inr fun _ q => nomatch q) nc.at)))) (fun h8 o8 d8 S8 => ?_)
    refine k _ o8 _ _ _ ?_ d8 (LS.to S8 (by show upd m (Str.ofString "numbers") _ = m; rw [upd_say hm0]))
    have e : (fun k : Int => sgn (k % 7)) = fun k => sgn (k.fmod 7) := funext fun k => by rw [Int.fmod_eq_emod_of_nonneg _ (by decide)]
    rw [e]
    exact hys
set_option maxHeartbeats 4000000 in
theorem l_many (P9 : Pg w p loose mg mb b) (C : Cx (n + 9) b A outer h₀) {rs : List Int} (hi : IntsAre rv rs) (hz : rs.length ≤ 8) (dR : oR.data = .cell (some (.ref lr))) (S : LS h₀ outer L dr os ((L+3, oK) :: (L+2, oR) :: (L+1, oN) :: (lr, listOf rv.toArray nr) :: X) m s) (k : ∀ s' t, LS h₀ outer L dr os ((L+3, oK) :: (L+2, oR) :: (L+1, oN) :: (lr, listOf rv.toArray nr) :: X) (upd m (Str.ofString "many") (.int (rs.length : Nat) t)) s' → Q .next s') : wpAny (model PySem.Challenge.rw_br5013_01.row.prog w) (A.deeper (lawEnv L a cd)) (exec (nth lawBody 2) (lawEnv L a cd)) Q (fun _ _ => False) s := by
  obtain ⟨⟨fl, F, N, G⟩, ab, hd, ho, nd⟩ := S
  obtain ⟨h, gs, d9, tk, o9⟩ := s
  have X9 := P9.X.keeps (C.base P9.bt)
  revert X9
  k_fill
  intro X9
  have T := P9.T.keeps (C.base P9.bt)
  have hh9 := C.hd
  have bt := P9.bt
  simp only [lawEnv]
  conv in (nth lawBody 2) => whnf
  conv in (occs := *) lawScope => all_goals whnf
  have XK := X9
  clear X9
  dsimp only [upd] at F N ab hd ho
  k_steps
  refine k _ _ (LS.to (LS.of (by assumption) (by assumption) (.cons _ (.cons _ (.cons _ (.cons _ (Spl.app X))))) G ab hd ho (by exact nd)) rfl)
set_option maxHeartbeats 4000000 in
theorem l_version (P9 : Pg w p loose mg mb b) (C : Cx (n + 9) b A outer h₀)  (S : LS h₀ outer L dr os ((L+3, oK) :: (L+2, oR) :: (L+1, oN) :: (lr, listOf rv.toArray nr) :: X) m s) (k : ∀ s', LS h₀ outer L dr os ((L+3, oK) :: (L+2, oR) :: (L+1, oN) :: (lr, listOf rv.toArray nr) :: X) m s' → Q .next s') : wpAny (model PySem.Challenge.rw_br5013_01.row.prog w) (A.deeper (lawEnv L a cd)) (exec (nth lawBody 4) (lawEnv L a cd)) Q (fun _ _ => False) s := by
  obtain ⟨⟨fl, F, N, G⟩, ab, hd, ho, nd⟩ := S
  obtain ⟨h, gs, d9, tk, o9⟩ := s
  have X9 := P9.X.keeps (C.base P9.bt)
  revert X9
  k_fill
  intro X9
  have T := P9.T.keeps (C.base P9.bt)
  have hh9 := C.hd
  have bt := P9.bt
  simp only [lawEnv]
  conv in (nth lawBody 4) => whnf
  conv in (occs := *) lawScope => all_goals whnf
  have XK := X9
  clear X9
  dsimp only [upd] at F N ab hd ho
  k_steps
  rename News _ _ _ _ => N2
  rename Fr _ _ _ _ => F2
  refine (show wpAny _ _ _ _ _ _ from ?_)
  refine ne_dataH_same (da := .tuple [.int 0, .int 11]) (db := .tuple [.int 0, .int 11]) (Reads.tuple (XK.keeps F2.keep 22 _ (by k_is)) rfl rfl (.cons (.int _ _) (.cons (.int _ _) .nil))) (Reads.tuple (N2 _ (.head _)).1 rfl rfl (.cons (.int _ _) (.cons (.int _ _) .nil))) (by decide +kernel) (by decide +kernel) (by have := C.un; show A.units + 3 + 64 < _; omega) (by decide +kernel) ?_
  rw [show PySem.Spec.same (.tuple [.int 0, .int 11]) (.tuple [.int 0, .int 11]) = true by decide +kernel]
  k_steps
  refine k _  (LS.to (LS.sub (LS.of (by assumption) (by assumption) (.cons _ (.cons _ (.cons _ (.cons _ (.cons _ (Spl.app X)))))) G ab hd ho (by exact (nds_cons (fun _ _ q => nomatch q) (fun _ q => nomatch q) nd))) (fun q hq => (.tail _ hq))) rfl)
set_option maxHeartbeats 4000000 in
theorem l_seek (P9 : Pg w p loose mg mb b) (C : Cx (n + 9) b A outer h₀)  (S : LS h₀ outer L dr os ((L+3, oK) :: (L+2, oR) :: (L+1, oN) :: (lr, listOf rv.toArray nr) :: X) m s) (k : ∀ s', LS h₀ outer L dr os ((L+3, oK) :: (L+2, oR) :: (L+1, oN) :: (lr, listOf rv.toArray nr) :: X) m s' → Q .next s') : wpAny (model PySem.Challenge.rw_br5013_01.row.prog w) (A.deeper (lawEnv L a cd)) (exec (nth lawBody 5) (lawEnv L a cd)) Q (fun _ _ => False) s := by
  obtain ⟨⟨fl, F, N, G⟩, ab, hd, ho, nd⟩ := S
  obtain ⟨h, gs, d9, tk, o9⟩ := s
  have X9 := P9.X.keeps (C.base P9.bt)
  revert X9
  k_fill
  intro X9
  have T := P9.T.keeps (C.base P9.bt)
  have hh9 := C.hd
  have bt := P9.bt
  simp only [lawEnv]
  conv in (nth lawBody 5) => whnf
  conv in (occs := *) lawScope => all_goals whnf
  have XK := X9
  clear X9
  dsimp only [upd] at F N ab hd ho
  k_steps
  refine k _  (LS.to (LS.of (by assumption) (by assumption) (.cons _ (.cons _ (.cons _ (.cons _ (Spl.app X))))) G ab hd ho (by exact nd)) rfl)
set_option maxHeartbeats 4000000 in
theorem l_ret (P9 : Pg w p loose mg mb b) (C : Cx (n + 9) b A outer h₀) {rs : List Int} (hi : IntsAre rv rs) (hz : rs.length ≤ 8) (dR : oR.data = .cell (some (.ref lr))) (S : LS h₀ outer L dr os ((L+3, oK) :: (L+2, oR) :: (L+1, oN) :: (lr, listOf rv.toArray nr) :: X) m s) (k : ∀ s', LS h₀ outer L dr os ((L+3, oK) :: (L+2, oR) :: (L+1, oN) :: (lr, listOf rv.toArray nr) :: X) m s' → Q (.ret (.bool true)) s') : wpAny (model PySem.Challenge.rw_br5013_01.row.prog w) (A.deeper (lawEnv L a cd)) (exec (nth lawBody 6) (lawEnv L a cd)) Q (fun _ _ => False) s := by
  obtain ⟨⟨fl, F, N, G⟩, ab, hd, ho, nd⟩ := S
  obtain ⟨h, gs, d9, tk, o9⟩ := s
  have X9 := P9.X.keeps (C.base P9.bt)
  revert X9
  k_fill
  intro X9
  have T := P9.T.keeps (C.base P9.bt)
  have hh9 := C.hd
  have bt := P9.bt
  simp only [lawEnv]
  conv in (nth lawBody 6) => whnf
  conv in (occs := *) lawScope => all_goals whnf
  have XK := X9
  clear X9
  dsimp only [upd] at F N ab hd ho
  k_steps
  refine (show wpAny _ _ _ _ _ _ from ?_)
  refine LCg.ListComp_U (F₀ := F) (by with_unfolding_all rfl) (by decide) (by rfl) (by decide) (by rfl) ?_
  k_steps
  refine LCg.CompSrc.ledger hh9 F N (.tail _ (.tail _ (.tail _ (.head _)))) (by have := hi.length; rw [sizeLine_eq]; simp; omega) (fun g' => ?_)
  refine kcf_list (fun x => x) hi (fun k' t' I' oI' C' oC' D' m' ys' h' tk' E' hk' hC' hx' F' N' off' ne' hM' => ?_) ?_
  · clear F N
    (try (simp only [LCg.Off3, and_true] at off'))
    k_steps
    refine (show wpAny _ _ _ _ _ _ from ?_)
    rename News _ _ _ _ => N4
    rename Fr _ _ _ _ => F4
    refine c_ifb P9 (Cx.push C bt (C.base bt) F4 N4 (.cons _ (.cons _ (.cons _ (.cons _ (.cons _ (.cons _ (.cons _ (Spl.app X)))))))) G (by rfl) (by rfl) (by rfl)) _ (fun h3 tk3 k3 => ?_)
    have F3 := fr_kp F4 k3
    have N3 := news_kp N4 k3
    clear F4 N4
    dsimp only
    k_steps
  · show ∀ ys, _ → _
    intro ys hys
    unfold LCg.FinE
    intro D7 h7 tk7 F7 N7 o7
    clear F N
    k_steps
    refine (show wpAny _ _ _ _ _ _ from ?_)
    refine eq_intsK (N7.isList (.head _)) hys (N7.isList (.tail _ (.tail _ (.tail _ (.tail _ (.head _)))))) hi (by have := C.un; show A.units + 3 + 64 < _; omega) ?_
    rw [List.map_id', decide_eq_true rfl]
    k_steps
    refine k _  (LS.to (LS.sub (LS.of (by assumption) (by assumption) (.cons _ (.cons _ (.cons _ (.cons _ (.cons _ (Spl.app X)))))) G ab hd ho (by exact (nds_cons (fun _ _ q => nomatch q) (fun _ q => nomatch q) nd))) (fun q hq => (.tail _ hq))) rfl)
end Br
end
-- BrW4
section
open PySem PySem.W PySem.Calls PyProof.Rows
set_option Elab.async false
set_option maxRecDepth 100000
set_option linter.unusedVariables false
set_option pp.deepTerms false
set_option pp.deepTerms.threshold 6
namespace Br
variable {w : World} {n : Nat} {b h₀ : Heap} {A : Around} {outer : List Env} {s : Shared} {Q : Flow → Shared → Prop} {p : Program} {loose : List Str} {mg mb : Str → Option Value} {L a : Addr} {cd : Value} {dr : Drawn} {os : OsState} {X : List (Addr × Obj)} {m : Str → Option Value} {oK oR oN : Obj} {lr : Addr} {rv : List Value} {nr : Nat}
theorem law_run (P9 : Pg w p loose mg mb b) (C : Cx (n + 9) b A outer h₀) {ls : Addr} {sv : List Value} {ns : List Int} {ck cr cn : Option Value} (hls : (under h₀ outer).IsList ls sv.toArray) (his : IntsAre sv ns) (hz : ns.length ≤ 63) (dR : oR.data = .cell cr) (dN : oN.data = .cell cn) (dK : oK.data = .cell ck)
    (hs : m (Str.ofString "script") = some (.ref ls)) (S : LS h₀ outer L dr os [(L+3, oK), (L+2, oR), (L+1, oN)] m s) (k : ∀ own m' s', LS h₀ outer L dr os own m' s' → Q (.ret (.bool true)) s') : wpQ (model PySem.Challenge.rw_br5013_01.row.prog w) (A.deeper (lawEnv L a cd)) (execs lawBody (lawEnv L a cd)) Q (fun _ _ => False) s := by
  rw [lawBody_eq]
  refine wpQ_execs_cons (wpQ_of (l_numbers P9 C (X := []) hls his hz S hs (fun s1 ln nv nx hnv S1 => ?_)))
  have hz8 : (ns.take 8).length ≤ 8 := by rw [List.length_take]; omega
  have S1' : LS h₀ outer L dr os ((L+3, oK) :: (L+2, oR) :: (L+1, oN) :: (ln, listOf nv.toArray nx) :: []) _ s1 := S1.sub fun p hp => by
    simp only [List.mem_cons] at hp ⊢
    rcases hp with h | h | h | h | h <;> simp [h]
  have nc0 : NC [] := fun _ h => nomatch h
  refine wpQ_execs_cons (wpQ_of (l_row P9 C hnv hz8 dR nc0 S1' upd_eq (fun s2 oR2 lr rv nr hrv dR2 S2 => ?_)))
  have S2' : LS h₀ outer L dr os ((L+3, oK) :: (L+2, oR2) :: (L+1, oN) :: (lr, listOf rv.toArray nr) :: (ln, listOf nv.toArray nx) :: []) _ s2 := S2.sub fun p hp => by
    simp only [List.mem_cons] at hp ⊢
    rcases hp with h | h | h | h | h | h <;> simp [h]
  have hr8 : ((ns.take 8).map fun k => sgn (k % 7)).length ≤ 8 := by rw [List.length_map]; exact hz8
  refine wpQ_execs_cons (wpQ_of (l_many P9 C hrv hr8 dR2 S2' (fun s3 t3 S3 => ?_)))
  have hm1 : upd (upd m (Str.ofString "numbers") (.ref ln)) (Str.ofString "many") (.int (((ns.take 8).map fun k => sgn (k % 7)).length : Nat) t3) (Str.ofString "many") = some (.int (((ns.take 8).map fun k => sgn (k % 7)).length : Nat) t3) := upd_eq
  have hm3 : upd (upd m (Str.ofString "numbers") (.ref ln)) (Str.ofString "many") (.int (((ns.take 8).map fun k => sgn (k % 7)).length : Nat) t3) (Str.ofString "numbers") = some (.ref ln) := (upd_ne (by decide)).trans upd_eq
  generalize upd (upd m (Str.ofString "numbers") (.ref ln)) (Str.ofString "many") (.int (((ns.take 8).map fun k => sgn (k % 7)).length : Nat) t3) = m3 at S3 hm1 hm3
  obtain ⟨px, pz, e⟩ := softs_eq
  rw [e]
  refine wpQ_execs_cons (wpQ_For (i_soft P9 C S3 (fun s4 lb S4 => ?_)) (by intro _; rfl))
  refine LS.for_list (vs := [Value.bool false, Value.bool true]) (nx := 0) (fun i own m' => ∃ oK' oN' ck' cn', own = (lb, listOf [Value.bool false, Value.bool true].toArray 0) :: (L+3, oK') :: (L+2, oR2) :: (L+1, oN') :: (lr, listOf rv.toArray nr) :: (ln, listOf nv.toArray nx) :: [] ∧ oK'.data = .cell ck' ∧ oN'.data = .cell cn' ∧
    m' (Str.ofString "many") = some (.int (((ns.take 8).map fun k => sgn (k % 7)).length : Nat) t3) ∧ m' (Str.ofString "numbers") = some (.ref ln)) C.hd C S4 ?_ ⟨oK, oN, ck, cn, rfl, dK, dN, hm1, hm3⟩ ?_ ?_
  · rintro i own₁ m₁ ⟨oK', oN', ck', cn', rfl, _⟩
    exact ⟨.head _, rfl⟩
  · rintro i v9 own₁ m₁ q s₁ ⟨fs, hq, hqc⟩ hv9 ⟨oK', oN', ck', cn', rfl, dK', dN', h1, h3⟩ S5
    obtain ⟨soft, rfl⟩ : ∃ soft, v9 = .bool soft := by
      match i, hv9 with
      | 0, h => exact ⟨false, (Option.some.inj h).symm⟩
      | 1, h => exact ⟨true, (Option.some.inj h).symm⟩
    refine ls_assign S5 (by rfl) (fun s6 S6 => ?_)
    have nc1 : NC (q :: (lb, listOf [Value.bool false, Value.bool true].toArray 0) :: (ln, listOf nv.toArray nx) :: []) := nc_cons (fun v z => by rw [hq] at z; cases z) (nc_cons (fun _ z => nomatch z) (nc_cons (fun _ z => nomatch z) nc0))
    refine outer_turn P9 C hrv rfl hr8 (row_rng _) (row_ne2 _) (.tail _ (.tail _ (.head _))) hnv dR2 dN' dK' nc1 ?_ ((upd_ne (by decide)).trans h1) upd_eq ((upd_ne (by decide)).trans h3) S6.in2 (fun s7 m7 oK7 oN7 ck7 cn7 dK7 dN7 g1 g3 S7 => ?_)
    · intro p hp
      simp only [List.mem_cons, List.not_mem_nil, or_false] at hp
      rcases hp with rfl | rfl | rfl
      · rw [hqc]; exact fun z => absurd (Value.type.inj z) (by decide)
      · exact fun z => absurd (Value.type.inj z) (by decide)
      · exact fun z => absurd (Value.type.inj z) (by decide)
    · exact ⟨_, _, ⟨oK7, oN7, ck7, cn7, rfl, dK7, dN7, g1, g3⟩, S7.out2⟩
  · rintro own₁ m₁ s₁ ⟨oK', oN', ck', cn', rfl, dK', dN', h1, h3⟩ S5
    refine wpQ_execs_cons (wpQ_of (l_version P9 C S5.drop1 (fun s6 S6 => ?_)))
    refine wpQ_execs_cons (wpQ_of (l_seek P9 C S6 (fun s7 S7 => ?_)))
    exact wpQ_execs_cons (wpQ_of (l_ret P9 C hrv hr8 dR2 S7 (fun s8 S8 => k _ _ _ S8)))
end Br
end
-- BrW5
section
open PySem PySem.W PySem.Calls PyProof.Rows
set_option Elab.async false
set_option maxRecDepth 100000
set_option linter.unusedVariables false
set_option pp.deepTerms false
set_option pp.deepTerms.threshold 6
namespace Br
section
variable {prog : Program} {w : World} {n : Nat} {b : Heap} {A : Around} {outer : List Env} {s : Shared} {f : Addr} {o : Obj}
  {name : Str} {params : Arguments} {body : List Stmt} {scope : Scope} {dV kV doc pm cd : Value} {vs : List Value} {binds : List (Str × Value)} {Q E : Value → Shared → Prop}
/-- a def's entry in a clean context, some of its names captured -/
theorem enter_cellsQ (C : Cx n b A outer s.heap) (hn : 1 ≤ n) (lim : s.heap.NoLimit) (ho : s.heap.get? f = some o) (hdat : o.data = .func { docDef name params body scope pm cd doc with defaults := dV, kwdefaults := kV }) (hcd : s.heap.CodeRec cd name)
    (hbind : BindsTo s { docDef name params body scope pm cd doc with defaults := dV, kwdefaults := kV } ⟨vs, []⟩ binds)
    (hkind : (binds.all fun y => scope.names.lookup y.1 == some .local || scope.names.lookup y.1 == some .cell) = true) (hnd : ((cellsFrom 0 scope.names []).map (·.1)).Nodup)
    (hco : scope.isCoroutine = false) (hgen : scope.isGenerator = false) (hk : scope.kind = .function)
    (h : ∀ L h₁ tk cells fl, Fr (under s.heap outer) L h₁ (bindL (envOfC name scope L f cd).kindOf binds fun _ => none) → News (under s.heap outer) L h₁ (cells ++ fl) →
      CellsAre (bindC (envOfC name scope L f cd).kindOf binds fun _ => none) (cellsFrom (L + 1) scope.names []) cells → LG s.heap outer fl →
      wpQ (model prog w) (A.deeper (envOfC name scope L f cd)) (execs body (envOfC name scope L f cd))
        (fun fl s' => Q (match fl with | .ret v => v | _ => .none) s') (fun _ _ => False) { s with heap := h₁, toks := tk }) : wpQ (model prog w) A (PySem.call (.ref f) vs) Q E s := by
  have roo : A.depth < recursionLimit := by have := C.dp; omega
  refine wpQ_call (codeQ_of_tree rfl ?_)
  show wpQ _ A.in1 (callAny (.ref f) ⟨vs, []⟩) _ _ s
  refine wpQ_of ?_
  simp only [callAny]
  refine wpAny_bind (wpAny_load ho ?_)
  obtain ⟨c, oc, vs', tq, rfl, hoc, hdc, hq⟩ := hcd
  simp only [hdat, callFunction, docDef, hco, hgen]
  refine wpAny_bind (m := field (.ref c) 1) (wpAny_field hoc hdc hq (wpAny_bind (wpAny_pure ?_)))
  have hb := hbind (model prog w) A.in1 (fun e s' => E e s') (fun bs s₁ => bs = binds ∧ s₁ = s) ⟨rfl, rfl⟩
  refine wpAny_bind (wpAny_mono hb (fun bs s₁ e => ?_) fun _ _ x => x)
  obtain ⟨rfl, rfl⟩ := e
  refine wpAny_bind (wpAny_newFunctionEnv_cells hk (kindsX hkind _) fun env' he s' x => ?_)
  subst he
  refine wpAny_bind (wpAny_enterFrame (lim.keeps x.toInCall.keep) roo (wpAny_pure ⟨rfl, ?_⟩))
  obtain ⟨h₁, tk, rfl, _⟩ := x.done
  have hk₁ := x.toInCall.keep
  obtain ⟨cells, NC, Y⟩ := Cl.news (h₀ := s₁.heap) (Nat.le_refl _) fun n c hm => ⟨x.cell n c (lookup_of_mem_nodup (cellsFrom_names scope.names 0 (s₁.heap.objs.size + 1) [] [] rfl ▸ hnd) hm), x.above n c hm⟩
  obtain ⟨fl, N, G⟩ := entry_led C hk₁
  have body' := h s₁.heap.objs.size h₁ tk cells fl ⟨x.toInCall.ns, fun a o e => hk₁ _ _ (of_hideAll _ e), Nat.le_of_eq under_size⟩ (fun p hp => by
    rcases List.mem_append.mp hp with hp | hp
    · refine ⟨(NC p hp).1, (NC p hp).2.1, ?_⟩
      cases q : (under s₁.heap outer).get? p.1 with
      | none => rfl
      | some o => have := of_hideAll _ q; rw [(NC p hp).2.2] at this; cases this
    · exact N p hp) Y G
  refine codeQ_of_tree rfl ?_
  show wpQ _ (A.deeper _) (do point; match ← (execs body _).onRaise (leaving _) with | .ret v => ret v | _ => ret .none) _ _ _
  refine wpQ_andThen (wpAny_point (wpQ_bind (wpQ_onRaise (wpQ_mono body' (fun fl s' h' => ?_) fun e s' h' => h'.elim))))
  cases fl <;> exact wpQ_pure h'
end
/-- what the two tables, empty at the call, have become -/
theorem old_of {h₀ h : Heap} (x : Af [] h₀ h) (t1 : h₀.get? 320 = some tabObj) (t2 : h₀.get? 330 = some tabObj) (c1 : isCodeTable h₀ 320) (c2 : isCodeTable h₀ 330) : OldK h₀ h := by
  obtain ⟨ps1, e1, _⟩ := x.tb.one
  obtain ⟨ps2, e2, _⟩ := x.tb.many
  refine ⟨fun b o e => ?_, fun b o e => ?_⟩
  · by_cases h1 : b = 320
    · subst h1
      rw [t1] at e; cases e
      exact .inr (.inl ⟨c1, rfl, #[], ps1, rfl, by rw [e1]; simp [tabObj]⟩)
    · by_cases h2 : b = 330
      · subst h2
        rw [t2] at e; cases e
        exact .inr (.inl ⟨c2, rfl, #[], ps2, rfl, by rw [e2]; simp [tabObj]⟩)
      · exact .inl (x.keep b o e (fun m => nomatch m) (fun t => t.elim h1 h2))
  · by_cases h1 : b = 320
    · exact ⟨_, h1 ▸ e1⟩
    · by_cases h2 : b = 330
      · exact ⟨_, h2 ▸ e2⟩
      · exact ⟨_, x.keep b o e (fun m => nomatch m) (fun t => t.elim h1 h2)⟩
/-- the heap without the two tables -/
abbrev bare (h : Heap) : Heap := hideAll h [320, 330]
theorem bare_get {h : Heap} {a : Addr} {o : Obj} (e : h.get? a = some o) (h1 : a ≠ 320) (h2 : a ≠ 330) : (bare h).get? a = some o :=
  hideAll_get _ e fun m => by
    simp only [List.mem_cons, List.not_mem_nil, or_false] at m
    exact m.elim h1 h2
theorem bare_top {p : Program} {loose : List Str} {mg mb : Str → Option Value} {h : Heap} (T : TopRead p loose mg mb h) : TopRead p loose mg mb (bare h) := by
  have ns : ∀ {a : Addr} {m : Str → Option Value}, h.Ns a m → a ≠ 320 → a ≠ 330 → (bare h).Ns a m := fun H h1 h2 => by
    obtain ⟨o, es, n, e, r⟩ := H
    exact ⟨o, es, n, bare_get e h1 h2, r⟩
  refine ⟨ns T.g (by decide) (by decide), ns T.b (by decide) (by decide), ?_, T.builtins, T.free⟩
  obtain ⟨mc, H, r⟩ := T.nolimit
  exact ⟨mc, ns H (by decide) (by decide), r⟩
theorem code_tabs {w : World} {h : Heap} (X : (hd.heap_39 w.params).In h) : isCodeTable h 320 ∧ isCodeTable h 330 := by
  have dummy : PySem.Challenge.rw_br5013_01.name = PySem.Challenge.rw_br5013_01.name := rfl
  revert dummy X
  k_fill
  intro X dummy
  exact ⟨⟨324, _, _, X _ _ (by k_is), rfl, rfl, rfl⟩, ⟨334, _, _, X _ _ (by k_is), rfl, rfl, rfl⟩⟩
end Br
set_option maxHeartbeats 8000000 in
theorem PySem.Challenge.cw_br5013_01_holds : PySem.Challenge.rw_br5013_01.Holds := by
  refine Br.hd ?_
  intro w s₀ s₁ mg mb G Y t1 t2 fa o pm cd doc dV kV ho hd hcd hD hmg hg args vals as hpre hlay hrd hwl hlo
  have KX := kIn_of Y
  have T0 := topRead_of G.T
  have M0 := bmod_of_top G.T
  wrow_args hpre hlay hrd hwl hlo
  rename Heap.IsList _ _ _ => hl
  rename IntsAre _ _ => hi
  have n1 : (Br.hd.heap_39 w.params).lookup 320 = none := by kernel_rfl
  have n2 : (Br.hd.heap_39 w.params).lookup 330 = none := by kernel_rfl
  have X : (Br.hd.heap_39 w.params).In (Br.bare s₁.heap) := fun a o e => Br.bare_get (KX a o e) (fun z => by rw [z, n1] at e; cases e) (fun z => by rw [z, n2] at e; cases e)
  have bm : ∃ bm ob, BMod (Br.bare s₁.heap) mainGlobals mg bm ob := by
    obtain ⟨bm, ob, B⟩ := M0
    have ne : ∀ t, s₁.heap.get? t = some Br.tabObj → bm ≠ t := fun t e z => by
      have e1 := B.obj
      rw [z, e] at e1
      have := B.cls
      rw [← Option.some.inj e1] at this
      cases this
    exact ⟨bm, ob, (Br.bare_top T0).g, B.name, B.ne, Br.bare_get B.obj (ne _ t1) (ne _ t2), B.cls, B.dict, B.data⟩
  have P9 : Br.Pg w _ _ mg mb (Br.bare s₁.heap) := ⟨X, Br.bare_top T0, fun a t => hideAll_none _ (by rcases t with rfl | rfl <;> simp), bm⟩
  have C : Br.Cx (0 + 9) (Br.bare s₁.heap) callerA [] s₁.heap := ⟨rfl, trivial, (fun a m => nomatch m), (fun a o e => of_hideAll _ e), ⟨⟨#[], t1, trivial⟩, ⟨#[], t2, trivial⟩⟩, by decide +kernel, by decide +kernel, rfl⟩
  have he := Dflts.none hD rfl
  subst he
  refine Br.enter_cellsQ C (by decide) T0.nolimit ho hd hcd (binds := [(Str.ofString "script", _)]) (BindsTo.of_eq rfl) (by rfl) (by decide +kernel) (by rfl) (by rfl) (by rfl) (fun L h₁ tk cells fl F N Y1 Gl => ?_)
  obtain ⟨o1, o2, o3, rfl, d1, d2, d3⟩ := CellsAre.three (c₁ := L + 3) (c₂ := L + 2) (c₃ := L + 1) (n₁ := Str.ofString "key") (n₂ := Str.ofString "row") (n₃ := Str.ofString "number") Y1
  have S : Br.LS s₁.heap [] L s₁.drawn s₁.os [(L + 3, o1), (L + 2, o2), (L + 1, o3)] _ ({ s₁ with heap := h₁, toks := tk } : Shared) :=
    ⟨⟨fl, F, N, Gl⟩, (by show Br.AllBare s₁.gens; rw [hg]; exact fun x h => nomatch h), rfl, rfl, Br.nds_in (Br.nds_in (Br.nds_in Br.nds_nil (Br.cell_nd d3)) (Br.cell_nd d2)) (Br.cell_nd d1)⟩
  obtain ⟨kx, kx2⟩ := Br.code_tabs KX
  refine Br.law_run P9 C (Br.under_list C hl) hi (by omega) d2 d3 d1 (by rfl) S (fun own m' s' S' => ?_)
  obtain ⟨⟨fl', F', N', G'⟩, ab, hdr, hos, nd'⟩ := S'
  have af : Br.Af [] s₁.heap s'.heap := Br.ends_af F' N' (Br.Spl.app own) G' C.tb
  exact ⟨.inl ⟨.bool true, .bool true, [], rfl, raisesW_false allW_false_nil, .bool _, (by wrow_post), fun _ => ⟨List.nodup_nil, fun _ h => nomatch h⟩⟩, Br.old_of af t1 t2 kx kx2, hos, ab⟩
end
