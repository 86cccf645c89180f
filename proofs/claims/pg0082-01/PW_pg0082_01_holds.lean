import PyProof.Rows.All
import Wide.All
import OpenK.AllK
import Wide.FinOn
import PySem.Challenge.RW_pg0082_01
set_option Elab.async false
set_option maxRecDepth 100000

section PartCalm
open PySem PySem.W PyProof.Rows
set_option maxRecDepth 100000
namespace Mine
open PySem.Sem (wp)

/-- the built-ins that may hold a bytearray's memory while they stand on the stack -/
def heldIds : List String := ["bytearray.__contains__", "bytearray.__mod__", "bytearray.__rmod__", "_struct.pack_into.held", "bytearray.find.held"] ++ Builtin.Bytes.decodersThatHold
def calm : Code → Bool
  | .builtin id _ => !heldIds.contains id
  | _ => true
def CalmB (Γ : Ctx) : Prop := ∀ x ∈ Γ.below, calm x.1 = true
def Calm (Γ : Ctx) : Prop := calm Γ.code = true ∧ CalmB Γ

/-- as wpAny, but upon a stack where nothing holds a bytearray; nothing is raised -/
def wpN {α : Type} (M : Model) (A : Around) (t : Sem α) (Q : α → Shared → Prop) (s : Shared) : Prop :=
  ∀ Γ p, Γ.In A → Calm Γ → wp M Γ t (fun a _ s' => Q a s') (fun _ _ _ => False) p s
def codeN (M : Model) (A : Around) (c : Code) (R : Flow → Shared → Prop) (s : Shared) : Prop :=
  ∀ Γ p, Γ.code = c → Γ.Below A → CalmB Γ → wpCode M Γ (fun r s' => ∃ f, r = .ok f ∧ R f s') p s

section
variable {α β : Type} {M : Model} {A : Around} {s : Shared}
theorem wpN_of {t : Sem α} {Q : α → Shared → Prop} (h : wpAny M A t Q (fun _ _ => False) s) : wpN M A t Q s := fun Γ p hΓ _ => h Γ p hΓ
theorem wpN_mono {t : Sem α} {Q Q' : α → Shared → Prop} (h : wpN M A t Q s) (hQ : ∀ a s, Q a s → Q' a s) : wpN M A t Q' s :=
  fun Γ p hΓ hC => Sem.wp_mono M Γ t (fun a _ s => hQ a s) (fun _ _ _ x => x) p s (h Γ p hΓ hC)
theorem wpN_bind {m : Sem α} {f : α → Sem β} {Q : β → Shared → Prop} (h : wpN M A m (fun a s' => wpN M A (f a) Q s') s) : wpN M A (m >>= f) Q s := fun Γ p hΓ hC => by
  rw [Sem.wp_bind']
  exact Sem.wp_mono M Γ m (fun a p' s' h' => h' Γ p' hΓ hC) (fun _ _ _ h' => h') p s (h Γ p hΓ hC)
theorem wpN_bindA {m : Sem α} {f : α → Sem β} {Q : β → Shared → Prop} (h : wpAny M A m (fun a s' => wpN M A (f a) Q s') (fun _ _ => False) s) : wpN M A (m >>= f) Q s := wpN_bind (wpN_of h)
theorem wpN_pure {a : α} {Q : α → Shared → Prop} (h : Q a s) : wpN M A (pure a) Q s := fun _ _ _ _ => h
theorem wpN_holding {vs : List Value} {m : Sem α} {Q : α → Shared → Prop} (h : wpN M A m Q s) : wpN M A (holding vs m) Q s :=
  fun Γ p hΓ hC => by rw [Sem.wp_holding]; exact h Γ p hΓ hC
theorem wpN_keep {vs : List Value} {m : Sem α} {Q : α → Shared → Prop} (h : wpN M A m Q s) : wpN M A (m.keep vs) Q s :=
  fun Γ p hΓ hC => by rw [Sem.wp_keep]; exact h Γ p hΓ hC
theorem wpN_standAt {pos : Pos} {Q : Unit → Shared → Prop} (h : Q () s) : wpN M A (standAt pos) Q s := fun _ _ _ _ => h
theorem wpN_point {Q : Unit → Shared → Prop} (h : Q () s) : wpN M A point Q s := fun _ _ _ _ => h
theorem wpN_onRaise {m : Sem α} {k : Value → Sem Unit} {Q : α → Shared → Prop} (h : wpN M A m Q s) : wpN M A (m.onRaise k) Q s := fun Γ p hΓ hC => by
  rw [Sem.wp_onRaise]
  exact Sem.wp_mono M Γ m (fun _ _ _ h' => h') (fun _ _ _ h' => h'.elim) p s (h Γ p hΓ hC)
theorem wpN_attempt {m : Sem α} {Q : Except Value α → Shared → Prop} (h : wpN M A m (fun a => Q (.ok a)) s) : wpN M A m.attempt Q s := fun Γ p hΓ hC => by
  rw [Sem.wp_attempt]
  exact Sem.wp_mono M Γ m (fun _ _ _ h' => h') (fun _ _ _ h' => h'.elim) p s (h Γ p hΓ hC)
theorem wpN_of_eq {t : Sem α} {a : α} {Q : α → Shared → Prop} (e : t = pure a) (h : Q a s) : wpN M A t Q s := by subst e; exact wpN_pure h

theorem codeN_of {c : Code} {R : Flow → Shared → Prop} (h : codeAny M A c (fun r s' => match r with | .ok f => R f s' | .error _ => False) s) : codeN M A c R s := fun Γ p hc hΓ _ =>
  wpCode_mono (fun r s' hr => by cases r with | ok f => exact ⟨f, rfl, hr⟩ | error e => exact hr.elim) (h Γ p hc hΓ)
theorem codeN_mono {c : Code} {R R' : Flow → Shared → Prop} (h : codeN M A c R s) (hR : ∀ f s, R f s → R' f s) : codeN M A c R' s :=
  fun Γ p hc hΓ hC => wpCode_mono (fun _ s' ⟨f, e, x⟩ => ⟨f, e, hR f s' x⟩) (h Γ p hc hΓ hC)
theorem codeN_tree {c : Code} {R : Flow → Shared → Prop} (hcalm : calm c = true)
    (h : wpN M (A.under c) (M.den c) (fun fin s' => match fin with | .done f => R f s' | .again c' => c'.quiet = true ∧ codeN M A c' R s') s) : codeN M A c R s := fun Γ p hc hΓ hC => by
  rw [wpCode_iff_wp, hc]
  refine Sem.wp_mono M Γ _ (fun fin p' s' h' => ?_) (fun _ _ _ h' => h'.elim) p s (h Γ p (hc ▸ hΓ.in) ⟨by rw [hc]; exact hcalm, hC⟩)
  cases fin with
  | done f => exact ⟨f, rfl, h'⟩
  | again c' => exact ⟨h'.1, h'.2 (Γ.goto c') p' rfl (hΓ.goto c') hC⟩
theorem wpN_run {c : Code} {Q : Flow → Shared → Prop} (hc : codeN M A c Q s) : wpN M A (run c) Q s := fun Γ p hΓ hC => by
  rw [Sem.wp_run]
  refine wpCode_mono (fun r s' hr => ?_) (hc (Γ.enter c none p) p rfl (hΓ.enter c none p (by intro x; cases x)) fun x hx => ?_)
  · obtain ⟨f, rfl, hq⟩ := hr; exact hq
  · rcases List.mem_cons.mp hx with rfl | hx
    · exact hC.1
    · exact hC.2 x hx
theorem wpN_runValue {c : Code} {Q : Value → Shared → Prop} (hc : codeN M A c (fun f s' => ∃ v, f = .ret v ∧ Q v s') s) : wpN M A (runValue c) Q s := fun Γ p hΓ hC => by
  rw [Sem.wp_runValue]
  refine wpCode_mono (fun r s' hr => ?_) (hc (Γ.enter c none p) p rfl (hΓ.enter c none p (by intro x; cases x)) fun x hx => ?_)
  · obtain ⟨f, rfl, v, rfl, hq⟩ := hr; exact hq
  · rcases List.mem_cons.mp hx with rfl | hx
    · exact hC.1
    · exact hC.2 x hx
theorem wpN_call {f : Value} {pos : List Value} {kw : List (Str × Value)} {Q : Value → Shared → Prop} (hc : codeN M A (.call f ⟨pos, kw⟩) (fun f s' => ∃ v, f = .ret v ∧ Q v s') s) : wpN M A (call f pos kw) Q s := wpN_runValue hc
/-- what is observed of a calm stack -/
theorem wpN_stack {Q : List (Code × Pos) → Shared → Prop} (h : ∀ st : List (Code × Pos), (∀ x ∈ st, calm x.1 = true) → Q st s) : wpN M A stack Q s := fun Γ p _ hC => by
  show Q ((Γ.code, p) :: Γ.below) s
  refine h _ fun x hx => ?_
  rcases List.mem_cons.mp hx with rfl | hx
  · exact hC.1
  · exact hC.2 x hx
end

/-- the head's context -/
abbrev Γc : Ctx := ⟨.builtin "claim.caller" {}, none, none, [], none⟩
theorem calm_caller : Calm Γc := ⟨by decide +kernel, fun x hx => nomatch hx⟩

theorem ends_calm {prog : Program} {w : World} {t : Sem Fin} {s : Shared} {R : Result → Shared → Prop} (hreg : s.asleep)
    (h : wpN (model prog w) callerA t (fun fin s' => ∃ f, fin = .done f ∧ (R (.ok f) s' ∧ leftWithCleanup s'.gens = false)) s) :
    ∃ n r s' s'', runN (denote table) prog w n s ⟨t, .builtin "claim.caller" {}, default, []⟩ = .halted (outcomeOf r) s' ∧
      schedN (denote table) prog w n (.single s ⟨t, .builtin "claim.caller" {}, default, []⟩) = .halted (outcomeOf r) s' ∧ s'.forget = s''.forget ∧ R r s'' := by
  have key : wp (model prog w) Γc t (Sem.finPost (model prog w) Γc fun r s' => R r s' ∧ leftWithCleanup s'.gens = false) (fun e _ s' => R (.error e) s' ∧ leftWithCleanup s'.gens = false) default s := by
    refine Sem.wp_mono _ Γc t (fun fin p' s' h' => ?_) (fun _ _ _ h' => h'.elim) default s (h Γc default caller_in calm_caller)
    obtain ⟨f, rfl, hf⟩ := h'
    exact hf
  obtain ⟨n, r, s₁, s₂, hs, hn, hfo, hR⟩ := wp_halts_full (M := model prog w) (R := R) hreg key
  exact ⟨n, r, s₂, s₁, hn, hs, hfo, hR⟩
end Mine
end PartCalm

section PartHead2
open PySem PySem.W PyProof.Rows PySem.Calls
set_option maxRecDepth 100000
namespace Mine

theorem callFrom_calm {c : ClaimW} {tree : List Value → Sem Fin} {w : World} {s : Shared} {free : Addr → Prop} {gens : Prop} {kept : Heap → Prop} (hz : s.asleep) (hgens : s.gens = #[])
    (spec : ∀ args, c.pre args = true → WData.layableAll args = true → ∀ ord : List DictEntry → List DictEntry, (∀ l, (ord l).Perm l) →
      ∃ vs s₁, layAllW c.records (classAt s.heap) w.params ord args s = some (vs, s₁) ∧
        wpN (model c.prog w) callerA (tree vs) (fun fin s' => ∃ f, fin = .done f ∧ (c.Ends s args vs s₁ (.ok f) s' ∧ s'.os = s.os ∧ AllBare s'.gens ∧ kept s'.heap)) s₁) :
    c.CallFrom (fun vs => ⟨tree vs, .builtin "claim.caller" {}, default, []⟩) w free gens kept s := by
  intro args hpre hlay ord hord
  obtain ⟨vs, s₁, hlaid, hrun⟩ := spec args hpre hlay ord hord
  have rest := layAllW_rest _ _ _ hlaid
  obtain ⟨k, r, s', s'', run, sched, same, good, hos, hkp⟩ := ends_calm (prog := c.prog) (w := w) (t := tree vs) (s := s₁) (R := fun r s' => c.Ends s args vs s₁ r s' ∧ s'.os = s.os ∧ kept s'.heap)
    (Shared.asleep_of_life rest.2.2.2 hz) (wpN_mono hrun (by rintro fin s' ⟨f, e, a, b, d, k⟩; exact ⟨f, e, ⟨a, b, k⟩, leftWithCleanup_false_of_bare d⟩))
  obtain ⟨eh, _, _, eo, _⟩ := Shared.forget_eq same
  have good := good.congr eh
  have hkp : kept s'.heap := eh ▸ hkp
  rw [← eo] at hos
  have life : s'.heap.life = s.heap.life := (runN_life _ _ _ run).trans rest.2.2.2
  refine ⟨vs, s₁, hlaid, k, _, s', sched, ?_, (fun _ i x hx => by rw [hgens] at hx; simp at hx), hkp, by rw [life], Shared.rest_eq hos⟩
  rcases good with ⟨v, rfl, d1, d2, d3, d4, d5⟩ | ⟨e, ob, cls, rfl, d1, d2, d3, d4, d5⟩
  · exact .inl ⟨v, rfl, d1, d2, d3, fun b o y _ => d4 b o y, d5⟩
  · exact .inr ⟨e, ob, cls, rfl, d1, d2, d3, d4, fun b o y _ => d5 b o y⟩

/-- what is left to walk: the call, upon the caller's own calm stack -/
abbrev WalkC (q : Program) (loose : List Str) (XP : (Str → Option Value) → Heap → Prop) (YP : World → Heap → Prop) (r : RowW) (d : DefRec) (kwd : List (Str × Expr)) : Prop :=
  ∀ (w : World) (s₀ s₁ : Shared) (mg mb : Str → Option Value), Ground q loose r.records XP w s₀ mg mb s₁.heap → YP w s₁.heap → ∀ (a : Addr) (o : Obj) (pm cd doc dV kV : Value), s₁.heap.get? a = some o →
    o.data = .func { docDef d.name d.params d.body d.scope pm cd doc with defaults := dV, kwdefaults := kV } → s₁.heap.CodeRec cd d.name → Dflts mg s₁.heap d.params kwd dV kV → mg d.name = some (.ref a) → s₁.gens = #[] →
    ∀ (args : List WData) (vals : List Value) (as : List Addr), r.claim.pre args = true → WData.layableAll args = true → ReadsAllW r.records (classAt s₀.heap) s₁.heap vals args as → WellAll w.params s₁.heap vals args → (∀ a ∈ as, (a == sysModules) = false) →
      wpN (model r.prog w) callerA (PySem.call (.ref a) vals) (fun v s' => GoodWG r.claim (classAt s₀.heap) (ExcName.means s₀.heap) args s₁ (.ok (.ret v)) s') s₁

/-- the library's head, its last premise upon the calm stack alone -/
theorem PySem.W.holds_open {r : OpenRow} {q : Program} {loose : List Str} {Xt : Shared → Bool} {XP : (Str → Option Value) → Heap → Prop} {α : Type} {Yf : Shared → α} {Ya : World → α} {YP : World → Heap → Prop} {d : DefRec} {kwd : List (Str × Expr)} {N : Nat}
    (left : LeftO r.prog q loose Xt Yf Ya N) (hY : ∀ w s, Yf s = Ya w → YP w s.heap) (hYk : ∀ w h h', YP w h → (∀ b o, h.get? b = some o → h'.get? b = some o) → YP w h')
    (hX : ∀ s, Xt s = true → XP (s.heap.nsMap mainGlobals) s.heap) (hXk : ∀ mg h h', XP mg h → (∀ b o, h.get? b = some o → h'.get? b = some o) → XP mg h')
    (hdef : defOf q r.name = some (d, kwd)) (hp : r.prog.theDef r.name = some (d.params, d.body, d.scope)) (hk : kwWritten? d.params.kwonlyargs d.params.kw_defaults = some kwd) (hRf : ∀ s, Xt s = true → RecFacts r.records s.heap) (hwr : (!r.writes || r.records.isEmpty) = true)
    (k1 : r.wellSaid = true) (ok : (chainsOk q && opensWell r.prog && (frees r.toRowW && r.within.isEmpty)) = true) (hb : r.prog.bare) (hw : r.toRowW.promised)
    (call : WalkC q loose XP YP r.toRowW d kwd) : r.Holds := by
  obtain ⟨ok, k5⟩ := Bool.and_eq_true_iff.mp ok
  obtain ⟨hch, o1⟩ := Bool.and_eq_true_iff.mp ok
  obtain ⟨k5, k6⟩ := Bool.and_eq_true_iff.mp k5
  obtain ⟨hsame, hu, ha, hap, hm⟩ := frees_parts k5
  refine ⟨k1, hw, ⟨hb, o1, by show r.makers.map _ = []; rw [hm]; rfl⟩, hw.witness, fun w => ⟨(left.behind hX hch w).1, fun s' hs' => ?_⟩⟩
  obtain ⟨s₀, hf, hg0, s, hT, hz, hgens, hg, G00, y⟩ := (left.behind (XP := fun mg h => XP mg h ∧ RecFacts r.records h) (fun s hs => ⟨hX s hs, hRf s hs⟩) hch w).2 s' hs'
  have G0 : Ground q loose [] XP w s (s.heap.nsMap mainGlobals) (s.heap.nsMap builtinsNs) s.heap := ⟨G00.T, G00.B, G00.D, G00.TE, G00.TD, G00.W, G00.X.1, G00.cls, G00.has, G00.apart, G00.once, G00.K⟩
  have RF := G00.X.2
  refine ⟨s₀, hf, hg0, s, hT, fun n hn => ?_, RF.1, RF.2.1, ?_⟩
  · obtain rfl : n = r.name := by split at hn <;> simp_all
    exact pinned_of_view hg G0 hdef hp hk
  · have hgens : s.gens = #[] := Array.eq_empty_of_size_eq_zero (beq_iff_eq.mp hgens)
    have G : Ground q loose r.records XP w s _ _ s.heap := RF.ground G0
    refine callFrom_calm (c := r.claim) (tree := fun vs => do match ← nsGet mainNs r.name with
      | some f => do ret (← PySem.call f vs)
      | none => unsupported "claim.caller:no-such-global") hz hgens fun args hpre hlay ord hord => ?_
    obtain ⟨⟨vs, s₁⟩, hlaid⟩ := Option.isSome_iff_exists.mp (layAllW_isSome (P := w.params) (ord := ord) G.has args r.args s (pre_splitW hpre).1)
    have keeps := layAllW_keeps _ _ _ hlaid
    have hal := layAllW_rest _ _ _ hlaid
    obtain ⟨as, hrd, hin, hold⟩ := reads_layAllW hord _ _ _ hlaid hlay s₁.heap (fun _ _ e => e)
    have L : Laid r.records w s s₁ args vs as := ⟨⟨ord, hord, hlaid⟩, hrd, hin, hold, keeps, hal.1.trans hgens, hal.2.2.1⟩
    have G₁ := G.keeps hXk keeps
    obtain ⟨a, o, pm, cd, doc, dV, kV, h1, h2, h3, h4, h5⟩ := G₁.fn hdef
    have go := call w s s₁ _ _ G₁ (hYk _ _ _ (hY w s y) keeps) a o pm cd doc dV kV h2 h3 h4 h5 (defOf_name hdef ▸ h1) L.gens args vs as hpre hlay L.reads L.well (L.low G.low)
    have hi := ident_freeW hu ha hap
    have hwi : r.claim.within = [] := List.isEmpty_iff.mp k6
    refine ⟨vs, s₁, hlaid, wpN_bindA (wpAny_nsGet G₁.T.g ?_)⟩
    rw [h1]
    refine wpN_bind (wpN_mono go fun v s' g => wpN_pure ⟨_, rfl, ?_⟩)
    have z := g.laid (c := r.claim) hsame hwi hi L
    exact ⟨z.1, z.2.1, z.2.2, fun q => ⟨namesKept_of hT hg r.keeps keeps g.2.1.old, noTable hwr q⟩⟩

set_option maxHeartbeats 8000000
open_top hd for PySem.Challenge.rw_pg0082_01
end Mine
end PartHead2

section PartSpine
open PySem PySem.W PyProof.Rows PySem.Calls
set_option maxRecDepth 100000
namespace Mine
section
variable {M : Model} {A : Around} {s : Shared} {env : Env}
theorem wpN_execs_cons {st : Stmt} {rest : List Stmt} {Q : Flow → Shared → Prop}
    (h : wpN M A (exec st env) (fun f s' => match f with | .next => wpN M A (execs rest env) Q s' | f => Q f s') s) : wpN M A (execs (st :: rest) env) Q s := by
  rw [execs]
  refine wpN_bind (wpN_mono h fun f s' h' => ?_)
  cases f <;> first | exact h' | exact wpN_pure h'
theorem wpN_execs_nil {Q : Flow → Shared → Prop} (h : Q .next s) : wpN M A (execs [] env) Q s := wpN_pure h
theorem wpN_operate {vs : List Value} {m : Sem Value} {Q : Value → Shared → Prop} (h : wpN M A m Q s) : wpN M A (operate vs m) Q s := fun Γ p hΓ hC => by
  rw [Sem.wp_operate]; exact h Γ p hΓ hC
theorem wpN_bindName {x : Str} {v : Value} {Q : Unit → Shared → Prop} (h : wpN M A (storeName env x v) Q s) : wpN M A (bindName env x v) Q s := fun Γ p hΓ hC => by
  rw [Sem.wp_bindName]; exact h Γ p hΓ hC
theorem wpN_Assign_Name {x pos' value pos} {Q : Flow → Shared → Prop}
    (h : wpN M A (eval value env) (fun v s₁ => wpAny M A (storeName env x v) (fun _ => Q .next) (fun _ _ => False) s₁) s)
    (hs : swapsWith value (some (.Name x pos')) pos.line env = pure false := by rfl) : wpN M A (exec (.Assign [.Name x pos'] value pos) env) Q s := fun Γ p hΓ hC => by
  simp only [exec_Assign_Name env x pos' value pos hs, Sem.wp_bind', Sem.wp_cmd_standAt, Sem.wp_bindName, Sem.wp_pure']
  exact Sem.wp_mono M Γ _ (fun v _ s₁ h₁ => h₁ Γ _ hΓ) (fun _ _ _ h' => h') _ _ (h Γ _ hΓ hC)
theorem wpN_Return {e pos} {Q : Flow → Shared → Prop} (h : wpN M A (eval e env) (fun v => Q (.ret v)) s) : wpN M A (exec (.Return (some e) pos) env) Q s := fun Γ p hΓ hC => by
  simp only [exec_Return_some, Sem.wp_bind', Sem.wp_cmd_standAt, Sem.wp_pure']; exact h Γ _ hΓ hC
theorem wpN_BinOp {l op r pos} {Q : Value → Shared → Prop}
    (h : wpN M A (eval l env) (fun a s₁ => wpAny M A (eval r env) (fun b s₂ => wpAny M A (binaryOp op a b) Q (fun _ _ => False) s₂) (fun _ _ => False) s₁) s) : wpN M A (eval (.BinOp l op r pos) env) Q s := fun Γ p hΓ hC => by
  simp only [eval_BinOp, Sem.wp_bind', Sem.wp_holding, Sem.wp_cmd_standAt, Sem.wp_operate]
  exact Sem.wp_mono M Γ _ (fun a p₁ s₁ h₁ => Sem.wp_mono M Γ _ (fun b _ s₂ h₂ => h₂ Γ _ hΓ) (fun _ _ _ h' => h') _ _ (h₁ Γ p₁ hΓ)) (fun _ _ _ h' => h') _ _ (h Γ p hΓ hC)

theorem callWithN {P : Heap → Prop} {pos : Pos} {f : Value} {e : Expr} {rest : List Expr} {Q : Value → Shared → Prop}
    (hk : ∀ h, P h → ∃ k, (k = Keeper.frame ∨ k = Keeper.machine) ∧ Looks M h (keeperOf f) k)
    (h : wpAny M A (spliced (backTo pos (starEach (e :: rest) env))) (fun vs s₁ => P s₁.heap ∧ wpN M A (call f vs) Q s₁) (fun _ _ => False) s)
    (he : starEach (e :: rest) env = (false, eval e env) :: starEach rest env := by rfl) (hplain : (backTo pos (starEach rest env)).any (·.1) = false := by rfl) :
    wpN M A (callWith pos f [] (backTo pos (starEach (e :: rest) env)) []) Q s := by
  rw [he] at h ⊢
  unfold callWith
  refine wpN_bind (wpN_holding (wpN_of (evalArgs_plain (wpAny_mono h (fun vs s₁ h₁ => ?_) fun _ _ x => x))))
  refine wpN_bind (wpN_standAt ?_)
  obtain ⟨k, hk', L⟩ := hk _ h₁.1
  have hp : ((backTo pos ((false, eval e env) :: starEach rest env)).any (·.1) || ([] : List (Option Str × Sem Value)).any (·.1.isNone)) = false := by
    show ((false || (backTo pos (starEach rest env)).any (·.1)) || false) = false
    rw [hplain]; rfl
  simp only [hp]
  refine wpN_bindA (L.here ?_)
  have tail : ∀ {t : Sem Value}, wpN M A t Q s₁ → wpN M A (t >>= fun r => holding [r] point >>= fun _ => pure r) Q s₁ :=
    fun ht => wpN_bind (wpN_mono ht fun r s₂ hr => wpN_bind (wpN_holding (wpN_point (wpN_pure hr))))
  have marked (mk : Value) : wpN M A (callMarked mk f ([] ++ vs) []) Q s₁ := by unfold callMarked; exact wpN_keep h₁.2
  rcases hk' with rfl | rfl <;> dsimp only <;> first | exact tail h₁.2 | (split <;> first | exact tail h₁.2 | exact tail (marked _))

/-- a call by a name of the frame's, or of the text's -/
theorem wpN_CallName {x : Str} {px pos : Pos} {f : Value} {P : Heap → Prop} {e : Expr} {rest : List Expr} {Q : Value → Shared → Prop}
    (hk : ∀ h, P h → ∃ k, (k = Keeper.frame ∨ k = Keeper.machine) ∧ Looks M h (keeperOf f) k)
    (h : wpAny M A (eval (.Name x px) env) (fun v s₁ => v = f ∧ wpAny M A (spliced (backTo pos (starEach (e :: rest) env))) (fun vs s₂ => P s₂.heap ∧ wpN M A (call f vs) Q s₂) (fun _ _ => False) s₁) (fun _ _ => False) s)
    (he : starEach (e :: rest) env = (false, eval e env) :: starEach rest env := by rfl) (hplain : (backTo pos (starEach rest env)).any (·.1) = false := by rfl) :
    wpN M A (eval (.Call (.Name x px) (e :: rest) [] pos) env) Q s := by
  show wpN M A (eval (.Name x px) env >>= fun v => callWith pos v [] (backTo pos (starEach (e :: rest) env)) (backToKw pos (keywordEach [] env))) Q s
  refine wpN_bindA (wpAny_mono h (fun v s₁ h₁ => ?_) fun _ _ x => x)
  obtain ⟨rfl, h₁⟩ := h₁
  exact callWithN hk h₁ he hplain
end

section
variable {prog : Program} {w : World} {A : Around} {s : Shared}
theorem codeN_builtin {id : String} {args : Args} {b : Builtin} {R : Flow → Shared → Prop} (hc : calm (.builtin id args) = true) (hb : entryFor table id = some b)
    (h : wpN (model prog w) (A.under (.builtin id args)) (b args) (fun fin s' => match fin with | .done f => R f s' | .again c' => c'.quiet = true ∧ codeN (model prog w) A c' R s') s) : codeN (model prog w) A (.builtin id args) R s := by
  refine codeN_tree hc ?_
  show wpN _ _ (match entryFor table id with | some b => b args | none => unsupported ((withoutEnding? id "#data").getD id)) _ _
  rw [hb]; exact h
theorem codeN_func {body : List Stmt} {env : Env} {R : Flow → Shared → Prop}
    (h : wpN (model prog w) (A.deeper env) (execs body env) (fun f s' => R (.ret (match f with | .ret v => v | _ => .none)) s') s) : codeN (model prog w) A (.func body env) R s := by
  refine codeN_tree rfl ?_
  show wpN _ (A.deeper env) (do point; match ← (execs body env).onRaise (leaving env) with | .ret v => ret v | _ => ret .none) _ s
  refine wpN_bind (wpN_point (wpN_bind (wpN_onRaise (wpN_mono h fun f s' h' => ?_))))
  cases f <;> exact wpN_pure h'
theorem codeN_call_function {a : Addr} {args : Args} {o : Obj} {fd : FuncData} {body : List Stmt} {R : Flow → Shared → Prop} (hroom : A.depth < recursionLimit) (ho : s.heap.get? a = some o) (hd' : o.data = .func fd)
    (hco : fd.scope.isCoroutine = false) (hgen : fd.scope.isGenerator = false) (hbody : fd.body = .stmts body) (hcd : s.heap.CodeRec fd.code fd.qualname)
    (h : wpAny (model prog w) A.in1 (bindArgs fd args) (fun binds s₁ =>
      wpAny (model prog w) A.in1 (newFunctionEnv fd.scope fd.globals fd.closure binds (fd.qualname ++ ".<locals>.") (some a) fd.code none fd.builtins)
        (fun env s₂ => s₂.heap.NoLimit ∧ codeN (model prog w) A (.func body env) R s₂) (fun _ _ => False) s₁) (fun _ _ => False) s) : codeN (model prog w) A (.call (.ref a) args) R s := by
  refine codeN_tree rfl ?_
  show wpN _ A.in1 (callAny (.ref a) args) _ s
  simp only [callAny]
  refine wpN_bindA (wpAny_load ho ?_)
  obtain ⟨c, oc, vs, tq, hc, hoc, hdc, hq⟩ := hcd
  simp only [hd', callFunction, hco, hgen, hbody, hc]
  rw [hc] at h
  refine wpN_bindA (m := field (.ref c) 1) (wpAny_field hoc hdc hq (wpN_bindA (wpAny_pure ?_)))
  refine wpN_bindA (wpAny_mono h (fun binds s₁ h₁ => wpN_bindA (wpAny_mono h₁ (fun env s₂ h₂ => ?_) fun _ _ x => x)) fun _ _ x => x)
  exact wpN_bindA (wpAny_enterFrame h₂.1 hroom (wpN_pure (And.intro rfl h₂.2)))
end

section
variable {prog : Program} {w : World} {A A₀ : Around} {s : Shared} {K : Frag} {L : Addr} {h₀ base : Heap} {m mg mb : Str → Option Value} {news : List (Addr × Obj)} {p : Program} {loose : List Str} {mean : ExcName → Option Value}
theorem groundN {env : Env} {outer : List Env} {R : Flow → Shared → Prop} (B : Below A₀ base outer h₀) (F : Fr h₀ L s.heap m) (N : News h₀ L s.heap news) (hA : A.frames = some (env :: outer)) (hf : env.frame = some L) (hke : env.scope.kind = .function) :
    Fr h₀ L (hideAll s.heap (news.map (·.1))) m ∧ Below A base (env :: outer) (hideAll s.heap (news.map (·.1))) ∧ h₀.StaysIn (hideAll s.heap (news.map (·.1))) ∧
      ∀ v s', LeaveK h₀ L m (hideAll s.heap (news.map (·.1))) (fun r s' => ∃ f, r = .ok f ∧ R f s') v s' → R (.ret v) s' := by
  obtain ⟨a, b, c, d⟩ := groundX (R := fun r s' => ∃ f, r = Except.ok f ∧ R f s') B F N hA hf hke
  refine ⟨a, b, c, fun v s' h => ?_⟩
  obtain ⟨f, e, x⟩ := d v s' h
  cases e
  exact x

/-- a def of the text's entered, upon the calm stack -/
theorem code_defN {env : Env} {outer : List Env} {R : Flow → Shared → Prop} {name qual : Str} {params : Arguments} {body : List Stmt} {scope : Scope} {dV kV doc pm cdv ct oc : Value} {an od : Option Addr} {osl : Array (Option Value)} {f : Addr} {args : Args} {binds : List (Str × Value)}
    (B : Below A₀ base outer h₀) (F : Fr h₀ L s.heap m) (X₀ : K.In h₀) (N : News h₀ L s.heap news) (T : Top p loose mean mg mb h₀) (hA : A.frames = some (env :: outer)) (hf : env.frame = some L) (hke : env.scope.kind = .function)
    (ho : K.lookup f = some ⟨oc, od, .func (fnOf name qual params body scope dV kV doc pm an cdv ct), osl⟩) (hcd : codeIn K cdv qual = true) (hroom : A.depth < recursionLimit)
    (hbind : BindsTo s (fnOf name qual params body scope dV kV doc pm an cdv ct) args binds) (hloc : ∀ y ∈ binds, scope.names.lookup y.1 = some .local)
    (h : ∀ g L' h₁, Fr h₀ L g m → Fr g L' h₁ (fun y => binds.reverse.lookup y) → News g L' h₁ news → Below A base (env :: outer) g → K.In g → Top p loose mean mg mb g →
      wpN (model prog w) (A.deeper (envOf qual scope L' f cdv)) (execs body (envOf qual scope L' f cdv))
        (fun fl s' => LeaveK h₀ L m g (fun r s' => ∃ f, r = .ok f ∧ R f s') (match fl with | .ret v => v | _ => .none) s') { s with heap := h₁, toks := s.toks + binds.length })
    (hco : scope.isCoroutine = false) (hgen : scope.isGenerator = false) (hk : scope.kind = .function) (hcell : ∀ x ∈ scope.names, x.2 ≠ .cell) : codeN (model prog w) A (.call (.ref f) args) R s := by
  obtain ⟨FG, BG, st, lv⟩ := groundN (R := R) B F N hA hf hke
  refine codeN_call_function hroom ((X₀.keeps F.keep) _ _ ho) rfl hco hgen rfl (codeRec_of (X₀.keeps F.keep) hcd) (hbind _ _ _ _ ?_)
  refine wpAny_newFunctionEnv hcell hloc (fun h₁ hns hsb => ⟨(T.nolimit.keeps F.keep).fresh _ hsb, codeN_func ?_⟩) hk
  have hk₁ : ∀ b o, s.heap.get? b = some o → h₁.get? b = some o := fun b o e => hsb.extBut b o (Nat.ne_of_lt (Heap.lt_size e)) (Heap.get?_push_of_some _ e)
  exact wpN_mono (h _ s.heap.objs.size h₁ FG ⟨hns, fun b o e => hk₁ b o (of_hideAll _ e), Nat.le_of_eq (hideAll_size _ _)⟩
    (fun p hp => ⟨hk₁ _ _ (N p hp).1, Nat.ne_of_lt (Heap.lt_size (N p hp).1), hideAll_none _ (List.mem_map_of_mem hp)⟩) BG (X₀.keeps st) (T.keeps st)) fun fl s' hl => lv _ _ hl
end
end Mine
end PartSpine

section PartBase
open PySem PySem.W PyProof.Rows
set_option maxRecDepth 100000
namespace Mine

/-- a call of the def at f with vs, upon the ledger news, hands back r and leaves the ledger nx with R r nx -/
def Tell (k : Nat) (f : Addr) (vs : List Value) (news : List (Addr × Obj)) (R : Value → List (Addr × Obj) → Prop) : Prop :=
  ∀ (w : World) (p : Program) (loose : List Str) (mean : ExcName → Option Value) (mg mb : Str → Option Value) (dp un : Nat) (gd : Option (List Code)) (cn : Str) (cs : Scope) (a : Addr) (ccd : Value) (cl : List (Str × Addr)) (outer : List Env) (A₀ : Around) (base h₀ : Heap) (L : Addr) (m : Str → Option Value) (s : Shared) (Q E : Value → Shared → Prop),
    Below A₀ base outer h₀ → Fr h₀ L s.heap m → (hd.heap_39 w.params).In h₀ → News h₀ L s.heap news → Top p loose mean mg mb h₀ → cs.kind = .function → dp + k < recursionLimit → un + 10 * k < cLine →
    (∀ r nx h' tk', R r nx → Fr h₀ L h' m → News h₀ L h' nx → Q r { s with heap := h', toks := tk' }) →
    wpAny (model PySem.Challenge.rw_pg0082_01.row.prog w) (ktrTop dp un gd cn cs L a ccd cl outer) (call (.ref f) vs) Q E s

def TellN (k : Nat) (f : Addr) (vs : List Value) (news : List (Addr × Obj)) (R : Value → List (Addr × Obj) → Prop) : Prop :=
  ∀ (w : World) (p : Program) (loose : List Str) (mean : ExcName → Option Value) (mg mb : Str → Option Value) (dp un : Nat) (gd : Option (List Code)) (cn : Str) (cs : Scope) (a : Addr) (ccd : Value) (cl : List (Str × Addr)) (outer : List Env) (A₀ : Around) (base h₀ : Heap) (L : Addr) (m : Str → Option Value) (s : Shared) (Q : Value → Shared → Prop),
    Below A₀ base outer h₀ → Fr h₀ L s.heap m → (hd.heap_39 w.params).In h₀ → News h₀ L s.heap news → Top p loose mean mg mb h₀ → cs.kind = .function → dp + k < recursionLimit → un + 10 * k < cLine →
    (∀ r nx h' tk', R r nx → Fr h₀ L h' m → News h₀ L h' nx → Q r { s with heap := h', toks := tk' }) →
    wpN (model PySem.Challenge.rw_pg0082_01.row.prog w) (ktrTop dp un gd cn cs L a ccd cl outer) (call (.ref f) vs) Q s

def worth (number k : Int) : Int := Int.fmod (Int.fdiv number k) 5 - 2
def hts (number : Int) : Int → List Int → List Int
  | a, [] => [a]
  | a, k :: r => a :: hts number (a + worth number k) r
theorem getD_neg1 (xs : List Int) (h : 0 < xs.length) : xs.getD (-1 + (xs.length : Int)).toNat 0 = xs.getLastD 0 := by
  have e : (-1 + (xs.length : Int)).toNat = xs.length - 1 := by omega
  rw [e, List.getD_eq_getElem?_getD, ← List.getLast?_eq_getElem?, List.getLastD_eq_getLast?]
theorem hts_length (number : Int) : ∀ (ks : List Int) (a : Int), (hts number a ks).length = ks.length + 1
  | [], _ => rfl
  | k :: r, a => by simp [hts, hts_length number r]
theorem hts_snoc (number k : Int) : ∀ (pre : List Int) (a : Int), hts number a (pre ++ [k]) = hts number a pre ++ [(hts number a pre).getLastD 0 + worth number k]
  | [], a => by simp [hts]
  | j :: r, a => by
    have ih := hts_snoc number k r (a + worth number j)
    simp only [List.cons_append, hts]
    rw [ih]
    have hne : hts number (a + worth number j) r ≠ [] := by
      intro e
      have := hts_length number r (a + worth number j)
      rw [e] at this
      simp at this
    cases h : hts number (a + worth number j) r with
    | nil => exact absurd h hne
    | cons x xs => simp
end Mine
end PartBase

section PartLoops
open PySem PySem.W PyProof.Rows
set_option maxRecDepth 100000
namespace Mine

/-- between the turns: some state c, its ledger, its names (but the loop's own), what holds of it -/
def Stt {σ : Type} (Led : σ → List (Addr × Obj)) (M : σ → Str → Option Value) (x : Str) (J : σ → Prop) (m : Str → Option Value) (nx : List (Addr × Obj)) : Prop :=
  ∃ c, nx = Led c ∧ (∀ z, z ≠ x → m z = M c z) ∧ J c

section
variable {prog : Program} {w : World} {A : Around} {E : Value → Shared → Prop} {s : Shared} {env : Env} {h₀ : Heap} {x : Str} {body : List Stmt} {Q : Flow → Shared → Prop}

theorem map_eq {m₁ m₂ : Str → Option Value} {v : Option Value} (h : ∀ z, z ≠ x → m₁ z = m₂ z) : (fun y => if y = x then v else m₁ y) = fun y => if y = x then v else m₂ y := by
  funext y
  by_cases hy : y = x
  · rw [if_pos hy, if_pos hy]
  · rw [if_neg hy, if_neg hy]; exact h y hy
theorem map_out {m₁ m₂ : Str → Option Value} (h : ∀ z, z ≠ x → m₁ z = m₂ z) : (fun y => if y = x then m₁ y else m₂ y) = m₁ := by
  funext y
  by_cases hy : y = x
  · rw [if_pos hy]
  · rw [if_neg hy]; exact (h y hy).symm

theorem loop_st {σ : Type} {I : Addr} {fp wr : List Addr} {n : Nat} {P : Nat → Value → Prop} {St : Nat → Heap → Prop} {m₀ : Str → Option Value} (Led : σ → List (Addr × Obj)) (M : σ → Str → Option Value) (J : Nat → σ → Prop) (c₀ : σ)
    (W : Walks prog w A I fp wr n P St) (hLf : env.locals ∉ fp) (hwr : ∀ b ∈ wr, h₀.get? b = none) (hnw : ∀ p ∈ Led c₀, p.1 ∉ wr) (hfp : ∀ q ∈ Led c₀, q.1 ∉ fp) (hst : St 0 s.heap) (F : Fr h₀ env.locals s.heap m₀) (N : News h₀ env.locals s.heap (Led c₀))
    (hm : ∀ z, z ≠ x → m₀ z = M c₀ z) (hj : J 0 c₀)
    (turn : ∀ i v c h tk own, i < n → P i v → OwnOff own ((Led c₀).map (·.1)) → J i c → Fr h₀ env.locals h (fun y => if y = x then some v else M c y) → News h₀ env.locals h (Led c ++ own) →
      wpAny (model prog w) A (execs body env) (InvPostN h₀ env.locals (Stt Led M x (J (i + 1))) own ((Led c₀).map (·.1)) { s with heap := h, toks := tk } Q) E { s with heap := h, toks := tk })
    (done : ∀ (c : σ) (u : Str → Option Value) (h : Heap) (tk : Nat), J n c → Fr h₀ env.locals h (fun y => if y = x then u y else M c y) → News h₀ env.locals h (Led c) → Q .next { s with heap := h, toks := tk }) :
    LoopAtV prog w A h₀ env x body Q E (.ref I) s := by
  refine loop_invN (fun i m nx => Stt Led M x (J i) m nx) W hLf hwr hnw hfp hst F N ⟨c₀, rfl, hm, hj⟩ ?_ ?_
  · rintro i v m₁ nx h tk own hi hP _ hoff ⟨c, rfl, hm', hj'⟩ F₁ N₁
    rw [map_eq hm'] at F₁
    exact turn i v c h tk own hi hP hoff hj' F₁ N₁
  · rintro m₁ nx h tk ⟨c, rfl, hm', hj'⟩ F₁ N₁
    refine done c m₁ h tk hj' ?_ N₁
    rw [map_out hm']; exact F₁

theorem stt_end {σ : Type} {Led : σ → List (Addr × Obj)} {M : σ → Str → Option Value} {J : σ → Prop} {L : Addr} {own news' : List (Addr × Obj)} {adr : List Addr} {s₁ : Shared} {m' : Str → Option Value} {h' : Heap} {tk : Nat} (c : σ) (F : Fr h₀ L h' m') (N : News h₀ L h' news')
    (hm : ∀ z, z ≠ x → m' z = M c z) (hj : J c) (ha : (Led c).map (·.1) = adr) (hn : ∀ p ∈ Led c, p ∈ news') (ho : ∀ p ∈ own, p ∈ news') :
    InvEndN h₀ L (Stt Led M x J) own adr s₁ { s₁ with heap := h', toks := tk } := InvEndN.intro F N ⟨c, rfl, hm, hj⟩ ha hn ho

theorem bytes_st {σ : Type} {b : Array UInt8} {ks : List Int} {tb : Tok} {m₀ : Str → Option Value} (Led : σ → List (Addr × Obj)) (M : σ → Str → Option Value) (J : List Int → σ → Prop) (c₀ : σ)
    (hb : KBw.bInts b = ks) (hh : A.handled = none) (F : Fr h₀ env.locals s.heap m₀) (N : News h₀ env.locals s.heap (Led c₀)) (hm : ∀ z, z ≠ x → m₀ z = M c₀ z) (hj : J [] c₀)
    (turn : ∀ (pre post : List Int) (k : Int) (t : Tok) (c : σ) (h : Heap) (tk : Nat) (own : List (Addr × Obj)), ks = pre ++ k :: post → 0 ≤ k → k < 256 → OwnOff own ((Led c₀).map (·.1)) → J pre c → Fr h₀ env.locals h (fun y => if y = x then some (.int k t) else M c y) → News h₀ env.locals h (Led c ++ own) →
      wpAny (model prog w) A (execs body env) (InvPostN h₀ env.locals (Stt Led M x (J (pre ++ [k]))) own ((Led c₀).map (·.1)) { s with heap := h, toks := tk } Q) E { s with heap := h, toks := tk })
    (done : ∀ (c : σ) (u : Str → Option Value) (h : Heap) (tk : Nat), J ks c → Fr h₀ env.locals h (fun y => if y = x then u y else M c y) → News h₀ env.locals h (Led c) → Q .next { s with heap := h, toks := tk }) :
    wpAny (model prog w) A (pyIter (.bytes b tb)) (fun it s₂ => LoopAtV prog w A h₀ env x body Q E it s₂) E s := by
  subst hb
  refine KBw.pyIter_bytes ?_
  have W := KBw.walks (prog := prog) (w := w) hh s.heap.objs.size b tb
  refine loop_st Led M (fun i c => J ((KBw.bInts b).take i) c) c₀ W ?_ ?_ ?_ ?_ ⟨_, Heap.get?_push_size _ rfl, rfl, rfl⟩ (F.push _) (fun p hp => ⟨Heap.get?_push_of_some _ (N p hp).1, (N p hp).2⟩) hm (by simpa using hj) ?_ ?_
  · intro hm
    exact absurd F.ns.lt ((List.mem_singleton.mp hm) ▸ Nat.lt_irrefl _)
  · intro b' hb
    rw [List.mem_singleton.mp hb]
    exact next_is_new F
  · intro p hp hI
    exact absurd (Heap.lt_size (N p hp).1) ((List.mem_singleton.mp hI) ▸ Nat.lt_irrefl _)
  · intro p hp hI
    exact absurd (Heap.lt_size (N p hp).1) ((List.mem_singleton.mp hI) ▸ Nat.lt_irrefl _)
  · rintro i v c h tk own hi ⟨n, u, hn, rfl⟩ hoff hj' F₁ N₁
    have hn' := KBw.ints_get hn
    have hs : (KBw.bInts b).take (i + 1) = (KBw.bInts b).take i ++ [(n.toNat : Int)] := by simp [List.take_add_one, hn']
    have e : KBw.bInts b = (KBw.bInts b).take i ++ (n.toNat : Int) :: (KBw.bInts b).drop (i + 1) := by
      have ht := List.take_append_drop (i + 1) (KBw.bInts b)
      rw [hs, List.append_assoc] at ht
      exact ht.symm
    have hb := KBw.ints_in (List.mem_of_getElem? hn')
    dsimp only
    rw [hs]
    exact turn _ _ _ u c h tk own e hb.1 hb.2 hoff hj' F₁ N₁
  · rintro c u h tk hj' F₁ N₁
    have h8 : b.size = (KBw.bInts b).length := (KBw.ints_length b).symm
    rw [h8, List.take_length] at hj'
    exact done c u h tk hj' F₁ N₁

theorem range_st {σ : Type} {r : Addr} {a₀ b₀ d : Int} {t₀ u₀ v₀ : Tok} {n : Nat} {m₀ : Str → Option Value} (Led : σ → List (Addr × Obj)) (M : σ → Str → Option Value) (J : Nat → σ → Prop) (c₀ : σ)
    (hh : A.handled = none) (hr : IsRange s.heap r a₀ b₀ d t₀ u₀ v₀) (hsmall : Builtin.Range.small a₀ b₀ d = true) (hn : Builtin.Range.rangeSize a₀ b₀ d = (n : Int)) (F : Fr h₀ env.locals s.heap m₀) (N : News h₀ env.locals s.heap (Led c₀)) (hm : ∀ z, z ≠ x → m₀ z = M c₀ z) (hj : J 0 c₀)
    (turn : ∀ (i : Nat) (t : Tok) (c : σ) (h : Heap) (tk : Nat) (own : List (Addr × Obj)), i < n → OwnOff own ((Led c₀).map (·.1)) → J i c → Fr h₀ env.locals h (fun y => if y = x then some (.int (a₀ + (i : Int) * d) t) else M c y) → News h₀ env.locals h (Led c ++ own) →
      wpAny (model prog w) A (execs body env) (InvPostN h₀ env.locals (Stt Led M x (J (i + 1))) own ((Led c₀).map (·.1)) { s with heap := h, toks := tk } Q) E { s with heap := h, toks := tk })
    (done : ∀ (c : σ) (u : Str → Option Value) (h : Heap) (tk : Nat), J n c → Fr h₀ env.locals h (fun y => if y = x then u y else M c y) → News h₀ env.locals h (Led c) → Q .next { s with heap := h, toks := tk }) :
    wpAny (model prog w) A (pyIter (.ref r)) (fun it s₂ => LoopAtV prog w A h₀ env x body Q E it s₂) E s := by
  refine wpAny_pyIter_range hr hsmall ?_
  have W : Walks prog w A s.heap.objs.size [s.heap.objs.size] [s.heap.objs.size] n (fun i v => i < n ∧ ∃ t, v = .int (a₀ + i * d) t)
      (fun i h => IsRangeIter h s.heap.objs.size (a₀ + (i : Nat) * d) ((n : Int) - (i : Nat)) d) := (Walks.range hh _ a₀ d n).bound
  refine loop_st Led M J c₀ W ?_ ?_ ?_ ?_ (by show IsRangeIter _ _ _ _ _; rw [hn]; simpa using Heap.get?_push_size _ rfl) (F.push _) (fun p hp => ⟨Heap.get?_push_of_some _ (N p hp).1, (N p hp).2⟩) hm hj ?_ ?_
  · intro hm
    exact absurd F.ns.lt ((List.mem_singleton.mp hm) ▸ Nat.lt_irrefl _)
  · intro b' hb
    rw [List.mem_singleton.mp hb]
    exact next_is_new F
  · intro p hp hI
    exact absurd (Heap.lt_size (N p hp).1) ((List.mem_singleton.mp hI) ▸ Nat.lt_irrefl _)
  · intro p hp hI
    exact absurd (Heap.lt_size (N p hp).1) ((List.mem_singleton.mp hI) ▸ Nat.lt_irrefl _)
  · rintro i v c h tk own hi ⟨_, t, rfl⟩ hoff hj' F₁ N₁
    exact turn i t c h tk own hi hoff hj' F₁ N₁
  · rintro c u h tk hj' F₁ N₁
    exact done c u h tk hj' F₁ N₁
end
end Mine
namespace Mine
/-- a new object onto the ledger -/
theorem new_obj {h₀ h h' : Heap} {L : Addr} {m : Str → Option Value} {news : List (Addr × Obj)} {o : Obj} (F : Fr h₀ L h m) (N : News h₀ L h news) (ha : h'.get? h.objs.size = some o) (hk : ∀ b o, h.get? b = some o → h'.get? b = some o) :
    Fr h₀ L h' m ∧ News h₀ L h' ((h.objs.size, o) :: news) ∧ ∀ p ∈ news, p.1 < h.objs.size := by
  refine ⟨F.keeps hk, fun p hp => ?_, fun p hp => Heap.lt_size (N p hp).1⟩
  rcases List.mem_cons.mp hp with rfl | hp
  · refine ⟨ha, fun e => ?_, next_is_new F⟩
    have := F.ns.lt
    rw [← e] at this
    exact absurd this (Nat.lt_irrefl _)
  · exact ⟨hk _ _ (N p hp).1, (N p hp).2⟩
/-- the walk halts here -/
def Stop (P : Prop) : Prop := P
theorem Stop.mk {P : Prop} (h : Stop P) : P := h
theorem Stop.out {P : Prop} (h : P) : Stop P := h
end Mine
namespace Mine
/-- a while's turn is over -/
def WEnd {σ : Type} (h₀ : Heap) (L : Addr) (s : Shared) (Led : σ → List (Addr × Obj)) (M : σ → Str → Option Value) (J : σ → Prop) (μ : σ → Nat) (c : σ) (s₂ : Shared) : Prop :=
  ∃ (c' : σ) (h' : Heap) (tk : Nat) (m' : Str → Option Value) (news' : List (Addr × Obj)), s₂ = { s with heap := h', toks := tk } ∧ Fr h₀ L h' m' ∧ News h₀ L h' news' ∧ (∀ p ∈ Led c', p ∈ news') ∧ (∀ z, m' z = M c' z) ∧ J c' ∧ μ c' < μ c
def WPost {σ : Type} (h₀ : Heap) (L : Addr) (s : Shared) (Led : σ → List (Addr × Obj)) (M : σ → Str → Option Value) (J : σ → Prop) (μ : σ → Nat) (Q : Flow → Shared → Prop) (c : σ) (f : Flow) (s₂ : Shared) : Prop :=
  match f with
  | .ret v => Q (.ret v) s₂
  | .brk => Q .next s₂
  | _ => WEnd h₀ L s Led M J μ c s₂
section
variable {prog : Program} {w : World} {A : Around} {E : Value → Shared → Prop} {Q : Flow → Shared → Prop} {s : Shared} {env : Env} {h₀ : Heap} {L : Addr}
theorem while_st {σ : Type} {test : Expr} {body : List Stmt} {pos : Pos} (Led : σ → List (Addr × Obj)) (M : σ → Str → Option Value) (J : σ → Prop) (μ : σ → Nat) (c₀ : σ) {m₀ : Str → Option Value}
    (F : Fr h₀ L s.heap m₀) (N : News h₀ L s.heap (Led c₀)) (hm : ∀ z, m₀ z = M c₀ z) (hj : J c₀)
    (turn : ∀ (c : σ) (h : Heap) (tk : Nat), J c → Fr h₀ L h (M c) → News h₀ L h (Led c) →
      wpAny (model prog w) A (isTrue test env (eval test env)) (fun b s₂ =>
        if b = true then wpAny (model prog w) A (execs body env) (WPost h₀ L s Led M J μ Q c) E s₂ else Q .next s₂) E { s with heap := h, toks := tk })
    (hE : PassesOwn (model prog w) A env E := by passes_own) :
    wpAny (model prog w) A (exec (.While test body [] pos) env) Q E s := by
  refine While_inv2 (fun n m nx => ∃ c : σ, nx = Led c ∧ μ c = n ∧ (∀ z, m z = M c z) ∧ J c) F N ⟨c₀, rfl, rfl, hm, hj⟩ ?_ hE
  rintro n m₁ nx h tk F₁ N₁ ⟨c, hnx, hsz, hm₁, hj₁⟩
  rw [hnx] at N₁
  rw [← hsz]
  have em : m₁ = M c := funext hm₁
  rw [em] at F₁
  refine wpAny_mono (turn c h tk hj₁ F₁ N₁) (fun b s₂ p => ?_) fun _ _ x => x
  cases b with
  | false => simpa using p
  | true =>
    simp only [if_true] at p ⊢
    refine wpAny_mono p (fun f s₃ q => ?_) fun _ _ x => x
    cases f with
    | ret v => exact q
    | brk => exact q
    | next =>
      obtain ⟨c', h', tk', m', news', rfl, F', N', hn, hm', hj', hlt⟩ := q
      exact ⟨h', tk', m', Led c', μ c', rfl, F', fun p hp => N' p (hn p hp), hlt, c', rfl, rfl, hm', hj'⟩
    | cont =>
      obtain ⟨c', h', tk', m', news', rfl, F', N', hn, hm', hj', hlt⟩ := q
      exact ⟨h', tk', m', Led c', μ c', rfl, F', fun p hp => N' p (hn p hp), hlt, c', rfl, rfl, hm', hj'⟩
theorem wend {σ : Type} {Led : σ → List (Addr × Obj)} {M : σ → Str → Option Value} {J : σ → Prop} {μ : σ → Nat} {c : σ} {m' : Str → Option Value} {h' : Heap} {tk : Nat} {news' : List (Addr × Obj)} (c' : σ) (F : Fr h₀ L h' m') (N : News h₀ L h' news')
    (hm : ∀ z, m' z = M c' z) (hj : J c') (hlt : μ c' < μ c) (hn : ∀ p ∈ Led c', p ∈ news') : WEnd h₀ L s Led M J μ c { s with heap := h', toks := tk } := ⟨c', h', tk, m', news', rfl, F, N, hn, hm, hj, hlt⟩
end
theorem Tell.use {k : Nat} {f : Addr} {vs : List Value} {news : List (Addr × Obj)} {R : Value → List (Addr × Obj) → Prop} (H : Tell k f vs news R)
    {w : World} {p : Program} {loose : List Str} {mean : ExcName → Option Value} {mg mb : Str → Option Value} {dp un : Nat} {gd : Option (List Code)} {cn : Str} {cs : Scope} {a : Addr} {ccd : Value} {cl : List (Str × Addr)} {outer : List Env} {A₀ : Around} {base h₀ : Heap} {L : Addr} {m : Str → Option Value} {s : Shared} {Q E : Value → Shared → Prop}
    (B : Below A₀ base outer h₀) (F : Fr h₀ L s.heap m) (X : (hd.heap_39 w.params).In h₀) (N : News h₀ L s.heap news) (T : Top p loose mean mg mb h₀) (hk : cs.kind = .function) (hd : dp + k < recursionLimit) (hu : un + 10 * k < cLine)
    (ret : ∀ r nx h' tk', R r nx → Fr h₀ L h' m → News h₀ L h' nx → Q r { s with heap := h', toks := tk' }) :
    wpAny (model PySem.Challenge.rw_pg0082_01.row.prog w) (ktrTop dp un gd cn cs L a ccd cl outer) (call (.ref f) vs) Q E s := H _ _ _ _ _ _ _ _ _ _ _ _ _ _ _ _ _ _ _ _ _ _ _ B F X N T hk hd hu ret
theorem TellN.use {k : Nat} {f : Addr} {vs : List Value} {news : List (Addr × Obj)} {R : Value → List (Addr × Obj) → Prop} (H : TellN k f vs news R)
    {w : World} {p : Program} {loose : List Str} {mean : ExcName → Option Value} {mg mb : Str → Option Value} {dp un : Nat} {gd : Option (List Code)} {cn : Str} {cs : Scope} {a : Addr} {ccd : Value} {cl : List (Str × Addr)} {outer : List Env} {A₀ : Around} {base h₀ : Heap} {L : Addr} {m : Str → Option Value} {s : Shared} {Q : Value → Shared → Prop}
    (B : Below A₀ base outer h₀) (F : Fr h₀ L s.heap m) (X : (hd.heap_39 w.params).In h₀) (N : News h₀ L s.heap news) (T : Top p loose mean mg mb h₀) (hk : cs.kind = .function) (hd : dp + k < recursionLimit) (hu : un + 10 * k < cLine)
    (ret : ∀ r nx h' tk', R r nx → Fr h₀ L h' m → News h₀ L h' nx → Q r { s with heap := h', toks := tk' }) :
    wpN (model PySem.Challenge.rw_pg0082_01.row.prog w) (ktrTop dp un gd cn cs L a ccd cl outer) (call (.ref f) vs) Q s := H _ _ _ _ _ _ _ _ _ _ _ _ _ _ _ _ _ _ _ _ _ _ B F X N T hk hd hu ret
end Mine
end PartLoops

section PartHeights
open PySem PySem.W PyProof.Rows
set_option maxRecDepth 100000
set_option maxHeartbeats 8000000
namespace Mine
section
local macro_rules | `(tactic| walk_at "pyIter bytes") => `(tactic| with_reducible refine Stop.mk ?_)
theorem heights_tell {number : Int} {tn t : Tok} {b : Array UInt8} {ks : List Int} {news : List (Addr × Obj)} (hb : KBw.bInts b = ks) (hpos : ∀ k ∈ ks, 0 < k) (hlen : ks.length ≤ 100) :
    Tell 20 82 [.bytes b t, .int number tn] news (fun r nx => ∃ l vs c, r = .ref l ∧ nx = (l, listOf vs.toArray c) :: news ∧ IntsAre vs (hts number 0 ks) ∧ ∀ p ∈ news, p.1 < l) := by
  unfold Tell
  w_top off
  k_fill
  intro w p loose mean mg mb dp un gd cn cs a ccd cl outer A₀ base h₀ L m s Q E B F X N T hk hd hu hret
  refine wpAny_call ?_
  k_dflt (refine' code_def (binds := [(Str.ofString "octets", .bytes b t), (Str.ofString "number", .int number tn)]) B F X N T ?kA ?kF ?kK ?k6 ?k7 ?k8 ?k9 ?kB ?_ ?c2 ?c3 ?c4 ?c5; (case kA => exact rfl); (case kF => exact rfl); (case kK => exact hk); (case k6 => k_is); (case k7 => k_is); (case k8 => ktr_room); (case k9 => exact BindsTo.of_eq rfl); (case c5 => decide); (case kB => exact locs rfl); (case c2 => exact rfl); (case c3 => exact rfl); (case c4 => exact rfl))
  intro g L1 h1 FG F1 N1 B1 X1 T1
  try k_fold
  w_strict k_steps
  refine Stop.out ?_
  have hMk := kstMark
  rename_i l hx hl hy F2 N2
  refine bytes_st (σ := List Value × List Int × Nat) (fun c => (l, listOf c.1.toArray c.2.2) :: news) (fun _ y => if y = Str.ofString "heights" then some (.ref l) else List.lookup y [(Str.ofString "number", .int number tn), (Str.ofString "octets", .bytes b t)]) (fun pre c => IntsAre c.1 c.2.1 ∧ c.2.1 = hts number 0 pre) ([_], [0], 0) hb rfl F2 N2 (fun _ _ => rfl) ⟨.cons _ _ .nil, rfl⟩ ?_ ?_
  · intro pre post k tk c h tk' own he h0 h1 hoff hj F3 N3
    obtain ⟨vs, hs, cc⟩ := c
    obtain ⟨hi, hhs⟩ := hj
    dsimp only at hi hhs F3 N3
    have hk0 : k ≠ 0 := by
      have := hpos k (by rw [he]; simp)
      omega
    have hhl : hs.length = pre.length + 1 := by rw [hhs, hts_length]
    have hvl : vs.length = hs.length := hi.length
    have hpl : pre.length < ks.length := by rw [he]; simp
    clear F2 N2
    simp only [List.cons_append] at N3
    simp only [List.map_cons] at hoff
    try k_fold
    w_strict k_steps
    rename_i tt h5 F5 N5
    simp only [List.push_toArray] at N5
    obtain ⟨t6, c6, N6⟩ : ∃ t6 c6, News g L1 h5 ((l, listOf (vs ++ [Value.int (hs.getD (-1 + (hs.length : Int)).toNat 0 + (number.fdiv k).fmod 5 - 2) t6]).toArray c6) :: (news ++ own)) := ⟨_, _, N5⟩
    refine stt_end (vs ++ [Value.int (hs.getD (-1 + (hs.length : Int)).toNat 0 + (number.fdiv k).fmod 5 - 2) t6], hs ++ [hs.getD (-1 + (hs.length : Int)).toNat 0 + (number.fdiv k).fmod 5 - 2], c6) F5 N6 (fun z hz => if_neg hz) ⟨hi.append (.cons _ _ .nil), ?_⟩ rfl
      (List.forall_mem_cons.mpr ⟨List.Mem.head _, fun p hp => .tail _ (List.mem_append_left _ hp)⟩) (fun p hp => .tail _ (List.mem_append_right _ hp))
    subst hhs
    rw [hts_snoc]
    show hts number 0 pre ++ [_] = hts number 0 pre ++ [_]
    rw [getD_neg1 _ (by omega)]
    unfold worth
    congr 2
    omega
  · intro c u h tk hj F3 N3
    obtain ⟨vs, hs, cc⟩ := c
    obtain ⟨hi, hhs⟩ := hj
    dsimp only at hi hhs F3 N3
    clear F2 N2
    try k_fold
    w_strict k_steps
    exact hret _ _ _ _ ⟨l, vs, cc, rfl, rfl, hhs ▸ hi, hl⟩ (by assumption) (by assumption)
end
end Mine
end PartHeights

section PartBary
open PySem PySem.W PyProof.Rows PySem.Calls
set_option maxRecDepth 100000
namespace Mine
namespace By
theorem mro : mroOf (.type "bytearray") = pure [.type "bytearray", .type "object"] := by rw [mroOf_type]; kernel_rfl
theorem lookup_new : typeLookup (.type "bytearray") "__new__" = pure (some (.builtin "bytearray.__new__")) := by rw [typeLookup_type, builtinLookup_eq_fast]; kernel_rfl
theorem slot_init : Slot "bytearray" "__init__" "bytearray.__init__" :=
  .of (owner := "bytearray") (n := "__init__") (by rw [typeLookup_type, builtinLookup_eq_fast]; kernel_rfl) (by decide +kernel) (by decide +kernel) (by decide +kernel)
    (by first | exact .inl (by decide +kernel) | exact .inr (by decide +kernel)) (by rw [isSubtype_type]; kernel_rfl)
theorem made : Bind.madeBy (.type "bytearray") = pure (some "bytearray.__new__") := madeBy_type mro lookup_new (by decide +kernel)
theorem typeCall (a : Value) : checkTypeCall "bytearray" ⟨[a], []⟩ = pure () := by kernel_rfl
theorem newCall (a : Value) : checkBuiltinCall "bytearray.__new__" ⟨[.type "bytearray", a], []⟩ = pure () := by kernel_rfl
theorem plain_new : plainId "bytearray.__new__" = true := by decide +kernel
theorem plain_init : plainId "bytearray.__init__" = true := by decide +kernel
theorem entry_new : entryFor table "bytearray.__new__" = some Builtin.«list.__new__» := entryFor_alias (id' := "list.__new__") (by kernel_rfl) rfl (by decide +kernel) (by kernel_rfl)
theorem entry_init : entryFor table "bytearray.__init__" = some Builtin.«bytearray.__init__» := by first | exact entryFor_of_fast (by kernel_rfl) | exact entryFor_of_tree (by kernel_rfl)
theorem sub : isSubtype (.type "bytearray") (.type "bytearray") = pure true := by rw [isSubtype_type]; kernel_rfl
theorem release : typeLookup (.type "bytearray") "__release_buffer__" = pure (some (.builtin "bytearray.__release_buffer__")) := by rw [typeLookup_type, builtinLookup_eq_fast]; kernel_rfl
theorem noBytes : typeLookup (.type "bytearray") "__bytes__" = pure none := by rw [typeLookup_type, builtinLookup_eq_fast]; kernel_rfl
theorem noIndex : typeLookup (.type "bytearray") "__index__" = pure none := by rw [typeLookup_type, builtinLookup_eq_fast]; kernel_rfl
theorem buffer : typeLookup (.type "bytearray") "__buffer__" = pure (some (.builtin "bytearray.__buffer__")) := by rw [typeLookup_type, builtinLookup_eq_fast]; kernel_rfl
theorem bind (v : Value) : Builtin.Bytes.bindOptional "bytearray.__init__" "bytearray" ["source", "encoding", "errors"] [v] [] = pure [some v, none, none] := by kernel_rfl
set_option maxRecDepth 1000000 in
set_option maxHeartbeats 4000000 in
theorem owner_new : ("bytearray.__new__".splitOn ".__new__").headD "" = "bytearray" := by simp +decide [String.splitOn, String.splitOnAux]
end By

abbrev bArr (b : Array UInt8) : Obj := { cls := .type "bytearray", data := .bytearray b }
section
variable {prog : Program} {w : World} {A : Around} {E : Value → Shared → Prop} {s : Shared}
theorem code_ba_new (a : Value) {Q₁ : Value → Shared → Prop} (h : Q₁ (.ref s.heap.objs.size) { s with heap := s.heap.push (bArr #[]) }) :
    codeAny (model prog w) A (.call (.builtin "bytearray.__new__") ⟨[.type "bytearray", a], []⟩) (wants Q₁ E) s := by
  refine codeAny_of_tree ?_
  show wpAny _ A.in1 (do checkBuiltinCall "bytearray.__new__" ⟨[.type "bytearray", a], []⟩; again (.builtin "bytearray.__new__" ⟨[.type "bytearray", a], []⟩)) _ _ s
  refine wpAny_bind (wpAny_of_eq (By.newCall a) (wpAny_pure ⟨plainId_quiet By.plain_new _, codeAny_builtin_stack By.entry_new rfl fun p st => ?_⟩))
  rw [Around.under_plainId By.plain_new _]
  have hsub := By.sub
  have hown := By.owner_new
  obtain ⟨hp, g, d, tk, os⟩ := s
  simp only [hown]
  wp_walk
  exact h
end
end Mine
end PartBary

section PartBary2
open PySem PySem.W PyProof.Rows PySem.Calls
set_option maxRecDepth 100000
namespace Mine
section
variable {prog : Program} {w : World} {A : Around} {E : Value → Shared → Prop} {s : Shared}
theorem typeIs_ba {a : Addr} {b : Array UInt8} (h : s.heap.get? a = some (bArr b)) : s.TypeIs (.ref a) "bytearray" := ⟨_, h, rfl⟩

theorem exported_calm {self : Value} {Q : Bool → Shared → Prop} (h : Q false s) : wpN (model prog w) A (Builtin.Bytes.exported self) Q s := by
  unfold Builtin.Bytes.exported
  refine wpN_bind (wpN_stack fun st hst => wpN_pure ?_)
  refine Eq.mp (congrArg (fun b => Q b s) (Eq.symm ?_)) h
  rw [List.any_eq_false]
  rintro ⟨c, p⟩ hx
  have hc := hst _ hx
  have no : ∀ id args, c = .builtin id args → heldIds.contains id = false := fun id args e => by
    have h2 := hc
    rw [show (c, p).1 = Code.builtin id args from e] at h2
    simpa [calm] using h2
  split
  · next e => have := no _ _ (congrArg Prod.fst e); exact absurd this (by decide +kernel)
  · next e => have := no _ _ (congrArg Prod.fst e); exact absurd this (by decide +kernel)
  · next e => have := no _ _ (congrArg Prod.fst e); exact absurd this (by decide +kernel)
  · next e => have := no _ _ (congrArg Prod.fst e); exact absurd this (by decide +kernel)
  · next e => have := no _ _ (congrArg Prod.fst e); exact absurd this (by decide +kernel)
  · next e =>
    have h3 := no _ _ (congrArg Prod.fst e)
    unfold heldIds at h3
    rw [List.contains_eq_mem] at h3
    simp only [Bool.and_eq_true, not_and]
    intro _ h4
    rw [List.contains_eq_mem] at h4
    have h4 := of_decide_eq_true h4
    have h3 := of_decide_eq_false h3
    exact h3 (List.mem_append_right _ h4)
  · simp
theorem ownRelease_ba {a : Addr} {b : Array UInt8} {Q : Bool → Shared → Prop} (ha : s.heap.get? a = some (bArr b)) (h : Q false s) : wpAny (model prog w) A (Builtin.Bytes.ownRelease (.ref a)) Q E s := by
  have key : ∀ x : String, x = "bytearray" → ∀ {Q : Bool → Shared → Prop}, Q true s → wpAny (model prog w) A (isInstance (.ref a) (.type x)) Q E s := fun x hx Q hq => by rw [hx]; exact wpAny_isInstance (typeIs_ba ha) By.sub hq
  unfold Builtin.Bytes.ownRelease Builtin.Bytes.slotIsOwn
  refine wpAny_bind (wpAny_bind (wpAny_specialOf (typeIs_ba ha) By.release ?_))
  dsimp only
  split
  · rename_i hx
    exact absurd hx (by decide +kernel)
  · exact key _ (by decide +kernel) (wpAny_pure h)
theorem wpN_if_false {α : Type} {M : Model} {c : Bool} {a b : Sem α} {Q : α → Shared → Prop} (hc : c = false) (h : wpN M A b Q s) : wpN M A (if c = true then a else b) Q s := by subst hc; exact h
theorem wpN_if_true {α : Type} {M : Model} {c : Bool} {a b : Sem α} {Q : α → Shared → Prop} (hc : c = true) (h : wpN M A a Q s) : wpN M A (if c = true then a else b) Q s := by subst hc; exact h
theorem write_ba {a : Addr} {b : Array UInt8} {f : Array UInt8 → Array UInt8} {Q : Unit → Shared → Prop} (ha : s.heap.get? a = some (bArr b)) (hz : (f b).size ≤ 1000)
    (h : ∀ h', h'.get? a = some (bArr (f b)) → (∀ c o, c ≠ a → s.heap.get? c = some o → h'.get? c = some o) → Q () { s with heap := h' }) : wpAny (model prog w) A (Builtin.Bytes.write (.ref a) f) Q E s := by
  unfold Builtin.Bytes.write
  dsimp only
  unfold updateBytearray
  refine wpAny_bind (wpAny_load ha ?_)
  show wpAny _ _ (update a (Obj.mapBytearray f) >>= fun _ => lookBehind a) _ _ _
  refine wpAny_bind (wpAny_update ha ?_)
  have h2 : (s.heap.update a (Obj.mapBytearray f)).get? a = some (bArr (f b)) := Heap.get?_update_self (Obj.mapBytearray f) ha rfl
  refine wpAny_lookBehind h2 ?_ (h _ h2 fun c o hc e => (Heap.get?_update_other _ _ (Ne.symm hc)).trans e)
  show (if (f b).size > sizeLine then some "bytearray:memory" else none) = none
  rw [if_neg]
  rw [sizeLine_eq]
  omega
theorem ba_init {a : Addr} {n : Int} {t : Tok} {R : Flow → Shared → Prop} (ha : s.heap.get? a = some (bArr #[])) (h0 : 0 ≤ n) (h1 : n ≤ 1000)
    (hR : ∀ h', h'.get? a = some (bArr (Array.replicate n.toNat 0)) → (∀ b o, b ≠ a → s.heap.get? b = some o → h'.get? b = some o) → R (.ret .none) { s with heap := h' }) :
    codeN (model prog w) A (.builtin "bytearray.__init__" ⟨[.ref a, .int n t], []⟩) R s := by
  refine codeN_builtin (by show (!heldIds.contains "bytearray.__init__") = true; decide +kernel) By.entry_init ?_
  rw [Around.under_plainId By.plain_init _]
  unfold Builtin.«bytearray.__init__»
  dsimp only
  refine wpN_bindA (ownRelease_ba ha ?_)
  refine wpN_if_false rfl ?_
  refine wpN_bindA (wpAny_of_eq (By.bind _) ?_)
  dsimp only
  refine wpN_bindA (wpAny_of_eq (a := ()) rfl ?_)
  refine wpN_bindA (wpAny_of_eq (a := ()) rfl ?_)
  refine wpN_bind (wpN_bind (exported_calm ?_))
  refine wpN_bindA (wpAny_bind (wpAny_load ha (wpAny_pure ?_)))
  refine wpN_pure ?_
  refine wpN_if_false rfl ?_
  refine wpN_bindA (write_ba (f := fun _ => #[]) ha (by simp) fun h2 ha2 hk2 => ?_)
  refine wpN_bindA (wpAny_of_eq (a := none) rfl ?_)
  refine wpN_if_false rfl ?_
  refine wpN_bindA (wpAny_of_eq (a := ()) rfl ?_)
  refine wpN_bindA (wpAny_specialOf (T := "int") (typeIs_int _ _ _) F.slot_int_index.lookup ?_)
  refine wpN_if_true rfl ?_
  refine wpN_bindA (wpAny_attempt (wpAny_of_eq (rfl : asIndex (.int n t) = pure n) ?_))
  dsimp only
  have hf : Builtin.Bytes.fitsIndex n = true := by unfold Builtin.Bytes.fitsIndex; simp only [Bool.and_eq_true, decide_eq_true_eq]; omega
  refine wpN_if_false (by rw [hf]; rfl) ?_
  rw [if_neg (by omega : ¬ n < 0)]
  refine wpN_if_false (by simp only [beq_eq_false_iff_ne]; omega) ?_
  refine wpN_if_false (KBy.tooLong_not (by omega)) ?_
  refine wpN_bindA (wpAny_rule ?_)
  by_cases hn : n > 0
  · rw [if_pos hn]
    refine wpN_bindA (write_ba (s := { s with heap := h2 }) (f := fun _ => Array.replicate n.toNat 0) ha2 (by simp; omega) fun h3 ha3 hk3 => ?_)
    exact wpN_pure (hR h3 ha3 fun b o hb e => hk3 b o hb (hk2 b o hb e))
  · rw [if_neg hn]
    have e : n.toNat = 0 := by omega
    refine wpN_pure (hR h2 ?_ hk2)
    rw [e]; exact ha2
theorem ba_args (a v : Value) : argsOk "bytearray.__init__" ⟨[a, v], []⟩ := by unfold argsOk; kernel_rfl

/-- bytearray(n): a new object, n noughts -/
theorem call_bytearray {n : Int} {t : Tok} {Q : Value → Shared → Prop} (h0 : 0 ≤ n) (h1 : n ≤ 1000)
    (hQ : ∀ h', h'.get? s.heap.objs.size = some (bArr (Array.replicate n.toNat 0)) → (∀ b o, s.heap.get? b = some o → h'.get? b = some o) → Q (.ref s.heap.objs.size) { s with heap := h' }) :
    wpN (model prog w) A (call (.type "bytearray") [.int n t]) Q s := by
  refine wpN_call (codeN_tree rfl ?_)
  show wpN _ _ (callAny (.type "bytearray") _) _ _
  refine wpN_pure ⟨Code.quiet_builtin _ (by decide +kernel), codeN_builtin (by show (!heldIds.contains "type.__call__") = true; decide +kernel) F.entry_type_call ?_⟩
  rw [Around.under_plain (weight_type_call_type "bytearray" [.int n t] []) rfl]
  unfold Builtin.«type.__call__»
  dsimp only
  refine wpN_if_false (by decide) ?_
  refine wpN_if_false (by decide +kernel) ?_
  refine wpN_bindA (wpAny_of_eq (By.typeCall _) ?_)
  refine wpN_bindA (wpAny_of_eq By.mro ?_)
  refine wpN_if_false rfl ?_
  refine wpN_bindA (wpAny_of_eq By.made ?_)
  dsimp only
  refine wpN_bindA (wpAny_pure ?_)
  refine wpN_bind (wpN_holding (wpN_of (wpAny_call (codeAny_mono (code_ba_new (E := fun _ _ => False) (Q₁ := fun obj s₁ => obj = .ref s.heap.objs.size ∧ s₁ = { s with heap := s.heap.push (bArr #[]) }) _ ⟨rfl, rfl⟩) fun r s₁ hr => ?_))))
  cases r with
  | error e => exact hr.elim
  | ok fl =>
    cases fl with
    | ret obj =>
      obtain ⟨rfl, rfl⟩ := hr
      have ha : (s.heap.push (bArr #[])).get? s.heap.objs.size = some (bArr #[]) := Heap.get?_push_size _ rfl
      have hT : ({ s with heap := s.heap.push (bArr #[]) } : Shared).TypeIs (.ref s.heap.objs.size) "bytearray" := ⟨_, ha, rfl⟩
      dsimp only
      refine wpN_bindA (wpAny_isInstance hT By.sub ?_)
      refine wpN_if_false rfl ?_
      refine wpN_bind (wpN_holding ?_)
      unfold callSpecial?
      refine wpN_bindA (wpAny_specialOf hT By.slot_init.lookup ?_)
      dsimp only
      rw [By.slot_init.bind]
      refine wpN_holding (wpN_bindA (wpAny_pure (wpN_bind (wpN_call (codeN_tree rfl ?_)))))
      show wpN _ A.in1.in1 (do checkBuiltinCall "bytearray.__init__" ⟨[.ref s.heap.objs.size, .int n t], []⟩; again (.builtin "bytearray.__init__" ⟨[.ref s.heap.objs.size, .int n t], []⟩)) _ _
      refine wpN_bindA (By.slot_init.check _ _ _ _ _ _ _ _ hT (ba_args _ _) ?_)
      refine wpN_pure ⟨plainId_quiet By.plain_init _, ba_init (s := { s with heap := s.heap.push (bArr #[]) }) ha h0 h1 fun h' ha' hk => ⟨_, rfl, ?_⟩⟩
      refine wpN_pure ?_
      dsimp only
      refine wpN_if_false rfl ?_
      exact wpN_pure ⟨_, rfl, hQ h' ha' fun b o e => hk b o (Nat.ne_of_lt (Heap.lt_size e)) (Heap.get?_push_of_some _ e)⟩
    | _ => exact hr.elim
end
end Mine
end PartBary2

section PartBary3
open PySem PySem.W PyProof.Rows PySem.Calls
set_option maxRecDepth 100000
namespace Mine
namespace By
theorem slot_set : Slot "bytearray" "__setitem__" "bytearray.__setitem__" :=
  .of (owner := "bytearray") (n := "__setitem__") (by rw [typeLookup_type, builtinLookup_eq_fast]; kernel_rfl) (by decide +kernel) (by decide +kernel) (by decide +kernel)
    (by first | exact .inl (by decide +kernel) | exact .inr (by decide +kernel)) (by rw [isSubtype_type]; kernel_rfl)
theorem entry_set : entryFor table "bytearray.__setitem__" = some Builtin.«bytearray.__setitem__» := by first | exact entryFor_of_fast (by kernel_rfl) | exact entryFor_of_tree (by kernel_rfl)
theorem args_set (a i v : Value) : argsOk "bytearray.__setitem__" ⟨[a, i, v], []⟩ := by unfold argsOk; kernel_rfl
end By
section
variable {prog : Program} {w : World} {A : Around} {E : Value → Shared → Prop} {s : Shared}
theorem setItem_ba {a : Addr} {b : Array UInt8} {k v : Int} {t u : Tok} {Q : Unit → Shared → Prop} (ha : s.heap.get? a = some (bArr b)) (h0 : 0 ≤ k) (h1 : k < b.size) (hb : b.size ≤ 1000) (v0 : 0 ≤ v) (v1 : v < 256)
    (h : ∀ h', h'.get? a = some (bArr (b.setIfInBounds k.toNat v.toNat.toUInt8)) → (∀ c o, c ≠ a → s.heap.get? c = some o → h'.get? c = some o) → Q () { s with heap := h' }) :
    wpAny (model prog w) A (setItem (.ref a) (.int k t) (.int v u)) Q E s := by
  have hT := typeIs_ba ha
  unfold setItem
  try with_reducible refine wpAny_holding ?_
  refine wpAny_bind (wpAny_sequenceKey hT (by decide) ?_)
  refine wpAny_bind (wpAny_callSpecial?_slot (name := Str.ofString "__setitem__") hT By.slot_set (wpAny_call_entry By.slot_set hT By.entry_set ?_ (By.args_set _ _ _)))
  unfold Builtin.«bytearray.__setitem__»
  dsimp only
  refine wpAny_ite ?_
  rw [if_neg (by simp)]
  have hf : Builtin.Bytes.fitsIndex k = true := by unfold Builtin.Bytes.fitsIndex; simp only [Bool.and_eq_true, decide_eq_true_eq]; omega
  refine wpAny_bind ?_
  unfold Builtin.Bytes.subscript?
  refine wpAny_bind (wpAny_specialOf (T := "int") (typeIs_int _ _ _) F.slot_int_index.lookup ?_)
  refine bm_if_false rfl ?_
  refine wpAny_bind (wpAny_of_eq (rfl : asIndex (.int k t) = pure k) ?_)
  refine bm_if_false (by rw [hf]; rfl) ?_
  refine wpAny_pure ?_
  dsimp only
  refine wpAny_bind ?_
  unfold Builtin.Bytes.byteValue
  refine wpAny_bind (wpAny_of_eq (rfl : asIndex (.int v u) = pure v) ?_)
  refine bm_if_false (by simp only [Bool.or_eq_false_iff, decide_eq_false_iff_not]; omega) ?_
  refine wpAny_pure ?_
  refine wpAny_bind ?_
  unfold Builtin.Bytes.payload Builtin.Bytes.payload?
  refine wpAny_bind (wpAny_bind (wpAny_load ha (wpAny_pure ?_)))
  refine wpAny_pure ?_
  have hs : seqIndex? k b.size = some k.toNat := by
    unfold seqIndex?
    simp
    omega
  rw [hs]
  dsimp only
  refine wpAny_bind (write_ba (f := fun x => x.setIfInBounds k.toNat v.toNat.toUInt8) ha (by simpa using hb) fun h' ha' hk => ?_)
  exact wpAny_pure ⟨_, rfl, wpAny_pure (h h' ha' hk)⟩

theorem slotBuffer_ba {a : Addr} {b : Array UInt8} {Q : Bool → Shared → Prop} (ha : s.heap.get? a = some (bArr b)) (h : Q true s) : wpAny (model prog w) A (Builtin.Bytes.slotIsOwn (.ref a) "__buffer__") Q E s := by
  have key : ∀ x : String, x = "bytearray" → wpAny (model prog w) A (isInstance (.ref a) (.type x)) Q E s := fun x hx => by rw [hx]; exact wpAny_isInstance (typeIs_ba ha) By.sub h
  unfold Builtin.Bytes.slotIsOwn
  refine wpAny_bind (wpAny_specialOf (typeIs_ba ha) By.buffer ?_)
  dsimp only
  split
  · rename_i hx
    exact absurd hx (by decide +kernel)
  · exact key _ (by decide +kernel)
theorem buffer_ba {a : Addr} {b : Array UInt8} {id : String} {full : Bool} {Q : Option (Array UInt8) → Shared → Prop} (ha : s.heap.get? a = some (bArr b)) (h : Q (some b) s) : wpAny (model prog w) A (Builtin.Bytes.buffer? id (.ref a) full) Q E s := by
  have hT := typeIs_ba ha
  unfold Builtin.Bytes.buffer?
  refine wpAny_bind (wpAny_specialOf hT By.buffer ?_)
  dsimp only
  refine wpAny_bind (slotBuffer_ba ha ?_)
  refine bm_if_false rfl ?_
  refine wpAny_bind (wpAny_specialOf hT By.buffer ?_)
  refine wpAny_bind (ownRelease_ba ha ?_)
  refine bm_if_false rfl ?_
  unfold Builtin.Bytes.payload Builtin.Bytes.payload?
  refine wpAny_bind (wpAny_bind (wpAny_bind (wpAny_load ha (wpAny_pure ?_))))
  exact wpAny_pure (wpAny_pure h)
theorem ba_to_bytes {a : Addr} {b : Array UInt8} {Q : Value → Shared → Prop} (ha : s.heap.get? a = some (bArr b)) (hz : b.size ≤ 1000) (hQ : ∀ t k, Q (.bytes b t) { s with toks := k }) :
    codeAny (model prog w) A (.call (.builtin "bytes.__new__") ⟨[.type "bytes", .ref a], []⟩) (wants Q E) s := by
  refine codeAny_of_tree ?_
  show wpAny _ A.in1 (do checkBuiltinCall "bytes.__new__" ⟨[.type "bytes", .ref a], []⟩; again (.builtin "bytes.__new__" ⟨[.type "bytes", .ref a], []⟩)) _ _ s
  refine wpAny_bind (wpAny_of_eq (F.bm_newCall _) (wpAny_pure ⟨plainId_quiet F.bm_plain _, codeAny_builtin F.bm_entry ?_⟩))
  rw [Around.under_plainId F.bm_plain _]
  have hT := typeIs_ba ha
  unfold Builtin.«bytes.__new__»
  refine wpAny_bind (wpAny_of_eq (a := true) rfl ?_)
  refine bm_if_false rfl ?_
  refine wpAny_bind (wpAny_of_eq F.bm_sub ?_)
  refine bm_if_false rfl ?_
  refine wpAny_bind (wpAny_of_eq (F.bm_bind _) ?_)
  refine wpAny_bind (wpAny_of_eq (a := ()) rfl ?_)
  refine wpAny_bind (wpAny_of_eq (a := ()) rfl ?_)
  refine bm_if_false rfl ?_
  refine wpAny_bind (wpAny_specialOf hT By.noBytes ?_)
  refine wpAny_bind (wpAny_bind ?_)
  show wpAny _ _ (load a >>= _) _ _ _
  refine wpAny_bind (wpAny_load ha ?_)
  refine wpAny_pure (wpAny_pure ?_)
  refine bm_if_false rfl ?_
  refine wpAny_bind (wpAny_specialOf hT By.noIndex ?_)
  refine bm_if_true rfl ?_
  first
    | show wpAny _ _ (Builtin.Bytes.buffer? "bytes.__new__" (.ref a) true >>= _) _ _ _
    | (refine wpAny_bind ?_; show wpAny _ _ (Builtin.Bytes.buffer? "bytes.__new__" (.ref a) true >>= _) _ _ _)
  refine wpAny_bind (buffer_ba ha ?_)
  dsimp only
  refine wpAny_bind (wpAny_rule ?_)
  refine wpAny_bind (wpAny_mkBytes ?_ (by rw [sizeLine_eq]; omega))
  show wpAny _ _ (if (Value.type "bytes" == Value.type "bytes") = true then _ else _) _ _ _
  refine bm_if_true (by decide) ?_
  first
    | exact wpAny_pure (hQ _ _)
    | exact wpAny_bind (wpAny_pure (wpAny_pure (hQ _ _)))
/-- bytes(a) of a bytearray -/
theorem call_bytes_ba {a : Addr} {b : Array UInt8} {Q : Value → Shared → Prop} (ha : s.heap.get? a = some (bArr b)) (hz : b.size ≤ 1000) (hQ : ∀ t k, Q (.bytes b t) { s with toks := k }) : wpAny (model prog w) A (call (.type "bytes") [.ref a]) Q E s := by
  refine callType_codes (Q₁ := fun obj s₁ => s₁.TypeIs obj "bytes" ∧ Q obj s₁) F.bm_called (F.bm_typeCall _) F.entry_object_init
    (ba_to_bytes ha hz fun t k => ⟨typeIs_bytes _ _ _, hQ t k⟩) fun obj s₁ h₁ => ?_
  exact ⟨h₁.1, F.args_object_init_2 obj _, object_init_meets F.bm_called.init.lookup F.bm_called.made (by decide) prog w A.in1 _ s₁ ⟨h₁.1, rfl, h₁.2⟩⟩
end
end Mine
end PartBary3

section PartSwap
open PySem PySem.W PyProof.Rows
set_option maxRecDepth 100000
set_option maxHeartbeats 8000000
namespace Mine
/-- one store of the inner loop -/
def swapAt (ks : List Int) (W i j : Nat) (a : Array UInt8) : Array UInt8 := a.setIfInBounds (i * W + W - 1 - j) (ks.getD (i * W + j) 0).toNat.toUInt8
def swapIn (ks : List Int) (W i : Nat) : Nat → Array UInt8 → Array UInt8
  | 0, a => a
  | j + 1, a => swapAt ks W i j (swapIn ks W i j a)
def swapOut (ks : List Int) (W : Nat) : Nat → Array UInt8
  | 0 => Array.replicate ks.length 0
  | i + 1 => swapIn ks W i W (swapOut ks W i)
theorem range_small {n W : Int} (h0 : 0 ≤ n) (h1 : n ≤ 1000) (h2 : 0 < W) (h3 : W ≤ 1000) : Builtin.Range.small 0 n W = true := by
  have hd : (n - 0 - 1) / W ≤ n - 0 - 1 ∨ n = 0 := by
    by_cases h : n = 0
    · exact .inr h
    · exact .inl (Int.ediv_le_self _ (by omega))
  have hd2 : 0 < n → 0 ≤ (n - 0 - 1) / W := fun h => Int.ediv_nonneg (by omega) (by omega)
  unfold Builtin.Range.small Builtin.Range.rangeSize Builtin.Range.rangeFitsLong
  rw [if_pos h2, if_pos (by omega : W > 0)]
  simp only [Bool.and_eq_true, Bool.or_eq_true, decide_eq_true_eq, beq_iff_eq]
  by_cases h : (0 : Int) < n
  · have := hd2 h
    rw [if_pos h]
    generalize (n - 0 - 1) / W = d at *
    omega
  · rw [if_neg h]
    omega
theorem range_size {n W q : Nat} (h2 : 0 < W) (e : n = q * W) : Builtin.Range.rangeSize 0 (n : Int) (W : Int) = (q : Int) := by
  unfold Builtin.Range.rangeSize
  rw [if_pos (by omega)]
  cases q with
  | zero => simp at e; subst e; rfl
  | succ q =>
    have hn : 0 < n := by rw [e]; exact Nat.mul_pos (Nat.succ_pos _) h2
    rw [if_pos (by omega)]
    have e2 : (n : Int) - 0 - 1 = ((W - 1 : Nat) : Int) + (W : Int) * q := by
      rw [e, Nat.succ_mul]; push_cast
      rw [Int.mul_comm (q : Int) W]; omega
    rw [e2, Int.add_mul_ediv_left _ _ (by omega), Int.ediv_eq_zero_of_lt (by omega) (by omega)]
    push_cast; omega
theorem setItem_led {prog : Program} {w : World} {A : Around} {E : Value → Shared → Prop} {s : Shared} {h₀ : Heap} {L S : Addr} {m : Str → Option Value} {rest : List (Addr × Obj)} {b : Array UInt8} {k v : Int} {t u : Tok} {Q : Unit → Shared → Prop}
    (F : Fr h₀ L s.heap m) (N : News h₀ L s.heap ((S, bArr b) :: rest)) (hne : ∀ p ∈ rest, p.1 ≠ S) (h0 : 0 ≤ k) (h1 : k < b.size) (hb : b.size ≤ 1000) (v0 : 0 ≤ v) (v1 : v < 256)
    (h : ∀ h', Fr h₀ L h' m → News h₀ L h' ((S, bArr (b.setIfInBounds k.toNat v.toNat.toUInt8)) :: rest) → Q () { s with heap := h' }) :
    wpAny (model prog w) A (setItem (.ref S) (.int k t) (.int v u)) Q E s := by
  have D := N _ (List.Mem.head _)
  refine setItem_ba D.1 h0 h1 hb v0 v1 fun h' ha hk => h h' ⟨F.ns.at' fun o e => hk _ o (Ne.symm D.2.1) e, fun c o e => hk c o (fun z => ?_) (F.keep c o e), F.above⟩ fun p hp => ?_
  · subst z; have := D.2.2; rw [e] at this; cases this
  · rcases List.mem_cons.mp hp with rfl | hp
    · exact ⟨ha, D.2⟩
    · have P := N p (List.Mem.tail _ hp); exact ⟨hk _ _ (hne p hp) P.1, P.2⟩
theorem swapIn_size (ks : List Int) (W i : Nat) : ∀ (j : Nat) (a : Array UInt8), (swapIn ks W i j a).size = a.size
  | 0, _ => rfl
  | j + 1, a => by simp [swapIn, swapAt, swapIn_size ks W i j a]
theorem swapOut_size (ks : List Int) (W : Nat) : ∀ i, (swapOut ks W i).size = ks.length
  | 0 => by simp [swapOut]
  | i + 1 => by rw [swapOut, swapIn_size, swapOut_size ks W i]

section
local macro_rules | `(tactic| walk_at "pyIter ref") => `(tactic| with_reducible refine Stop.mk ?_)
local macro_rules | `(tactic| walk_at "setItem ref int") => `(tactic| with_reducible refine Stop.mk ?_)
theorem swap_tell {W q : Nat} {tn t : Tok} {b : Array UInt8} {ks : List Int} {news : List (Addr × Obj)} (hb : KBw.bInts b = ks) (hW : 0 < W) (hq : ks.length = q * W) (hlen : ks.length ≤ 100) (hW2 : W ≤ 100) :
    TellN 20 21 [.bytes b t, .int (W : Int) tn] news (fun r nx => ∃ t', r = .bytes (swapOut ks W q) t' ∧ nx = news) := by
  unfold TellN
  w_top off
  k_fill
  intro w p loose mean mg mb dp un gd cn cs a ccd cl outer A₀ base h₀ L m s Q B F X N T hk hd hu hret
  refine wpN_call ?_
  k_dflt (refine' code_defN (binds := [(Str.ofString "data", .bytes b t), (Str.ofString "width", .int (W : Int) tn)]) B F X N T ?kA ?kF ?kK ?k6 ?k7 ?k8 ?k9 ?kB ?_ ?c2 ?c3 ?c4 ?c5; (case kA => exact rfl); (case kF => exact rfl); (case kK => exact hk); (case k6 => k_is); (case k7 => k_is); (case k8 => ktr_room); (case k9 => exact BindsTo.of_eq rfl); (case c5 => decide); (case kB => exact locs rfl); (case c2 => exact rfl); (case c3 => exact rfl); (case c4 => exact rfl))
  intro g L1 h1 FG F1 N1 B1 X1 T1
  refine wpN_execs_cons (wpN_Assign_Name (wpN_CallName (f := .type "bytearray") (P := fun _ => True) (fun _ _ => ⟨.machine, .inr rfl, Looks.of_pure rfl⟩) ?_))
  try k_fold
  w_strict k_steps
  · trivial
  rename_i F2
  refine call_bytearray (by omega) (by omega) fun h2 ha2 hk2 => ?_
  obtain ⟨F3, N3, hl⟩ := new_obj F2 N1 ha2 hk2
  clear ha2 hk2 F2 N1
  dsimp only at F3 N3 hl ⊢
  generalize h1.objs.size = S at F3 N3 hl ⊢
  have hMk := kstMark
  w_strict k_steps
  refine wpN_of ?_
  try k_fold
  w_strict k_steps
  refine Stop.out ?_
  rename_i R1 F4 N4 K4
  refine range_st (σ := Array UInt8 × (Str → Option Value)) (fun c => (S, bArr c.1) :: news)
    (fun c y => if y = Str.ofString "swapped_data" then some (.ref S) else if y = Str.ofString "j" then c.2 y else List.lookup y [(Str.ofString "width", .int (W : Int) tn), (Str.ofString "data", .bytes b t)])
    (fun i c => c.1 = swapOut ks W i) (_, fun _ => none) rfl R1 (range_small (by omega) (by omega) (by omega) (by omega)) (range_size hW hq) F4 N4 ?_ ?_ ?_ ?_
  · intro z hz
    dsimp only
    by_cases e1 : z = Str.ofString "swapped_data"
    · rw [if_pos e1, if_pos e1]
    · rw [if_neg e1, if_neg e1]
      by_cases e2 : z = Str.ofString "j"
      · subst e2; rfl
      · rw [if_neg e2]; rfl
  · show Array.replicate (ks.length : Int).toNat 0 = _
    simp [swapOut]
  · intro i ti c h tk own hi hoff hj F5 N5
    obtain ⟨arr, u⟩ := c
    dsimp only at hj F5 N5
    clear R1 F4 N4 K4
    simp only [List.cons_append] at N5
    simp only [List.map_cons] at hoff
    have eI : 0 + (i : Int) * (W : Int) = ((i * W : Nat) : Int) := by push_cast; omega
    rw [eI] at F5
    have hIW : i * W + W ≤ ks.length := by
      rw [hq, ← Nat.succ_mul]
      exact Nat.mul_le_mul_right W hi
    have hsz : arr.size = ks.length := by rw [hj, swapOut_size]
    obtain ⟨I, hI⟩ : ∃ I, I = i * W := ⟨_, rfl⟩
    rw [← hI] at F5 hIW
    try k_fold
    w_strict k_steps
    refine Stop.out ?_
    rename_i R2 F6 N6 K6
    refine range_st (σ := Array UInt8) (fun c => (S, bArr c) :: (news ++ own))
      (fun c y => if y = Str.ofString "i" then some (.int (I : Int) ti) else if y = Str.ofString "swapped_data" then some (.ref S) else List.lookup y [(Str.ofString "width", .int (W : Int) tn), (Str.ofString "data", .bytes b t)])
      (fun j c => c = swapIn ks W i j arr) arr rfl R2 (small_one (by omega) (by omega) (by omega) (by omega)) (n := W) (rangeSize_nat _ _) F6 N6 ?_ rfl ?_ ?_
    · intro z hz
      by_cases e1 : z = Str.ofString "i"
      · simp only [if_pos e1]
      · by_cases e2 : z = Str.ofString "swapped_data"
        · simp only [if_neg e1, if_pos e2]
        · simp only [if_neg e1, if_neg e2, if_neg hz]
    · intro j tj c h tk own2 hj2 hoff2 hc F7 N7
      have eJ : 0 + (j : Int) * 1 = (j : Int) := by omega
      rw [eJ] at F7
      have hcs : c.size = ks.length := by rw [hc, swapIn_size, hsz]
      clear R2 F6 N6 K6
      simp only [List.cons_append] at N7
      simp only [List.map_cons] at hoff2
      have hne : ∀ p ∈ news ++ own ++ own2, p.1 ≠ S := by
        intro p hp
        rcases List.mem_append.mp hp with hp | hp
        · rcases List.mem_append.mp hp with hp | hp
          · exact Nat.ne_of_lt (hl p hp)
          · exact hoff p hp S (List.Mem.head _)
        · exact hoff2 p hp S (List.Mem.head _)
      try k_fold
      w_strict k_steps
      refine Stop.out ?_
      rename_i v0 v1
      refine setItem_led F7 N7 hne (by omega) (by omega) (by omega) v0 v1 fun h8 F8 N8 => ?_
      w_strict k_steps
      refine stt_end (swapAt ks W i j c) F8 (news' := (S, bArr (swapAt ks W i j c)) :: (news ++ own ++ own2)) ?_ (fun z hz => if_neg hz) (by rw [hc]; rfl) rfl
        (List.forall_mem_cons.mpr ⟨List.Mem.head _, fun p hp => .tail _ (List.mem_append_left _ hp)⟩) (fun p hp => .tail _ (List.mem_append_right _ hp))
      have e1 : ((I : Int) + (W : Int) - 1 - (j : Int)).toNat = i * W + W - 1 - j := by rw [← hI]; omega
      have e2 : ((I : Int) + (j : Int)).toNat = i * W + j := by rw [← hI]; omega
      rw [e1, e2] at N8
      exact N8
    · intro c u h tk hc F7 N7
      clear R2 F6 N6 K6
      try k_fold
      w_strict k_steps
      refine stt_end (c, u) F7 N7 (fun z hz => ?_) (by show c = _; rw [hc, hj]; rfl) rfl
        (List.forall_mem_cons.mpr ⟨List.Mem.head _, fun p hp => .tail _ (List.mem_append_left _ hp)⟩) (fun p hp => .tail _ (List.mem_append_right _ hp))
      by_cases e1 : z = Str.ofString "swapped_data"
      · subst e1; rfl
      · by_cases e2 : z = Str.ofString "j"
        · simp only [if_neg e1, if_pos e2]
        · simp only [if_neg e1, if_neg e2, if_neg hz]
  · intro c u h tk hj F5 N5
    obtain ⟨arr, u2⟩ := c
    dsimp only at hj F5 N5
    clear R1 F4 N4 K4
    try k_fold
    w_strict k_steps
    refine call_bytes_ba (N5 _ (List.Mem.head _)).1 (by rw [hj, swapOut_size]; omega) fun t' k' => ?_
    w_strict k_steps
    rename_i kF kN kT kX
    subst hj
    exact hret _ news _ _ ⟨t', rfl, rfl⟩ kF fun p hp => kN p (.tail _ hp)
end
end Mine
end PartSwap

section PartBack
open PySem PySem.W PyProof.Rows
set_option maxRecDepth 100000
set_option maxHeartbeats 8000000
namespace Mine
/-- the signs read back, the last of the old row first -/
def unz (number : Int) : Nat → List Int → Int → List Int
  | 0, _, _ => []
  | n + 1, seg, total =>
    if 0 < total then seg.headD 0 :: unz number n seg.tail (total - worth number (seg.headD 0))
    else seg.getLastD 0 :: unz number n seg.dropLast (total - worth number (seg.getLastD 0))
theorem seg_head {ks : List Int} {low high : Nat} (h : low < high) : ((ks.take high).drop low).headD 0 = ks.getD low 0 := by
  rw [List.headD_eq_head?_getD, List.head?_drop, List.getElem?_take, if_pos h, List.getD_eq_getElem?_getD]
theorem seg_tail {ks : List Int} {low high : Nat} : ((ks.take high).drop low).tail = (ks.take high).drop (low + 1) := by rw [List.tail_drop]
theorem seg_last {ks : List Int} {low high : Nat} (h : low < high) (hh : high ≤ ks.length) : ((ks.take high).drop low).getLastD 0 = ks.getD (high - 1) 0 := by
  rw [List.getLastD_eq_getLast?, List.getLast?_drop, if_neg (by simp; omega), List.getLast?_take, if_neg (by omega), List.getD_eq_getElem?_getD]
  have : high - 1 < ks.length := by omega
  simp [this]
theorem seg_init {ks : List Int} {low high : Nat} (h : low < high) (hh : high ≤ ks.length) : ((ks.take high).drop low).dropLast = (ks.take (high - 1)).drop low := by
  rw [List.dropLast_eq_take, List.take_drop, List.take_take]
  congr 2
  simp
  omega
theorem unz_pos {number total : Int} {n : Nat} {seg : List Int} (h : 0 < total) : unz number (n + 1) seg total = seg.headD 0 :: unz number n seg.tail (total - worth number (seg.headD 0)) := by rw [unz, if_pos h]
theorem unz_neg {number total : Int} {n : Nat} {seg : List Int} (h : ¬ 0 < total) : unz number (n + 1) seg total = seg.getLastD 0 :: unz number n seg.dropLast (total - worth number (seg.getLastD 0)) := by rw [unz, if_neg h]
structure BackS where
  low : Nat
  high : Nat
  total : Int
  found : List Int
  fvs : List Value
  fc : Nat
  tl : Tok
  th : Tok
  tt : Tok
  u : Str → Option Value
section
local macro_rules | `(tactic| walk_at "call ref") => `(tactic| with_reducible refine Stop.mk ?_)
local macro_rules | `(tactic| walk_at "exec While Compare cons nil") => `(tactic| with_reducible refine Stop.mk ?_)
theorem back_tell {number : Int} {tn t : Tok} {b : Array UInt8} {ks : List Int} {news : List (Addr × Obj)} (hb : KBw.bInts b = ks) (hpos : ∀ k ∈ ks, 0 < k) (hlen : ks.length ≤ 100) :
    Tell 40 94 [.bytes b t, .int number tn] news (fun r nx => ∃ t', r = .bytes (byteArr (unz number ks.length ks ((hts number 0 ks).getLastD 0)).reverse) t' ∧ nx = news) := by
  unfold Tell
  w_top off
  k_fill
  intro w p loose mean mg mb dp un gd cn cs a ccd cl outer A₀ base h₀ L m s Q E B F X N T hk hd hu hret
  refine wpAny_call ?_
  k_dflt (refine' code_def (binds := [(Str.ofString "octets", .bytes b t), (Str.ofString "number", .int number tn)]) B F X N T ?kA ?kF ?kK ?k6 ?k7 ?k8 ?k9 ?kB ?_ ?c2 ?c3 ?c4 ?c5; (case kA => exact rfl); (case kF => exact rfl); (case kK => exact hk); (case k6 => k_is); (case k7 => k_is); (case k8 => ktr_room); (case k9 => exact BindsTo.of_eq rfl); (case c5 => decide); (case kB => exact locs rfl); (case c2 => exact rfl); (case c3 => exact rfl); (case c4 => exact rfl))
  intro g L1 h1 FG F1 N1 B1 X1 T1
  have hMk := kstMark
  try k_fold
  w_strict k_steps
  refine Stop.out ?_
  refine Tell.use (heights_tell hb hpos hlen) B1 F1 X1 N1 T1 rfl (by show dp + 1 + 20 < _; omega) (by show un + 3 + 10 * 20 < _; omega) ?_
  rintro r nx h2 tk2 ⟨l, vs, c, rfl, rfl, hi, hl⟩ F2 N2
  have hhl : (hts number 0 ks).length = ks.length + 1 := hts_length _ _ _
  have hvl := hi.length
  clear F1 N1
  try k_fold
  w_strict k_steps
  refine Stop.out ?_
  rename_i lf hx1 hlf D hx2 hD hx3 hx4 hx5 hx6 F3 N3
  have hlf' := hlf
  obtain ⟨hllf, hnlf⟩ := hlf'
  obtain ⟨tot, tl, th, tt, htot, F4⟩ : ∃ tot tl th tt, tot = (hts number 0 ks).getLastD 0 ∧ Fr g L1 hx6 (fun y => if y = Str.ofString "low" then some (.int 0 tl) else if y = Str.ofString "high" then some (.int (ks.length : Int) th) else if y = Str.ofString "found" then some (.ref lf)
      else if y = Str.ofString "total" then some (.int tot tt) else List.lookup y [(Str.ofString "number", .int number tn), (Str.ofString "octets", .bytes b t)]) := by
    refine ⟨_, _, _, _, ?_, F3⟩
    exact getD_neg1 _ (by omega)
  have N4 : News g L1 hx6 ((lf, listOf ([] : List Value).toArray 0) :: (l, listOf vs.toArray c) :: news) := fun p hp => N3 p (.tail _ hp)
  clear F3 N3 hD D
  refine while_st (σ := BackS) (fun c' => (lf, listOf c'.fvs.toArray c'.fc) :: (l, listOf vs.toArray c) :: news)
    (fun c y => if y = Str.ofString "low" then some (.int (c.low : Int) c.tl) else if y = Str.ofString "high" then some (.int (c.high : Int) c.th) else if y = Str.ofString "found" then some (.ref lf)
      else if y = Str.ofString "total" then some (.int c.total c.tt) else if y = Str.ofString "octet" then c.u y else List.lookup y [(Str.ofString "number", .int number tn), (Str.ofString "octets", .bytes b t)])
    (fun c => IntsAre c.fvs c.found ∧ KBa.In c.found ∧ c.found ++ unz number (c.high - c.low) ((ks.take c.high).drop c.low) c.total = unz number ks.length ks tot ∧ c.low ≤ c.high ∧ c.high ≤ ks.length ∧ c.found.length + (c.high - c.low) = ks.length)
    (fun c => c.high - c.low) ⟨0, ks.length, tot, [], [], 0, tl, th, tt, fun _ => none⟩ F4 N4 ?_ ⟨.nil, (by intro n hn; cases hn), by simp, by simp, Nat.le_refl _, by simp⟩ ?_
  · intro z
    by_cases e1 : z = Str.ofString "octet"
    · subst e1; rfl
    · simp only [if_neg e1]; rfl
  · intro c' h tk hj F5 N5
    obtain ⟨low, high, total, found, fvs, fc, tl, th, tt, u⟩ := c'
    obtain ⟨hfi, hIn, heq, hle, hhi, hfl⟩ := hj
    dsimp only at hfi hIn heq hle hhi hfl F5 N5
    have hfv := hfi.length
    have hInr : KBa.In found.reverse := fun n hn => hIn n (List.mem_reverse.mp hn)
    have hD : ∀ i, i < ks.length → 0 < ks.getD i 0 := fun i hi => hpos _ (by rw [List.getD_eq_getElem?_getD, List.getElem?_eq_getElem hi]; exact List.getElem_mem hi)
    clear F4 N4
    try k_fold
    w_strict k_steps
    · exfalso
      rename (ks.getD _ 0 = 0) => hz
      have := hD (low : Int).toNat (by omega)
      omega
    · rename (ks.getD _ 0 < 256) => k1
      rename (0 ≤ ks.getD _ 0) => k0
      rename (0 < total) => hpt
      rename Fr _ _ _ _ => F6
      rename News _ _ _ _ => N6
      have e0 : (low : Int).toNat = low := Int.toNat_natCast _
      have e1 : (low : Int) + 1 = ((low + 1 : Nat) : Int) := by omega
      rw [e0, e1] at F6
      rw [e0, List.push_toArray] at N6
      rw [e0] at k0 k1
      obtain ⟨t1, t2, t3, F7⟩ : ∃ t1 t2 t3, Fr g L1 _ (fun y => if y = Str.ofString "total" then some (.int (total - worth number (ks.getD low 0)) t1) else if y = Str.ofString "low" then some (.int ((low + 1 : Nat) : Int) t2) else if y = Str.ofString "octet" then some (.int (ks.getD low 0) t3) else
        if y = Str.ofString "low" then some (.int (low : Int) tl) else if y = Str.ofString "high" then some (.int (high : Int) th) else if y = Str.ofString "found" then some (.ref lf)
        else if y = Str.ofString "total" then some (.int total tt) else if y = Str.ofString "octet" then u y else List.lookup y [(Str.ofString "number", .int number tn), (Str.ofString "octets", .bytes b t)]) := ⟨_, _, _, F6⟩
      obtain ⟨t4, N7⟩ : ∃ t4, News g L1 _ ((lf, listOf (fvs ++ [Value.int (ks.getD low 0) t4]).toArray (fc + 1)) :: (l, listOf vs.toArray c) :: news) := ⟨_, N6⟩
      clear F6 N6
      refine wend ⟨low + 1, high, total - worth number (ks.getD low 0), found ++ [ks.getD low 0], fvs ++ [Value.int (ks.getD low 0) t4], fc + 1, t2, th, t1, fun _ => some (.int (ks.getD low 0) t3)⟩ F7 N7 (fun z => ?_)
        ⟨hfi.append (.cons _ _ .nil), ?_, ?_, by show low + 1 ≤ high; omega, hhi, by simp; omega⟩ (by show high - (low + 1) < high - low; omega) (fun p hp => hp)
      · by_cases n1 : z = Str.ofString "low"
        · subst n1; rfl
        by_cases n2 : z = Str.ofString "total"
        · subst n2; rfl
        by_cases n3 : z = Str.ofString "octet"
        · subst n3; rfl
        simp only [if_neg n1, if_neg n2, if_neg n3]
      · intro n hn
        rcases List.mem_append.mp hn with hn | hn
        · exact hIn n hn
        · rw [List.mem_singleton.mp hn]; exact ⟨k0, k1⟩
      · rw [← heq]
        have e2 : high - low = (high - (low + 1)) + 1 := by omega
        rw [e2, unz_pos hpt, seg_head (by omega), seg_tail]
        simp
    · exfalso
      rename (ks.getD _ 0 = 0) => hz
      have := hD ((high : Int) - 1).toNat (by omega)
      omega
    · rename (ks.getD _ 0 < 256) => k1
      rename (0 ≤ ks.getD _ 0) => k0
      rename (¬ 0 < total) => hpt
      rename Fr _ _ _ _ => F6
      rename News _ _ _ _ => N6
      have e0 : ((high : Int) - 1).toNat = high - 1 := by omega
      have e1 : (high : Int) - 1 = ((high - 1 : Nat) : Int) := by omega
      rw [e0, e1] at F6
      rw [e0, List.push_toArray] at N6
      rw [e0] at k0 k1
      obtain ⟨t1, t2, t3, F7⟩ : ∃ t1 t2 t3, Fr g L1 _ (fun y => if y = Str.ofString "total" then some (.int (total - worth number (ks.getD (high - 1) 0)) t1) else if y = Str.ofString "octet" then some (.int (ks.getD (high - 1) 0) t3) else if y = Str.ofString "high" then some (.int ((high - 1 : Nat) : Int) t2) else
        if y = Str.ofString "low" then some (.int (low : Int) tl) else if y = Str.ofString "high" then some (.int (high : Int) th) else if y = Str.ofString "found" then some (.ref lf)
        else if y = Str.ofString "total" then some (.int total tt) else if y = Str.ofString "octet" then u y else List.lookup y [(Str.ofString "number", .int number tn), (Str.ofString "octets", .bytes b t)]) := ⟨_, _, _, F6⟩
      obtain ⟨t4, N7⟩ : ∃ t4, News g L1 _ ((lf, listOf (fvs ++ [Value.int (ks.getD (high - 1) 0) t4]).toArray (fc + 1)) :: (l, listOf vs.toArray c) :: news) := ⟨_, N6⟩
      clear F6 N6
      refine wend ⟨low, high - 1, total - worth number (ks.getD (high - 1) 0), found ++ [ks.getD (high - 1) 0], fvs ++ [Value.int (ks.getD (high - 1) 0) t4], fc + 1, tl, t2, t1, fun _ => some (.int (ks.getD (high - 1) 0) t3)⟩ F7 N7 (fun z => ?_)
        ⟨hfi.append (.cons _ _ .nil), ?_, ?_, by show low ≤ high - 1; omega, by show high - 1 ≤ _; omega, by simp; omega⟩ (by show high - 1 - low < high - low; omega) (fun p hp => hp)
      · by_cases n1 : z = Str.ofString "high"
        · subst n1; rfl
        by_cases n2 : z = Str.ofString "total"
        · subst n2; rfl
        by_cases n3 : z = Str.ofString "octet"
        · subst n3; rfl
        simp only [if_neg n1, if_neg n2, if_neg n3]
      · intro n hn
        rcases List.mem_append.mp hn with hn | hn
        · exact hIn n hn
        · rw [List.mem_singleton.mp hn]; exact ⟨k0, k1⟩
      · rw [← heq]
        have e2 : high - low = (high - 1 - low) + 1 := by omega
        rw [e2, unz_neg hpt, seg_last (by omega) hhi, seg_init (by omega) hhi]
        simp
    · rename_i kF kN kT kX
      have e0 : high - low = 0 := by omega
      rw [e0] at heq
      have e1 : found = unz number ks.length ks ((hts number 0 ks).getLastD 0) := by rw [← htot, ← heq]; simp [unz]
      rw [e1]
      exact hret _ news _ _ ⟨_, rfl, rfl⟩ kF fun p hp => kN p (.tail _ (.tail _ (.tail _ hp)))
end
end Mine
end PartBack

section PartText
open PySem PySem.W PyProof.Rows
set_option maxRecDepth 100000
set_option maxHeartbeats 0
namespace Mine
def sgnPair (mode : Int) (i : Nat) : Str :=
  if i % 3 = 2 ∧ (Int.fdiv mode ((2048 >>> (i / 3) : Nat) : Int)).fmod 2 = 1 then [Str.ofString "Ss", Str.ofString "Ss", Str.ofString "Tt"].getD (i / 3) (Str.ofString "")
  else [Str.ofString "-r", Str.ofString "-w", Str.ofString "-x"].getD (i % 3) (Str.ofString "")
def sgnAt (mode : Int) (i : Nat) : Str := Txt.item (sgnPair mode i) (Int.fmod (Int.fdiv mode ((256 >>> i : Nat) : Int)) 2)
def textTo (mode : Int) : Nat → Str
  | 0 => Txt.item (Str.ofString "?pc?d?b?-?l?s???") (Int.fdiv mode 4096)
  | i + 1 => textTo mode i ++ sgnAt mode i
theorem textTo_length (mode : Int) : ∀ i, (textTo mode i).length = i + 1
  | 0 => rfl
  | i + 1 => by
    rw [textTo, Str.length_append, textTo_length mode i]; rfl
def textM (mode : Int) (tn : Tok) (c : Tok × (Str → Option Value) × Nat) (y : Str) : Option Value := if y = Str.ofString "text" then some (.str (textTo mode c.2.2) c.1) else if y = Str.ofString "pair" then c.2.1 y else List.lookup y [(Str.ofString "mode", .int mode tn)]
theorem text_end {mode : Int} {tn : Tok} {g h' : Heap} {L : Addr} {k : Nat} {X P : Str} {t6 t7 : Tok} {R : Str → Option Value} {news own news' : List (Addr × Obj)} {s₁ : Shared} {tk : Nat}
    (F : Fr g L h' (fun y => if y = Str.ofString "text" then some (.str X t6) else if y = Str.ofString "pair" then some (.str P t7) else R y))
    (N : News g L h' news') (hX : textTo mode (k + 1) = X) (hR : ∀ z, z ≠ Str.ofString "place" → z ≠ Str.ofString "text" → z ≠ Str.ofString "pair" → R z = List.lookup z [(Str.ofString "mode", .int mode tn)])
    (hn : ∀ p ∈ news, p ∈ news') (ho : ∀ p ∈ own, p ∈ news') :
    InvEndN g L (Stt (fun _ => news) (textM mode tn) (Str.ofString "place") (fun c => c.2.2 = k + 1)) own (news.map (·.1)) s₁ { s₁ with heap := h', toks := tk } := by
  subst hX
  refine stt_end (t6, (fun _ => some (.str P t7)), k + 1) F N (fun z hz => ?_) rfl rfl hn ho
  unfold textM
  by_cases e1 : z = Str.ofString "text"
  · simp only [if_pos e1]
  · by_cases e2 : z = Str.ofString "pair"
    · simp only [if_neg e1, if_pos e2]
    · simp only [if_neg e1, if_neg e2]; exact hR z hz e1 e2
theorem sgn_yes {mode : Int} {i : Nat} (h1 : i % 3 = 2) (h : (Int.fdiv mode ((2048 >>> (i / 3) : Nat) : Int)).fmod 2 = 1) :
    textTo mode (i + 1) = textTo mode i ++ Txt.item ([Str.ofString "Ss", Str.ofString "Ss", Str.ofString "Tt"].getD (i / 3) (Str.ofString "")) (Int.fmod (Int.fdiv mode ((256 >>> i : Nat) : Int)) 2) := by
  rw [textTo, sgnAt, sgnPair, if_pos ⟨h1, h⟩]
theorem sgn_no {mode : Int} {i : Nat} (h : ¬ (i % 3 = 2 ∧ (Int.fdiv mode ((2048 >>> (i / 3) : Nat) : Int)).fmod 2 = 1)) :
    textTo mode (i + 1) = textTo mode i ++ Txt.item ([Str.ofString "-r", Str.ofString "-w", Str.ofString "-x"].getD (i % 3) (Str.ofString "")) (Int.fmod (Int.fdiv mode ((256 >>> i : Nat) : Int)) 2) := by
  rw [textTo, sgnAt, sgnPair, if_neg h]
theorem rshift_to {prog : Program} {w : World} {A : Around} {E : Value → Shared → Prop} {s : Shared} {a b : Int} {t u : Tok} {Q : Value → Shared → Prop} (c : Int) (h0 : 0 ≤ b) (e : Int.fdiv a (2 ^ b.toNat) = c) (h : Q (.int c s.toks) { s with toks := s.toks + 1 }) :
    wpAny (model prog w) A (binaryOp .RShift (.int a t) (.int b u)) Q E s := rshift_int h0 (by rw [e]; exact h)
section
local macro_rules | `(tactic| walk_at "binaryOp RShift int int") => `(tactic| ((first | refine rshift_to 2048 (by decide) (by decide) ?_ | refine rshift_to 1024 (by decide) (by decide) ?_ | refine rshift_to 512 (by decide) (by decide) ?_ | refine rshift_to 256 (by decide) (by decide) ?_ | refine rshift_to 128 (by decide) (by decide) ?_ | refine rshift_to 64 (by decide) (by decide) ?_ | refine rshift_to 32 (by decide) (by decide) ?_ | refine rshift_to 16 (by decide) (by decide) ?_ | refine rshift_to 8 (by decide) (by decide) ?_ | refine rshift_to 4 (by decide) (by decide) ?_ | refine rshift_to 2 (by decide) (by decide) ?_ | refine rshift_to 1 (by decide) (by decide) ?_); (try dsimp only)))
local macro_rules | `(tactic| walk_at "pyIter ref") => `(tactic| with_reducible refine Stop.mk ?_)
theorem text_tell {mode : Int} {tn : Tok} {news : List (Addr × Obj)} (h0 : 0 ≤ mode) (h1 : mode < 65536) :
    Tell 20 75 [.int mode tn] news (fun r nx => ∃ t', r = .str (textTo mode 9) t' ∧ nx = news) := by
  unfold Tell
  w_top off
  k_fill
  intro w p loose mean mg mb dp un gd cn cs a ccd cl outer A₀ base h₀ L m s Q E B F X N T hk hd hu hret
  refine wpAny_call ?_
  k_dflt (refine' code_def (binds := [(Str.ofString "mode", .int mode tn)]) B F X N T ?kA ?kF ?kK ?k6 ?k7 ?k8 ?k9 ?kB ?_ ?c2 ?c3 ?c4 ?c5; (case kA => exact rfl); (case kF => exact rfl); (case kK => exact hk); (case k6 => k_is); (case k7 => k_is); (case k8 => ktr_room); (case k9 => exact BindsTo.of_eq rfl); (case c5 => decide); (case kB => exact locs rfl); (case c2 => exact rfl); (case c3 => exact rfl); (case c4 => exact rfl))
  intro g L1 h1 FG F1 N1 B1 X1 T1
  have hMk := kstMark
  try k_fold
  w_strict k_steps
  refine Stop.out ?_
  rename_i R1 F2 N2 K2
  obtain ⟨t2, F3⟩ : ∃ t2, Fr g L1 _ (fun y => if y = Str.ofString "text" then some (.str (textTo mode 0) t2) else List.lookup y [(Str.ofString "mode", .int mode tn)]) := ⟨_, F2⟩
  clear F2 K2
  refine range_st (σ := Tok × (Str → Option Value) × Nat) (fun _ => news) (textM mode tn) (fun i c => c.2.2 = i) (t2, (fun _ => none), 0) rfl R1 (small_one (by omega) (by omega) (by omega) (by omega)) (n := 9) (rangeSize_nat _ _) F3 N2 ?_ rfl ?_ ?_
  · intro z hz
    unfold textM
    by_cases e1 : z = Str.ofString "pair"
    · subst e1; rfl
    · simp only [if_neg e1]
  · intro i ti c h tk own hi hoff hc F5 N5
    obtain ⟨tt, u, i2⟩ := c
    have hc : i2 = i := hc
    subst hc
    unfold textM at F5
    dsimp only at F5 N5
    clear R1 F3 N2
    have hcase : i2 = 0 ∨ i2 = 1 ∨ i2 = 2 ∨ i2 = 3 ∨ i2 = 4 ∨ i2 = 5 ∨ i2 = 6 ∨ i2 = 7 ∨ i2 = 8 := by omega
    rcases hcase with rfl | rfl | rfl | rfl | rfl | rfl | rfl | rfl | rfl
    · have e0 : (0 : Int) + ((0 : Nat) : Int) * 1 = 0 := by decide
      rw [e0] at F5
      have hlt := textTo_length mode 0
      try k_fold
      w_strict k_steps
      rename Fr _ _ _ _ => F6
      rename News _ _ _ _ => N6
      exact text_end F6 N6 (sgn_no fun x => absurd x.1 (by decide)) (by intro z a b c; simp [a, b, c]) (by intro p hp; simp [hp]) (by intro p hp; simp [hp])
    · have e0 : (0 : Int) + ((1 : Nat) : Int) * 1 = 1 := by decide
      rw [e0] at F5
      have hlt := textTo_length mode 1
      try k_fold
      w_strict k_steps
      rename Fr _ _ _ _ => F6
      rename News _ _ _ _ => N6
      exact text_end F6 N6 (sgn_no fun x => absurd x.1 (by decide)) (by intro z a b c; simp [a, b, c]) (by intro p hp; simp [hp]) (by intro p hp; simp [hp])
    · have e0 : (0 : Int) + ((2 : Nat) : Int) * 1 = 2 := by decide
      rw [e0] at F5
      have hlt := textTo_length mode 2
      try k_fold
      w_strict k_steps
      · rename (Int.fmod _ 2 = 1) => hcond
        rename Fr _ _ _ _ => F6
        rename News _ _ _ _ => N6
        exact text_end F6 N6 (sgn_yes rfl hcond) (by intro z a b c; simp [a, b, c]) (by intro p hp; simp [hp]) (by intro p hp; simp [hp])
      · rename (Int.fmod _ 2 ≠ 1) => hcond
        rename Fr _ _ _ _ => F6
        rename News _ _ _ _ => N6
        exact text_end F6 N6 (sgn_no fun x => hcond x.2) (by intro z a b c; simp [a, b, c]) (by intro p hp; simp [hp]) (by intro p hp; simp [hp])
    · have e0 : (0 : Int) + ((3 : Nat) : Int) * 1 = 3 := by decide
      rw [e0] at F5
      have hlt := textTo_length mode 3
      try k_fold
      w_strict k_steps
      rename Fr _ _ _ _ => F6
      rename News _ _ _ _ => N6
      exact text_end F6 N6 (sgn_no fun x => absurd x.1 (by decide)) (by intro z a b c; simp [a, b, c]) (by intro p hp; simp [hp]) (by intro p hp; simp [hp])
    · have e0 : (0 : Int) + ((4 : Nat) : Int) * 1 = 4 := by decide
      rw [e0] at F5
      have hlt := textTo_length mode 4
      try k_fold
      w_strict k_steps
      rename Fr _ _ _ _ => F6
      rename News _ _ _ _ => N6
      exact text_end F6 N6 (sgn_no fun x => absurd x.1 (by decide)) (by intro z a b c; simp [a, b, c]) (by intro p hp; simp [hp]) (by intro p hp; simp [hp])
    · have e0 : (0 : Int) + ((5 : Nat) : Int) * 1 = 5 := by decide
      rw [e0] at F5
      have hlt := textTo_length mode 5
      try k_fold
      w_strict k_steps
      · rename (Int.fmod _ 2 = 1) => hcond
        rename Fr _ _ _ _ => F6
        rename News _ _ _ _ => N6
        exact text_end F6 N6 (sgn_yes rfl hcond) (by intro z a b c; simp [a, b, c]) (by intro p hp; simp [hp]) (by intro p hp; simp [hp])
      · rename (Int.fmod _ 2 ≠ 1) => hcond
        rename Fr _ _ _ _ => F6
        rename News _ _ _ _ => N6
        exact text_end F6 N6 (sgn_no fun x => hcond x.2) (by intro z a b c; simp [a, b, c]) (by intro p hp; simp [hp]) (by intro p hp; simp [hp])
    · have e0 : (0 : Int) + ((6 : Nat) : Int) * 1 = 6 := by decide
      rw [e0] at F5
      have hlt := textTo_length mode 6
      try k_fold
      w_strict k_steps
      rename Fr _ _ _ _ => F6
      rename News _ _ _ _ => N6
      exact text_end F6 N6 (sgn_no fun x => absurd x.1 (by decide)) (by intro z a b c; simp [a, b, c]) (by intro p hp; simp [hp]) (by intro p hp; simp [hp])
    · have e0 : (0 : Int) + ((7 : Nat) : Int) * 1 = 7 := by decide
      rw [e0] at F5
      have hlt := textTo_length mode 7
      try k_fold
      w_strict k_steps
      rename Fr _ _ _ _ => F6
      rename News _ _ _ _ => N6
      exact text_end F6 N6 (sgn_no fun x => absurd x.1 (by decide)) (by intro z a b c; simp [a, b, c]) (by intro p hp; simp [hp]) (by intro p hp; simp [hp])
    · have e0 : (0 : Int) + ((8 : Nat) : Int) * 1 = 8 := by decide
      rw [e0] at F5
      have hlt := textTo_length mode 8
      try k_fold
      w_strict k_steps
      · rename (Int.fmod _ 2 = 1) => hcond
        rename Fr _ _ _ _ => F6
        rename News _ _ _ _ => N6
        exact text_end F6 N6 (sgn_yes rfl hcond) (by intro z a b c; simp [a, b, c]) (by intro p hp; simp [hp]) (by intro p hp; simp [hp])
      · rename (Int.fmod _ 2 ≠ 1) => hcond
        rename Fr _ _ _ _ => F6
        rename News _ _ _ _ => N6
        exact text_end F6 N6 (sgn_no fun x => hcond x.2) (by intro z a b c; simp [a, b, c]) (by intro p hp; simp [hp]) (by intro p hp; simp [hp])
  · intro c u h tk hc F5 N5
    obtain ⟨tt, u, i2⟩ := c
    have hc : i2 = 9 := hc
    subst hc
    unfold textM at F5
    dsimp only at F5 N5
    clear R1 F3 N2
    try k_fold
    w_strict k_steps
    exact hret _ news _ _ ⟨_, rfl, rfl⟩ (by assumption) (by assumption)
end
end Mine
end PartText

section PartEnum
open PySem PySem.W PyProof.Rows PySem.Calls
set_option maxRecDepth 100000
set_option maxHeartbeats 2000000
namespace Mine
section
variable {prog : Program} {w : World} {A : Around} {E : Value → Shared → Prop} {s : Shared}
theorem stop_raised {it : Addr} {Q : Value → Shared → Prop} (hh : A.handled = none) {h₁ : Heap} (hx : Heap.ExtBut it s.heap h₁)
    (hE : ∀ h' e, Heap.ExtBut it s.heap h' → (∃ o, h'.get? e = some o ∧ o.cls = .type "StopIteration") → E (.ref e) { s with heap := h' }) :
    wpAny (model prog w) A (newExc (.type "StopIteration") [] >>= fun e => raiseNew e) Q E { s with heap := h₁ } := by
  refine wpAny_bind ?_
  simp only [newExc, newTuple]
  refine wpAny_bind (wpAny_newObj_type ?_ (by size_fits))
  refine wpAny_bind (m := firstArgMember _ _) (wpAny_of_eq (a := Value.none) (by first | rfl | (simp only [firstArgMember]; rfl)) ?_)
  refine wpAny_newObj_type ?_ (by size_fits)
  simp only [raiseNew]
  refine wpAny_bind (wpAny_handled ?_)
  rw [hh]
  refine wpAny_bind (wpAny_pure (wpAny_throw ?_))
  exact hE _ _ ((hx.push _).push _) ⟨_, Heap.get?_push_size _ rfl, rfl⟩

theorem nextOf_bytes_item {it : Addr} {b : Array UInt8} {t : Tok} {i : Nat} {c : UInt8} {Q : Value → Shared → Prop} (hit : KBw.IsBytesIter s.heap it b t i) (hx : b[i]? = some c)
    (hQ : ∀ h', KBw.IsBytesIter h' it b t (i + 1) → Heap.SameBut it s.heap h' → Q (.int (c.toNat : Int) s.toks) { s with heap := h', toks := s.toks + 1 }) : wpAny (model prog w) A (Builtin.SmallTypes.nextOf (.ref it)) Q E s := by
  obtain ⟨o, ho, hc, hd⟩ := id hit
  unfold Builtin.SmallTypes.nextOf
  refine wpAny_bind (wpAny_callSpecial?_slot (name := Str.ofString "__next__") (KBw.iter_typeIs hit) KBw.slot_next (wpAny_call_entry KBw.slot_next (KBw.iter_typeIs hit) KBw.entry_next ?_ (KBw.args_next _)))
  show wpAny _ _ (field (.ref it) 0 >>= _) _ _ s
  refine wpAny_bind (wpAny_field ho hd (x := .bytes b t) rfl ?_)
  show wpAny _ _ (if (Value.bytes b t == Value.none) = true then _ else _) _ _ s
  rw [if_neg (show ¬ ((Value.bytes b t == Value.none) = true) from Bool.false_ne_true)]
  show wpAny _ _ (field (.ref it) 1 >>= _) _ _ s
  refine wpAny_bind (wpAny_field ho hd (x := .int i 0) rfl ?_)
  refine wpAny_bind (wpAny_of_eq (a := b) rfl ?_)
  simp only [Int.toNat_natCast, hx]
  refine wpAny_bind (wpAny_setField ho hd (by simp) (wpAny_bind (wpAny_mkInt (wpAny_pure ⟨_, rfl, wpAny_pure (hQ _ ?_ (Heap.SameBut.update ..))⟩))))
  exact ⟨_, Heap.get?_update_self _ ho (Obj.isFreed_of_fields (Obj.data_mapFields hd _)), (Obj.cls_mapFields ..).trans hc, by
    rw [Obj.data_mapFields hd]; simp [rawInt]⟩
theorem nextOf_bytes_end {it : Addr} {b : Array UInt8} {t : Tok} {i : Nat} {Q : Value → Shared → Prop} (hh : A.handled = none) (hit : KBw.IsBytesIter s.heap it b t i) (hx : b[i]? = none)
    (hE : ∀ h' e, Heap.ExtBut it s.heap h' → (∃ o, h'.get? e = some o ∧ o.cls = .type "StopIteration") → E (.ref e) { s with heap := h' }) : wpAny (model prog w) A (Builtin.SmallTypes.nextOf (.ref it)) Q E s := by
  obtain ⟨o, ho, hc, hd⟩ := id hit
  unfold Builtin.SmallTypes.nextOf
  refine wpAny_bind (wpAny_callSpecial?_slot (name := Str.ofString "__next__") (KBw.iter_typeIs hit) KBw.slot_next (wpAny_call_entry KBw.slot_next (KBw.iter_typeIs hit) KBw.entry_next ?_ (KBw.args_next _)))
  show wpAny _ _ (field (.ref it) 0 >>= _) _ _ s
  refine wpAny_bind (wpAny_field ho hd (x := .bytes b t) rfl ?_)
  show wpAny _ _ (if (Value.bytes b t == Value.none) = true then _ else _) _ _ s
  rw [if_neg (show ¬ ((Value.bytes b t == Value.none) = true) from Bool.false_ne_true)]
  show wpAny _ _ (field (.ref it) 1 >>= _) _ _ s
  refine wpAny_bind (wpAny_field ho hd (x := .int i 0) rfl ?_)
  refine wpAny_bind (wpAny_of_eq (a := b) rfl ?_)
  simp only [Int.toNat_natCast, hx]
  refine wpAny_bind (wpAny_rule (wpAny_bind (wpAny_setField ho hd (by simp) ?_)))
  show wpAny _ _ (newExc (.type "StopIteration") [] >>= _) _ _ _
  refine wpAny_bind ?_
  simp only [newExc, newTuple]
  refine wpAny_bind (wpAny_newObj_type ?_ (by size_fits))
  refine wpAny_bind (m := firstArgMember _ _) (wpAny_of_eq (a := Value.none) (by first | rfl | (simp only [firstArgMember]; rfl)) ?_)
  refine wpAny_newObj_type ?_ (by size_fits)
  simp only [raiseNew]
  refine wpAny_bind (wpAny_handled ?_)
  rw [show A.in1.handled = none from hh]
  refine wpAny_bind (wpAny_pure (wpAny_throw ?_))
  exact hE _ _ (((Heap.SameBut.update ..).extBut.push _).push _) ⟨_, Heap.get?_push_size _ rfl, rfl⟩
theorem nextOf_tuple_item {it t : Addr} {i : Nat} {items : Array Value} {x : Value} {Q : Value → Shared → Prop} (hit : s.heap.IsTupleIter it t i) (ht : s.heap.IsTuple t items) (hx : items[i]? = some x)
    (hQ : ∀ h', h'.IsTupleIter it t (i + 1) → Heap.SameBut it s.heap h' → Q x { s with heap := h' }) : wpAny (model prog w) A (Builtin.SmallTypes.nextOf (.ref it)) Q E s := by
  obtain ⟨o, ho, hc, hd⟩ := id hit
  obtain ⟨ol, hol, _, nl, hdl⟩ := ht
  unfold Builtin.SmallTypes.nextOf
  refine wpAny_bind (wpAny_callSpecial?_slot (name := Str.ofString "__next__") hit.typeIs F.slot_tuple_iterator_next (wpAny_call_entry F.slot_tuple_iterator_next hit.typeIs F.entry_tuple_iterator_next ?_ (F.args_tuple_iterator_next_1 _)))
  show wpAny _ _ (field (.ref it) 0 >>= _) _ _ s
  refine wpAny_bind (wpAny_field ho hd (x := .ref t) rfl ?_)
  show wpAny _ _ (if (Value.ref t == Value.none) = true then _ else _) _ _ s
  rw [if_neg (show ¬ ((Value.ref t == Value.none) = true) from Bool.false_ne_true)]
  show wpAny _ _ (field (.ref it) 1 >>= _) _ _ s
  refine wpAny_bind (wpAny_field ho hd (x := .int i 0) rfl ?_)
  show wpAny _ _ (seqItems? (.ref t) >>= _) _ _ s
  refine wpAny_bind (wpAny_seqItems hol hdl ?_)
  simp only [Int.toNat_natCast, hx]
  refine wpAny_bind (wpAny_setField ho hd (by simp) (wpAny_pure ⟨x, rfl, wpAny_pure (hQ _ ?_ (Heap.SameBut.update ..))⟩))
  exact ⟨_, Heap.get?_update_self _ ho (Obj.isFreed_of_fields (Obj.data_mapFields hd _)), (Obj.cls_mapFields ..).trans hc, by
    rw [Obj.data_mapFields hd]; simp [rawInt]⟩
theorem nextOf_tuple_end {it t : Addr} {i : Nat} {items : Array Value} {Q : Value → Shared → Prop} (hh : A.handled = none) (hit : s.heap.IsTupleIter it t i) (ht : s.heap.IsTuple t items) (hx : items[i]? = none)
    (hE : ∀ h' e, Heap.ExtBut it s.heap h' → (∃ o, h'.get? e = some o ∧ o.cls = .type "StopIteration") → E (.ref e) { s with heap := h' }) : wpAny (model prog w) A (Builtin.SmallTypes.nextOf (.ref it)) Q E s := by
  obtain ⟨o, ho, hc, hd⟩ := id hit
  obtain ⟨ol, hol, _, nl, hdl⟩ := ht
  unfold Builtin.SmallTypes.nextOf
  refine wpAny_bind (wpAny_callSpecial?_slot (name := Str.ofString "__next__") hit.typeIs F.slot_tuple_iterator_next (wpAny_call_entry F.slot_tuple_iterator_next hit.typeIs F.entry_tuple_iterator_next ?_ (F.args_tuple_iterator_next_1 _)))
  show wpAny _ _ (field (.ref it) 0 >>= _) _ _ s
  refine wpAny_bind (wpAny_field ho hd (x := .ref t) rfl ?_)
  show wpAny _ _ (if (Value.ref t == Value.none) = true then _ else _) _ _ s
  rw [if_neg (show ¬ ((Value.ref t == Value.none) = true) from Bool.false_ne_true)]
  show wpAny _ _ (field (.ref it) 1 >>= _) _ _ s
  refine wpAny_bind (wpAny_field ho hd (x := .int i 0) rfl ?_)
  show wpAny _ _ (seqItems? (.ref t) >>= _) _ _ s
  refine wpAny_bind (wpAny_seqItems hol hdl ?_)
  simp only [Int.toNat_natCast, hx]
  refine wpAny_bind (wpAny_rule (wpAny_bind (wpAny_setField ho hd (by simp) ?_)))
  show wpAny _ _ (newExc (.type "StopIteration") [] >>= _) _ _ _
  refine wpAny_bind ?_
  simp only [newExc, newTuple]
  refine wpAny_bind (wpAny_newObj_type ?_ (by size_fits))
  refine wpAny_bind (m := firstArgMember _ _) (wpAny_of_eq (a := Value.none) (by first | rfl | (simp only [firstArgMember]; rfl)) ?_)
  refine wpAny_newObj_type ?_ (by size_fits)
  simp only [raiseNew]
  refine wpAny_bind (wpAny_handled ?_)
  rw [show A.in1.handled = none from hh]
  refine wpAny_bind (wpAny_pure (wpAny_throw ?_))
  exact hE _ _ (((Heap.SameBut.update ..).extBut.push _).push _) ⟨_, Heap.get?_push_size _ rfl, rfl⟩
end
theorem draws_bytes {prog : Program} {w : World} {A : Around} (hh : A.handled = none) (it : Addr) (b : Array UInt8) (t : Tok) :
    Draws prog w A it [it] b.size (fun i v => ∃ c u, b[i]? = some c ∧ v = .int (c.toNat : Int) u) (fun i h => KBw.IsBytesIter h it b t i) where
  live := fun _ _ st => let ⟨o, ho, _⟩ := st; ⟨o, ho⟩
  frame := fun _ _ _ st hk => let ⟨o, ho, r⟩ := st; ⟨o, hk it (by simp) o ho, r⟩
  item := fun i s Q E hi st hQ => by
    refine nextOf_bytes_item st (c := b[i]) (by simp [hi]) fun h' hit' hs' => ?_
    exact hQ _ h' (s.toks + 1) ⟨_, _, by simp [hi], rfl⟩ hit' hs'
  done := fun s Q E st hE => nextOf_bytes_end hh st (by simp) hE
theorem draws_tuple {prog : Program} {w : World} {A : Around} (hh : A.handled = none) (it l : Addr) (hne : l ≠ it) (items : Array Value) :
    Draws prog w A it [it, l] items.size (fun i v => items[i]? = some v) (fun i h => h.IsTupleIter it l i ∧ h.IsTuple l items) where
  live := fun _ _ st => let ⟨o, ho, _⟩ := st.1; ⟨o, ho⟩
  frame := fun _ _ _ st hk => ⟨st.1.at fun o e => hk it (by simp) o e, st.2.at fun o e => hk l (by simp) o e⟩
  item := fun i s Q E hi st hQ => by
    refine nextOf_tuple_item st.1 st.2 (x := items[i]) (by simp [hi]) fun h' hit' hs' => ?_
    exact hQ _ h' s.toks (by simp [hi]) ⟨hit', st.2.extBut hs'.extBut hne⟩ hs'
  done := fun s Q E st hE => nextOf_tuple_end hh st.1 st.2 (by simp) hE

theorem meets_enum_bytes (b : Array UInt8) (t : Tok) :
    Meets (Builtin.«enumerate.__new__» ⟨[.type "enumerate", .bytes b t], []⟩) (fun _ R s =>
      R (.ok (.ret (.ref (s.heap.push { cls := .type "bytes_iterator", data := .fields #[.bytes b t, .int 0 0] }).objs.size)))
        { s with heap := (s.heap.push { cls := .type "bytes_iterator", data := .fields #[.bytes b t, .int 0 0] }).push { cls := .type "enumerate", data := .fields #[.none, .bool false, .ref s.heap.objs.size, rawInt 0, .none, .none] } }) :=
  .of_wp fun prog w A R s h => by
    obtain ⟨hp, g, d, tk, os⟩ := s
    have hsub := sub_enumerate
    wp_walk
    refine wpAny_stack_any fun st => wpAny_pure ?_
    split
    · rename_i c _ _ _ _ _
      cases (c == Value.type "enumerate")
      · wp_walk using KBw.pyIter_bytes
        exact ⟨_, rfl, h⟩
      · wp_walk using KBw.pyIter_bytes
        exact ⟨_, rfl, h⟩
    · wp_walk using KBw.pyIter_bytes
      exact ⟨_, rfl, h⟩
open AutoSeq1 (wpAny_loadPart') in
theorem meets_enum_tuple (l : Addr) (items : Array Value) (n : Nat) (dct : Option Addr) (sl : Array (Option Value)) :
    Meets (Builtin.«enumerate.__new__» ⟨[.type "enumerate", .ref l], []⟩) (fun _ R s => s.heap.get? l = some { cls := .type "tuple", dict := dct, data := .seq items n, slots := sl } ∧
      R (.ok (.ret (.ref (s.heap.push { cls := .type "tuple_iterator", data := .fields #[.ref l, .int 0 0] }).objs.size)))
        { s with heap := (s.heap.push { cls := .type "tuple_iterator", data := .fields #[.ref l, .int 0 0] }).push { cls := .type "enumerate", data := .fields #[.none, .bool false, .ref s.heap.objs.size, rawInt 0, .none, .none] } }) :=
  .of_wp fun prog w A R s h => by
    obtain ⟨hp, g, d, tk, os⟩ := s; obtain ⟨hl, h⟩ := h
    have hsub := sub_enumerate
    have hL : Heap.IsTuple (Shared.heap ⟨hp, g, d, tk, os⟩) l items := ⟨_, hl, rfl, n, rfl⟩
    wp_walk using wpAny_loadPart' hl
    refine wpAny_stack_any fun st => wpAny_pure ?_
    split
    · rename_i c _ _ _ _ _
      cases (c == Value.type "enumerate")
      · wp_walk using wpAny_loadPart' hl, wpAny_pyIter_tuple hL
        exact ⟨_, rfl, h⟩
      · wp_walk using wpAny_loadPart' hl, wpAny_pyIter_tuple hL
        exact ⟨_, rfl, h⟩
    · wp_walk using wpAny_loadPart' hl, wpAny_pyIter_tuple hL
      exact ⟨_, rfl, h⟩
section
variable {prog : Program} {w : World} {A : Around} {E : Value → Shared → Prop} {s : Shared}
abbrev enumObj (it : Addr) : Obj := { cls := .type "enumerate", data := .fields #[.none, .bool false, .ref it, rawInt 0, .none, .none] }
theorem call_enum_bytes {b : Array UInt8} {t : Tok} {Q : Value → Shared → Prop}
    (h : ∀ h', IsEnum h' (s.heap.objs.size + 1) s.heap.objs.size 0 .none → KBw.IsBytesIter h' s.heap.objs.size b t 0 → h'.objs.size = s.heap.objs.size + 2 →
      (∀ b o, s.heap.get? b = some o → h'.get? b = some o) → Q (.ref (s.heap.objs.size + 1)) { s with heap := h' }) : wpAny (model prog w) A (call (.type "enumerate") [.bytes b t]) Q E s := by
  refine callType_new F.called_enumerate (by decide) (F.typeCall_enumerate_1 _) (F.newCall_enumerate_1 _) (fun obj => F.args_object_init_2 obj _) F.entry_enumerate_new (meets_enum_bytes b t) ?_
  have hz : (s.heap.push { cls := .type "bytes_iterator", data := .fields #[.bytes b t, .int 0 0] }).objs.size = s.heap.objs.size + 1 := Heap.size_push ..
  show _ ∧ _
  rw [hz]
  have he : IsEnum ((s.heap.push { cls := .type "bytes_iterator", data := .fields #[.bytes b t, .int 0 0] }).push (enumObj s.heap.objs.size)) (s.heap.objs.size + 1) s.heap.objs.size 0 .none := by
    have := Heap.get?_push_size (s.heap.push { cls := .type "bytes_iterator", data := .fields #[.bytes b t, .int 0 0] }) (o := enumObj s.heap.objs.size) rfl
    rw [hz] at this; exact this
  exact ⟨⟨_, he, rfl⟩, h _ he ⟨_, Heap.get?_push_of_some _ (Heap.get?_push_size _ rfl), rfl, rfl⟩ (by rw [Heap.size_push, hz]) fun b o y => Heap.get?_push_of_some _ (Heap.get?_push_of_some _ y)⟩
theorem call_enum_tuple {l : Addr} {items : Array Value} {Q : Value → Shared → Prop} (hL : s.heap.IsTuple l items)
    (h : ∀ h', IsEnum h' (s.heap.objs.size + 1) s.heap.objs.size 0 .none → h'.IsTupleIter s.heap.objs.size l 0 → h'.objs.size = s.heap.objs.size + 2 →
      (∀ b o, s.heap.get? b = some o → h'.get? b = some o) → Q (.ref (s.heap.objs.size + 1)) { s with heap := h' }) : wpAny (model prog w) A (call (.type "enumerate") [.ref l]) Q E s := by
  obtain ⟨⟨c, dct, dt, sl⟩, hl, hc, n, hd⟩ := hL
  replace hc : c = .type "tuple" := hc
  replace hd : dt = .seq items n := hd
  subst hc hd
  refine callType_new F.called_enumerate (by decide) (F.typeCall_enumerate_1 _) (F.newCall_enumerate_1 _) (fun obj => F.args_object_init_2 obj _) F.entry_enumerate_new (meets_enum_tuple l items n dct sl) ⟨hl, ?_⟩
  have hz : (s.heap.push { cls := .type "tuple_iterator", data := .fields #[.ref l, .int 0 0] }).objs.size = s.heap.objs.size + 1 := Heap.size_push ..
  show _ ∧ _
  rw [hz]
  have he : IsEnum ((s.heap.push { cls := .type "tuple_iterator", data := .fields #[.ref l, .int 0 0] }).push (enumObj s.heap.objs.size)) (s.heap.objs.size + 1) s.heap.objs.size 0 .none := by
    have := Heap.get?_push_size (s.heap.push { cls := .type "tuple_iterator", data := .fields #[.ref l, .int 0 0] }) (o := enumObj s.heap.objs.size) rfl
    rw [hz] at this; exact this
  exact ⟨⟨_, he, rfl⟩, h _ he ⟨_, Heap.get?_push_of_some _ (Heap.get?_push_size _ rfl), rfl, rfl⟩ (by rw [Heap.size_push, hz]) fun b o y => Heap.get?_push_of_some _ (Heap.get?_push_of_some _ y)⟩
end
end Mine
end PartEnum

section PartForE
open PySem PySem.W PyProof.Rows PySem.Calls
set_option maxRecDepth 100000
set_option maxHeartbeats 2000000
namespace Mine
/-- between the turns of a loop with two names -/
def Stt2 {σ : Type} (Led : σ → List (Addr × Obj)) (M : σ → Str → Option Value) (xi xc : Str) (J : σ → Prop) (m : Str → Option Value) (nx : List (Addr × Obj)) : Prop :=
  ∃ c, nx = Led c ∧ (∀ z, z ≠ xi → z ≠ xc → m z = M c z) ∧ J c
def ForE (prog : Program) (w : World) (A : Around) (xi xc : Str) (pk pv pt : Pos) (x1 : Nat) (body orelse : List Stmt) (env : Env) (Q : Flow → Shared → Prop) (E : Value → Shared → Prop) (it : Value) (s₂ : Shared) : Prop :=
  codeAny (model prog w) A (.forLoop (.Tuple [.Name xi pk, .Name xc pv] x1 pt) it body orelse env) (fun r s' => match r with | .ok f => Q f s' | .error e => cameBackBy (model prog w) A env E e s') s₂
section
variable {prog : Program} {w : World} {A : Around} {E : Value → Shared → Prop} {s : Shared} {env : Env} {h₀ : Heap} {xi xc : Str} {body orelse : List Stmt} {Q : Flow → Shared → Prop} {pk pv pt : Pos} {x1 : Nat}
theorem For_E {iter : Expr} {pos : Pos} (h : wpAny (model prog w) A (eval iter env) (fun x s₁ => wpAny (model prog w) A (pyIter x) (fun it s₂ => ForE prog w A xi xc pk pv pt x1 body orelse env Q E it s₂) E s₁) E s)
    (hs : ∀ x, foldedSetIterable iter env x = pure x := by intro _; rfl) :
    wpAny (model prog w) A (exec (.For (.Tuple [.Name xi pk, .Name xc pv] x1 pt) iter body orelse pos) env) Q E s := wpAny_For h hs
theorem map_eq2 {m₁ m₂ : Str → Option Value} {v u : Option Value} (h : ∀ z, z ≠ xi → z ≠ xc → m₁ z = m₂ z) : (fun y => if y = xc then v else if y = xi then u else m₁ y) = fun y => if y = xc then v else if y = xi then u else m₂ y := by
  funext y
  by_cases hy : y = xc
  · rw [if_pos hy, if_pos hy]
  · rw [if_neg hy, if_neg hy]
    by_cases hz : y = xi
    · rw [if_pos hz, if_pos hz]
    · rw [if_neg hz, if_neg hz]; exact h y hz hy
theorem map_out2 {m₁ m₂ : Str → Option Value} (h : ∀ z, z ≠ xi → z ≠ xc → m₁ z = m₂ z) : (fun y => if y = xc then m₁ xc else if y = xi then m₁ xi else m₂ y) = m₁ := by
  funext y
  by_cases hy : y = xc
  · rw [if_pos hy, hy]
  · rw [if_neg hy]
    by_cases hz : y = xi
    · rw [if_pos hz, hz]
    · rw [if_neg hz]; exact (h y hz hy).symm
theorem forE_st {σ : Type} {I : Addr} {fp wr : List Addr} {n : Nat} {Pt : Nat → Array Value → Prop} {St : Nat → Heap → Prop} {Mid : Nat → Addr → Heap → Prop} {P2 : Nat → Value → Value → Prop} {m₀ : Str → Option Value}
    (Led : σ → List (Addr × Obj)) (M : σ → Str → Option Value) (J : Nat → σ → Prop) (c₀ : σ) (hh : A.handled = none) (W : WalksU prog w A I fp wr n Pt St Mid) (h2 : ∀ i vals, Pt i vals → ∃ v0 v1, vals = #[v0, v1] ∧ P2 i v0 v1)
    (hxi : env.kindOf xi = some .local) (hxc : env.kindOf xc = some .local)
    (hp : (env.scope.kind == .class || (env.scope.kind == .module && env.locals != env.globals)) = false)
    (hLf : env.locals ∉ fp) (hwr : ∀ b ∈ wr, h₀.get? b = none) (hnw : ∀ p ∈ Led c₀, p.1 ∉ wr) (hfp : ∀ q ∈ Led c₀, q.1 ∉ fp)
    (hst : St 0 s.heap) (F : Fr h₀ env.locals s.heap m₀) (N : News h₀ env.locals s.heap (Led c₀)) (hm : ∀ z, z ≠ xi → z ≠ xc → m₀ z = M c₀ z) (hj : J 0 c₀)
    (turn : ∀ i v0 v1 c h tk own, i < n → P2 i v0 v1 → OwnOff own ((Led c₀).map (·.1)) → (Led c).map (·.1) = (Led c₀).map (·.1) → J i c → Fr h₀ env.locals h (fun y => if y = xc then some v1 else if y = xi then some v0 else M c y) → News h₀ env.locals h (Led c ++ own) →
      wpAny (model prog w) A (execs body env) (InvPostN h₀ env.locals (Stt2 Led M xi xc (J (i + 1))) own ((Led c₀).map (·.1)) { s with heap := h, toks := tk } Q) E { s with heap := h, toks := tk })
    (done : ∀ (c : σ) (u v : Option Value) (h : Heap) (tk : Nat), J n c → Fr h₀ env.locals h (fun y => if y = xc then u else if y = xi then v else M c y) → News h₀ env.locals h (Led c) → wpAny (model prog w) A (execs orelse env) Q E { s with heap := h, toks := tk })
    (hE : PassesOwn (model prog w) A env E := by passes_own) :
    ForE prog w A xi xc pk pv pt x1 body orelse env Q E (.ref I) s := by
  unfold ForE
  have hLw : env.locals ∉ wr := fun h => hLf (W.sub _ h)
  have old : ∀ b o, h₀.get? b = some o → b ∉ wr := fun b o e hb => by rw [hwr b hb] at e; cases e
  have hnw' : ∀ news' : List (Addr × Obj), news'.map (·.1) = (Led c₀).map (·.1) → ∀ p ∈ news', p.1 ∉ wr := fun news' ha p hp => by
    have : p.1 ∈ (Led c₀).map (·.1) := ha ▸ List.mem_map.mpr ⟨p, hp, rfl⟩
    obtain ⟨q, hq, e⟩ := List.mem_map.mp this
    exact e ▸ hnw q hq
  refine codeAny_forLoop_any
    (fun k s' => ∃ h' tk m' c i, s' = { s with heap := h', toks := tk } ∧ St i h' ∧ Fr h₀ env.locals h' m' ∧ News h₀ env.locals h' (Led c) ∧ (Led c).map (·.1) = (Led c₀).map (·.1) ∧ (∀ z, z ≠ xi → z ≠ xc → m' z = M c z) ∧ J i c ∧ i ≤ n ∧ k = n + 1 - i) ?_ (n + 1)
    ⟨s.heap, s.toks, m₀, c₀, 0, rfl, hst, F, N, rfl, hm, hj, Nat.zero_le _, rfl⟩
  rintro k s' ⟨H, tk, m', c, i, rfl, hst', F', N', ha', hm', hJ, hi, rfl⟩
  have next : ∀ h₁ : Heap, (∀ b o, b ∉ wr → H.get? b = some o → h₁.get? b = some o) → Fr h₀ env.locals h₁ m' ∧ News h₀ env.locals h₁ (Led c) := fun h₁ hk₁ =>
    ⟨⟨F'.ns.at' fun o e => hk₁ _ o hLw e, fun b o e => hk₁ b o (old b o e) (F'.keep b o e), F'.above⟩, fun p hp => ⟨hk₁ _ _ (hnw' _ ha' p hp) (N' p hp).1, (N' p hp).2⟩⟩
  by_cases hlt : i < n
  · refine W.item i _ _ _ hlt hst' fun T vals h₁ tk₁ hPt hT hMid hk₁ => ?_
    obtain ⟨v0, v1, rfl, hP2⟩ := h2 i vals hPt
    refine W.go _ x1 pt i T _ _ _ hMid fun h₂ hst₂ hk₂ => ?_
    have ht₂ : h₂.IsTuple T #[v0, v1] := hT.at fun o e => hk₂ T o (W.apart i T h₁ hMid) e
    refine wpAny_assign_Tuple hh ht₂ rfl rfl fun h₃ hx₃ => ?_
    replace hx₃ : Heap.ExtBut h₂.objs.size h₂ h₃ := hx₃
    have up₃ : ∀ b o, h₂.get? b = some o → h₃.get? b = some o := fun b o x => hx₃ b o (Nat.ne_of_lt (Heap.lt_size x)) x
    obtain ⟨F₃, N₃⟩ := next h₃ fun b o hb x => up₃ b o (hk₂ b o hb (hk₁ b o hb x))
    show wpAny _ A (do holding [v1] (assign (.Name xi pk) env v0); do holding [] (assign (.Name xc pv) env v1); pure ()) _ _ _
    refine wpAny_bind (wpAny_holding (wpAny_assign_Name (wpAny_storeName_local hxi F₃.ns (fun h₄ hn₄ hs₄ => ?_) hp)))
    replace hs₄ : Heap.SameBut env.locals h₃ h₄ := hs₄
    have F₄ := F₃.set hn₄ hs₄
    refine wpAny_bind (wpAny_holding (wpAny_assign_Name (wpAny_storeName_local hxc F₄.ns (fun h₅ hn₅ hs₅ => wpAny_pure ?_) hp)))
    replace hs₅ : Heap.SameBut env.locals h₄ h₅ := hs₅
    have F₅ := F₄.set hn₅ hs₅
    have N₅ : News h₀ env.locals h₅ (Led c) := (N₃.set hs₄).set hs₅
    have hst₅ : St (i + 1) h₅ := W.frame _ _ _ hst₂ fun b hb o e => hs₅.extBut b o (fun q => hLf (q ▸ hb)) (hs₄.extBut b o (fun q => hLf (q ▸ hb)) (up₃ b o e))
    rw [map_eq2 hm'] at F₅
    have hown : ∀ p ∈ PyProof.Rows.ownOf h₀ fp h₅, p.1 ∈ fp := ownOf_sub
    have hoff : OwnOff (PyProof.Rows.ownOf h₀ fp h₅) ((Led c₀).map (·.1)) := by
      intro p hp b hb e
      obtain ⟨q, hq, rfl⟩ := List.mem_map.mp hb
      exact hfp q hq (e ▸ hown p hp)
    refine wpAny_mono (wpAny_passesOwn hE (turn i v0 v1 c _ _ (PyProof.Rows.ownOf h₀ fp h₅) hlt hP2 hoff ha' hJ F₅ (N₅.append (news_ownOf hLf)))) (fun f s₃ h₆ => ?_) fun _ _ e => e
    have fin : InvEndN h₀ env.locals (Stt2 Led M xi xc (J (i + 1))) (PyProof.Rows.ownOf h₀ fp h₅) ((Led c₀).map (·.1)) { s with heap := h₅, toks := tk₁ } s₃ →
        ∃ k', k' < n + 1 - i ∧ ∃ h' tk m' c i', s₃ = { s with heap := h', toks := tk } ∧ St i' h' ∧ Fr h₀ env.locals h' m' ∧ News h₀ env.locals h' (Led c) ∧ (Led c).map (·.1) = (Led c₀).map (·.1) ∧ (∀ z, z ≠ xi → z ≠ xc → m' z = M c z) ∧ J i' c ∧ i' ≤ n ∧ k' = n + 1 - i' := by
      rintro ⟨h₆', tk₆, m₂, news', nx, e6, F₆, N₆, hn6, ho6, ha6, ⟨c', rfl, hm6, hj6⟩⟩
      refine ⟨n + 1 - (i + 1), by omega, h₆', tk₆, m₂, c', i + 1, e6, ?_, F₆, fun p hp => N₆ p (hn6 p hp), ha6, hm6, hj6, hlt, rfl⟩
      refine W.frame _ _ _ hst₅ fun b hb o e => ?_
      cases hn : h₀.get? b with
      | some o₀ =>
        have : o₀ = o := by have q := F₅.keep b o₀ hn; rw [e] at q; exact (Option.some.inj q).symm
        exact this ▸ F₆.keep b o₀ hn
      | none => exact (N₆ _ (ho6 _ (mem_ownOf hb hn e))).1
    cases f with
    | ret v => exact h₆
    | brk => exact h₆
    | cont => exact fin h₆
    | next => exact fin h₆
  · have hin : i = n := by omega
    subst hin
    refine W.done _ _ _ hst' fun h₁ tk₁ hk₁ => ?_
    obtain ⟨F₁, N₁⟩ := next h₁ hk₁
    rw [← map_out2 hm'] at F₁
    exact wpAny_passesOwn hE (done c _ _ h₁ tk₁ hJ F₁ N₁)

theorem nin2 {n t : Nat} (h : t < n) : n + 1 ∉ [n, t] := by simp; omega
theorem nin3 {n t a : Nat} (h : a < n) (h2 : a ≠ t) : a ∉ [n + 1, n, t] := by simp; omega
theorem nin2' {n a : Nat} (h : a < n) : a ∉ [n + 1, n] := by simp; omega
/-- a row of pairs that lies in the heap -/
def PairsAt (h : Heap) (t : Addr) (Ts : List Addr) (xs : List (Value × Value)) : Prop :=
  h.IsTuple t (Ts.map Value.ref).toArray ∧ Ts.length = xs.length ∧ ∀ (i : Nat) (T : Addr) (p : Value × Value), Ts[i]? = some T → xs[i]? = some p → h.IsTuple T #[p.1, p.2]
theorem PairsAt.up {h h' : Heap} {t : Addr} {Ts : List Addr} {xs : List (Value × Value)} (p : PairsAt h t Ts xs) (hk : ∀ b ∈ t :: Ts, ∀ o, h.get? b = some o → h'.get? b = some o) : PairsAt h' t Ts xs :=
  ⟨p.1.at fun o e => hk t (by simp) o e, p.2.1, fun i T q h1 h2 => (p.2.2 i T q h1 h2).at fun o e => hk T (List.mem_cons_of_mem _ (List.mem_of_getElem? h1)) o e⟩
theorem walks_pairs (hh : A.handled = none) (I t : Addr) (Ts : List Addr) (hI : I ∉ t :: Ts) (xs : List (Value × Value)) :
    WalksU prog w A I (I :: t :: Ts) [I] xs.length (fun i vals => ∃ p, xs[i]? = some p ∧ vals = #[p.1, p.2]) (fun i h => h.IsTupleIter I t i ∧ PairsAt h t Ts xs) (fun i T h => (h.IsTupleIter I t (i + 1) ∧ PairsAt h t Ts xs) ∧ T ≠ I) where
  sub := fun b hb => by rw [List.mem_singleton.mp hb]; exact List.mem_cons_self ..
  frame := fun i h h' st hk => ⟨st.1.at fun o e => hk I (by simp) o e, st.2.up fun b hb o e => hk b (List.mem_cons_of_mem _ hb) o e⟩
  item := fun i s Q E hi st hQ => by
    have hne : t ≠ I := fun e => hI (by simp [e])
    have hl : i < Ts.length := by rw [st.2.2.1]; exact hi
    refine wpAny_pyNext_tuple_item st.1 st.2.1 (x := .ref Ts[i]) (by simp [hl]) fun h' hit' hs' => ?_
    have hTI : Ts[i] ≠ I := fun e => hI (by rw [← e]; exact List.mem_cons_of_mem _ (List.getElem_mem hl))
    have hP' : PairsAt h' t Ts xs := st.2.up fun b hb o e => hs'.extBut b o (fun q => hI (q ▸ hb)) e
    exact hQ Ts[i] #[xs[i].1, xs[i].2] h' s.toks ⟨xs[i], by simp [hi], rfl⟩ (hP'.2.2 i _ _ (by simp [hl]) (by simp [hi])) ⟨⟨hit', hP'⟩, hTI⟩ fun b o hb e => hs'.extBut b o (fun h => hb (by simp [h])) e
  go := fun elts k pos i T s Q E hm hQ => letGo_tupleiter hm.1.1 (hQ s.heap hm.1 fun _ _ _ e => e)
  apart := fun i T h hm hT => hm.2 (List.mem_singleton.mp hT)
  done := fun s Q E st hQ => by
    refine wpAny_pyNext_tuple_end hh st.1 st.2.1 (by simp [st.2.2.1]) fun h' he => ?_
    exact hQ h' s.toks fun b o hb e => he b o (fun q => hb (by simp [q])) e
  self := fun i s Q E st hq => wpAny_pyIter_tupleiter st.1 hq

theorem pairs_st {σ : Type} {t : Addr} {Ts : List Addr} {xs : List (Value × Value)} {m₀ : Str → Option Value}
    (Led : σ → List (Addr × Obj)) (M : σ → Str → Option Value) (J : Nat → σ → Prop) (c₀ : σ) (hh : A.handled = none) (hP : PairsAt h₀ t Ts xs)
    (hxi : env.kindOf xi = some .local) (hxc : env.kindOf xc = some .local)
    (hp : (env.scope.kind == .class || (env.scope.kind == .module && env.locals != env.globals)) = false)
    (hLt : env.locals ∉ t :: Ts) (hfp : ∀ q ∈ Led c₀, q.1 ∉ t :: Ts)
    (F : Fr h₀ env.locals s.heap m₀) (N : News h₀ env.locals s.heap (Led c₀)) (hm : ∀ z, z ≠ xi → z ≠ xc → m₀ z = M c₀ z) (hj : J 0 c₀)
    (turn : ∀ i p c h tk own, xs[i]? = some p → OwnOff own ((Led c₀).map (·.1)) → (Led c).map (·.1) = (Led c₀).map (·.1) → J i c → Fr h₀ env.locals h (fun y => if y = xc then some p.2 else if y = xi then some p.1 else M c y) → News h₀ env.locals h (Led c ++ own) →
      wpAny (model prog w) A (execs body env) (InvPostN h₀ env.locals (Stt2 Led M xi xc (J (i + 1))) own ((Led c₀).map (·.1)) { s with heap := h, toks := tk } Q) E { s with heap := h, toks := tk })
    (done : ∀ (c : σ) (u v : Option Value) (h : Heap) (tk : Nat), J xs.length c → Fr h₀ env.locals h (fun y => if y = xc then u else if y = xi then v else M c y) → News h₀ env.locals h (Led c) → wpAny (model prog w) A (execs orelse env) Q E { s with heap := h, toks := tk })
    (hE : PassesOwn (model prog w) A env E := by passes_own) :
    wpAny (model prog w) A (pyIter (.ref t)) (fun it s₂ => ForE prog w A xi xc pk pv pt x1 body orelse env Q E it s₂) E s := by
  have hP' : PairsAt s.heap t Ts xs := hP.up fun b _ o e => F.keep b o e
  refine wpAny_pyIter_tuple hP'.1 ?_
  have old : s.heap.objs.size ∉ t :: Ts := by
    intro hI
    rcases List.mem_cons.mp hI with e | hI
    · obtain ⟨o, ho, _⟩ := hP'.1
      exact absurd (Heap.lt_size ho) (e ▸ Nat.lt_irrefl _)
    · obtain ⟨i, hi, e⟩ := List.getElem_of_mem hI
      obtain ⟨o, ho, _⟩ := hP'.2.2 i Ts[i] (xs[i]'(by rw [← hP'.2.1]; exact hi)) (by simp [hi]) (by simp [← hP'.2.1, hi])
      rw [e] at ho
      exact absurd (Heap.lt_size ho) (Nat.lt_irrefl _)
  refine forE_st Led M J c₀ (P2 := fun i v0 v1 => xs[i]? = some (v0, v1)) hh (walks_pairs hh s.heap.objs.size t Ts old xs) (fun i vals h => ?_) hxi hxc hp ?_ ?_ ?_ ?_ ⟨⟨_, Heap.get?_push_size _ rfl, rfl, rfl⟩, hP'.up fun b _ o e => Heap.get?_push_of_some _ e⟩ (F.push _) (fun p hp => ⟨Heap.get?_push_of_some _ (N p hp).1, (N p hp).2⟩) hm hj ?_ ?_ hE
  · obtain ⟨p, h1, h2⟩ := h
    exact ⟨_, _, h2, h1⟩
  · intro hI
    rcases List.mem_cons.mp hI with e | hI
    · exact absurd F.ns.lt (e ▸ Nat.lt_irrefl _)
    · exact hLt hI
  · intro b hb
    rw [List.mem_singleton.mp hb]
    exact next_is_new F
  · intro p hp hI
    exact absurd (Heap.lt_size (N p hp).1) ((List.mem_singleton.mp hI) ▸ Nat.lt_irrefl _)
  · intro p hp hI
    rcases List.mem_cons.mp hI with e | hI
    · exact absurd (Heap.lt_size (N p hp).1) (e ▸ Nat.lt_irrefl _)
    · exact hfp p hp hI
  · intro i v0 v1 c h tk own _ hx hoff ha hJ F₁ N₁
    exact turn i (v0, v1) c h tk own hx hoff ha hJ F₁ N₁
  · intro c u v h tk hJ F₁ N₁
    exact done c u v h tk hJ F₁ N₁

theorem enumT_st {σ : Type} {t : Addr} {items : Array Value} {m₀ : Str → Option Value}
    (Led : σ → List (Addr × Obj)) (M : σ → Str → Option Value) (J : Nat → σ → Prop) (c₀ : σ) (hh : A.handled = none) (hT : h₀.IsTuple t items)
    (hxi : env.kindOf xi = some .local) (hxc : env.kindOf xc = some .local)
    (hp : (env.scope.kind == .class || (env.scope.kind == .module && env.locals != env.globals)) = false)
    (hLt : env.locals ≠ t) (hfp : ∀ q ∈ Led c₀, q.1 ≠ t)
    (F : Fr h₀ env.locals s.heap m₀) (N : News h₀ env.locals s.heap (Led c₀)) (hm : ∀ z, z ≠ xi → z ≠ xc → m₀ z = M c₀ z) (hj : J 0 c₀)
    (turn : ∀ (i : Nat) (ti : Tok) v c h tk own, items[i]? = some v → OwnOff own ((Led c₀).map (·.1)) → (Led c).map (·.1) = (Led c₀).map (·.1) → J i c → Fr h₀ env.locals h (fun y => if y = xc then some v else if y = xi then some (.int i ti) else M c y) → News h₀ env.locals h (Led c ++ own) →
      wpAny (model prog w) A (execs body env) (InvPostN h₀ env.locals (Stt2 Led M xi xc (J (i + 1))) own ((Led c₀).map (·.1)) { s with heap := h, toks := tk } Q) E { s with heap := h, toks := tk })
    (done : ∀ (c : σ) (u v : Option Value) (h : Heap) (tk : Nat), J items.size c → Fr h₀ env.locals h (fun y => if y = xc then u else if y = xi then v else M c y) → News h₀ env.locals h (Led c) → wpAny (model prog w) A (execs orelse env) Q E { s with heap := h, toks := tk })
    (hE : PassesOwn (model prog w) A env E := by passes_own) :
    wpAny (model prog w) A (call (.type "enumerate") [.ref t]) (fun x s₁ => wpAny (model prog w) A (pyIter x) (fun it s₂ => ForE prog w A xi xc pk pv pt x1 body orelse env Q E it s₂) E s₁) E s := by
  have hT' : s.heap.IsTuple t items := hT.at fun o e => F.keep t o e
  obtain ⟨ot, hot, _⟩ := id hT'
  have htlt : t < s.heap.objs.size := Heap.lt_size hot
  refine call_enum_tuple hT' fun h' he hi hsz hk => ?_
  have W := (WalksT.enumerateD (prog := prog) (w := w) (A := A) (draws_tuple (A := A.in1) hh s.heap.objs.size t (Nat.ne_of_lt htlt) items) (s.heap.objs.size + 1) (Nat.succ_ne_self _) (nin2 htlt) (by simp)).toU
  have Fh : Fr h₀ env.locals h' m₀ := F.keeps hk
  have hst : ∀ i, i = 0 → (∃ old, IsEnum h' (s.heap.objs.size + 1) s.heap.objs.size (i : Nat) old) ∧ (h'.IsTupleIter s.heap.objs.size t i ∧ h'.IsTuple t items) := by
    rintro _ rfl
    exact ⟨⟨_, he⟩, hi, hT'.at fun o e => hk t o e⟩
  refine W.self 0 _ _ _ (hst 0 rfl) ?_
  have nn : ∀ b, s.heap.objs.size ≤ b → h₀.get? b = none := fun b hb => by
    cases e : h₀.get? b with
    | none => rfl
    | some o => exact absurd (Heap.lt_size (F.keep b o e)) (Nat.not_lt.mpr hb)
  refine forE_st (s := { s with heap := h' }) Led M J c₀ (P2 := fun i v0 v1 => ∃ ti, v0 = .int i ti ∧ items[i]? = some v1) hh W (fun i vals h => ?_) hxi hxc hp ?_ ?_ ?_ ?_ (hst 0 rfl) Fh (fun p hp => ⟨hk _ _ (N p hp).1, (N p hp).2⟩) hm hj ?_ ?_ hE
  · obtain ⟨t, x, h1, h2⟩ := h
    exact ⟨_, _, h2, _, rfl, h1⟩
  · exact nin3 (Nat.lt_of_lt_of_le F.ns.lt (Nat.le_refl _)) hLt
  · intro b hb
    rcases List.mem_cons.mp hb with e | hb
    · exact nn _ (e ▸ Nat.le_succ _)
    · exact nn _ ((List.mem_singleton.mp hb) ▸ Nat.le_refl _)
  · intro p hp hI
    exact nin2' (Heap.lt_size (N p hp).1) hI
  · intro p hp hI
    exact nin3 (Heap.lt_size (N p hp).1) (hfp p hp) hI
  · rintro i v0 v1 c h tk own _ ⟨ti, rfl, hx⟩ hoff ha hJ F₁ N₁
    exact turn i ti v1 c h tk own hx hoff ha hJ F₁ N₁
  · intro c u v h tk hJ F₁ N₁
    exact done c u v h tk hJ F₁ N₁
end
end Mine
end PartForE

section PartFile
open PySem PySem.W PyProof.Rows
set_option maxRecDepth 100000
set_option maxHeartbeats 0
namespace Mine
def tabs : List (Addr × List Addr × List (Int × Tok × Str × Tok)) :=
  [(36, [29, 30, 31, 32, 33, 34, 35], [(40960, 219, Str.ofString "l", 247), (49152, 221, Str.ofString "s", 248), (32768, 215, Str.ofString "-", 249), (24576, 213, Str.ofString "b", 250), (16384, 209, Str.ofString "d", 251), (8192, 211, Str.ofString "c", 252), (4096, 217, Str.ofString "p", 253)]),
   (38, [37], [(256, 229, Str.ofString "r", 254)]),
   (40, [39], [(128, 231, Str.ofString "w", 255)]),
   (44, [41, 42, 43], [(2112, 256, Str.ofString "s", 257), (2048, 223, Str.ofString "S", 258), (64, 233, Str.ofString "x", 259)]),
   (46, [45], [(32, 235, Str.ofString "r", 260)]),
   (48, [47], [(16, 237, Str.ofString "w", 261)]),
   (52, [49, 50, 51], [(1032, 262, Str.ofString "s", 263), (1024, 225, Str.ofString "S", 264), (8, 239, Str.ofString "x", 265)]),
   (54, [53], [(4, 241, Str.ofString "r", 266)]),
   (56, [55], [(2, 243, Str.ofString "w", 267)]),
   (60, [57, 58, 59], [(513, 268, Str.ofString "t", 269), (512, 227, Str.ofString "T", 270), (1, 245, Str.ofString "x", 271)])]
def tabVals (ps : List (Int × Tok × Str × Tok)) : List (Value × Value) := ps.map fun p => (.int p.1 p.2.1, .str p.2.2.1 p.2.2.2)
theorem tabs_top {P : Params} {g : Heap} (X : (hd.heap_39 P).In g) : g.IsTuple 61 (tabs.map fun t => Value.ref t.1).toArray := ⟨_, X 61 _ rfl, rfl, _, rfl⟩
inductive AllPairs (h : Heap) : List Addr → List (Value × Value) → Prop
  | nil : AllPairs h [] []
  | cons {T : Addr} {p : Value × Value} {Ts : List Addr} {ps : List (Value × Value)} (a : h.IsTuple T #[p.1, p.2]) (r : AllPairs h Ts ps) : AllPairs h (T :: Ts) (p :: ps)
theorem AllPairs.at {h : Heap} : ∀ {Ts : List Addr} {ps : List (Value × Value)}, AllPairs h Ts ps → Ts.length = ps.length ∧ ∀ (i : Nat) (T : Addr) (p : Value × Value), Ts[i]? = some T → ps[i]? = some p → h.IsTuple T #[p.1, p.2]
  | _, _, .nil => ⟨rfl, fun i T p h => by simp at h⟩
  | _, _, .cons a r => ⟨by simp [r.at.1], fun i T p h1 h2 => by
    cases i with
    | zero => simp at h1 h2; subst h1 h2; exact a
    | succ i => simp at h1 h2; exact r.at.2 i T p h1 h2⟩
theorem tabs_each {P : Params} {g : Heap} (X : (hd.heap_39 P).In g) : ∀ t ∈ tabs, PairsAt g t.1 t.2.1 (tabVals t.2.2) := by
  intro t ht
  simp only [tabs, List.mem_cons, List.not_mem_nil, or_false] at ht
  rcases ht with rfl | rfl | rfl | rfl | rfl | rfl | rfl | rfl | rfl | rfl
  all_goals
    refine ⟨⟨_, X _ _ rfl, rfl, _, rfl⟩, ?_⟩
    refine AllPairs.at ?_
    repeat (first | exact .nil | refine .cons ⟨_, X _ _ rfl, rfl, _, rfl⟩ ?_)
theorem PairsAt.live {h : Heap} {t : Addr} {Ts : List Addr} {xs : List (Value × Value)} (p : PairsAt h t Ts xs) : ∀ b ∈ t :: Ts, ∃ o, h.get? b = some o := by
  intro b hb
  rcases List.mem_cons.mp hb with rfl | hb
  · obtain ⟨o, ho, _⟩ := p.1; exact ⟨o, ho⟩
  · obtain ⟨i, hi, e⟩ := List.getElem_of_mem hb
    obtain ⟨o, ho, _⟩ := p.2.2 i Ts[i] (xs[i]'(by rw [← p.2.1]; exact hi)) (by simp [hi]) (by simp [← p.2.1, hi])
    rw [e] at ho
    exact ⟨o, ho⟩
theorem tabVals_get {ps : List (Int × Tok × Str × Tok)} {j : Nat} {p : Value × Value} (h : (tabVals ps)[j]? = some p) : ∃ q, ps[j]? = some q ∧ p = (.int q.1 q.2.1, .str q.2.2.1 q.2.2.2) := by
  simp only [tabVals, List.getElem?_map, Option.map_eq_some_iff] at h
  obtain ⟨q, h1, h2⟩ := h
  exact ⟨q, h1, h2.symm⟩
def permM (l : Addr) (mode : Int) (tn : Tok) (c : List Value × Nat × Option Value × Option Value) (y : Str) : Option Value :=
  if y = Str.ofString "perm" then some (.ref l) else if y = Str.ofString "char" then c.2.2.1 else if y = Str.ofString "bit" then c.2.2.2 else List.lookup y [(Str.ofString "mode", .int mode tn)]
abbrev hits (mode : Int) (i : Nat) (b : Int) : Prop := if i = 0 then Builtin.bitAnd mode 61440 = b else Builtin.bitAnd mode b = b
def pick (mode : Int) (i : Nat) : List (Int × Tok × Str × Tok) → Str
  | [] => if i = 0 then Str.ofString "?" else Str.ofString "-"
  | p :: r => if hits mode i p.1 then p.2.2.1 else pick mode i r
def permTo (mode : Int) (i : Nat) : List Str := (tabs.take i).mapIdx fun j t => pick mode j t.2.2
theorem pick_hit {mode : Int} {i : Nat} : ∀ {ps : List (Int × Tok × Str × Tok)} {j : Nat} {q : Int × Tok × Str × Tok}, ps[j]? = some q → (∀ x ∈ ps.take j, ¬ hits mode i x.1) → hits mode i q.1 → pick mode i ps = q.2.2.1
  | [], j, q, h, _, _ => by simp at h
  | p :: r, 0, q, h, _, hq => by simp at h; subst h; rw [pick, if_pos hq]
  | p :: r, j + 1, q, h, hn, hq => by
    rw [pick, if_neg (hn p (by simp))]
    exact pick_hit (ps := r) (j := j) (by simpa using h) (fun x hx => hn x (by simp [hx])) hq
theorem pick_miss {mode : Int} {i : Nat} : ∀ {ps : List (Int × Tok × Str × Tok)}, (∀ x ∈ ps, ¬ hits mode i x.1) → pick mode i ps = if i = 0 then Str.ofString "?" else Str.ofString "-"
  | [], _ => rfl
  | p :: r, h => by
    rw [pick, if_neg (h p (by simp))]
    exact pick_miss fun x hx => h x (by simp [hx])
theorem permTo_succ {mode : Int} {i : Nat} {t : Addr × List Addr × List (Int × Tok × Str × Tok)} (h : tabs[i]? = some t) : permTo mode (i + 1) = permTo mode i ++ [pick mode i t.2.2] := by
  have hl : i < tabs.length := (List.getElem?_eq_some_iff.mp h).1
  rw [permTo, permTo, List.take_add_one, h]
  simp [List.mapIdx_append, Nat.min_eq_left (Nat.le_of_lt hl)]
theorem pick_len {mode : Int} {i : Nat} : ∀ {ps : List (Int × Tok × Str × Tok)}, (∀ q ∈ ps, q.2.2.1.length = 1) → (pick mode i ps).length = 1
  | [], _ => by rw [pick]; split <;> rfl
  | p :: r, h => by
    rw [pick]
    split
    · exact h p (by simp)
    · exact pick_len fun x hx => h x (by simp [hx])
theorem tabs_len : ∀ t ∈ tabs, ∀ q ∈ t.2.2, q.2.2.1.length = 1 := by decide
theorem permTo_length (mode : Int) (i : Nat) : (permTo mode i).length ≤ 10 := by
  rw [permTo, List.length_mapIdx, List.length_take]
  exact Nat.min_le_right _ _
theorem permTo_len (mode : Int) (i : Nat) : ∀ y ∈ permTo mode i, y.length = 1 := by
  intro y hy
  rw [permTo] at hy
  obtain ⟨j, hj, rfl⟩ := List.mem_mapIdx.mp hy
  exact pick_len (tabs_len _ (List.mem_of_mem_take (List.getElem_mem hj)))
theorem sum_ones : ∀ {ys : List Str}, (∀ y ∈ ys, y.length = 1) → (ys.map (·.length)).sum = ys.length
  | [], _ => rfl
  | y :: r, h => by
    rw [List.map_cons, List.sum_cons, sum_ones fun x hx => h x (by simp [hx]), h y (by simp), List.length_cons]
    omega
theorem perm_map {u v u1 u2 p r : Option Value} (z : Str) : (if z = Str.ofString "char" then u else if z = Str.ofString "bit" then v else if z = Str.ofString "perm" then p else if z = Str.ofString "char" then u1 else if z = Str.ofString "bit" then u2 else r) =
    if z = Str.ofString "perm" then p else if z = Str.ofString "char" then u else if z = Str.ofString "bit" then (if Str.ofString "bit" = Str.ofString "char" then u else v) else r := by
  by_cases e1 : z = Str.ofString "perm"
  · subst e1
    rw [if_neg (by decide), if_neg (by decide), if_pos rfl, if_pos rfl]
  · by_cases e2 : z = Str.ofString "char"
    · simp only [if_neg e1, if_pos e2]
    · by_cases e3 : z = Str.ofString "bit"
      · simp only [if_neg e1, if_neg e2, if_pos e3]
        rw [if_neg (by decide)]
      · simp only [if_neg e1, if_neg e2, if_neg e3]
theorem file_end {mode : Int} {tn : Tok} {g h' : Heap} {l L : Addr} {i : Nat} {vs : List Value} {y : Str} {ty : Tok} {n' : Nat} {m : Str → Option Value} {news own news' : List (Addr × Obj)} {adr : List Addr} {s₁ : Shared} {tk : Nat}
    {t : Addr × List Addr × List (Int × Tok × Str × Tok)} (ht : tabs[i]? = some t) (hi : StrsAre vs (permTo mode i)) (hy : pick mode i t.2.2 = y) (ha : l :: news.map (·.1) = adr)
    (F : Fr g L h' m) (N : News g L h' news') (hm : ∀ z, z ≠ Str.ofString "index" → z ≠ Str.ofString "table" → m z = permM l mode tn (vs ++ [Value.str y ty], n', m (Str.ofString "char"), m (Str.ofString "bit")) z)
    (hl : (l, listOf (vs ++ [Value.str y ty]).toArray n') ∈ news') (hn : ∀ p ∈ news, p ∈ news') (ho : ∀ p ∈ own, p ∈ news') :
    InvEndN g L (Stt2 (fun c => (l, listOf c.1.toArray c.2.1) :: news) (permM l mode tn) (Str.ofString "index") (Str.ofString "table") (fun c => StrsAre c.1 (permTo mode (i + 1)))) own adr s₁ { s₁ with heap := h', toks := tk } := by
  refine InvEndN.intro F N ⟨(vs ++ [Value.str y ty], n', m (Str.ofString "char"), m (Str.ofString "bit")), rfl, hm, ?_⟩ ha (List.forall_mem_cons.mpr ⟨hl, hn⟩) ho
  show StrsAre (vs ++ [Value.str y ty]) _
  rw [permTo_succ ht, hy]
  exact StrsAre.append' hi (.cons _ _ .nil)
theorem ifmt_tell {mode : Int} {tn : Tok} {news : List (Addr × Obj)} : Tell 5 28 [.int mode tn] news (fun r nx => ∃ t', r = .int (Builtin.bitAnd mode 61440) t' ∧ nx = news) := by
  unfold Tell
  w_top off
  k_fill
  intro w p loose mean mg mb dp un gd cn cs a ccd cl outer A₀ base h₀ L m s Q E B F X N T hk hd hu hret
  refine wpAny_call ?_
  k_dflt (refine' code_def (binds := [(Str.ofString "mode", .int mode tn)]) B F X N T ?kA ?kF ?kK ?k6 ?k7 ?k8 ?k9 ?kB ?_ ?c2 ?c3 ?c4 ?c5; (case kA => exact rfl); (case kF => exact rfl); (case kK => exact hk); (case k6 => k_is); (case k7 => k_is); (case k8 => ktr_room); (case k9 => exact BindsTo.of_eq rfl); (case c5 => decide); (case kB => exact locs rfl); (case c2 => exact rfl); (case c3 => exact rfl); (case c4 => exact rfl))
  intro g L1 h1 FG F1 N1 B1 X1 T1
  have hMk := kstMark
  try k_fold
  w_strict k_steps
  exact hret _ news _ _ ⟨_, rfl, rfl⟩ (by assumption) (by assumption)
section
local macro_rules | `(tactic| walk_at "exec For Tuple Call cons nil") => `(tactic| with_reducible refine Stop.mk ?_)
local macro_rules | `(tactic| walk_at "exec For") => `(tactic| with_reducible refine Stop.mk ?_)
local macro_rules | `(tactic| walk_at "call type:enumerate") => `(tactic| with_reducible refine Stop.mk ?_)
local macro_rules | `(tactic| walk_at "pyIter ref") => `(tactic| with_reducible refine Stop.mk ?_)
theorem file_tell {mode : Int} {tn : Tok} {news : List (Addr × Obj)} :
    Tell 30 68 [.int mode tn] news (fun r nx => ∃ t', r = .str (Txt.join (Str.ofString "") (permTo mode 10)) t' ∧ nx = news) := by
  unfold Tell
  w_top off
  k_fill
  intro w p loose mean mg mb dp un gd cn cs a ccd cl outer A₀ base h₀ L m s Q E B F X N T hk hd hu hret
  refine wpAny_call ?_
  k_dflt (refine' code_def (binds := [(Str.ofString "mode", .int mode tn)]) B F X N T ?kA ?kF ?kK ?k6 ?k7 ?k8 ?k9 ?kB ?_ ?c2 ?c3 ?c4 ?c5; (case kA => exact rfl); (case kF => exact rfl); (case kK => exact hk); (case k6 => k_is); (case k7 => k_is); (case k8 => ktr_room); (case k9 => exact BindsTo.of_eq rfl); (case c5 => decide); (case kB => exact locs rfl); (case c2 => exact rfl); (case c3 => exact rfl); (case c4 => exact rfl))
  intro g L1 h1 FG F1 N1 B1 X1 T1
  have hMk := kstMark
  try k_fold
  w_strict k_steps
  refine Stop.out ?_
  rename_i l h2 hl h3 F2 N2
  refine For_E ?_
  try k_fold
  w_strict k_steps
  refine Stop.out ?_
  have hnone : ∀ b o, (Mine.hd.heap_39 w.params).lookup b = some o → L1 ≠ b := fun b o hb e =>
    absurd (Heap.lt_size (X1 b o hb)) (Nat.not_lt.mpr (e ▸ F2.above))
  have hnew : ∀ b o, (Mine.hd.heap_39 w.params).lookup b = some o → ∀ q ∈ ((l, listOf #[] 0) :: news), q.1 ≠ b := fun b o hb q hq e => by
    have h1 := (N2 q hq).2.2
    rw [e, X1 b o hb] at h1
    cases h1
  refine enumT_st (σ := List Value × Nat × Option Value × Option Value) (fun c => (l, listOf c.1.toArray c.2.1) :: news) (permM l mode tn) (fun i c => StrsAre c.1 (permTo mode i)) ([], 0, none, none) rfl (tabs_top X1) rfl rfl rfl (hnone 61 _ rfl) (hnew 61 _ rfl) F2 N2 ?_ ?_ ?_ ?_
  · intro z _ _
    unfold permM
    by_cases e1 : z = Str.ofString "perm"
    · simp only [if_pos e1]
    · by_cases e2 : z = Str.ofString "char"
      · subst e2; rfl
      · by_cases e3 : z = Str.ofString "bit"
        · subst e3; rfl
        · simp only [if_neg e1, if_neg e2, if_neg e3]; rfl
  · exact .nil
  · intro i ti v c h tk own hi hoff ha hj F3 N3
    obtain ⟨vs, cc, u1, u2⟩ := c
    dsimp only at hj N3
    have hvl : vs.length ≤ 10 := by rw [hj.length]; exact permTo_length mode i
    obtain ⟨t, ht, rfl⟩ : ∃ t, tabs[i]? = some t ∧ v = .ref t.1 := by
      simp only [List.getElem?_toArray, List.getElem?_map, Option.map_eq_some_iff] at hi
      obtain ⟨t, e1, e2⟩ := hi
      exact ⟨t, e1, e2.symm⟩
    have hPt := tabs_each X1 t (List.mem_of_getElem? ht)
    refine wpAny_execs_cons ?_
    refine For_E ?_
    try k_fold
    w_strict k_steps
    refine Stop.out ?_
    refine pairs_st (σ := Unit) (fun _ => (l, listOf vs.toArray cc) :: news ++ own) (fun _ y => if y = Str.ofString "table" then some (.ref t.1) else if y = Str.ofString "index" then some (.int i ti) else permM l mode tn (vs, cc, u1, u2) y) (fun j _ => ∀ q ∈ t.2.2.take j, ¬ hits mode i q.1) () rfl hPt rfl rfl rfl ?_ ?_ F3 N3 (fun _ _ _ => rfl) ?_ ?_ ?_
    · intro hb
      obtain ⟨o, ho⟩ := hPt.live _ hb
      exact absurd (Heap.lt_size ho) (Nat.not_lt.mpr F3.above)
    · intro q hq hb
      obtain ⟨o, ho⟩ := hPt.live _ hb
      rw [(N3 q hq).2.2] at ho
      cases ho
    · intro q hq
      simp at hq
    · intro j p c h4 tk4 own4 hp hoff4 _ hj4 F4 N4
      obtain ⟨⟨b, tb, ch, tc⟩, hq, rfl⟩ := tabVals_get hp
      clear F2 N2 F3 N3
      unfold permM at F4
      dsimp only at F4 N4
      simp only [List.cons_append, List.append_assoc] at N4
      have hoff5 : OwnOff (own ++ own4) (l :: news.map (·.1)) := by
        intro p hp b hb
        rcases List.mem_append.mp hp with hp | hp
        · exact hoff p hp b hb
        · exact hoff4 p hp b (by
            rcases List.mem_cons.mp hb with rfl | hb
            · exact List.mem_cons_self ..
            · obtain ⟨x, hx, rfl⟩ := List.mem_map.mp hb
              exact List.mem_map.mpr ⟨x, List.mem_append_left _ (List.mem_cons_of_mem _ hx), rfl⟩)
      have hi5 : ∀ p ∈ own, p ∈ own ++ own4 := fun p hp => List.mem_append_left _ hp
      have hi6 : ∀ p ∈ own4, p ∈ own ++ own4 := fun p hp => List.mem_append_right _ hp
      clear hoff hoff4 ha hp hi
      revert N4 hoff5 hi5 hi6
      generalize own ++ own4 = own5
      intro N4 hoff5 hi5 hi6
      rcases i with _ | i
      · rw [show ((0 : Nat) : Int) = 0 from rfl] at F4
        try k_fold
        w_strict k_steps
        refine Tell.use (ifmt_tell) B1 F4 X1 N4 T1 rfl (by show dp + 1 + 5 < _; omega) (by show un + 3 + 10 * 5 < _; omega) ?_
        rintro r nx h5 tk5 ⟨t', rfl, rfl⟩ F5 N5
        clear F4 N4
        try k_fold
        w_strict k_steps
        · rename Fr _ _ _ _ => F6
          rename News _ _ _ _ => N6
          simp only [List.push_toArray] at N6
          exact file_end ht hj (pick_hit hq hj4 (by unfold hits; rw [if_pos rfl]; assumption)) rfl F6 N6 (by intro z a b; simp [permM, a, b]; exact perm_map z) (List.mem_cons_self ..) (fun p hp => by simp [hp]) (fun p hp => by simp [hi5 p hp])
        · rename Fr _ _ _ _ => F6
          rename News _ _ _ _ => N6
          refine InvEndN.intro F6 N6 ⟨(), rfl, (fun z a b => by simp [permM, a, b]), ?_⟩ rfl (fun p hp => ?_) (fun p hp => by simp [hi6 p hp])
          · intro q hq'
            rw [List.take_add_one, hq] at hq'
            rcases List.mem_append.mp hq' with hq' | hq'
            · exact hj4 q hq'
            · have e : q = (b, tb, ch, tc) := by simpa using hq'
              subst e
              unfold hits; rw [if_pos rfl]; assumption
          · rcases List.mem_cons.mp hp with rfl | hp
            · exact List.mem_cons_self ..
            · rcases List.mem_append.mp hp with hp | hp
              · simp [hp]
              · simp [hi5 p hp]
      · obtain ⟨n, hn, hn0⟩ : ∃ n : Int, ((i + 1 : Nat) : Int) = n ∧ n ≠ 0 := ⟨_, rfl, by omega⟩
        rw [hn] at F4
        try k_fold
        w_strict k_steps
        · exact absurd ‹n = 0› hn0
        · rename Fr _ _ _ _ => F6
          rename News _ _ _ _ => N6
          simp only [List.push_toArray] at N6
          exact file_end ht hj (pick_hit hq hj4 (by unfold hits; rw [if_neg (Nat.succ_ne_zero i)]; assumption)) rfl F6 N6 (by intro z a b; simp [permM, a, b]; exact perm_map z) (List.mem_cons_self ..) (fun p hp => by simp [hp]) (fun p hp => by simp [hi5 p hp])
        · rename Fr _ _ _ _ => F6
          rename News _ _ _ _ => N6
          refine InvEndN.intro F6 N6 ⟨(), rfl, (fun z a b => by simp [permM, a, b, hn]), ?_⟩ rfl (fun p hp => ?_) (fun p hp => by simp [hi6 p hp])
          · intro q hq'
            rw [List.take_add_one, hq] at hq'
            rcases List.mem_append.mp hq' with hq' | hq'
            · exact hj4 q hq'
            · have e : q = (b, tb, ch, tc) := by simpa using hq'
              subst e
              unfold hits; rw [if_neg (Nat.succ_ne_zero i)]; assumption
          · rcases List.mem_cons.mp hp with rfl | hp
            · exact List.mem_cons_self ..
            · rcases List.mem_append.mp hp with hp | hp
              · simp [hp]
              · simp [hi5 p hp]
    · intro _ u v h5 tk5 hj5 F5 N5
      rw [show (tabVals t.2.2).length = t.2.2.length by simp [tabVals], List.take_length] at hj5
      clear F2 N2 F3 N3
      unfold permM at F5
      dsimp only at F5 N5
      simp only [List.cons_append] at N5
      rcases i with _ | i
      · rw [show ((0 : Nat) : Int) = 0 from rfl] at F5
        try k_fold
        w_strict k_steps
        · rename Fr _ _ _ _ => F6
          rename News _ _ _ _ => N6
          simp only [List.push_toArray] at N6
          exact file_end ht hj (pick_miss hj5) rfl F6 N6 (by intro z a b; simp [permM, a, b]; exact perm_map z) (List.mem_cons_self ..) (fun p hp => by simp [hp]) (fun p hp => by simp [hp])
      · obtain ⟨n, hn, hn0⟩ : ∃ n : Int, ((i + 1 : Nat) : Int) = n ∧ n ≠ 0 := ⟨_, rfl, by omega⟩
        rw [hn] at F5
        try k_fold
        w_strict k_steps
        · rename Fr _ _ _ _ => F6
          rename News _ _ _ _ => N6
          simp only [List.push_toArray] at N6
          exact file_end ht hj (pick_miss hj5) rfl F6 N6 (by intro z a b; simp [permM, a, b]; exact perm_map z) (List.mem_cons_self ..) (fun p hp => by simp [hp]) (fun p hp => by simp [hp])
  · intro c u v h tk hj F3 N3
    obtain ⟨vs, cc, u1, u2⟩ := c
    unfold permM at F3
    dsimp only at hj F3 N3
    clear F2 N2
    rw [show (List.map (fun t => Value.ref t.1) tabs).toArray.size = 10 from rfl] at hj
    try k_fold
    w_strict k_steps
    refine join_listW (D := l) (items := vs.toArray) (ys := permTo mode 10) ⟨_, (N3 _ (List.mem_cons_self ..)).1, rfl, _, rfl⟩ hj (by decide) (by rw [sum_ones (permTo_len mode 10)]; have := permTo_length mode 10; omega) ?_
    intro t' k
    try k_fold
    w_strict k_steps
    refine hret _ news _ _ ⟨_, rfl, rfl⟩ (by assumption) (fun p hp => ?_)
    exact (by assumption : News _ _ _ _) p (by simp [hp])
end
end Mine
end PartFile

section PartComp
open PySem PySem.W PyProof.Rows PySem.Calls PyProof.Rows.LCg
set_option maxRecDepth 100000
set_option maxHeartbeats 2000000
namespace Mine
/-- what a step within a block leaves behind -/
def CEnd (h₀ : Heap) (L : Addr) (m : Str → Option Value) (Led : List (Addr × Obj)) (P : Prop) (s₁ s₂ : Shared) : Prop :=
  ∃ h' tk nx, s₂ = { s₁ with heap := h', toks := tk } ∧ Fr h₀ L h' m ∧ News h₀ L h' nx ∧ (∀ p ∈ Led, p ∈ nx) ∧ P
/-- a block's start -/
def BlkAt (prog : Program) (w : World) (A : Around) (env : Env) (scope : Scope) (cl : List (Str × Addr)) (e : Expr) (RR : Value → Addr → Result → Shared → Prop) (E : Value → Shared → Prop) (it : Value) (s₂ : Shared) : Prop :=
  wpAny (model prog w) A (newList []) (fun acc s₃ => wpAny (model prog w) A (newFunctionEnv scope env.globals cl [] env.qual none .none (some env)) (fun cenv s₄ =>
    codeAny (model prog w) A (.compStart e 0 it acc { cenv with scope := relabel scope env }) (RR acc cenv.locals) s₄) E s₃) E s₂
section
variable {prog : Program} {w : World} {A : Around} {E : Value → Shared → Prop} {s : Shared} {env : Env} {h₀ : Heap} {L : Addr} {m : Str → Option Value} {scope : Scope} {cl : List (Str × Addr)} {e : Expr} {news : List (Addr × Obj)}
theorem blk_in {it : Value} {RR : Value → Addr → Result → Shared → Prop} (F : Fr h₀ L s.heap m) (N : News h₀ L s.heap news) (hcell : ∀ y ∈ scope.names, y.2 ≠ .cell) (hkind : scope.kind = .function)
    (h : ∀ (D C : Addr) (oC : Obj) (h : Heap) (tk : Nat), D = s.heap.objs.size → C = s.heap.objs.size + 1 → (∀ b o, s.heap.get? b = some o → h.get? b = some o) → NsObj oC (fun _ => none) → Fr h₀ L h m → News h₀ L h ((C, oC) :: (D, lst []) :: news) →
      codeAny (model prog w) A (.compStart e 0 it (.ref D) (compEnvC scope cl C env)) (RR (.ref D) C) { s with heap := h, toks := tk }) :
    BlkAt prog w A env scope cl e RR E it s := by
  unfold BlkAt
  refine wpAny_newObj_type (wpAny_newFunctionEnv hcell (by intro y hy; simp at hy) (fun h₁ hns₁ hsb₁ => ?_) hkind)
  dsimp only at hns₁ hsb₁ ⊢
  generalize hH2 : s.heap.push { cls := .type "list", dict := none, data := .seq ([] : List Value).toArray } = H2 at hns₁ hsb₁ ⊢
  have hC : H2.objs.size = s.heap.objs.size + 1 := by rw [← hH2, Heap.size_push]
  have hDC : s.heap.objs.size ≠ H2.objs.size := by rw [hC]; exact Nat.ne_of_lt (Nat.lt_succ_self _)
  have below : ∀ b, b < s.heap.objs.size → b ≠ H2.objs.size := fun b hb => by rw [hC]; exact Nat.ne_of_lt (Nat.lt_succ_of_lt hb)
  have old : ∀ b o, s.heap.get? b = some o → h₁.get? b = some o := fun b o e => hsb₁.extBut b o (below b (Heap.lt_size e)) (Heap.get?_push_of_some _ (hH2 ▸ Heap.get?_push_of_some _ e))
  have hacc : h₁.get? s.heap.objs.size = some (lst []) := hsb₁.extBut _ _ hDC (Heap.get?_push_of_some _ (hH2 ▸ Heap.get?_push_size _ rfl))
  have fresh₀ : ∀ a, s.heap.objs.size ≤ a → h₀.get? a = none := fun a ha => by
    cases e : h₀.get? a with
    | none => rfl
    | some o' => exact absurd (Heap.lt_size (F.keep a o' e)) (Nat.not_lt.mpr ha)
  obtain ⟨oC, heC, hoC⟩ := ns_obj hns₁
  have hLlt : L < s.heap.objs.size := F.ns.lt
  refine h s.heap.objs.size H2.objs.size oC h₁ _ rfl hC old hoC (F.keeps old) fun p hp => ?_
  rcases List.mem_cons.mp hp with rfl | hp
  · exact ⟨heC, Ne.symm (below L hLlt), fresh₀ _ (by rw [hC]; exact Nat.le_succ _)⟩
  rcases List.mem_cons.mp hp with rfl | hp
  · exact ⟨hacc, Nat.ne_of_gt hLlt, fresh₀ _ (Nat.le_refl _)⟩
  · exact ⟨old _ _ (N p hp).1, (N p hp).2⟩

theorem blk_out {C D : Addr} {oC : Obj} {m' : Str → Option Value} {ys : List Value} {Q : Value → Shared → Prop} {h : Heap} {tk : Nat} (F : Fr h₀ L h m) (N : News h₀ L h ((C, oC) :: (D, lst ys) :: news)) (hC : NsObj oC m') (hDC : D ≠ C) (off : ∀ p ∈ news, p.1 ≠ C)
    (hq : ∀ h', Fr h₀ L h' m → News h₀ L h' ((D, lst ys) :: news) → Q (.ref D) { s with heap := h', toks := tk }) :
    compPost (model prog w) A E none Q (.ref D) C (.ok .next) { s with heap := h, toks := tk } := by
  have zC := N (C, oC) List.mem_cons_self
  refine ⟨m', hC.ns zC.1, fun h'' hs'' => hq h'' (F.change hs'' zC.2.1 zC.2.2) fun p hp => ?_⟩
  refine ⟨hs''.extBut _ _ ?_ (N p (List.mem_cons_of_mem _ hp)).1, (N p (List.mem_cons_of_mem _ hp)).2⟩
  rcases List.mem_cons.mp hp with rfl | hp
  · exact hDC
  · exact off p hp
theorem blk_use {C D : Addr} {oC : Obj} {m' : Str → Option Value} {ys : List Value} {y : Str} {py : Pos} {Q : Flow → Shared → Prop} {h : Heap} {tk : Nat} {news : List (Addr × Obj)}
    (hy : env.kindOf y = some .local) (hp : (env.scope.kind == .class || (env.scope.kind == .module && env.locals != env.globals)) = false)
    (F : Fr h₀ env.locals h m) (N : News h₀ env.locals h ((C, oC) :: (D, lst ys) :: news)) (hC : NsObj oC m') (hDC : D ≠ C) (off : ∀ p ∈ news, p.1 ≠ C)
    (hq : ∀ h' tk', Fr h₀ env.locals h' (fun z => if z = y then some (.ref D) else m z) → News h₀ env.locals h' ((D, lst ys) :: news) → Q .next { s with heap := h', toks := tk' }) :
    compPost (model prog w) A E (some (assign (.Name y py) env)) (fun _ s' => Q .next s') (.ref D) C (.ok .next) { s with heap := h, toks := tk } := by
  have zC := N (C, oC) List.mem_cons_self
  show wpAny _ A (assign (.Name y py) env (.ref D)) _ _ _
  refine wpAny_assign_Name (wpAny_storeName_local hy F.ns (fun h₂ hn₂ hs₂ => ?_) hp)
  have F₂ := F.set hn₂ hs₂
  refine ⟨m', (hC.ns zC.1).sameBut hs₂ zC.2.1, fun h'' hs'' => hq h'' _ (F₂.change hs'' zC.2.1 zC.2.2) fun p hp => ?_⟩
  have zp := N p (List.mem_cons_of_mem _ hp)
  refine ⟨hs''.extBut _ _ ?_ (hs₂.extBut _ _ zp.2.1 zp.1), zp.2⟩
  rcases List.mem_cons.mp hp with rfl | hp
  · exact hDC
  · exact off p hp

/-- a block's one clause: two names, one test -/
theorem pair_loop {elt iter c : Expr} {a b : Str} {pa pb tp : Pos} {kk : Nat} {pos : Pos} {I C D : Addr} {oC₀ : Obj} {mC₀ : Str → Option Value} {R : Result → Shared → Prop} {fp wr : List Addr} {n : Nat} {Pt : Nat → Array Value → Prop} {St : Nat → Heap → Prop} {Mid : Nat → Addr → Heap → Prop} {P2 : Nat → Value → Value → Prop}
    (J : Nat → List Value → Prop) (hh : A.handled = none) (W : WalksU prog w A I fp wr n Pt St Mid) (h2 : ∀ i vals, Pt i vals → ∃ v0 v1, vals = #[v0, v1] ∧ P2 i v0 v1) (hsz : n ≤ sizeLine)
    (hkind : scope.kind = .function) (hxa : scope.names.lookup a = some .local) (hxb : scope.names.lookup b = some .local) (hab : ¬ a = b)
    (hwr : ∀ x ∈ wr, h₀.get? x = none) (hLf : L ∉ fp) (hCf : C ∉ fp) (hDf : D ∉ fp) (hfp : ∀ q ∈ news, q.1 ∉ fp) (hDC : D ≠ C) (offC : ∀ p ∈ news, p.1 ≠ C) (offD : ∀ p ∈ news, p.1 ≠ D)
    (hst : St 0 s.heap) (F : Fr h₀ L s.heap m) (N : News h₀ L s.heap ((C, oC₀) :: (D, lst []) :: news)) (hC₀ : NsObj oC₀ mC₀) (hj : J 0 [])
    (turn : ∀ i v0 v1 ys oC m₂ h tk own (E' : Value → Shared → Prop), i < n → P2 i v0 v1 → J i ys → NsObj oC m₂ → m₂ a = some v0 → m₂ b = some v1 → Fr h₀ L h m → News h₀ L h ((C, oC) :: (D, lst ys) :: (news ++ own)) →
      wpAny (model prog w) A (isTrue c (compEnvC scope cl C env) (eval c (compEnvC scope cl C env))) (fun ok s₃ => if ok = true then
        wpAny (model prog w) A (eval elt (compEnvC scope cl C env)) (fun y s₄ => CEnd h₀ L m ((C, oC) :: (D, lst ys) :: (news ++ own)) (J (i + 1) (ys ++ [y])) { s with heap := h, toks := tk } s₄) E' s₃
        else CEnd h₀ L m ((C, oC) :: (D, lst ys) :: (news ++ own)) (J (i + 1) ys) { s with heap := h, toks := tk } s₃) E' { s with heap := h, toks := tk })
    (done : ∀ ys oC m' h tk, J n ys → NsObj oC m' → Fr h₀ L h m → News h₀ L h ((C, oC) :: (D, lst ys) :: news) → R (.ok .next) { s with heap := h, toks := tk }) :
    codeAny (model prog w) A (.compStart (.ListComp elt [⟨.Tuple [.Name a pa, .Name b pb] kk tp, iter, [c], 0⟩] scope pos) 0 (.ref I) (.ref D) (compEnvC scope cl C env)) R s := by
  have hLw : L ∉ wr := fun h => hLf (W.sub _ h)
  have old : ∀ b o, h₀.get? b = some o → b ∉ wr := fun b o e hb => by rw [hwr b hb] at e; cases e
  have zD₀ := N (D, lst []) (List.mem_cons_of_mem _ List.mem_cons_self)
  have zC₀ := N (C, oC₀) List.mem_cons_self
  have loop : codeAny (model prog w) A (.compLoop (.ListComp elt [⟨.Tuple [.Name a pa, .Name b pb] kk tp, iter, [c], 0⟩] scope pos) 0 (.ref I) (.ref D) (compEnvC scope cl C env)) R s := by
    refine kct_loop
      (fun k s' => ∃ h' tk i ys oC m', s' = { s with heap := h', toks := tk } ∧ i ≤ n ∧ k = n + 1 - i ∧ ys.length ≤ i ∧ St i h' ∧ Fr h₀ L h' m ∧ NsObj oC m' ∧ News h₀ L h' ((C, oC) :: (D, lst ys) :: news) ∧ J i ys) ?_ (n + 1)
      ⟨s.heap, s.toks, 0, [], oC₀, mC₀, rfl, Nat.zero_le _, rfl, Nat.le_refl _, hst, F, hC₀, N, hj⟩
    rintro k s' ⟨h', tk, i, ys, oC, m', rfl, hi, rfl, hyl, hst', F', hn', N', hJ⟩
    have zC := N' (C, oC) List.mem_cons_self
    have offW : ∀ p ∈ (C, oC) :: (D, lst ys) :: news, p.1 ∉ fp := fun p hp => by
      rcases List.mem_cons.mp hp with rfl | hp
      · exact hCf
      rcases List.mem_cons.mp hp with rfl | hp
      · exact hDf
      · exact hfp p hp
    have next : ∀ h₁ : Heap, (∀ b o, b ∉ wr → h'.get? b = some o → h₁.get? b = some o) → Fr h₀ L h₁ m ∧ News h₀ L h₁ ((C, oC) :: (D, lst ys) :: news) := fun h₁ hk₁ =>
      ⟨⟨F'.ns.at' fun o e => hk₁ _ o hLw e, fun b o e => hk₁ b o (old b o e) (F'.keep b o e), F'.above⟩, fun p hp => ⟨hk₁ _ _ (fun x => offW p hp (W.sub _ x)) (N' p hp).1, (N' p hp).2⟩⟩
    by_cases hlt : i < n
    · refine W.item i _ _ _ hlt hst' fun T vals h₁ tk₁ hPt hT hMid hk₁ => ?_
      obtain ⟨v0, v1, rfl, hP2⟩ := h2 i vals hPt
      refine W.go _ kk tp i T _ _ _ hMid fun h₂ hst₂ hk₂ => ?_
      have ht₂ : h₂.IsTuple T #[v0, v1] := hT.at fun o e => hk₂ T o (W.apart i T h₁ hMid) e
      obtain ⟨F₂, N₂⟩ := next h₂ fun b o hb x => hk₂ b o hb (hk₁ b o hb x)
      refine kcp_assign (env := compEnvC scope cl C env) hh ht₂ (lookup_relabel_local hxa) (lookup_relabel_local hxb) (by simp [compEnvC, relabel, hkind]) (hn'.ns (N₂ _ List.mem_cons_self).1) fun h₄ tk₄ hn₄ hs₄ => ?_
      replace hs₄ : ∀ x o, x ≠ C → h₂.get? x = some o → h₄.get? x = some o := hs₄
      obtain ⟨oC', heC, hoC⟩ := ns_obj hn₄
      replace heC : h₄.get? C = some oC' := heC
      have F₄ : Fr h₀ L h₄ m := ⟨F₂.ns.at' fun o e => hs₄ _ o (Ne.symm zC.2.1) e, fun x o e => hs₄ x o (fun q => by rw [q, zC.2.2] at e; cases e) (F₂.keep x o e), F₂.above⟩
      have hst₄ : St (i + 1) h₄ := W.frame _ _ _ hst₂ fun x hx o e => hs₄ x o (fun q => hCf (q ▸ hx)) e
      have N₄ : News h₀ L h₄ ((C, oC') :: (D, lst ys) :: (news ++ PyProof.Rows.ownOf h₀ fp h₄)) := fun p hp => by
        rcases List.mem_cons.mp hp with rfl | hp
        · exact ⟨heC, zC.2⟩
        rcases List.mem_cons.mp hp with rfl | hp
        · have z := N₂ (D, lst ys) (List.mem_cons_of_mem _ List.mem_cons_self)
          exact ⟨hs₄ _ _ hDC z.1, z.2⟩
        rcases List.mem_append.mp hp with hp | hp
        · have z := N₂ p (List.mem_cons_of_mem _ (List.mem_cons_of_mem _ hp))
          exact ⟨hs₄ _ _ (offC p hp) z.1, z.2⟩
        · exact (news_ownOf hLf) p hp
      have hown : ∀ p ∈ PyProof.Rows.ownOf h₀ fp h₄, p.1 ∈ fp := ownOf_sub
      have fin : ∀ (ys' : List Value) (h₅ : Heap) (tk₅ : Nat), ys'.length ≤ i + 1 → Fr h₀ L h₅ m → News h₀ L h₅ ((C, oC') :: (D, lst ys') :: (news ++ PyProof.Rows.ownOf h₀ fp h₄)) → J (i + 1) ys' →
          ∃ q', q' < n + 1 - i ∧ ∃ h' tk i ys oC m', ({ s with heap := h₅, toks := tk₅ } : Shared) = { s with heap := h', toks := tk } ∧ i ≤ n ∧ q' = n + 1 - i ∧ ys.length ≤ i ∧ St i h' ∧ Fr h₀ L h' m ∧ NsObj oC m' ∧ News h₀ L h' ((C, oC) :: (D, lst ys) :: news) ∧ J i ys := by
        intro ys' h₅ tk₅ hl F₅ N₅ hJ₅
        refine ⟨n + 1 - (i + 1), by omega, h₅, tk₅, i + 1, ys', oC', _, rfl, hlt, rfl, hl, ?_, F₅, hoC, fun p hp => N₅ p ?_, hJ₅⟩
        · refine W.frame _ _ _ hst₄ fun x hx o e => ?_
          cases hn : h₀.get? x with
          | some o₀ =>
            have : o₀ = o := by have q := F₄.keep x o₀ hn; rw [e] at q; exact (Option.some.inj q).symm
            exact this ▸ F₅.keep x o₀ hn
          | none => exact (N₅ (x, o) (List.mem_cons_of_mem _ (List.mem_cons_of_mem _ (List.mem_append_right _ (mem_ownOf hx hn e))))).1
        · rcases List.mem_cons.mp hp with rfl | hp
          · exact List.mem_cons_self
          rcases List.mem_cons.mp hp with rfl | hp
          · exact List.mem_cons_of_mem _ List.mem_cons_self
          · exact List.mem_cons_of_mem _ (List.mem_cons_of_mem _ (List.mem_append_left _ hp))
      refine wpAny_mono (turn i v0 v1 ys oC' _ h₄ _ _ _ hlt hP2 hJ hoC (by simp [hab]) (by simp) F₄ N₄) (fun okb s₅ h₅ => ?_) fun _ _ e => e
      cases okb with
      | false =>
        simp only [Bool.false_eq_true, if_false] at h₅ ⊢
        obtain ⟨h₅, tk₅, nx, rfl, F₅, N₅, sub, hJ₅⟩ := h₅
        exact fin ys h₅ tk₅ (Nat.le_succ_of_le hyl) F₅ (fun p hp => N₅ p (sub p hp)) hJ₅
      | true =>
        simp only [if_true] at h₅ ⊢
        refine wpAny_mono h₅ (fun y s₆ h₆ => ?_) fun _ _ e => e
        obtain ⟨h₅, tk₅, nx, rfl, F₅, N₅', sub, hJ₅⟩ := h₆
        have N₅ : News h₀ L h₅ ((C, oC') :: (D, lst ys) :: (news ++ PyProof.Rows.ownOf h₀ fp h₄)) := fun p hp => N₅' p (sub p hp)
        have zD := N₅ (D, lst ys) (List.mem_cons_of_mem _ List.mem_cons_self)
        refine append_at (hsz := by show ys.toArray.size ≤ sizeLine; rw [List.size_toArray]; exact Nat.le_trans hyl (Nat.le_trans hi hsz)) zD.1 fun h₆ hs₆ hD₆ => ?_
        refine fin (ys ++ [y]) h₆ _ (by rw [List.length_append, List.length_singleton]; exact Nat.succ_le_succ hyl) (F₅.change hs₆ zD.2.1 zD.2.2) (fun q hq => ?_) hJ₅
        rcases List.mem_cons.mp hq with rfl | hq
        · have z := N₅ (C, oC') List.mem_cons_self
          exact ⟨hs₆.extBut _ _ (Ne.symm hDC) z.1, z.2⟩
        rcases List.mem_cons.mp hq with rfl | hq
        · exact ⟨hD₆.trans (congrArg some (lst_snoc ys y)), zD.2⟩
        · have z := N₅ q (List.mem_cons_of_mem _ (List.mem_cons_of_mem _ hq))
          refine ⟨hs₆.extBut _ _ ?_ z.1, z.2⟩
          rcases List.mem_append.mp hq with hq | hq
          · exact offD q hq
          · exact fun e => hDf (e ▸ hown q hq)
    · have hin : i = n := by omega
      subst hin
      refine W.done _ _ _ hst' fun h₁ tk₁ hk₁ => ?_
      obtain ⟨F₁, N₁⟩ := next h₁ hk₁
      exact done ys oC m' h₁ tk₁ hJ hn' F₁ N₁
  exact codeAny_compStart_list loop (W.self 0 _ _ _ hst loop)

theorem Assign_blk {elt : Expr} {g : Comprehension} {gs : List Comprehension} {y : Str} {py pos spos : Pos} {Q : Flow → Shared → Prop}
    (hsw : swapsWith (.ListComp elt (g :: gs) scope pos) (some (.Name y py)) spos.line env = pure true)
    (hclos : closureFor scope env = pure cl) (hkind : scope.kind = .function) (hnames : ∀ z ∈ scope.names, z.2 = .local → scope.names.lookup z.1 = some .local)
    (h : wpAny (model prog w) A (eval g.iter env) (fun xv s₁ => wpAny (model prog w) A (pyIter xv) (fun it s₂ => BlkAt prog w A env scope cl (.ListComp elt (g :: gs) scope pos) (compPost (model prog w) A E (some (assign (.Name y py) env)) (fun _ s' => Q .next s')) E it s₂) E s₁) E s)
    (hs : ∀ x, foldedSetIterable g.iter env x = pure x := by intro _; rfl) (ha : g.is_async = 0 := by rfl) :
    wpAny (model prog w) A (exec (.Assign [.Name y py] (.ListComp elt (g :: gs) scope pos) spos) env) Q E s := by
  obtain ⟨target, iter, ifs, as⟩ := g
  replace ha : as = 0 := ha
  subst ha
  rw [exec_Assign_Name_used _ _ _ _ hsw]
  refine wpAny_bind (wpAny_standAt (wpAny_bind ?_))
  show wpAny _ A (do let _ ← comprehension (.ListComp elt (⟨target, iter, ifs, 0⟩ :: gs) scope pos) scope env _ (newList []) false (eval iter env) (some (assign (.Name y py) env))) _ _ s
  exact wpAny_bind (wpAny_mono (wpAny_comprehension_free (use := some (assign (.Name y py) env)) (Q := fun _ s' => Q .next s') rfl hs hclos hkind hnames h) (fun _ s' hq => wpAny_pure (wpAny_pure hq)) fun _ _ e => e)
theorem eval_blk {elt : Expr} {g : Comprehension} {gs : List Comprehension} {pos : Pos} {Q : Value → Shared → Prop}
    (hclos : closureFor scope env = pure cl) (hkind : scope.kind = .function) (hnames : ∀ z ∈ scope.names, z.2 = .local → scope.names.lookup z.1 = some .local)
    (h : wpAny (model prog w) A (eval g.iter env) (fun xv s₁ => wpAny (model prog w) A (pyIter xv) (fun it s₂ => BlkAt prog w A env scope cl (.ListComp elt (g :: gs) scope pos) (compPost (model prog w) A E none Q) E it s₂) E s₁) E s)
    (hs : ∀ x, foldedSetIterable g.iter env x = pure x := by intro _; rfl) (ha : g.is_async = 0 := by rfl) :
    wpAny (model prog w) A (eval (.ListComp elt (g :: gs) scope pos) env) Q E s := by
  obtain ⟨target, iter, ifs, as⟩ := g
  replace ha : as = 0 := ha
  subst ha
  rw [eval_ListComp]
  exact wpAny_comprehension_free (use := none) rfl hs hclos hkind hnames h
end
end Mine
end PartComp

section PartComp2
open PySem PySem.W PyProof.Rows PySem.Calls PyProof.Rows.LCg
set_option maxRecDepth 100000
set_option maxHeartbeats 2000000
namespace Mine
section
variable {prog : Program} {w : World} {A : Around} {E : Value → Shared → Prop} {s : Shared} {env : Env} {h₀ : Heap} {m : Str → Option Value} {scope : Scope} {cl : List (Str × Addr)} {news : List (Addr × Obj)}
theorem Assign_enumB {elt iter c : Expr} {x1 x2 y : Str} {pa pb tp py pos : Pos} {kk : Nat} {b : Array UInt8} {tb : Tok} {ks : List Int} {Q : Shared → Prop}
    (J : List Int → List Value → Prop) (hb : KBw.bInts b = ks) (hsz : ks.length ≤ sizeLine) (hh : A.handled = none)
    (hcell : ∀ z ∈ scope.names, z.2 ≠ .cell) (hkind : scope.kind = .function) (hxa : scope.names.lookup x1 = some .local) (hxb : scope.names.lookup x2 = some .local) (hab : ¬ x1 = x2)
    (hy : env.kindOf y = some .local) (hp : (env.scope.kind == .class || (env.scope.kind == .module && env.locals != env.globals)) = false)
    (F : Fr h₀ env.locals s.heap m) (N : News h₀ env.locals s.heap news) (hj : J [] [])
    (turn : ∀ pre post k ti t ys C D oC m₂ h tk own (E' : Value → Shared → Prop), ks = pre ++ k :: post → J pre ys → NsObj oC m₂ → m₂ x1 = some (.int (pre.length : Nat) ti) → m₂ x2 = some (.int k t) → Fr h₀ env.locals h m → News h₀ env.locals h ((C, oC) :: (D, lst ys) :: (news ++ own)) →
      wpAny (model prog w) A (isTrue c (compEnvC scope cl C env) (eval c (compEnvC scope cl C env))) (fun ok s₃ => if ok = true then
        wpAny (model prog w) A (eval elt (compEnvC scope cl C env)) (fun y s₄ => CEnd h₀ env.locals m ((C, oC) :: (D, lst ys) :: (news ++ own)) (J (pre ++ [k]) (ys ++ [y])) { s with heap := h, toks := tk } s₄) E' s₃
        else CEnd h₀ env.locals m ((C, oC) :: (D, lst ys) :: (news ++ own)) (J (pre ++ [k]) ys) { s with heap := h, toks := tk } s₃) E' { s with heap := h, toks := tk })
    (done : ∀ D ys h tk, J ks ys → (∀ p ∈ news, p.1 < D) → Fr h₀ env.locals h (fun z => if z = y then some (.ref D) else m z) → News h₀ env.locals h ((D, lst ys) :: news) → Q { s with heap := h, toks := tk }) :
    wpAny (model prog w) A (call (.type "enumerate") [.bytes b tb]) (fun xv s₁ => wpAny (model prog w) A (pyIter xv) (fun it s₂ =>
      BlkAt prog w A env scope cl (.ListComp elt [⟨.Tuple [.Name x1 pa, .Name x2 pb] kk tp, iter, [c], 0⟩] scope pos) (compPost (model prog w) A E (some (assign (.Name y py) env)) (fun _ s' => Q s')) E it s₂) E s₁) E s := by
  subst hb
  refine call_enum_bytes fun h' he hi hsz' hk => ?_
  have hcf : s.heap.objs.size + 1 ∉ [s.heap.objs.size] := fun h => Nat.succ_ne_self _ (List.mem_singleton.mp h)
  have W := (WalksT.enumerateD (prog := prog) (w := w) (A := A) (draws_bytes (A := A.in1) hh s.heap.objs.size b tb) (s.heap.objs.size + 1) (Nat.succ_ne_self _) hcf (by simp)).toU
  have hst : ∀ (h : Heap), (∀ x o, h'.get? x = some o → h.get? x = some o) → (∃ old, IsEnum h (s.heap.objs.size + 1) s.heap.objs.size ((0 : Nat) : Int) old) ∧ KBw.IsBytesIter h s.heap.objs.size b tb 0 := fun h up =>
    ⟨⟨_, up _ _ he⟩, let ⟨o, ho, r⟩ := hi; ⟨o, up _ _ ho, r⟩⟩
  refine W.self 0 _ _ _ (hst h' fun _ _ e => e) ?_
  have Fh : Fr h₀ env.locals h' m := F.keeps hk
  have Nh : News h₀ env.locals h' news := fun p hp => ⟨hk _ _ (N p hp).1, (N p hp).2⟩
  have nn : ∀ b, s.heap.objs.size ≤ b → h₀.get? b = none := fun b hb => by
    cases e : h₀.get? b with
    | none => rfl
    | some o => exact absurd (Heap.lt_size (F.keep b o e)) (Nat.not_lt.mpr hb)
  refine blk_in (s := { s with heap := h' }) Fh Nh hcell hkind fun D C oC h tk hD hC up hoC F₁ N₁ => ?_
  replace hD : D = h'.objs.size := hD
  replace hC : C = h'.objs.size + 1 := hC
  rw [hsz'] at hD hC
  have pl : ∀ p ∈ news, p.1 < s.heap.objs.size := fun p hp => Heap.lt_size (N p hp).1
  have ge : ∀ {x k : Nat}, x < s.heap.objs.size → x ∉ [s.heap.objs.size + 1, s.heap.objs.size] := fun hx => nin2' hx
  have hLlt : env.locals < s.heap.objs.size := F.ns.lt
  have cf : ∀ {n k : Nat}, n + 2 + k ∉ [n + 1, n] := fun {n k} => by simp; omega
  have dc : ∀ {n : Nat}, n + 2 ≠ n + 2 + 1 := fun {n} => by omega
  refine pair_loop (s := { s with heap := h, toks := tk }) (n := b.size) (P2 := fun i v0 v1 => ∃ ti c u, v0 = .int i ti ∧ b[i]? = some c ∧ v1 = .int (c.toNat : Int) u) (fun i ys => J ((KBw.bInts b).take i) ys) hh W (fun i vals h => ?_) (by rw [← KBw.ints_length]; exact hsz) hkind hxa hxb hab ?_ (nin2' hLlt) (by rw [hC]; exact cf (k := 1)) (by rw [hD]; exact cf (k := 0)) (fun q hq => nin2' (pl q hq)) (by rw [hD, hC]; exact dc)
    (fun p hp => ?_) (fun p hp => ?_) (hst h fun x o e => up x o e) F₁ N₁ hoC (by simpa using hj) ?_ ?_
  · obtain ⟨t, x, ⟨c, u, h1, h3⟩, h2⟩ := h
    exact ⟨_, _, h2, _, _, _, rfl, h1, h3⟩
  · intro x hx
    rcases List.mem_cons.mp hx with e | hx
    · exact nn _ (e ▸ Nat.le_succ _)
    · exact nn _ ((List.mem_singleton.mp hx) ▸ Nat.le_refl _)
  · rw [hC]; exact Nat.ne_of_lt (Nat.lt_of_lt_of_le (pl p hp) (Nat.le_add_right _ 3))
  · rw [hD]; exact Nat.ne_of_lt (Nat.lt_of_lt_of_le (pl p hp) (Nat.le_add_right _ _))
  · rintro i v0 v1 ys oC' m₂ h₂ tk₂ own E' hi2 ⟨ti, n, u, rfl, hn, rfl⟩ hJ hoC' e1 e2 F₂ N₂
    have hn' := KBw.ints_get hn
    have hs : (KBw.bInts b).take (i + 1) = (KBw.bInts b).take i ++ [(n.toNat : Int)] := by simp [List.take_add_one, hn']
    have e : KBw.bInts b = (KBw.bInts b).take i ++ (n.toNat : Int) :: (KBw.bInts b).drop (i + 1) := by
      have ht := List.take_append_drop (i + 1) (KBw.bInts b)
      rw [hs, List.append_assoc] at ht
      exact ht.symm
    have hl : ((KBw.bInts b).take i).length = i := by
      rw [List.length_take, KBw.ints_length]
      exact Nat.min_eq_left (Nat.le_of_lt hi2)
    dsimp only
    rw [hs]
    exact turn _ _ _ ti u ys C D oC' m₂ h₂ tk₂ own E' e hJ hoC' (by rw [hl]; exact e1) e2 F₂ N₂
  · intro ys oC' m' h₂ tk₂ hJ hoC' F₂ N₂
    have h8 : b.size = (KBw.bInts b).length := (KBw.ints_length b).symm
    rw [h8, List.take_length] at hJ
    refine blk_use (Q := fun _ => Q) hy hp F₂ N₂ hoC' (by rw [hD, hC]; exact dc) (fun p hp => ?_) fun h₃ tk₃ F₃ N₃ => done D ys h₃ tk₃ hJ (fun p hp => ?_) F₃ N₃
    · rw [hC]; exact Nat.ne_of_lt (Nat.lt_of_lt_of_le (pl p hp) (Nat.le_add_right _ 3))
    · rw [hD]; exact Nat.lt_of_lt_of_le (pl p hp) (Nat.le_add_right _ _)
end
section
variable {prog : Program} {w : World} {A A₀ : Around} {s : Shared} {K : Frag} {L : Addr} {h₀ base : Heap} {m mg mb : Str → Option Value} {news : List (Addr × Obj)} {p : Program} {loose : List Str} {mean : ExcName → Option Value}
/-- a def with cells entered, upon the calm stack -/
theorem code_defCN {env : Env} {outer : List Env} {R : Flow → Shared → Prop} {name qual : Str} {params : Arguments} {body : List Stmt} {scope : Scope} {dV kV doc pm cdv ct oc : Value} {an od : Option Addr} {osl : Array (Option Value)} {f : Addr} {args : Args} {binds : List (Str × Value)}
    (B : Below A₀ base outer h₀) (F : Fr h₀ L s.heap m) (X₀ : K.In h₀) (N : News h₀ L s.heap news) (T : Top p loose mean mg mb h₀) (hA : A.frames = some (env :: outer)) (hf : env.frame = some L) (hke : env.scope.kind = .function)
    (ho : K.lookup f = some ⟨oc, od, .func (fnOf name qual params body scope dV kV doc pm an cdv ct), osl⟩) (hcd : codeIn K cdv qual = true) (hroom : A.depth < recursionLimit)
    (hbind : BindsTo s (fnOf name qual params body scope dV kV doc pm an cdv ct) args binds) (hkind : (binds.all fun y => scope.names.lookup y.1 == some .local || scope.names.lookup y.1 == some .cell) = true)
    (hnd : ((cellsFrom 0 scope.names []).map (·.1)).Nodup)
    (h : ∀ g L' h₁ tk cells, Fr h₀ L g m → Fr g L' h₁ (bindL (envOfC qual scope L' f cdv).kindOf binds fun _ => none) → News g L' h₁ (cells ++ news) →
      CellsAre (bindC (envOfC qual scope L' f cdv).kindOf binds fun _ => none) (cellsFrom (L' + 1) scope.names []) cells → Below A base (env :: outer) g → K.In g → Top p loose mean mg mb g → (∀ p ∈ news, p.1 < L') →
      wpN (model prog w) (A.deeper (envOfC qual scope L' f cdv)) (execs body (envOfC qual scope L' f cdv))
        (fun fl s' => LeaveK h₀ L m g (fun r s' => ∃ f, r = .ok f ∧ R f s') (match fl with | .ret v => v | _ => .none) s')
        { s with heap := h₁, toks := tk })
    (hco : scope.isCoroutine = false) (hgen : scope.isGenerator = false) (hk : scope.kind = .function) : codeN (model prog w) A (.call (.ref f) args) R s := by
  obtain ⟨FG, BG, st, lv⟩ := groundN (R := R) B F N hA hf hke
  refine codeN_call_function hroom ((X₀.keeps F.keep) _ _ ho) rfl hco hgen rfl (codeRec_of (X₀.keeps F.keep) hcd) (hbind _ _ _ _ ?_)
  refine wpAny_newFunctionEnv_cells hk (kindsX hkind _) fun env' he s' x => ?_
  subst he
  refine ⟨(T.nolimit.keeps F.keep).keeps x.toInCall.keep, codeN_func ?_⟩
  obtain ⟨h₁, tk, rfl, _⟩ := x.done
  have hk₁ := x.toInCall.keep
  obtain ⟨cells, NC, Y⟩ := Cl.news (h₀ := s.heap) (Nat.le_refl _) fun n c hm => ⟨x.cell n c (lookup_of_mem_nodup (cellsFrom_names scope.names 0 (s.heap.objs.size + 1) [] [] rfl ▸ hnd) hm), x.above n c hm⟩
  refine wpN_mono (h _ s.heap.objs.size h₁ tk cells FG ⟨x.toInCall.ns, fun b o e => hk₁ b o (of_hideAll _ e), Nat.le_of_eq (hideAll_size _ _)⟩ (fun p hp => ?_) Y BG (X₀.keeps st) (T.keeps st) (fun p hp => Heap.lt_size (N p hp).1)) fun fl s' hl => lv _ _ hl
  rcases List.mem_append.mp hp with hp | hp
  · refine ⟨(NC p hp).1, (NC p hp).2.1, ?_⟩
    cases q : (hideAll s.heap (news.map (·.1))).get? p.1 with
    | none => rfl
    | some o => have := of_hideAll _ q; rw [(NC p hp).2.2] at this; cases this
  · exact ⟨hk₁ _ _ (N p hp).1, Nat.ne_of_lt (Heap.lt_size (N p hp).1), hideAll_none _ (List.mem_map_of_mem hp)⟩
end
end Mine
end PartComp2

section PartSwapLaw
open PySem PySem.W PyProof.Rows
set_option maxRecDepth 100000
namespace Mine
theorem swapIn_get (ks : List Int) (W i x : Nat) (hx : x < i * W + W) : ∀ (j : Nat) (a : Array UInt8), j ≤ W → x < a.size →
    (swapIn ks W i j a)[x]? = if i * W + W - 1 - x < j then some ((ks.getD (i * W + (i * W + W - 1 - x)) 0).toNat.toUInt8) else a[x]?
  | 0, a, _, _ => by simp [swapIn]
  | j + 1, a, hj, hs => by
    have ih := swapIn_get ks W i x hx j a (by omega) hs
    rw [swapIn, swapAt, Array.getElem?_setIfInBounds]
    by_cases e : i * W + W - 1 - j = x
    · rw [if_pos e, if_pos (by rw [swapIn_size]; omega), if_pos (by omega)]
      rw [show i * W + W - 1 - x = j by omega]
    · rw [if_neg e, ih]
      by_cases h1 : i * W + W - 1 - x < j
      · rw [if_pos h1, if_pos (by omega)]
      · rw [if_neg h1, if_neg (by omega)]
theorem swapIn_get_out (ks : List Int) (W i x : Nat) (hx : x < i * W ∨ i * W + W ≤ x) : ∀ (j : Nat) (a : Array UInt8), j ≤ W → (swapIn ks W i j a)[x]? = a[x]?
  | 0, a, _ => rfl
  | j + 1, a, hj => by
    rw [swapIn, swapAt, Array.getElem?_setIfInBounds, if_neg (by omega)]
    exact swapIn_get_out ks W i x hx j a (by omega)
theorem byte_back {k : Int} (h : 0 ≤ k ∧ k < 256) : ((k.toNat.toUInt8).toNat : Int) = k := by
  have e : k.toNat.toUInt8.toNat = k.toNat := by
    rw [Nat.toUInt8_eq, UInt8.toNat_ofNat']
    exact Nat.mod_eq_of_lt (by omega)
  rw [e]; omega
theorem bInts_get (a : Array UInt8) (x : Nat) : (KBw.bInts a)[x]? = a[x]?.map fun c => (c.toNat : Int) := by
  simp [KBw.bInts]
theorem getD_byte {ks : List Int} (h : KBa.In ks) (n : Nat) : 0 ≤ ks.getD n 0 ∧ ks.getD n 0 < 256 := by
  rw [List.getD_eq_getElem?_getD]
  cases e : ks[n]? with
  | none => simp
  | some k => exact h k (List.mem_of_getElem? e)
theorem swap_one {ks : List Int} (h : KBa.In ks) : KBw.bInts (swapOut ks (max ks.length 1) (min ks.length 1)) = ks.reverse := by
  cases hl : ks.length with
  | zero =>
    have : ks = [] := List.length_eq_zero_iff.mp hl
    subst this
    rfl
  | succ n =>
    rw [show max (n + 1) 1 = n + 1 by omega, show min (n + 1) 1 = 1 by omega]
    refine List.ext_getElem? fun x => ?_
    rw [bInts_get]
    by_cases hx : x < n + 1
    · show (Option.map _ (swapIn ks (n + 1) 0 (n + 1) (Array.replicate ks.length 0))[x]?) = _
      rw [swapIn_get ks (n + 1) 0 x (by omega) (n + 1) _ (Nat.le_refl _) (by simp [hl]; omega), if_pos (by omega)]
      rw [Option.map_some, byte_back (getD_byte h _)]
      rw [List.getElem?_reverse (by omega), List.getD_eq_getElem?_getD, show 0 * (n + 1) + (0 * (n + 1) + (n + 1) - 1 - x) = ks.length - 1 - x by omega]
      rw [List.getElem?_eq_getElem (by omega)]; rfl
    · rw [Array.getElem?_eq_none (by rw [swapOut_size]; omega), List.getElem?_eq_none (by rw [List.length_reverse]; omega)]
      rfl
theorem swap_two {ks : List Int} (h : KBa.In ks) (hl : ks.length = 20) : KBw.bInts (swapOut ks 10 2) = (ks.take 10).reverse ++ (ks.drop 10).reverse := by
  refine List.ext_getElem? fun x => ?_
  rw [bInts_get]
  show (Option.map _ (swapIn ks 10 1 10 (swapIn ks 10 0 10 (Array.replicate ks.length 0)))[x]?) = _
  by_cases h1 : x < 10
  · rw [swapIn_get_out ks 10 1 x (by omega) 10 _ (Nat.le_refl _)]
    rw [swapIn_get ks 10 0 x (by omega) 10 _ (Nat.le_refl _) (by simp [hl]; omega), if_pos (by omega)]
    rw [Option.map_some, byte_back (getD_byte h _)]
    rw [List.getElem?_append_left (by simp [hl]; omega), List.getElem?_reverse (by simp [hl]; omega), List.getD_eq_getElem?_getD]
    rw [show 0 * 10 + (0 * 10 + 10 - 1 - x) = 9 - x by omega, List.length_take, hl, show min 10 20 - 1 - x = 9 - x by omega, List.getElem?_take_of_lt (by omega), List.getElem?_eq_getElem (by omega)]; rfl
  · by_cases h2 : x < 20
    · rw [swapIn_get ks 10 1 x (by omega) 10 _ (Nat.le_refl _) (by rw [swapIn_size]; simp [hl]; omega), if_pos (by omega)]
      rw [Option.map_some, byte_back (getD_byte h _)]
      rw [List.getElem?_append_right (by simp [hl]; omega), List.getElem?_reverse (by simp [hl]; omega), List.getD_eq_getElem?_getD]
      rw [List.length_drop, List.length_reverse, List.length_take, hl, List.getElem?_drop, show 1 * 10 + (1 * 10 + 10 - 1 - x) = 10 + (20 - 10 - 1 - (x - min 10 20)) by omega, List.getElem?_eq_getElem (by omega)]; rfl
    · rw [Array.getElem?_eq_none (by rw [swapIn_size, swapIn_size]; simp [hl]; omega), List.getElem?_eq_none (by simp [hl]; omega)]
      rfl
end Mine
end PartSwapLaw

section PartParted
open PySem PySem.W PyProof.Rows PyProof.Rows.LCg
set_option maxRecDepth 100000
set_option maxHeartbeats 8000000
namespace Mine
/-- the octets behind which the walk stands as q asks; hs: the heights but the first -/
def part (q : Int → Bool) : List Int → List Int → List Int
  | k :: r, h :: t => if q h then k :: part q r t else part q r t
  | _, _ => []
theorem part_snoc (q : Int → Bool) (k : Int) : ∀ (pre hs : List Int), pre.length < hs.length → part q (pre ++ [k]) hs = part q pre hs ++ (if q (hs.getD pre.length 0) then [k] else [])
  | [], [], h => by simp at h
  | [], x :: t, _ => by
    show part q [k] (x :: t) = _
    simp only [part, List.nil_append, List.length_nil, List.getD_cons_zero]
  | j :: r, [], h => by simp at h
  | j :: r, x :: t, h => by
    have ih := part_snoc q k r t (by simpa using h)
    simp only [List.cons_append, part, List.length_cons, List.getD_cons_succ, ih]
    split <;> rfl
theorem tail_getD (hs : List Int) (n : Nat) : hs.tail.getD n 0 = hs.getD (n + 1) 0 := by
  cases hs <;> rfl
theorem part_step {q : Int → Bool} {k : Int} {pre hs : List Int} (h : pre.length + 1 < hs.length) : part q (pre ++ [k]) hs.tail = part q pre hs.tail ++ (if q (hs.getD ((pre.length : Int) + 1).toNat 0) then [k] else []) := by
  rw [part_snoc q k pre hs.tail (by rw [List.length_tail]; omega), tail_getD, show ((pre.length : Int) + 1).toNat = pre.length + 1 by omega]
theorem part_mem {q : Int → Bool} : ∀ {ks hs : List Int}, ∀ k ∈ part q ks hs, k ∈ ks
  | [], _, k, h => by simp [part] at h
  | _ :: _, [], k, h => by simp [part] at h
  | j :: r, x :: t, k, h => by
    rw [part] at h
    split at h
    · rcases List.mem_cons.mp h with rfl | h
      · exact List.mem_cons_self
      · exact List.mem_cons_of_mem _ (part_mem k h)
    · exact List.mem_cons_of_mem _ (part_mem k h)
theorem part_length {q : Int → Bool} : ∀ {ks hs : List Int}, (part q ks hs).length ≤ ks.length
  | [], _ => by simp [part]
  | _ :: _, [] => by simp [part]
  | j :: r, x :: t => by
    rw [part]
    have := @part_length q r t
    split <;> simp only [List.length_cons] <;> omega
abbrev up (h : Int) : Bool := decide (0 < h)
abbrev dn (h : Int) : Bool := decide (h ≤ 0)
section
local macro_rules | `(tactic| walk_at "call type:enumerate") => `(tactic| with_reducible refine Stop.mk ?_)
theorem parted_tell {t : Tok} {b : Array UInt8} {ks hs : List Int} {l : Addr} {vs : List Value} {c : Nat} {news : List (Addr × Obj)} (hb : KBw.bInts b = ks) (hlen : ks.length ≤ 100) (hi : IntsAre vs hs) (hl : hs.length = ks.length + 1) :
    TellN 40 87 [.bytes b t, .ref l] ((l, listOf vs.toArray c) :: news) (fun r nx => ∃ b' t', r = .bytes b' t' ∧ KBw.bInts b' = (part up ks hs.tail).reverse ++ part dn ks hs.tail ∧ nx = (l, listOf vs.toArray c) :: news) := by
  unfold TellN
  w_top off
  k_fill
  intro w p loose mean mg mb dp un gd cn cs a ccd cl outer A₀ base h₀ L m s Q B F X N T hk hd hu hret
  refine wpN_call ?_
  k_dflt (refine' code_defCN (binds := [(Str.ofString "octets", .bytes b t), (Str.ofString "heights", .ref l)]) B F X N T ?kA ?kF ?kK ?k6 ?k7 ?k8 ?k9 ?kB ?kD ?_ ?c2 ?c3 ?c4; (case kA => exact rfl); (case kF => exact rfl); (case kK => exact hk); (case k6 => k_is); (case k7 => k_is); (case k8 => ktr_room); (case k9 => exact BindsTo.of_eq rfl); (case kB => exact rfl); (case kD => decide +kernel); (case c2 => exact rfl); (case c3 => exact rfl); (case c4 => exact rfl))
  intro g L1 h1 tk1 cells FG F1 N1 Y B1 X1 T1 l1
  k_cells Y
  have hMk := kstMark
  refine wpN_execs_cons ?_
  refine wpN_of ?_
  refine Assign_blk (by with_unfolding_all rfl) (by rfl) (by rfl) (by decide) ?_
  try k_fold
  w_strict k_steps
  refine Stop.out ?_
  rename_i o' d1'
  replace d1' : o'.data = .cell (some (.ref l)) := d1'
  have hvl : vs.length = hs.length := hi.length
  (try k_unfold)
  refine Assign_enumB (fun pre ys => IntsAre ys (part up pre hs.tail)) hb (Nat.le_trans hlen (by decide)) ?_ ?_ ?_ ?_ ?_ ?_ ?_ ?_ F1 N1 .nil ?_ ?_
  · rfl
  · decide
  · rfl
  · rfl
  · rfl
  · decide
  · rfl
  · rfl
  · intro pre post k ti tk ys C D oC m₂ h tk2 own E' he hJ hoC e1 e2 F2 N2
    have hpl : pre.length < ks.length := by rw [he]; simp
    clear F1 N1
    try k_fold
    w_strict k_steps
    · exact ⟨_, _, _, rfl, F2, N2, fun p hp => hp, by
        rw [part_step (by omega), if_pos (by simpa using ‹0 < hs.getD _ 0›)]
        exact hJ.append (.cons _ _ .nil)⟩
    · exact ⟨_, _, _, rfl, F2, N2, fun p hp => hp, by
        rw [part_step (by omega), if_neg (by simpa using ‹¬ 0 < hs.getD _ 0›), List.append_nil]
        exact hJ⟩
  intro D1 ys1 h2 tk2 hJ1 hD1 F2 N2
  clear F1 N1
  refine wpN_execs_cons ?_
  refine wpN_of ?_
  refine Assign_blk (by with_unfolding_all rfl) (by rfl) (by rfl) (by decide) ?_
  try k_fold
  w_strict k_steps
  refine Stop.out ?_
  (try k_unfold)
  refine Assign_enumB (fun pre ys => IntsAre ys (part dn pre hs.tail)) hb (Nat.le_trans hlen (by decide)) ?_ ?_ ?_ ?_ ?_ ?_ ?_ ?_ F2 N2 .nil ?_ ?_
  · rfl
  · decide
  · rfl
  · rfl
  · rfl
  · decide
  · rfl
  · rfl
  · intro pre post k ti tk ys C D oC m₂ h tk2 own E' he hJ hoC e1 e2 F3 N3
    have hpl : pre.length < ks.length := by rw [he]; simp
    clear F2 N2
    try k_fold
    w_strict k_steps
    · exact ⟨_, _, _, rfl, F3, N3, fun p hp => hp, by
        rw [part_step (by omega), if_pos (by simpa using ‹hs.getD _ 0 ≤ 0›)]
        exact hJ.append (.cons _ _ .nil)⟩
    · exact ⟨_, _, _, rfl, F3, N3, fun p hp => hp, by
        rw [part_step (by omega), if_neg (by simpa using ‹¬ hs.getD _ 0 ≤ 0›), List.append_nil]
        exact hJ⟩
  intro D2 ys2 h3 tk3 hJ2 hD2 F3 N3
  clear F2 N2
  have in1 : KBa.In (part up ks hs.tail) := fun k hk => KBw.ints_in (b := b) (by rw [hb]; exact part_mem k hk)
  have in2 : KBa.In (part dn ks hs.tail) := fun k hk => KBw.ints_in (b := b) (by rw [hb]; exact part_mem k hk)
  have ln1 : (part up ks hs.tail).length ≤ ks.length := part_length
  have ln2 : (part dn ks hs.tail).length ≤ ks.length := part_length
  have lv1 : ys1.length = (part up ks hs.tail).length := hJ1.length
  have lv2 : ys2.length = (part dn ks hs.tail).length := hJ2.length
  refine wpN_execs_cons (wpN_Return (wpN_BinOp (wpN_CallName (f := .ref 21) (P := (Mine.hd.heap_39 w.params).In) (fun _ X' => looks_keep (by rfl) X') ?_)))
  try k_fold
  w_strict k_steps
  obtain ⟨n, hn⟩ : ∃ n, (part up ks hs.tail).length = n := ⟨_, rfl⟩
  have eW : ∀ a : Int, a = (n : Int) → (if (1 : Int) > a then (1 : Int) else a) = ((max n 1 : Nat) : Int) := by
    intro a ha
    subst ha
    split <;> omega
  have eq : n = min n 1 * max n 1 := by
    cases n with
    | zero => rfl
    | succ n => rw [show max (n + 1) 1 = n + 1 by omega, show min (n + 1) 1 = 1 by omega]; omega
  rename Fr _ _ _ _ => F6
  rename News _ _ _ _ => N6
  rw [eW _ (by first | rw [hn] | (rw [lv1, hn]) | omega)]
  refine TellN.use (swap_tell (q := min n 1) (KBa.ints_make in1) (by omega) (by rw [hn]; exact eq) (by omega) (by omega)) B1 F6 X1 N6 T1 rfl (by show dp + 1 + 20 < _; omega) (by show un + 3 + 10 * 20 < _; omega) ?_
  rintro r nx h7 tk7 ⟨t7, rfl, rfl⟩ F7 N7
  have hsw : KBw.bInts (swapOut (part up ks hs.tail) (max n 1) (min n 1)) = (part up ks hs.tail).reverse := by
    have := swap_one in1
    rwa [hn] at this
  clear F6 N6
  try k_fold
  w_strict k_steps
  refine KBa.add_K hsw (KBa.ints_make in2) (by rw [List.length_reverse]; omega) ?_
  intro t8 k8 happ
  dsimp only
  try k_fold
  w_strict k_steps
  rename_i kF kN kT kX
  refine hret _ ((l, listOf vs.toArray c) :: news) _ _ ⟨_, t8, rfl, happ, rfl⟩ kF fun p hp => kN p ?_
  exact List.mem_cons_of_mem _ (List.mem_cons_of_mem _ (List.mem_append_right _ hp))
end
end Mine
end PartParted

section PartNest
open PySem PySem.W PyProof.Rows PySem.Calls PyProof.Rows.LCg
set_option maxRecDepth 100000
set_option maxHeartbeats 2000000
namespace Mine
abbrev lc2 (elt t0 i0 t1 i1 : Expr) (scope : Scope) (pos : Pos) : Expr := .ListComp elt [⟨t0, i0, [], 0⟩, ⟨t1, i1, [], 0⟩] scope pos
theorem compTurn_two0 (elt t0 i0 t1 i1 : Expr) (scope : Scope) (pos : Pos) (it acc : Value) (env : Env) :
    compTurn (lc2 elt t0 i0 t1 i1 scope pos) 0 it acc env = (standAt i0.pos >>= fun _ => pyNext it >>= fun r => match r with
      | none => pure (.done .next)
      | some v => letOwnedTupleGo t0 it v >>= fun _ => assign t0 env v >>= fun _ =>
        (eval i1 env >>= fun x => standAt i1.pos >>= fun _ => foldedSetIterable i1 env x >>= fun x => holding [x] (pyIter x) >>= fun it1 => runOwn (.compStart (lc2 elt t0 i0 t1 i1 scope pos) 1 it1 acc env) env >>= fun _ =>
          again (.compLoop (lc2 elt t0 i0 t1 i1 scope pos) 0 it acc env))) := by rfl
theorem compTurn_two1 (elt t0 i0 t1 i1 : Expr) (scope : Scope) (pos : Pos) (it acc : Value) (env : Env) :
    compTurn (lc2 elt t0 i0 t1 i1 scope pos) 1 it acc env = (standAt i1.pos >>= fun _ => pyNext it >>= fun r => match r with
      | none => pure (.done .next)
      | some v => letOwnedTupleGo t1 it v >>= fun _ => assign t1 env v >>= fun _ =>
        (eval elt env >>= fun x => call (.builtin "list.append") [acc, x] >>= fun _ => pure ()) >>= fun _ =>
          again (.compLoop (lc2 elt t0 i0 t1 i1 scope pos) 1 it acc env)) := by rfl
/-- what one turn of a clause leaves -/
def NEnd (h₀ : Heap) (L : Addr) (m : Str → Option Value) (C D : Addr) (keep : List (Addr × Obj)) (P : List Value → Prop) (s₁ s₂ : Shared) : Prop :=
  ∃ h' tk oC m' ys, s₂ = { s₁ with heap := h', toks := tk } ∧ Fr h₀ L h' m ∧ NsObj oC m' ∧ News h₀ L h' ((C, oC) :: (D, lst ys) :: keep) ∧ P ys
section
variable {prog : Program} {w : World} {A : Around} {E : Value → Shared → Prop} {s : Shared} {env : Env} {h₀ : Heap} {L : Addr} {m : Str → Option Value} {scope : Scope} {cl : List (Str × Addr)} {news : List (Addr × Obj)} {R : Result → Shared → Prop} {elt t0 i0 t1 i1 : Expr} {pos : Pos} {it acc : Value}
def B0 (prog : Program) (w : World) (A : Around) (e i1 : Expr) (acc : Value) (env : Env) (R : Result → Shared → Prop) (P : Shared → Prop) (s₂ : Shared) : Prop :=
  wpAny (model prog w) A (eval i1 env) (fun x s₃ => wpAny (model prog w) A (pyIter x) (fun it1 s₄ => codeAny (model prog w) A (.compStart e 1 it1 acc env) (fun r s' => match r with | .ok _ => P s' | .error e => cameBackBy (model prog w) A env (notedBy (model prog w) A env fun e s' => R (.error e) s') e s') s₄)
    (notedBy (model prog w) A env fun e s' => R (.error e) s') s₃) (notedBy (model prog w) A env fun e s' => R (.error e) s') s₂
def B1 (prog : Program) (w : World) (A : Around) (elt : Expr) (acc : Value) (env : Env) (R : Result → Shared → Prop) (P : Shared → Prop) (s₂ : Shared) : Prop :=
  wpAny (model prog w) A (eval elt env) (fun x s₃ => wpAny (model prog w) A (call (.builtin "list.append") [acc, x]) (fun _ s₄ => P s₄) (notedBy (model prog w) A env fun e s' => R (.error e) s') s₃) (notedBy (model prog w) A env fun e s' => R (.error e) s') s₂
theorem B0.mono {e : Expr} {P P' : Shared → Prop} (h : ∀ s, P s → P' s) (x : B0 prog w A e i1 acc env R P s) : B0 prog w A e i1 acc env R P' s :=
  wpAny_mono x (fun _ _ y => wpAny_mono y (fun _ _ z => codeAny_mono z fun r s' hr => by cases r with | ok f => exact h _ hr | error e => exact hr) fun _ _ q => q) fun _ _ q => q
theorem B1.mono {P P' : Shared → Prop} (h : ∀ s, P s → P' s) (x : B1 prog w A elt acc env R P s) : B1 prog w A elt acc env R P' s :=
  wpAny_mono x (fun _ _ y => wpAny_mono y (fun _ _ z => h _ z) fun _ _ q => q) fun _ _ q => q
theorem two0 (I : Nat → Shared → Prop)
    (turn : ∀ n s, I n s → wpAny (model prog w) A (pyNext it) (fun r s₁ => match r with
      | none => R (.ok .next) s₁
      | some v => wpAny (model prog w) A (assign t0 env v) (fun _ s₂ => B0 prog w A (lc2 elt t0 i0 t1 i1 scope pos) i1 acc env R (fun s' => ∃ m, m < n ∧ I m s') s₂) (notedBy (model prog w) A env fun e s' => R (.error e) s') s₁) (notedBy (model prog w) A env fun e s' => R (.error e) s') s)
    (n : Nat) (h : I n s) (ht : ∀ v, letOwnedTupleGo t0 it v = pure ()) (hs : ∀ x, foldedSetIterable i1 env x = pure x) :
    codeAny (model prog w) A (.compLoop (lc2 elt t0 i0 t1 i1 scope pos) 0 it acc env) R s := by
  refine codeAny_loop rfl I (fun n s hI => ?_) n h
  show wpAny _ _ ((compTurn (lc2 elt t0 i0 t1 i1 scope pos) 0 it acc env).onRaise (fun x => do noteFrame x env; theTreesLotGoes x)) _ _ s
  refine wpAny_noted ?_
  rw [compTurn_two0]
  refine wpAny_bind (wpAny_standAt (wpAny_bind (wpAny_mono (turn n s hI) (fun r s₁ h₁ => ?_) fun _ _ h' => h')))
  cases r with
  | none => exact wpAny_pure h₁
  | some v =>
    refine wpAny_bind (wpAny_of_eq (ht v) ?_)
    refine wpAny_bind (wpAny_mono h₁ (fun _ s₂ h₂ => ?_) fun _ _ h' => h')
    refine wpAny_bind (wpAny_mono h₂ (fun x s₃ h₃ => wpAny_bind (wpAny_standAt (wpAny_bind (wpAny_of_eq (hs x) (wpAny_bind (wpAny_holding (wpAny_mono h₃ (fun it1 s₄ h₄ => ?_) fun _ _ h' => h'))))))) fun _ _ h' => h')
    refine wpAny_bind (wpAny_runOwn (codeAny_mono h₄ fun r s' hr => ?_))
    cases r with
    | ok f => exact wpAny_pure ⟨rfl, hr⟩
    | error e => exact hr
theorem two1 (I : Nat → Shared → Prop)
    (turn : ∀ n s, I n s → wpAny (model prog w) A (pyNext it) (fun r s₁ => match r with
      | none => R (.ok .next) s₁
      | some v => wpAny (model prog w) A (assign t1 env v) (fun _ s₂ => B1 prog w A elt acc env R (fun s' => ∃ m, m < n ∧ I m s') s₂) (notedBy (model prog w) A env fun e s' => R (.error e) s') s₁) (notedBy (model prog w) A env fun e s' => R (.error e) s') s)
    (n : Nat) (h : I n s) (ht : ∀ v, letOwnedTupleGo t1 it v = pure ()) :
    codeAny (model prog w) A (.compLoop (lc2 elt t0 i0 t1 i1 scope pos) 1 it acc env) R s := by
  refine codeAny_loop rfl I (fun n s hI => ?_) n h
  show wpAny _ _ ((compTurn (lc2 elt t0 i0 t1 i1 scope pos) 1 it acc env).onRaise (fun x => do noteFrame x env; theTreesLotGoes x)) _ _ s
  refine wpAny_noted ?_
  rw [compTurn_two1]
  refine wpAny_bind (wpAny_standAt (wpAny_bind (wpAny_mono (turn n s hI) (fun r s₁ h₁ => ?_) fun _ _ h' => h')))
  cases r with
  | none => exact wpAny_pure h₁
  | some v =>
    refine wpAny_bind (wpAny_of_eq (ht v) ?_)
    exact wpAny_bind (wpAny_mono h₁ (fun _ s₂ h₂ => wpAny_bind (wpAny_bind (wpAny_mono h₂ (fun x s₃ h₃ => wpAny_bind (wpAny_mono h₃
      (fun _ s₄ h₄ => wpAny_pure (wpAny_pure ⟨rfl, h₄⟩)) fun _ _ h' => h')) fun _ _ h' => h'))) fun _ _ h' => h')
theorem start1 (h0 : codeAny (model prog w) A (.compLoop (lc2 elt t0 i0 t1 i1 scope pos) 1 it acc env) R s)
    (h : wpAny (model prog w) A (pyIter it) (fun it' s' => codeAny (model prog w) A (.compLoop (lc2 elt t0 i0 t1 i1 scope pos) 1 it' acc env) R s')
      (notedBy (model prog w) A env fun x s' => R (.error x) s') s) :
    codeAny (model prog w) A (.compStart (lc2 elt t0 i0 t1 i1 scope pos) 1 it acc env) R s := by
  refine codeAny_of_tree ?_
  show wpAny _ _ ((compStart (lc2 elt t0 i0 t1 i1 scope pos) 1 it acc env).onRaise (fun x => do noteFrame x env; standAt theWindowsPlace)) _ _ s
  refine wpAny_notedAt ?_
  unfold compStart
  show wpAny _ _ (ask >>= _) _ _ s
  refine wpAny_bind (wpAny_askSetting (wpAny_ite ?_))
  split
  · first
      | exact wpAny_bind (wpAny_pure (wpAny_pure (And.intro rfl h0)))
      | exact wpAny_pure (And.intro rfl h0)
  · first
      | exact wpAny_bind (wpAny_rule (wpAny_bind (wpAny_standAt (wpAny_bind (wpAny_mono h (fun it' s' h' => wpAny_pure (And.intro rfl h')) fun _ _ x => x)))))
      | (refine wpAny_bind (wpAny_rule ?_); show wpAny _ _ (standAt i1.pos >>= _) _ _ s; exact wpAny_bind (wpAny_standAt (wpAny_bind (wpAny_mono h (fun it' s' h' => wpAny_pure (And.intro rfl h')) fun _ _ x => x))))

/-- the turns of a clause with one name: what stays, what is filled -/
theorem name_turns {x : Str} {px : Pos} {I C D : Addr} {oC₀ : Obj} {mC₀ : Str → Option Value} {ys₀ : List Value} {fp wr : List Addr} {n : Nat} {P : Nat → Value → Prop} {St : Nat → Heap → Prop} {c : Code} {B : (Shared → Prop) → Shared → Prop} {Ex : Value → Shared → Prop}
    (LP : ∀ (I' : Nat → Shared → Prop), (∀ n s, I' n s → wpAny (model prog w) A (pyNext (.ref I)) (fun r s₁ => match r with
      | none => R (.ok .next) s₁
      | some v => wpAny (model prog w) A (assign (.Name x px) (compEnvC scope cl C env) v) (fun _ s₂ => B (fun s' => ∃ m, m < n ∧ I' m s') s₂) Ex s₁) Ex s) → ∀ n s, I' n s → codeAny (model prog w) A c R s)
    (hB : ∀ (P P' : Shared → Prop) (s : Shared), (∀ s, P s → P' s) → B P s → B P' s)
    (J : Nat → List Value → Prop) (W : Walks prog w A I fp wr n P St)
    (hkind : scope.kind = .function) (hx : scope.names.lookup x = some .local)
    (hwr : ∀ x ∈ wr, h₀.get? x = none) (hLf : L ∉ fp) (hCf : C ∉ fp) (hDf : D ∉ fp) (hnw : ∀ q ∈ news, q.1 ∉ wr) (hDC : D ≠ C) (offC : ∀ p ∈ news, p.1 ≠ C)
    (hst : St 0 s.heap) (F : Fr h₀ L s.heap m) (N : News h₀ L s.heap ((C, oC₀) :: (D, lst ys₀) :: news)) (hC₀ : NsObj oC₀ mC₀) (hj : J 0 ys₀)
    (turn : ∀ i v ys oC m₂ h tk own, i < n → P i v → J i ys → (∀ p ∈ own, p.1 ∈ fp) → NsObj oC m₂ → m₂ x = some v → Fr h₀ L h m → News h₀ L h ((C, oC) :: (D, lst ys) :: (news ++ own)) →
      B (NEnd h₀ L m C D (news ++ own) (J (i + 1)) { s with heap := h, toks := tk }) { s with heap := h, toks := tk })
    (done : ∀ ys oC m' h tk, J n ys → NsObj oC m' → Fr h₀ L h m → News h₀ L h ((C, oC) :: (D, lst ys) :: news) → R (.ok .next) { s with heap := h, toks := tk }) :
    codeAny (model prog w) A c R s := by
  have hLw : L ∉ wr := fun h => hLf (W.sub _ h)
  have old : ∀ b o, h₀.get? b = some o → b ∉ wr := fun b o e hb => by rw [hwr b hb] at e; cases e
  refine LP (fun k s' => ∃ h' tk i ys oC m', s' = { s with heap := h', toks := tk } ∧ i ≤ n ∧ k = n + 1 - i ∧ St i h' ∧ Fr h₀ L h' m ∧ NsObj oC m' ∧ News h₀ L h' ((C, oC) :: (D, lst ys) :: news) ∧ J i ys) ?_ (n + 1) s
    ⟨s.heap, s.toks, 0, ys₀, oC₀, mC₀, rfl, Nat.zero_le _, rfl, hst, F, hC₀, N, hj⟩
  rintro k s' ⟨h', tk, i, ys, oC, m', rfl, hi, rfl, hst', F', hn', N', hJ⟩
  have zC := N' (C, oC) List.mem_cons_self
  have offW : ∀ p ∈ (C, oC) :: (D, lst ys) :: news, p.1 ∉ wr := fun p hp => by
    rcases List.mem_cons.mp hp with rfl | hp
    · exact fun h => hCf (W.sub _ h)
    rcases List.mem_cons.mp hp with rfl | hp
    · exact fun h => hDf (W.sub _ h)
    · exact hnw p hp
  have next : ∀ h₁ : Heap, (∀ b o, b ∉ wr → h'.get? b = some o → h₁.get? b = some o) → Fr h₀ L h₁ m ∧ News h₀ L h₁ ((C, oC) :: (D, lst ys) :: news) := fun h₁ hk₁ =>
    ⟨⟨F'.ns.at' fun o e => hk₁ _ o hLw e, fun b o e => hk₁ b o (old b o e) (F'.keep b o e), F'.above⟩, fun p hp => ⟨hk₁ _ _ (offW p hp) (N' p hp).1, (N' p hp).2⟩⟩
  by_cases hlt : i < n
  · refine W.item i _ _ _ hlt hst' fun v h₂ tk₂ hP hst₂ hk₂ => ?_
    obtain ⟨F₂, N₂⟩ := next h₂ hk₂
    refine wpAny_assign_Name (wpAny_storeName_local (env := compEnvC scope cl C env) (lookup_relabel_local hx) (hn'.ns (N₂ _ List.mem_cons_self).1) (fun h₄ hn₄ hs₄ => ?_) (by simp [compEnvC, relabel, hkind]))
    replace hs₄ : Heap.SameBut C h₂ h₄ := hs₄
    obtain ⟨oC', heC, hoC⟩ := ns_obj hn₄
    replace heC : h₄.get? C = some oC' := heC
    have F₄ : Fr h₀ L h₄ m := F₂.change hs₄ zC.2.1 zC.2.2
    have hst₄ : St (i + 1) h₄ := W.frame _ _ _ hst₂ fun x hx o e => hs₄.extBut x o (fun q => hCf (q ▸ hx)) e
    have N₄ : News h₀ L h₄ ((C, oC') :: (D, lst ys) :: (news ++ PyProof.Rows.ownOf h₀ fp h₄)) := fun p hp => by
      rcases List.mem_cons.mp hp with rfl | hp
      · exact ⟨heC, zC.2⟩
      rcases List.mem_cons.mp hp with rfl | hp
      · have z := N₂ (D, lst ys) (List.mem_cons_of_mem _ List.mem_cons_self)
        exact ⟨hs₄.extBut _ _ hDC z.1, z.2⟩
      rcases List.mem_append.mp hp with hp | hp
      · have z := N₂ p (List.mem_cons_of_mem _ (List.mem_cons_of_mem _ hp))
        exact ⟨hs₄.extBut _ _ (offC p hp) z.1, z.2⟩
      · exact (news_ownOf hLf) p hp
    refine hB _ _ _ (fun s₅ h₅ => ?_) (turn i v ys oC' _ h₄ _ (PyProof.Rows.ownOf h₀ fp h₄) hlt hP hJ ownOf_sub hoC (by simp) F₄ N₄)
    obtain ⟨h₅, tk₅, oC₅, m₅, ys₅, rfl, F₅, hoC₅, N₅, hJ₅⟩ := h₅
    refine ⟨n + 1 - (i + 1), by omega, h₅, tk₅, i + 1, ys₅, oC₅, m₅, rfl, hlt, rfl, ?_, F₅, hoC₅, fun p hp => N₅ p ?_, hJ₅⟩
    · refine W.frame _ _ _ hst₄ fun x hx o e => ?_
      cases hn : h₀.get? x with
      | some o₀ =>
        have : o₀ = o := by have q := F₄.keep x o₀ hn; rw [e] at q; exact (Option.some.inj q).symm
        exact this ▸ F₅.keep x o₀ hn
      | none => exact (N₅ (x, o) (List.mem_cons_of_mem _ (List.mem_cons_of_mem _ (List.mem_append_right _ (mem_ownOf hx hn e))))).1
    · rcases List.mem_cons.mp hp with rfl | hp
      · exact List.mem_cons_self
      rcases List.mem_cons.mp hp with rfl | hp
      · exact List.mem_cons_of_mem _ List.mem_cons_self
      · exact List.mem_cons_of_mem _ (List.mem_cons_of_mem _ (List.mem_append_left _ hp))
  · have hin : i = n := by omega
    subst hin
    refine W.done _ _ _ hst' fun h₁ tk₁ hk₁ => ?_
    obtain ⟨F₁, N₁⟩ := next h₁ hk₁
    exact done ys oC m' h₁ tk₁ hJ hn' F₁ N₁
end
end Mine
end PartNest

section PartNest2
open PySem PySem.W PyProof.Rows PySem.Calls PyProof.Rows.LCg
set_option maxRecDepth 100000
set_option maxHeartbeats 2000000
namespace Mine
section
variable {prog : Program} {w : World} {A : Around} {E : Value → Shared → Prop} {s : Shared} {env : Env} {h₀ : Heap} {L : Addr} {m : Str → Option Value} {scope : Scope} {cl : List (Str × Addr)} {news : List (Addr × Obj)} {R : Result → Shared → Prop} {elt t0 i0 i1 : Expr} {pos : Pos}
/-- what the block's word says of its sign -/
def Ords (prog : Program) (w : World) (A : Around) (h₀ : Heap) (L : Addr) (m : Str → Option Value) (news : List (Addr × Obj)) (elt : Expr) (x : Str) (cenv : Env) (C D : Addr) (s : Shared) : Prop :=
  ∀ (n : Nat) (t : Tok) (ys : List Value) (oC : Obj) (m₂ : Str → Option Value) (h : Heap) (tk : Nat) (own : List (Addr × Obj)) (Q' : Value → Shared → Prop) (E' : Value → Shared → Prop),
    NsObj oC m₂ → m₂ x = some (.str ⟨#[n]⟩ t) → Fr h₀ L h m → News h₀ L h ((C, oC) :: (D, lst ys) :: (news ++ own)) → (∀ t' tk', Q' (.int (n : Nat) t') { s with heap := h, toks := tk' }) →
    wpAny (model prog w) A (eval elt cenv) Q' E' { s with heap := h, toks := tk }
theorem inner_clause {x : Str} {px : Pos} {I C D : Addr} {oC₀ : Obj} {mC₀ : Str → Option Value} {ys₀ : List Value} {as₀ : List Int} {cs : List Nat} {fp : List Addr} {n : Nat} {P : Nat → Value → Prop} {St : Nat → Heap → Prop}
    (W : Walks prog w A I fp [I] n P St) (hn : n = cs.length) (hP : ∀ i v, P i v → ∃ c t, cs[i]? = some c ∧ v = .str ⟨#[c]⟩ t) (hsz : ys₀.length + cs.length ≤ 1000)
    (hkind : scope.kind = .function) (hx : scope.names.lookup x = some .local)
    (hI₀ : h₀.get? I = none) (hLf : L ∉ fp) (hCf : C ∉ fp) (hDf : D ∉ fp) (hnI : ∀ q ∈ news, q.1 ≠ I) (hDC : D ≠ C) (offC : ∀ p ∈ news, p.1 ≠ C) (offD : ∀ p ∈ news, p.1 ≠ D)
    (hst : St 0 s.heap) (F : Fr h₀ L s.heap m) (N : News h₀ L s.heap ((C, oC₀) :: (D, lst ys₀) :: news)) (hC₀ : NsObj oC₀ mC₀) (hy : IntsAre ys₀ as₀)
    (helt : Ords prog w A h₀ L m news elt x (compEnvC scope cl C env) C D s)
    (done : ∀ ys oC m' h tk, IntsAre ys (as₀ ++ cs.map fun c => ((c : Nat) : Int)) → NsObj oC m' → Fr h₀ L h m → News h₀ L h ((C, oC) :: (D, lst ys) :: news) → R (.ok .next) { s with heap := h, toks := tk }) :
    codeAny (model prog w) A (.compStart (lc2 elt t0 i0 (.Name x px) i1 scope pos) 1 (.ref I) (.ref D) (compEnvC scope cl C env)) R s := by
  subst hn
  have loop : codeAny (model prog w) A (.compLoop (lc2 elt t0 i0 (.Name x px) i1 scope pos) 1 (.ref I) (.ref D) (compEnvC scope cl C env)) R s := by
    refine name_turns (B := B1 prog w A elt (.ref D) (compEnvC scope cl C env) R) (Ex := notedBy (model prog w) A (compEnvC scope cl C env) fun e s' => R (.error e) s')
      (fun I' turn n s h => two1 I' turn n h (fun _ => rfl)) (fun P P' s h x => B1.mono h x) (fun i ys => IntsAre ys (as₀ ++ (cs.take i).map fun c => ((c : Nat) : Int))) W hkind hx
      (fun b hb => (List.mem_singleton.mp hb) ▸ hI₀) hLf hCf hDf (fun q hq h => hnI q hq (List.mem_singleton.mp h)) hDC offC hst F N hC₀ (by simpa using hy) ?_ ?_
    · intro i v ys oC m₂ h tk own hi hv hj hown hoC hm F₁ N₁
      obtain ⟨c, t, hc, rfl⟩ := hP i v hv
      unfold B1
      refine helt c t ys oC m₂ h tk own _ _ hoC hm F₁ N₁ fun t' tk' => ?_
      have zD := N₁ (D, lst ys) (List.mem_cons_of_mem _ List.mem_cons_self)
      have hyl : ys.length = as₀.length + (cs.take i).length := by rw [hj.length]; simp
      have hal : ys₀.length = as₀.length := hy.length
      have htl : (cs.take i).length ≤ cs.length := by rw [List.length_take]; omega
      refine append_at (hsz := by show ys.toArray.size ≤ sizeLine; rw [List.size_toArray, sizeLine_eq]; omega) zD.1 fun h₆ hs₆ hD₆ => ?_
      refine ⟨h₆, _, oC, m₂, ys ++ [.int (c : Nat) t'], rfl, F₁.change hs₆ zD.2.1 zD.2.2, hoC, fun q hq => ?_, ?_⟩
      · rcases List.mem_cons.mp hq with rfl | hq
        · have z := N₁ (C, oC) List.mem_cons_self
          exact ⟨hs₆.extBut _ _ (Ne.symm hDC) z.1, z.2⟩
        rcases List.mem_cons.mp hq with rfl | hq
        · exact ⟨hD₆.trans (congrArg some (lst_snoc ys _)), zD.2⟩
        · have z := N₁ q (List.mem_cons_of_mem _ (List.mem_cons_of_mem _ hq))
          refine ⟨hs₆.extBut _ _ ?_ z.1, z.2⟩
          rcases List.mem_append.mp hq with hq | hq
          · exact offD q hq
          · exact fun e => hDf (e ▸ hown q hq)
      · show IntsAre _ _
        rw [List.take_add_one, hc, List.map_append, ← List.append_assoc]
        exact hj.append (.cons _ _ .nil)
    · intro ys oC m' h tk hj hoC F₁ N₁
      rw [List.take_length] at hj
      exact done ys oC m' h tk hj hoC F₁ N₁
  exact start1 loop (W.self 0 _ _ _ hst loop)

theorem str_clause {x : Str} {px : Pos} {C D : Addr} {oC₀ : Obj} {mC₀ : Str → Option Value} {ys₀ : List Value} {as₀ : List Int} {xt : Str} {tx : Tok}
    (hh : A.handled = none) (hsz : ys₀.length + xt.length ≤ 1000) (hkind : scope.kind = .function) (hx : scope.names.lookup x = some .local)
    (hDC : D ≠ C) (offC : ∀ p ∈ news, p.1 ≠ C) (offD : ∀ p ∈ news, p.1 ≠ D)
    (F : Fr h₀ L s.heap m) (N : News h₀ L s.heap ((C, oC₀) :: (D, lst ys₀) :: news)) (hC₀ : NsObj oC₀ mC₀) (hy : IntsAre ys₀ as₀)
    (helt : Ords prog w A h₀ L m news elt x (compEnvC scope cl C env) C D s)
    (done : ∀ ys oC m' h tk, IntsAre ys (as₀ ++ xt.cps.toList.map fun c => ((c : Nat) : Int)) → NsObj oC m' → Fr h₀ L h m → News h₀ L h ((C, oC) :: (D, lst ys) :: news) → R (.ok .next) { s with heap := h, toks := tk }) :
    wpAny (model prog w) A (pyIter (.str xt tx)) (fun it1 s₄ => codeAny (model prog w) A (.compStart (lc2 elt t0 i0 (.Name x px) i1 scope pos) 1 it1 (.ref D) (compEnvC scope cl C env)) R s₄) E s := by
  refine wpAny_pyIter_str fun o St hW hst => ?_
  have lt : ∀ p ∈ ((C, oC₀) :: (D, lst ys₀) :: news), p.1 < s.heap.objs.size := fun p hp => Heap.lt_size (N p hp).1
  have nm : ∀ {a : Addr}, a < s.heap.objs.size → a ∉ [s.heap.objs.size] := fun h hm => absurd h ((List.mem_singleton.mp hm) ▸ Nat.lt_irrefl _)
  refine inner_clause (s := { s with heap := s.heap.push o }) (cs := xt.cps.toList) (hW A hh) (by simp) (fun i v hv => ?_) hsz hkind hx (next_is_new F) (nm F.ns.lt) (nm (lt _ List.mem_cons_self)) (nm (lt _ (List.mem_cons_of_mem _ List.mem_cons_self)))
    (fun q hq => Nat.ne_of_lt (lt q (List.mem_cons_of_mem _ (List.mem_cons_of_mem _ hq)))) hDC offC offD hst (F.push _) (fun p hp => ⟨Heap.get?_push_of_some _ (N p hp).1, (N p hp).2⟩) hC₀ hy helt done
  obtain ⟨c, u, h1, h2⟩ := hv
  exact ⟨c, u, by simpa using h1, h2⟩
theorem strs_clause {x : Str} {px : Pos} {C D l : Addr} {oC₀ : Obj} {mC₀ : Str → Option Value} {ys₀ us : List Value} {as₀ : List Int} {cs : List Nat} {cc : Nat}
    (hh : A.handled = none) (hl : (l, listOf us.toArray cc) ∈ news) (hus : StrsAre us (cs.map fun c => ⟨#[c]⟩)) (hsz : ys₀.length + cs.length ≤ 1000) (hkind : scope.kind = .function) (hx : scope.names.lookup x = some .local)
    (hDC : D ≠ C) (offC : ∀ p ∈ news, p.1 ≠ C) (offD : ∀ p ∈ news, p.1 ≠ D)
    (F : Fr h₀ L s.heap m) (N : News h₀ L s.heap ((C, oC₀) :: (D, lst ys₀) :: news)) (hC₀ : NsObj oC₀ mC₀) (hy : IntsAre ys₀ as₀)
    (helt : Ords prog w A h₀ L m news elt x (compEnvC scope cl C env) C D s)
    (done : ∀ ys oC m' h tk, IntsAre ys (as₀ ++ cs.map fun c => ((c : Nat) : Int)) → NsObj oC m' → Fr h₀ L h m → News h₀ L h ((C, oC) :: (D, lst ys) :: news) → R (.ok .next) { s with heap := h, toks := tk }) :
    wpAny (model prog w) A (pyIter (.ref l)) (fun it1 s₄ => codeAny (model prog w) A (.compStart (lc2 elt t0 i0 (.Name x px) i1 scope pos) 1 it1 (.ref D) (compEnvC scope cl C env)) R s₄) E s := by
  have zl := N _ (List.mem_cons_of_mem _ (List.mem_cons_of_mem _ hl))
  have hL : s.heap.IsList l us.toArray := ⟨_, zl.1, rfl, _, rfl⟩
  refine wpAny_pyIter_list hL ?_
  have lt : ∀ p ∈ ((C, oC₀) :: (D, lst ys₀) :: news), p.1 < s.heap.objs.size := fun p hp => Heap.lt_size (N p hp).1
  have nm : ∀ {a : Addr}, a < s.heap.objs.size → a ≠ l → a ∉ [s.heap.objs.size, l] := fun h hne hm => by
    rcases List.mem_cons.mp hm with e | hm
    · exact absurd h (e ▸ Nat.lt_irrefl _)
    · exact hne (List.mem_singleton.mp hm)
  have hll : l ≠ s.heap.objs.size := Nat.ne_of_lt (Heap.lt_size zl.1)
  refine inner_clause (s := { s with heap := s.heap.push _ }) (cs := cs) (Walks.list hh s.heap.objs.size l hll us.toArray) (by have := hus.length; simp at this ⊢; exact this) (fun i v hv => ?_) hsz hkind hx (next_is_new F) (nm F.ns.lt (Ne.symm zl.2.1)) (nm (lt _ List.mem_cons_self) (Ne.symm (offC _ hl))) (nm (lt _ (List.mem_cons_of_mem _ List.mem_cons_self)) (Ne.symm (offD _ hl)))
    (fun q hq => Nat.ne_of_lt (lt q (List.mem_cons_of_mem _ (List.mem_cons_of_mem _ hq)))) hDC offC offD ⟨⟨_, Heap.get?_push_size _ rfl, rfl, rfl⟩, hL.at fun o e => Heap.get?_push_of_some _ e⟩ (F.push _) (fun p hp => ⟨Heap.get?_push_of_some _ (N p hp).1, (N p hp).2⟩) hC₀ hy helt done
  have hv' : us[i]? = some v := by simpa using hv
  have key : ∀ (us : List Value) (cs : List Nat) (i : Nat), StrsAre us (cs.map fun c => ⟨#[c]⟩) → us[i]? = some v → ∃ c t, cs[i]? = some c ∧ v = .str ⟨#[c]⟩ t := by
    intro us cs
    induction cs generalizing us with
    | nil => intro i h h2; cases h; simp at h2
    | cons c r ih =>
      intro i h h2
      cases h with
      | cons y t h' =>
        cases i with
        | zero => simp at h2; exact ⟨c, t, rfl, h2.symm⟩
        | succ i => exact ih _ i h' (by simpa using h2)
  exact key us cs i hus hv'

/-- the block of two clauses, the outer one over a list of ints -/
theorem two_blk {x0 : Str} {p0 : Pos} {t1 : Expr} {l : Addr} {vs : List Value} {ms : List Int} {cc : Nat} {RR : Value → Addr → Result → Shared → Prop} (f : Int → List Int)
    (hh : A.handled = none) (hl : (l, listOf vs.toArray cc) ∈ news) (hvs : IntsAre vs ms)
    (hcell : ∀ y ∈ scope.names, y.2 ≠ .cell) (hkind : scope.kind = .function) (hx0 : scope.names.lookup x0 = some .local)
    (hs : ∀ C x, foldedSetIterable i1 (compEnvC scope cl C env) x = pure x)
    (F : Fr h₀ L s.heap m) (N : News h₀ L s.heap news)
    (turn : ∀ pre post k t ys C D oC m₂ h tk own (R : Result → Shared → Prop), ms = pre ++ k :: post → IntsAre ys (pre.flatMap f) → NsObj oC m₂ → m₂ x0 = some (.int k t) → D ≠ C → (∀ p ∈ news ++ own, p.1 ≠ C) → (∀ p ∈ news ++ own, p.1 ≠ D) → Fr h₀ L h m → News h₀ L h ((C, oC) :: (D, lst ys) :: (news ++ own)) →
      B0 prog w A (lc2 elt (.Name x0 p0) i0 t1 i1 scope pos) i1 (.ref D) (compEnvC scope cl C env) R (NEnd h₀ L m C D (news ++ own) (fun ys => IntsAre ys ((pre ++ [k]).flatMap f)) { s with heap := h, toks := tk }) { s with heap := h, toks := tk })
    (done : ∀ D C ys oC m' h tk, IntsAre ys (ms.flatMap f) → NsObj oC m' → D ≠ C → (∀ p ∈ news, p.1 ≠ C) → (∀ p ∈ news, p.1 < D) → Fr h₀ L h m → News h₀ L h ((C, oC) :: (D, lst ys) :: news) → RR (.ref D) C (.ok .next) { s with heap := h, toks := tk }) :
    wpAny (model prog w) A (pyIter (.ref l)) (fun it s₂ => BlkAt prog w A env scope cl (lc2 elt (.Name x0 p0) i0 t1 i1 scope pos) RR E it s₂) E s := by
  have zl := N _ hl
  have hL : s.heap.IsList l vs.toArray := ⟨_, zl.1, rfl, _, rfl⟩
  refine wpAny_pyIter_list hL ?_
  have hll : l ≠ s.heap.objs.size := Nat.ne_of_lt (Heap.lt_size zl.1)
  have lt : ∀ p ∈ news, p.1 < s.heap.objs.size := fun p hp => Heap.lt_size (N p hp).1
  refine blk_in (s := { s with heap := s.heap.push _ }) (F.push _) (fun p hp => ⟨Heap.get?_push_of_some _ (N p hp).1, (N p hp).2⟩) hcell hkind fun D C oC h tk hD hC up hoC F₁ N₁ => ?_
  have hDC : D ≠ C := by rw [hD, hC]; exact Nat.ne_of_lt (Nat.lt_succ_self _)
  have hpz : (s.heap.push { cls := .type "list_iterator", data := .fields #[.ref l, .int 0 0] }).objs.size = s.heap.objs.size + 1 := Heap.size_push ..
  replace hD : D = s.heap.objs.size + 1 := hD.trans hpz
  replace hC : C = s.heap.objs.size + 2 := hC.trans (congrArg (· + 1) hpz)
  have ltD : ∀ p ∈ news, p.1 < D := fun p hp => by rw [hD]; exact Nat.lt_succ_of_lt (lt p hp)
  have offD : ∀ p ∈ news, p.1 ≠ D := fun p hp => Nat.ne_of_lt (ltD p hp)
  have offC : ∀ p ∈ news, p.1 ≠ C := fun p hp => by rw [hC]; exact Nat.ne_of_lt (Nat.lt_of_lt_of_le (lt p hp) (Nat.le_add_right _ 2))
  have nm : ∀ {a : Addr}, a ≠ s.heap.objs.size → a ≠ l → a ∉ [s.heap.objs.size, l] := fun h hne hm => by
    rcases List.mem_cons.mp hm with e | hm
    · exact h e
    · exact hne (List.mem_singleton.mp hm)
  have hCI : C ≠ s.heap.objs.size := by rw [hC]; exact Nat.ne_of_gt (Nat.lt_add_of_pos_right (by decide))
  have hDI : D ≠ s.heap.objs.size := by rw [hD]; exact Nat.ne_of_gt (Nat.lt_succ_self _)
  have W := Walks.list (prog := prog) (w := w) hh s.heap.objs.size l hll vs.toArray
  have hst : ∀ h' : Heap, (∀ b o, (s.heap.push { cls := .type "list_iterator", data := .fields #[.ref l, .int 0 0] }).get? b = some o → h'.get? b = some o) → h'.IsListIter s.heap.objs.size l 0 ∧ h'.IsList l vs.toArray := fun h' up =>
    ⟨⟨_, up _ _ (Heap.get?_push_size _ rfl), rfl, rfl⟩, hL.at fun o e => up _ _ (Heap.get?_push_of_some _ e)⟩
  have loop : codeAny (model prog w) A (.compLoop (lc2 elt (.Name x0 p0) i0 t1 i1 scope pos) 0 (.ref s.heap.objs.size) (.ref D) (compEnvC scope cl C env)) (RR (.ref D) C) { s with heap := h, toks := tk } := by
    refine name_turns (s := { s with heap := h, toks := tk }) (B := B0 prog w A (lc2 elt (.Name x0 p0) i0 t1 i1 scope pos) i1 (.ref D) (compEnvC scope cl C env) (RR (.ref D) C)) (Ex := notedBy (model prog w) A (compEnvC scope cl C env) fun e s' => RR (.ref D) C (.error e) s')
      (fun I' turn n s h => two0 I' turn n h (fun _ => rfl) (hs C)) (fun P P' s h x => B0.mono h x) (fun i ys => IntsAre ys ((ms.take i).flatMap f)) W hkind hx0
      (fun b hb => (List.mem_singleton.mp hb) ▸ next_is_new F) (nm (Nat.ne_of_lt F.ns.lt) (Ne.symm zl.2.1)) (nm hCI (Ne.symm (offC _ hl))) (nm hDI (Ne.symm (offD _ hl))) (fun q hq h => Nat.ne_of_lt (lt q hq) (List.mem_singleton.mp h)) hDC offC (hst h up) F₁ N₁ hoC .nil ?_ ?_
    · intro i v ys oC' m₂ h₂ tk₂ own hi hv hj hown hoC' hm F₂ N₂
      obtain ⟨k, t, hk, rfl⟩ : ∃ k t, ms[i]? = some k ∧ v = .int k t := by
        have hv' : vs[i]? = some v := by simpa using hv
        have key : ∀ (vs : List Value) (ms : List Int) (i : Nat), IntsAre vs ms → vs[i]? = some v → ∃ k t, ms[i]? = some k ∧ v = .int k t := by
          intro vs ms
          induction ms generalizing vs with
          | nil => intro i h h2; cases h; simp at h2
          | cons c r ih =>
            intro i h h2
            cases h with
            | cons y t h' =>
              cases i with
              | zero => simp at h2; exact ⟨c, t, rfl, h2.symm⟩
              | succ i => exact ih _ i h' (by simpa using h2)
        exact key vs ms i hvs hv'
      have hs' : ms.take (i + 1) = ms.take i ++ [k] := by simp [List.take_add_one, hk]
      have e : ms = ms.take i ++ k :: ms.drop (i + 1) := by
        have ht := List.take_append_drop (i + 1) ms
        rw [hs', List.append_assoc] at ht
        exact ht.symm
      have key := turn (ms.take i) _ k t ys C D oC' m₂ h₂ tk₂ own (RR (.ref D) C) e hj hoC' hm hDC (fun p hp => ?_) (fun p hp => ?_) F₂ N₂
      · rw [← hs'] at key
        exact key
      · rcases List.mem_append.mp hp with hp | hp
        · exact offC p hp
        · intro e
          exact nm hCI (Ne.symm (offC _ hl)) (e ▸ hown p hp)
      · rcases List.mem_append.mp hp with hp | hp
        · exact offD p hp
        · intro e
          exact nm hDI (Ne.symm (offD _ hl)) (e ▸ hown p hp)
    · intro ys oC' m' h₂ tk₂ hj hoC' F₂ N₂
      have : vs.toArray.size = ms.length := by have := hvs.length; simp; exact this
      rw [this, List.take_length] at hj
      exact done D C ys oC' m' h₂ tk₂ hj hoC' hDC offC ltD F₂ N₂
  exact codeAny_compStart_list loop (W.self 0 _ _ _ (hst h up) loop)
end
end Mine
end PartNest2

section PartForN
open PySem PySem.W PyProof.Rows PySem.Calls
set_option maxRecDepth 100000
set_option maxHeartbeats 2000000
namespace Mine
section
variable {prog : Program} {w : World} {A : Around} {s : Shared} {env : Env} {h₀ : Heap} {x : Str} {body : List Stmt} {Q : Flow → Shared → Prop}
theorem codeN_for_step {target : Expr} {it : Value} {R : Flow → Shared → Prop} (ht : ∀ v, letOwnedTupleGo target it v = pure ())
    (h : wpAny (model prog w) A (pyNext it) (fun r s₁ => match r with
      | none => R .next s₁
      | some v => wpAny (model prog w) A (assign target env v) (fun _ s₂ => wpN (model prog w) A (execs body env) (fun f s₃ => match f with
          | .next | .cont => codeN (model prog w) A (.forLoop target it body [] env) R s₃
          | .brk => R .next s₃
          | .ret v => R (.ret v) s₃) s₂) (fun _ _ => False) s₁) (fun _ _ => False) s) : codeN (model prog w) A (.forLoop target it body [] env) R s := by
  refine codeN_tree rfl ?_
  show wpN _ A ((forTurn target it body [] env).onRaise (fun x => do noteFrame x env; theTreesLotGoes x)) _ s
  refine wpN_onRaise ?_
  simp only [forTurn]
  refine wpN_bind (wpN_standAt (wpN_bind (wpN_onRaise (wpN_of (wpAny_mono h (fun r s₁ h₁ => ?_) fun _ _ e => e)))))
  cases r with
  | none =>
    refine wpN_pure ⟨rfl, codeN_tree rfl ?_⟩
    show wpN _ A (do return Fin.done (← (execs [] env).onRaise (fun x => do noteFrame x env; theTreesLotGoes x))) _ _
    exact wpN_bind (wpN_onRaise (wpN_execs_nil (wpN_pure h₁)))
  | some v =>
    refine wpN_bind (wpN_of_eq (ht v) ?_)
    refine wpN_bindA (wpAny_mono h₁ (fun _ s₂ h₂ => wpN_bind (wpN_mono h₂ fun f s₃ h₃ => ?_)) fun _ _ e => e)
    cases f with
    | next => exact wpN_pure ⟨rfl, h₃⟩
    | cont => exact wpN_pure ⟨rfl, h₃⟩
    | brk => exact wpN_pure h₃
    | ret v => exact wpN_pure h₃
theorem wpN_For {target iter : Expr} {pos : Pos}
    (h : wpAny (model prog w) A (eval iter env) (fun x s₁ => wpAny (model prog w) A (pyIter x) (fun it s₂ => codeN (model prog w) A (.forLoop target it body [] env) Q s₂) (fun _ _ => False) s₁) (fun _ _ => False) s)
    (hs : ∀ x, foldedSetIterable iter env x = pure x := by intro _; rfl) : wpN (model prog w) A (exec (.For target iter body [] pos) env) Q s := by
  rw [exec_For]
  refine wpN_bind (wpN_standAt (wpN_bindA (wpAny_mono h (fun x s₁ h₁ => ?_) fun _ _ e => e)))
  refine wpN_bind (wpN_of_eq (hs x) (wpN_bind (wpN_standAt (wpN_bind (wpN_holding (wpN_of (wpAny_mono h₁ (fun it s₂ h₂ => ?_) fun _ _ e => e)))))))
  unfold runOwn
  exact wpN_onRaise (wpN_run h₂)
/-- a For over a range, upon the calm stack -/
theorem range_stN {σ : Type} {px : Pos} {r : Addr} {a₀ b₀ d : Int} {t₀ u₀ v₀ : Tok} {n : Nat} {m₀ : Str → Option Value} (Led : σ → List (Addr × Obj)) (M : σ → Str → Option Value) (J : Nat → σ → Prop) (c₀ : σ)
    (hh : A.handled = none) (hr : IsRange s.heap r a₀ b₀ d t₀ u₀ v₀) (hsmall : Builtin.Range.small a₀ b₀ d = true) (hn : Builtin.Range.rangeSize a₀ b₀ d = (n : Int)) (F : Fr h₀ env.locals s.heap m₀) (N : News h₀ env.locals s.heap (Led c₀)) (hm : ∀ z, z ≠ x → m₀ z = M c₀ z) (hj : J 0 c₀)
    (hx : env.kindOf x = some .local) (hp : (env.scope.kind == .class || (env.scope.kind == .module && env.locals != env.globals)) = false)
    (turn : ∀ (i : Nat) (t : Tok) (c : σ) (h : Heap) (tk : Nat) (own : List (Addr × Obj)), i < n → J i c → Fr h₀ env.locals h (fun y => if y = x then some (.int (a₀ + (i : Int) * d) t) else M c y) → News h₀ env.locals h (Led c ++ own) →
      wpN (model prog w) A (execs body env) (InvPostN h₀ env.locals (Stt Led M x (J (i + 1))) own ((Led c₀).map (·.1)) { s with heap := h, toks := tk } Q) { s with heap := h, toks := tk })
    (done : ∀ (c : σ) (u : Str → Option Value) (h : Heap) (tk : Nat), J n c → Fr h₀ env.locals h (fun y => if y = x then u y else M c y) → News h₀ env.locals h (Led c) → Q .next { s with heap := h, toks := tk }) :
    wpAny (model prog w) A (pyIter (.ref r)) (fun it s₂ => codeN (model prog w) A (.forLoop (.Name x px) it body [] env) Q s₂) (fun _ _ => False) s := by
  refine wpAny_pyIter_range hr hsmall ?_
  have W : Walks prog w A s.heap.objs.size [s.heap.objs.size] [s.heap.objs.size] n (fun i v => i < n ∧ ∃ t, v = .int (a₀ + i * d) t)
      (fun i h => IsRangeIter h s.heap.objs.size (a₀ + (i : Nat) * d) ((n : Int) - (i : Nat)) d) := (Walks.range hh _ a₀ d n).bound
  have hI₀ : h₀.get? s.heap.objs.size = none := next_is_new F
  have hLI : env.locals ≠ s.heap.objs.size := Nat.ne_of_lt F.ns.lt
  have offI : ∀ c, (Led c).map (·.1) = (Led c₀).map (·.1) → ∀ p ∈ Led c, p.1 ≠ s.heap.objs.size := fun c ha p hp => by
    have : p.1 ∈ (Led c₀).map (·.1) := ha ▸ List.mem_map.mpr ⟨p, hp, rfl⟩
    obtain ⟨q, hq, e⟩ := List.mem_map.mp this
    exact e ▸ Nat.ne_of_lt (Heap.lt_size (N q hq).1)
  have main : ∀ (k i : Nat) (c : σ) (m : Str → Option Value) (h : Heap) (tk : Nat), k = n - i → i ≤ n → J i c → (Led c).map (·.1) = (Led c₀).map (·.1) → (∀ z, z ≠ x → m z = M c z) → IsRangeIter h s.heap.objs.size (a₀ + (i : Nat) * d) ((n : Int) - (i : Nat)) d → Fr h₀ env.locals h m → News h₀ env.locals h (Led c) →
      codeN (model prog w) A (.forLoop (.Name x px) (.ref s.heap.objs.size) body [] env) Q { s with heap := h, toks := tk } := by
    intro k
    induction k with
    | zero =>
      intro i c m h tk hk hi hJ ha hm' hst F₁ N₁
      have hin : i = n := by omega
      subst hin
      refine codeN_for_step (fun _ => rfl) (W.done _ _ _ hst fun h₂ tk₂ hk₂ => ?_)
      have up : ∀ b o, b ≠ s.heap.objs.size → h.get? b = some o → h₂.get? b = some o := fun b o hb e => hk₂ b o (fun q => hb (List.mem_singleton.mp q)) e
      refine done c m h₂ tk₂ hJ ?_ (fun p hp => ⟨up _ _ (offI c ha p hp) (N₁ p hp).1, (N₁ p hp).2⟩)
      rw [map_out hm']
      exact ⟨F₁.ns.at' fun o e => up _ o hLI e, fun b o e => up b o (fun q => by rw [q, hI₀] at e; cases e) (F₁.keep b o e), F₁.above⟩
    | succ k ih =>
      intro i c m h tk hk hi hJ ha hm' hst F₁ N₁
      have hlt : i < n := by omega
      refine codeN_for_step (fun _ => rfl) (W.item i _ _ _ hlt hst fun v h₂ tk₂ hP hst₂ hk₂ => ?_)
      obtain ⟨_, t, rfl⟩ := hP
      have up : ∀ b o, b ≠ s.heap.objs.size → h.get? b = some o → h₂.get? b = some o := fun b o hb e => hk₂ b o (fun q => hb (List.mem_singleton.mp q)) e
      have F₂ : Fr h₀ env.locals h₂ m := ⟨F₁.ns.at' fun o e => up _ o hLI e, fun b o e => up b o (fun q => by rw [q, hI₀] at e; cases e) (F₁.keep b o e), F₁.above⟩
      have N₂ : News h₀ env.locals h₂ (Led c) := fun p hp => ⟨up _ _ (offI c ha p hp) (N₁ p hp).1, (N₁ p hp).2⟩
      refine wpAny_assign_Name (wpAny_storeName_local hx F₂.ns (fun h₃ hn₃ hs₃ => ?_) hp)
      replace hs₃ : Heap.SameBut env.locals h₂ h₃ := hs₃
      have F₃ := F₂.set hn₃ hs₃
      rw [map_eq hm'] at F₃
      have N₃ := N₂.set hs₃
      have hst₃ : IsRangeIter h₃ s.heap.objs.size (a₀ + ((i + 1 : Nat) : Int) * d) ((n : Int) - ((i + 1 : Nat) : Int)) d := W.frame (i + 1) _ _ hst₂ fun b hb o e => hs₃.extBut b o (fun q => hLI (q ▸ List.mem_singleton.mp hb)) e
      have Nn : News h₀ env.locals h₃ (Led c ++ PyProof.Rows.ownOf h₀ [s.heap.objs.size] h₃) := N₃.append (news_ownOf fun q => hLI (List.mem_singleton.mp q))
      refine wpN_mono (turn i t c h₃ _ (PyProof.Rows.ownOf h₀ [s.heap.objs.size] h₃) hlt hJ F₃ Nn) fun f s₄ h₄ => ?_
      have fin : InvEndN h₀ env.locals (Stt Led M x (J (i + 1))) (PyProof.Rows.ownOf h₀ [s.heap.objs.size] h₃) ((Led c₀).map (·.1)) { s with heap := h₃, toks := tk₂ } s₄ → codeN (model prog w) A (.forLoop (.Name x px) (.ref s.heap.objs.size) body [] env) Q s₄ := by
        rintro ⟨h₅, tk₅, m₅, news', nx, rfl, F₅, N₅, hn5, ho5, ha5, ⟨c', rfl, hm5, hj5⟩⟩
        refine ih (i + 1) c' m₅ h₅ tk₅ (by omega) hlt hj5 ha5 hm5 ?_ F₅ fun p hp => N₅ p (hn5 p hp)
        exact W.frame (i + 1) _ _ hst₃ fun b hb o e => by
          have hbn : h₀.get? b = none := (List.mem_singleton.mp hb) ▸ hI₀
          exact (N₅ _ (ho5 _ (mem_ownOf hb hbn e))).1
      cases f with
      | next => exact fin h₄
      | cont => exact fin h₄
      | brk => exact h₄
      | ret v => exact h₄
  exact main n 0 c₀ m₀ _ _ (by omega) (Nat.zero_le _) hj rfl hm (by show IsRangeIter _ _ _ _ _; rw [hn]; simpa using Heap.get?_push_size _ rfl) (F.push _) (fun p hp => ⟨Heap.get?_push_of_some _ (N p hp).1, (N p hp).2⟩)
end
end Mine
end PartForN

section PartPlainText
open PySem PySem.W PyProof.Rows
set_option maxRecDepth 100000
set_option maxHeartbeats 2000000
namespace Mine
theorem bitAnd_nat (n b : Nat) : Builtin.bitAnd (n : Int) (b : Int) = ((n &&& b : Nat) : Int) := rfl
theorem and_pow (n k : Nat) : n &&& 2 ^ k = if n / 2 ^ k % 2 = 1 then 2 ^ k else 0 := by
  refine Nat.eq_of_testBit_eq fun i => ?_
  rw [Nat.testBit_and, Nat.testBit_two_pow]
  by_cases e : k = i
  · subst e
    rw [Nat.testBit_eq_decide_div_mod_eq]
    by_cases h : n / 2 ^ k % 2 = 1
    · simp [h]
    · simp [h]
  · by_cases h : n / 2 ^ k % 2 = 1
    · simp [h, e]
    · simp [h, e]
theorem and_num {n k p : Nat} (e : p = 2 ^ k) : n &&& p = if n / p % 2 = 1 then p else 0 := by subst e; exact and_pow n k
theorem bit_one {n p : Nat} (k : Nat) (e : p = 2 ^ k) (h : n / p % 2 = 1) : Builtin.bitAnd (n : Int) (p : Int) = (p : Int) := by
  rw [bitAnd_nat, and_num e, if_pos h]
theorem bit_zero {n p : Nat} (k : Nat) (e : p = 2 ^ k) (h : n / p % 2 ≠ 1) : Builtin.bitAnd (n : Int) (p : Int) = 0 := by
  rw [bitAnd_nat, and_num e, if_neg h]; rfl
theorem bits_both {n p q : Nat} (k j : Nat) (e : p = 2 ^ k) (e' : q = 2 ^ j) : Builtin.bitAnd (n : Int) ((p ||| q : Nat) : Int) = (((if n / p % 2 = 1 then p else 0) ||| (if n / q % 2 = 1 then q else 0) : Nat) : Int) := by
  rw [bitAnd_nat, Nat.and_or_distrib_left, and_num e, and_num e']
theorem plain_pick (n j p : Nat) (k : Nat) {b : Int} (hj : j ≠ 0) (hb : b = (p : Int)) (e : p = 2 ^ k) (c : Str) (t t' : Tok) (P : Str) (hP0 : Txt.item P 0 = Str.ofString "-") (hP1 : Txt.item P 1 = c) :
    pick (n : Int) j [(b, t, c, t')] = Txt.item P (((n / p % 2 : Nat)) : Int) := by
  subst hb
  have hp : (0 : Int) ≠ (p : Int) := by have := Nat.two_pow_pos k; omega
  rcases Nat.mod_two_eq_zero_or_one (n / p) with h | h
  · simp only [pick, hits, if_neg hj, bit_zero k e (by omega : n / p % 2 ≠ 1), if_neg hp, h]
    exact hP0.symm
  · simp only [pick, hits, if_neg hj, bit_one k e h, if_true, h]
    exact hP1.symm
theorem three_pick (n i p q : Nat) (k j : Nat) {b1 b2 b3 : Int} (hi : i ≠ 0) (hb1 : b1 = ((p ||| q : Nat) : Int)) (hb2 : b2 = (p : Int)) (hb3 : b3 = (q : Int)) (e : p = 2 ^ k) (e' : q = 2 ^ j) (hpq : p ||| q ≠ p) (hpq' : p ||| q ≠ q) (c1 c2 c3 : Str) (t1 t2 t3 u1 u2 u3 : Tok) (P : Str) (hP0 : Txt.item P 0 = c2) (hP1 : Txt.item P 1 = c1) (h30 : Txt.item (Str.ofString "-x") 0 = Str.ofString "-") (h31 : Txt.item (Str.ofString "-x") 1 = c3) :
    pick (n : Int) i [(b1, t1, c1, u1), (b2, t2, c2, u2), (b3, t3, c3, u3)] = Txt.item (if n / p % 2 = 1 then P else Str.ofString "-x") (((n / q % 2 : Nat)) : Int) := by
  subst hb1 hb2 hb3
  have hp : (0 : Int) ≠ (p : Int) := by have := Nat.two_pow_pos k; omega
  have hq : (0 : Int) ≠ (q : Int) := by have := Nat.two_pow_pos j; omega
  have h0 : ((0 : Nat) : Int) ≠ ((p ||| q : Nat) : Int) := by
    intro x
    have : p ||| q = 0 := by omega
    have := Nat.or_eq_zero_iff.mp this
    have := Nat.two_pow_pos k
    omega
  have hpq1 : ((p : Nat) : Int) ≠ ((p ||| q : Nat) : Int) := fun x => hpq (by omega)
  have hpq2 : ((q : Nat) : Int) ≠ ((p ||| q : Nat) : Int) := fun x => hpq' (by omega)
  simp only [pick, hits, if_neg hi, bits_both k j e e']
  rcases Nat.mod_two_eq_zero_or_one (n / p) with h | h <;> rcases Nat.mod_two_eq_zero_or_one (n / q) with h' | h'
  · rw [if_neg (by omega : ¬ n / p % 2 = 1), if_neg (by omega : ¬ n / q % 2 = 1), bit_zero k e (by omega), bit_zero j e' (by omega), Nat.zero_or, if_neg h0, if_neg hp, if_neg hq, if_neg (by omega : ¬ n / p % 2 = 1), h']
    exact h30.symm
  · rw [if_neg (by omega : ¬ n / p % 2 = 1), if_pos h', bit_zero k e (by omega), bit_one j e' h', Nat.zero_or, if_neg hpq2, if_neg hp, if_pos rfl, if_neg (by omega : ¬ n / p % 2 = 1), h']
    exact h31.symm
  · rw [if_pos h, if_neg (by omega : ¬ n / q % 2 = 1), bit_one k e h, bit_zero j e' (by omega), Nat.or_zero, if_neg hpq1, if_pos rfl, if_pos h, h']
    exact hP0.symm
  · rw [if_pos h, if_pos h', if_pos rfl, if_pos h, h']
    exact hP1.symm
theorem and_kind {n : Nat} (h : n < 65536) : n &&& 61440 = 4096 * (n / 4096) := by
  have e : (61440 : Nat) = 4096 ||| (8192 ||| (16384 ||| 32768)) := by decide
  rw [e, Nat.and_or_distrib_left, Nat.and_or_distrib_left, Nat.and_or_distrib_left, and_num (k := 12) (p := 4096) rfl, and_num (k := 13) (p := 8192) rfl, and_num (k := 14) (p := 16384) rfl, and_num (k := 15) (p := 32768) rfl]
  rcases Nat.mod_two_eq_zero_or_one (n / 4096) with h0 | h0 <;> rcases Nat.mod_two_eq_zero_or_one (n / 8192) with h1 | h1 <;> rcases Nat.mod_two_eq_zero_or_one (n / 16384) with h2 | h2 <;> rcases Nat.mod_two_eq_zero_or_one (n / 32768) with h3 | h3 <;>
    simp only [h0, h1, h2, h3, if_true, Nat.zero_ne_one, if_false] <;>
    (refine Eq.trans (b := 4096 * (n / 4096)) ?_ rfl) <;>
    first
      | (have e4 : n / 4096 = 0 := by omega
         rw [e4]; decide)
      | (have e4 : n / 4096 = 1 := by omega
         rw [e4]; decide)
      | (have e4 : n / 4096 = 2 := by omega
         rw [e4]; decide)
      | (have e4 : n / 4096 = 3 := by omega
         rw [e4]; decide)
      | (have e4 : n / 4096 = 4 := by omega
         rw [e4]; decide)
      | (have e4 : n / 4096 = 5 := by omega
         rw [e4]; decide)
      | (have e4 : n / 4096 = 6 := by omega
         rw [e4]; decide)
      | (have e4 : n / 4096 = 7 := by omega
         rw [e4]; decide)
      | (have e4 : n / 4096 = 8 := by omega
         rw [e4]; decide)
      | (have e4 : n / 4096 = 9 := by omega
         rw [e4]; decide)
      | (have e4 : n / 4096 = 10 := by omega
         rw [e4]; decide)
      | (have e4 : n / 4096 = 11 := by omega
         rw [e4]; decide)
      | (have e4 : n / 4096 = 12 := by omega
         rw [e4]; decide)
      | (have e4 : n / 4096 = 13 := by omega
         rw [e4]; decide)
      | (have e4 : n / 4096 = 14 := by omega
         rw [e4]; decide)
      | (have e4 : n / 4096 = 15 := by omega
         rw [e4]; decide)
def tab0 : List (Int × Tok × Str × Tok) := [(40960, 219, Str.ofString "l", 247), (49152, 221, Str.ofString "s", 248), (32768, 215, Str.ofString "-", 249), (24576, 213, Str.ofString "b", 250), (16384, 209, Str.ofString "d", 251), (8192, 211, Str.ofString "c", 252), (4096, 217, Str.ofString "p", 253)]
theorem kind_all : ∀ q < 16, pick (4096 * q : Nat) 0 tab0 = Txt.item (Str.ofString "?pc?d?b?-?l?s???") (q : Nat) := by decide
theorem kind_pick {n : Nat} (h : n < 65536) : pick (n : Int) 0 tab0 = Txt.item (Str.ofString "?pc?d?b?-?l?s???") ((n / 4096 : Nat) : Int) := by
  have hq : n / 4096 < 16 := by omega
  have e : Builtin.bitAnd (n : Int) 61440 = Builtin.bitAnd ((4096 * (n / 4096) : Nat) : Int) 61440 := by
    have h1 := bitAnd_nat n 61440
    have h2 := bitAnd_nat (4096 * (n / 4096)) 61440
    rw [and_kind h] at h1
    rw [and_kind (by omega : 4096 * (n / 4096) < 65536), show 4096 * (n / 4096) / 4096 = n / 4096 by omega] at h2
    exact h1.trans h2.symm
  rw [← kind_all _ hq]
  have same : ∀ ps, pick (n : Int) 0 ps = pick ((4096 * (n / 4096) : Nat) : Int) 0 ps := by
    intro ps
    induction ps with
    | nil => rfl
    | cons p r ih => simp only [pick, hits, if_true, e, ih]
  exact same tab0
theorem perm_ten (mode : Int) : permTo mode 10 = [pick mode 0 tab0, pick mode 1 [(256, 229, Str.ofString "r", 254)], pick mode 2 [(128, 231, Str.ofString "w", 255)], pick mode 3 [(2112, 256, Str.ofString "s", 257), (2048, 223, Str.ofString "S", 258), (64, 233, Str.ofString "x", 259)],
    pick mode 4 [(32, 235, Str.ofString "r", 260)], pick mode 5 [(16, 237, Str.ofString "w", 261)], pick mode 6 [(1032, 262, Str.ofString "s", 263), (1024, 225, Str.ofString "S", 264), (8, 239, Str.ofString "x", 265)],
    pick mode 7 [(4, 241, Str.ofString "r", 266)], pick mode 8 [(2, 243, Str.ofString "w", 267)], pick mode 9 [(513, 268, Str.ofString "t", 269), (512, 227, Str.ofString "T", 270), (1, 245, Str.ofString "x", 271)]] := rfl
theorem fmod_two (a : Nat) : ((a : Int)).fmod 2 = ((a % 2 : Nat) : Int) := (Int.ofNat_fmod a 2).symm
theorem sgn_plain {n : Nat} {i p : Nat} (P : Str) (hi : i % 3 ≠ 2) (hp : 256 >>> i = p) (hP : [Str.ofString "-r", Str.ofString "-w", Str.ofString "-x"].getD (i % 3) (Str.ofString "") = P) : sgnAt (n : Int) i = Txt.item P ((n / p % 2 : Nat) : Int) := by
  rw [sgnAt, sgnPair, if_neg (fun x => hi x.1), hP, hp, ← Int.ofNat_fdiv, fmod_two]
theorem sgn_three {n : Nat} {i p q : Nat} (P : Str) (hi : i % 3 = 2) (hp : 2048 >>> (i / 3) = p) (hq : 256 >>> i = q) (hP : [Str.ofString "Ss", Str.ofString "Ss", Str.ofString "Tt"].getD (i / 3) (Str.ofString "") = P) : sgnAt (n : Int) i = Txt.item (if n / p % 2 = 1 then P else Str.ofString "-x") ((n / q % 2 : Nat) : Int) := by
  have e : (Int.fdiv (n : Int) ((2048 >>> (i / 3) : Nat) : Int)).fmod 2 = ((n / p % 2 : Nat) : Int) := by rw [hp, ← Int.ofNat_fdiv, fmod_two]
  rw [sgnAt, sgnPair, e, hq, ← Int.ofNat_fdiv, fmod_two]
  have e2 : ([Str.ofString "-r", Str.ofString "-w", Str.ofString "-x"] : List Str).getD (i % 3) (Str.ofString "") = Str.ofString "-x" := by rw [hi]; rfl
  rw [hP, e2]
  by_cases h : n / p % 2 = 1
  · rw [if_pos ⟨hi, by omega⟩, if_pos h]
  · rw [if_neg (fun x => h (by have := x.2; omega)), if_neg h]
theorem join_ten : ∀ a0 a1 a2 a3 a4 a5 a6 a7 a8 a9 : Nat, Txt.join (Str.ofString "") [⟨#[a0]⟩, ⟨#[a1]⟩, ⟨#[a2]⟩, ⟨#[a3]⟩, ⟨#[a4]⟩, ⟨#[a5]⟩, ⟨#[a6]⟩, ⟨#[a7]⟩, ⟨#[a8]⟩, ⟨#[a9]⟩] = (⟨#[a0]⟩ ++ ⟨#[a1]⟩ ++ ⟨#[a2]⟩ ++ ⟨#[a3]⟩ ++ ⟨#[a4]⟩ ++ ⟨#[a5]⟩ ++ ⟨#[a6]⟩ ++ ⟨#[a7]⟩ ++ ⟨#[a8]⟩ ++ ⟨#[a9]⟩ : Str) := fun _ _ _ _ _ _ _ _ _ _ => rfl
theorem text_same {mode : Int} (h0 : 0 ≤ mode) (h1 : mode < 65536) : Txt.join (Str.ofString "") (permTo mode 10) = textTo mode 9 := by
  obtain ⟨n, rfl⟩ := Int.eq_ofNat_of_zero_le h0
  have hn : n < 65536 := by omega
  have e1 : pick (n : Int) 1 [(256, 229, Str.ofString "r", 254)] = sgnAt n 0 := (plain_pick n 1 256 8 (by decide) (by decide) (by decide) _ _ _ (Str.ofString "-r") (by decide) (by decide)).trans (sgn_plain _ (by decide) (by decide) (by decide)).symm
  have e2 : pick (n : Int) 2 [(128, 231, Str.ofString "w", 255)] = sgnAt n 1 := (plain_pick n 2 128 7 (by decide) (by decide) (by decide) _ _ _ (Str.ofString "-w") (by decide) (by decide)).trans (sgn_plain _ (by decide) (by decide) (by decide)).symm
  have e3 : pick (n : Int) 3 [(2112, 256, Str.ofString "s", 257), (2048, 223, Str.ofString "S", 258), (64, 233, Str.ofString "x", 259)] = sgnAt n 2 := (three_pick n 3 2048 64 11 6 (by decide) (by decide) (by decide) (by decide) (by decide) (by decide) (by decide) (by decide) _ _ _ _ _ _ _ _ _ (Str.ofString "Ss") (by decide) (by decide) (by decide) (by decide)).trans (sgn_three _ (by decide) (by decide) (by decide) (by decide)).symm
  have e4 : pick (n : Int) 4 [(32, 235, Str.ofString "r", 260)] = sgnAt n 3 := (plain_pick n 4 32 5 (by decide) (by decide) (by decide) _ _ _ (Str.ofString "-r") (by decide) (by decide)).trans (sgn_plain _ (by decide) (by decide) (by decide)).symm
  have e5 : pick (n : Int) 5 [(16, 237, Str.ofString "w", 261)] = sgnAt n 4 := (plain_pick n 5 16 4 (by decide) (by decide) (by decide) _ _ _ (Str.ofString "-w") (by decide) (by decide)).trans (sgn_plain _ (by decide) (by decide) (by decide)).symm
  have e6 : pick (n : Int) 6 [(1032, 262, Str.ofString "s", 263), (1024, 225, Str.ofString "S", 264), (8, 239, Str.ofString "x", 265)] = sgnAt n 5 := (three_pick n 6 1024 8 10 3 (by decide) (by decide) (by decide) (by decide) (by decide) (by decide) (by decide) (by decide) _ _ _ _ _ _ _ _ _ (Str.ofString "Ss") (by decide) (by decide) (by decide) (by decide)).trans (sgn_three _ (by decide) (by decide) (by decide) (by decide)).symm
  have e7 : pick (n : Int) 7 [(4, 241, Str.ofString "r", 266)] = sgnAt n 6 := (plain_pick n 7 4 2 (by decide) (by decide) (by decide) _ _ _ (Str.ofString "-r") (by decide) (by decide)).trans (sgn_plain _ (by decide) (by decide) (by decide)).symm
  have e8 : pick (n : Int) 8 [(2, 243, Str.ofString "w", 267)] = sgnAt n 7 := (plain_pick n 8 2 1 (by decide) (by decide) (by decide) _ _ _ (Str.ofString "-w") (by decide) (by decide)).trans (sgn_plain _ (by decide) (by decide) (by decide)).symm
  have e9 : pick (n : Int) 9 [(513, 268, Str.ofString "t", 269), (512, 227, Str.ofString "T", 270), (1, 245, Str.ofString "x", 271)] = sgnAt n 8 := (three_pick n 9 512 1 9 0 (by decide) (by decide) (by decide) (by decide) (by decide) (by decide) (by decide) (by decide) _ _ _ _ _ _ _ _ _ (Str.ofString "Tt") (by decide) (by decide) (by decide) (by decide)).trans (sgn_three _ (by decide) (by decide) (by decide) (by decide)).symm
  rw [perm_ten, kind_pick hn, e1, e2, e3, e4, e5, e6, e7, e8, e9]
  have e0 : textTo (n : Int) 0 = Txt.item (Str.ofString "?pc?d?b?-?l?s???") ((n / 4096 : Nat) : Int) := by
    rw [textTo, show ((n / 4096 : Nat) : Int) = Int.fdiv (n : Int) 4096 from Int.ofNat_fdiv n 4096]
  show _ = textTo (n : Int) 0 ++ sgnAt n 0 ++ sgnAt n 1 ++ sgnAt n 2 ++ sgnAt n 3 ++ sgnAt n 4 ++ sgnAt n 5 ++ sgnAt n 6 ++ sgnAt n 7 ++ sgnAt n 8
  rw [e0]
  exact join_ten _ _ _ _ _ _ _ _ _ _
end Mine
end PartPlainText

section PartPlainCodes
open PySem PySem.W PyProof.Rows
set_option maxRecDepth 100000
set_option maxHeartbeats 2000000
namespace Mine
abbrev goodS (x : Str) : Prop := ∀ c ∈ x.cps.toList, 0 < c ∧ c < 128
theorem goodS_append {a b : Str} (h : goodS a) (h' : goodS b) : goodS (a ++ b) := by
  intro c hc
  rw [Str.cps_append, Array.toList_append] at hc
  exact (List.mem_append.mp hc).elim (h c) (h' c)
theorem kinds_good : ∀ q < 16, goodS (Txt.item (Str.ofString "?pc?d?b?-?l?s???") ((q : Nat) : Int)) := by decide
theorem pairs_good : ∀ P ∈ [Str.ofString "Ss", Str.ofString "Tt", Str.ofString "-r", Str.ofString "-w", Str.ofString "-x"], goodS (Txt.item P 0) ∧ goodS (Txt.item P 1) := by decide
theorem sgn_good {mode : Int} {i : Nat} (hi : i < 9) : goodS (sgnAt mode i) := by
  rw [sgnAt]
  have hP : sgnPair mode i ∈ [Str.ofString "Ss", Str.ofString "Tt", Str.ofString "-r", Str.ofString "-w", Str.ofString "-x"] := by
    unfold sgnPair
    split
    · have h : i / 3 = 0 ∨ i / 3 = 1 ∨ i / 3 = 2 := by omega
      rcases h with h | h | h <;> rw [h] <;> decide
    · have h : i % 3 = 0 ∨ i % 3 = 1 ∨ i % 3 = 2 := by omega
      rcases h with h | h | h <;> rw [h] <;> decide
  have h2 : ∀ a : Int, a.fmod 2 = 0 ∨ a.fmod 2 = 1 := fun a => by
    have h1 := Int.fmod_nonneg_of_pos a (by decide : (0 : Int) < 2)
    have h3 := Int.fmod_lt_of_pos a (by decide : (0 : Int) < 2)
    omega
  have := pairs_good _ hP
  rcases h2 (Int.fdiv mode ((256 >>> i : Nat) : Int)) with h | h <;> rw [h]
  · exact this.1
  · exact this.2
theorem text_good {mode : Int} (h0 : 0 ≤ mode) (h1 : mode < 65536) : ∀ i ≤ 9, goodS (textTo mode i)
  | 0, _ => by
    obtain ⟨n, rfl⟩ := Int.eq_ofNat_of_zero_le h0
    rw [textTo, show Int.fdiv (n : Int) 4096 = ((n / 4096 : Nat) : Int) from (Int.ofNat_fdiv n 4096).symm]
    exact kinds_good _ (by omega)
  | i + 1, h => goodS_append (text_good h0 h1 i (by omega)) (sgn_good (by omega))
def codesOf (x : Str) : List Int := x.cps.toList.map fun c => ((c : Nat) : Int)
theorem codesOf_length (x : Str) : (codesOf x).length = x.length := by simp [codesOf, Str.length]
theorem codesOf_good {x : Str} (h : goodS x) : ∀ k ∈ codesOf x, 0 < k ∧ k < 128 := by
  intro k hk
  obtain ⟨c, hc, rfl⟩ := List.mem_map.mp hk
  have := h c hc
  omega
/-- the signs of a mode, as octets -/
def signs (mode : Int) : List Int := codesOf (textTo mode 9)
theorem signs_length (mode : Int) : (signs mode).length = 10 := by rw [signs, codesOf_length, textTo_length]
theorem signs_good {mode : Int} (h0 : 0 ≤ mode) (h1 : mode < 65536) : ∀ k ∈ signs mode, 0 < k ∧ k < 128 := codesOf_good (text_good h0 h1 9 (by decide))
end Mine
end PartPlainCodes

section PartRows0
open PySem PySem.W PyProof.Rows
set_option maxRecDepth 100000
namespace Mine
/-- one turning of the row -/
def turnRow (number : Int) (ks : List Int) : List Int := (part up ks (hts number 0 ks).tail).reverse ++ part dn ks (hts number 0 ks).tail
def rowsAt (number : Int) (ks : List Int) : Nat → List Int
  | 0 => ks
  | i + 1 => turnRow number (rowsAt number ks i)
theorem part_both : ∀ (ks hs : List Int), ks.length = hs.length → (part up ks hs).length + (part dn ks hs).length = ks.length
  | [], _, _ => by simp [part]
  | _ :: _, [], h => by simp at h
  | k :: r, x :: t, h => by
    have ih := part_both r t (by simpa using h)
    simp only [part]
    by_cases hx : 0 < x
    · rw [if_pos (by simpa using hx), if_neg (by simp [dn]; omega)]
      simp only [List.length_cons]; omega
    · rw [if_neg (by simpa using hx), if_pos (by simp [dn]; omega)]
      simp only [List.length_cons]; omega
theorem turnRow_length (number : Int) (ks : List Int) : (turnRow number ks).length = ks.length := by
  rw [turnRow, List.length_append, List.length_reverse]
  exact part_both ks _ (by rw [List.length_tail, hts_length]; omega)
theorem turnRow_mem {number : Int} {ks : List Int} : ∀ k ∈ turnRow number ks, k ∈ ks := by
  intro k hk
  rcases List.mem_append.mp hk with hk | hk
  · exact part_mem k (List.mem_reverse.mp hk)
  · exact part_mem k hk
theorem rowsAt_length (number : Int) (ks : List Int) : ∀ i, (rowsAt number ks i).length = ks.length
  | 0 => rfl
  | i + 1 => (turnRow_length number _).trans (rowsAt_length number ks i)
theorem rowsAt_mem {number : Int} {ks : List Int} : ∀ i, ∀ k ∈ rowsAt number ks i, k ∈ ks
  | 0, _, h => h
  | i + 1, k, h => rowsAt_mem i k (turnRow_mem k h)
end Mine
end PartRows0

section PartIndex
open PySem PySem.W PyProof.Rows PySem.Calls PySem.SeqAt
set_option maxRecDepth 100000
namespace Mine
section
variable {prog : Program} {w : World} {A : Around} {E : Value → Shared → Prop} {s : Shared}
theorem index_ints {l : Addr} {vs : List Value} {ns : List Int} {cc : Nat} {k : Int} {t : Tok} {Q : Value → Shared → Prop} (hl : s.heap.get? l = some (listOf vs.toArray cc)) (hi : IntsAre vs ns) (hb : ns.length ≤ 1000) (hk : k ∈ ns)
    (h : Q (.int (ns.idxOf k : Nat) s.toks) { s with toks := s.toks + 1 }) : wpAny (model prog w) A (call (.builtin "list.index") [.ref l, .int k t]) Q E s := by
  have hlen := hi.length
  have hj : ns.idxOf k < ns.length := List.idxOf_lt_length_iff.mpr hk
  refine call_meets PySem.F.slot_list_index ⟨_, hl, rfl⟩ PySem.F.entry_list_index (PySem.F.args_list_index_2 _ _)
    (list_indexAt l vs.toArray cc none #[] (.int k t) (isInt k) (ns.idxOf k) (by simpa [hlen] using hj) (by omega) ?_ ?_) ⟨hl, fun y hy => (eq_isInt k t hi y (by simpa using hy)).at _ _, h⟩
  · exact (isInt_at k hi _ (by omega) hj).trans (by simpa using List.getElem_idxOf hj)
  · exact fun j hjs hlt => (isInt_at k hi j (by simpa using hjs) (by omega)).trans (ne_of_lt_idxOf hlt _)
end
end Mine
end PartIndex

section PartFilt
open PySem PySem.W PyProof.Rows PySem.Calls PyProof.Rows.LCg
set_option maxRecDepth 100000
namespace Mine
section
variable {prog : Program} {w : World} {A : Around} {E : Value → Shared → Prop} {s : Shared} {env : Env} {h₀ : Heap} {L : Addr} {m : Str → Option Value} {scope : Scope} {cl : List (Str × Addr)} {news : List (Addr × Obj)}
/-- what a clause's test and its name say of one int -/
def Sifts (prog : Program) (w : World) (A : Around) (h₀ : Heap) (L : Addr) (m : Str → Option Value) (env : Env) (scope : Scope) (cl : List (Str × Addr)) (ct elt : Expr) (x : Str) (news : List (Addr × Obj)) (s : Shared) : Prop :=
  ∀ (k : Int) (t : Tok) (ys : List Value) (I : Addr) (oI : Obj) (C : Addr) (oC : Obj) (D : Addr) (m₂ : Str → Option Value) (h : Heap) (tk : Nat) (E' G : Value → Shared → Prop) (G' : Shared → Prop), NsObj oC m₂ → m₂ x = some (.int k t) → Fr h₀ L h m → News h₀ L h ((I, oI) :: (C, oC) :: (D, lst ys) :: news) →
    (0 < k → ∀ tk', G (.int k t) { s with heap := h, toks := tk' }) → (¬ 0 < k → ∀ tk', G' { s with heap := h, toks := tk' }) →
    wpAny (model prog w) A (isTrue ct (compEnvC scope cl C env) (eval ct (compEnvC scope cl C env))) (fun ok s' => if ok = true then wpAny (model prog w) A (eval elt (compEnvC scope cl C env)) G E' s' else G' s') E' { s with heap := h, toks := tk }
theorem filt_rest {ct elt : Expr} {x : Str} {S : List (Addr × Obj) → Prop} {Fin : List Value → List (Addr × Obj) → Prop} {vs : List Value} {ns : List Int} (hi : IntsAre vs ns) (hS : S news)
    (turn : Sifts prog w A h₀ L m env scope cl ct elt x news s) (fin : ∀ ys, IntsAre ys (ns.filter fun k => decide (0 < k)) → Fin ys news) :
    LCt.CompRestT prog w A h₀ L m env ct elt x scope cl s S (fun i v => vs.toArray[i]? = some v) Fin vs.toArray.size 0 [] news := by
  have main : ∀ (k i : Nat) (ys : List Value), i + k = vs.length → IntsAre ys ((ns.take i).filter fun k => decide (0 < k)) → LCt.CompRestT prog w A h₀ L m env ct elt x scope cl s S (fun i v => vs.toArray[i]? = some v) Fin k i ys news := by
    intro k
    induction k with
    | zero =>
      intro i ys hk hy
      rw [Nat.add_zero] at hk
      rw [hk, hi.length, List.take_length] at hy
      exact fin ys hy
    | succ k ih =>
      intro i ys hk hy
      refine LCt.CompRestT.succ ?_
      intro v I oI C oC D m₂ h tk E' hv hC hx F N off ne
      have hv' : vs[i]? = some v := by simpa using hv
      have key : ∀ (vs : List Value) (ns : List Int) (i : Nat), IntsAre vs ns → vs[i]? = some v → ∃ k t, ns[i]? = some k ∧ v = .int k t := by
        intro vs ns
        induction ns generalizing vs with
        | nil => intro i h h2; cases h; simp at h2
        | cons c r ih =>
          intro i h h2
          cases h with
          | cons y t h' =>
            cases i with
            | zero => simp at h2; exact ⟨c, t, rfl, h2.symm⟩
            | succ i => exact ih _ i h' (by simpa using h2)
      obtain ⟨a, t, ha, rfl⟩ := key vs ns i hi hv'
      refine turn a t ys I oI C oC D m₂ h tk E' _ _ hC hx F N ?_ ?_
      · intro h0 tk'
        refine ⟨h, tk', news, rfl, F, N, off, hS, ih (i + 1) _ (by omega) ?_⟩
        rw [List.take_add_one, ha, List.filter_append]
        have : (Option.some a).toList.filter (fun k => decide (0 < k)) = [a] := by simp [h0]
        rw [this]
        exact hy.append (.cons _ _ .nil)
      · intro h0 tk'
        refine ⟨h, tk', news, rfl, F, N, off, hS, ih (i + 1) _ (by omega) ?_⟩
        rw [List.take_add_one, ha, List.filter_append]
        have : (Option.some a).toList.filter (fun k => decide (0 < k)) = [] := by simp [h0]
        rw [this, List.append_nil]
        exact hy
  rw [List.size_toArray]
  exact main vs.length 0 [] (by omega) .nil
end
end Mine
end PartFilt

section PartLst
open PySem PySem.W PyProof.Rows PySem.Calls
set_option maxRecDepth 100000
namespace Mine
section
variable {prog : Program} {w : World} {A : Around} {E : Value → Shared → Prop} {s : Shared} {h₀ : Heap} {L : Addr} {m : Str → Option Value} {news : List (Addr × Obj)}
theorem list_text {x : Str} {t : Tok} {Q : Value → Shared → Prop} (hh : A.handled = none) (hsz : x.length ≤ 1000) (F : Fr h₀ L s.heap m) (N : News h₀ L s.heap news)
    (h : ∀ l vs c h' tk, StrsAre vs (x.cps.toList.map fun c => (⟨#[c]⟩ : Str)) → (∀ p ∈ news, p.1 < l) → Fr h₀ L h' m → News h₀ L h' ((l, listOf (List.toArray vs) c) :: news) → Q (.ref l) { s with heap := h', toks := tk }) :
    wpAny (model prog w) A (call (.type "list") [.str x t]) Q E s := by
  refine call_list_str hh x t (fun h' tk acc' c' hk hS' hacc => ?_) (by show x.length ≤ sizeLine; rw [sizeLine_eq]; omega)
  refine h s.heap.objs.size acc'.toList c' h' tk ?_ (fun p hp => Heap.lt_size (N p hp).1) (F.keeps hk) (fun p hp => ?_)
  · refine kdy_strs (by simp [hacc.1]) fun j v hv => ?_
    obtain ⟨c, u, hc, rfl⟩ := hacc.2 j v (by simpa using hv)
    exact ⟨⟨#[c]⟩, by simp [hc], u, rfl⟩
  · rcases List.mem_cons.mp hp with rfl | hp
    · refine ⟨?_, fun e => ?_, next_is_new F⟩
      · exact hS'
      · have := F.ns.lt
        rw [← e] at this
        exact absurd this (Nat.lt_irrefl _)
    · exact ⟨hk _ _ (N p hp).1, (N p hp).2⟩
end
theorem strs_rev : ∀ {vs : List Value} {xs : List Str}, StrsAre vs xs → StrsAre vs.reverse xs.reverse
  | _, _, .nil => .nil
  | _, _, .cons y t h => by
    rw [List.reverse_cons, List.reverse_cons]
    exact (strs_rev h).append' (.cons _ _ .nil)
end Mine
end PartLst

section PartJoseph
open PySem PySem.W PyProof.Rows
set_option maxRecDepth 100000
namespace Mine
theorem snoc_ind {P : List Int → Prop} (h0 : P []) (h1 : ∀ l k, P l → P (l ++ [k])) : ∀ l, P l := by
  intro l
  rw [← List.reverse_reverse l]
  induction l.reverse with
  | nil => exact h0
  | cons k r ih => rw [List.reverse_cons]; exact h1 _ _ ih
def tot (number : Int) : List Int → Int
  | [] => 0
  | k :: r => worth number k + tot number r
theorem tot_append (number : Int) : ∀ a b : List Int, tot number (a ++ b) = tot number a + tot number b
  | [], b => by simp [tot]
  | k :: r, b => by simp only [List.cons_append, tot, tot_append number r b]; omega
theorem hts_last (number : Int) : ∀ (ks : List Int) (a : Int), (hts number a ks).getLastD 0 = a + tot number ks
  | [], a => by simp [hts, tot]
  | k :: r, a => by
    have ih := hts_last number r (a + worth number k)
    rw [hts, tot]
    cases h : hts number (a + worth number k) r with
    | nil => have := hts_length number r (a + worth number k); rw [h] at this; simp at this
    | cons x xs => rw [h] at ih; rw [List.getLastD_cons, List.getLastD_cons] ; rw [List.getLastD_cons] at ih; omega
theorem hts_shift (number : Int) : ∀ (ks : List Int) (a b : Int), hts number (a + b) ks = (hts number a ks).map (· + b)
  | [], a, b => rfl
  | k :: r, a, b => by
    rw [hts, hts, List.map_cons, show a + b + worth number k = (a + worth number k) + b by omega, hts_shift number r]
theorem part_extra (q : Int → Bool) : ∀ (ks hs ts : List Int), ks.length = hs.length → part q ks (hs ++ ts) = part q ks hs
  | [], _, _, _ => by simp [part]
  | _ :: _, [], _, h => by simp at h
  | k :: r, x :: t, ts, h => by
    have ih := part_extra q r t ts (by simpa using h)
    simp only [List.cons_append, part, ih]
theorem hts_tail_snoc (number k : Int) (ks : List Int) : (hts number 0 (ks ++ [k])).tail = (hts number 0 ks).tail ++ [tot number (ks ++ [k])] := by
  rw [hts_snoc, hts_last, tot_append]
  cases h : hts number 0 ks with
  | nil => have := hts_length number ks 0; rw [h] at this; simp at this
  | cons x xs => simp [tot]
theorem part_turn (q : Int → Bool) (number k : Int) (ks : List Int) : part q (ks ++ [k]) (hts number 0 (ks ++ [k])).tail = part q ks (hts number 0 ks).tail ++ (if q (tot number (ks ++ [k])) then [k] else []) := by
  have hl : (hts number 0 ks).tail.length = ks.length := by rw [List.length_tail, hts_length]; omega
  rw [hts_tail_snoc, part_snoc q k ks _ (by rw [List.length_append, hl]; simp), part_extra q ks _ _ hl.symm]
  rw [List.getD_eq_getElem?_getD, List.getElem?_append_right (by omega), hl]
  simp
theorem turn_up {number k : Int} {ks : List Int} (h : 0 < tot number (ks ++ [k])) : turnRow number (ks ++ [k]) = k :: turnRow number ks := by
  rw [turnRow, part_turn, part_turn, if_pos (by simpa [up] using h), if_neg (by simp [dn]; omega)]
  simp [turnRow]
theorem turn_dn {number k : Int} {ks : List Int} (h : ¬ 0 < tot number (ks ++ [k])) : turnRow number (ks ++ [k]) = turnRow number ks ++ [k] := by
  rw [turnRow, part_turn, part_turn, if_neg (by simpa [up] using h), if_pos (by simp [dn]; omega)]
  simp [turnRow]
theorem turn_tot (number : Int) : ∀ ks, tot number (turnRow number ks) = tot number ks := by
  refine snoc_ind (by rfl) fun ks k ih => ?_
  by_cases h : 0 < tot number (ks ++ [k])
  · rw [turn_up h, tot, ih, tot_append]; simp only [tot]; omega
  · rw [turn_dn h, tot_append, ih, tot_append]
theorem unz_back (number : Int) : ∀ ks, unz number ks.length (turnRow number ks) (tot number ks) = ks.reverse := by
  refine snoc_ind (by rfl) fun ks k ih => ?_
  rw [List.length_append, List.length_singleton, List.reverse_append]
  have hsub : tot number (ks ++ [k]) - worth number k = tot number ks := by rw [tot_append]; simp only [tot]; omega
  by_cases h : 0 < tot number (ks ++ [k])
  · rw [unz_pos h, turn_up h, List.headD_cons, List.tail_cons, hsub, ih]; rfl
  · rw [unz_neg h, turn_dn h, List.getLastD_concat, List.dropLast_concat, hsub, ih]; rfl
/-- the row read back from its turning -/
theorem row_back (number : Int) (ks : List Int) : (unz number (turnRow number ks).length (turnRow number ks) ((hts number 0 (turnRow number ks)).getLastD 0)).reverse = ks := by
  rw [hts_last, turn_tot, turnRow_length, Int.zero_add, unz_back, List.reverse_reverse]
/-- j is the first place of the greatest, M -/
def FirstMax (l : List Int) (j : Nat) (M : Int) : Prop := l[j]? = some M ∧ (∀ i x, i < j → l[i]? = some x → x < M) ∧ ∀ x ∈ l, x ≤ M
def above (l : List Int) : Nat := (l.filter fun h => decide (0 < h)).length
theorem FirstMax.idx {l : List Int} {j : Nat} {M : Int} (h : FirstMax l j M) : l.idxOf M = j := by
  obtain ⟨h1, h2, _⟩ := h
  have hj : j < l.length := (List.getElem?_eq_some_iff.mp h1).1
  have hM : M ∈ l := List.mem_of_getElem? h1
  have hi : l.idxOf M < l.length := List.idxOf_lt_length_iff.mpr hM
  have hg : l[l.idxOf M] = M := List.getElem_idxOf hi
  rcases Nat.lt_trichotomy (l.idxOf M) j with hlt | he | hgt
  · have := h2 _ M hlt (by rw [List.getElem?_eq_getElem hi, hg])
    omega
  · exact he
  · exfalso
    have := List.not_of_lt_findIdx (p := (· == M)) (xs := l) (i := j) hgt
    have e := (List.getElem?_eq_some_iff.mp h1).2
    simp [e] at this
theorem mem_last {l : List Int} (h : l ≠ []) : l.getLastD 0 ∈ l := by
  rw [List.getLastD_eq_getLast?, List.getLast?_eq_some_getLast h]; exact List.getLast_mem h
theorem joseph (number : Int) : ∀ ks, ∃ M, 0 ≤ M ∧ FirstMax (hts number 0 (turnRow number ks)) (above (hts number 0 ks)) M := by
  refine snoc_ind ⟨0, by decide, rfl, (by intro i x hi; exact absurd hi (Nat.not_lt_zero i)), ?_⟩ fun ks k ih => ?_
  · intro x hx
    have : x = 0 := by simpa [turnRow, part, hts] using hx
    omega
  obtain ⟨M, hM0, h1, h2, h3⟩ := ih
  have habove : above (hts number 0 (ks ++ [k])) = above (hts number 0 ks) + (if 0 < tot number (ks ++ [k]) then 1 else 0) := by
    rw [hts_snoc, hts_last, above, List.filter_append, List.length_append]
    have e : 0 + tot number ks + worth number k = tot number (ks ++ [k]) := by rw [tot_append]; simp only [tot]; omega
    rw [e]
    by_cases h : 0 < tot number (ks ++ [k])
    · rw [if_pos h]; simp [h, above]
    · rw [if_neg h]; simp [h, above]
  by_cases h : 0 < tot number (ks ++ [k])
  · have hlastM : tot number ks ≤ M := by
      have := h3 _ (mem_last (l := hts number 0 (turnRow number ks)) (by intro e; have := hts_length number (turnRow number ks) 0; rw [e] at this; simp at this))
      rwa [hts_last, turn_tot, Int.zero_add] at this
    have htot : tot number (ks ++ [k]) = tot number ks + worth number k := by rw [tot_append]; simp only [tot]; omega
    refine ⟨M + worth number k, by omega, ?_⟩
    rw [habove, if_pos h, turn_up h, hts, hts_shift number _ 0 (worth number k)]
    refine ⟨?_, ?_, ?_⟩
    · rw [List.getElem?_cons_succ, List.getElem?_map, h1]; rfl
    · intro i x hi hx
      cases i with
      | zero => rw [List.getElem?_cons_zero] at hx; cases hx; omega
      | succ i =>
        rw [List.getElem?_cons_succ, List.getElem?_map] at hx
        cases hy : (hts number 0 (turnRow number ks))[i]? with
        | none => rw [hy] at hx; simp at hx
        | some y =>
          rw [hy] at hx
          have := h2 i y (by omega) hy
          have hx' : y + worth number k = x := by simpa using hx
          omega
    · intro x hx
      rcases List.mem_cons.mp hx with rfl | hx
      · omega
      · obtain ⟨y, hy, rfl⟩ := List.mem_map.mp hx
        have := h3 y hy
        show y + worth number k ≤ _
        omega
  · refine ⟨M, hM0, ?_⟩
    have hj := (List.getElem?_eq_some_iff.mp h1).1
    rw [habove, if_neg h, turn_dn h, hts_snoc, hts_last, turn_tot]
    have htot : tot number (ks ++ [k]) = tot number ks + worth number k := by rw [tot_append]; simp only [tot]; omega
    refine ⟨?_, ?_, ?_⟩
    · rw [Nat.add_zero, List.getElem?_append_left hj]; exact h1
    · intro i x hi hx
      rw [List.getElem?_append_left (by omega)] at hx
      exact h2 i x hi hx
    · intro x hx
      rcases List.mem_append.mp hx with hx | hx
      · exact h3 x hx
      · rw [List.mem_singleton.mp hx]; omega
theorem byteArr_bInts {a b : Array UInt8} (h : KBw.bInts a = KBw.bInts b) : a = b := by
  have : a.toList = b.toList := by
    have inj : ∀ (x y : List UInt8), x.map (fun c => (c.toNat : Int)) = y.map (fun c => (c.toNat : Int)) → x = y := by
      intro x
      induction x with
      | nil => intro y h; cases y with
        | nil => rfl
        | cons _ _ => simp at h
      | cons c r ih => intro y h; cases y with
        | nil => simp at h
        | cons d t =>
          simp only [List.map_cons, List.cons.injEq] at h
          have : c = d := UInt8.toNat.inj (by have := h.1; omega)
          rw [this, ih t h.2]
    exact inj _ _ h
  exact Array.toList_inj.mp this
theorem idx_above {number M : Int} {ks : List Int} (hm : M ∈ hts number 0 (turnRow number ks)) (hx : ∀ a, a ∈ hts number 0 (turnRow number ks) → a ≤ M) :
    (hts number 0 (turnRow number ks)).idxOf M = ((hts number 0 ks).filter fun k => decide (0 < k)).length := by
  obtain ⟨M', _, h⟩ := joseph number ks
  have e : M = M' := Int.le_antisymm (h.2.2 M hm) (hx M' (List.mem_of_getElem? h.1))
  rw [e]
  exact h.idx
end Mine
end PartJoseph

section PartLaw1
open PySem PySem.W PyProof.Rows PySem.Calls PyProof.Rows.LCg
set_option maxRecDepth 100000
set_option maxHeartbeats 8000000
namespace Mine
theorem call_fullWN {prog : Program} {w : World} {A : Around} {R : Flow → Shared → Prop} {s : Shared} {name : Str} {params : Arguments} {body : List Stmt} {scope : Scope}
    {dV kV pm cd doc : Value} {a : Addr} {o : Obj} {args : Args} {binds : List (Str × Value)}
    (hroom : A.depth < recursionLimit) (ho : s.heap.get? a = some o) (hdata : o.data = .func { docDef name params body scope pm cd doc with defaults := dV, kwdefaults := kV }) (hlim : s.heap.NoLimit) (hcd : s.heap.CodeRec cd name)
    (hbind : BindsTo s { docDef name params body scope pm cd doc with defaults := dV, kwdefaults := kV } args binds)
    (hloc : ∀ x ∈ binds, scope.names.lookup x.1 = some .local)
    (h : ∀ h₁, Fr s.heap s.heap.objs.size h₁ (fun x => binds.reverse.lookup x) →
      wpN (model prog w) (A.deeper (envOf name scope s.heap.objs.size a cd)) (execs body (envOf name scope s.heap.objs.size a cd))
        (fun f s' => R (.ret (match f with | .ret v => v | _ => .none)) s') { s with heap := h₁, toks := s.toks + binds.length })
    (hco : scope.isCoroutine = false := by rfl) (hgen : scope.isGenerator = false := by rfl) (hk : scope.kind = .function := by rfl)
    (hcell : ∀ x ∈ scope.names, x.2 ≠ .cell := by decide) : codeN (model prog w) A (.call (.ref a) args) R s := by
  refine codeN_call_function hroom ho hdata hco hgen rfl hcd (hbind _ _ _ _ ?_)
  refine wpAny_newFunctionEnv hcell hloc (fun h₀ hns₀ hsb₀ => ⟨hlim.fresh _ hsb₀, codeN_func (h h₀ ⟨hns₀, fun b o e => ?_, Nat.le_refl _⟩)⟩) hk
  exact hsb₀.extBut b o (Nat.ne_of_lt (Heap.lt_size e)) (Heap.get?_push_of_some _ e)
theorem cells_three {dr : List Int} (h : dr.length ≤ 3) (hb : ∀ x ∈ dr, 0 ≤ x ∧ x < 1000000) : ∃ c0 c1 c2 : Int, dr ++ [0, 48127, 0].drop dr.length = [c0, c1, c2] ∧ 0 ≤ c0 ∧ 0 ≤ c1 ∧ 0 ≤ c2 ∧ c2 < 1000000 := by
  match dr, h, hb with
  | [], _, _ => exact ⟨0, 48127, 0, rfl, by decide, by decide, by decide, by decide⟩
  | [a], _, hb => exact ⟨a, 48127, 0, rfl, (hb a (by simp)).1, by decide, by decide, by decide⟩
  | [a, b], _, hb => exact ⟨a, b, 0, rfl, (hb a (by simp)).1, (hb b (by simp)).1, by decide, by decide⟩
  | [a, b, c], _, hb => exact ⟨a, b, c, rfl, (hb a (by simp)).1, (hb b (by simp)).1, (hb c (by simp)).1, (hb c (by simp)).2⟩
  | a :: b :: c :: d :: r, h, _ => simp at h
theorem ints_three {vs : List Value} {a b c : Int} (h : IntsAre vs [a, b, c]) : ∃ t0 t1 t2, vs = [.int a t0, .int b t1, .int c t2] := by
  cases h with | cons _ t0 h => cases h with | cons _ t1 h => cases h with | cons _ t2 h => cases h; exact ⟨t0, t1, t2, rfl⟩
theorem ints_two {vs : List Value} {a b : Int} (h : IntsAre vs [a, b]) : ∃ t0 t1, vs = [.int a t0, .int b t1] := by
  cases h with | cons _ t0 h => cases h with | cons _ t1 h => cases h; exact ⟨t0, t1, rfl⟩
def lawM (m : Str → Option Value) (c : Array UInt8 × Tok × Option Value × Option Value) (y : Str) : Option Value :=
  if y = Str.ofString "octets" then some (.bytes c.1 c.2.1) else if y = Str.ofString "heights" then c.2.2.1 else if y = Str.ofString "fresh" then c.2.2.2 else m y
theorem lawM_start {m : Str → Option Value} {b : Array UInt8} {t : Tok} (h : m (Str.ofString "octets") = some (.bytes b t)) (z : Str) : m z = lawM m (b, t, m (Str.ofString "heights"), m (Str.ofString "fresh")) z := by
  unfold lawM
  by_cases e1 : z = Str.ofString "octets"
  · rw [if_pos e1, e1, h]
  · by_cases e2 : z = Str.ofString "heights"
    · rw [if_neg e1, if_pos e2, e2]
    · by_cases e3 : z = Str.ofString "fresh"
      · rw [if_neg e1, if_neg e2, if_pos e3, e3]
      · rw [if_neg e1, if_neg e2, if_neg e3]
def lawMap (q : Int) (tr : Tok) (b : Array UInt8) (to : Tok) (number : Int) (tn : Tok) (lm : Addr) (mx : Str → Option Value) (y : Str) : Option Value :=
  if y = Str.ofString "rounds" then some (.int q tr) else if y = Str.ofString "octets" then some (.bytes b to) else if y = Str.ofString "number" then some (.int number tn) else if y = Str.ofString "modes" then some (.ref lm) else mx y
theorem ledger_names {h₀ h : Heap} {L lm lc : Addr} {p0 p2 : Addr × Obj} {om oc : Obj} (N : News h₀ L h [p0, (lm, om), p2, (lc, oc)]) : ∃ lm' lc', lm' = lm ∧ lc' = lc ∧ News h₀ L h [(lm', om), (lc', oc)] :=
  ⟨lm, lc, rfl, rfl, fun q hq => N q (by
    rcases List.mem_cons.mp hq with rfl | hq
    · exact List.mem_cons_of_mem _ List.mem_cons_self
    · exact List.mem_cons_of_mem _ (List.mem_cons_of_mem _ (List.mem_cons_of_mem _ hq)))⟩
theorem one_two (x : Int) : 1 + x.fmod 2 = 1 ∨ 1 + x.fmod 2 = 2 := by
  have h1 := Int.fmod_nonneg_of_pos x (by decide : (0 : Int) < 2)
  have h2 := Int.fmod_lt_of_pos x (by decide : (0 : Int) < 2)
  omega
theorem mode_in (c : Int) : 0 ≤ (c + 35242).fmod 65536 ∧ (c + 35242).fmod 65536 < 65536 := ⟨Int.fmod_nonneg_of_pos _ (by decide), Int.fmod_lt_of_pos _ (by decide)⟩
theorem flat_len : ∀ pre : List Int, (pre.flatMap signs).length = 10 * pre.length
  | [] => rfl
  | k :: r => by rw [List.flatMap_cons, List.length_append, signs_length, flat_len r, List.length_cons]; omega
theorem news_first {h₀ h : Heap} {L : Addr} {p : Addr × Obj} {r : List (Addr × Obj)} (N : News h₀ L h (p :: r)) : News h₀ L h [p] := fun q hq => N q (List.mem_cons.mpr (.inl (List.mem_singleton.mp hq)))
theorem map_four {m : Str → Option Value} {v1 v2 v3 v4 : Option Value} (h1 : m (Str.ofString "octets") = v1) (h2 : m (Str.ofString "number") = v2) (h3 : m (Str.ofString "modes") = v3) (h4 : m (Str.ofString "rounds") = v4) :
    m = fun y => if y = Str.ofString "octets" then v1 else if y = Str.ofString "number" then v2 else if y = Str.ofString "modes" then v3 else if y = Str.ofString "rounds" then v4 else m y := by
  funext y
  by_cases e1 : y = Str.ofString "octets"
  · rw [if_pos e1, e1, h1]
  by_cases e2 : y = Str.ofString "number"
  · rw [if_neg e1, if_pos e2, e2, h2]
  by_cases e3 : y = Str.ofString "modes"
  · rw [if_neg e1, if_neg e2, if_pos e3, e3, h3]
  by_cases e4 : y = Str.ofString "rounds"
  · rw [if_neg e1, if_neg e2, if_neg e3, if_pos e4, e4, h4]
  rw [if_neg e1, if_neg e2, if_neg e3, if_neg e4]
theorem flat_rev_len : ∀ pre : List Int, (pre.flatMap fun mode => (signs mode).reverse).length = 10 * pre.length
  | [] => rfl
  | k :: r => by rw [List.flatMap_cons, List.length_append, List.length_reverse, signs_length, flat_rev_len r, List.length_cons]; omega
theorem news_third {h₀ h : Heap} {L : Addr} {a b c d : Addr × Obj} {r : List (Addr × Obj)} (N : News h₀ L h (a :: b :: c :: d :: r)) : News h₀ L h (c :: d :: a :: r) := fun q hq => N q (by
  simp only [List.mem_cons] at hq ⊢
  rcases hq with e | e | e | e <;> simp [e])
theorem news_drop3 {h₀ h : Heap} {L : Addr} {a b c : Addr × Obj} {r : List (Addr × Obj)} (N : News h₀ L h (a :: b :: c :: r)) : News h₀ L h (a :: b :: r) := fun q hq => N q (by
  simp only [List.mem_cons] at hq ⊢
  rcases hq with e | e | e <;> simp [e])
theorem off_cons {C : Addr} {a : Addr} {o : Obj} {r : List (Addr × Obj)} (h : ∀ p ∈ r, p.1 ≠ C) (ha : a ≠ C) : ∀ p ∈ (a, o) :: r, p.1 ≠ C := fun p hp => by
  rcases List.mem_cons.mp hp with rfl | hp
  · exact ha
  · exact h p hp
theorem signs_rev_in {m0 m1 : Int} (h0 : 0 ≤ m0 ∧ m0 < 65536) (h1 : 0 ≤ m1 ∧ m1 < 65536) : ∀ k ∈ List.flatMap (fun mode => (signs mode).reverse) [m0, m1], 0 ≤ k ∧ k < 256 := fun k hk => by
  obtain ⟨x, hx, hk2⟩ := List.mem_flatMap.mp hk
  have : x = m0 ∨ x = m1 := by simpa using hx
  have hx2 : 0 ≤ x ∧ x < 65536 := by rcases this with rfl | rfl <;> assumption
  have := signs_good hx2.1 hx2.2 k (List.mem_reverse.mp hk2)
  omega
theorem turned_same (m0 m1 : Int) : ((List.flatMap signs [m0, m1]).take 10).reverse ++ ((List.flatMap signs [m0, m1]).drop 10).reverse = List.flatMap (fun mode => (signs mode).reverse) [m0, m1] := by
  have e : List.flatMap signs [m0, m1] = signs m0 ++ signs m1 := by simp
  rw [e, List.take_left' (signs_length m0), List.drop_left' (signs_length m0)]
  simp
def backM (q : Nat) (tr : Tok) (number : Int) (tn : Tok) (lm : Addr) (m : Str → Option Value) (c : Array UInt8 × Tok) (y : Str) : Option Value :=
  if y = Str.ofString "octets" then some (.bytes c.1 c.2) else if y = Str.ofString "number" then some (.int number tn) else if y = Str.ofString "modes" then some (.ref lm) else if y = Str.ofString "rounds" then some (.int q tr) else m y
section
local macro_rules | `(tactic| walk_at "eval ListComp") => `(tactic| with_reducible refine Stop.mk ?_)
local macro_rules | `(tactic| walk_at "call type:list") => `(tactic| with_reducible refine Stop.mk ?_)
local macro_rules | `(tactic| walk_at "InvEndN") => `(tactic| with_reducible refine Stop.mk ?_)
local macro_rules | `(tactic| walk_at "CompSrcT") => `(tactic| with_reducible refine Stop.mk ?_)
local macro_rules | `(tactic| walk_at "subscriptTail") => `(tactic| ((fail_if_success (with_reducible show wpAny _ _ (subscriptTail (PySem.Expr.Name _ _) _ _ _) _ _ _)); with_reducible refine Stop.mk ?_))
local macro_rules | `(tactic| walk_at "pyIter ref") => `(tactic| with_reducible refine Stop.mk ?_)
local macro_rules | `(tactic| walk_at "pyIter str") => `(tactic| with_reducible refine Stop.mk ?_)
local macro_rules | `(tactic| walk_at "call ref") => `(tactic| with_reducible refine Stop.mk ?_)
theorem law_walk : PySem.Challenge.rw_pg0082_01.Holds := by
  apply Mine.hd
  w_top off
  k_fill
  intro w s₀ s₁ mg mb G Y fa o pm cd doc dV kV ho hd hcd hD hmg hg args vals as hpre hlay hrd hwl hlo
  have KX := kIn_of Y
  have X := (Ground.X G).1
  have V := (Ground.X G).2
  have GL := glob_more (Ground.glob G (by first | k_qdec | decide +kernel) (by first | k_qdec | decide +kernel)) V
  refine Ground.open G ?_
  intro T B D TE TW
  try (refine guard_noD D (by decide +kernel) ?_; clear D)
  obtain ⟨_, _, M⟩ := bmod_of_top T
  have TA := at_of_top T
  try (obtain ⟨_, _, he, B0⟩ := based_of_top T rfl hmg ho hd; have he' : cd = _ := he; subst he'; clear he)
  clear hmg
  wrow_args hpre hlay hrd hwl hlo
  rename_i a1 a2 b1 b2 zs q1 q2 q3 q4 q5 as1 as2 l vs as3 hL q6 q7 q8 hI q9 hlen q10
  clear q1 q2 q3 q4 q5 q6 q7 q8 q9 q10
  refine wpN_call ?_
  w_top on
  refine codeN_mono ?_ (fun _ _ g => g)
  have K0 : Below callerA s₁.heap [] s₁.heap := below_caller _
  have he := Dflts.none hD rfl; subst he
  refine call_fullWN (by decide) ho hd (Top.nolimit T) hcd (BindsTo.of_eq rfl) (locs rfl) fun h₁ F => ?_
  w_binds F
  have N0 := (News.nil : News _ _ _ []).at F
  clear hd TA
  k_drop
  refine wpN_execs_cons (wpN_of ?_)
  try k_fold
  w_strict k_steps
  clear G Y V GL TE TW M
  rename (IntsAre _ (List.map _ _)) => hI8
  rename Fr _ _ _ _ => F3
  rename News _ _ _ _ => N3
  clear hI hL
  revert hI8
  have hdl : (List.map (fun k' : Int => k'.fmod (10 ^ Int.toNat 6)) (List.take 3 zs)).length ≤ 3 := by
    rw [List.length_map, List.length_take]; omega
  have hdb : ∀ x ∈ List.map (fun k' : Int => k'.fmod (10 ^ Int.toNat 6)) (List.take 3 zs), 0 ≤ x ∧ x < 1000000 := by
    intro x hx
    obtain ⟨k, _, rfl⟩ := List.mem_map.mp hx
    exact ⟨Int.fmod_nonneg_of_pos _ (by decide), Int.fmod_lt_of_pos _ (by decide)⟩
  generalize List.map (fun k' : Int => k'.fmod (10 ^ Int.toNat 6)) (List.take 3 zs) = dr at hdl hdb
  intro hI8
  have hyl := hI8.length
  replace N3 := news_first N3
  refine wpN_execs_cons (wpN_of ?_)
  try k_fold
  w_strict k_steps
  refine Stop.out ?_
  rename Fr _ _ _ _ => F4
  rename News _ _ _ _ => N4
  have i3 : ∀ t0 t1 t2, IntsAre [.int 0 t0, .int 48127 t1, .int 0 t2] [0, 48127, 0] := fun t0 t1 t2 => .cons _ _ (.cons _ _ (.cons _ _ .nil))
  refine kba_turn (value' := PySem.Expr.Name (PySem.Str.ofString "_") ⟨0, 0, 0, 0⟩) (fun _ => rfl) ?_
  refine kmk_slice_ints (s := ⟨_, _, _, _, _⟩) (ns := [0, 48127, 0]) (ms := [0, 48127, 0].drop ((dr.length : Nat) : Int).toNat) F4 N4 ⟨_, (N4 _ List.mem_cons_self).1, rfl, _, rfl⟩ (IsPart.int _ _) IsPart.none (i3 _ _ _) (kmk_from (i3 _ _ _) (Int.natCast_nonneg _)) rfl (fun D6 ws6 h6 F6 N6 l6 hI6 _ _ => ?_) ?_ ?_ ?_
  rotate_left
  · with_unfolding_all rfl
  · intro _; rfl
  · rw [sizeLine_eq]; simp
  dsimp only
  clear F4 N4
  have hw6 := hI6.length
  try k_fold
  w_strict k_steps
  rename (IntsAre _ (dr ++ _)) => hI7
  rw [Int.toNat_natCast] at hI7
  obtain ⟨c0, c1, c2, hc, b0, b1, b2, b3⟩ := cells_three hdl hdb
  rw [hc] at hI7
  obtain ⟨t0, t1, t2, rfl⟩ := ints_three hI7
  rename News _ _ _ _ => N7
  replace N7 := news_first N7
  clear hI7 hI6 l6 hw6 hc hdl hdb hI8 hyl
  refine wpN_execs_cons (wpN_of ?_)
  try k_fold
  w_strict k_steps
  refine wpN_execs_cons (wpN_of ?_)
  try k_fold
  w_strict k_steps
  rename News _ _ _ _ => N8
  rename Fr _ _ _ _ => F8
  refine wpN_execs_cons (wpN_of ?_)
  try k_fold
  w_strict k_steps
  refine Stop.out ?_
  refine eval_blk (by rfl) (by rfl) (by decide) ?_
  try k_fold
  w_strict k_steps
  refine Stop.out ?_
  (try k_unfold)
  have hm0 := mode_in c0
  have hm1 := mode_in c1
  generalize (c0 + 35242).fmod 65536 = m0 at hm0 N8
  generalize (c1 + 35242).fmod 65536 = m1 at hm1 N8
  refine two_blk signs ?_ List.mem_cons_self (.cons _ _ (.cons _ _ .nil)) ?_ ?_ ?_ ?_ F8 N8 ?_ ?_
  · rfl
  · decide
  · rfl
  · rfl
  · intro _ _; rfl
  · intro pre post k t ys C D oC m₂ h tk own R he hj hoC hm hDC oC1 oD1 F9 N9
    unfold B0
    try k_fold
    w_strict k_steps
    refine Stop.out ?_
    refine Tell.use file_tell K0 F9 KX N9 T rfl (by decide) (by decide) ?_
    rintro r nx h2 tk2 ⟨t2, rfl, rfl⟩ F10 N10
    clear F9 N9
    have hk : k = m0 ∨ k = m1 := by
      have : k ∈ [m0, m1] := by rw [he]; simp
      simpa using this
    have hpl : pre.length ≤ 2 := by
      have := congrArg List.length he
      simp at this; omega
    have hys : ys.length = 10 * pre.length := by rw [hj.length, flat_len]
    have htx : Txt.join (Str.ofString "") (permTo k 10) = textTo k 9 := by
      rcases hk with rfl | rfl
      · exact text_same hm0.1 hm0.2
      · exact text_same hm1.1 hm1.2
    rw [htx]
    try k_fold
    w_strict k_steps
    refine Stop.out ?_
    (try k_unfold)
    refine str_clause ?_ ?_ ?_ ?_ hDC oC1 oD1 F10 N10 hoC hj ?_ ?_
    · rfl
    · rw [textTo_length, hys]; omega
    · rfl
    · rfl
    · intro n t3 ys3 oC3 m3 h3 tk3 own3 Q' E' hoC3 hm3 F11 N11 hq
      try k_fold
      w_strict k_steps
      exact hq _ _
    · intro ys4 oC4 m4 h4 tk4 hI4 hoC4 F4 N4
      refine ⟨h4, tk4, oC4, m4, ys4, rfl, F4, hoC4, N4, ?_⟩
      rw [List.flatMap_append]
      simpa [signs, codesOf] using hI4
  · intro D C ys oC m' h tk hI hoC hDC oC1 ltD F9 N9
    refine blk_out F9 N9 hoC hDC oC1 fun h' F10 N10 => ?_
    clear F8 N8 F9 N9
    obtain ⟨ks, hks⟩ : ∃ ks, List.flatMap signs [m0, m1] = ks := ⟨_, rfl⟩
    have hkl : ks.length = 20 := by rw [← hks, flat_len]; rfl
    have hkg : ∀ k ∈ ks, 0 < k ∧ k < 128 := by
      intro k hk
      rw [← hks] at hk
      obtain ⟨x, hx, hk2⟩ := List.mem_flatMap.mp hk
      have : x = m0 ∨ x = m1 := by simpa using hx
      rcases this with rfl | rfl
      · exact signs_good hm0.1 hm0.2 k hk2
      · exact signs_good hm1.1 hm1.2 k hk2
    have hkin : KBa.In ks := fun k hk => ⟨Int.le_of_lt (hkg k hk).1, Int.lt_trans (hkg k hk).2 (by decide)⟩
    rw [hks] at hI
    have hyl := hI.length
    try k_fold
    w_strict k_steps
    rename News _ _ _ _ => N11
    obtain ⟨lm, lc, rfl, rfl, N12⟩ := ledger_names N11
    clear N11
    refine wpN_execs_cons (wpN_of ?_)
    try k_fold
    w_strict k_steps
    rename Fr _ _ _ _ => F12
    rename News _ _ _ _ => N12
    obtain ⟨R, hR, tr, to, tn, mx, F13⟩ : ∃ (R : Int) (_ : R = 1 ∨ R = 2) (tr to tn : Tok) (mx : Str → Option Value), Fr s₁.heap s₁.heap.objs.size _ (fun y => if y = Str.ofString "rounds" then some (.int R tr) else if y = Str.ofString "octets" then some (.bytes (byteArr ks) to) else if y = Str.ofString "number" then some (.int (c2 + 5030) tn) else if y = Str.ofString "modes" then some (.ref lm) else mx y) := ⟨_, one_two _, _, _, _, _, F12⟩
    clear F12
    obtain ⟨q, hq⟩ : ∃ q : Nat, R = (q : Int) := ⟨R.toNat, by omega⟩
    subst hq
    generalize hnum : c2 + 5030 = number at F13
    have hn0 : 5030 ≤ number := by omega
    clear hI hyl oC1 ltD hoC hDC b0 b1 b2 b3 hnum
    refine wpN_execs_cons (wpN_For ?_)
    try k_fold
    w_strict k_steps
    refine Stop.out ?_
    rename IsRange _ _ _ _ _ _ _ _ => R1
    rename Fr _ _ _ _ => F14
    rename News _ _ _ _ => N14
    refine range_stN (σ := Array UInt8 × Tok × Option Value × Option Value) (n := q) (fun _ => _) (lawM (lawMap q tr (byteArr ks) to number tn lm mx)) (fun i c => KBw.bInts c.1 = rowsAt number ks i) (byteArr ks, to, _, _) ?_ R1 ?_ ?_ F14 N14 (fun z _ => lawM_start (m := lawMap q tr (byteArr ks) to number tn lm mx) rfl z) ?_ ?_ ?_ ?_ ?_
    · rfl
    · exact small_one (by omega) (by omega) (by omega) (by omega)
    · exact rangeSize_nat _ _
    · exact KBa.ints_make hkin
    · rfl
    · rfl
    · intro i ti c h tk own hi hj F15 N15
      obtain ⟨b, tb, u1, u2⟩ := c
      unfold lawM lawMap at F15
      dsimp only at hj F15 N15
      obtain ⟨row, hrow⟩ : ∃ row, rowsAt number ks i = row := ⟨_, rfl⟩
      have hrl : row.length = 20 := by rw [← hrow, rowsAt_length, hkl]
      have hrg : ∀ k ∈ row, 0 < k ∧ k < 128 := fun k hk => hkg k (rowsAt_mem i k (hrow ▸ hk))
      rw [hrow] at hj
      refine wpN_execs_cons (wpN_of ?_)
      try k_fold
      w_strict k_steps
      refine Stop.out ?_
      refine Tell.use (heights_tell hj (fun k hk => (hrg k hk).1) (by omega)) K0 F15 KX N15 T rfl (by decide) (by decide) ?_
      rintro r nx h2 tk2 ⟨lh, vsh, ch, rfl, rfl, hIh, hlh⟩ F16 N16
      clear F15 N15
      try k_fold
      w_strict k_steps
      rename Fr _ _ _ _ => F17
      rename News _ _ _ _ => N17
      refine wpN_execs_cons (wpN_Assign_Name (wpN_CallName (f := .ref 87) (P := (Mine.hd.heap_39 w.params).In) (fun _ X' => looks_keep (by rfl) X') ?_))
      try k_fold
      w_strict k_steps
      refine TellN.use (parted_tell hj (by omega) hIh (by rw [hts_length])) K0 F17 KX N17 T rfl (by decide) (by decide) ?_
      rintro r nx h3 tk3 ⟨b', t', rfl, hb', rfl⟩ F18 N18
      clear F17 N17
      replace hb' : KBw.bInts b' = turnRow number row := hb'
      obtain ⟨row', hrow'⟩ : ∃ row', turnRow number row = row' := ⟨_, rfl⟩
      have hrl' : row'.length = 20 := by rw [← hrow', turnRow_length, hrl]
      have hrg' : ∀ k ∈ row', 0 < k ∧ k < 128 := fun k hk => hrg k (turnRow_mem k (hrow' ▸ hk))
      rw [hrow'] at hb'
      try k_fold
      w_strict k_steps
      refine wpN_execs_cons (wpN_of ?_)
      try k_fold
      w_strict k_steps
      refine Stop.out ?_
      rename Fr _ _ _ _ => F19
      rename News _ _ _ _ => N19
      refine Tell.use (heights_tell hb' (fun k hk => (hrg' k hk).1) (by omega)) K0 F19 KX N19 T rfl (by decide) (by decide) ?_
      rintro r nx h4 tk4 ⟨lf, vsf, cf, rfl, rfl, hIf, hlf⟩ F20 N20
      clear F19 N19
      try k_fold
      w_strict k_steps
      have hvh : vsh.length = 21 := by rw [hIh.length, hts_length, hrl]
      have hvf : vsf.length = 21 := by rw [hIf.length, hts_length, hrl']
      refine wpN_execs_cons (wpN_of ?_)
      try k_fold
      w_strict k_steps
      rename News _ _ _ _ => N21
      rename Fr _ _ _ _ => F21
      rename (∀ a : Int, a ∈ hts number 0 row' → a ≤ _) => hmax
      rename (_ ∈ hts number 0 row') => hmem
      refine index_ints (ns := hts number 0 row') (N21 _ List.mem_cons_self).1 (by assumption) (by rw [hts_length]; omega) hmem ?_

      have hidx : ((hts number 0 row').idxOf _ : Int) = (((hts number 0 row).filter fun k => decide (0 < k)).length : Nat) := congrArg Int.ofNat (by
        rw [← hrow'] at hmem hmax ⊢
        exact idx_above hmem hmax)
      rw [hidx]
      try k_fold
      w_strict k_steps
      refine Stop.out ?_
      refine LCt.ListComp_T (F₀ := F21) (by with_unfolding_all rfl) (by decide) (by rfl) (by decide) (by rfl) ?_
      try k_fold
      w_strict k_steps
      refine Stop.out ?_
      (try k_unfold)
      refine LCt.CompSrcT.ledger (by rfl) F21 N21 (List.mem_cons_of_mem _ List.mem_cons_self) (by rw [List.size_toArray, hvh]; exact (by decide : 21 ≤ sizeLine)) fun g' => ?_
      refine filt_rest hIh (.inr ⟨_, List.mem_cons_of_mem _ List.mem_cons_self, rfl, _, rfl⟩) ?_ ?_
      · intro k t ys I oI C oC D m₂ h tk E' G G' hoC hm2 F22 N22 hG hG'
        clear F21 N21
        try k_fold
        w_strict k_steps
        · exact hG (by assumption) _
        · exact hG' (by assumption) _
      · intro ys hys D h5 tk5 F22 N22 o1
        have hyl : ys.length = _ := hys.length
        have hfl : (List.filter (fun k => decide (0 < k)) (hts number 0 row)).length ≤ 21 := Nat.le_trans (List.length_filter_le _ _) (Nat.le_of_eq (by rw [hts_length, hrl]))
        replace N22 : News s₁.heap s₁.heap.objs.size h5 ((D, W.listOf ys.toArray ys.length) :: (lf, W.listOf vsf.toArray cf) :: (lh, W.listOf vsh.toArray ch) :: ([(lm, _), (lc, _)] ++ own)) := N22
        clear F21 N21
        try k_fold
        w_strict k_steps
        · exact absurd rfl (by assumption)
        refine wpN_execs_nil ?_
        refine stt_end (b', t', some (.ref lh), some (.ref lf)) F22 N22 (fun z hz => ?_) (hb'.trans (by rw [← hrow', ← hrow]; rfl)) rfl ?_ ?_
        · unfold lawM lawMap
          by_cases n1 : z = Str.ofString "octets"
          · subst n1; rfl
          by_cases n2 : z = Str.ofString "heights"
          · subst n2; rfl
          by_cases n3 : z = Str.ofString "fresh"
          · subst n3; rfl
          simp only [if_neg n1, if_neg n2, if_neg n3, if_neg hz]
        · intro p hp
          exact List.mem_cons_of_mem _ (List.mem_cons_of_mem _ (List.mem_cons_of_mem _ (List.mem_append_left _ hp)))
        · intro p hp
          exact List.mem_cons_of_mem _ (List.mem_cons_of_mem _ (List.mem_cons_of_mem _ (List.mem_append_right _ hp)))
    · intro c u h tk hj F15 N15
      obtain ⟨b, tb, u1, u2⟩ := c
      dsimp only at hj
      rw [map_four (v1 := some (.bytes b tb)) (v2 := some (.int number tn)) (v3 := some (.ref lm)) (v4 := some (.int q tr)) (m := fun y => if y = Str.ofString "turn" then u y else lawM (lawMap q tr (byteArr ks) to number tn lm mx) (b, tb, u1, u2) y) rfl rfl rfl rfl] at F15
      obtain ⟨mz, F13⟩ : ∃ mz : Str → Option Value, Fr s₁.heap s₁.heap.objs.size h (fun y => if y = Str.ofString "octets" then some (.bytes b tb) else if y = Str.ofString "number" then some (.int number tn) else if y = Str.ofString "modes" then some (.ref lm) else if y = Str.ofString "rounds" then some (.int q tr) else mz y) := ⟨_, F15⟩
      clear F15
      refine wpN_execs_cons (wpN_of ?_)
      try k_fold
      w_strict k_steps
      refine Stop.out ?_
      rename IsRange _ _ _ _ _ _ _ _ => R2
      rename Fr _ _ _ _ => F16
      rename News _ _ _ _ => N16
      refine range_st (σ := Array UInt8 × Tok) (n := q) (fun _ => _) (backM q tr number tn lm mz) (fun i c => KBw.bInts c.1 = rowsAt number ks (q - i)) (b, tb) ?_ R2 ?_ ?_ F16 N16 (fun _ _ => rfl) hj ?_ ?_
      · rfl
      · exact small_one (by omega) (by omega) (by omega) (by omega)
      · exact rangeSize_nat _ _
      · intro i ti c h tk own hi hoff hj F17 N17
        obtain ⟨b, tb⟩ := c
        unfold backM at F17
        dsimp only at hj F17 N17
        obtain ⟨row, hrow⟩ : ∃ row, rowsAt number ks (q - (i + 1)) = row := ⟨_, rfl⟩
        have hrt : rowsAt number ks (q - i) = turnRow number row := by rw [← hrow, show q - i = (q - (i + 1)) + 1 by omega]; rfl
        have hrl : (turnRow number row).length = 20 := by rw [← hrt, rowsAt_length, hkl]
        have hrg : ∀ k ∈ turnRow number row, 0 < k ∧ k < 128 := fun k hk => hkg k (rowsAt_mem _ k (hrt ▸ hk))
        have hrg' : KBa.In row := fun k hk => by
          have := hkg k (rowsAt_mem _ k (hrow ▸ hk))
          exact ⟨by omega, by omega⟩
        rw [hrt] at hj
        clear F16 N16
        try k_fold
        w_strict k_steps
        refine Stop.out ?_
        refine Tell.use (back_tell hj (fun k hk => (hrg k hk).1) (by omega)) K0 F17 KX N17 T rfl (by decide) (by decide) ?_
        rintro r nx h2 tk2 ⟨t2, hr, rfl⟩ F18 N18
        rw [row_back] at hr
        subst hr
        clear F17 N17
        try k_fold
        w_strict k_steps
        refine Stop.out ?_
        rename Fr _ _ _ _ => F19
        rename News _ _ _ _ => N19
        refine stt_end (byteArr row, t2) F19 N19 (fun z hz => ?_) ((KBa.ints_make hrg').trans hrow.symm) rfl (fun p hp => List.mem_append_left _ hp) (fun p hp => List.mem_append_right _ hp)
        unfold backM
        by_cases n1 : z = Str.ofString "octets"
        · subst n1; rfl
        simp only [if_neg n1, if_neg hz]
      · intro c u h tk hj F17 N17
        obtain ⟨b, tb⟩ := c
        unfold backM at F17
        dsimp only at hj F17 N17
        rw [Nat.sub_self] at hj
        replace hj : KBw.bInts b = ks := hj
        replace F17 : Fr s₁.heap s₁.heap.objs.size h _ := F17
        replace N17 : News s₁.heap s₁.heap.objs.size h _ := N17
        clear F16 N16
        (try k_unfold)
        dsimp only
        refine wpN_execs_cons (wpN_Assign_Name (wpN_CallName (f := .ref 21) (P := (Mine.hd.heap_39 w.params).In) (fun _ X' => looks_keep (by rfl) X') ?_))
        try k_fold
        w_strict k_steps
        refine TellN.use (swap_tell (W := 10) (q := 2) hj (by decide) hkl (by omega) (by decide)) K0 F17 KX N17 T rfl (by decide) (by decide) ?_
        rintro r nx h2 tk2 ⟨t2, hr, rfl⟩ F18 N18
        have hsw := swap_two hkin hkl
        obtain ⟨bt, hbt⟩ : ∃ bt, bt = swapOut ks 10 2 := ⟨_, rfl⟩
        rw [← hbt] at hr hsw
        subst hr
        clear hbt F17 N17
        try k_fold
        w_strict k_steps
        refine wpN_execs_cons (wpN_of ?_)
        try k_fold
        w_strict k_steps
        refine Stop.out ?_
        refine eval_blk (by rfl) (by rfl) (by decide) ?_
        try k_fold
        w_strict k_steps
        refine Stop.out ?_
        (try k_unfold)
        rename Fr _ _ _ _ => F19
        rename News _ _ _ _ => N19
        refine two_blk (fun mode => (signs mode).reverse) ?_ List.mem_cons_self (.cons _ _ (.cons _ _ .nil)) ?_ ?_ ?_ ?_ F19 N19 ?_ ?_
        · rfl
        · decide
        · rfl
        · rfl
        · intro _ _; rfl
        · intro pre post k t ys C D oC m₂ h tk own R he hj2 hoC hm hDC oC1 oD1 F20 N20
          clear F19 N19
          unfold B0
          try k_fold
          w_strict k_steps
          refine Stop.out ?_
          have hk : k = m0 ∨ k = m1 := by
            have : k ∈ [m0, m1] := by rw [he]; simp
            simpa using this
          have hkb : 0 ≤ k ∧ k < 65536 := by
            rcases hk with rfl | rfl
            · exact hm0
            · exact hm1
          refine Tell.use (text_tell hkb.1 hkb.2) K0 F20 KX N20 T rfl (by decide) (by decide) ?_
          rintro r nx h2 tk2 ⟨t2, rfl, rfl⟩ F21 N21
          clear F20 N20
          have hpl : pre.length ≤ 2 := by
            have := congrArg List.length he
            simp at this; omega
          have htl := textTo_length k 9
          try k_fold
          w_strict k_steps
          refine Stop.out ?_
          refine list_text (by rfl) (by omega) F21 N21 ?_
          intro lt vt ct h3 tk3 hst lt1 F22 N22
          have hvt : vt.length = 10 := by rw [hst.length, List.length_map]; exact htl
          clear F21 N21
          try k_fold
          w_strict k_steps
          refine Stop.out ?_
          refine kba_turn (value' := PySem.Expr.Name (PySem.Str.ofString "_") ⟨0, 0, 0, 0⟩) (fun _ => rfl) ?_
          refine' krv_lit (its := vt.toArray) (zs := vt.reverse) F22 N22 ⟨_, (N22 _ List.mem_cons_self).1, rfl, _, rfl⟩ (IsPart.int _ _) rfl (fun D6 h6 F6 N6 l6 => ?_) ?sA ?tA ?zA
          case sA => with_unfolding_all rfl
          case tA => exact fun _ => rfl
          rotate_left
          · rw [List.size_toArray, hvt, sizeLine_eq]; omega
          dsimp only
          clear F22 N22
          have hrv := strs_rev hst
          rw [← List.map_reverse] at hrv
          have hys : ys.length = 10 * pre.length := by rw [hj2.length, flat_rev_len]
          have hDC6 : D6 ≠ C := Nat.ne_of_gt (l6 _ (List.mem_cons_of_mem _ List.mem_cons_self))
          have hDD6 : D6 ≠ D := Nat.ne_of_gt (l6 _ (List.mem_cons_of_mem _ (List.mem_cons_of_mem _ List.mem_cons_self)))
          replace N6 := news_third N6
          try k_fold
          w_strict k_steps
          refine Stop.out ?_
          (try k_unfold)
          refine strs_clause (ys₀ := ys) (cs := (textTo k 9).cps.toList.reverse) ?_ List.mem_cons_self hrv ?_ ?_ ?_ hDC (off_cons oC1 hDC6) (off_cons oD1 hDD6) F6 N6 hoC hj2 ?_ ?_
          · rfl
          · show ys.length + (textTo k 9).cps.toList.reverse.length ≤ 1000
            have h10 : (textTo k 9).cps.toList.length = 10 := htl
            rw [List.length_reverse, hys, h10]
            omega
          · rfl
          · rfl
          · intro n t3 ys3 oC3 m3 h3 tk3 own3 Q' E' hoC3 hm3 F11 N11 hq
            clear F6 N6
            try k_fold
            w_strict k_steps
            exact hq _ _
          · intro ys4 oC4 m4 h4 tk4 hI4 hoC4 F4 N4
            refine ⟨h4, tk4, oC4, m4, ys4, rfl, F4, hoC4, news_drop3 N4, ?_⟩
            rw [List.flatMap_append]
            simpa [signs, codesOf] using hI4
        · intro D C ys oC m' h tk hI hoC hDC oC1 ltD F20 N20
          refine blk_out F20 N20 hoC hDC oC1 fun h' F21 N21 => ?_
          clear F19 N19 F20 N20
          obtain ⟨ks2, hks2⟩ : ∃ ks2, List.flatMap (fun mode => (signs mode).reverse) [m0, m1] = ks2 := ⟨_, rfl⟩
          have hkin2 : KBa.In ks2 := fun k hk => by
            rw [← hks2] at hk
            exact signs_rev_in hm0 hm1 k hk
          have hkl2 : ks2.length = 20 := by rw [← hks2, flat_rev_len]; rfl
          have hbt : bt = byteArr ks2 := byteArr_bInts (hsw.trans (Eq.trans (by rw [← hks, ← hks2]; exact turned_same m0 m1) (KBa.ints_make hkin2).symm))
          clear hsw
          subst hbt
          rw [hks2] at hI
          have hyl := hI.length
          try k_fold
          w_strict k_steps
          refine wpN_execs_cons (wpN_of ?_)
          try k_fold
          w_strict k_steps
          rw [beq_self_eq_true]
          refine GoodW.toG ?_
          wrow_close
end
end Mine
end PartLaw1

theorem PySem.Challenge.cw_pg0082_01_holds : PySem.Challenge.rw_pg0082_01.Holds := by
  exact Mine.law_walk
