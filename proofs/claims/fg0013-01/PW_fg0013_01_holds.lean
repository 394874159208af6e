import PyProof.Rows.All
import Wide.All
import OpenK.AllK
import Wide.FinOn
import Lean
import PySem.Challenge.RW_fg0013_01
set_option Elab.async false
set_option rowWalk.seconds 0
section
open PySem PySem.W PyProof.Rows
open PySem.Sem (wp)
namespace Mine
/-! contexts in which no frame holds a bytearray's memory -/
def heldIds : List String := Builtin.Bytes.decodersThatHold ++ ["bytearray.__contains__", "bytearray.__mod__", "bytearray.__rmod__", "_struct.pack_into.held", "bytearray.find.held"]
def okCode : Code → Bool
  | .builtin id _ => !heldIds.contains id
  | _ => true
structure Clean (Γ : Ctx) : Prop where
  here : okCode Γ.code = true
  below : ∀ x ∈ Γ.below, okCode x.1 = true
def wpC {α : Type} (M : Model) (A : Around) (t : Sem α) (Q : α → Shared → Prop) (E : Value → Shared → Prop) (s : Shared) : Prop :=
  ∀ Γ p, Γ.In A → Clean Γ → wp M Γ t (fun a _ s' => Q a s') (fun e _ s' => E e s') p s
def codeC (M : Model) (A : Around) (c : Code) (R : Result → Shared → Prop) (s : Shared) : Prop :=
  ∀ Γ p, Γ.code = c → Γ.Below A → (∀ x ∈ Γ.below, okCode x.1 = true) → wpCode M Γ R p s
section
variable {α β : Type} {M : Model} {A : Around} {E : Value → Shared → Prop} {s : Shared}
theorem wpC_any {t : Sem α} {Q : α → Shared → Prop} (h : wpAny M A t Q E s) : wpC M A t Q E s := fun Γ p hΓ _ => h Γ p hΓ
theorem wpC_pure {a : α} {Q : α → Shared → Prop} (h : Q a s) : wpC M A (pure a) Q E s := fun _ _ _ _ => h
theorem wpC_mono {t : Sem α} {Q Q' : α → Shared → Prop} {E' : Value → Shared → Prop} (h : wpC M A t Q E s) (hQ : ∀ a s, Q a s → Q' a s) (hE : ∀ e s, E e s → E' e s) : wpC M A t Q' E' s :=
  fun Γ p hΓ hc => Sem.wp_mono M Γ t (fun a _ s => hQ a s) (fun e _ s => hE e s) p s (h Γ p hΓ hc)
theorem wpC_bind {m : Sem α} {f : α → Sem β} {Q : β → Shared → Prop} (h : wpC M A m (fun a s' => wpC M A (f a) Q E s') E s) : wpC M A (m >>= f) Q E s := fun Γ p hΓ hc => by
  rw [Sem.wp_bind']
  exact Sem.wp_mono M Γ m (fun a p' s' h' => h' Γ p' hΓ hc) (fun _ _ _ h' => h') p s (h Γ p hΓ hc)
theorem wpC_bindA {m : Sem α} {f : α → Sem β} {Q : β → Shared → Prop} (h : wpAny M A m (fun a s' => wpC M A (f a) Q E s') E s) : wpC M A (m >>= f) Q E s := wpC_bind (wpC_any h)
theorem wpC_tryCatch {m : Sem α} {k : Value → Sem α} {Q : α → Shared → Prop} (h : wpC M A m Q (fun e s' => wpC M A (k e) Q E s') s) : wpC M A (tryCatch m k) Q E s := fun Γ p hΓ hc => by
  rw [Sem.wp_tryCatch']
  exact Sem.wp_mono M Γ m (fun _ _ _ h' => h') (fun e p' s' h' => h' Γ p' hΓ hc) p s (h Γ p hΓ hc)
theorem wpC_onRaise {m : Sem α} {k : Value → Sem Unit} {Q : α → Shared → Prop} (h : wpC M A m Q (fun e s' => wpC M A (k e) (fun _ s'' => E e s'') E s') s) : wpC M A (m.onRaise k) Q E s := fun Γ p hΓ hc => by
  rw [Sem.wp_onRaise]
  exact Sem.wp_mono M Γ m (fun _ _ _ h' => h') (fun e p' s' h' => h' Γ p' hΓ hc) p s (h Γ p hΓ hc)
theorem wpC_attempt {m : Sem α} {Q : Except Value α → Shared → Prop} (h : wpC M A m (fun a => Q (.ok a)) (fun e => Q (.error e)) s) : wpC M A m.attempt Q E s :=
  fun Γ p hΓ hc => by rw [Sem.wp_attempt]; exact h Γ p hΓ hc
theorem wpC_holding {vs : List Value} {m : Sem α} {Q : α → Shared → Prop} (h : wpC M A m Q E s) : wpC M A (holding vs m) Q E s := fun Γ p hΓ hc => by rw [Sem.wp_holding]; exact h Γ p hΓ hc
theorem wpC_keep {vs : List Value} {m : Sem α} {Q : α → Shared → Prop} (h : wpC M A m Q E s) : wpC M A (m.keep vs) Q E s := fun Γ p hΓ hc => by rw [Sem.wp_keep]; exact h Γ p hΓ hc
theorem enter_clean {Γ : Ctx} (h : Clean Γ) (c : Code) (hd : Option Value) (p : Pos) : ∀ x ∈ (Γ.enter c hd p).below, okCode x.1 = true := by
  intro x hx
  rcases List.mem_cons.mp hx with rfl | hx
  · exact h.here
  · exact h.below x hx
theorem wpC_run {c : Code} {h : Option Value} {Q : Flow → Shared → Prop} (hc : codeC M (A.mark h) c (fun r s' => match r with | .ok f => Q f s' | .error e => E e s') s) (hnb : h ≠ some byPass := by intro x; cases x) : wpC M A (run c h) Q E s :=
  fun Γ p hΓ hcl => by rw [Sem.wp_run]; exact hc _ p rfl (hΓ.enter c h p hnb) (enter_clean hcl c h p)
theorem wpC_runValue {c : Code} {Q : Value → Shared → Prop} (hc : codeC M A c (fun r s' => match r with | .ok (.ret v) => Q v s' | .ok _ => False | .error e => E e s') s) : wpC M A (runValue c) Q E s :=
  fun Γ p hΓ hcl => by rw [Sem.wp_runValue]; exact hc _ p rfl (hΓ.enter c none p (by intro x; cases x)) (enter_clean hcl c none p)
theorem wpC_call {f : Value} {pos : List Value} {kw : List (Str × Value)} {Q : Value → Shared → Prop} (hc : codeC M A (.call f ⟨pos, kw⟩) (fun r s' => match r with | .ok (.ret v) => Q v s' | .ok _ => False | .error e => E e s') s) : wpC M A (call f pos kw) Q E s := wpC_runValue hc
theorem codeC_mono {c : Code} {R R' : Result → Shared → Prop} (h : codeC M A c R s) (hR : ∀ r s', R r s' → R' r s') : codeC M A c R' s := fun Γ p hc hΓ hb => wpCode_mono hR (h Γ p hc hΓ hb)
theorem codeC_tree {c : Code} {R : Result → Shared → Prop} (hok : okCode c = true)
    (h : wpC M (A.under c) (M.den c) (fun fin s' => match fin with | .done f => R (.ok f) s' | .again c' => c'.quiet = true ∧ codeC M A c' R s') (fun e s' => R (.error e) s') s) : codeC M A c R s := fun Γ p hc hΓ hb => by
  rw [wpCode_iff_wp, hc]
  refine Sem.wp_mono M Γ _ (fun fin p' s' h' => ?_) (fun _ _ _ h' => h') p s (h Γ p (hc ▸ hΓ.in) ⟨hc ▸ hok, hb⟩)
  cases fin with
  | done f => exact h'
  | again c' => exact ⟨h'.1, h'.2 (Γ.goto c') p' rfl (hΓ.goto c') hb⟩
theorem codeC_treeA {c : Code} {R : Result → Shared → Prop} (hok : okCode c = true)
    (h : wpAny M (A.under c) (M.den c) (fun fin s' => match fin with | .done f => R (.ok f) s' | .again c' => c'.quiet = true ∧ codeC M A c' R s') (fun e s' => R (.error e) s') s) : codeC M A c R s := codeC_tree hok (wpC_any h)
theorem heldIds_nope {id : String} (h : okCode (.builtin id a) = true) {n : String} (hn : n ∈ heldIds) : id ≠ n := by
  rintro rfl
  simp only [okCode, Bool.not_eq_true', List.contains_eq_mem, decide_eq_false_iff_not] at h
  exact h hn
theorem of_false {Q : Bool → Shared → Prop} {b : Bool} (hb : b = false) (h : Q false s) : Q b s := hb ▸ h
theorem exported_C {self : Value} {Q : Bool → Shared → Prop} (h : Q false s) : wpC M A (Builtin.Bytes.exported self) Q E s := fun Γ p _ hc => by
  unfold Builtin.Bytes.exported
  rw [Sem.wp_bind']
  have hall : ∀ x ∈ (Γ.code, p) :: Γ.below, okCode x.1 = true := fun x hx => by
    rcases List.mem_cons.mp hx with rfl | hx
    · exact hc.here
    · exact hc.below x hx
  refine of_false (Q := Q) (List.any_eq_false.mpr fun x hx => ?_) h
  have hk := hall x hx
  obtain ⟨c, q⟩ := x
  split <;> (first | exact Bool.false_ne_true | (rename_i e; cases e))
  all_goals first
    | exact absurd rfl (heldIds_nope hk (by decide +kernel))
    | exact fun z => absurd rfl (heldIds_nope hk (List.mem_append_left _ (by simpa using (Bool.and_eq_true_iff.mp z).2)))
end
end Mine
end
section
open PySem PySem.W PyProof.Rows
namespace Mine
theorem caller_clean : Clean (⟨.builtin "claim.caller" {}, none, none, [], none⟩ : Ctx) := ⟨by decide +kernel, fun _ h => nomatch h⟩

theorem ends_C {prog : Program} {w : World} {t : Sem Fin} {s : Shared} {R : Result → Shared → Prop} (hz : s.asleep)
    (h : wpC (model prog w) callerA t (fun fin s' => ∃ f, fin = .done f ∧ R (.ok f) s' ∧ AllBare s'.gens) (fun e s' => R (.error e) s' ∧ AllBare s'.gens) s) :
    ∃ n r s' s'', runN (denote table) prog w n s ⟨t, .builtin "claim.caller" {}, default, []⟩ = .halted (outcomeOf r) s' ∧
      schedN (denote table) prog w n (.single s ⟨t, .builtin "claim.caller" {}, default, []⟩) = .halted (outcomeOf r) s' ∧ s'.forget = s''.forget ∧ R r s'' := by
  have hw := Sem.wp_mono (post' := Sem.finPost (model prog w) (⟨.builtin "claim.caller" {}, none, none, [], none⟩ : Ctx) fun r s' => R r s' ∧ leftWithCleanup s'.gens = false)
    (exc' := fun e _ s' => R (.error e) s' ∧ leftWithCleanup s'.gens = false) (model prog w) _ t (fun fin p' s' h' => by
      obtain ⟨f, rfl, hf, hb⟩ := h'
      exact ⟨hf, leftWithCleanup_false_of_bare hb⟩) (fun e _ s' h' => ⟨h'.1, leftWithCleanup_false_of_bare h'.2⟩) default s (h _ default caller_in caller_clean)
  obtain ⟨n, r, s₁, s₂, hs, hn, hfo, hR⟩ := wp_halts_full (M := model prog w) (R := R) hz hw
  exact ⟨n, r, s₂, s₁, hn, hs, hfo, hR⟩

theorem callFrom_C {c : ClaimW} {tree : List Value → Sem Fin} {w : World} {s : Shared} {free : Addr → Prop} {gens : Prop} {kept : Heap → Prop} (hz : s.asleep) (hgens : s.gens = #[])
    (spec : ∀ args, c.pre args = true → WData.layableAll args = true → ∀ ord : List DictEntry → List DictEntry, (∀ l, (ord l).Perm l) →
      ∃ vs s₁, layAllW c.records (classAt s.heap) w.params ord args s = some (vs, s₁) ∧
        wpC (model c.prog w) callerA (tree vs) (fun fin s' => ∃ f, fin = .done f ∧ (c.Ends s args vs s₁ (.ok f) s' ∧ s'.os = s.os ∧ kept s'.heap) ∧ AllBare s'.gens)
          (fun e s' => (c.Ends s args vs s₁ (.error e) s' ∧ s'.os = s.os ∧ kept s'.heap) ∧ AllBare s'.gens) s₁) :
    c.CallFrom (fun vs => ⟨tree vs, .builtin "claim.caller" {}, default, []⟩) w free gens kept s := by
  intro args hpre hlay ord hord
  obtain ⟨vs, s₁, hl, hcode⟩ := spec args hpre hlay ord hord
  have hal := layAllW_rest _ _ _ hl
  obtain ⟨k, r, s', s'', hrun, hsched, hfo, hcase, hos, hkp⟩ := ends_C (R := fun r s' => c.Ends s args vs s₁ r s' ∧ s'.os = s.os ∧ kept s'.heap) (Shared.asleep_of_life hal.2.2.2 hz) hcode
  obtain ⟨eh, _, _, eo, _⟩ := Shared.forget_eq hfo
  have hcase := hcase.congr eh
  have hkp : kept s'.heap := by rw [eh]; exact hkp
  rw [← eo] at hos
  have hlife : s'.heap.life = s.heap.life := (runN_life _ _ _ hrun).trans hal.2.2.2
  refine ⟨vs, s₁, hl, k, _, s', hsched, ?_, (fun _ i x hx => by rw [hgens] at hx; simp at hx), hkp, by rw [hlife], Shared.rest_eq hos⟩
  rcases hcase with ⟨v, rfl, d1, d2, d3, d4, d5⟩ | ⟨e, ob, cls, rfl, d1, d2, d3, d4, d5⟩
  · exact .inl ⟨v, rfl, d1, d2, d3, fun b o y _ => d4 b o y, d5⟩
  · exact .inr ⟨e, ob, cls, rfl, d1, d2, d3, d4, fun b o y _ => d5 b o y⟩

/-- what the walk owes: as WalkO, in clean contexts alone -/
abbrev WalkC (q : Program) (loose : List Str) (XP : (Str → Option Value) → Heap → Prop) (YP : World → Heap → Prop) (r : RowW) (d : DefRec) (kwd : List (Str × Expr)) : Prop :=
  ∀ (w : World) (s₀ s₁ : Shared) (mg mb : Str → Option Value), Ground q loose r.records XP w s₀ mg mb s₁.heap → YP w s₁.heap → ∀ (a : Addr) (o : Obj) (pm cd doc dV kV : Value), s₁.heap.get? a = some o →
    o.data = .func { Calls.docDef d.name d.params d.body d.scope pm cd doc with defaults := dV, kwdefaults := kV } → s₁.heap.CodeRec cd d.name → Dflts mg s₁.heap d.params kwd dV kV → mg d.name = some (.ref a) → s₁.gens = #[] →
    ∀ (args : List WData) (vals : List Value) (as : List Addr), r.claim.pre args = true → WData.layableAll args = true → ReadsAllW r.records (classAt s₀.heap) s₁.heap vals args as → WellAll w.params s₁.heap vals args → (∀ a ∈ as, (a == sysModules) = false) →
      wpC (model r.prog w) callerA (PySem.call (.ref a) vals) (fun v s' => GoodWG r.claim (classAt s₀.heap) (ExcName.means s₀.heap) args s₁ (.ok (.ret v)) s')
        (fun e s' => GoodWG r.claim (classAt s₀.heap) (ExcName.means s₀.heap) args s₁ (.error e) s') s₁

theorem holdsOpen {r : OpenRow} {q : Program} {loose : List Str} {Xt : Shared → Bool} {XP : (Str → Option Value) → Heap → Prop} {α : Type} {Yf : Shared → α} {Ya : World → α} {YP : World → Heap → Prop} {d : DefRec} {kwd : List (Str × Expr)} {N : Nat}
    (left : LeftO r.prog q loose Xt Yf Ya N) (hY : ∀ w s, Yf s = Ya w → YP w s.heap) (hYk : ∀ w h h', YP w h → (∀ b o, h.get? b = some o → h'.get? b = some o) → YP w h')
    (hX : ∀ s, Xt s = true → XP (s.heap.nsMap mainGlobals) s.heap) (hXk : ∀ mg h h', XP mg h → (∀ b o, h.get? b = some o → h'.get? b = some o) → XP mg h')
    (hdef : defOf q r.name = some (d, kwd)) (hp : r.prog.theDef r.name = some (d.params, d.body, d.scope)) (hk : kwWritten? d.params.kwonlyargs d.params.kw_defaults = some kwd) (hRf : ∀ s, Xt s = true → RecFacts r.records s.heap) (hwr : (!r.writes || r.records.isEmpty) = true)
    (k1 : r.wellSaid = true) (ok : (chainsOk q && opensWell r.prog && (frees r.toRowW && r.within.isEmpty)) = true) (hb : r.prog.bare) (hw : r.toRowW.promised)
    (call : WalkC q loose XP YP r.toRowW d kwd) : r.Holds := by
  obtain ⟨ok, k5⟩ := Bool.and_eq_true_iff.mp ok
  obtain ⟨hch, o1⟩ := Bool.and_eq_true_iff.mp ok
  obtain ⟨k5, k6⟩ := Bool.and_eq_true_iff.mp k5
  obtain ⟨hsame, hu, ha, hap, hm⟩ := frees_parts k5
  have hi := ident_freeW hu ha hap
  have hwi : r.toRowW.claim.within = [] := List.isEmpty_iff.mp k6
  refine ⟨k1, hw, ⟨hb, o1, by show r.makers.map _ = []; rw [hm]; rfl⟩, hw.witness, fun w => ⟨(left.behind hX hch w).1, fun s' hs' => ?_⟩⟩
  obtain ⟨s₀, hf, hg0, s, hT, hz, hgens, hg, G00, y⟩ := (left.behind (XP := fun mg h => XP mg h ∧ RecFacts r.records h) (fun s hs => ⟨hX s hs, hRf s hs⟩) hch w).2 s' hs'
  have G0 : Ground q loose [] XP w s (s.heap.nsMap mainGlobals) (s.heap.nsMap builtinsNs) s.heap := ⟨G00.T, G00.B, G00.D, G00.TE, G00.TD, G00.W, G00.X.1, G00.cls, G00.has, G00.apart, G00.once, G00.K⟩
  have RF := G00.X.2
  have hgens : s.gens = #[] := Array.eq_empty_of_size_eq_zero (beq_iff_eq.mp hgens)
  have G : Ground q loose r.records XP w s _ _ s.heap := RF.ground G0
  refine ⟨s₀, hf, hg0, s, hT, (fun n hn => ?_), RF.1, RF.2.1, callFrom_C (c := r.toRowW.claim) hz hgens fun args hpre hlay ord hord => ?_⟩
  · obtain rfl : n = r.name := by split at hn <;> simp_all
    exact pinned_of_view hg G0 hdef hp hk
  · obtain ⟨⟨vs, s₁⟩, hl⟩ := Option.isSome_iff_exists.mp (layAllW_isSome (P := w.params) (ord := ord) G.has args r.args s (pre_splitW hpre).1)
    have keeps := layAllW_keeps _ _ _ hl
    have hal := layAllW_rest _ _ _ hl
    obtain ⟨as, hrd, hin, hold⟩ := reads_layAllW hord _ _ _ hl hlay s₁.heap (fun _ _ e => e)
    have L : Laid r.records w s s₁ args vs as := ⟨⟨ord, hord, hl⟩, hrd, hin, hold, keeps, hal.1.trans hgens, hal.2.2.1⟩
    have G₁ := G.keeps hXk keeps
    obtain ⟨a, o, pm, cd, doc, dV, kV, h1, h2, h3, h4, h5⟩ := G₁.fn hdef
    have h := call w s s₁ _ _ G₁ (hYk _ _ _ (hY w s y) keeps) a o pm cd doc dV kV h2 h3 h4 h5 (defOf_name hdef ▸ h1) L.gens args vs as hpre hlay L.reads L.well (L.low G.low)
    refine ⟨vs, s₁, hl, wpC_bindA (wpAny_nsGet G₁.T.g ?_)⟩
    rw [h1]
    refine wpC_bind (wpC_mono h (fun v s' g => wpC_pure ⟨_, rfl, ?_⟩) fun e s' g => ?_)
    · have z := g.laid (c := r.toRowW.claim) hsame hwi hi L
      exact ⟨⟨z.1, z.2.1, fun q => ⟨namesKept_of hT hg r.keeps keeps g.2.1.old, noTable hwr q⟩⟩, z.2.2⟩
    · have z := g.laid (c := r.toRowW.claim) hsame hwi hi L
      exact ⟨⟨z.1, z.2.1, fun q => ⟨namesKept_of hT hg r.keeps keeps g.2.1.old, noTable hwr q⟩⟩, z.2.2⟩
end Mine
/- the head's line names the rule by its last parts: within «namespace Mine» this one is taken -/
namespace Mine.PySem.W
def holds_open := @Mine.holdsOpen
end Mine.PySem.W
end
section
open PySem PySem.W PyProof.Rows
open PySem.Sem (wp)
namespace Mine
abbrev nE : Value → Shared → Prop := fun _ _ => False
section
variable {M : Model} {A : Around} {s : Shared} {env : Env}

theorem execsC_nil {Q : Flow → Shared → Prop} (h : Q .next s) : wpC M A (execs [] env) Q nE s := wpC_pure h
theorem execsC_cons {st : Stmt} {rest : List Stmt} {Q : Flow → Shared → Prop}
    (h : wpC M A (exec st env) (fun f s' => match f with | .next => wpC M A (execs rest env) Q nE s' | f => Q f s') nE s) : wpC M A (execs (st :: rest) env) Q nE s := by
  rw [execs_cons]
  refine wpC_bind (wpC_mono h (fun f s' h' => ?_) fun _ _ x => x)
  cases f <;> first | exact h' | exact wpC_pure h'
/-- a statement that calls nothing of ours: by the library's lines -/
theorem execsC_any {st : Stmt} {rest : List Stmt} {Q : Flow → Shared → Prop}
    (h : wpAny M A (exec st env) (fun f s' => match f with | .next => wpC M A (execs rest env) Q nE s' | f => Q f s') nE s) : wpC M A (execs (st :: rest) env) Q nE s := execsC_cons (wpC_any h)

theorem wpC_If {test : Expr} {body orelse : List Stmt} {pos : Pos} {Q : Flow → Shared → Prop}
    (h : wpAny M A (isTrue test env (eval test env)) (fun b s₂ => if b then wpC M A (execs body env) Q nE s₂ else wpC M A (execs orelse env) Q nE s₂) nE s) : wpC M A (exec (.If test body orelse pos) env) Q nE s := by
  rw [exec_If]
  refine wpC_bindA (wpAny_standAt (wpC_bindA (wpAny_mono h (fun b s' h' => ?_) fun _ _ x => x)))
  cases b <;> exact h'
theorem wpC_IfC {test : Expr} {body orelse : List Stmt} {pos : Pos} {Q : Flow → Shared → Prop}
    (h : wpC M A (isTrue test env (eval test env)) (fun b s₂ => if b then wpC M A (execs body env) Q nE s₂ else wpC M A (execs orelse env) Q nE s₂) nE s) : wpC M A (exec (.If test body orelse pos) env) Q nE s := by
  rw [exec_If]
  refine wpC_bindA (wpAny_standAt (wpC_bind (wpC_mono h (fun b s' h' => ?_) fun _ _ x => x)))
  cases b <;> exact h'
theorem wpC_Return {e : Expr} {pos : Pos} {Q : Flow → Shared → Prop} (h : wpC M A (eval e env) (fun v => Q (.ret v)) nE s) : wpC M A (exec (.Return (some e) pos) env) Q nE s := by
  rw [exec_Return_some]
  exact wpC_bindA (wpAny_standAt (wpC_bind (wpC_mono h (fun v s' q => wpC_pure q) fun _ _ x => x)))
theorem wpC_Expr {e : Expr} {pos : Pos} {Q : Flow → Shared → Prop} (h : wpC M A (eval e env) (fun v s' => match v with | .ref _ => False | _ => Q .next s') nE s)
    (hi : interactive env = false := by rfl) (hs : swapsWith e none pos.line env = pure false := by rfl) : wpC M A (exec (.Expr e pos) env) Q nE s := by
  rw [exec_Expr env e pos hi hs]
  refine wpC_bindA (wpAny_standAt (wpC_bind (wpC_mono h (fun v s' h' => ?_) fun _ _ x => x)))
  have hv : ∀ a, v ≠ .ref a := fun a hva => by subst hva; exact h'
  rw [dropValue_plain hv]
  refine wpC_pure ?_
  cases v <;> first | exact h' | exact (hv _ rfl).elim
theorem wpC_AssignName {x : Str} {pos' pos : Pos} {value : Expr} {Q : Flow → Shared → Prop}
    (h : wpC M A (eval value env) (fun v s₁ => wpAny M A (storeName env x v) (fun _ s' => Q .next s') nE s₁) nE s)
    (hs : swapsWith value (some (.Name x pos')) pos.line env = pure false := by rfl) : wpC M A (exec (.Assign [.Name x pos'] value pos) env) Q nE s := by
  rw [exec_Assign_Name env x pos' value pos hs]
  refine wpC_bindA (wpAny_standAt (wpC_bind (wpC_mono h (fun v s' h' => ?_) fun _ _ x => x)))
  exact wpC_bindA (wpAny_standAt (wpC_bindA (wpAny_bindName (wpAny_mono h' (fun _ _ q => wpC_pure q) fun _ _ x => x))))
theorem wpC_AssignAttr {o value : Expr} {attr : Str} {pos' pos : Pos} {Q : Flow → Shared → Prop}
    (h : wpC M A (eval value env) (fun v s₁ => wpAny M A (eval o env) (fun ov s₂ => wpAny M A (setAttr ov attr v) (fun _ s' => Q .next s') nE s₂) nE s₁) nE s)
    (hs : swapsWith value (some (.Attribute o attr pos')) pos.line env = pure false := by rfl) : wpC M A (exec (.Assign [.Attribute o attr pos'] value pos) env) Q nE s := by
  rw [plainObj_exec_Assign_Attribute o attr pos' value pos hs]
  refine wpC_bindA (wpAny_standAt (wpC_bind (wpC_mono h (fun v s' h' => ?_) fun _ _ x => x)))
  refine wpC_any ?_
  intro Γ p hΓ
  simp only [assign_Attribute, Sem.wp_bind', Sem.wp_holding, Sem.wp_cmd_standAt, Sem.wp_release, Sem.wp_pure']
  exact Sem.wp_mono M Γ _ (fun ov _ s₂ h₂ => h₂ Γ _ hΓ) (fun _ _ _ h' => h') _ _ (h' Γ p hΓ)
theorem mark_none {A : Around} : A.mark none = A := rfl
theorem wpC_runOwn {c : Code} {Q : Flow → Shared → Prop} (h : codeC M A c (fun r s' => match r with | .ok f => Q f s' | .error _ => False) s) : wpC M A (runOwn c env) Q nE s := by
  unfold runOwn
  refine wpC_onRaise (wpC_run (codeC_mono h fun r s' q => ?_))
  cases r with
  | ok f => exact q
  | error e => exact q.elim
theorem wpC_While {test : Expr} {body orelse : List Stmt} {pos : Pos} {Q : Flow → Shared → Prop}
    (h : codeC M A (.whileLoop test body orelse env) (fun r s' => match r with | .ok f => Q f s' | .error _ => False) s) : wpC M A (exec (.While test body orelse pos) env) Q nE s := by
  rw [exec_While]; exact wpC_bindA (wpAny_standAt (wpC_runOwn h))
theorem wpC_For {target iter : Expr} {body orelse : List Stmt} {pos : Pos} {Q : Flow → Shared → Prop}
    (h : wpAny M A (eval iter env) (fun x s₁ => wpAny M A (pyIter x) (fun it s₂ => codeC M A (.forLoop target it body orelse env) (fun r s' => match r with | .ok f => Q f s' | .error _ => False) s₂) nE s₁) nE s)
    (hs : ∀ x, foldedSetIterable iter env x = pure x := by intro _; rfl) : wpC M A (exec (.For target iter body orelse pos) env) Q nE s := by
  show wpC M A (do
    standAt pos
    let x ← foldedSetIterable iter env (← eval iter env)
    standAt iter.pos
    runOwn (.forLoop target (← holding [x] (pyIter x)) body orelse env) env) Q nE s
  refine wpC_bindA (wpAny_standAt (wpC_bindA (wpAny_mono h (fun x s₁ h₁ => ?_) fun _ _ x => x)))
  rw [hs]
  exact wpC_bindA (wpAny_pure (wpC_bindA (wpAny_standAt (wpC_bindA (wpAny_holding (wpAny_mono h₁ (fun it s₂ h₂ => wpC_runOwn h₂) fun _ _ x => x))))))
theorem wpC_Try {body : List Stmt} {handlers : List ExceptHandler} {pos : Pos} {Q : Flow → Shared → Prop} (h : wpC M A (execs body env) Q nE s) : wpC M A (exec (.Try body handlers [] [] pos) env) Q nE s := by
  show wpC M A (do standAt pos; tryStmt false (execs body env) handlers (execs [] env) [] env) Q nE s
  refine wpC_bindA (wpAny_standAt ?_)
  unfold tryStmt
  refine wpC_bind (wpC_attempt (wpC_mono h (fun f s' q => ?_) fun _ _ x => x.elim))
  cases f <;> exact wpC_pure q

theorem wpC_operate {vs : List Value} {m : Sem Value} {Q : Value → Shared → Prop} (h : wpC M A m Q nE s) : wpC M A (operate vs m) Q nE s := fun Γ p hΓ hc => by
  rw [Sem.wp_operate]; exact h Γ p hΓ hc
theorem callWithC {pos : Pos} {f : Value} {first : List Value} {Q : Value → Shared → Prop} {P : Heap → Prop} {args : List (Bool × Sem Value)} {keywords : List (Option Str × Sem Value)} (hplain : (args.any (·.1) || keywords.any (·.1.isNone)) = false)
    (hk : ∀ h, P h → ∃ k, (k = Keeper.frame ∨ k = Keeper.machine ∨ k = Keeper.boundFrame) ∧ Looks M h (keeperOf f) k)
    (h : wpAny M A (evalArgs f true args keywords) (fun a s₁ => P s₁.heap ∧ wpC M A (call f (first ++ a.pos) a.kw) Q nE s₁) nE s) : wpC M A (callWith pos f first args keywords) Q nE s := by
  unfold callWith
  refine wpC_bindA (wpAny_holding (wpAny_mono h (fun a s₁ h₁ => wpC_bindA (wpAny_standAt ?_)) fun _ _ x => x))
  obtain ⟨k, hk', L⟩ := hk _ h₁.1
  simp only [hplain]
  refine wpC_bindA (L.here ?_)
  have tail : ∀ {t : Sem Value}, wpC M A t Q nE s₁ → wpC M A (t >>= fun r => holding [r] point >>= fun _ => pure r) Q nE s₁ :=
    fun ht => wpC_bind (wpC_mono ht (fun r s₂ hr => wpC_bindA (wpAny_holding (wpAny_point (wpC_pure hr)))) fun _ _ x => x)
  have marked (mk : Value) : wpC M A (callMarked mk f (first ++ a.pos) a.kw) Q nE s₁ := by unfold callMarked; exact wpC_keep h₁.2
  rcases hk' with rfl | rfl | rfl <;> dsimp only <;> first | exact tail h₁.2 | (split <;> first | exact tail h₁.2 | exact tail (marked _))
/-- a call with ** of a callee that the machine keeps (a class) -/
theorem callWithC_star {pos : Pos} {f : Value} {first : List Value} {Q : Value → Shared → Prop} {P : Heap → Prop} {args : List (Bool × Sem Value)} {keywords : List (Option Str × Sem Value)} (hstar : (args.any (·.1) || keywords.any (·.1.isNone)) = true)
    (hk : ∀ h, P h → Looks M h (keeperOf f) Keeper.machine)
    (h : wpAny M A (evalArgs f true args keywords) (fun a s₁ => P s₁.heap ∧ wpC M A (call f (first ++ a.pos) a.kw) Q nE s₁) nE s) : wpC M A (callWith pos f first args keywords) Q nE s := by
  unfold callWith
  refine wpC_bindA (wpAny_holding (wpAny_mono h (fun a s₁ h₁ => wpC_bindA (wpAny_standAt ?_)) fun _ _ x => x))
  have L := hk _ h₁.1
  simp only [hstar]
  refine wpC_bindA (L.here ?_)
  dsimp only
  exact wpC_bind (wpC_mono (wpC_operate h₁.2) (fun r s₂ hr => wpC_bindA (wpAny_holding (wpAny_point (wpC_pure hr)))) fun _ _ x => x)

theorem evalC_call {func : Expr} {args : List Expr} {kws : List Keyword} {pos : Pos} {Q : Value → Shared → Prop}
    (h : wpAny M A (eval func env) (fun f s₁ => wpC M A (callWith pos f [] (backTo pos (starEach args env)) (backToKw pos (keywordEach kws env))) Q nE s₁) nE s)
    (he : eval (.Call func args kws pos) env = (do callWith pos (← eval func env) [] (backTo pos (starEach args env)) (backToKw pos (keywordEach kws env))) := by rfl) : wpC M A (eval (.Call func args kws pos) env) Q nE s := by
  rw [he]; exact wpC_bindA h
theorem evalC_method {o : Expr} {name : Str} {apos pos : Pos} {args : List Expr} {kws : List Keyword} {pl : Sem Bool} {Q : Value → Shared → Prop}
    (h : wpC M A (eval o env) (fun ov s₁ => wpAny M A (getMethod ov name pl) (fun fx s₂ => wpC M A (callWith pos fx.1 fx.2 (backTo pos (starEach args env)) (backToKw pos (keywordEach kws env))) Q nE s₂) nE s₁) nE s)
    (he : eval (.Call (.Attribute o name apos) args kws pos) env = (do
      let ov ← eval o env
      standAt apos.atName
      let (f, first) ← holding [ov] (getMethod ov name pl)
      callWith pos f first (backTo pos (starEach args env)) (backToKw pos (keywordEach kws env))) := by rfl) : wpC M A (eval (.Call (.Attribute o name apos) args kws pos) env) Q nE s := by
  rw [he]
  exact wpC_bind (wpC_mono h (fun ov s₁ h₁ => wpC_bindA (wpAny_standAt (wpC_bindA (wpAny_holding (wpAny_mono h₁ (fun fx s₂ h₂ => h₂) fun _ _ x => x))))) fun _ _ x => x)
theorem evalC_compare1 {l r : Expr} {op : CmpOp} {pos : Pos} {Q : Value → Shared → Prop}
    (h : wpC M A (eval l env) (fun a s₁ => wpC M A (eval r env) (fun b s₂ => wpAny M A (compareOp op a b) Q nE s₂) nE s₁) nE s)
    (hm : behindInMarks op r = false := by with_unfolding_all rfl) : wpC M A (eval (.Compare l [op] [r] pos) env) Q nE s := by
  rw [eval_Compare1, markedBehindIn_of_false hm]
  exact wpC_bind (wpC_mono h (fun a s₁ h₁ => wpC_bind (wpC_holding (wpC_mono h₁ (fun b s₂ h₂ => wpC_bindA (wpAny_standAt (wpC_operate (wpC_any h₂)))) fun _ _ x => x))) fun _ _ x => x)
theorem isTrueC_compare1 {l r : Expr} {op : CmpOp} {pos : Pos} {whole : Sem Value} {Q : Bool → Shared → Prop}
    (h : wpC M A (eval l env) (fun a s₁ => wpC M A (eval r env) (fun b s₂ => wpAny M A (compareOp op a b) (fun c s₃ => wpAny M A (truthy c) Q nE s₃) nE s₂) nE s₁) nE s)
    (hm : behindInMarks op r = false := by with_unfolding_all rfl) : wpC M A (isTrue (.Compare l [op] [r] pos) env whole) Q nE s := by
  rw [isTrue_Compare1, markedBehindIn_of_false hm]
  exact wpC_bind (wpC_mono h (fun a s₁ h₁ => wpC_bind (wpC_holding (wpC_mono h₁ (fun b s₂ h₂ => wpC_bindA (wpAny_standAt (wpC_bind (wpC_operate (wpC_any (wpAny_mono h₂ (fun c s₃ h₃ => wpC_any (wpAny_holding h₃)) fun _ _ x => x)))))) fun _ _ x => x))) fun _ _ x => x)
theorem evalC_ifExp {test body orelse : Expr} {pos : Pos} {Q : Value → Shared → Prop}
    (h : wpAny M A (isTrue test env (eval test env)) (fun b s₁ => if b then wpC M A (eval body env) Q nE s₁ else wpC M A (eval orelse env) Q nE s₁) nE s) : wpC M A (eval (.IfExp test body orelse pos) env) Q nE s := by
  show wpC M A (do if ← isTrue test env (eval test env) then eval body env else eval orelse env) Q nE s
  refine wpC_bindA (wpAny_mono h (fun b s' h' => ?_) fun _ _ x => x)
  cases b <;> exact h'
end

section
variable {prog : Program} {w : World} {A : Around} {s : Shared} {env : Env} {R : Result → Shared → Prop}
theorem codeC_while {test : Expr} {body orelse : List Stmt}
    (h : wpAny (model prog w) A (isTrue test env (eval test env)) (fun b s₂ =>
        if b then wpC (model prog w) A (execs body env) (fun f s₃ => match f with
            | .next | .cont => codeC (model prog w) A (.whileLoop test body orelse env) R s₃
            | .brk => R (.ok .next) s₃
            | .ret v => R (.ok (.ret v)) s₃) nE s₂
        else wpC (model prog w) A (execs orelse env) (fun f s₃ => R (.ok f) s₃) nE s₂) nE s) : codeC (model prog w) A (.whileLoop test body orelse env) R s := by
  refine codeC_tree rfl ?_
  show wpC _ A ((whileTurn test body orelse env).onRaise (fun x => do noteFrame x env; theTreesLotGoes x)) _ _ s
  refine wpC_onRaise ?_
  simp only [whileTurn]
  refine wpC_bindA (wpAny_mono h (fun b s₂ h₂ => ?_) fun _ _ x => x.elim)
  cases b with
  | false =>
    simp only [Bool.false_eq_true, if_false] at h₂ ⊢
    exact wpC_bind (wpC_mono h₂ (fun f s₃ h₃ => wpC_pure h₃) fun _ _ x => x.elim)
  | true =>
    simp only [if_true] at h₂ ⊢
    refine wpC_bind (wpC_mono h₂ (fun f s₃ h₃ => ?_) fun _ _ x => x.elim)
    cases f with
    | next => exact wpC_pure ⟨rfl, h₃⟩
    | cont => exact wpC_pure ⟨rfl, h₃⟩
    | brk => exact wpC_pure h₃
    | ret v => exact wpC_pure h₃
theorem codeC_block {stmts : List Stmt} (h : wpC (model prog w) A (execs stmts env) (fun f s' => R (.ok f) s') nE s) : codeC (model prog w) A (.block stmts env) R s := by
  refine codeC_tree rfl ?_
  show wpC _ A ((execs stmts env).onRaise (fun x => do noteFrame x env; theTreesLotGoes x) >>= fun f => pure (Fin.done f)) _ _ s
  exact wpC_bind (wpC_onRaise (wpC_mono h (fun f s' q => wpC_pure q) fun _ _ x => x.elim))
theorem codeC_for {target : Expr} {it : Value} {body : List Stmt}
    (h : wpAny (model prog w) A (pyNext it) (fun o s₁ => match o with
      | none => R (.ok .next) s₁
      | some v => wpAny (model prog w) A (letOwnedTupleGo target it v) (fun _ s₂ => wpAny (model prog w) A (assign target env v) (fun _ s₃ => wpC (model prog w) A (execs body env) (fun f s₄ => match f with
            | .next | .cont => codeC (model prog w) A (.forLoop target it body [] env) R s₄
            | .brk => R (.ok .next) s₄
            | .ret v => R (.ok (.ret v)) s₄) nE s₃) nE s₂) nE s₁) nE s) : codeC (model prog w) A (.forLoop target it body [] env) R s := by
  refine codeC_tree rfl ?_
  show wpC _ A ((forTurn target it body [] env).onRaise (fun x => do noteFrame x env; theTreesLotGoes x)) _ _ s
  refine wpC_onRaise ?_
  simp only [forTurn]
  refine wpC_bindA (wpAny_standAt (wpC_bindA (wpAny_onRaise (wpAny_mono h (fun o s₁ h₁ => ?_) fun _ _ x => x.elim))))
  cases o with
  | none => exact wpC_pure ⟨rfl, codeC_block (execsC_nil h₁)⟩
  | some v =>
    refine wpC_bindA (wpAny_mono h₁ (fun _ s₂ h₂ => wpC_bindA (wpAny_mono h₂ (fun _ s₃ h₃ => wpC_bind (wpC_mono h₃ (fun f s₄ h₄ => ?_) fun _ _ x => x.elim)) fun _ _ x => x.elim)) fun _ _ x => x.elim)
    cases f with
    | next => exact wpC_pure ⟨rfl, h₄⟩
    | cont => exact wpC_pure ⟨rfl, h₄⟩
    | brk => exact wpC_pure h₄
    | ret v => exact wpC_pure h₄
theorem codeC_func {body : List Stmt} (h : wpC (model prog w) (A.deeper env) (execs body env) (fun f s' => R (.ok (.ret (match f with | .ret v => v | _ => .none))) s') nE s) : codeC (model prog w) A (.func body env) R s := by
  refine codeC_tree rfl ?_
  show wpC _ (A.deeper env) (do point; match ← (execs body env).onRaise (leaving env) with | .ret v => ret v | _ => ret .none) _ _ s
  refine wpC_bindA (wpAny_point (wpC_bind (wpC_onRaise (wpC_mono h (fun f s' h' => ?_) fun _ _ x => x.elim))))
  cases f <;> exact wpC_pure h'
theorem codeC_call_function {a : Addr} {args : Args} {o : Obj} {fd : FuncData} {body : List Stmt} (hroom : A.depth < recursionLimit)
    (ho : s.heap.get? a = some o) (hd' : o.data = .func fd) (hco : fd.scope.isCoroutine = false) (hgen : fd.scope.isGenerator = false) (hbody : fd.body = .stmts body) (hcd : s.heap.CodeRec fd.code fd.qualname)
    (h : wpAny (model prog w) A.in1 (bindArgs fd args) (fun binds s₁ =>
      wpAny (model prog w) A.in1 (newFunctionEnv fd.scope fd.globals fd.closure binds (fd.qualname ++ ".<locals>.") (some a) fd.code none fd.builtins)
        (fun env s₂ => s₂.heap.NoLimit ∧ codeC (model prog w) A (.func body env) R s₂) nE s₁) nE s) : codeC (model prog w) A (.call (.ref a) args) R s := by
  refine codeC_treeA rfl ?_
  show wpAny _ A.in1 (callAny (.ref a) args) _ _ s
  simp only [callAny]
  refine wpAny_bind (wpAny_load ho ?_)
  obtain ⟨c, oc, vs, tq, hc, hoc, hdc, hq⟩ := hcd
  simp only [hd', callFunction, hco, hgen, hbody, hc]
  rw [hc] at h
  refine wpAny_bind (m := field (.ref c) 1) (wpAny_field hoc hdc hq (wpAny_bind (wpAny_pure ?_)))
  exact wpAny_bind (wpAny_mono h (fun binds s₁ h₁ => wpAny_bind (wpAny_mono h₁ (fun env s₂ h₂ => wpAny_bind (wpAny_enterFrame h₂.1 hroom
    (wpAny_pure (And.intro rfl h₂.2)))) fun _ _ x => x.elim)) fun _ _ x => x.elim)
end
end Mine
end
section
open PySem PySem.W PyProof.Rows
open PySem.Sem (wp)
namespace Mine
/-- says which binds are meant -/
def BL (_ : List (Str × Value)) : Prop := True
theorem bl (l : List (Str × Value)) : BL l := trivial
section
variable {prog : Program} {w : World} {A₀ A : Around} {s : Shared} {K : Frag} {base h₀ : Heap} {outer : List Env} {L : Addr} {m mg mb : Str → Option Value} {env : Env} {news : List (Addr × Obj)} {p : Program} {loose : List Str} {mean : ExcName → Option Value}
  {R : Result → Shared → Prop} {name qual : Str} {params : Arguments} {body : List Stmt} {scope : Scope} {dV kV doc pm cdv ct oc : Value} {an od : Option Addr} {osl : Array (Option Value)} {f : Addr} {args : Args} {binds : List (Str × Value)}

/-- the new frame of a def, its body in clean contexts -/
theorem frameC (B : Below A₀ base outer h₀) (F : Fr h₀ L s.heap m) (N : News h₀ L s.heap news) (X₀ : K.In h₀) (T : Top p loose mean mg mb h₀) (hA : A.frames = some (env :: outer)) (hf : env.frame = some L) (hke : env.scope.kind = .function)
    (hloc : ∀ y ∈ binds, scope.names.lookup y.1 = some .local)
    (h : ∀ g L' h₁ tk, Fr h₀ L g m → Fr g L' h₁ (fun y => binds.reverse.lookup y) → News g L' h₁ news → Below A base (env :: outer) g → K.In g → Top p loose mean mg mb g → (∀ q ∈ news, q.1 < L') →
      wpC (model prog w) (A.deeper (envOf qual scope L' f cdv)) (execs body (envOf qual scope L' f cdv))
        (fun fl s' => LeaveK h₀ L m g R (match fl with | .ret v => v | _ => .none) s') nE { s with heap := h₁, toks := tk })
    (hcell : ∀ x ∈ scope.names, x.2 ≠ .cell) (hk : scope.kind = .function) :
    wpAny (model prog w) A.in1 (newFunctionEnv scope mainGlobals [] binds (qual ++ ".<locals>.") (some f) cdv none builtinsNs) (fun env' s₂ => s₂.heap.NoLimit ∧ codeC (model prog w) A (.func body env') R s₂) nE s := by
  obtain ⟨FG, BG, st, lv⟩ := groundX (R := R) B F N hA hf hke
  refine wpAny_newFunctionEnv hcell hloc (fun h₁ hns hsb => ⟨(T.nolimit.keeps F.keep).fresh _ hsb, codeC_func ?_⟩) hk
  have hk₁ : ∀ b o, s.heap.get? b = some o → h₁.get? b = some o := fun b o e => hsb.extBut b o (Nat.ne_of_lt (Heap.lt_size e)) (Heap.get?_push_of_some _ e)
  show wpC (model prog w) (A.deeper (envOf qual scope s.heap.objs.size f cdv)) (execs body (envOf qual scope s.heap.objs.size f cdv)) _ _ _
  exact wpC_mono (h _ s.heap.objs.size h₁ _ FG ⟨hns, fun b o e => hk₁ b o (of_hideAll _ e), Nat.le_of_eq (hideAll_size _ _)⟩
    (fun q hq => ⟨hk₁ _ _ (N q hq).1, Nat.ne_of_lt (Heap.lt_size (N q hq).1), hideAll_none _ (List.mem_map_of_mem hq)⟩) BG (X₀.keeps st) (T.keeps st) (fun q hq => Heap.lt_size (N q hq).1)) (fun fl s' hl => lv _ _ hl) fun _ _ y => y

theorem callC_def (_hbl : BL binds) (B : Below A₀ base outer h₀) (F : Fr h₀ L s.heap m) (X₀ : K.In h₀) (N : News h₀ L s.heap news) (T : Top p loose mean mg mb h₀) (hA : A.frames = some (env :: outer)) (hf : env.frame = some L) (hke : env.scope.kind = .function)
    (ho : K.lookup f = some ⟨oc, od, .func (fnOf name qual params body scope dV kV doc pm an cdv ct), osl⟩) (hcd : codeIn K cdv qual = true) (hroom : A.depth < recursionLimit)
    (hbind : BindsTo s (fnOf name qual params body scope dV kV doc pm an cdv ct) args binds) (hloc : ∀ y ∈ binds, scope.names.lookup y.1 = some .local)
    (h : ∀ g L' h₁ tk, Fr h₀ L g m → Fr g L' h₁ (fun y => binds.reverse.lookup y) → News g L' h₁ news → Below A base (env :: outer) g → K.In g → Top p loose mean mg mb g → (∀ q ∈ news, q.1 < L') →
      wpC (model prog w) (A.deeper (envOf qual scope L' f cdv)) (execs body (envOf qual scope L' f cdv))
        (fun fl s' => LeaveK h₀ L m g R (match fl with | .ret v => v | _ => .none) s') nE { s with heap := h₁, toks := tk })
    (hcell : ∀ x ∈ scope.names, x.2 ≠ .cell) (hco : scope.isCoroutine = false) (hgen : scope.isGenerator = false) (hk : scope.kind = .function) : codeC (model prog w) A (.call (.ref f) args) R s :=
  codeC_call_function (fd := fnOf name qual params body scope dV kV doc pm an cdv ct) (body := body) hroom ((X₀.keeps F.keep) _ _ ho) rfl hco hgen rfl (codeRec_of (X₀.keeps F.keep) hcd)
    (hbind _ _ _ _ (frameC B F N X₀ T hA hf hke hloc h hcell hk))

/-- the same where **more takes nothing: an empty dict is made for it -/
theorem callC_more {nm : Str} {front : List (Str × Value)} {g₁ : Addr → Sem (List (Str × Value))} (B : Below A₀ base outer h₀) (F : Fr h₀ L s.heap m) (X₀ : K.In h₀) (N : News h₀ L s.heap news) (T : Top p loose mean mg mb h₀) (hA : A.frames = some (env :: outer)) (hf : env.frame = some L) (hke : env.scope.kind = .function)
    (ho : K.lookup f = some ⟨oc, od, .func (fnOf name qual params body scope dV kV doc pm an cdv ct), osl⟩) (hcd : codeIn K cdv qual = true) (hroom : A.depth < recursionLimit)
    (hp : peekA K ⟨prog, w.params⟩ (bindArgs (fnOf name qual params body scope dV kV doc pm an cdv ct) args) = some (dictOf [] 0, g₁))
    (hk₁ : ∀ D, g₁ D = pure (front ++ [(nm, Value.ref D)]))
    (hloc : ∀ D, ∀ y ∈ front ++ [(nm, Value.ref D)], scope.names.lookup y.1 = some .local)
    (h : ∀ D g L' h₁ tk, (∀ q ∈ news, q.1 < D) → Fr h₀ L g m → Fr g L' h₁ (fun y => (front ++ [(nm, Value.ref D)]).reverse.lookup y) → News g L' h₁ ((D, dictOf [] 0) :: news) → Below A base (env :: outer) g → K.In g → Top p loose mean mg mb g → (∀ q ∈ (D, dictOf [] 0) :: news, q.1 < L') →
      wpC (model prog w) (A.deeper (envOf qual scope L' f cdv)) (execs body (envOf qual scope L' f cdv))
        (fun fl s' => LeaveK h₀ L m g R (match fl with | .ret v => v | _ => .none) s') nE { s with heap := h₁, toks := tk })
    (hcell : ∀ x ∈ scope.names, x.2 ≠ .cell) (hco : scope.isCoroutine = false) (hgen : scope.isGenerator = false) (hk : scope.kind = .function) : codeC (model prog w) A (.call (.ref f) args) R s := by
  refine codeC_call_function (fd := fnOf name qual params body scope dV kV doc pm an cdv ct) (body := body) hroom ((X₀.keeps F.keep) _ _ ho) rfl hco hgen rfl (codeRec_of (X₀.keeps F.keep) hcd) ?_
  refine wp_of_peekA (o := dictOf [] 0) F N (X₀.keeps F.keep) rfl _ g₁ hp fun h' F' N' l => ?_
  rw [hk₁]
  exact wpAny_pure (frameC (s := { s with heap := h' }) B F' N' X₀ T hA hf hke (hloc _) (fun g L' h₁ tk a b c d e i j => h _ g L' h₁ tk l a b c d e i j) hcell hk)
end
end Mine
end
section
open PySem PySem.W PyProof.Rows PySem.Calls
open PySem.Sem (wp)
namespace Mine
abbrev baO (bs : Array UInt8) : Obj := { cls := .type "bytearray", data := .bytearray bs }
theorem slot_ba_len : Slot "bytearray" "__len__" "bytearray.__len__" :=
  .of (owner := "bytearray") (n := "__len__") (by rw [typeLookup_type, builtinLookup_eq_fast]; kernel_rfl) (by decide +kernel) (by decide +kernel) (by decide +kernel)
    (by first | exact .inl (by decide +kernel) | exact .inr (by decide +kernel)) (by rw [isSubtype_type]; kernel_rfl)
theorem entry_ba_len : entryFor table "bytearray.__len__" = some Builtin.«bytearray.__len__» := entryFor_of_fast (by kernel_rfl)
theorem args_ba_len (a : Value) : argsOk "bytearray.__len__" ⟨[a], []⟩ := by unfold argsOk; kernel_rfl
section
variable {prog : Program} {w : World} {A : Around} {E : Value → Shared → Prop} {s : Shared} {ba : Addr} {bs : Array UInt8} {Q : Value → Shared → Prop}
theorem payload_ba {M : Model} {Q : Array UInt8 → Shared → Prop} (hb : s.heap.get? ba = some (baO bs)) (h : Q bs s) : wpAny M A (Builtin.Bytes.payload (.ref ba)) Q E s := by
  unfold Builtin.Bytes.payload Builtin.Bytes.payload?
  exact wpAny_bind (wpAny_bind (wpAny_load hb (wpAny_pure (wpAny_pure h))))
theorem len_ba (hb : s.heap.get? ba = some (baO bs)) (hfit : bs.size < 2 ^ 62) (h : Q (.int bs.size (s.toks + 1)) { s with toks := s.toks + 1 + 1 }) : wpAny (model prog w) A (call (.builtin "len") [.ref ba]) Q E s := by
  have hT : s.TypeIs (.ref ba) "bytearray" := ⟨_, hb, rfl⟩
  refine call_function_entry kind_len plain_len entry_len (args_len1 _) ?_
  unfold Builtin.«len»
  refine wpAny_bind (m := oneArg "len" _) (wpAny_pure ?_)
  refine wpAny_bind (m := callSpecial? (.ref ba) (Str.ofString "__len__")) (wpAny_callSpecial?_slot (name := Str.ofString "__len__") hT slot_ba_len
    (wpAny_call_entry slot_ba_len hT entry_ba_len ?_ (args_ba_len _)))
  show wpAny _ _ (do retInt (← Builtin.Bytes.payload (.ref ba)).size) _ _ s
  refine wpAny_bind (payload_ba hb ?_)
  refine wpAny_bind (wpAny_mkInt (wpAny_pure ⟨_, rfl, ?_⟩))
  refine wpAny_bind (wpAny_holding (wpAny_pure ?_))
  refine wpAny_bind (wpAny_letGo ?_)
  show wpAny _ _ (if ((bs.size : Nat) : Int) < 0 then _ else _) _ _ _
  rw [if_neg (by omega)]
  show wpAny _ _ (if ((bs.size : Nat) : Int) ≥ 2 ^ 63 then _ else _) _ _ _
  rw [if_neg (by omega)]
  exact wpAny_bind (wpAny_mkInt (wpAny_pure ⟨_, rfl, h⟩))
end
end Mine
end
section
open PySem PySem.W PyProof.Rows PySem.Calls
open PySem.Sem (wp)
set_option maxRecDepth 100000
namespace Mine
theorem slot_ba_init : Slot "bytearray" "__init__" "bytearray.__init__" :=
  .of (owner := "bytearray") (n := "__init__") (by rw [typeLookup_type, builtinLookup_eq_fast]; kernel_rfl) (by decide +kernel) (by decide +kernel) (by decide +kernel)
    (by first | exact .inl (by decide +kernel) | exact .inr (by decide +kernel)) (by rw [isSubtype_type]; kernel_rfl)
theorem mro_ba : mroOf (.type "bytearray") = pure [.type "bytearray", .type "object"] := by rw [mroOf_type]; kernel_rfl
theorem lookup_ba_new : typeLookup (.type "bytearray") "__new__" = pure (some (.builtin "bytearray.__new__")) := by rw [typeLookup_type, builtinLookup_eq_fast]; kernel_rfl
theorem called_ba : TypeCalled "bytearray" "bytearray.__new__" "bytearray.__init__" :=
  ⟨by decide +kernel, by decide +kernel, ⟨_, _, mro_ba⟩, madeBy_type mro_ba lookup_ba_new (by decide +kernel), by decide +kernel, by rw [isSubtype_type]; kernel_rfl, slot_ba_init⟩
theorem typeCall_ba0 : checkTypeCall "bytearray" ⟨[], []⟩ = pure () := by kernel_rfl
theorem typeCall_ba1 (a : Value) : checkTypeCall "bytearray" ⟨[a], []⟩ = pure () := by kernel_rfl
theorem newCall_ba0 : checkBuiltinCall "bytearray.__new__" ⟨[.type "bytearray"], []⟩ = pure () := by kernel_rfl
theorem newCall_ba1 (a : Value) : checkBuiltinCall "bytearray.__new__" ⟨[.type "bytearray", a], []⟩ = pure () := by kernel_rfl
theorem entry_ba_new : entryFor table "bytearray.__new__" = some Builtin.«list.__new__» :=
  entryFor_alias (id' := "list.__new__") (by rw [fastTable_eq_tree]; kernel_rfl) (by decide +kernel) (by decide +kernel) (by rw [fastTable_eq_tree]; kernel_rfl)
theorem entry_ba_init : entryFor table "bytearray.__init__" = some Builtin.«bytearray.__init__» := entryFor_of_tree (by kernel_rfl)
theorem args_ba_init0 (a : Value) : argsOk "bytearray.__init__" ⟨[a], []⟩ := by unfold argsOk; kernel_rfl
theorem args_ba_init1 (a b : Value) : argsOk "bytearray.__init__" ⟨[a, b], []⟩ := by unfold argsOk; kernel_rfl
theorem plain_ba_new : plainId "bytearray.__new__" = true := by decide +kernel
set_option maxRecDepth 1000000 in
set_option maxHeartbeats 4000000 in
theorem owner_ba_new : ("bytearray.__new__".splitOn ".__new__").headD "" = "bytearray" := by simp +decide [String.splitOn, String.splitOnAux]
theorem sub_ba_self : isSubtype (.type "bytearray") (.type "bytearray") = pure true := by rw [isSubtype_type]; kernel_rfl
section
variable {prog : Program} {w : World} {A : Around} {E : Value → Shared → Prop} {s : Shared}
theorem code_ba_new {rest : List Value} (hn : checkBuiltinCall "bytearray.__new__" ⟨.type "bytearray" :: rest, []⟩ = pure ()) {Q₁ : Value → Shared → Prop}
    (h : Q₁ (.ref s.heap.objs.size) { s with heap := s.heap.push (baO #[]) }) :
    codeAny (model prog w) A (.call (.builtin "bytearray.__new__") ⟨.type "bytearray" :: rest, []⟩) (wants Q₁ E) s := by
  refine codeAny_of_tree ?_
  show wpAny _ A.in1 (do checkBuiltinCall "bytearray.__new__" ⟨.type "bytearray" :: rest, []⟩; again (.builtin "bytearray.__new__" ⟨.type "bytearray" :: rest, []⟩)) _ _ s
  refine wpAny_bind (wpAny_of_eq hn (wpAny_pure ⟨plainId_quiet plain_ba_new _, codeAny_builtin_stack entry_ba_new rfl fun p st => ?_⟩))
  rw [Around.under_plainId plain_ba_new _]
  have hsub := sub_ba_self
  have hown := owner_ba_new
  obtain ⟨hp, g, d, tk, os⟩ := s
  simp only [hown]
  wp_walk
  exact h

theorem codeC_builtin {id : String} {args : Args} {b : Builtin} {R : Result → Shared → Prop} (hok : okCode (.builtin id args) = true) (hb : entryFor table id = some b)
    (h : wpC (model prog w) (A.under (.builtin id args)) (b args)
      (fun fin s' => match fin with | .done f => R (.ok f) s' | .again c' => c'.quiet = true ∧ codeC (model prog w) A c' R s') (fun e s' => R (.error e) s') s) : codeC (model prog w) A (.builtin id args) R s := by
  refine codeC_tree hok ?_
  show wpC _ _ (match entryFor table id with | some b => b args | none => unsupported ((withoutEnding? id "#data").getD id)) _ _ s
  rw [hb]; exact h
theorem codeC_call_builtin {id : String} {args : Args} {b : Builtin} {R : Result → Shared → Prop} (hq : plainId id = true) (hok : okCode (.builtin id args) = true) (hb : entryFor table id = some b)
    (h : wpAny (model prog w) A.in1 (checkBuiltinCall id args) (fun _ s₁ => wpC (model prog w) A.in1 (b args)
      (fun fin s' => match fin with | .done f => R (.ok f) s' | .again c' => c'.quiet = true ∧ codeC (model prog w) A c' R s') (fun e s' => R (.error e) s') s₁) (fun e s' => R (.error e) s') s) : codeC (model prog w) A (.call (.builtin id) args) R s := by
  refine codeC_treeA rfl ?_
  show wpAny _ A.in1 (do checkBuiltinCall id args; again (.builtin id args)) _ _ s
  refine wpAny_bind (wpAny_mono h (fun _ s₁ h₁ => wpAny_pure (And.intro (plainId_quiet hq args) (codeC_builtin hok hb ?_))) fun _ _ h' => h')
  rw [Around.under_plainId hq args]; exact h₁

theorem callTypeC {T newId initId : String} {Bi : Builtin} {args : List Value} {Q Q₁ : Value → Shared → Prop} (ft : TypeCalled T newId initId)
    (hct : checkTypeCall T ⟨args, []⟩ = pure ()) (entryI : entryFor table initId = some Bi) (hokI : ∀ a, okCode (.builtin initId a) = true)
    (hnew : codeAny (model prog w) A.in1 (.call (.builtin newId) ⟨.type T :: args, []⟩) (wants Q₁ nE) s)
    (hnext : ∀ obj s₁, Q₁ obj s₁ → s₁.TypeIs obj T ∧ argsOk initId ⟨obj :: args, []⟩ ∧
      wpC (model prog w) A.in1.in1 (Bi ⟨obj :: args, []⟩) (fun fin s' => fin = .done (.ret .none) ∧ Q obj s') nE s₁) :
    wpC (model prog w) A (call (.type T) args) Q nE s := by
  obtain ⟨c, tl, hmro⟩ := ft.mro
  have hmade := ft.made
  have hsub := ft.sub
  refine wpC_call (codeC_treeA rfl ?_)
  show wpAny _ _ (callAny (.type T) _) _ _ _
  refine wpAny_pure ⟨Code.quiet_builtin _ (by decide +kernel), codeC_builtin (by show (!heldIds.contains "type.__call__") = true; decide +kernel) F.entry_type_call ?_⟩
  rw [Around.under_plain (weight_type_call_type T args []) (units_type_call_type T args [])]
  have h1 := ft.notType
  have h2 := ft.canCreate
  unfold Builtin.«type.__call__»
  dsimp only
  rw [if_neg (by rw [h1]; exact Bool.false_ne_true), if_neg (by rw [h2]; exact Bool.false_ne_true)]
  refine wpC_bindA (wpAny_of_eq hct (wpC_bindA (wpAny_of_eq hmro ?_)))
  rw [if_neg (by exact Bool.false_ne_true)]
  refine wpC_bindA (wpAny_of_eq hmade ?_)
  dsimp only
  refine wpC_bindA (wpAny_pure (wpC_bindA (wpAny_holding (wpAny_call (codeAny_mono hnew fun r s₁ hr => ?_)))))
  cases r with
  | error e => exact hr.elim
  | ok fl =>
    cases fl with
    | ret obj =>
      obtain ⟨hT, hok, hsi⟩ := hnext _ _ hr
      refine wpC_bindA ?_
      unfold isInstance
      refine wpAny_bind (wpAny_typeOf hT (wpAny_of_eq hsub ?_))
      rw [if_neg (by exact Bool.false_ne_true)]
      refine wpC_bind (wpC_holding ?_)
      unfold callSpecial?
      refine wpC_bindA (wpAny_specialOf hT ft.init.lookup ?_)
      dsimp only
      refine wpC_holding (wpC_bindA (wpAny_of_eq (ft.init.bind obj) ?_))
      dsimp only
      refine wpC_bind (wpC_call (codeC_call_builtin ft.init.plain (hokI _) entryI (ft.init.check _ _ _ _ _ _ _ _ hT hok (wpC_mono hsi (fun fin s₂ hq => ?_) fun _ _ x => x))))
      obtain ⟨rfl, hq⟩ := hq
      refine wpC_pure ?_
      dsimp only
      rw [if_neg (by exact Bool.false_ne_true)]
      exact wpC_pure hq
    | _ => exact hr.elim
end
end Mine
end
section
open PySem PySem.W PyProof.Rows PySem.Calls PySem.Builtin PySem.Builtin.Bytes
open PySem.Sem (wp)
set_option maxRecDepth 100000
namespace Mine
theorem look_ba_release : typeLookup (.type "bytearray") "__release_buffer__" = pure (some (.builtin "bytearray.__release_buffer__")) := by rw [typeLookup_type, builtinLookup_eq_fast]; kernel_rfl
theorem bytes_no_index : typeLookup (.type "bytes") "__index__" = pure none := by rw [typeLookup_type, builtinLookup_eq_fast]; kernel_rfl
theorem bytes_no_int : typeLookup (.type "bytes") "__int__" = pure none := by rw [typeLookup_type, builtinLookup_eq_fast]; kernel_rfl
theorem bytes_no_float : typeLookup (.type "bytes") "__float__" = pure none := by rw [typeLookup_type, builtinLookup_eq_fast]; kernel_rfl
theorem sub_bytes_ba : isSubtype (.type "bytes") (.type "bytearray") = pure false := by rw [isSubtype_type]; kernel_rfl
theorem sub_bytes_complex : isSubtype (.type "bytes") (.type "complex") = pure false := by rw [isSubtype_type]; kernel_rfl
theorem bind_ba0 : bindOptional "bytearray.__init__" "bytearray" ["source", "encoding", "errors"] [] [] = pure [none, none, none] := by kernel_rfl
theorem bind_ba1 (v : Value) : bindOptional "bytearray.__init__" "bytearray" ["source", "encoding", "errors"] [v] [] = pure [some v, none, none] := by kernel_rfl
section
variable {M : Model} {A : Around} {E : Value → Shared → Prop} {s : Shared} {x : Addr} {bs : Array UInt8}
theorem ownRelease_ba {v : Value} {Q : Bool → Shared → Prop} (hT : s.TypeIs v "bytearray") (h : Q false s) : wpAny M A (ownRelease v) Q E s := by
  have key : ∀ y : String, y = "bytearray" → wpAny M A (isInstance v (.type y)) (fun r s' => Q (!r) s') E s := fun y hy => by rw [hy]; exact wpAny_isInstance hT sub_ba_self h
  unfold ownRelease slotIsOwn
  refine wpAny_bind (wpAny_bind (wpAny_specialOf hT look_ba_release ?_))
  dsimp only
  split
  · rename_i hx; exact absurd hx (by decide +kernel)
  · exact wpAny_mono (key _ (by decide +kernel)) (fun r s' h' => wpAny_pure h') fun _ _ y => y
theorem pastItsLine_ba {b : Array UInt8} {n : Nat} (h : b.size ≤ sizeLine) : (Data.bytearray b n).pastItsLine = none := by
  show (if b.size > sizeLine then some "bytearray:memory" else none) = none
  exact if_neg (Nat.not_lt.mpr h)
theorem write_ba {f : Array UInt8 → Array UInt8} {Q : Unit → Shared → Prop} (hb : s.heap.get? x = some (baO bs)) (hz : (f bs).size ≤ sizeLine)
    (h : ∀ h', Heap.SameBut x s.heap h' → h'.get? x = some (baO (f bs)) → Q () { s with heap := h' }) : wpAny M A (Builtin.Bytes.write (.ref x) f) Q E s := by
  show wpAny M A (updateBytearray x f) Q E s
  unfold updateBytearray
  refine wpAny_bind (wpAny_load hb ?_)
  have hg : (s.heap.update x (Obj.mapBytearray f)).get? x = some (baO (f bs)) := Heap.get?_update_self _ hb rfl
  refine wpAny_bind (wpAny_update hb ?_)
  exact wpAny_lookBehind hg (pastItsLine_ba hz) (h _ (Heap.SameBut.update _ _ _) hg)
theorem notExported_C {Q : Bool → Shared → Prop} (hb : s.heap.get? x = some (baO bs)) (h : Q false s) :
    wpC M A (exported (.ref x) <||> (do return (← exportsOf (.ref x)) > 0)) Q nE s := by
  refine wpC_bind (exported_C ?_)
  refine wpC_any ?_
  unfold exportsOf
  exact wpAny_bind (wpAny_bind (wpAny_load hb (wpAny_pure (wpAny_pure h))))
theorem checkResize_C {Q : Unit → Shared → Prop} (hb : s.heap.get? x = some (baO bs)) (h : Q () s) : wpC M A (checkResize (.ref x)) Q nE s := by
  unfold checkResize
  refine wpC_bind (notExported_C hb ?_)
  exact wpC_pure h
theorem noCodec {id f n : String} {Q : Unit → Shared → Prop} (h : Q () s) : wpAny M A (checkCodecArg id f n none) Q E s := wpAny_pure h

theorem ba_init0 {Q : Fin → Shared → Prop} (hb : s.heap.get? x = some (baO bs))
    (h : ∀ h', Heap.SameBut x s.heap h' → h'.get? x = some (baO #[]) → Q (.done (.ret .none)) { s with heap := h' }) : wpC M A (Builtin.«bytearray.__init__» ⟨[.ref x], []⟩) Q nE s := by
  have hT : s.TypeIs (.ref x) "bytearray" := ⟨_, hb, rfl⟩
  unfold Builtin.«bytearray.__init__»
  dsimp only
  refine wpC_bindA (ownRelease_ba hT ?_)
  refine wpC_bindA (wpAny_of_eq bind_ba0 ?_)
  dsimp only
  refine wpC_bindA (noCodec (wpC_bindA (noCodec ?_)))
  refine wpC_bind (notExported_C hb ?_)
  refine wpC_bindA (write_ba hb (by show 0 ≤ _; omega) fun h' hs hg => ?_)
  exact wpC_any (wpAny_bind (wpAny_pure (wpAny_pure (h h' hs hg))))
theorem ba_init1 {b : Array UInt8} {t : Tok} {Q : Fin → Shared → Prop} (hb : s.heap.get? x = some (baO bs)) (hz : b.size ≤ sizeLine)
    (h : ∀ h', Heap.SameBut x s.heap h' → h'.get? x = some (baO b) → Q (.done (.ret .none)) { s with heap := h' }) : wpC M A (Builtin.«bytearray.__init__» ⟨[.ref x, .bytes b t], []⟩) Q nE s := by
  have hT : s.TypeIs (.ref x) "bytearray" := ⟨_, hb, rfl⟩
  unfold Builtin.«bytearray.__init__»
  dsimp only
  refine wpC_bindA (ownRelease_ba hT ?_)
  refine wpC_bindA (wpAny_of_eq (bind_ba1 _) ?_)
  dsimp only
  refine wpC_bindA (noCodec (wpC_bindA (noCodec ?_)))
  refine wpC_bind (notExported_C hb ?_)
  refine wpC_bindA (write_ba hb (by show 0 ≤ _; omega) fun h1 hs1 hg1 => ?_)
  refine wpC_any ?_
  refine wpAny_bind (wpAny_of_eq (a := none) rfl ?_)
  refine wpAny_bind (wpAny_pure ?_)
  refine wpAny_bind (wpAny_specialOf (typeIs_bytes _ b t) bytes_no_index ?_)
  refine wpAny_bind (wpAny_of_eq KBy.buffer_eq ?_)
  refine wpAny_bind (wpAny_rule ?_)
  refine wpAny_bind (write_ba hg1 hz fun h2 hs2 hg2 => ?_)
  exact wpAny_pure (h h2 (hs1.trans hs2) hg2)
end
section
variable {prog : Program} {w : World} {A : Around} {E : Value → Shared → Prop} {s : Shared} {x : Addr} {bs : Array UInt8}
theorem args_ba_init0' (a : Value) : argsOk "bytearray.__init__" ⟨[a], []⟩ := args_ba_init0 a
theorem ok_ba_init (a : Args) : okCode (.builtin "bytearray.__init__" a) = true := by show (!heldIds.contains "bytearray.__init__") = true; decide +kernel
theorem call_ba0 {Q : Value → Shared → Prop} (h : ∀ h', (∀ b o, s.heap.get? b = some o → h'.get? b = some o) → h'.get? s.heap.objs.size = some (baO #[]) → Q (.ref s.heap.objs.size) { s with heap := h' }) :
    wpC (model prog w) A (call (.type "bytearray") []) Q nE s := by
  refine callTypeC (Q₁ := fun v s₁ => v = .ref s.heap.objs.size ∧ s₁ = { s with heap := s.heap.push (baO #[]) }) called_ba typeCall_ba0 entry_ba_init ok_ba_init (code_ba_new newCall_ba0 ⟨rfl, rfl⟩) ?_
  rintro obj s₁ ⟨rfl, rfl⟩
  have hg : (s.heap.push (baO #[])).get? s.heap.objs.size = some (baO #[]) := Heap.get?_push_size _ rfl
  refine ⟨⟨_, hg, rfl⟩, args_ba_init0 _, ?_⟩
  exact ba_init0 hg fun h' hs hg' => ⟨rfl, h h' (fun b o e => hs.extBut b o (Nat.ne_of_lt (Heap.lt_size e)) (Heap.get?_push_of_some _ e)) hg'⟩
theorem call_ba1 {b : Array UInt8} {t : Tok} {Q : Value → Shared → Prop} (hz : b.size ≤ sizeLine) (h : ∀ h', (∀ b o, s.heap.get? b = some o → h'.get? b = some o) → h'.get? s.heap.objs.size = some (baO b) → Q (.ref s.heap.objs.size) { s with heap := h' }) :
    wpC (model prog w) A (call (.type "bytearray") [.bytes b t]) Q nE s := by
  refine callTypeC (Q₁ := fun v s₁ => v = .ref s.heap.objs.size ∧ s₁ = { s with heap := s.heap.push (baO #[]) }) called_ba (typeCall_ba1 _) entry_ba_init ok_ba_init (code_ba_new (newCall_ba1 _) ⟨rfl, rfl⟩) ?_
  rintro obj s₁ ⟨rfl, rfl⟩
  have hg : (s.heap.push (baO #[])).get? s.heap.objs.size = some (baO #[]) := Heap.get?_push_size _ rfl
  refine ⟨⟨_, hg, rfl⟩, args_ba_init1 _ _, ?_⟩
  exact ba_init1 hg hz fun h' hs hg' => ⟨rfl, h h' (fun b o e => hs.extBut b o (Nat.ne_of_lt (Heap.lt_size e)) (Heap.get?_push_of_some _ e)) hg'⟩

theorem callSpecialC {T : String} {name : Str} {id : String} {Bi : Builtin} {o : Value} {args : List Value} {Q : Option Value → Shared → Prop} (hT : s.TypeIs o T) (sl : Slot T name id) (he : entryFor table id = some Bi)
    (hok : ∀ a, okCode (.builtin id a) = true) (ha : argsOk id ⟨o :: args, []⟩)
    (h : wpC (model prog w) A.in1 (Bi ⟨o :: args, []⟩) (fun fin s' => ∃ v, fin = .done (.ret v) ∧ Q (some v) s') nE s) : wpC (model prog w) A (callSpecial? o name args) Q nE s := by
  unfold callSpecial?
  refine wpC_bindA (wpAny_specialOf hT sl.lookup ?_)
  dsimp only
  refine wpC_holding (wpC_bindA (wpAny_of_eq (sl.bind o) ?_))
  dsimp only
  refine wpC_bind (wpC_call (codeC_call_builtin sl.plain (hok _) he (sl.check _ _ _ _ _ _ _ _ hT ha (wpC_mono h (fun fin s₂ hq => ?_) fun _ _ x => x))))
  obtain ⟨v, rfl, hq⟩ := hq
  exact wpC_pure hq
theorem slot_ba_setitem : Slot "bytearray" "__setitem__" "bytearray.__setitem__" :=
  .of (owner := "bytearray") (n := "__setitem__") (by rw [typeLookup_type, builtinLookup_eq_fast]; kernel_rfl) (by decide +kernel) (by decide +kernel) (by decide +kernel)
    (by first | exact .inl (by decide +kernel) | exact .inr (by decide +kernel)) (by rw [isSubtype_type]; kernel_rfl)
theorem entry_ba_setitem : entryFor table "bytearray.__setitem__" = some Builtin.«bytearray.__setitem__» := entryFor_of_fast (by kernel_rfl)
theorem args_ba_setitem (a b c : Value) : argsOk "bytearray.__setitem__" ⟨[a, b, c], []⟩ := by unfold argsOk; kernel_rfl
theorem ok_ba_setitem (a : Args) : okCode (.builtin "bytearray.__setitem__" a) = true := by show (!heldIds.contains "bytearray.__setitem__") = true; decide +kernel
theorem sliceParts_int {M : Model} {a : Addr} {i j : Int} {ti tj : Tok} {Q : Value × Value × Value → Shared → Prop} (hS : s.heap.IsSliceOf a (.int i ti) (.int j tj) .none) (h : Q (rawPart (some i), rawPart (some j), rawPart none) s) :
    wpAny M A (Bytes.sliceParts (.ref a)) Q E s := by
  obtain ⟨o, ho, hc, hd⟩ := hS
  unfold Bytes.sliceParts
  refine wpAny_bind (wpAny_field (x := .none) ho hd rfl ?_)
  kby_none
  refine wpAny_ite (KBy.ite_no (show ¬ ((Value.none == rawInt 0) = true) from Bool.false_ne_true) ?_)
  refine wpAny_bind (wpAny_field (x := .int i ti) ho hd rfl ?_)
  kby_int
  refine wpAny_bind (wpAny_field (x := .int j tj) ho hd rfl ?_)
  kby_int
  exact wpAny_pure h
theorem bounds_end {n k : Nat} : sliceBounds (some (n : Int)) (some ((n : Int) + k)) none n = ((n : Int), (n : Int), 1) := by
  have h1 : max 0 (min (if (n : Int) < 0 then (n : Int) + n else n) (n : Int)) = (n : Int) := by rw [if_neg (by omega)]; omega
  have h2 : max 0 (min (if (n : Int) + k < 0 then (n : Int) + k + n else (n : Int) + k) (n : Int)) = (n : Int) := by rw [if_neg (by omega)]; omega
  have e (a b : Int) : sliceBounds (some a) (some b) none n = (max 0 (min (if a < 0 then a + n else a) (n : Int)), max 0 (min (if b < 0 then b + n else b) (n : Int)), (1 : Int)) := by
    simp only [sliceBounds, Option.getD_none, show ((1 : Int) > 0) = True from eq_true (by decide), if_true]
  rw [e]
  rw [h1, h2]
set_option maxHeartbeats 2000000 in
theorem setItem_ba {a : Addr} {b : Array UInt8} {t ti tj : Tok} {Q : Unit → Shared → Prop} (hb : s.heap.get? x = some (baO bs)) (hS : s.heap.IsSliceOf a (.int bs.size ti) (.int ((bs.size : Int) + b.size) tj) .none) (hz : bs.size + b.size ≤ sizeLine)
    (h : ∀ h1 h', (∀ b o, s.heap.get? b = some o → h1.get? b = some o) → Heap.SameBut x h1 h' → h'.get? x = some (baO (bs ++ b)) → Q () { s with heap := h' }) :
    wpC (model prog w) A (setItem (.ref x) (.ref a) (.bytes b t)) Q nE s := by
  have hT : s.TypeIs (.ref x) "bytearray" := ⟨_, hb, rfl⟩
  have hS' := hS
  obtain ⟨o, ho, hc, hd⟩ := hS'
  have hTs : s.TypeIs (.ref a) "slice" := ⟨o, ho, hc⟩
  unfold setItem
  refine wpC_holding (wpC_bindA (wpAny_sequenceKey hT (by decide) ?_))
  refine wpC_bind (callSpecialC (name := Str.ofString "__setitem__") hT slot_ba_setitem entry_ba_setitem ok_ba_setitem (args_ba_setitem _ _ _) ?_)
  unfold Builtin.«bytearray.__setitem__»
  dsimp only
  have hsub : ∀ {Q : Option Int → Shared → Prop}, Q none s → wpAny (model prog w) A.in1 (Bytes.subscript? (.ref a)) Q nE s := fun hq => by
    unfold Bytes.subscript?
    exact wpAny_bind (wpAny_specialOf hTs slice_no_index (wpAny_pure hq))
  refine wpC_bindA (hsub ?_)
  dsimp only
  refine wpC_bindA (wpAny_typeOf hTs ?_)
  refine wpC_bindA (sliceParts_int hS ?_)
  rw [if_neg (by exact Bool.false_ne_true)]
  refine wpC_bindA (wpAny_isInstance (typeIs_bytes _ b t) sub_bytes_ba ?_)
  rw [if_pos (by exact rfl)]
  refine wpC_bindA (wpAny_bind (wpAny_bind (wpAny_specialOf (typeIs_bytes _ b t) bytes_no_index (wpAny_pure ?_))))
  refine wpAny_bind (wpAny_bind (wpAny_specialOf (typeIs_bytes _ b t) bytes_no_int (wpAny_pure ?_)))
  refine wpAny_bind (wpAny_bind (wpAny_specialOf (typeIs_bytes _ b t) bytes_no_float (wpAny_pure ?_)))
  refine wpAny_isInstance (typeIs_bytes _ b t) sub_bytes_complex ?_
  refine wpC_bindA (wpAny_of_eq (a := none) rfl ?_)
  rw [if_neg (by exact Bool.false_ne_true)]
  refine wpC_bindA (wpAny_rule ?_)
  refine wpC_bind (call_ba1 (by omega) fun h1 hk1 hg1 => ?_)
  have hS1 : h1.IsSliceOf a (.int bs.size ti) (.int ((bs.size : Int) + b.size) tj) .none := ⟨o, hk1 _ _ ho, hc, hd⟩
  refine wpC_bindA (wpAny_holding (sliceParts_int hS1 ?_))
  refine wpC_bindA (payload_ba hg1 ?_)
  refine wpC_bindA (payload_ba (hk1 _ _ hb) ?_)
  dsimp only
  refine wpC_bindA (wpAny_of_eq (sliceIndices_raw (some (bs.size : Int)) (some ((bs.size : Int) + b.size)) none bs.size (fun e => nomatch e)) ?_)
  rw [bounds_end]
  dsimp only
  rw [if_pos (by exact rfl)]
  refine wpC_bindA (wpAny_rule ?_)
  have key : ∀ f : Array UInt8 → Array UInt8, f bs = bs ++ b → wpC (model prog w) A.in1 (do Builtin.Bytes.write (.ref x) f; ret .none) (fun fin s' => ∃ v, fin = .done (.ret v) ∧ wpC (model prog w) A (pure ()) Q nE s') nE { s with heap := h1 } := fun f e =>
    wpC_bindA (write_ba (hk1 _ _ hb) (by rw [e, Array.size_append]; exact hz) fun h' hs hg => wpC_pure ⟨_, rfl, wpC_pure (h h1 h' hk1 hs (by rw [hg, e]))⟩)
  have e : (fun y : Array UInt8 => y.extract 0 (bs.size : Int).toNat ++ b ++ y.extract (max (bs.size : Int) bs.size).toNat y.size) bs = bs ++ b := by simp
  by_cases hc : ((b.size : Int) != max (bs.size : Int) bs.size - bs.size) = true
  · rw [if_pos hc]
    exact wpC_bind (checkResize_C (hk1 _ _ hb) (key _ e))
  · rw [if_neg hc]
    exact key _ e
end
end Mine
end
section
open PySem PySem.W PyProof.Rows PySem.Calls PySem.Builtin PySem.Builtin.Bytes
open PySem.Sem (wp)
set_option maxRecDepth 100000
namespace Mine
theorem ba_no_bytes : typeLookup (.type "bytearray") "__bytes__" = pure none := by rw [typeLookup_type, builtinLookup_eq_fast]; kernel_rfl
theorem ba_no_index : typeLookup (.type "bytearray") "__index__" = pure none := by rw [typeLookup_type, builtinLookup_eq_fast]; kernel_rfl
theorem look_ba_buffer : typeLookup (.type "bytearray") "__buffer__" = pure (some (.builtin "bytearray.__buffer__")) := by rw [typeLookup_type, builtinLookup_eq_fast]; kernel_rfl
section
variable {M : Model} {A : Around} {E : Value → Shared → Prop} {s : Shared} {x : Addr} {bs : Array UInt8}
theorem ownBuffer_ba {v : Value} {Q : Bool → Shared → Prop} (hT : s.TypeIs v "bytearray") (h : Q true s) : wpAny M A (slotIsOwn v "__buffer__") Q E s := by
  have key : ∀ y : String, y = "bytearray" → wpAny M A (isInstance v (.type y)) Q E s := fun y hy => by rw [hy]; exact wpAny_isInstance hT sub_ba_self h
  unfold slotIsOwn
  refine wpAny_bind (wpAny_specialOf hT look_ba_buffer ?_)
  dsimp only
  split
  · rename_i hx; exact absurd hx (by decide +kernel)
  · exact key _ (by decide +kernel)
theorem buffer_ba {id : String} {f : Bool} {Q : Option (Array UInt8) → Shared → Prop} (hb : s.heap.get? x = some (baO bs)) (h : Q (some bs) s) : wpAny M A (buffer? id (.ref x) f) Q E s := by
  have hT : s.TypeIs (.ref x) "bytearray" := ⟨_, hb, rfl⟩
  unfold buffer?
  refine wpAny_bind (wpAny_specialOf hT look_ba_buffer ?_)
  dsimp only
  refine wpAny_bind (ownBuffer_ba hT ?_)
  refine bm_if_false rfl ?_
  refine wpAny_bind (wpAny_specialOf hT look_ba_buffer ?_)
  refine wpAny_bind (ownRelease_ba hT ?_)
  refine bm_if_false rfl ?_
  exact wpAny_bind (payload_ba hb (wpAny_pure h))
end
section
variable {prog : Program} {w : World} {A : Around} {E : Value → Shared → Prop} {s : Shared} {x : Addr} {bs : Array UInt8}
theorem bytes_new_ba {Q : Value → Shared → Prop} (hb : s.heap.get? x = some (baO bs)) (hz : bs.size ≤ sizeLine) (hQ : Q (.bytes bs s.toks) { s with toks := s.toks + 1 }) :
    codeAny (model prog w) A (.call (.builtin "bytes.__new__") ⟨[.type "bytes", .ref x], []⟩) (wants Q E) s := by
  refine codeAny_of_tree ?_
  show wpAny _ A.in1 (do checkBuiltinCall "bytes.__new__" ⟨[.type "bytes", .ref x], []⟩; again (.builtin "bytes.__new__" ⟨[.type "bytes", .ref x], []⟩)) _ _ s
  refine wpAny_bind (wpAny_of_eq (F.bm_newCall _) (wpAny_pure ⟨plainId_quiet F.bm_plain _, codeAny_builtin F.bm_entry ?_⟩))
  rw [Around.under_plainId F.bm_plain _]
  have hT : s.TypeIs (.ref x) "bytearray" := ⟨_, hb, rfl⟩
  unfold Builtin.«bytes.__new__»
  refine wpAny_bind (wpAny_of_eq (a := true) rfl ?_)
  refine bm_if_false rfl ?_
  refine wpAny_bind (wpAny_of_eq F.bm_sub ?_)
  refine bm_if_false rfl ?_
  refine wpAny_bind (wpAny_of_eq (F.bm_bind _) ?_)
  refine wpAny_bind (wpAny_of_eq (a := ()) rfl ?_)
  refine wpAny_bind (wpAny_of_eq (a := ()) rfl ?_)
  refine bm_if_false rfl ?_
  refine wpAny_bind (wpAny_specialOf hT ba_no_bytes ?_)
  refine wpAny_bind (wpAny_bind ?_)
  show wpAny _ _ (load x >>= _) _ _ _
  refine wpAny_bind (wpAny_load hb ?_)
  refine wpAny_pure (wpAny_pure ?_)
  refine bm_if_false rfl ?_
  refine wpAny_bind (wpAny_specialOf hT ba_no_index ?_)
  refine bm_if_true rfl ?_
  first
    | show wpAny _ _ (Builtin.Bytes.buffer? "bytes.__new__" (.ref x) true >>= _) _ _ _
    | (refine wpAny_bind ?_; show wpAny _ _ (Builtin.Bytes.buffer? "bytes.__new__" (.ref x) true >>= _) _ _ _)
  refine wpAny_bind (buffer_ba hb ?_)
  refine wpAny_bind (wpAny_rule ?_)
  refine wpAny_bind (wpAny_mkBytes ?_ hz)
  show wpAny _ _ ((if (Value.type "bytes" == Value.type "bytes") = true then _ else _)) _ _ _
  refine bm_if_true (by decide) ?_
  first
    | exact wpAny_pure hQ
    | exact wpAny_bind (wpAny_pure (wpAny_pure hQ))
theorem call_bytes_ba {Q : Value → Shared → Prop} (hb : s.heap.get? x = some (baO bs)) (hz : bs.size ≤ sizeLine) (hQ : Q (.bytes bs s.toks) { s with toks := s.toks + 1 }) : wpAny (model prog w) A (call (.type "bytes") [.ref x]) Q E s := by
  refine callType_codes (Q₁ := fun obj s₁ => s₁.TypeIs obj "bytes" ∧ Q obj s₁) F.bm_called (F.bm_typeCall _) F.entry_object_init
    (bytes_new_ba hb hz ⟨PySem.W.typeIs_bytes _ _ _, hQ⟩) fun obj s₁ h₁ => ?_
  exact ⟨h₁.1, F.args_object_init_2 obj _, object_init_meets F.bm_called.init.lookup F.bm_called.made (by decide) prog w A.in1 _ s₁ ⟨h₁.1, rfl, h₁.2⟩⟩
end
end Mine
end
section
open PySem PySem.W PyProof.Rows PySem.Calls PySem.Builtin PySem.Builtin.Bytes
open PySem.Sem (wp)
set_option maxRecDepth 100000
namespace Mine
/-- the k octets of a whole number, the heaviest first -/
def beInt (k : Nat) (i : Int) : List UInt8 := ((List.range k).map fun e => ((i % 2 ^ (8 * k)).toNat / 256 ^ e % 256).toUInt8).reverse
theorem pk_kind : builtinKind "_struct.pack" = none := by decide +kernel
theorem pk_plain : plainId "_struct.pack" = true := by decide +kernel
theorem pk_entry : entryFor table "_struct.pack" = some Builtin.«_struct.pack» := by first | exact entryFor_of_fast (by kernel_rfl) | exact entryFor_of_tree (by kernel_rfl)
theorem pk_args2 (a b : Value) : argsOk "_struct.pack" ⟨[a, b], []⟩ := by unfold argsOk; kernel_rfl
theorem pk_args3 (a b c : Value) : argsOk "_struct.pack" ⟨[a, b, c], []⟩ := by unfold argsOk; kernel_rfl
theorem forIn_one {β : Type} {init : β} {f : Nat → β → Sem (ForInStep β)} : forIn [:1] init f = (f 0 init >>= fun r => match r with | .done b => pure b | .yield b => pure b) := by
  rw [Std.Legacy.Range.forIn_eq_forIn_range']
  show forIn [0] init f = _
  rw [List.forIn_cons]
  rfl
theorem intBytes_be (k : Nat) (i : Int) : Struct.intBytes true k i = (beInt k i).toArray := by
  unfold Struct.intBytes beInt Memoryview.toLittleEndian
  simp
theorem intBytes_le1 (i : Int) : Struct.intBytes false 1 i = (beInt 1 i).toArray := by
  unfold Struct.intBytes beInt Memoryview.toLittleEndian
  simp
theorem place_1 (pl : Array UInt8 → Nat → Array UInt8 → Array UInt8) (hpl : ∀ o p r, pl o p r = r.toList.zipIdx.foldl (fun o x => o.setIfInBounds (p + x.2) x.1) o) (c b0 : UInt8) :
    pl (pl (Array.replicate 2 0) (0 + 0 * 1) #[c]) (1 + 0 * 1) #[b0] = #[c, b0] := by
  rw [hpl, hpl]
  simp [Array.replicate, List.replicate, List.zipIdx]
theorem placed_1 {M : Model} {A : Around} {E : Value → Shared → Prop} {s : Shared} {Q : Fin → Shared → Prop} {pl : Array UInt8 → Nat → Array UInt8 → Array UInt8} {c b0 : UInt8} (h : wpAny M A (do ret (← mkBytes #[c, b0])) Q E s) (hpl : ∀ o p r, pl o p r = r.toList.zipIdx.foldl (fun o x => o.setIfInBounds (p + x.2) x.1) o) :
    wpAny M A (do ret (← mkBytes (pl (pl (Array.replicate 2 0) (0 + 0 * 1) #[c]) (1 + 0 * 1) #[b0]))) Q E s := by
  rw [place_1 pl hpl]
  exact h
theorem place_2 (pl : Array UInt8 → Nat → Array UInt8 → Array UInt8) (hpl : ∀ o p r, pl o p r = r.toList.zipIdx.foldl (fun o x => o.setIfInBounds (p + x.2) x.1) o) (c b0 b1 : UInt8) :
    pl (pl (Array.replicate 3 0) (0 + 0 * 1) #[c]) (1 + 0 * 2) #[b0, b1] = #[c, b0, b1] := by
  rw [hpl, hpl]
  simp [Array.replicate, List.replicate, List.zipIdx]
theorem placed_2 {M : Model} {A : Around} {E : Value → Shared → Prop} {s : Shared} {Q : Fin → Shared → Prop} {pl : Array UInt8 → Nat → Array UInt8 → Array UInt8} {c b0 b1 : UInt8} (h : wpAny M A (do ret (← mkBytes #[c, b0, b1])) Q E s) (hpl : ∀ o p r, pl o p r = r.toList.zipIdx.foldl (fun o x => o.setIfInBounds (p + x.2) x.1) o) :
    wpAny M A (do ret (← mkBytes (pl (pl (Array.replicate 3 0) (0 + 0 * 1) #[c]) (1 + 0 * 2) #[b0, b1]))) Q E s := by
  rw [place_2 pl hpl]
  exact h
theorem place_4 (pl : Array UInt8 → Nat → Array UInt8 → Array UInt8) (hpl : ∀ o p r, pl o p r = r.toList.zipIdx.foldl (fun o x => o.setIfInBounds (p + x.2) x.1) o) (c b0 b1 b2 b3 : UInt8) :
    pl (pl (Array.replicate 5 0) (0 + 0 * 1) #[c]) (1 + 0 * 4) #[b0, b1, b2, b3] = #[c, b0, b1, b2, b3] := by
  rw [hpl, hpl]
  simp [Array.replicate, List.replicate, List.zipIdx]
theorem placed_4 {M : Model} {A : Around} {E : Value → Shared → Prop} {s : Shared} {Q : Fin → Shared → Prop} {pl : Array UInt8 → Nat → Array UInt8 → Array UInt8} {c b0 b1 b2 b3 : UInt8} (h : wpAny M A (do ret (← mkBytes #[c, b0, b1, b2, b3])) Q E s) (hpl : ∀ o p r, pl o p r = r.toList.zipIdx.foldl (fun o x => o.setIfInBounds (p + x.2) x.1) o) :
    wpAny M A (do ret (← mkBytes (pl (pl (Array.replicate 5 0) (0 + 0 * 1) #[c]) (1 + 0 * 4) #[b0, b1, b2, b3]))) Q E s := by
  rw [place_4 pl hpl]
  exact h
theorem place_8 (pl : Array UInt8 → Nat → Array UInt8 → Array UInt8) (hpl : ∀ o p r, pl o p r = r.toList.zipIdx.foldl (fun o x => o.setIfInBounds (p + x.2) x.1) o) (c b0 b1 b2 b3 b4 b5 b6 b7 : UInt8) :
    pl (pl (Array.replicate 9 0) (0 + 0 * 1) #[c]) (1 + 0 * 8) #[b0, b1, b2, b3, b4, b5, b6, b7] = #[c, b0, b1, b2, b3, b4, b5, b6, b7] := by
  rw [hpl, hpl]
  simp [Array.replicate, List.replicate, List.zipIdx]
theorem placed_8 {M : Model} {A : Around} {E : Value → Shared → Prop} {s : Shared} {Q : Fin → Shared → Prop} {pl : Array UInt8 → Nat → Array UInt8 → Array UInt8} {c b0 b1 b2 b3 b4 b5 b6 b7 : UInt8} (h : wpAny M A (do ret (← mkBytes #[c, b0, b1, b2, b3, b4, b5, b6, b7])) Q E s) (hpl : ∀ o p r, pl o p r = r.toList.zipIdx.foldl (fun o x => o.setIfInBounds (p + x.2) x.1) o) :
    wpAny M A (do ret (← mkBytes (pl (pl (Array.replicate 9 0) (0 + 0 * 1) #[c]) (1 + 0 * 8) #[b0, b1, b2, b3, b4, b5, b6, b7]))) Q E s := by
  rw [place_8 pl hpl]
  exact h
section
variable {prog : Program} {w : World} {A : Around} {E : Value → Shared → Prop} {s : Shared}
theorem fmt_B (t : Tok) : Struct.moduleFormat (.str (Str.ofString "B") t) = pure { bigEndian := false, native := true, codes := [⟨'B', 1, 0, 1⟩], size := 1, items := 1 } := by kernel_rfl
theorem pack_B {j : Int} {t u : Tok} {Q : Value → Shared → Prop} (h1 : 0 ≤ j) (h2 : j ≤ 255) (h : Q (.bytes (beInt 1 j).toArray s.toks) { s with toks := s.toks + 1 }) :
    wpAny (model prog w) A (call (.builtin "_struct.pack") [.str (Str.ofString "B") t, .int j u]) Q E s := by
  refine call_function_entry pk_kind pk_plain pk_entry (pk_args2 _ _) ?_
  unfold Builtin.«_struct.pack»
  refine wpAny_bind (wpAny_pure ?_)
  dsimp only
  refine wpAny_bind (wpAny_of_eq (fmt_B _) ?_)
  unfold Struct.packed
  refine bm_if_false rfl ?_
  refine bm_if_false rfl ?_
  refine wpAny_bind (wpAny_bind ?_)
  simp only [List.forIn_cons, List.forIn_nil]
  refine wpAny_bind ?_
  rw [if_neg (by decide), if_neg (by decide), forIn_one]
  refine wpAny_bind (wpAny_bind (wpAny_bind ?_))
  show wpAny _ _ (_ >>= _) _ _ _
  refine wpAny_bind ?_
  refine wpAny_of_eq (a := Except.ok j) rfl ?_
  refine wpAny_bind (wpAny_pure ?_)
  refine bm_if_false (by simp [Char.isLower]; omega) ?_
  refine wpAny_pure (wpAny_pure (wpAny_pure (wpAny_pure ?_)))
  dsimp only
  refine wpAny_pure (wpAny_pure ?_)
  dsimp only
  rw [intBytes_le1]
  show wpAny _ _ (do ret (← mkBytes (beInt 1 j).toArray)) _ _ _
  exact wpAny_bind (wpAny_mkBytes (wpAny_pure ⟨_, rfl, h⟩) (by rw [sizeLine_eq]; simp [beInt]))
theorem fmt_b (t : Tok) : Struct.moduleFormat (.str (Str.ofString "b") t) = pure { bigEndian := false, native := true, codes := [⟨'b', 1, 0, 1⟩], size := 1, items := 1 } := by kernel_rfl
theorem pack_b {j : Int} {t u : Tok} {Q : Value → Shared → Prop} (h1 : -128 ≤ j) (h2 : j ≤ 127) (h : Q (.bytes (beInt 1 j).toArray s.toks) { s with toks := s.toks + 1 }) :
    wpAny (model prog w) A (call (.builtin "_struct.pack") [.str (Str.ofString "b") t, .int j u]) Q E s := by
  refine call_function_entry pk_kind pk_plain pk_entry (pk_args2 _ _) ?_
  unfold Builtin.«_struct.pack»
  refine wpAny_bind (wpAny_pure ?_)
  dsimp only
  refine wpAny_bind (wpAny_of_eq (fmt_b _) ?_)
  unfold Struct.packed
  refine bm_if_false rfl ?_
  refine bm_if_false rfl ?_
  refine wpAny_bind (wpAny_bind ?_)
  simp only [List.forIn_cons, List.forIn_nil]
  refine wpAny_bind ?_
  rw [if_neg (by decide), if_neg (by decide), forIn_one]
  refine wpAny_bind (wpAny_bind (wpAny_bind ?_))
  show wpAny _ _ (_ >>= _) _ _ _
  refine wpAny_bind ?_
  refine wpAny_of_eq (a := Except.ok j) rfl ?_
  refine wpAny_bind (wpAny_pure ?_)
  refine bm_if_false (by simp [Char.isLower]; omega) ?_
  refine wpAny_pure (wpAny_pure (wpAny_pure (wpAny_pure ?_)))
  dsimp only
  refine wpAny_pure (wpAny_pure ?_)
  dsimp only
  rw [intBytes_le1]
  show wpAny _ _ (do ret (← mkBytes (beInt 1 j).toArray)) _ _ _
  exact wpAny_bind (wpAny_mkBytes (wpAny_pure ⟨_, rfl, h⟩) (by rw [sizeLine_eq]; simp [beInt]))
theorem fmt_BB (t : Tok) : Struct.moduleFormat (.str (Str.ofString "BB") t) = pure { bigEndian := false, native := true, codes := [⟨'B', 1, 0, 1⟩, ⟨'B', 1, 1, 1⟩], size := 2, items := 2 } := by kernel_rfl
theorem pack_BB {j : Int} {t u v : Tok} {Q : Value → Shared → Prop} (h1 : 0 ≤ j) (h2 : j ≤ 255) (h : Q (.bytes (204 :: beInt 1 j).toArray s.toks) { s with toks := s.toks + 1 }) :
    wpAny (model prog w) A (call (.builtin "_struct.pack") [.str (Str.ofString "BB") t, .int 204 v, .int j u]) Q E s := by
  refine call_function_entry pk_kind pk_plain pk_entry (pk_args3 _ _ _) ?_
  unfold Builtin.«_struct.pack»
  refine wpAny_bind (wpAny_pure ?_)
  dsimp only
  refine wpAny_bind (wpAny_of_eq (fmt_BB _) ?_)
  unfold Struct.packed
  refine bm_if_false rfl ?_
  refine bm_if_false rfl ?_
  refine wpAny_bind (wpAny_bind ?_)
  simp only [List.forIn_cons, List.forIn_nil]
  refine wpAny_bind ?_
  rw [if_neg (by decide), if_neg (by decide), forIn_one]
  refine wpAny_bind (wpAny_bind (wpAny_bind ?_))
  show wpAny _ _ (_ >>= _) _ _ _
  refine wpAny_bind ?_
  refine wpAny_of_eq (a := Except.ok 204) rfl ?_
  refine wpAny_bind (wpAny_pure ?_)
  refine bm_if_false (by decide) ?_
  refine wpAny_pure (wpAny_pure (wpAny_pure (wpAny_pure ?_)))
  dsimp only
  refine wpAny_bind ?_
  rw [if_neg (by decide), if_neg (by decide), forIn_one]
  refine wpAny_bind (wpAny_bind (wpAny_bind ?_))
  show wpAny _ _ (_ >>= _) _ _ _
  refine wpAny_bind ?_
  refine wpAny_of_eq (a := Except.ok j) rfl ?_
  refine wpAny_bind (wpAny_pure ?_)
  refine bm_if_false (by simp [Char.isLower]; omega) ?_
  refine wpAny_pure (wpAny_pure (wpAny_pure (wpAny_pure ?_)))
  dsimp only
  refine wpAny_pure (wpAny_pure ?_)
  dsimp only
  rw [intBytes_le1, intBytes_le1]
  obtain ⟨b0, e⟩ : ∃ b0, beInt 1 j = [b0] := ⟨_, rfl⟩
  rw [e] at h ⊢
  rw [show (beInt 1 204).toArray = #[204] from rfl, show ([b0] : List UInt8).toArray = #[b0] from rfl]
  with_reducible refine placed_1 (c := 204) ?_ ?hpl
  case hpl => exact fun _ _ _ => rfl
  exact wpAny_bind (wpAny_mkBytes (wpAny_pure ⟨_, rfl, h⟩) (by rw [sizeLine_eq]; exact Nat.le_of_ble_eq_true rfl))
theorem fmt_Bb (t : Tok) : Struct.moduleFormat (.str (Str.ofString ">Bb") t) = pure { bigEndian := true, native := false, codes := [⟨'B', 1, 0, 1⟩, ⟨'b', 1, 1, 1⟩], size := 2, items := 2 } := by kernel_rfl
theorem pack_Bb {j : Int} {t u v : Tok} {Q : Value → Shared → Prop} (h1 : -128 ≤ j) (h2 : j ≤ 127) (h : Q (.bytes (208 :: beInt 1 j).toArray s.toks) { s with toks := s.toks + 1 }) :
    wpAny (model prog w) A (call (.builtin "_struct.pack") [.str (Str.ofString ">Bb") t, .int 208 v, .int j u]) Q E s := by
  refine call_function_entry pk_kind pk_plain pk_entry (pk_args3 _ _ _) ?_
  unfold Builtin.«_struct.pack»
  refine wpAny_bind (wpAny_pure ?_)
  dsimp only
  refine wpAny_bind (wpAny_of_eq (fmt_Bb _) ?_)
  unfold Struct.packed
  refine bm_if_false rfl ?_
  refine bm_if_false rfl ?_
  refine wpAny_bind (wpAny_bind ?_)
  simp only [List.forIn_cons, List.forIn_nil]
  refine wpAny_bind ?_
  rw [if_neg (by decide), if_neg (by decide), forIn_one]
  refine wpAny_bind (wpAny_bind (wpAny_bind ?_))
  show wpAny _ _ (_ >>= _) _ _ _
  refine wpAny_bind ?_
  refine wpAny_of_eq (a := Except.ok 208) rfl ?_
  refine wpAny_bind (wpAny_pure ?_)
  refine bm_if_false (by decide) ?_
  refine wpAny_pure (wpAny_pure (wpAny_pure (wpAny_pure ?_)))
  dsimp only
  refine wpAny_bind ?_
  rw [if_neg (by decide), if_neg (by decide), forIn_one]
  refine wpAny_bind (wpAny_bind (wpAny_bind ?_))
  show wpAny _ _ (_ >>= _) _ _ _
  refine wpAny_bind ?_
  refine wpAny_of_eq (a := Except.ok j) rfl ?_
  refine wpAny_bind (wpAny_pure ?_)
  refine bm_if_false (by simp [Char.isLower]; omega) ?_
  refine wpAny_pure (wpAny_pure (wpAny_pure (wpAny_pure ?_)))
  dsimp only
  refine wpAny_pure (wpAny_pure ?_)
  dsimp only
  rw [intBytes_be, intBytes_be]
  obtain ⟨b0, e⟩ : ∃ b0, beInt 1 j = [b0] := ⟨_, rfl⟩
  rw [e] at h ⊢
  rw [show (beInt 1 208).toArray = #[208] from rfl, show ([b0] : List UInt8).toArray = #[b0] from rfl]
  with_reducible refine placed_1 (c := 208) ?_ ?hpl
  case hpl => exact fun _ _ _ => rfl
  exact wpAny_bind (wpAny_mkBytes (wpAny_pure ⟨_, rfl, h⟩) (by rw [sizeLine_eq]; exact Nat.le_of_ble_eq_true rfl))
theorem fmt_BH (t : Tok) : Struct.moduleFormat (.str (Str.ofString ">BH") t) = pure { bigEndian := true, native := false, codes := [⟨'B', 1, 0, 1⟩, ⟨'H', 1, 1, 2⟩], size := 3, items := 2 } := by kernel_rfl
theorem pack_BH {j : Int} {t u v : Tok} {Q : Value → Shared → Prop} (h1 : 0 ≤ j) (h2 : j ≤ 65535) (h : Q (.bytes (205 :: beInt 2 j).toArray s.toks) { s with toks := s.toks + 1 }) :
    wpAny (model prog w) A (call (.builtin "_struct.pack") [.str (Str.ofString ">BH") t, .int 205 v, .int j u]) Q E s := by
  refine call_function_entry pk_kind pk_plain pk_entry (pk_args3 _ _ _) ?_
  unfold Builtin.«_struct.pack»
  refine wpAny_bind (wpAny_pure ?_)
  dsimp only
  refine wpAny_bind (wpAny_of_eq (fmt_BH _) ?_)
  unfold Struct.packed
  refine bm_if_false rfl ?_
  refine bm_if_false rfl ?_
  refine wpAny_bind (wpAny_bind ?_)
  simp only [List.forIn_cons, List.forIn_nil]
  refine wpAny_bind ?_
  rw [if_neg (by decide), if_neg (by decide), forIn_one]
  refine wpAny_bind (wpAny_bind (wpAny_bind ?_))
  show wpAny _ _ (_ >>= _) _ _ _
  refine wpAny_bind ?_
  refine wpAny_of_eq (a := Except.ok 205) rfl ?_
  refine wpAny_bind (wpAny_pure ?_)
  refine bm_if_false (by decide) ?_
  refine wpAny_pure (wpAny_pure (wpAny_pure (wpAny_pure ?_)))
  dsimp only
  refine wpAny_bind ?_
  rw [if_neg (by decide), if_neg (by decide), forIn_one]
  refine wpAny_bind (wpAny_bind (wpAny_bind ?_))
  show wpAny _ _ (_ >>= _) _ _ _
  refine wpAny_bind ?_
  refine wpAny_of_eq (a := Except.ok j) rfl ?_
  refine wpAny_bind (wpAny_pure ?_)
  refine bm_if_false (by simp [Char.isLower]; omega) ?_
  refine wpAny_pure (wpAny_pure (wpAny_pure (wpAny_pure ?_)))
  dsimp only
  refine wpAny_pure (wpAny_pure ?_)
  dsimp only
  rw [intBytes_be, intBytes_be]
  obtain ⟨b0, b1, e⟩ : ∃ b0 b1, beInt 2 j = [b0, b1] := ⟨_, _, rfl⟩
  rw [e] at h ⊢
  rw [show (beInt 1 205).toArray = #[205] from rfl, show ([b0, b1] : List UInt8).toArray = #[b0, b1] from rfl]
  with_reducible refine placed_2 (c := 205) ?_ ?hpl
  case hpl => exact fun _ _ _ => rfl
  exact wpAny_bind (wpAny_mkBytes (wpAny_pure ⟨_, rfl, h⟩) (by rw [sizeLine_eq]; exact Nat.le_of_ble_eq_true rfl))
theorem fmt_Bh (t : Tok) : Struct.moduleFormat (.str (Str.ofString ">Bh") t) = pure { bigEndian := true, native := false, codes := [⟨'B', 1, 0, 1⟩, ⟨'h', 1, 1, 2⟩], size := 3, items := 2 } := by kernel_rfl
theorem pack_Bh {j : Int} {t u v : Tok} {Q : Value → Shared → Prop} (h1 : -32768 ≤ j) (h2 : j ≤ 32767) (h : Q (.bytes (209 :: beInt 2 j).toArray s.toks) { s with toks := s.toks + 1 }) :
    wpAny (model prog w) A (call (.builtin "_struct.pack") [.str (Str.ofString ">Bh") t, .int 209 v, .int j u]) Q E s := by
  refine call_function_entry pk_kind pk_plain pk_entry (pk_args3 _ _ _) ?_
  unfold Builtin.«_struct.pack»
  refine wpAny_bind (wpAny_pure ?_)
  dsimp only
  refine wpAny_bind (wpAny_of_eq (fmt_Bh _) ?_)
  unfold Struct.packed
  refine bm_if_false rfl ?_
  refine bm_if_false rfl ?_
  refine wpAny_bind (wpAny_bind ?_)
  simp only [List.forIn_cons, List.forIn_nil]
  refine wpAny_bind ?_
  rw [if_neg (by decide), if_neg (by decide), forIn_one]
  refine wpAny_bind (wpAny_bind (wpAny_bind ?_))
  show wpAny _ _ (_ >>= _) _ _ _
  refine wpAny_bind ?_
  refine wpAny_of_eq (a := Except.ok 209) rfl ?_
  refine wpAny_bind (wpAny_pure ?_)
  refine bm_if_false (by decide) ?_
  refine wpAny_pure (wpAny_pure (wpAny_pure (wpAny_pure ?_)))
  dsimp only
  refine wpAny_bind ?_
  rw [if_neg (by decide), if_neg (by decide), forIn_one]
  refine wpAny_bind (wpAny_bind (wpAny_bind ?_))
  show wpAny _ _ (_ >>= _) _ _ _
  refine wpAny_bind ?_
  refine wpAny_of_eq (a := Except.ok j) rfl ?_
  refine wpAny_bind (wpAny_pure ?_)
  refine bm_if_false (by simp [Char.isLower]; omega) ?_
  refine wpAny_pure (wpAny_pure (wpAny_pure (wpAny_pure ?_)))
  dsimp only
  refine wpAny_pure (wpAny_pure ?_)
  dsimp only
  rw [intBytes_be, intBytes_be]
  obtain ⟨b0, b1, e⟩ : ∃ b0 b1, beInt 2 j = [b0, b1] := ⟨_, _, rfl⟩
  rw [e] at h ⊢
  rw [show (beInt 1 209).toArray = #[209] from rfl, show ([b0, b1] : List UInt8).toArray = #[b0, b1] from rfl]
  with_reducible refine placed_2 (c := 209) ?_ ?hpl
  case hpl => exact fun _ _ _ => rfl
  exact wpAny_bind (wpAny_mkBytes (wpAny_pure ⟨_, rfl, h⟩) (by rw [sizeLine_eq]; exact Nat.le_of_ble_eq_true rfl))
theorem fmt_BI (t : Tok) : Struct.moduleFormat (.str (Str.ofString ">BI") t) = pure { bigEndian := true, native := false, codes := [⟨'B', 1, 0, 1⟩, ⟨'I', 1, 1, 4⟩], size := 5, items := 2 } := by kernel_rfl
theorem pack_BI {j : Int} {t u v : Tok} {Q : Value → Shared → Prop} (h1 : 0 ≤ j) (h2 : j ≤ 4294967295) (h : Q (.bytes (206 :: beInt 4 j).toArray s.toks) { s with toks := s.toks + 1 }) :
    wpAny (model prog w) A (call (.builtin "_struct.pack") [.str (Str.ofString ">BI") t, .int 206 v, .int j u]) Q E s := by
  refine call_function_entry pk_kind pk_plain pk_entry (pk_args3 _ _ _) ?_
  unfold Builtin.«_struct.pack»
  refine wpAny_bind (wpAny_pure ?_)
  dsimp only
  refine wpAny_bind (wpAny_of_eq (fmt_BI _) ?_)
  unfold Struct.packed
  refine bm_if_false rfl ?_
  refine bm_if_false rfl ?_
  refine wpAny_bind (wpAny_bind ?_)
  simp only [List.forIn_cons, List.forIn_nil]
  refine wpAny_bind ?_
  rw [if_neg (by decide), if_neg (by decide), forIn_one]
  refine wpAny_bind (wpAny_bind (wpAny_bind ?_))
  show wpAny _ _ (_ >>= _) _ _ _
  refine wpAny_bind ?_
  refine wpAny_of_eq (a := Except.ok 206) rfl ?_
  refine wpAny_bind (wpAny_pure ?_)
  refine bm_if_false (by decide) ?_
  refine wpAny_pure (wpAny_pure (wpAny_pure (wpAny_pure ?_)))
  dsimp only
  refine wpAny_bind ?_
  rw [if_neg (by decide), if_neg (by decide), forIn_one]
  refine wpAny_bind (wpAny_bind (wpAny_bind ?_))
  show wpAny _ _ (_ >>= _) _ _ _
  refine wpAny_bind ?_
  refine wpAny_of_eq (a := Except.ok j) rfl ?_
  refine wpAny_bind (wpAny_pure ?_)
  refine bm_if_false (by simp [Char.isLower]; omega) ?_
  refine wpAny_pure (wpAny_pure (wpAny_pure (wpAny_pure ?_)))
  dsimp only
  refine wpAny_pure (wpAny_pure ?_)
  dsimp only
  rw [intBytes_be, intBytes_be]
  obtain ⟨b0, b1, b2, b3, e⟩ : ∃ b0 b1 b2 b3, beInt 4 j = [b0, b1, b2, b3] := ⟨_, _, _, _, rfl⟩
  rw [e] at h ⊢
  rw [show (beInt 1 206).toArray = #[206] from rfl, show ([b0, b1, b2, b3] : List UInt8).toArray = #[b0, b1, b2, b3] from rfl]
  with_reducible refine placed_4 (c := 206) ?_ ?hpl
  case hpl => exact fun _ _ _ => rfl
  exact wpAny_bind (wpAny_mkBytes (wpAny_pure ⟨_, rfl, h⟩) (by rw [sizeLine_eq]; exact Nat.le_of_ble_eq_true rfl))
theorem fmt_Bi (t : Tok) : Struct.moduleFormat (.str (Str.ofString ">Bi") t) = pure { bigEndian := true, native := false, codes := [⟨'B', 1, 0, 1⟩, ⟨'i', 1, 1, 4⟩], size := 5, items := 2 } := by kernel_rfl
theorem pack_Bi {j : Int} {t u v : Tok} {Q : Value → Shared → Prop} (h1 : -2147483648 ≤ j) (h2 : j ≤ 2147483647) (h : Q (.bytes (210 :: beInt 4 j).toArray s.toks) { s with toks := s.toks + 1 }) :
    wpAny (model prog w) A (call (.builtin "_struct.pack") [.str (Str.ofString ">Bi") t, .int 210 v, .int j u]) Q E s := by
  refine call_function_entry pk_kind pk_plain pk_entry (pk_args3 _ _ _) ?_
  unfold Builtin.«_struct.pack»
  refine wpAny_bind (wpAny_pure ?_)
  dsimp only
  refine wpAny_bind (wpAny_of_eq (fmt_Bi _) ?_)
  unfold Struct.packed
  refine bm_if_false rfl ?_
  refine bm_if_false rfl ?_
  refine wpAny_bind (wpAny_bind ?_)
  simp only [List.forIn_cons, List.forIn_nil]
  refine wpAny_bind ?_
  rw [if_neg (by decide), if_neg (by decide), forIn_one]
  refine wpAny_bind (wpAny_bind (wpAny_bind ?_))
  show wpAny _ _ (_ >>= _) _ _ _
  refine wpAny_bind ?_
  refine wpAny_of_eq (a := Except.ok 210) rfl ?_
  refine wpAny_bind (wpAny_pure ?_)
  refine bm_if_false (by decide) ?_
  refine wpAny_pure (wpAny_pure (wpAny_pure (wpAny_pure ?_)))
  dsimp only
  refine wpAny_bind ?_
  rw [if_neg (by decide), if_neg (by decide), forIn_one]
  refine wpAny_bind (wpAny_bind (wpAny_bind ?_))
  show wpAny _ _ (_ >>= _) _ _ _
  refine wpAny_bind ?_
  refine wpAny_of_eq (a := Except.ok j) rfl ?_
  refine wpAny_bind (wpAny_pure ?_)
  refine bm_if_false (by simp [Char.isLower]; omega) ?_
  refine wpAny_pure (wpAny_pure (wpAny_pure (wpAny_pure ?_)))
  dsimp only
  refine wpAny_pure (wpAny_pure ?_)
  dsimp only
  rw [intBytes_be, intBytes_be]
  obtain ⟨b0, b1, b2, b3, e⟩ : ∃ b0 b1 b2 b3, beInt 4 j = [b0, b1, b2, b3] := ⟨_, _, _, _, rfl⟩
  rw [e] at h ⊢
  rw [show (beInt 1 210).toArray = #[210] from rfl, show ([b0, b1, b2, b3] : List UInt8).toArray = #[b0, b1, b2, b3] from rfl]
  with_reducible refine placed_4 (c := 210) ?_ ?hpl
  case hpl => exact fun _ _ _ => rfl
  exact wpAny_bind (wpAny_mkBytes (wpAny_pure ⟨_, rfl, h⟩) (by rw [sizeLine_eq]; exact Nat.le_of_ble_eq_true rfl))
theorem fmt_BQ (t : Tok) : Struct.moduleFormat (.str (Str.ofString ">BQ") t) = pure { bigEndian := true, native := false, codes := [⟨'B', 1, 0, 1⟩, ⟨'Q', 1, 1, 8⟩], size := 9, items := 2 } := by kernel_rfl
theorem pack_BQ {j : Int} {t u v : Tok} {Q : Value → Shared → Prop} (h1 : 0 ≤ j) (h2 : j ≤ 18446744073709551615) (h : Q (.bytes (207 :: beInt 8 j).toArray s.toks) { s with toks := s.toks + 1 }) :
    wpAny (model prog w) A (call (.builtin "_struct.pack") [.str (Str.ofString ">BQ") t, .int 207 v, .int j u]) Q E s := by
  refine call_function_entry pk_kind pk_plain pk_entry (pk_args3 _ _ _) ?_
  unfold Builtin.«_struct.pack»
  refine wpAny_bind (wpAny_pure ?_)
  dsimp only
  refine wpAny_bind (wpAny_of_eq (fmt_BQ _) ?_)
  unfold Struct.packed
  refine bm_if_false rfl ?_
  refine bm_if_false rfl ?_
  refine wpAny_bind (wpAny_bind ?_)
  simp only [List.forIn_cons, List.forIn_nil]
  refine wpAny_bind ?_
  rw [if_neg (by decide), if_neg (by decide), forIn_one]
  refine wpAny_bind (wpAny_bind (wpAny_bind ?_))
  show wpAny _ _ (_ >>= _) _ _ _
  refine wpAny_bind ?_
  refine wpAny_of_eq (a := Except.ok 207) rfl ?_
  refine wpAny_bind (wpAny_pure ?_)
  refine bm_if_false (by decide) ?_
  refine wpAny_pure (wpAny_pure (wpAny_pure (wpAny_pure ?_)))
  dsimp only
  refine wpAny_bind ?_
  rw [if_neg (by decide), if_neg (by decide), forIn_one]
  refine wpAny_bind (wpAny_bind (wpAny_bind ?_))
  show wpAny _ _ (_ >>= _) _ _ _
  refine wpAny_bind ?_
  refine wpAny_of_eq (a := Except.ok j) rfl ?_
  refine wpAny_bind (wpAny_pure ?_)
  refine bm_if_false (by simp [Char.isLower]; omega) ?_
  refine wpAny_pure (wpAny_pure (wpAny_pure (wpAny_pure ?_)))
  dsimp only
  refine wpAny_pure (wpAny_pure ?_)
  dsimp only
  rw [intBytes_be, intBytes_be]
  obtain ⟨b0, b1, b2, b3, b4, b5, b6, b7, e⟩ : ∃ b0 b1 b2 b3 b4 b5 b6 b7, beInt 8 j = [b0, b1, b2, b3, b4, b5, b6, b7] := ⟨_, _, _, _, _, _, _, _, rfl⟩
  rw [e] at h ⊢
  rw [show (beInt 1 207).toArray = #[207] from rfl, show ([b0, b1, b2, b3, b4, b5, b6, b7] : List UInt8).toArray = #[b0, b1, b2, b3, b4, b5, b6, b7] from rfl]
  with_reducible refine placed_8 (c := 207) ?_ ?hpl
  case hpl => exact fun _ _ _ => rfl
  exact wpAny_bind (wpAny_mkBytes (wpAny_pure ⟨_, rfl, h⟩) (by rw [sizeLine_eq]; exact Nat.le_of_ble_eq_true rfl))
theorem fmt_Bq (t : Tok) : Struct.moduleFormat (.str (Str.ofString ">Bq") t) = pure { bigEndian := true, native := false, codes := [⟨'B', 1, 0, 1⟩, ⟨'q', 1, 1, 8⟩], size := 9, items := 2 } := by kernel_rfl
theorem pack_Bq {j : Int} {t u v : Tok} {Q : Value → Shared → Prop} (h1 : -9223372036854775808 ≤ j) (h2 : j ≤ 9223372036854775807) (h : Q (.bytes (211 :: beInt 8 j).toArray s.toks) { s with toks := s.toks + 1 }) :
    wpAny (model prog w) A (call (.builtin "_struct.pack") [.str (Str.ofString ">Bq") t, .int 211 v, .int j u]) Q E s := by
  refine call_function_entry pk_kind pk_plain pk_entry (pk_args3 _ _ _) ?_
  unfold Builtin.«_struct.pack»
  refine wpAny_bind (wpAny_pure ?_)
  dsimp only
  refine wpAny_bind (wpAny_of_eq (fmt_Bq _) ?_)
  unfold Struct.packed
  refine bm_if_false rfl ?_
  refine bm_if_false rfl ?_
  refine wpAny_bind (wpAny_bind ?_)
  simp only [List.forIn_cons, List.forIn_nil]
  refine wpAny_bind ?_
  rw [if_neg (by decide), if_neg (by decide), forIn_one]
  refine wpAny_bind (wpAny_bind (wpAny_bind ?_))
  show wpAny _ _ (_ >>= _) _ _ _
  refine wpAny_bind ?_
  refine wpAny_of_eq (a := Except.ok 211) rfl ?_
  refine wpAny_bind (wpAny_pure ?_)
  refine bm_if_false (by decide) ?_
  refine wpAny_pure (wpAny_pure (wpAny_pure (wpAny_pure ?_)))
  dsimp only
  refine wpAny_bind ?_
  rw [if_neg (by decide), if_neg (by decide), forIn_one]
  refine wpAny_bind (wpAny_bind (wpAny_bind ?_))
  show wpAny _ _ (_ >>= _) _ _ _
  refine wpAny_bind ?_
  refine wpAny_of_eq (a := Except.ok j) rfl ?_
  refine wpAny_bind (wpAny_pure ?_)
  refine bm_if_false (by simp [Char.isLower]; omega) ?_
  refine wpAny_pure (wpAny_pure (wpAny_pure (wpAny_pure ?_)))
  dsimp only
  refine wpAny_pure (wpAny_pure ?_)
  dsimp only
  rw [intBytes_be, intBytes_be]
  obtain ⟨b0, b1, b2, b3, b4, b5, b6, b7, e⟩ : ∃ b0 b1 b2 b3 b4 b5 b6 b7, beInt 8 j = [b0, b1, b2, b3, b4, b5, b6, b7] := ⟨_, _, _, _, _, _, _, _, rfl⟩
  rw [e] at h ⊢
  rw [show (beInt 1 211).toArray = #[211] from rfl, show ([b0, b1, b2, b3, b4, b5, b6, b7] : List UInt8).toArray = #[b0, b1, b2, b3, b4, b5, b6, b7] from rfl]
  with_reducible refine placed_8 (c := 211) ?_ ?hpl
  case hpl => exact fun _ _ _ => rfl
  exact wpAny_bind (wpAny_mkBytes (wpAny_pure ⟨_, rfl, h⟩) (by rw [sizeLine_eq]; exact Nat.le_of_ble_eq_true rfl))
theorem fmt_gBB (t : Tok) : Struct.moduleFormat (.str (Str.ofString ">BB") t) = pure { bigEndian := true, native := false, codes := [⟨'B', 1, 0, 1⟩, ⟨'B', 1, 1, 1⟩], size := 2, items := 2 } := by kernel_rfl
theorem pack_gBB {j : Int} {t u v : Tok} {Q : Value → Shared → Prop} (h1 : 0 ≤ j) (h2 : j ≤ 255) (h : Q (.bytes (196 :: beInt 1 j).toArray s.toks) { s with toks := s.toks + 1 }) :
    wpAny (model prog w) A (call (.builtin "_struct.pack") [.str (Str.ofString ">BB") t, .int 196 v, .int j u]) Q E s := by
  refine call_function_entry pk_kind pk_plain pk_entry (pk_args3 _ _ _) ?_
  unfold Builtin.«_struct.pack»
  refine wpAny_bind (wpAny_pure ?_)
  dsimp only
  refine wpAny_bind (wpAny_of_eq (fmt_gBB _) ?_)
  unfold Struct.packed
  refine bm_if_false rfl ?_
  refine bm_if_false rfl ?_
  refine wpAny_bind (wpAny_bind ?_)
  simp only [List.forIn_cons, List.forIn_nil]
  refine wpAny_bind ?_
  rw [if_neg (by decide), if_neg (by decide), forIn_one]
  refine wpAny_bind (wpAny_bind (wpAny_bind ?_))
  show wpAny _ _ (_ >>= _) _ _ _
  refine wpAny_bind ?_
  refine wpAny_of_eq (a := Except.ok 196) rfl ?_
  refine wpAny_bind (wpAny_pure ?_)
  refine bm_if_false (by decide) ?_
  refine wpAny_pure (wpAny_pure (wpAny_pure (wpAny_pure ?_)))
  dsimp only
  refine wpAny_bind ?_
  rw [if_neg (by decide), if_neg (by decide), forIn_one]
  refine wpAny_bind (wpAny_bind (wpAny_bind ?_))
  show wpAny _ _ (_ >>= _) _ _ _
  refine wpAny_bind ?_
  refine wpAny_of_eq (a := Except.ok j) rfl ?_
  refine wpAny_bind (wpAny_pure ?_)
  refine bm_if_false (by simp [Char.isLower]; omega) ?_
  refine wpAny_pure (wpAny_pure (wpAny_pure (wpAny_pure ?_)))
  dsimp only
  refine wpAny_pure (wpAny_pure ?_)
  dsimp only
  rw [intBytes_be, intBytes_be]
  obtain ⟨b0, e⟩ : ∃ b0, beInt 1 j = [b0] := ⟨_, rfl⟩
  rw [e] at h ⊢
  rw [show (beInt 1 196).toArray = #[196] from rfl, show ([b0] : List UInt8).toArray = #[b0] from rfl]
  with_reducible refine placed_1 (c := 196) ?_ ?hpl
  case hpl => exact fun _ _ _ => rfl
  exact wpAny_bind (wpAny_mkBytes (wpAny_pure ⟨_, rfl, h⟩) (by rw [sizeLine_eq]; exact Nat.le_of_ble_eq_true rfl))
end
end Mine
end
section
open PySem PySem.W PyProof.Rows PySem.Calls PySem.Builtin PySem.Builtin.Bytes
open PySem.Sem (wp)
set_option maxRecDepth 100000
namespace Mine
/-- the texts of the law: up to three of one letter, and a tail -/
def txts : List Str := (["", "a", "aa", "aaa", "b", "bb", "bbb", "é", "éé", "ééé"].flatMap fun x => ["", "a", "Z"].map fun y => Str.ofString (x ++ y))
def u8 (s : Str) : List UInt8 := s.cps.toList.flatMap fun c => if c < 128 then [c.toUInt8] else [195, 169]
theorem enc_all (t u : Tok) : ∀ s ∈ txts, Builtin.«str.encode» ⟨[.str s t, .str (Str.ofString "utf-8") u], []⟩ = (do ret (← mkBytes (u8 s).toArray)) := by
  intro s hs
  simp only [txts, List.flatMap_cons, List.flatMap_nil, List.map_cons, List.map_nil, List.append_nil, List.cons_append, List.nil_append, List.mem_cons, List.not_mem_nil, or_false] at hs
  rcases hs with rfl | rfl | rfl | rfl | rfl | rfl | rfl | rfl | rfl | rfl | rfl | rfl | rfl | rfl | rfl | rfl | rfl | rfl | rfl | rfl | rfl | rfl | rfl | rfl | rfl | rfl | rfl | rfl | rfl | rfl <;> kernel_rfl
theorem u8_small : ∀ s ∈ txts, (u8 s).length ≤ 7 ∧ s.length ≤ 4 := by decide +kernel
section
variable {prog : Program} {w : World} {A : Around} {E : Value → Shared → Prop} {s : Shared}
theorem encode_txt {x : Str} {t u : Tok} {Q : Value → Shared → Prop} (hx : x ∈ txts) (h : Q (.bytes (u8 x).toArray s.toks) { s with toks := s.toks + 1 }) :
    wpAny (model prog w) A (call (.builtin "str.encode") [.str x t, .str (Str.ofString "utf-8") u]) Q E s := by
  refine wpAny_call_entry F.slot_str_encode (typeIs_str _ _ _) F.entry_str_encode ?_ (F.args_str_encode_2 _ _)
  rw [enc_all t u x hx]
  exact wpAny_bind (wpAny_mkBytes (wpAny_pure ⟨_, rfl, h⟩) (by have := (u8_small x hx).1; rw [sizeLine_eq, List.size_toArray]; omega))
end
theorem meth_encode {M : Model} {A : Around} {E : Value → Shared → Prop} {s : Shared} {pl : Sem Bool} {x : Str} {t : Tok} {Q : Value × List Value → Shared → Prop} (h : Q (.builtin "str.encode", [.str x t]) s) : wpAny M A (getMethod (.str x t) "encode" pl) Q E s := by
  with_reducible exact GM.of (.str x t) (typeIs_str _ _ _) F.slot_str_encode F.type_str_encode GM.noRef h
end Mine
end
section
open PySem PySem.W PyProof.Rows PySem.Calls
open PySem.Sem (wp)
set_option maxRecDepth 100000
namespace Mine
section
variable {prog : Program} {w : World} {A : Around} {s : Shared} {env : Env} {K : Frag} {h₀ : Heap} {pos : Pos} {f : Value} {first : List Value} {Q : Value → Shared → Prop}
theorem callWithC_K {M : Model} {e : Expr} {rest : List Expr} (_X : K.In h₀) (hk : keepIn K f = true) (h : wpAny M A (spliced (backTo pos (starEach (e :: rest) env))) (fun vs s₁ => K.In s₁.heap ∧ wpC M A (call f (first ++ vs)) Q nE s₁) nE s)
    (he : starEach (e :: rest) env = (false, eval e env) :: starEach rest env := by rfl) (hplain : (backTo pos (starEach rest env)).any (·.1) = false := by rfl) :
    wpC M A (callWith pos f first (backTo pos (starEach (e :: rest) env)) []) Q nE s := by
  rw [he] at h ⊢
  exact callWithC (P := fun h => K.In h) (by show ((false || (backTo pos (starEach rest env)).any (·.1)) || false) = false; rw [hplain]; rfl) (keeps_K hk) (evalArgs_plain h)
theorem callWithC_K0 {M : Model} (X : K.In s.heap) (hk : keepIn K f = true) (h : wpC M A (call f (first ++ [])) Q nE s) : wpC M A (callWith pos f first (backTo pos (starEach [] env)) []) Q nE s :=
  callWithC (P := fun h => K.In h) rfl (keeps_K hk) (evalArgs_nil3 ⟨X, h⟩)
theorem callWithC_T0 {M : Model} {T : String} (h : wpC M A (call (.type T) (first ++ [])) Q nE s) : wpC M A (callWith pos (.type T) first (backTo pos (starEach [] env)) []) Q nE s :=
  callWithC (P := fun _ => True) rfl (fun _ _ => ⟨.machine, .inr (.inl rfl), Looks.of_pure rfl⟩) (evalArgs_nil3 ⟨trivial, h⟩)
/-- what is owed behind the maker of a class: its __init__ -/
def MadeNext (M : Model) (A : Around) (C : Addr) (rest : List Value) (kw : List (Str × Value)) (Q : Value → Shared → Prop) (obj : Value) (s₂ : Shared) : Prop :=
  ∃ init, Looks M s₂.heap (isInstance obj (.ref C)) true ∧ Looks M s₂.heap (specialOf obj "__init__") (some init) ∧ Looks M s₂.heap (bindSpecial init obj) (init, [obj]) ∧
    wpC M A (call init (obj :: rest) kw) (fun v s₃ => v = .none ∧ Q obj s₃) nE s₂
/-- a class of ours is called; the body of its maker and of its __init__ in clean contexts -/
theorem callC_cls {C : Addr} {rest : List Value} {kw : List (Str × Value)} {r : Option String} {oc : Value} {od : Option Addr} {cd : ClassData} {sl : Array (Option Value)}
    (hC : s.heap.get? C = some ⟨oc, od, .cls cd, sl⟩) (ne : cd.mro.isEmpty = false) (hcall : Looks (model prog w) s.heap (specialOf (.ref C) "__call__") (some (.builtin "type.__call__")))
    (htyp : Looks (model prog w) s.heap (isInstance (.ref C) (.type "type")) true) (made : Looks (model prog w) s.heap (Bind.madeBy (.ref C)) r)
    (h : wpAny (model prog w) (A.under (.builtin "type.__call__" ⟨.ref C :: rest, kw⟩)) (match r with | some id => pure (.builtin id) | none => getAttr (.ref C) "__new__") (fun newV s₁ => wpC (model prog w) (A.under (.builtin "type.__call__" ⟨.ref C :: rest, kw⟩)) (call newV (.ref C :: rest) kw) (MadeNext (model prog w) (A.under (.builtin "type.__call__" ⟨.ref C :: rest, kw⟩)) C rest kw Q) nE s₁) nE s) :
    wpC (model prog w) A (call (.ref C) rest kw) Q nE s := by
  refine wpC_call (codeC_treeA rfl ?_)
  show wpAny _ A.in1 (callAny (.ref C) _) _ _ _
  obtain ⟨hp, g, d, t, os⟩ := s
  refine nd_load hC ?_
  show wpAny _ _ (callAny.viaDunder (.ref C) _) _ _ _
  unfold callAny.viaDunder
  refine wpAny_bind (hcall.at ?_)
  dsimp only
  rw [tc_bind]
  refine wpAny_bind (wpAny_pure (wpAny_bind (wpAny_pure ?_)))
  refine wpAny_pure (a := Fin.again (.call (.builtin "type.__call__") ⟨.ref C :: rest, kw⟩)) (And.intro rfl ?_)
  refine codeC_treeA rfl ?_
  show wpAny _ A.in1 (do checkBuiltinCall "type.__call__" ⟨.ref C :: rest, kw⟩; again (.builtin "type.__call__" ⟨.ref C :: rest, kw⟩)) _ _ _
  refine wpAny_bind (check_slot tc_kind tc_split htyp (tc_args _ _ _) (wpAny_pure (And.intro (Code.quiet_builtin _ (by decide +kernel)) (codeC_builtin (by show (!heldIds.contains "type.__call__") = true; decide +kernel) F.entry_type_call ?_))))
  unfold Builtin.«type.__call__»
  dsimp only
  rw [if_neg (by exact Bool.false_ne_true)]
  have hm : Looks (model prog w) hp (mroOf (.ref C)) cd.mro := ((Looks.ld (part := none) hC).andThen .now).andThen .now
  refine wpC_bindA (hm.at ?_)
  rw [if_neg (by rw [ne]; exact Bool.false_ne_true)]
  refine wpC_bindA (made.at ?_)
  have tail : ∀ newV s₁, wpC (model prog w) (A.under (.builtin "type.__call__" ⟨.ref C :: rest, kw⟩)) (call newV (.ref C :: rest) kw) (MadeNext (model prog w) (A.under (.builtin "type.__call__" ⟨.ref C :: rest, kw⟩)) C rest kw Q) nE s₁ → wpC (model prog w) (A.under (.builtin "type.__call__" ⟨.ref C :: rest, kw⟩)) (do
      let obj ← holding [newV] (call newV (.ref C :: rest) kw)
      if !(← isInstance obj (.ref C)) then
        rule "type.call.new-gave-other-type"
        return ← ret obj
      match ← holding [obj] (callSpecial? obj "__init__" rest kw) with
      | none => ret obj
      | some r =>
        if r != .none then
          rule "type.call.init-returned-value"
          raiseError "TypeError" s!"__init__() should return None, not '{← typeNameOf r}'"
        ret obj) (fun fin s' => match fin with | .done f => (match (Except.ok f : Result) with | .ok (.ret v) => Q v s' | .ok _ => False | .error e => nE e s') | .again c' => c'.quiet = true ∧ codeC (model prog w) A c' (fun r s' => match r with | .ok (.ret v) => Q v s' | .ok _ => False | .error e => nE e s') s') (fun e s' => match (Except.error e : Result) with | .ok (.ret v) => Q v s' | .ok _ => False | .error e => nE e s') s₁ := by
    intro newV s₁ h
    refine wpC_bind (wpC_holding (wpC_mono h (fun obj s₂ h₂ => ?_) fun _ _ x => x))
    obtain ⟨init, i1, i2, i3, i4⟩ := h₂
    refine wpC_bindA (i1.here ?_)
    rw [if_neg (by exact Bool.false_ne_true)]
    refine wpC_bind (wpC_holding ?_)
    unfold callSpecial?
    refine wpC_bindA (i2.here ?_)
    dsimp only
    refine wpC_holding (wpC_bindA (i3.here ?_))
    dsimp only
    refine wpC_bind (wpC_mono i4 (fun v s₃ h₃ => ?_) fun _ _ x => x)
    obtain ⟨rfl, hq⟩ := h₃
    refine wpC_pure ?_
    dsimp only
    rw [if_neg (by exact Bool.false_ne_true)]
    exact wpC_pure hq
  cases r with
  | some id =>
    dsimp only at h ⊢
    refine wpC_bindA (wpAny_mono h (fun newV s₁ h₁ => ?_) fun _ _ x => x)
    exact tail _ _ h₁
  | none =>
    dsimp only at h ⊢
    refine wpC_bindA (wpAny_mono h (fun newV s₁ h₁ => ?_) fun _ _ x => x)
    exact tail _ _ h₁
end
end Mine
end
section
open PySem PySem.W PyProof.Rows PySem.Calls
open PySem.Sem (wp)
set_option maxRecDepth 100000
namespace Mine
/-- says which name takes the rest -/
def BM (_ : Str) : Prop := True
theorem bm (x : Str) : BM x := trivial
section
variable {M : Model} {A : Around} {E : Value → Shared → Prop} {s : Shared}
theorem dict_is_dict : isSubtype (.type "dict") (.type "dict") = pure true := by rw [isSubtype_type]; kernel_rfl
theorem mergeMapping_nil {d a : Addr} {n : Nat} {Q : Unit → Shared → Prop} (hd : s.heap.get? d = some { cls := .type "dict", data := .dict #[] }) (ha : s.heap.get? a = some (dictOf [] n)) (hm : (a == sysModules) = false) (h : Q () s) : wpAny M A (mergeMapping d (.ref a) true) Q E s := by
  have hT : s.TypeIs (.ref a) "dict" := ⟨_, ha, rfl⟩
  unfold mergeMapping
  refine wpAny_bind (wpAny_isInstance hT dict_is_dict ?_)
  dsimp only
  rw [if_pos rfl]
  refine wpAny_bind (wpAny_specialOf hT F.slot_dict_iter.lookup ?_)
  refine wpAny_bind (wpAny_pure ?_)
  have e : ((some (Value.builtin "dict.__iter__") : Option Value) == some (Value.builtin "dict.__iter__")) = true := by decide +kernel
  rw [e]
  dsimp only
  rw [hm]
  rw [if_neg (by exact Bool.false_ne_true)]
  refine wpAny_bind (wpAny_dictEntries hd rfl ?_)
  rw [if_pos (by rfl)]
  refine wpAny_bind (wpAny_dictEntries ha rfl ?_)
  refine wpAny_bind (wpAny_pure ?_)
  refine wpAny_bind (wpAny_dictEntries ha rfl ?_)
  refine wpAny_bind (wpAny_dictEpoch ha rfl ?_)
  exact wpAny_bind (wpAny_pure (wpAny_pure h))
theorem evalArgs_more0 {f : Value} {x : Sem Value} {a : Addr} {n : Nat} {Q : Args → Shared → Prop} (ha : s.heap.get? a = some (dictOf [] n)) (hm : (a == sysModules) = false)
    (hx : ∀ s', (∀ b o, s.heap.get? b = some o → s'.heap.get? b = some o) → ∀ Q', Q' (Value.ref a) s' → wpAny M A x Q' E s')
    (h : Q ⟨[], []⟩ { s with heap := s.heap.push { cls := .type "dict", data := .dict #[] } }) : wpAny M A (evalArgs f true [] [(none, x)]) Q E s := by
  unfold evalArgs
  refine wpAny_bind (wpAny_pure ?_)
  refine wpAny_bind (wpAny_pure ?_)
  dsimp only
  refine wpAny_holding ?_
  show wpAny M A (if ([(none, x)] : List (Option Str × Sem Value)).all (·.1.isSome) then _ else _) _ _ _
  rw [if_neg (by simp)]
  refine wpAny_bind ?_
  unfold mergedKeywords
  refine wpAny_bind (wpAny_alloc ?_)
  refine wpAny_bind (wpAny_holding ?_)
  dsimp only
  refine wpAny_bind ?_
  rw [List.forIn_cons]
  refine wpAny_bind ?_
  dsimp only
  refine wpAny_bind ?_
  rw [if_pos (by rfl)]
  refine wpAny_pure ?_
  have k1 : ∀ b o, s.heap.get? b = some o → (s.heap.push { cls := .type "dict", data := .dict #[] }).get? b = some o := fun b o e => Heap.get?_push_of_some _ e
  have hd1 : (s.heap.push { cls := .type "dict", data := .dict #[] }).get? s.heap.objs.size = some { cls := .type "dict", data := .dict #[] } := Heap.get?_push_size _ rfl
  refine wpAny_bind (hx _ k1 _ ?_)
  refine wpAny_bind (wpAny_onRaise (wpAny_holding (wpAny_tryCatch (wpAny_onRaise (mergeMapping_nil hd1 (k1 _ _ ha) hm ?_)))))
  refine wpAny_pure ?_
  dsimp only
  rw [List.forIn_nil]
  refine wpAny_pure ?_
  rw [if_pos (by rfl)]
  refine wpAny_pure ?_
  refine wpAny_pure ?_
  refine wpAny_bind (wpAny_pure ?_)
  refine wpAny_bind (wpAny_holding ?_)
  unfold keywordsIn
  refine wpAny_bind (wpAny_dictEntries hd1 rfl ?_)
  refine wpAny_bind ?_
  rw [← Array.forIn_toList]
  exact wpAny_pure (wpAny_pure (wpAny_pure h))
end
section
variable {prog : Program} {w : World} {A₀ A : Around} {s : Shared} {K : Frag} {base h₀ : Heap} {outer : List Env} {L : Addr} {m mg mb : Str → Option Value} {env : Env} {news : List (Addr × Obj)} {p : Program} {loose : List Str} {mean : ExcName → Option Value}
  {R : Result → Shared → Prop} {name qual : Str} {params : Arguments} {body : List Stmt} {scope : Scope} {dV kV doc pm cdv ct oc : Value} {an od : Option Addr} {osl : Array (Option Value)} {f : Addr} {args : Args}
/-- **more takes nothing: an empty dict is made for it -/
theorem callC_more2 {nm : Str} {front : List (Str × Value)} {g₁ : Addr → Sem (List (Str × Value))} (_h1 : BL front) (_h2 : BM nm) (B : Below A₀ base outer h₀) (F : Fr h₀ L s.heap m) (X₀ : K.In h₀) (N : News h₀ L s.heap news) (T : Top p loose mean mg mb h₀) (hA : A.frames = some (env :: outer)) (hf : env.frame = some L) (hke : env.scope.kind = .function)
    (ho : K.lookup f = some ⟨oc, od, .func (fnOf name qual params body scope dV kV doc pm an cdv ct), osl⟩) (hcd : codeIn K cdv qual = true) (hroom : A.depth < recursionLimit)
    (hp : peekA K ⟨prog, w.params⟩ (bindArgs (fnOf name qual params body scope dV kV doc pm an cdv ct) args) = some (dictOf [] 0, g₁))
    (hk₁ : ∀ D, g₁ D = pure (front ++ [(nm, Value.ref D)]))
    (hloc : ∀ D, ∀ y ∈ front ++ [(nm, Value.ref D)], scope.names.lookup y.1 = some .local)
    (h : ∀ D g L' h₁ tk, (∀ q ∈ news, q.1 < D) → (D == sysModules) = false → Fr h₀ L g m → Fr g L' h₁ (fun y => (front ++ [(nm, Value.ref D)]).reverse.lookup y) → News g L' h₁ ((D, dictOf [] 0) :: news) → Below A base (env :: outer) g → K.In g → Top p loose mean mg mb g → (∀ q ∈ (D, dictOf [] 0) :: news, q.1 < L') →
      wpC (model prog w) (A.deeper (envOf qual scope L' f cdv)) (execs body (envOf qual scope L' f cdv))
        (fun fl s' => LeaveK h₀ L m g R (match fl with | .ret v => v | _ => .none) s') nE { s with heap := h₁, toks := tk })
    (hcell : ∀ x ∈ scope.names, x.2 ≠ .cell) (hco : scope.isCoroutine = false) (hgen : scope.isGenerator = false) (hk : scope.kind = .function) : codeC (model prog w) A (.call (.ref f) args) R s := by
  refine codeC_call_function (fd := fnOf name qual params body scope dV kV doc pm an cdv ct) (body := body) hroom ((X₀.keeps F.keep) _ _ ho) rfl hco hgen rfl (codeRec_of (X₀.keeps F.keep) hcd) ?_
  refine wp_of_peekA (o := dictOf [] 0) F N (X₀.keeps F.keep) rfl _ g₁ hp fun h' F' N' l => ?_
  rw [hk₁]
  exact wpAny_pure (frameC (s := { s with heap := h' }) B F' N' X₀ T hA hf hke (hloc _) (fun g L' h₁ tk a b c d e i j => h _ g L' h₁ tk l (F.notModules (modules_low T.nolimit)) a b c d e i j) hcell hk)
/-- a class of ours called with an empty ** -/
theorem callWithC_more {pos : Pos} {a : Addr} {n : Nat} {C : Value} {x : Sem Value} {Q : Value → Shared → Prop} (F : Fr h₀ L s.heap m) (N : News h₀ L s.heap news) (ha : (a, dictOf [] n) ∈ news) (hm : (a == sysModules) = false)
    (hk : ∀ h, (∀ b o, s.heap.get? b = some o → h.get? b = some o) → Looks (model prog w) h (keeperOf C) Keeper.machine)
    (hx : ∀ s', (∀ b o, s.heap.get? b = some o → s'.heap.get? b = some o) → ∀ Q', Q' (Value.ref a) s' → wpAny (model prog w) A x Q' nE s')
    (h : ∀ h', Fr h₀ L h' m → News h₀ L h' news → wpC (model prog w) A (call C [] []) Q nE { s with heap := h' }) : wpC (model prog w) A (callWith pos C [] [] [(none, x)]) Q nE s := by
  have k1 : ∀ b o, s.heap.get? b = some o → (s.heap.push { cls := .type "dict", data := .dict #[] }).get? b = some o := fun b o e => Heap.get?_push_of_some _ e
  refine callWithC_star (P := fun h => ∀ b o, s.heap.get? b = some o → h.get? b = some o) rfl hk (evalArgs_more0 (N.get ha) hm hx ⟨k1, h _ (F.push _) (N.grown k1)⟩)
end
end Mine
end
section
open PySem PySem.W PyProof.Rows PySem.Calls PySem.Builtin
open PySem.Sem (wp)
set_option maxRecDepth 100000
namespace Mine
open PySem.MeetsSeq PySem.SeqAt
/-- at the first place that differs -/
def firstDiff (e lt : Nat → Bool) : Nat → Nat → Bool → Bool
  | 0, _, fin => fin
  | k + 1, i, fin => if e i then firstDiff e lt k (i + 1) fin else lt i
def LtAt (A : Around) (s : Shared) (y x : Value) (b : Bool) : Prop :=
  ∀ (prog : Program) (w : World) (E : Value → Shared → Prop) (Q : Value → Shared → Prop), Q (.bool b) s → wpAny (model prog w) A (richCompare .Lt y x) Q E s
theorem LtAt.int {A : Around} {s : Shared} (a b : Int) (t u : Tok) : LtAt A s (.int a t) (.int b u) (decide (a < b)) := fun _ _ _ _ h => (lt_int h : wpAny _ A (compareOp .Lt _ _) _ _ s)
theorem plain_lt_loop : plainId "list.__eq__.loop" = true := by decide +kernel
theorem entry_lt_loop : entryFor table "list.__eq__.loop" = some Builtin.«list.__eq__.loop» := entryFor_of_fast (by kernel_rfl)
theorem lt_loopAt (l b : Addr) (items items2 : Array Value) (n n2 : Nat) (dd dd2 : Option Addr) (sl sl2 : Array (Option Value)) (hsz : items.size = items2.size) (e lt : Nat → Bool) (k : Nat) :
    ∀ i : Nat, i + k = items.size → Meets (Builtin.«list.__eq__.loop» ⟨[.ref l, .ref b, rawInt i, rawInt 0], []⟩)
      (fun A R s => s.heap.get? l = some { cls := .type "list", dict := dd, data := .seq items n, slots := sl } ∧ s.heap.get? b = some { cls := .type "list", dict := dd2, data := .seq items2 n2, slots := sl2 } ∧
        (∀ j (h1 : j < items.size) (h2 : j < items2.size), EqAt A.in1 s items[j] items2[j] (e j)) ∧ (∀ j (h1 : j < items.size) (h2 : j < items2.size), LtAt A.in1 s items[j] items2[j] (lt j)) ∧
        R (.ok (.ret (.bool (firstDiff e lt k i false)))) s) := by
  induction k with
  | zero =>
    intro i hk prog w A R s h
    obtain ⟨hp, g, d, tk, os⟩ := s; obtain ⟨hl, hb, he, hlt, h⟩ := h
    wp_walk using wpAny_loadPart' hl, wpAny_loadPart' hb
    have hi1 : items[((i : Nat) : Int).toNat]? = none := by simp; omega
    have hi2 : items2[((i : Nat) : Int).toNat]? = none := by simp; omega
    rw [hi1, hi2]
    wp_walk using wpAny_loadPart' hl, wpAny_loadPart' hb
    show R (.ok (.ret (.bool (decide (items.size < items2.size))))) _
    rw [hsz]
    simpa [firstDiff] using h
  | succ k ih =>
    intro i hk prog w A R s h
    obtain ⟨hp, g, d, tk, os⟩ := s; obtain ⟨hl, hb, he, hlt, h⟩ := h
    wp_walk using wpAny_loadPart' hl, wpAny_loadPart' hb
    have hlt1 : i < items.size := by omega
    have hlt2 : i < items2.size := by omega
    have hi1 : items[((i : Nat) : Int).toNat]? = some items[i] := by simp [hlt1]
    have hi2 : items2[((i : Nat) : Int).toNat]? = some items2[i] := by simp [hlt2]
    have hc : ((i : Int) + 1) = ((i + 1 : Nat) : Int) := by push_cast; rfl
    rw [firstDiff] at h
    rw [hi1, hi2]
    refine wpAny_bind (he i hlt1 hlt2 prog w _ _ ?_)
    cases hb' : e i with
    | true =>
      rw [hb'] at h
      wp_walk
      rw [hc]
      exact ⟨plainId_quiet plain_lt_loop _, codeAny_builtin entry_lt_loop (by
        rw [Around.under_plainId plain_lt_loop _]
        exact ih (i + 1) (by omega) prog w A R _ ⟨hl, hb, he, hlt, by simpa using h⟩)⟩
    | false =>
      rw [hb'] at h
      wp_walk using wpAny_loadPart' hl, wpAny_loadPart' hb
      rw [hi1, hi2]
      refine wpAny_bind (hlt i hlt1 hlt2 prog w _ _ ?_)
      wp_walk
      simpa using h
open PySem.AutoSeq1 (wpAny_loadPart')
theorem list_ltAt (l b : Addr) (items items2 : Array Value) (n n2 : Nat) (dd dd2 : Option Addr) (sl sl2 : Array (Option Value)) (hsz : items.size = items2.size) (e lt : Nat → Bool) :
    Meets (Builtin.«list.__lt__» ⟨[.ref l, .ref b], []⟩)
      (fun A R s => s.heap.get? l = some { cls := .type "list", dict := dd, data := .seq items n, slots := sl } ∧ s.heap.get? b = some { cls := .type "list", dict := dd2, data := .seq items2 n2, slots := sl2 } ∧
        (∀ j (h1 : j < items.size) (h2 : j < items2.size), EqAt A.in1 s items[j] items2[j] (e j)) ∧ (∀ j (h1 : j < items.size) (h2 : j < items2.size), LtAt A.in1 s items[j] items2[j] (lt j)) ∧
        R (.ok (.ret (.bool (firstDiff e lt items.size 0 false)))) s) := by
  intro prog w A R s h
  obtain ⟨hp, g, d, tk, os⟩ := s; obtain ⟨hl, hb, he, hlt, h⟩ := h
  have f3 := AutoSeq1.sub_list_list
  wp_walk using wpAny_loadPart' hl, wpAny_loadPart' hb
  exact ⟨plainId_quiet plain_lt_loop _, codeAny_builtin entry_lt_loop (by
    rw [Around.under_plainId plain_lt_loop _]
    exact lt_loopAt l b items items2 n n2 dd dd2 sl sl2 hsz e lt items.size 0 (Nat.zero_add _) prog w A R _ ⟨hl, hb, he, hlt, by simpa using h⟩)⟩
theorem tuple_ltAt (l b : Addr) (items items2 : Array Value) (n n2 : Nat) (dd dd2 : Option Addr) (sl sl2 : Array (Option Value)) (hsz : items.size = items2.size) (e lt : Nat → Bool) :
    Meets (Builtin.«tuple.__lt__» ⟨[.ref l, .ref b], []⟩)
      (fun A R s => s.heap.get? l = some { cls := .type "tuple", dict := dd, data := .seq items n, slots := sl } ∧ s.heap.get? b = some { cls := .type "tuple", dict := dd2, data := .seq items2 n2, slots := sl2 } ∧
        (∀ j (h1 : j < items.size) (h2 : j < items2.size), EqAt A.in1 s items[j] items2[j] (e j)) ∧ (∀ j (h1 : j < items.size) (h2 : j < items2.size), LtAt A.in1 s items[j] items2[j] (lt j)) ∧
        R (.ok (.ret (.bool (firstDiff e lt items.size 0 false)))) s) :=
  .of_wp fun prog w A R s h => by
    obtain ⟨hp, g, d, tk, os⟩ := s; obtain ⟨hl, hb, he, hlt, h⟩ := h
    have f2 := AutoSeq1.sub_tuple_tuple
    have hZ : (items.toList.zip items2.toList).length = items.size := by simp [hsz]
    wp_walk using wpAny_loadPart' hl, wpAny_loadPart' hb, wpAny_forIn_list _ (fun rest b s' => b.1 = none ∧ s' = ⟨hp, g, d, tk, os⟩ ∧ ∃ i k, rest = (items.toList.zip items2.toList).drop i ∧ i + k = items.size ∧
      R (.ok (.ret (.bool (firstDiff e lt k i false)))) ⟨hp, g, d, tk, os⟩) _
    case turn =>
      rintro ⟨y, x⟩ rest b s' ⟨hb', rfl, i, k, hz, hik, hR⟩
      have hlt0 : i < (items.toList.zip items2.toList).length := by
        rcases Nat.lt_or_ge i (items.toList.zip items2.toList).length with h' | h'
        · exact h'
        · rw [List.drop_of_length_le h'] at hz; cases hz
      have h1 : i < items.size := hZ ▸ hlt0
      have h2 : i < items2.size := hsz ▸ h1
      rw [List.drop_eq_getElem_cons hlt0] at hz
      injection hz with hyx hrest
      have hy : y = items[i] := by have := congrArg Prod.fst hyx; simpa using this
      have hx : x = items2[i] := by have := congrArg Prod.snd hyx; simpa using this
      subst hy hx
      obtain ⟨k', rfl⟩ : ∃ k', k = k' + 1 := ⟨k - 1, by omega⟩
      rw [firstDiff] at hR
      refine wpAny_bind (he i h1 h2 prog w _ _ ?_)
      cases hy : e i with
      | true =>
        rw [hy] at hR
        wp_walk
        exact ⟨rfl, rfl, i + 1, k', hrest, by omega, by simpa using hR⟩
      | false =>
        rw [hy] at hR
        rw [if_pos (by rfl)]
        dsimp only
        refine wpAny_bind (wpAny_rule (wpAny_bind (hlt i h1 h2 prog w _ _ ?_)))
        wp_walk
        exact ⟨_, rfl, by simpa using hR⟩
    case fin =>
      rintro ⟨b1, b2⟩ s' ⟨hb', rfl, i, k, hz, hik, hR⟩
      simp only at hb'
      subst hb'
      have hge : items.size ≤ i := by
        rcases Nat.lt_or_ge i (items.toList.zip items2.toList).length with h' | h'
        · rw [List.drop_eq_getElem_cons h'] at hz; cases hz
        · exact hZ ▸ h'
      obtain rfl : k = 0 := by omega
      wp_walk
      exact ⟨_, rfl, by simpa [Builtin.Tuple.tupleCompareSizes, firstDiff, hsz] using hR⟩
    case h =>
      exact ⟨rfl, rfl, 0, items.size, rfl, by omega, h⟩
section
variable {A : Around} {s : Shared}
theorem LtAt.lists {l b : Addr} {items items2 : Array Value} {e lt : Nat → Bool} (hl : s.heap.IsList l items) (hb : s.heap.IsList b items2) (hsz : items.size = items2.size) (hu : A.units < cLine)
    (he : ∀ j (h1 : j < items.size) (h2 : j < items2.size), EqAt A.in1 s items[j] items2[j] (e j)) (hlt : ∀ j (h1 : j < items.size) (h2 : j < items2.size), LtAt A.in1 s items[j] items2[j] (lt j)) : LtAt A s (.ref l) (.ref b) (firstDiff e lt items.size 0 false) := fun prog w E Q h => by
  obtain ⟨⟨cls, dd, data, sl⟩, ho, hc, n, hd⟩ := id hl
  obtain ⟨⟨cls2, dd2, data2, sl2⟩, ho2, hc2, n2, hd2⟩ := id hb
  simp only at hc hd hc2 hd2
  subst hc hd hc2 hd2
  exact richCompare_meets_room (op := .Lt) ⟨_, ho, rfl⟩ ⟨_, ho2, rfl⟩ F.slot_list_lt F.entry_list_lt (F.args_list_lt_2 _ _) (list_ltAt l b items items2 n n2 dd dd2 sl sl2 hsz e lt)
    ⟨ho, ho2, he, hlt, show Value.bool (firstDiff e lt items.size 0 false) ≠ Value.notImplemented ∧ Q (.bool (firstDiff e lt items.size 0 false)) s from ⟨(fun x => nomatch x), h⟩⟩ hu
theorem LtAt.tuples {l b : Addr} {items items2 : Array Value} {e lt : Nat → Bool} (hl : s.heap.IsTuple l items) (hb : s.heap.IsTuple b items2) (hsz : items.size = items2.size) (hu : A.units < cLine)
    (he : ∀ j (h1 : j < items.size) (h2 : j < items2.size), EqAt A.in1 s items[j] items2[j] (e j)) (hlt : ∀ j (h1 : j < items.size) (h2 : j < items2.size), LtAt A.in1 s items[j] items2[j] (lt j)) : LtAt A s (.ref l) (.ref b) (firstDiff e lt items.size 0 false) := fun prog w E Q h => by
  obtain ⟨⟨cls, dd, data, sl⟩, ho, hc, n, hd⟩ := id hl
  obtain ⟨⟨cls2, dd2, data2, sl2⟩, ho2, hc2, n2, hd2⟩ := id hb
  simp only at hc hd hc2 hd2
  subst hc hd hc2 hd2
  exact richCompare_meets_room (op := .Lt) ⟨_, ho, rfl⟩ ⟨_, ho2, rfl⟩ F.slot_tuple_lt F.entry_tuple_lt (F.args_tuple_lt_2 _ _) (tuple_ltAt l b items items2 n n2 dd dd2 sl sl2 hsz e lt)
    ⟨ho, ho2, he, hlt, show Value.bool (firstDiff e lt items.size 0 false) ≠ Value.notImplemented ∧ Q (.bool (firstDiff e lt items.size 0 false)) s from ⟨(fun x => nomatch x), h⟩⟩ hu
end
section
variable {prog : Program} {w : World} {A : Around} {E : Value → Shared → Prop} {s : Shared} {h₀ : Heap} {L D : Addr} {news : List (Addr × Obj)}
def isTrueV : Value → Bool
  | .bool b => b
  | _ => false
/-- the place of the first True among four -/
theorem index_4b {b1 b2 b3 : Bool} {n : Nat} {Q : Value → Shared → Prop} (N : News h₀ L s.heap news) (hm : (D, listOf #[.bool b1, .bool b2, .bool b3, .bool true] n) ∈ news)
    (h : Q (.int (if b1 then 0 else if b2 then 1 else if b3 then 2 else 3) s.toks) { s with toks := s.toks + 1 }) : wpAny (model prog w) A (call (.builtin "list.index") [.ref D, .bool true]) Q E s := by
  have he : ∀ (A' : Around) y, y ∈ (#[.bool b1, .bool b2, .bool b3, .bool true] : Array Value) → EqAt A' s y (.bool true) (isTrueV y) := by
    intro A' y hy
    have hb : ∃ b, y = .bool b := by
      simp only [List.mem_toArray, List.mem_cons, List.not_mem_nil, or_false] at hy
      rcases hy with rfl | rfl | rfl | rfl <;> exact ⟨_, rfl⟩
    obtain ⟨b, rfl⟩ := hb
    have z := EqAt.bool_bool (A := A') (s := s) b true
    have e : (b == true) = isTrueV (.bool b) := by cases b <;> rfl
    exact e ▸ z
  have go : ∀ (j : Nat) (hj : j < 4) , isTrueV (#[.bool b1, .bool b2, .bool b3, .bool true] : Array Value)[j] = true → (∀ m (hm : m < 4), m < j → isTrueV (#[.bool b1, .bool b2, .bool b3, .bool true] : Array Value)[m] = false) → Q (.int j s.toks) { s with toks := s.toks + 1 } →
      wpAny (model prog w) A (call (.builtin "list.index") [.ref D, .bool true]) Q E s := fun j hj a c q =>
    call_meets PySem.F.slot_list_index ⟨_, (N _ hm).1, rfl⟩ PySem.F.entry_list_index (PySem.F.args_list_index_2 _ _) (list_indexAt D #[.bool b1, .bool b2, .bool b3, .bool true] n none #[] (.bool true) isTrueV j hj (by omega) a c) ⟨(N _ hm).1, he _, q⟩
  cases b1
  · cases b2
    · cases b3
      · exact go 3 (by decide) rfl (fun m hm hlt => by match m, hlt with | 0, _ => rfl | 1, _ => rfl | 2, _ => rfl) h
      · exact go 2 (by decide) rfl (fun m hm hlt => by match m, hlt with | 0, _ => rfl | 1, _ => rfl) h
    · exact go 1 (by decide) rfl (fun m hm hlt => by match m, hlt with | 0, _ => rfl) h
  · exact go 0 (by decide) rfl (fun m hm hlt => absurd hlt (Nat.not_lt_zero _)) h
end
end Mine
end
section
open PySem PySem.W PyProof.Rows PySem.Calls
open PySem.Sem (wp)
set_option maxRecDepth 100000
namespace Mine
abbrev bufO (P : Params) (t1 t2 : Tok) (ba : Addr) (v : Value) : Obj :=
  dictOf [⟨PyData.keyHash P (Str.ofString "_BytesIO__buf"), .str (Str.ofString "_BytesIO__buf") t1, .ref ba⟩, ⟨PyData.keyHash P (Str.ofString "_BytesIO__pos"), .str (Str.ofString "_BytesIO__pos") t2, v⟩] 2
/-! rules that the write of a BytesIO wants -/
section
variable {M : Model} {A : Around} {s : Shared} {env : Env}
theorem wpC_AssignSub {o i value : Expr} {pos' pos : Pos} {Q : Flow → Shared → Prop}
    (h : wpAny M A (eval value env) (fun v s₁ => wpAny M A (eval o env) (fun ov s₂ => wpAny M A (eval i env) (fun iv s₃ => wpC M A (setItem ov iv v) (fun _ => Q .next) nE s₃) nE s₂) nE s₁) nE s)
    (hs : swapsWith value (some (.Subscript o i pos')) pos.line env = pure false := by rfl) : wpC M A (exec (.Assign [.Subscript o i pos'] value pos) env) Q nE s := fun Γ p hΓ hc => by
  simp only [exec_Assign_Subscript o i pos' value pos hs, assign_Subscript, Sem.wp_bind', Sem.wp_holding, Sem.wp_cmd_standAt, Sem.wp_release, Sem.wp_pure']
  exact Sem.wp_mono M Γ _ (fun v p₁ s₁ h₁ => Sem.wp_mono M Γ _ (fun ov p₂ s₂ h₂ => Sem.wp_mono M Γ _ (fun iv _ s₃ h₃ => h₃ Γ _ hΓ hc)
    (fun _ _ _ h' => h') _ _ (h₂ Γ p₂ hΓ)) (fun _ _ _ h' => h') _ _ (h₁ Γ p₁ hΓ)) (fun _ _ _ h' => h') _ _ (h Γ _ hΓ)
end
section
variable {prog : Program} {w : World} {A : Around} {s : Shared} {g : Heap} {L : Addr} {m : Str → Option Value}
theorem setItem_N {x dx ba : Addr} {o1 o2 : Obj} {bs b : Array UInt8} {t ti tj : Tok} {rest : List (Addr × Obj)} {Q : Unit → Shared → Prop} (F : Fr g L s.heap m) (N : News g L s.heap ((x, o1) :: (dx, o2) :: (ba, baO bs) :: rest))
    (d2 : x ≠ ba) (d3 : dx ≠ ba) (hr2 : ∀ q ∈ rest, q.1 ≠ ba) (hz : bs.size + b.size ≤ sizeLine)
    (h : ∀ h', Fr g L h' m → News g L h' ((x, o1) :: (dx, o2) :: (ba, baO (bs ++ b)) :: rest) → Q () { s with heap := h' }) :
    wpC (model prog w) A (setItem (.ref ba) (.ref s.heap.objs.size) (.bytes b t)) Q nE { s with heap := s.heap.push { cls := .type "slice", data := .fields #[.int bs.size ti, .int ((bs.size : Int) + b.size) tj, .none] } } := by
  have hb : s.heap.get? ba = some (baO bs) := N.get (.tail _ (.tail _ (.head _)))
  refine setItem_ba (s := { s with heap := s.heap.push { cls := .type "slice", data := .fields #[.int bs.size ti, .int ((bs.size : Int) + b.size) tj, .none] } }) (Heap.get?_push_of_some _ hb) (Heap.IsSliceOf.new _ _ _ _) hz fun h1 h' hk hs hg => ?_
  have hk1 : ∀ b o, s.heap.get? b = some o → h1.get? b = some o := fun b o e => hk b o (Heap.get?_push_of_some _ e)
  have F1 := F.keeps hk1
  have N1 := N.grown hk1
  refine h h' (F1.update N1 (.tail _ (.tail _ (.head _))) hs) ?_
  exact News.setAt (own := [(x, o1), (dx, o2)]) N1 (fun p hp => by
    rcases List.mem_cons.mp hp with rfl | hp
    · exact d2
    · rcases List.mem_cons.mp hp with rfl | hp
      · exact d3
      · cases hp) hr2 hs hg
end
section
variable {prog : Program} {w : World} {A : Around} {s : Shared} {g : Heap} {L : Addr} {m : Str → Option Value} {news : List (Addr × Obj)}
theorem call_baN {Q : Value → Shared → Prop} (F : Fr g L s.heap m) (N : News g L s.heap news)
    (h : ∀ ba h', Fr g L h' m → News g L h' ((ba, baO #[]) :: news) → (∀ q ∈ news, q.1 < ba) → Q (.ref ba) { s with heap := h' }) :
    wpC (model prog w) A (call (.type "bytearray") []) Q nE s := by
  refine call_ba0 fun h' hk hg => h _ h' (F.keeps hk) (fun q hq => ?_) fun q hq => Heap.lt_size (N q hq).1
  rcases List.mem_cons.mp hq with rfl | hq
  · exact ⟨hg, Nat.ne_of_gt F.ns.lt, F.fresh⟩
  · exact N.grown hk q hq
end
def clsOk (K : Frag) (C : Addr) : Bool := match K.lookup C with
  | some ⟨_, _, .cls cd, _⟩ => !cd.mro.isEmpty && (!cd.abstract && !cd.hasDel)
  | _ => false
theorem cls_of {K : Frag} {h : Heap} {C : Addr} (X : K.In h) (e : clsOk K C = true) : ∃ oc od cd sl, h.get? C = some ⟨oc, od, .cls cd, sl⟩ ∧ cd.mro.isEmpty = false ∧ cd.abstract = false ∧ cd.hasDel = false := by
  unfold clsOk at e
  split at e
  · rename_i oc od cd sl ho
    simp only [Bool.and_eq_true, Bool.not_eq_true'] at e
    exact ⟨oc, od, cd, sl, X _ _ ho, e⟩
  · cases e
section
variable {prog : Program} {w : World} {A : Around} {E : Value → Shared → Prop} {s : Shared} {g : Heap} {L : Addr} {m : Str → Option Value} {news : List (Addr × Obj)}
/-- object.__new__ of a class of ours that has a maker of its own -/
theorem new_U {C : Addr} {Q : Value → Shared → Prop} {oc : Value} {od : Option Addr} {cd : ClassData} {sl : Array (Option Value)} (F : Fr g L s.heap m) (N : News g L s.heap news) (hC : s.heap.get? C = some ⟨oc, od, .cls cd, sl⟩)
    (e1 : cd.abstract = false) (e2 : cd.hasDel = false) {Bs : Value} (base : Looks (model prog w) s.heap (Bind.staticBase (.ref C)) Bs) (made : Looks (model prog w) s.heap (Bind.madeBy Bs) (some "object.__new__")) (self : Looks (model prog w) s.heap (isSubtype (.ref C) (.ref C)) true)
    (top : Looks (model prog w) s.heap (isSubtype (.ref C) (.type "object")) true) (typ : Looks (model prog w) s.heap (isInstance (.ref C) (.type "type")) true)
    (h : ∀ x dx h', Fr g L h' m → News g L h' ((x, instObj C dx) :: (dx, dictOf [] 0) :: news) → (∀ q ∈ news, q.1 < dx) → dx < x → Q (.ref x) { s with heap := h' }) :
    wpAny (model prog w) A (call (.builtin "object.__new__") [.ref C]) Q E s := by
  obtain ⟨hp, gs, d, t, os⟩ := s
  have FN := PySem.F.objNew
  refine wpAny_call (codeAny_call_builtin_code (Code.quiet_builtin _ FN.quiet) ?_)
  simp only [checkBuiltinCall, FN.kind, FN.split, FN.row]
  have args : Bind.checkArgs "object.__new__" ⟨.hand, "object.__new__", "__new__", .cls, []⟩ ⟨[.ref C], []⟩ = pure () := by kernel_rfl
  have here : Looks (model prog w) hp (Bind.madeHere "object.__new__" (.ref C)) () := base.andThen (made.andThen (Looks.of_pure (by simp only [Option.map_some, bne_self_eq_false, Bool.false_eq_true, if_false])))
  rw [args]
  repeat (first | simp only [bne_self_eq_false, Bool.false_eq_true, if_false] | lk)
  refine codeAny_builtin FN.entry ?_
  unfold Builtin.«object.__new__»
  repeat (first | simp only [e1, Bool.false_eq_true, if_false] | lk)
  refine nd_load (Heap.get?_push_of_some _ (Heap.get?_push_of_some _ hC)) (wpAny_pure ?_)
  have N' := (N.push F { cls := .type "dict", data := .dict #[] }).push (F.push _) (instObj C hp.objs.size)
  rw [Heap.size_push] at N'
  have z := h _ hp.objs.size _ ((F.push _).push _) N' (fun p hp => Heap.lt_size (N p hp).1) (Nat.lt_succ_self _)
  repeat (first | simp only [e2, Bool.false_eq_true, if_false] | lk)
  rw [Heap.size_push]
  exact z
end
theorem units_make (A : Around) (C : Addr) (rest : List Value) (kw : List (Str × Value)) : (A.under (.builtin "type.__call__" ⟨.ref C :: rest, kw⟩)).units = A.units + 1 := rfl
theorem news_r1 {g h : Heap} {L : Addr} {t a b c : Addr × Obj} {r : List (Addr × Obj)} (N : News g L h (t :: a :: b :: c :: r)) : News g L h (a :: b :: c :: t :: r) := fun q hq => N q (by
  simp only [List.mem_cons] at hq ⊢
  rcases hq with h | h | h | h | h <;> simp [h])
theorem news_r2 {g h : Heap} {L : Addr} {t u a b c : Addr × Obj} {r : List (Addr × Obj)} (N : News g L h (t :: u :: a :: b :: c :: r)) : News g L h (a :: b :: c :: t :: u :: r) := fun q hq => N q (by
  simp only [List.mem_cons] at hq ⊢
  rcases hq with h | h | h | h | h | h <;> simp [h])
theorem news_r3 {g h : Heap} {L : Addr} {t u v a b c : Addr × Obj} {r : List (Addr × Obj)} (N : News g L h (t :: u :: v :: a :: b :: c :: r)) : News g L h (a :: b :: c :: t :: u :: v :: r) := fun q hq => N q (by
  simp only [List.mem_cons] at hq ⊢
  rcases hq with h | h | h | h | h | h | h <;> simp [h])
theorem beInt_length (k : Nat) (i : Int) : (beInt k i).length = k := by simp [beInt]
/-- the octets of a whole number -/
def encInt (i : Int) : List UInt8 :=
  if 0 ≤ i then (if i < 128 then beInt 1 i else if i ≤ 255 then 204 :: beInt 1 i else if i ≤ 65535 then 205 :: beInt 2 i else if i ≤ 4294967295 then 206 :: beInt 4 i else 207 :: beInt 8 i)
  else if -32 ≤ i then beInt 1 i else if -128 ≤ i then 208 :: beInt 1 i else if -32768 ≤ i then 209 :: beInt 2 i else if -2147483648 ≤ i then 210 :: beInt 4 i else 211 :: beInt 8 i
theorem encInt_length (i : Int) : (encInt i).length ≤ 9 := by
  unfold encInt
  repeat (first | split | (simp only [List.length_cons, beInt_length]; omega))
theorem encInt_0 {i : Int} (h1 : 0 ≤ i) (h2 : i ≤ 127) : encInt i = beInt 1 i := by
  unfold encInt
  repeat (first | rw [if_pos (by omega)] | rw [if_neg (by omega)])
theorem encInt_1 {i : Int} (h1 : -32 ≤ i) (h2 : i ≤ -1) : encInt i = beInt 1 i := by
  unfold encInt
  repeat (first | rw [if_pos (by omega)] | rw [if_neg (by omega)])
theorem encInt_2 {i : Int} (h1 : 128 ≤ i) (h2 : i ≤ 255) : encInt i = 204 :: beInt 1 i := by
  unfold encInt
  repeat (first | rw [if_pos (by omega)] | rw [if_neg (by omega)])
theorem encInt_3 {i : Int} (h1 : -128 ≤ i) (h2 : i ≤ -33) : encInt i = 208 :: beInt 1 i := by
  unfold encInt
  repeat (first | rw [if_pos (by omega)] | rw [if_neg (by omega)])
theorem encInt_4 {i : Int} (h1 : 256 ≤ i) (h2 : i ≤ 65535) : encInt i = 205 :: beInt 2 i := by
  unfold encInt
  repeat (first | rw [if_pos (by omega)] | rw [if_neg (by omega)])
theorem encInt_5 {i : Int} (h1 : -32768 ≤ i) (h2 : i ≤ -129) : encInt i = 209 :: beInt 2 i := by
  unfold encInt
  repeat (first | rw [if_pos (by omega)] | rw [if_neg (by omega)])
theorem encInt_6 {i : Int} (h1 : 65536 ≤ i) (h2 : i ≤ 4294967295) : encInt i = 206 :: beInt 4 i := by
  unfold encInt
  repeat (first | rw [if_pos (by omega)] | rw [if_neg (by omega)])
theorem encInt_7 {i : Int} (h1 : -2147483648 ≤ i) (h2 : i ≤ -32769) : encInt i = 210 :: beInt 4 i := by
  unfold encInt
  repeat (first | rw [if_pos (by omega)] | rw [if_neg (by omega)])
theorem encInt_8 {i : Int} (h1 : 4294967296 ≤ i) (h2 : i ≤ 18446744073709551615) : encInt i = 207 :: beInt 8 i := by
  unfold encInt
  repeat (first | rw [if_pos (by omega)] | rw [if_neg (by omega)])
theorem encInt_9 {i : Int} (h1 : -9223372036854775808 ≤ i) (h2 : i ≤ -2147483649) : encInt i = 211 :: beInt 8 i := by
  unfold encInt
  repeat (first | rw [if_pos (by omega)] | rw [if_neg (by omega)])
theorem news_drop2 {g h : Heap} {L : Addr} {t u a b c : Addr × Obj} {r : List (Addr × Obj)} (N : News g L h (a :: b :: c :: t :: u :: r)) : News g L h (a :: b :: c :: r) := fun q hq => N q (by
  simp only [List.mem_cons] at hq ⊢
  rcases hq with h | h | h | h <;> simp [h])
theorem pk_end {g h : Heap} {L : Addr} {x dx ba : Addr} {P : Params} {t1 t2 t' : Tok} {bs : Array UInt8} {l l' : List UInt8} {u v : Addr × Obj} {r : List (Addr × Obj)} (e : l' = l)
    (N : News g L h ((x, instObj 519 dx) :: (dx, bufO P t1 t2 ba (.int ((bs ++ l.toArray).size : Int) t')) :: (ba, baO (bs ++ l.toArray)) :: u :: v :: r)) :
    News g L h ((x, instObj 519 dx) :: (dx, bufO P t1 t2 ba (.int ((bs ++ l'.toArray).size : Int) t')) :: (ba, baO (bs ++ l'.toArray)) :: r) := by
  subst e
  exact news_drop2 N
end Mine
end
section
open PySem PySem.W PyProof.Rows PySem.Calls
open PySem.Sem (wp)
set_option maxRecDepth 100000
namespace Mine
section
variable {prog : Program} {w : World} {A : Around} {s : Shared} {env : Env} {R : Result → Shared → Prop}
/-- a loop's turns, counted -/
theorem forC_ind {target : Expr} {it : Value} {body : List Stmt} {P : Nat → Shared → Prop} {n : Nat} (h0 : P 0 s)
    (turn : ∀ k s, k < n → P k s → wpAny (model prog w) A (pyNext it) (fun o s₁ => ∃ v, o = some v ∧ wpAny (model prog w) A (letOwnedTupleGo target it v) (fun _ s₂ => wpAny (model prog w) A (assign target env v)
      (fun _ s₃ => wpC (model prog w) A (execs body env) (fun f s₄ => match f with | .next | .cont => P (k + 1) s₄ | .brk => R (.ok .next) s₄ | .ret v => R (.ok (.ret v)) s₄) nE s₃) nE s₂) nE s₁) nE s)
    (stop : ∀ s, P n s → wpAny (model prog w) A (pyNext it) (fun o s₁ => o = none ∧ R (.ok .next) s₁) nE s) : codeC (model prog w) A (.forLoop target it body [] env) R s := by
  have key : ∀ j k s, n - k = j → k ≤ n → P k s → codeC (model prog w) A (.forLoop target it body [] env) R s := by
    intro j
    induction j with
    | zero =>
      intro k s hj hk hP
      have : k = n := by omega
      subst this
      refine codeC_for (wpAny_mono (stop s hP) (fun o s₁ h₁ => ?_) fun _ _ x => x)
      obtain ⟨rfl, h₁⟩ := h₁
      exact h₁
    | succ j ih =>
      intro k s hj hk hP
      refine codeC_for (wpAny_mono (turn k s (by omega) hP) (fun o s₁ h₁ => ?_) fun _ _ x => x)
      obtain ⟨v, rfl, h₁⟩ := h₁
      refine wpAny_mono h₁ (fun _ s₂ h₂ => wpAny_mono h₂ (fun _ s₃ h₃ => wpC_mono h₃ (fun f s₄ h₄ => ?_) fun _ _ x => x) fun _ _ x => x) fun _ _ x => x
      cases f with
      | next => exact ih (k + 1) s₄ (by omega) (by omega) h₄
      | cont => exact ih (k + 1) s₄ (by omega) (by omega) h₄
      | brk => exact h₄
      | ret v => exact h₄
  exact key n 0 s (by omega) (Nat.zero_le _) h0
end
theorem news_r4 {g h : Heap} {L : Addr} {t u v w a b c : Addr × Obj} {r : List (Addr × Obj)} (N : News g L h (t :: u :: v :: w :: a :: b :: c :: r)) : News g L h (a :: b :: c :: t :: u :: v :: w :: r) := fun q hq => N q (by
  simp only [List.mem_cons] at hq ⊢
  rcases hq with h | h | h | h | h | h | h | h <;> simp [h])
theorem news_r5 {g h : Heap} {L : Addr} {t u v w y a b c : Addr × Obj} {r : List (Addr × Obj)} (N : News g L h (t :: u :: v :: w :: y :: a :: b :: c :: r)) : News g L h (a :: b :: c :: t :: u :: v :: w :: y :: r) := fun q hq => N q (by
  simp only [List.mem_cons] at hq ⊢
  rcases hq with h | h | h | h | h | h | h | h | h <;> simp [h])
theorem news_r6 {g h : Heap} {L : Addr} {t u v w y z a b c : Addr × Obj} {r : List (Addr × Obj)} (N : News g L h (t :: u :: v :: w :: y :: z :: a :: b :: c :: r)) : News g L h (a :: b :: c :: t :: u :: v :: w :: y :: z :: r) := fun q hq => N q (by
  simp only [List.mem_cons] at hq ⊢
  rcases hq with h | h | h | h | h | h | h | h | h | h <;> simp [h])
abbrev rIt (x left : Int) : Obj := { cls := .type "range_iterator", dict := none, data := .fields #[rawInt x, rawInt left, rawInt 1], slots := #[] }
/-- the end of a turn -/
def TurnEnd (P : Shared → Prop) (f : Flow) (s : Shared) : Prop := f = .next ∧ P s
section
variable {prog : Program} {w : World} {A : Around} {s : Shared} {env : Env} {R : Result → Shared → Prop}
theorem forC_turns {nm : Str} {px : Pos} {body : List Stmt} {g : Heap} {L I : Addr} {m0 : Str → Option Value} {n : Nat} {w0 : List (Addr × Obj)} {W : Nat → List (Addr × Obj) → Prop}
    (hh : A.handled = none) (hx : env.kindOf nm = some .local) (hp : (env.scope.kind == .class || (env.scope.kind == .module && env.locals != env.globals)) = false) (hL : env.locals = L)
    (hlet : ∀ v, letOwnedTupleGo (.Name nm px) (.ref I) v = pure ()) (F : Fr g L s.heap m0) (N : News g L s.heap ((I, rIt 0 n) :: w0)) (hW : W 0 w0) (hap : ∀ k w, W k w → ∀ q ∈ w, q.1 ≠ I)
    (turn : ∀ k tk w₁ s₁, k < n → W k w₁ → Fr g L s₁.heap (fun y => if y = nm then some (.int (k : Int) tk) else m0 y) → News g L s₁.heap ((I, rIt ((k : Int) + 1) ((n : Int) - k - 1)) :: w₁) → (∃ h t, s₁ = { s with heap := h, toks := t }) →
      wpC (model prog w) A (execs body env) (TurnEnd fun s₄ => ∃ h t vi w', s₄ = { s₁ with heap := h, toks := t } ∧ W (k + 1) w' ∧ Fr g L h (fun y => if y = nm then vi else m0 y) ∧ News g L h ((I, rIt ((k : Int) + 1) ((n : Int) - k - 1)) :: w')) nE s₁)
    (fin : ∀ h t vi w', W n w' → Fr g L h (fun y => if y = nm then vi else m0 y) → News g L h w' → R (.ok .next) { s with heap := h, toks := t }) :
    codeC (model prog w) A (.forLoop (.Name nm px) (.ref I) body [] env) R s := by
  refine forC_ind (n := n) (P := fun k s₁ => ∃ h t vi w', s₁ = { s with heap := h, toks := t } ∧ W k w' ∧ Fr g L h (fun y => if y = nm then vi else m0 y) ∧ News g L h ((I, rIt (k : Int) ((n : Int) - k)) :: w')) ?_ ?_ ?_
  · refine ⟨s.heap, s.toks, m0 nm, w0, rfl, hW, ?_, by simpa using N⟩
    have e : (fun y => if y = nm then m0 nm else m0 y) = m0 := by
      funext y
      by_cases h : y = nm
      · rw [if_pos h, h]
      · rw [if_neg h]
    rw [e]
    exact F
  · rintro k s₁ hk ⟨h, t, vi, w', rfl, hw, F1, N1⟩
    have hit : IsRangeIter h I (k : Int) ((n : Int) - k) 1 := (N1 _ (.head _)).1
    have hIL : I ≠ L := (N1 _ (.head _)).2.1
    refine wpAny_pyNext_range_item hit (by omega) fun h₁ hit₁ hs₁ => ⟨_, rfl, ?_⟩
    have F2 := F1.update N1 (.head _) hs₁
    have N2 : News g L h₁ ((I, rIt ((k : Int) + 1) ((n : Int) - k - 1)) :: w') := News.setHead N1 (hap _ _ hw) hs₁ hit₁
    refine wpAny_of_eq (hlet _) ?_
    subst hL
    refine wpAny_assign_Name (wpAny_storeName_local hx F2.ns (fun h₂ hn₂ hs₂ => ?_) hp)
    have F3 := F2.set hn₂ hs₂
    have N3 := N2.set hs₂
    have e : (fun y => if y = nm then some (Value.int (k : Int) t) else if y = nm then vi else m0 y) = (fun y => if y = nm then some (Value.int (k : Int) t) else m0 y) := by
      funext y
      by_cases h : y = nm
      · rw [if_pos h, if_pos h]
      · rw [if_neg h, if_neg h, if_neg h]
    rw [e] at F3
    refine wpC_mono (turn k t w' _ hk hw F3 N3 ⟨_, _, rfl⟩) (fun f s₄ h₄ => ?_) fun _ _ x => x
    obtain ⟨rfl, h4, t4, vi4, w4, rfl, hw4, F4, N4⟩ := h₄
    have e1 : ((k + 1 : Nat) : Int) = (k : Int) + 1 := by omega
    have e2 : (n : Int) - ((k + 1 : Nat) : Int) = (n : Int) - k - 1 := by omega
    refine ⟨h4, t4, vi4, w4, rfl, hw4, F4, ?_⟩
    rw [e1, show (n : Int) - ((k : Int) + 1) = (n : Int) - k - 1 by omega]
    exact N4
  · rintro s₁ ⟨h, t, vi, w', rfl, hw, F1, N1⟩
    have hit : IsRangeIter h I (n : Int) ((n : Int) - n) 1 := (N1 _ (.head _)).1
    refine wpAny_pyNext_range_end hh hit (by omega) fun h₁ he₁ => ⟨rfl, ?_⟩
    have hIL : I ≠ L := (N1 _ (.head _)).2.1
    refine fin h₁ t vi w' hw ⟨F1.ns.extBut he₁ (Ne.symm hIL), fun b o e => he₁ b o ?_ (F1.keep b o e), F1.above⟩ fun q hq => ⟨he₁ _ _ (hap _ _ hw q hq) (N1 q (.tail _ hq)).1, (N1 q (.tail _ hq)).2⟩
    intro hb
    subst hb
    rw [(N1 _ (.head _)).2.2] at e
    cases e
end
theorem small_n : ∀ {n : Nat}, n ≤ 15 → Builtin.Range.small 0 (n : Int) 1 = true
  | 0, _ | 1, _ | 2, _ | 3, _ | 4, _ | 5, _ | 6, _ | 7, _ | 8, _ | 9, _ | 10, _ | 11, _ | 12, _ | 13, _ | 14, _ | 15, _ => by decide +kernel
  | _ + 16, h => absurd h (by omega)
theorem size_n : ∀ {n : Nat}, n ≤ 15 → Builtin.Range.rangeSize 0 (n : Int) 1 = n
  | 0, _ | 1, _ | 2, _ | 3, _ | 4, _ | 5, _ | 6, _ | 7, _ | 8, _ | 9, _ | 10, _ | 11, _ | 12, _ | 13, _ | 14, _ | 15, _ => by decide +kernel
  | _ + 16, h => absurd h (by omega)
section
variable {prog : Program} {w : World} {A : Around} {s : Shared} {env : Env} {R : Result → Shared → Prop}
theorem forC_packs {nm : Str} {px : Pos} {body : List Stmt} {g : Heap} {L x dx ba I : Addr} {m0 : Str → Option Value} {n : Nat} {tl : List (Addr × Obj)} {o1 o : Obj} {P : Params} {t1 t2 tp : Tok} {b0 : Array UInt8} {h0 : Heap} (bf : Nat → Array UInt8)
    (hs0 : s.heap = h0.push o) (ho : o = rIt 0 n) (hI : I = h0.objs.size)
    (hh : A.handled = none) (hx : env.kindOf nm = some .local) (hp : (env.scope.kind == .class || (env.scope.kind == .module && env.locals != env.globals)) = false) (hL : env.locals = L)
    (hlet : ∀ v, letOwnedTupleGo (.Name nm px) (.ref I) v = pure ()) (F : Fr g L h0 m0) (N : News g L h0 ((x, o1) :: (dx, bufO P t1 t2 ba (.int b0.size tp)) :: (ba, baO b0) :: tl)) (hb0 : b0 = bf 0)
    (turn : ∀ (I : Addr) k tk t1 t2 tp s₁, k < n → Fr g L s₁.heap (fun y => if y = nm then some (.int (k : Int) tk) else m0 y) → News g L s₁.heap ((I, rIt ((k : Int) + 1) ((n : Int) - k - 1)) :: (x, o1) :: (dx, bufO P t1 t2 ba (.int (bf k).size tp)) :: (ba, baO (bf k)) :: tl) →
      @LT.lt Nat _ x I → @LT.lt Nat _ dx I → @LT.lt Nat _ ba I → (∀ q ∈ tl, @LT.lt Nat _ q.1 I) → (∃ h t, s₁ = { s with heap := h, toks := t }) →
      wpC (model prog w) A (execs body env) (TurnEnd fun s₄ => ∃ h t t1 t2 tp vi, s₄ = { s₁ with heap := h, toks := t } ∧ Fr g L h (fun y => if y = nm then vi else m0 y) ∧ News g L h ((x, o1) :: (dx, bufO P t1 t2 ba (.int (bf (k + 1)).size tp)) :: (ba, baO (bf (k + 1))) :: (I, rIt ((k : Int) + 1) ((n : Int) - k - 1)) :: tl)) nE s₁)
    (fin : ∀ h t t1 t2 tp vi, Fr g L h (fun y => if y = nm then vi else m0 y) → News g L h ((x, o1) :: (dx, bufO P t1 t2 ba (.int (bf n).size tp)) :: (ba, baO (bf n)) :: tl) → R (.ok .next) { s with heap := h, toks := t }) :
    codeC (model prog w) A (.forLoop (.Name nm px) (.ref I) body [] env) R s := by
  subst hb0 ho hI
  have lx : @LT.lt Nat _ x h0.objs.size := Heap.lt_size (N _ (.head _)).1
  have ldx : @LT.lt Nat _ dx h0.objs.size := Heap.lt_size (N _ (.tail _ (.head _))).1
  have lba : @LT.lt Nat _ ba h0.objs.size := Heap.lt_size (N _ (.tail _ (.tail _ (.head _)))).1
  have ltl : ∀ q ∈ tl, @LT.lt Nat _ q.1 h0.objs.size := fun q hq => Heap.lt_size (N _ (.tail _ (.tail _ (.tail _ hq)))).1
  refine forC_turns (L := L) (W := fun k w' => ∃ t1 t2 tp, w' = (x, o1) :: (dx, bufO P t1 t2 ba (.int (bf k).size tp)) :: (ba, baO (bf k)) :: tl) hh hx hp hL hlet (by rw [hs0]; exact F.push _) (by rw [hs0]; exact N.push F _) ⟨t1, t2, tp, rfl⟩ ?_ ?_ ?_
  · rintro k w' ⟨t1, t2, tp, rfl⟩ q hq
    rcases List.mem_cons.mp hq with rfl | hq
    · exact Nat.ne_of_lt lx
    · rcases List.mem_cons.mp hq with rfl | hq
      · exact Nat.ne_of_lt ldx
      · rcases List.mem_cons.mp hq with rfl | hq
        · exact Nat.ne_of_lt lba
        · exact Nat.ne_of_lt (ltl q hq)
  · rintro k tk w₁ s₁ hk ⟨t1, t2, tp, rfl⟩ F1 N1 hs
    refine wpC_mono (turn h0.objs.size k tk t1 t2 tp s₁ hk F1 N1 lx ldx lba ltl hs) (fun f s₄ h₄ => ?_) fun _ _ x => x
    obtain ⟨rfl, h, t, t1', t2', tp', vi, rfl, F4, N4⟩ := h₄
    refine ⟨rfl, h, t, vi, _, rfl, ⟨t1', t2', tp', rfl⟩, F4, fun q hq => N4 q ?_⟩
    simp only [List.mem_cons] at hq ⊢
    rcases hq with h | h | h | h | h <;> simp [h]
  · rintro h t vi w' ⟨t1', t2', tp', rfl⟩ F4 N4
    exact fin h t t1' t2' tp' vi F4 N4
theorem item_listN {E : Value → Shared → Prop} {value slice : Expr} {g : Heap} {L l : Addr} {items : Array Value} {ln : Nat} {news : List (Addr × Obj)} {k : Int} {t : Tok} {x : Value} {Q : Value → Shared → Prop} (N : News g L s.heap news) (hm : (l, listOf items ln) ∈ news)
    (h0 : 0 ≤ k) (hfit : k < 2 ^ 63) (hx : items[k.toNat]? = some x) (h : Q x s)
    (hs : subscripted slice false (.ref l) (.int k t) = operate [.ref l, .int k t] (getItem (.ref l) (.int k t)) := by with_unfolding_all rfl)
    (ht : ∀ r, letTemporaryGo value (.ref l) r = pure () := by intro _; with_unfolding_all rfl) :
    wpAny (model prog w) A (subscriptTail value slice (.ref l) (.int k t)) Q E s :=
  have hl : s.heap.IsList l items := News.isList N hm
  tail_of_ItemOn ⟨"list", _, slot_list_getitem.lookup, hl.typeIs, wpAny_getItem_list hl h0 hfit hx h⟩ hs ht
end
theorem news_drop4 {g h : Heap} {L : Addr} {t u v w a b c : Addr × Obj} {r : List (Addr × Obj)} (N : News g L h (a :: b :: c :: t :: u :: v :: w :: r)) : News g L h (a :: b :: c :: r) := fun q hq => N q (by
  simp only [List.mem_cons] at hq ⊢
  rcases hq with h | h | h | h <;> simp [h])
theorem news_p1 {g h : Heap} {L : Addr} {i t u v w a b c d e : Addr × Obj} {r : List (Addr × Obj)} (N : News g L h (i :: a :: b :: c :: t :: u :: v :: w :: d :: e :: r)) : News g L h (a :: b :: c :: d :: e :: i :: t :: u :: v :: w :: r) := fun q hq => N q (by
  simp only [List.mem_cons] at hq ⊢
  rcases hq with h | h | h | h | h | h | h | h | h | h | h <;> simp [h])
theorem news_p2 {g h : Heap} {L : Addr} {i t u v w a b c d e : Addr × Obj} {r : List (Addr × Obj)} (N : News g L h (a :: b :: c :: d :: e :: i :: t :: u :: v :: w :: r)) : News g L h (a :: b :: c :: i :: t :: u :: v :: w :: d :: e :: r) := fun q hq => N q (by
  simp only [List.mem_cons] at hq ⊢
  rcases hq with h | h | h | h | h | h | h | h | h | h | h <;> simp [h])
theorem turn_end {g h : Heap} {L x dx ba : Addr} {o1 : Obj} {P : Params} {t1 t2 tp : Tok} {a b c : Array UInt8} {r : List (Addr × Obj)} (e : c = a ++ b)
    (N : News g L h ((x, o1) :: (dx, bufO P t1 t2 ba (.int ((a ++ b).size : Int) tp)) :: (ba, baO (a ++ b)) :: r)) : News g L h ((x, o1) :: (dx, bufO P t1 t2 ba (.int (c.size : Int) tp)) :: (ba, baO c) :: r) := by
  subst e
  exact N
theorem news_drop3 {g h : Heap} {L : Addr} {t u v a b c : Addr × Obj} {r : List (Addr × Obj)} (N : News g L h (a :: b :: c :: t :: u :: v :: r)) : News g L h (a :: b :: c :: r) := fun q hq => N q (by
  simp only [List.mem_cons] at hq ⊢
  rcases hq with h | h | h | h <;> simp [h])
theorem pow32 : (2 : Int) ^ Int.toNat 32 = 4294967296 := by decide +kernel
theorem no_big {n : Nat} (h : (2 : Int) ^ Int.toNat 32 ≤ (n : Int)) (hn : n ≤ 1000) : False := by
  rw [pow32] at h
  omega
/-- the end of a statement that drops its value -/
def ExprEnd (Q : Flow → Shared → Prop) (v : Value) (s : Shared) : Prop := (∀ a, v ≠ .ref a) ∧ Q .next s
theorem wpC_ExprE {M : Model} {A : Around} {s : Shared} {env : Env} {e : Expr} {pos : Pos} {Q : Flow → Shared → Prop} (h : wpC M A (eval e env) (ExprEnd Q) nE s)
    (hi : interactive env = false := by rfl) (hs : swapsWith e none pos.line env = pure false := by rfl) : wpC M A (exec (.Expr e pos) env) Q nE s :=
  wpC_Expr (wpC_mono h (fun v s' q => by
    obtain ⟨h1, h2⟩ := q
    cases v <;> first | exact h2 | exact (h1 _ rfl).elim) fun _ _ x => x) hi hs
end Mine
end
section
open PySem PySem.W PyProof.Rows PySem.Calls
open PySem.Sem (wp)
set_option maxRecDepth 100000
namespace Mine
/-- a def with cells is called by the claim's caller; its body in clean contexts -/
theorem callC_cellsN {prog : Program} {w : World} {A : Around} {R : Result → Shared → Prop} {s : Shared} {name qual : Str} {params : Arguments} {body : List Stmt} {scope : Scope} {K : Frag}
    {dV kV doc pm cdv ct oc : Value} {an od : Option Addr} {osl : Array (Option Value)} {f : Addr} {args : Args} {binds : List (Str × Value)}
    (_hbl : BL binds) (X : K.In s.heap) (hroom : A.depth < recursionLimit) (ho : K.lookup f = some ⟨oc, od, .func (fnOf name qual params body scope dV kV doc pm an cdv ct), osl⟩) (hlim : s.heap.NoLimit) (hcd : codeIn K cdv qual = true)
    (hbind : BindsTo s (fnOf name qual params body scope dV kV doc pm an cdv ct) args binds)
    (hkind : ∀ n, ∀ x ∈ binds, scope.names.lookup x.1 = some .local ∨ (scope.names.lookup x.1 = some .cell ∧ ((cellsFrom n scope.names []).lookup x.1).isSome = true))
    (hnd : ((cellsFrom 0 scope.names []).map (·.1)).Nodup)
    (h : ∀ L h₁ tk cells, Fr s.heap L h₁ (bindL (envOfC qual scope L f cdv).kindOf binds fun _ => none) → News s.heap L h₁ cells →
      CellsAre (bindC (envOfC qual scope L f cdv).kindOf binds fun _ => none) (cellsFrom (L + 1) scope.names []) cells →
      wpC (model prog w) (A.deeper (envOfC qual scope L f cdv)) (execs body (envOfC qual scope L f cdv))
        (fun fl s' => R (.ok (.ret (match fl with | .ret v => v | _ => .none))) s') nE { s with heap := h₁, toks := tk })
    (hco : scope.isCoroutine = false) (hgen : scope.isGenerator = false) (hk : scope.kind = .function) : codeC (model prog w) A (.call (.ref f) args) R s := by
  refine codeC_call_function (fd := fnOf name qual params body scope dV kV doc pm an cdv ct) (body := body) hroom (X _ _ ho) rfl hco hgen rfl (codeRec_of X hcd) (hbind _ _ _ _ ?_)
  refine wpAny_newFunctionEnv_cells hk (hkind _) fun env' he s' x => ?_
  subst he
  refine ⟨hlim.keeps x.toInCall.keep, codeC_func ?_⟩
  obtain ⟨h₁, tk, rfl, _⟩ := x.done
  have hk₁ := x.toInCall.keep
  obtain ⟨cells, NC, Y⟩ := Cl.news (h₀ := s.heap) (Nat.le_refl _) fun n c hm => ⟨x.cell n c (lookup_of_mem_nodup (cellsFrom_names scope.names 0 (s.heap.objs.size + 1) [] [] rfl ▸ hnd) hm), x.above n c hm⟩
  exact h s.heap.objs.size h₁ tk cells ⟨x.toInCall.ns, hk₁, Nat.le_refl _⟩ NC Y
section
variable {prog : Program} {w : World} {A₀ A : Around} {s : Shared} {K : Frag} {base h₀ : Heap} {outer : List Env} {L : Addr} {m mg mb : Str → Option Value} {env : Env} {news : List (Addr × Obj)} {p : Program} {loose : List Str} {mean : ExcName → Option Value}
  {R : Result → Shared → Prop} {name qual : Str} {params : Arguments} {body : List Stmt} {scope : Scope} {dV kV doc pm cdv ct oc : Value} {an od : Option Addr} {osl : Array (Option Value)} {f : Addr} {args : Args} {binds : List (Str × Value)}
/-- a def that never raises is called, in any context -/
theorem callA_def (_hbl : BL binds) (B : Below A₀ base outer h₀) (F : Fr h₀ L s.heap m) (X₀ : K.In h₀) (N : News h₀ L s.heap news) (T : Top p loose mean mg mb h₀) (hA : A.frames = some (env :: outer)) (hf : env.frame = some L) (hke : env.scope.kind = .function)
    (ho : K.lookup f = some ⟨oc, od, .func (fnOf name qual params body scope dV kV doc pm an cdv ct), osl⟩) (hcd : codeIn K cdv qual = true) (hroom : A.depth < recursionLimit)
    (hbind : BindsTo s (fnOf name qual params body scope dV kV doc pm an cdv ct) args binds) (hloc : ∀ y ∈ binds, scope.names.lookup y.1 = some .local)
    (h : ∀ g L' h₁ tk, Fr h₀ L g m → Fr g L' h₁ (fun y => binds.reverse.lookup y) → News g L' h₁ news → Below A base (env :: outer) g → K.In g → Top p loose mean mg mb g → (∀ q ∈ news, q.1 < L') →
      wpAny (model prog w) (A.deeper (envOf qual scope L' f cdv)) (execs body (envOf qual scope L' f cdv))
        (fun fl s' => LeaveK h₀ L m g R (match fl with | .ret v => v | _ => .none) s') nE { s with heap := h₁, toks := tk })
    (hcell : ∀ x ∈ scope.names, x.2 ≠ .cell) (hco : scope.isCoroutine = false) (hgen : scope.isGenerator = false) (hk : scope.kind = .function) : codeAny (model prog w) A (.call (.ref f) args) R s := by
  refine codeAny_call_function (fd := fnOf name qual params body scope dV kV doc pm an cdv ct) (body := body) hroom ((X₀.keeps F.keep) _ _ ho) rfl hco hgen rfl (codeRec_of (X₀.keeps F.keep) hcd) (hbind _ _ _ _ ?_)
  obtain ⟨FG, BG, st, lv⟩ := groundX (R := R) B F N hA hf hke
  refine wpAny_newFunctionEnv hcell hloc (fun h₁ hns hsb => ⟨(T.nolimit.keeps F.keep).fresh _ hsb, codeAny_func ?_⟩) hk
  have hk₁ : ∀ b o, s.heap.get? b = some o → h₁.get? b = some o := fun b o e => hsb.extBut b o (Nat.ne_of_lt (Heap.lt_size e)) (Heap.get?_push_of_some _ e)
  show wpAny (model prog w) (A.deeper (envOf qual scope s.heap.objs.size f cdv)) (execs body (envOf qual scope s.heap.objs.size f cdv)) _ _ _
  exact wpAny_mono (h _ s.heap.objs.size h₁ _ FG ⟨hns, fun b o e => hk₁ b o (of_hideAll _ e), Nat.le_of_eq (hideAll_size _ _)⟩
    (fun q hq => ⟨hk₁ _ _ (N q hq).1, Nat.ne_of_lt (Heap.lt_size (N q hq).1), hideAll_none _ (List.mem_map_of_mem hq)⟩) BG (X₀.keeps st) (T.keeps st) (fun q hq => Heap.lt_size (N q hq).1)) (fun fl s' hl => lv _ _ hl) fun _ _ y => y.elim
end
end Mine
end
section
open PySem PySem.W PyProof.Rows PySem.Calls
open PySem.Sem (wp)
set_option maxRecDepth 100000
namespace Mine
section
variable {prog : Program} {w : World} {A : Around} {s : Shared} {env : Env} {R : Result → Shared → Prop}
/-- a range's loop over a name of the frame, by an invariant over frame and ledger -/
theorem forC_loc {nm : Str} {px : Pos} {body : List Stmt} {g : Heap} {L I : Addr} {m0 : Str → Option Value} {n : Nat} {w0 : List (Addr × Obj)} (Inv : Nat → (Str → Option Value) → List (Addr × Obj) → Prop)
    (hh : A.handled = none) (hx : env.kindOf nm = some .local) (hp : (env.scope.kind == .class || (env.scope.kind == .module && env.locals != env.globals)) = false) (hL : env.locals = L)
    (hlet : ∀ v, letOwnedTupleGo (.Name nm px) (.ref I) v = pure ()) (F : Fr g L s.heap m0) (N : News g L s.heap ((I, rIt 0 n) :: w0)) (hI : Inv 0 m0 w0) (hap : ∀ k m w, Inv k m w → ∀ q ∈ w, q.1 ≠ I)
    (turn : ∀ k tk m w₁ s₁, k < n → Inv k m w₁ → Fr g L s₁.heap (fun y => if y = nm then some (.int (k : Int) tk) else m y) → News g L s₁.heap ((I, rIt ((k : Int) + 1) ((n : Int) - k - 1)) :: w₁) → (∃ h t, s₁ = { s with heap := h, toks := t }) →
      wpC (model prog w) A (execs body env) (TurnEnd fun s₄ => ∃ h t m' w', s₄ = { s₁ with heap := h, toks := t } ∧ Inv (k + 1) m' w' ∧ Fr g L h m' ∧ News g L h ((I, rIt ((k : Int) + 1) ((n : Int) - k - 1)) :: w')) nE s₁)
    (fin : ∀ h t m w', Inv n m w' → Fr g L h m → News g L h w' → R (.ok .next) { s with heap := h, toks := t }) :
    codeC (model prog w) A (.forLoop (.Name nm px) (.ref I) body [] env) R s := by
  refine forC_ind (n := n) (P := fun k s₁ => ∃ h t m w', s₁ = { s with heap := h, toks := t } ∧ Inv k m w' ∧ Fr g L h m ∧ News g L h ((I, rIt (k : Int) ((n : Int) - k)) :: w')) ?_ ?_ ?_
  · exact ⟨s.heap, s.toks, m0, w0, rfl, hI, F, by simpa using N⟩
  · rintro k s₁ hk ⟨h, t, m, w', rfl, hw, F1, N1⟩
    have hit : IsRangeIter h I (k : Int) ((n : Int) - k) 1 := (N1 _ (.head _)).1
    have hIL : I ≠ L := (N1 _ (.head _)).2.1
    refine wpAny_pyNext_range_item hit (by omega) fun h₁ hit₁ hs₁ => ⟨_, rfl, ?_⟩
    have F2 := F1.update N1 (.head _) hs₁
    have N2 : News g L h₁ ((I, rIt ((k : Int) + 1) ((n : Int) - k - 1)) :: w') := News.setHead N1 (hap _ _ _ hw) hs₁ hit₁
    refine wpAny_of_eq (hlet _) ?_
    subst hL
    refine wpAny_assign_Name (wpAny_storeName_local hx F2.ns (fun h₂ hn₂ hs₂ => ?_) hp)
    have F3 := F2.set hn₂ hs₂
    have N3 := N2.set hs₂
    refine wpC_mono (turn k t m w' _ hk hw F3 N3 ⟨_, _, rfl⟩) (fun f s₄ h₄ => ?_) fun _ _ x => x
    obtain ⟨rfl, h4, t4, m4, w4, rfl, hw4, F4, N4⟩ := h₄
    have e1 : ((k + 1 : Nat) : Int) = (k : Int) + 1 := by omega
    refine ⟨h4, t4, m4, w4, rfl, hw4, F4, ?_⟩
    rw [e1, show (n : Int) - ((k : Int) + 1) = (n : Int) - k - 1 by omega]
    exact N4
  · rintro s₁ ⟨h, t, m, w', rfl, hw, F1, N1⟩
    have hit : IsRangeIter h I (n : Int) ((n : Int) - n) 1 := (N1 _ (.head _)).1
    refine wpAny_pyNext_range_end hh hit (by omega) fun h₁ he₁ => ⟨rfl, ?_⟩
    have hIL : I ≠ L := (N1 _ (.head _)).2.1
    refine fin h₁ t m w' hw ⟨F1.ns.extBut he₁ (Ne.symm hIL), fun b o e => he₁ b o ?_ (F1.keep b o e), F1.above⟩ fun q hq => ⟨he₁ _ _ (hap _ _ _ hw q hq) (N1 q (.tail _ hq)).1, (N1 q (.tail _ hq)).2⟩
    intro hb
    subst hb
    rw [(N1 _ (.head _)).2.2] at e
    cases e
/-- a range's loop over a cell of the frame -/
theorem forC_cell {nm : Str} {px : Pos} {body : List Stmt} {g : Heap} {L I c : Addr} {m0 : Str → Option Value} {n : Nat} {o0 : Obj} {v0 : Option Value} {w0 : List (Addr × Obj)} (Inv : Nat → (Str → Option Value) → List (Addr × Obj) → Prop)
    (hh : A.handled = none) (hk : env.scope.kind = .function) (hx : env.kindOf nm = some .cell) (hc : env.cells.lookup nm = some c)
    (hlet : ∀ v, letOwnedTupleGo (.Name nm px) (.ref I) v = pure ()) (F : Fr g L s.heap m0) (N : News g L s.heap ((I, rIt 0 n) :: (c, o0) :: w0)) (hI : Inv 0 m0 w0) (ho0 : o0.data = .cell v0) (hcI : c ≠ I) (hap : ∀ k m w, Inv k m w → ∀ q ∈ w, q.1 ≠ I ∧ q.1 ≠ c)
    (turn : ∀ k tk m w₁ o s₁, k < n → Inv k m w₁ → o.data = .cell (some (.int (k : Int) tk)) → Fr g L s₁.heap m → News g L s₁.heap ((I, rIt ((k : Int) + 1) ((n : Int) - k - 1)) :: (c, o) :: w₁) → (∃ h t, s₁ = { s with heap := h, toks := t }) →
      wpC (model prog w) A (execs body env) (TurnEnd fun s₄ => ∃ h t m' w' o' v', s₄ = { s₁ with heap := h, toks := t } ∧ Inv (k + 1) m' w' ∧ o'.data = .cell v' ∧ Fr g L h m' ∧ News g L h ((I, rIt ((k : Int) + 1) ((n : Int) - k - 1)) :: (c, o') :: w')) nE s₁)
    (fin : ∀ h t m w' o v, Inv n m w' → o.data = .cell v → Fr g L h m → News g L h ((c, o) :: w') → R (.ok .next) { s with heap := h, toks := t }) :
    codeC (model prog w) A (.forLoop (.Name nm px) (.ref I) body [] env) R s := by
  refine forC_ind (n := n) (P := fun k s₁ => ∃ h t m w' o v, s₁ = { s with heap := h, toks := t } ∧ Inv k m w' ∧ o.data = .cell v ∧ Fr g L h m ∧ News g L h ((I, rIt (k : Int) ((n : Int) - k)) :: (c, o) :: w')) ?_ ?_ ?_
  · exact ⟨s.heap, s.toks, m0, w0, o0, v0, rfl, hI, ho0, F, by simpa using N⟩
  · rintro k s₁ hk' ⟨h, t, m, w', o, v, rfl, hw, ho, F1, N1⟩
    have hit : IsRangeIter h I (k : Int) ((n : Int) - k) 1 := (N1 _ (.head _)).1
    have hIL : I ≠ L := (N1 _ (.head _)).2.1
    refine wpAny_pyNext_range_item hit (by omega) fun h₁ hit₁ hs₁ => ⟨_, rfl, ?_⟩
    have F2 := F1.update N1 (.head _) hs₁
    have N2 : News g L h₁ ((I, rIt ((k : Int) + 1) ((n : Int) - k - 1)) :: (c, o) :: w') := News.setHead N1 (fun q hq => by
      rcases List.mem_cons.mp hq with rfl | hq
      · exact hcI
      · exact (hap _ _ _ hw q hq).1) hs₁ hit₁
    refine wpAny_of_eq (hlet _) ?_
    have hmem := N2 (c, o) (.tail _ (.head _))
    refine wpAny_assign_Name (wpAny_storeName_cell hk hx hc ⟨o, hmem.1, ho⟩ fun h₂ hv₂ hs₂ => ?_)
    obtain ⟨o', ho', hd'⟩ := hv₂
    have F3 := F2.update N2 (.tail _ (.head _)) hs₂
    have N3 : News g L h₂ ((I, rIt ((k : Int) + 1) ((n : Int) - k - 1)) :: (c, o') :: w') := News.setAt (own := [(I, _)]) N2 (fun q hq => by
      rcases List.mem_cons.mp hq with rfl | hq
      · exact Ne.symm hcI
      · cases hq) (fun q hq => (hap _ _ _ hw q hq).2) hs₂ ho'
    refine wpC_mono (turn k t m w' o' _ hk' hw hd' F3 N3 ⟨_, _, rfl⟩) (fun f s₄ h₄ => ?_) fun _ _ x => x
    obtain ⟨rfl, h4, t4, m4, w4, o4, v4, rfl, hw4, ho4, F4, N4⟩ := h₄
    have e1 : ((k + 1 : Nat) : Int) = (k : Int) + 1 := by omega
    refine ⟨h4, t4, m4, w4, o4, v4, rfl, hw4, ho4, F4, ?_⟩
    rw [e1, show (n : Int) - ((k : Int) + 1) = (n : Int) - k - 1 by omega]
    exact N4
  · rintro s₁ ⟨h, t, m, w', o, v, rfl, hw, ho, F1, N1⟩
    have hit : IsRangeIter h I (n : Int) ((n : Int) - n) 1 := (N1 _ (.head _)).1
    refine wpAny_pyNext_range_end hh hit (by omega) fun h₁ he₁ => ⟨rfl, ?_⟩
    have hIL : I ≠ L := (N1 _ (.head _)).2.1
    refine fin h₁ t m w' o v hw ho ⟨F1.ns.extBut he₁ (Ne.symm hIL), fun b o e => he₁ b o ?_ (F1.keep b o e), F1.above⟩ fun q hq => ⟨he₁ _ _ ?_ (N1 q (.tail _ hq)).1, (N1 q (.tail _ hq)).2⟩
    · intro hb
      subst hb
      rw [(N1 _ (.head _)).2.2] at e
      cases e
    · rcases List.mem_cons.mp hq with rfl | hq
      · exact hcI
      · exact (hap _ _ _ hw q hq).1
end
section
variable {prog : Program} {w : World} {A : Around} {s : Shared}
/-- an item of a list of whole numbers -/
theorem item_ints {E : Value → Shared → Prop} {value slice : Expr} {g : Heap} {L l : Addr} {vs : List Value} {ns : List Int} {ln : Nat} {news : List (Addr × Obj)} {k : Int} {t : Tok} {Q : Value → Shared → Prop} (N : News g L s.heap news) (hm : (l, listOf vs.toArray ln) ∈ news)
    (hi : IntsAre vs ns) (h0 : 0 ≤ k) (h1 : k < ns.length) (h2 : k < 1000) (h : ∀ u, Q (.int (ns.getD k.toNat 0) u) s)
    (hs : subscripted slice false (.ref l) (.int k t) = operate [.ref l, .int k t] (getItem (.ref l) (.int k t)) := by with_unfolding_all rfl)
    (ht : ∀ r, letTemporaryGo value (.ref l) r = pure () := by intro _; with_unfolding_all rfl) :
    wpAny (model prog w) A (subscriptTail value slice (.ref l) (.int k t)) Q E s := by
  have hlt : k.toNat < vs.length := by rw [hi.length]; omega
  obtain ⟨i, ti, e, hni⟩ := IntsAre.at hi k.toNat vs[k.toNat] (List.getElem?_eq_getElem hlt)
  have hx : vs.toArray[k.toNat]? = some (.int i ti) := by rw [List.getElem?_toArray, List.getElem?_eq_getElem hlt, e]
  have hg : ns.getD k.toNat 0 = i := by simp [List.getD, hni]
  exact item_listN N hm h0 (by omega) hx (by rw [← hg]; exact h ti) hs ht
end
end Mine
end
section
open PySem PySem.W PyProof.Rows PySem.Calls
set_option maxRecDepth 100000
namespace Mine
def fdBody : Stmt → List Stmt
  | .FunctionDef (body := b) .. => b
  | _ => []
def fdScope : Stmt → Scope
  | .FunctionDef (scope := s) .. => s
  | _ => default
def forBody : Stmt → List Stmt
  | .For (body := b) .. => b
  | _ => []
def lawStmt : Stmt := PySem.Challenge.pw_fg0013_01.main.body.getLastD (.Pass default)
def lawS : { b : List Stmt // fdBody lawStmt = b } := by
  refine ⟨?_, ?h⟩
  case h => exact (rfl : _ = [_, _, _, _, _, _, _, _])
def lawScS : { b : Scope // fdScope lawStmt = b } := by
  refine ⟨?_, ?h⟩
  case h => exact (rfl : _ = Scope.mk _ _ _ _ _)
def rowsS : { b : List Stmt // forBody (lawS.1.getD 3 (.Pass default)) = b } := by
  refine ⟨?_, ?h⟩
  case h => exact (rfl : _ = [_, _, _])
def thingsS : { b : List Stmt // forBody (lawS.1.getD 5 (.Pass default)) = b } := by
  refine ⟨?_, ?h⟩
  case h => exact (rfl : _ = [_, _])
def oneS : { b : List Stmt // forBody (lawS.1.getD 6 (.Pass default)) = b } := by
  refine ⟨?_, ?h⟩
  case h => exact (rfl : _ = [_])
def otherS : { b : List Stmt // forBody (oneS.1.getD 0 (.Pass default)) = b } := by
  refine ⟨?_, ?h⟩
  case h => exact (rfl : _ = [_, _, _, _, _])
def kindS : { b : List Stmt // forBody (otherS.1.getD 4 (.Pass default)) = b } := by
  refine ⟨?_, ?h⟩
  case h => exact (rfl : _ = [_, _, _])
abbrev lawE (L : Addr) : Env := envOfC (Str.ofString "law") lawScS.1 L 909 (.ref 908)
def RowOk (sz : Nat) (ns : List Int) : Prop := ns.length = sz ∧ ∀ i ∈ ns, -9223372036854775808 ≤ i ∧ i ≤ 18446744073709551615
def RowsIn (sz : Nat) (rs : List Value) (w : List (Addr × Obj)) : Prop := ∀ v ∈ rs, ∃ r vs ln ns, v = .ref r ∧ (r, listOf vs.toArray ln) ∈ w ∧ IntsAre vs ns ∧ RowOk sz ns
end Mine
end
section
open PySem PySem.W PyProof.Rows
/- Tuples and code objects that no step looks into need no quick twin: without them the head's proof is a third as large.
   A twin is not made where its name is taken already; the rows below take those names (each says Mine.cz, a letter; nothing else reads them). -/
namespace Mine
def cz : Str := Str.ofString "z"
theorem cz_self : cz = cz := rfl
end Mine
name_quick tw2504501939568898240 for Mine.cz by Mine.cz_self
name_quick tw10015664371746657536 for Mine.cz by Mine.cz_self
name_quick tw2651664433501786496 for Mine.cz by Mine.cz_self
name_quick tw13251161224904053152 for Mine.cz by Mine.cz_self
name_quick tw5832503352825792928 for Mine.cz by Mine.cz_self
name_quick tw4817316660788777376 for Mine.cz by Mine.cz_self
name_quick tw3783086151370532256 for Mine.cz by Mine.cz_self
name_quick tw5881240552750758400 for Mine.cz by Mine.cz_self
name_quick tw5976474108018559520 for Mine.cz by Mine.cz_self
name_quick tw15376083050721069600 for Mine.cz by Mine.cz_self
name_quick tw12825359941727978080 for Mine.cz by Mine.cz_self
name_quick tw4110589180456253056 for Mine.cz by Mine.cz_self
name_quick tw16328912562034613984 for Mine.cz by Mine.cz_self
name_quick tw16770459766345991936 for Mine.cz by Mine.cz_self
name_quick tw9674257727999782656 for Mine.cz by Mine.cz_self
name_quick tw12177649209318274912 for Mine.cz by Mine.cz_self
name_quick tw12046425863553024001 for Mine.cz by Mine.cz_self
name_quick tw1059901042614829057 for Mine.cz by Mine.cz_self
name_quick tw3118938333895590913 for Mine.cz by Mine.cz_self
name_quick tw7393211689510517793 for Mine.cz by Mine.cz_self
name_quick tw2110851967338885185 for Mine.cz by Mine.cz_self
name_quick tw6182678533730793537 for Mine.cz by Mine.cz_self
name_quick tw12828332729040242785 for Mine.cz by Mine.cz_self
name_quick tw5386766301290243201 for Mine.cz by Mine.cz_self
name_quick tw18287117734903463105 for Mine.cz by Mine.cz_self
name_quick tw12945968074294007009 for Mine.cz by Mine.cz_self
name_quick tw5721027456603625697 for Mine.cz by Mine.cz_self
name_quick tw8815187840785991937 for Mine.cz by Mine.cz_self
name_quick tw14821650378409806113 for Mine.cz by Mine.cz_self
name_quick tw11543547407058413889 for Mine.cz by Mine.cz_self
name_quick tw3196378941336150401 for Mine.cz by Mine.cz_self
name_quick tw7405434945208526273 for Mine.cz by Mine.cz_self
name_quick tw2334299552400917057 for Mine.cz by Mine.cz_self
name_quick tw8603108125212654177 for Mine.cz by Mine.cz_self
name_quick tw13342524657329470049 for Mine.cz by Mine.cz_self
name_quick tw8868882367808763553 for Mine.cz by Mine.cz_self
name_quick tw11317593695737139937 for Mine.cz by Mine.cz_self
name_quick tw13236226663087606529 for Mine.cz by Mine.cz_self
name_quick tw7449101846280096545 for Mine.cz by Mine.cz_self
name_quick tw10477944011785391905 for Mine.cz by Mine.cz_self
name_quick tw8474383852179026721 for Mine.cz by Mine.cz_self
name_quick tw17943406268862710625 for Mine.cz by Mine.cz_self
name_quick tw6792406925840432001 for Mine.cz by Mine.cz_self
name_quick tw11825729669827539873 for Mine.cz by Mine.cz_self
name_quick tw9577309144901391297 for Mine.cz by Mine.cz_self
name_quick tw930746551332336609 for Mine.cz by Mine.cz_self
name_quick tw10257574182948591618 for Mine.cz by Mine.cz_self
name_quick tw5854066237105225762 for Mine.cz by Mine.cz_self
name_quick tw4613930686462287906 for Mine.cz by Mine.cz_self
name_quick tw3856783459128436802 for Mine.cz by Mine.cz_self
name_quick tw6344021378708583682 for Mine.cz by Mine.cz_self
name_quick tw14209830616999942402 for Mine.cz by Mine.cz_self
name_quick tw17000458434675057986 for Mine.cz by Mine.cz_self
name_quick tw4797165386629745026 for Mine.cz by Mine.cz_self
name_quick tw14588557730865908194 for Mine.cz by Mine.cz_self
name_quick tw1100353791813204450 for Mine.cz by Mine.cz_self
name_quick tw3093977132361051618 for Mine.cz by Mine.cz_self
name_quick tw6057444674265745922 for Mine.cz by Mine.cz_self
name_quick tw13640514254501968386 for Mine.cz by Mine.cz_self
name_quick tw12477758415327278626 for Mine.cz by Mine.cz_self
name_quick tw3797612339304411714 for Mine.cz by Mine.cz_self
name_quick tw14174611291570781762 for Mine.cz by Mine.cz_self
name_quick tw387338674003428930 for Mine.cz by Mine.cz_self
name_quick tw15215539614974913122 for Mine.cz by Mine.cz_self
name_quick tw18371169792594650754 for Mine.cz by Mine.cz_self
name_quick tw1735007293439650466 for Mine.cz by Mine.cz_self
name_quick tw16434552024888161954 for Mine.cz by Mine.cz_self
name_quick tw8860024209350480642 for Mine.cz by Mine.cz_self
name_quick tw5425108064043664162 for Mine.cz by Mine.cz_self
name_quick tw5152784196030571298 for Mine.cz by Mine.cz_self
name_quick tw2569364866550412066 for Mine.cz by Mine.cz_self
name_quick tw14909702598903578594 for Mine.cz by Mine.cz_self
name_quick tw15475462885187679331 for Mine.cz by Mine.cz_self
name_quick tw13853819408611901635 for Mine.cz by Mine.cz_self
name_quick tw11817470609975844035 for Mine.cz by Mine.cz_self
name_quick tw17001327861769816259 for Mine.cz by Mine.cz_self
name_quick tw13725850141900786883 for Mine.cz by Mine.cz_self
name_quick tw6993175162768986339 for Mine.cz by Mine.cz_self
name_quick tw12767683915131110723 for Mine.cz by Mine.cz_self
name_quick tw16280195873916505411 for Mine.cz by Mine.cz_self
name_quick tw4733837786962973091 for Mine.cz by Mine.cz_self
name_quick tw15542691292777871779 for Mine.cz by Mine.cz_self
name_quick tw3365093317950918147 for Mine.cz by Mine.cz_self
name_quick tw17863021456227041891 for Mine.cz by Mine.cz_self
name_quick tw6813294653679155843 for Mine.cz by Mine.cz_self
name_quick tw4978915544186085027 for Mine.cz by Mine.cz_self
name_quick tw16729788964589934307 for Mine.cz by Mine.cz_self
name_quick tw774047393022817027 for Mine.cz by Mine.cz_self
name_quick tw10887116778572429059 for Mine.cz by Mine.cz_self
name_quick tw3315324234476444515 for Mine.cz by Mine.cz_self
name_quick tw14981143343336467331 for Mine.cz by Mine.cz_self
name_quick tw4430655021044022179 for Mine.cz by Mine.cz_self
name_quick tw2599325451414397859 for Mine.cz by Mine.cz_self
name_quick tw1638017585896720355 for Mine.cz by Mine.cz_self
name_quick tw7232422423428716515 for Mine.cz by Mine.cz_self
name_quick tw6320383766622673092 for Mine.cz by Mine.cz_self
name_quick tw1258299570235058372 for Mine.cz by Mine.cz_self
name_quick tw7299951869573292228 for Mine.cz by Mine.cz_self
name_quick tw4039474712603431140 for Mine.cz by Mine.cz_self
name_quick tw7782445914667556100 for Mine.cz by Mine.cz_self
name_quick tw17274371674624000324 for Mine.cz by Mine.cz_self
name_quick tw4525517667737911620 for Mine.cz by Mine.cz_self
name_quick tw16180483070735683940 for Mine.cz by Mine.cz_self
name_quick tw3256587380925597060 for Mine.cz by Mine.cz_self
name_quick tw288087438632003012 for Mine.cz by Mine.cz_self
name_quick tw12734952128020822468 for Mine.cz by Mine.cz_self
name_quick tw10006666124156027396 for Mine.cz by Mine.cz_self
name_quick tw12392613427281201732 for Mine.cz by Mine.cz_self
name_quick tw8656719876789144132 for Mine.cz by Mine.cz_self
name_quick tw11886712299990487620 for Mine.cz by Mine.cz_self
name_quick tw1759038480177400420 for Mine.cz by Mine.cz_self
name_quick tw6698160770425034372 for Mine.cz by Mine.cz_self
name_quick tw9736788993784561348 for Mine.cz by Mine.cz_self
name_quick tw17975652961387846372 for Mine.cz by Mine.cz_self
name_quick tw13262538273218963204 for Mine.cz by Mine.cz_self
name_quick tw16752143609539240740 for Mine.cz by Mine.cz_self
name_quick tw9236379625843700516 for Mine.cz by Mine.cz_self
name_quick tw7387991725200618308 for Mine.cz by Mine.cz_self
name_quick tw12773889961810623364 for Mine.cz by Mine.cz_self
name_quick tw12214085216866374628 for Mine.cz by Mine.cz_self
name_quick tw1481926694345511941 for Mine.cz by Mine.cz_self
name_quick tw4224760802259116069 for Mine.cz by Mine.cz_self
name_quick tw6606113021469975653 for Mine.cz by Mine.cz_self
name_quick tw4275521005467322725 for Mine.cz by Mine.cz_self
name_quick tw8610040677353227653 for Mine.cz by Mine.cz_self
name_quick tw10823345740709935493 for Mine.cz by Mine.cz_self
name_quick tw3308210559937237381 for Mine.cz by Mine.cz_self
name_quick tw1402947280878808549 for Mine.cz by Mine.cz_self
name_quick tw2039238271031011813 for Mine.cz by Mine.cz_self
name_quick tw8777329075199875621 for Mine.cz by Mine.cz_self
name_quick tw13925586954763233925 for Mine.cz by Mine.cz_self
name_quick tw6267220430429643429 for Mine.cz by Mine.cz_self
name_quick tw8704618095886561957 for Mine.cz by Mine.cz_self
name_quick tw14858287094103624389 for Mine.cz by Mine.cz_self
name_quick tw9190918148164325157 for Mine.cz by Mine.cz_self
name_quick tw189603312586018693 for Mine.cz by Mine.cz_self
name_quick tw6519424955469430661 for Mine.cz by Mine.cz_self
name_quick tw5149714755402479525 for Mine.cz by Mine.cz_self
name_quick tw11707433790658880453 for Mine.cz by Mine.cz_self
name_quick tw6142071019320080357 for Mine.cz by Mine.cz_self
name_quick tw3228652444460286982 for Mine.cz by Mine.cz_self
name_quick tw7561037823649445926 for Mine.cz by Mine.cz_self
name_quick tw16904869804480856166 for Mine.cz by Mine.cz_self
name_quick tw17528258088376854630 for Mine.cz by Mine.cz_self
name_quick tw14778209649434054790 for Mine.cz by Mine.cz_self
name_quick tw2378363196638174374 for Mine.cz by Mine.cz_self
name_quick tw12450158673883907302 for Mine.cz by Mine.cz_self
name_quick tw15078596067121957158 for Mine.cz by Mine.cz_self
name_quick tw16369446117885005094 for Mine.cz by Mine.cz_self
name_quick tw17993156020533580102 for Mine.cz by Mine.cz_self
name_quick tw3865406201487662470 for Mine.cz by Mine.cz_self
name_quick tw14973007898608030118 for Mine.cz by Mine.cz_self
name_quick tw14952990662201256454 for Mine.cz by Mine.cz_self
name_quick tw7543618554067911206 for Mine.cz by Mine.cz_self
name_quick tw7581352650102555174 for Mine.cz by Mine.cz_self
name_quick tw447715330943862342 for Mine.cz by Mine.cz_self
name_quick tw4933834842325187142 for Mine.cz by Mine.cz_self
name_quick tw8385612375773290118 for Mine.cz by Mine.cz_self
name_quick tw16145008321745377990 for Mine.cz by Mine.cz_self
name_quick tw17300597898927385350 for Mine.cz by Mine.cz_self
name_quick tw884248653220910886 for Mine.cz by Mine.cz_self
name_quick tw5248340912204065574 for Mine.cz by Mine.cz_self
name_quick tw6944952908185719654 for Mine.cz by Mine.cz_self
name_quick tw7987952416473584550 for Mine.cz by Mine.cz_self
name_quick tw17475289236778735526 for Mine.cz by Mine.cz_self
name_quick tw12114495157272644582 for Mine.cz by Mine.cz_self
name_quick tw7250012664060256230 for Mine.cz by Mine.cz_self
name_quick tw1944293319124727847 for Mine.cz by Mine.cz_self
name_quick tw18220123701641295943 for Mine.cz by Mine.cz_self
name_quick tw1410096668721982599 for Mine.cz by Mine.cz_self
name_quick tw16979880578912567463 for Mine.cz by Mine.cz_self
name_quick tw4306451927003165895 for Mine.cz by Mine.cz_self
name_quick tw15300170045991075079 for Mine.cz by Mine.cz_self
name_quick tw11588390666370768167 for Mine.cz by Mine.cz_self
name_quick tw4745058802850807175 for Mine.cz by Mine.cz_self
name_quick tw1495452243305574823 for Mine.cz by Mine.cz_self
name_quick tw11108263761283441063 for Mine.cz by Mine.cz_self
name_quick tw1355338860687761863 for Mine.cz by Mine.cz_self
name_quick tw4319705520415482375 for Mine.cz by Mine.cz_self
name_quick tw15490439104401381959 for Mine.cz by Mine.cz_self
name_quick tw4090926877573551719 for Mine.cz by Mine.cz_self
name_quick tw13252181687094117063 for Mine.cz by Mine.cz_self
name_quick tw8376441433122354887 for Mine.cz by Mine.cz_self
name_quick tw1085346719588807367 for Mine.cz by Mine.cz_self
name_quick tw2504098582860672743 for Mine.cz by Mine.cz_self
name_quick tw14326252917377295143 for Mine.cz by Mine.cz_self
name_quick tw15894407043143930727 for Mine.cz by Mine.cz_self
name_quick tw11270796479367742343 for Mine.cz by Mine.cz_self
name_quick tw14934708107589980039 for Mine.cz by Mine.cz_self
name_quick tw3633577522364906407 for Mine.cz by Mine.cz_self
name_quick tw15605440718772780007 for Mine.cz by Mine.cz_self
name_quick tw4724670654266164199 for Mine.cz by Mine.cz_self
name_quick tw9794667896261083176 for Mine.cz by Mine.cz_self
name_quick tw5770868932273138760 for Mine.cz by Mine.cz_self
name_quick tw10071868454641916008 for Mine.cz by Mine.cz_self
name_quick tw5555313912996828296 for Mine.cz by Mine.cz_self
name_quick tw686183698351167624 for Mine.cz by Mine.cz_self
name_quick tw14073706353221006472 for Mine.cz by Mine.cz_self
name_quick tw15586084020490888360 for Mine.cz by Mine.cz_self
name_quick tw2422670821966735624 for Mine.cz by Mine.cz_self
name_quick tw5268983451555188008 for Mine.cz by Mine.cz_self
name_quick tw1370275717833778536 for Mine.cz by Mine.cz_self
name_quick tw11786184479649081736 for Mine.cz by Mine.cz_self
name_quick tw7295312623806419368 for Mine.cz by Mine.cz_self
name_quick tw7313295853046975944 for Mine.cz by Mine.cz_self
name_quick tw13900631225919944168 for Mine.cz by Mine.cz_self
name_quick tw5998781340512891400 for Mine.cz by Mine.cz_self
name_quick tw18350638575300117064 for Mine.cz by Mine.cz_self
name_quick tw14265314264860633672 for Mine.cz by Mine.cz_self
name_quick tw11334522289143818824 for Mine.cz by Mine.cz_self
name_quick tw16437185098154296904 for Mine.cz by Mine.cz_self
name_quick tw17431367730909923944 for Mine.cz by Mine.cz_self
name_quick tw3470799630455053000 for Mine.cz by Mine.cz_self
name_quick tw4658958612460137192 for Mine.cz by Mine.cz_self
name_quick tw6291368078380397288 for Mine.cz by Mine.cz_self
name_quick tw10782641618400255816 for Mine.cz by Mine.cz_self
name_quick tw3880421473898291048 for Mine.cz by Mine.cz_self
name_quick tw3826639566459466600 for Mine.cz by Mine.cz_self
name_quick tw18101931140130867144 for Mine.cz by Mine.cz_self
name_quick tw14386061602966655976 for Mine.cz by Mine.cz_self
name_quick tw13804622635509601256 for Mine.cz by Mine.cz_self
name_quick tw14285374257681291273 for Mine.cz by Mine.cz_self
name_quick tw3345107109950449737 for Mine.cz by Mine.cz_self
name_quick tw14837249469386935497 for Mine.cz by Mine.cz_self
name_quick tw1333364371103165705 for Mine.cz by Mine.cz_self
name_quick tw1971209045111089449 for Mine.cz by Mine.cz_self
name_quick tw12981051755390344553 for Mine.cz by Mine.cz_self
name_quick tw16861218917600885097 for Mine.cz by Mine.cz_self
name_quick tw12377561305857167785 for Mine.cz by Mine.cz_self
name_quick tw16309933130070103497 for Mine.cz by Mine.cz_self
name_quick tw5631866682500559305 for Mine.cz by Mine.cz_self
name_quick tw14834023430324568649 for Mine.cz by Mine.cz_self
name_quick tw5068434257544371817 for Mine.cz by Mine.cz_self
name_quick tw11036193050239951465 for Mine.cz by Mine.cz_self
name_quick tw12172078356533094185 for Mine.cz by Mine.cz_self
name_quick tw9626621113073979434 for Mine.cz by Mine.cz_self
name_quick tw7729641633298002090 for Mine.cz by Mine.cz_self
name_quick tw1320183511955256522 for Mine.cz by Mine.cz_self
name_quick tw3094477031063562474 for Mine.cz by Mine.cz_self
name_quick tw1886563365779066154 for Mine.cz by Mine.cz_self
name_quick tw1102190903223815498 for Mine.cz by Mine.cz_self
name_quick tw13690843758732723530 for Mine.cz by Mine.cz_self
name_quick tw13981391230805400906 for Mine.cz by Mine.cz_self
name_quick tw4921902886906138986 for Mine.cz by Mine.cz_self
name_quick tw2077871619930789226 for Mine.cz by Mine.cz_self
name_quick tw1615719349143574890 for Mine.cz by Mine.cz_self
name_quick tw5349121933718820234 for Mine.cz by Mine.cz_self
name_quick tw10320149354908582346 for Mine.cz by Mine.cz_self
name_quick tw17774800907425398282 for Mine.cz by Mine.cz_self
name_quick tw1377046205977697930 for Mine.cz by Mine.cz_self
name_quick tw14529259203199301258 for Mine.cz by Mine.cz_self
name_quick tw3768068617246420682 for Mine.cz by Mine.cz_self
name_quick tw7074795694173733578 for Mine.cz by Mine.cz_self
name_quick tw3069475018656635626 for Mine.cz by Mine.cz_self
name_quick tw8488268690174267210 for Mine.cz by Mine.cz_self
name_quick tw5228443966233409354 for Mine.cz by Mine.cz_self
name_quick tw13816233472422033322 for Mine.cz by Mine.cz_self
name_quick tw10500077913531017323 for Mine.cz by Mine.cz_self
name_quick tw13549102714576105579 for Mine.cz by Mine.cz_self
name_quick tw14185684948912167051 for Mine.cz by Mine.cz_self
name_quick tw6135381517318000843 for Mine.cz by Mine.cz_self
name_quick tw7538125934224741611 for Mine.cz by Mine.cz_self
name_quick tw15224661121926592747 for Mine.cz by Mine.cz_self
name_quick tw17532440430192770315 for Mine.cz by Mine.cz_self
name_quick tw383695940523520267 for Mine.cz by Mine.cz_self
name_quick tw5450187663091677483 for Mine.cz by Mine.cz_self
name_quick tw932993149863042379 for Mine.cz by Mine.cz_self
name_quick tw17318589155259679147 for Mine.cz by Mine.cz_self
name_quick tw5565278806992967083 for Mine.cz by Mine.cz_self
name_quick tw3545756843259802059 for Mine.cz by Mine.cz_self
name_quick tw16712280214892120555 for Mine.cz by Mine.cz_self
name_quick tw13002492023102617099 for Mine.cz by Mine.cz_self
name_quick tw12095823642532355627 for Mine.cz by Mine.cz_self
name_quick tw618205885557783147 for Mine.cz by Mine.cz_self
name_quick tw3327986453032591115 for Mine.cz by Mine.cz_self
name_quick tw5823794197072137003 for Mine.cz by Mine.cz_self
name_quick tw18163462532019968843 for Mine.cz by Mine.cz_self
name_quick tw9396933662098498411 for Mine.cz by Mine.cz_self
name_quick tw12731603968600162155 for Mine.cz by Mine.cz_self
name_quick tw5820445615435017067 for Mine.cz by Mine.cz_self
name_quick tw3302314484089059179 for Mine.cz by Mine.cz_self
name_quick tw12359285113459375979 for Mine.cz by Mine.cz_self
name_quick tw7733015712792483723 for Mine.cz by Mine.cz_self
name_quick tw4600395469775339435 for Mine.cz by Mine.cz_self
name_quick tw13580328829973926956 for Mine.cz by Mine.cz_self
name_quick tw1460277438893781036 for Mine.cz by Mine.cz_self
name_quick tw16189536214700107852 for Mine.cz by Mine.cz_self
name_quick tw1267870562809915468 for Mine.cz by Mine.cz_self
name_quick tw15468230090516036684 for Mine.cz by Mine.cz_self
name_quick tw4071324889030633612 for Mine.cz by Mine.cz_self
name_quick tw12494133203773749484 for Mine.cz by Mine.cz_self
name_quick tw17955133630450735404 for Mine.cz by Mine.cz_self
name_quick tw667198328695590252 for Mine.cz by Mine.cz_self
name_quick tw4636218855388986860 for Mine.cz by Mine.cz_self
name_quick tw17045043414572947948 for Mine.cz by Mine.cz_self
name_quick tw18052830216330045932 for Mine.cz by Mine.cz_self
name_quick tw1735497430108182060 for Mine.cz by Mine.cz_self
name_quick tw5925582254088234700 for Mine.cz by Mine.cz_self
name_quick tw2134368852220247820 for Mine.cz by Mine.cz_self
name_quick tw1156252341971683116 for Mine.cz by Mine.cz_self
name_quick tw6434265647005701932 for Mine.cz by Mine.cz_self
name_quick tw9721856733848853292 for Mine.cz by Mine.cz_self
name_quick tw5315457868209417068 for Mine.cz by Mine.cz_self
name_quick tw2110668173088178060 for Mine.cz by Mine.cz_self
name_quick tw17018449646109014956 for Mine.cz by Mine.cz_self
name_quick tw6127375697748050860 for Mine.cz by Mine.cz_self
name_quick tw2354101950205528012 for Mine.cz by Mine.cz_self
name_quick tw6224646082405213132 for Mine.cz by Mine.cz_self
name_quick tw7229665172594901996 for Mine.cz by Mine.cz_self
name_quick tw11861152243698038893 for Mine.cz by Mine.cz_self
name_quick tw11306939235166856333 for Mine.cz by Mine.cz_self
name_quick tw3952652319720093869 for Mine.cz by Mine.cz_self
name_quick tw39160002569200845 for Mine.cz by Mine.cz_self
name_quick tw5857867401354281197 for Mine.cz by Mine.cz_self
name_quick tw937105155873367277 for Mine.cz by Mine.cz_self
name_quick tw10719484529398299949 for Mine.cz by Mine.cz_self
name_quick tw13404028037160507757 for Mine.cz by Mine.cz_self
name_quick tw13581749221687468397 for Mine.cz by Mine.cz_self
name_quick tw482417222145425773 for Mine.cz by Mine.cz_self
name_quick tw16374537267813192141 for Mine.cz by Mine.cz_self
name_quick tw12371321757623732685 for Mine.cz by Mine.cz_self
name_quick tw12821735335276811757 for Mine.cz by Mine.cz_self
name_quick tw4679858250743294509 for Mine.cz by Mine.cz_self
name_quick tw3932193239157236269 for Mine.cz by Mine.cz_self
name_quick tw17846936440860909165 for Mine.cz by Mine.cz_self
name_quick tw13036272033356848781 for Mine.cz by Mine.cz_self
name_quick tw5310036984924271277 for Mine.cz by Mine.cz_self
name_quick tw12227490674122928909 for Mine.cz by Mine.cz_self
name_quick tw3282434896037501709 for Mine.cz by Mine.cz_self
name_quick tw16439824349840649037 for Mine.cz by Mine.cz_self
name_quick tw2037417660504910701 for Mine.cz by Mine.cz_self
name_quick tw9265879793445154701 for Mine.cz by Mine.cz_self
name_quick tw8432684481940611981 for Mine.cz by Mine.cz_self
name_quick tw9917628215930124269 for Mine.cz by Mine.cz_self
name_quick tw14043711374191979534 for Mine.cz by Mine.cz_self
name_quick tw18340240734955500558 for Mine.cz by Mine.cz_self
name_quick tw148260917463534702 for Mine.cz by Mine.cz_self
name_quick tw16292439048969090190 for Mine.cz by Mine.cz_self
name_quick tw6348685521300091022 for Mine.cz by Mine.cz_self
name_quick tw1468114885665857710 for Mine.cz by Mine.cz_self
name_quick tw2322887356643228942 for Mine.cz by Mine.cz_self
name_quick tw724751600484774222 for Mine.cz by Mine.cz_self
name_quick tw12170303376835216750 for Mine.cz by Mine.cz_self
name_quick tw1189734492583310 for Mine.cz by Mine.cz_self
name_quick tw13180171748994924942 for Mine.cz by Mine.cz_self
name_quick tw4318056027017086478 for Mine.cz by Mine.cz_self
name_quick tw15919542637913265678 for Mine.cz by Mine.cz_self
name_quick tw6521757526224697902 for Mine.cz by Mine.cz_self
name_quick tw8693227569615203950 for Mine.cz by Mine.cz_self
name_quick tw1305609685974793870 for Mine.cz by Mine.cz_self
name_quick tw6125931036764729998 for Mine.cz by Mine.cz_self
name_quick tw900395245841561262 for Mine.cz by Mine.cz_self
name_quick tw3306904295867340462 for Mine.cz by Mine.cz_self
name_quick tw16874561944515371726 for Mine.cz by Mine.cz_self
name_quick tw2401699919119007470 for Mine.cz by Mine.cz_self
name_quick tw16644606511662114574 for Mine.cz by Mine.cz_self
name_quick tw14159497744377131790 for Mine.cz by Mine.cz_self
name_quick tw563124612126607214 for Mine.cz by Mine.cz_self
name_quick tw16018607276475445134 for Mine.cz by Mine.cz_self
name_quick tw6213697211615256494 for Mine.cz by Mine.cz_self
name_quick tw441327347791068078 for Mine.cz by Mine.cz_self
name_quick tw16751196440357475278 for Mine.cz by Mine.cz_self
name_quick tw912392155897948271 for Mine.cz by Mine.cz_self
name_quick tw17596809139577655471 for Mine.cz by Mine.cz_self
name_quick tw6952355047532471503 for Mine.cz by Mine.cz_self
name_quick tw9206804518496725263 for Mine.cz by Mine.cz_self
name_quick tw9575731206691268911 for Mine.cz by Mine.cz_self
name_quick tw13721567128424951087 for Mine.cz by Mine.cz_self
name_quick tw13471316229770301743 for Mine.cz by Mine.cz_self
name_quick tw558745408833754511 for Mine.cz by Mine.cz_self
name_quick tw4434333111790514575 for Mine.cz by Mine.cz_self
name_quick tw10040787053062605231 for Mine.cz by Mine.cz_self
name_quick tw3736136724727406031 for Mine.cz by Mine.cz_self
name_quick tw1620339239838986703 for Mine.cz by Mine.cz_self
name_quick tw11957962974430299695 for Mine.cz by Mine.cz_self
name_quick tw6589095468515690095 for Mine.cz by Mine.cz_self
name_quick tw6722154040420286063 for Mine.cz by Mine.cz_self
name_quick tw5247225353297040015 for Mine.cz by Mine.cz_self
name_quick tw12488000419048109807 for Mine.cz by Mine.cz_self
name_quick tw13526986893379352335 for Mine.cz by Mine.cz_self
name_quick tw11935356649212052271 for Mine.cz by Mine.cz_self
name_quick tw1995926237046646575 for Mine.cz by Mine.cz_self
name_quick tw9165568632223901487 for Mine.cz by Mine.cz_self
name_quick tw7824674403005707151 for Mine.cz by Mine.cz_self
name_quick tw2078703811421203504 for Mine.cz by Mine.cz_self
name_quick tw6268969693082757200 for Mine.cz by Mine.cz_self
name_quick tw2314638664359121040 for Mine.cz by Mine.cz_self
name_quick tw1869930749605803152 for Mine.cz by Mine.cz_self
name_quick tw6834602518627153040 for Mine.cz by Mine.cz_self
name_quick tw12513138341781932208 for Mine.cz by Mine.cz_self
name_quick tw15560853006256673968 for Mine.cz by Mine.cz_self
name_quick tw11707371222683016368 for Mine.cz by Mine.cz_self
name_quick tw9041768174481992944 for Mine.cz by Mine.cz_self
name_quick tw17000756265888016 for Mine.cz by Mine.cz_self
name_quick tw1574873078441994576 for Mine.cz by Mine.cz_self
name_quick tw2081053591005667728 for Mine.cz by Mine.cz_self
name_quick tw347637069881736656 for Mine.cz by Mine.cz_self
name_quick tw3460871413274159568 for Mine.cz by Mine.cz_self
name_quick tw6179359751918216688 for Mine.cz by Mine.cz_self
name_quick tw4575980220486274672 for Mine.cz by Mine.cz_self
name_quick tw11629953924900746896 for Mine.cz by Mine.cz_self
name_quick tw6076076219008924368 for Mine.cz by Mine.cz_self
name_quick tw4716499452693333712 for Mine.cz by Mine.cz_self
name_quick tw13987355940573415152 for Mine.cz by Mine.cz_self
name_quick tw2719445374943340272 for Mine.cz by Mine.cz_self
name_quick tw15041003319150489328 for Mine.cz by Mine.cz_self
name_quick tw1690735587144091376 for Mine.cz by Mine.cz_self
name_quick tw11363912090873407280 for Mine.cz by Mine.cz_self
name_quick tw10619036274816975696 for Mine.cz by Mine.cz_self
name_quick tw15207642765257501584 for Mine.cz by Mine.cz_self
name_quick tw12526863579885937616 for Mine.cz by Mine.cz_self
name_quick tw5423003317807263696 for Mine.cz by Mine.cz_self
name_quick tw17827458813498177553 for Mine.cz by Mine.cz_self
name_quick tw7009043117176579089 for Mine.cz by Mine.cz_self
name_quick tw10670733350059645105 for Mine.cz by Mine.cz_self
name_quick tw8075568018651887793 for Mine.cz by Mine.cz_self
name_quick tw10460931487171540145 for Mine.cz by Mine.cz_self
name_quick tw16474492168511960337 for Mine.cz by Mine.cz_self
name_quick tw14389334442490810641 for Mine.cz by Mine.cz_self
name_quick tw7275051467321613617 for Mine.cz by Mine.cz_self
name_quick tw11790162104776037713 for Mine.cz by Mine.cz_self
name_quick tw16289391198768371057 for Mine.cz by Mine.cz_self
name_quick tw17233024954070867409 for Mine.cz by Mine.cz_self
name_quick tw894076849921957361 for Mine.cz by Mine.cz_self
name_quick tw11625766737575182897 for Mine.cz by Mine.cz_self
name_quick tw9821368406582625841 for Mine.cz by Mine.cz_self
name_quick tw14285029430470858289 for Mine.cz by Mine.cz_self
name_quick tw7057405563618977329 for Mine.cz by Mine.cz_self
name_quick tw1423138165483278961 for Mine.cz by Mine.cz_self
name_quick tw1269743608478119537 for Mine.cz by Mine.cz_self
name_quick tw3740020263889925745 for Mine.cz by Mine.cz_self
name_quick tw7618406622816332465 for Mine.cz by Mine.cz_self
name_quick tw10033396928017900241 for Mine.cz by Mine.cz_self
name_quick tw12456492676567594705 for Mine.cz by Mine.cz_self
name_quick tw8552093678088426289 for Mine.cz by Mine.cz_self
name_quick tw17207840028585114417 for Mine.cz by Mine.cz_self
name_quick tw4949472239710415697 for Mine.cz by Mine.cz_self
name_quick tw2118141222776746865 for Mine.cz by Mine.cz_self
name_quick tw15902184279288820625 for Mine.cz by Mine.cz_self
name_quick tw11445135464325071761 for Mine.cz by Mine.cz_self
name_quick tw10939839348159177617 for Mine.cz by Mine.cz_self
name_quick tw12898947447245864913 for Mine.cz by Mine.cz_self
name_quick tw2011108890870493169 for Mine.cz by Mine.cz_self
name_quick tw12393455550290869266 for Mine.cz by Mine.cz_self
name_quick tw7140130562030077042 for Mine.cz by Mine.cz_self
name_quick tw16792545251062261874 for Mine.cz by Mine.cz_self
name_quick tw10819683100428557426 for Mine.cz by Mine.cz_self
name_quick tw6517296806544964722 for Mine.cz by Mine.cz_self
name_quick tw6929956602132211858 for Mine.cz by Mine.cz_self
name_quick tw487364732245791922 for Mine.cz by Mine.cz_self
name_quick tw4989861115921178866 for Mine.cz by Mine.cz_self
name_quick tw2784737618629438770 for Mine.cz by Mine.cz_self
name_quick tw17138261911001417010 for Mine.cz by Mine.cz_self
name_quick tw5144633987255907666 for Mine.cz by Mine.cz_self
name_quick tw2614552105083212210 for Mine.cz by Mine.cz_self
name_quick tw5303519439607764402 for Mine.cz by Mine.cz_self
name_quick tw17139780236743587250 for Mine.cz by Mine.cz_self
name_quick tw16942194440817826258 for Mine.cz by Mine.cz_self
name_quick tw12472836147817038354 for Mine.cz by Mine.cz_self
name_quick tw951843321253372498 for Mine.cz by Mine.cz_self
name_quick tw6937325167468391026 for Mine.cz by Mine.cz_self
name_quick tw14884601019740666482 for Mine.cz by Mine.cz_self
name_quick tw16494616584097029746 for Mine.cz by Mine.cz_self
name_quick tw18328561965235511954 for Mine.cz by Mine.cz_self
name_quick tw12050852935592152754 for Mine.cz by Mine.cz_self
name_quick tw15965015591981942514 for Mine.cz by Mine.cz_self
name_quick tw5410153933605578482 for Mine.cz by Mine.cz_self
name_quick tw9455686188066324210 for Mine.cz by Mine.cz_self
name_quick tw503676674663206642 for Mine.cz by Mine.cz_self
name_quick tw13156168479132978002 for Mine.cz by Mine.cz_self
name_quick tw15315713394281565010 for Mine.cz by Mine.cz_self
name_quick tw2387720566874501970 for Mine.cz by Mine.cz_self
name_quick tw16873187988247708562 for Mine.cz by Mine.cz_self
name_quick tw1711367819467211730 for Mine.cz by Mine.cz_self
name_quick tw4407734736301137906 for Mine.cz by Mine.cz_self
name_quick tw6662432510661729299 for Mine.cz by Mine.cz_self
name_quick tw1708024556718086227 for Mine.cz by Mine.cz_self
name_quick tw6551367506479906963 for Mine.cz by Mine.cz_self
name_quick tw5862295025349918931 for Mine.cz by Mine.cz_self
name_quick tw10919533547850550483 for Mine.cz by Mine.cz_self
name_quick tw10758392820592806131 for Mine.cz by Mine.cz_self
name_quick tw14763704009068828915 for Mine.cz by Mine.cz_self
name_quick tw15039117976438264115 for Mine.cz by Mine.cz_self
name_quick tw10352308551163946355 for Mine.cz by Mine.cz_self
name_quick tw9977392586421186931 for Mine.cz by Mine.cz_self
name_quick tw16406328271908756883 for Mine.cz by Mine.cz_self
name_quick tw11855487677703710099 for Mine.cz by Mine.cz_self
name_quick tw14112274594779413971 for Mine.cz by Mine.cz_self
name_quick tw4888971946704870899 for Mine.cz by Mine.cz_self
name_quick tw9203354889408330259 for Mine.cz by Mine.cz_self
name_quick tw17503288770812694035 for Mine.cz by Mine.cz_self
name_quick tw9787396351842916947 for Mine.cz by Mine.cz_self
name_quick tw5732905514179830355 for Mine.cz by Mine.cz_self
name_quick tw13650077344797733491 for Mine.cz by Mine.cz_self
name_quick tw9376109419431680627 for Mine.cz by Mine.cz_self
name_quick tw15562837088269578035 for Mine.cz by Mine.cz_self
name_quick tw2718901123391026995 for Mine.cz by Mine.cz_self
name_quick tw13251646731365433171 for Mine.cz by Mine.cz_self
name_quick tw4681523508651956083 for Mine.cz by Mine.cz_self
name_quick tw15450981722951097364 for Mine.cz by Mine.cz_self
name_quick tw607167704815816724 for Mine.cz by Mine.cz_self
name_quick tw12936123109605684276 for Mine.cz by Mine.cz_self
name_quick tw10078919187461690516 for Mine.cz by Mine.cz_self
name_quick tw2862820112641550484 for Mine.cz by Mine.cz_self
name_quick tw4075660801711882420 for Mine.cz by Mine.cz_self
name_quick tw2177526886768309524 for Mine.cz by Mine.cz_self
name_quick tw6909570525239066004 for Mine.cz by Mine.cz_self
name_quick tw3536357697601684980 for Mine.cz by Mine.cz_self
name_quick tw5512085447785999860 for Mine.cz by Mine.cz_self
name_quick tw9300948228871686676 for Mine.cz by Mine.cz_self
name_quick tw13951202360752479828 for Mine.cz by Mine.cz_self
name_quick tw1041845030581493396 for Mine.cz by Mine.cz_self
name_quick tw4691851695120001716 for Mine.cz by Mine.cz_self
name_quick tw2283851925072248500 for Mine.cz by Mine.cz_self
name_quick tw11420187438672877268 for Mine.cz by Mine.cz_self
name_quick tw12606261883493885652 for Mine.cz by Mine.cz_self
name_quick tw8430678208038309684 for Mine.cz by Mine.cz_self
name_quick tw15742981410569661332 for Mine.cz by Mine.cz_self
name_quick tw921073385446354868 for Mine.cz by Mine.cz_self
name_quick tw7619357645376055252 for Mine.cz by Mine.cz_self
name_quick tw13102660428377437172 for Mine.cz by Mine.cz_self
name_quick tw16413264400604254196 for Mine.cz by Mine.cz_self
name_quick tw14530364306720264245 for Mine.cz by Mine.cz_self
name_quick tw11055029398406535253 for Mine.cz by Mine.cz_self
name_quick tw5950129339639070837 for Mine.cz by Mine.cz_self
name_quick tw282004115355043989 for Mine.cz by Mine.cz_self
name_quick tw12290603225136948437 for Mine.cz by Mine.cz_self
name_quick tw10755730847627044085 for Mine.cz by Mine.cz_self
name_quick tw4527066259768149269 for Mine.cz by Mine.cz_self
name_quick tw8753696776887207221 for Mine.cz by Mine.cz_self
name_quick tw12809422525583811893 for Mine.cz by Mine.cz_self
name_quick tw3229698128091672885 for Mine.cz by Mine.cz_self
name_quick tw10528696920762540405 for Mine.cz by Mine.cz_self
name_quick tw10470071008263537045 for Mine.cz by Mine.cz_self
name_quick tw14553827428707814869 for Mine.cz by Mine.cz_self
name_quick tw18247082017555167765 for Mine.cz by Mine.cz_self
name_quick tw4187477659947935285 for Mine.cz by Mine.cz_self
name_quick tw3793695936567050837 for Mine.cz by Mine.cz_self
name_quick tw392140993173905013 for Mine.cz by Mine.cz_self
name_quick tw17626262904599113365 for Mine.cz by Mine.cz_self
name_quick tw12599741558188205749 for Mine.cz by Mine.cz_self
name_quick tw13949143374315933397 for Mine.cz by Mine.cz_self
name_quick tw3558216917135427349 for Mine.cz by Mine.cz_self
name_quick tw13505292571300825877 for Mine.cz by Mine.cz_self
name_quick tw17899373020297197333 for Mine.cz by Mine.cz_self
name_quick tw16138931208732196661 for Mine.cz by Mine.cz_self
name_quick tw8450942572126056277 for Mine.cz by Mine.cz_self
name_quick tw1218959903707654005 for Mine.cz by Mine.cz_self
name_quick tw3825061337978711158 for Mine.cz by Mine.cz_self
name_quick tw9413167413068371254 for Mine.cz by Mine.cz_self
name_quick tw3619232141914619222 for Mine.cz by Mine.cz_self
name_quick tw2627984346626558326 for Mine.cz by Mine.cz_self
name_quick tw4183877074749451670 for Mine.cz by Mine.cz_self
name_quick tw10276908904998144438 for Mine.cz by Mine.cz_self
name_quick tw3142773779024712118 for Mine.cz by Mine.cz_self
name_quick tw9910355351051955638 for Mine.cz by Mine.cz_self
name_quick tw14023627001141898710 for Mine.cz by Mine.cz_self
name_quick tw11939915149646268982 for Mine.cz by Mine.cz_self
name_quick tw17015423121036801654 for Mine.cz by Mine.cz_self
name_quick tw14420389602138693270 for Mine.cz by Mine.cz_self
name_quick tw272414042388314806 for Mine.cz by Mine.cz_self
name_quick tw7431591544816029494 for Mine.cz by Mine.cz_self
name_quick tw10566222408779648918 for Mine.cz by Mine.cz_self
name_quick tw9082586571710850966 for Mine.cz by Mine.cz_self
name_quick tw5082074563857973206 for Mine.cz by Mine.cz_self
name_quick tw10508251915553800215 for Mine.cz by Mine.cz_self
name_quick tw1157545019965518967 for Mine.cz by Mine.cz_self
name_quick tw3433653886696886423 for Mine.cz by Mine.cz_self
name_quick tw8989982439271903415 for Mine.cz by Mine.cz_self
name_quick tw6504275150365058295 for Mine.cz by Mine.cz_self
name_quick tw8125055898148337911 for Mine.cz by Mine.cz_self
name_quick tw1343220272319300887 for Mine.cz by Mine.cz_self
name_quick tw8902219603052485911 for Mine.cz by Mine.cz_self
name_quick tw13903129631018457399 for Mine.cz by Mine.cz_self
name_quick tw17888162413812561239 for Mine.cz by Mine.cz_self
name_quick tw1189118826323900759 for Mine.cz by Mine.cz_self
name_quick tw10767066097796618615 for Mine.cz by Mine.cz_self
name_quick tw13316322371389871543 for Mine.cz by Mine.cz_self
name_quick tw9219426015542480343 for Mine.cz by Mine.cz_self
name_quick tw7585139358526817783 for Mine.cz by Mine.cz_self
name_quick tw8800560270773162519 for Mine.cz by Mine.cz_self
name_quick tw3324361733244956215 for Mine.cz by Mine.cz_self
name_quick tw15880737140895825463 for Mine.cz by Mine.cz_self
name_quick tw7802139600951554647 for Mine.cz by Mine.cz_self
name_quick tw12945451867199242903 for Mine.cz by Mine.cz_self
name_quick tw7191607858210974391 for Mine.cz by Mine.cz_self
name_quick tw14433975572909055671 for Mine.cz by Mine.cz_self
name_quick tw12885971956603332375 for Mine.cz by Mine.cz_self
name_quick tw12989987162080215863 for Mine.cz by Mine.cz_self
name_quick tw13145125596335152023 for Mine.cz by Mine.cz_self
name_quick tw14097648870716263351 for Mine.cz by Mine.cz_self
name_quick tw14971970265804392439 for Mine.cz by Mine.cz_self
name_quick tw3735880847841164279 for Mine.cz by Mine.cz_self
name_quick tw662354867322794072 for Mine.cz by Mine.cz_self
name_quick tw17352973434858128600 for Mine.cz by Mine.cz_self
name_quick tw2506853364499732696 for Mine.cz by Mine.cz_self
name_quick tw6697550738653902072 for Mine.cz by Mine.cz_self
name_quick tw14168537005229113720 for Mine.cz by Mine.cz_self
name_quick tw3395616883899927064 for Mine.cz by Mine.cz_self
name_quick tw9236875199018929784 for Mine.cz by Mine.cz_self
name_quick tw13775618736486673144 for Mine.cz by Mine.cz_self
name_quick tw17554001833073541016 for Mine.cz by Mine.cz_self
name_quick tw16947794391021106201 for Mine.cz by Mine.cz_self
name_quick tw9407582987413476825 for Mine.cz by Mine.cz_self
name_quick tw17280976486791472633 for Mine.cz by Mine.cz_self
name_quick tw15542503528162795033 for Mine.cz by Mine.cz_self
name_quick tw15007238320947547705 for Mine.cz by Mine.cz_self
name_quick tw17727738676932873817 for Mine.cz by Mine.cz_self
name_quick tw18253757678009453241 for Mine.cz by Mine.cz_self
name_quick tw2721586585765338809 for Mine.cz by Mine.cz_self
name_quick tw1374548495586556601 for Mine.cz by Mine.cz_self
name_quick tw8719427161674164953 for Mine.cz by Mine.cz_self
name_quick tw4205239288364317433 for Mine.cz by Mine.cz_self
name_quick tw6245536207120538393 for Mine.cz by Mine.cz_self
name_quick tw13142473509193869113 for Mine.cz by Mine.cz_self
name_quick tw3424931102881643321 for Mine.cz by Mine.cz_self
name_quick tw3889259530307233657 for Mine.cz by Mine.cz_self
name_quick tw13783648951372772217 for Mine.cz by Mine.cz_self
name_quick tw12296728618847696761 for Mine.cz by Mine.cz_self
name_quick tw12647630874787467225 for Mine.cz by Mine.cz_self
name_quick tw721709456127091705 for Mine.cz by Mine.cz_self
name_quick tw7783732958741208154 for Mine.cz by Mine.cz_self
name_quick tw11518781747449614426 for Mine.cz by Mine.cz_self
name_quick tw6123655918767846522 for Mine.cz by Mine.cz_self
name_quick tw4319416812082413722 for Mine.cz by Mine.cz_self
name_quick tw682011567655089306 for Mine.cz by Mine.cz_self
name_quick tw18131936236247874842 for Mine.cz by Mine.cz_self
name_quick tw4824431525194463578 for Mine.cz by Mine.cz_self
name_quick tw10589684114461592954 for Mine.cz by Mine.cz_self
name_quick tw6648157844845288826 for Mine.cz by Mine.cz_self
name_quick tw7461879971939330490 for Mine.cz by Mine.cz_self
name_quick tw5889167727604068794 for Mine.cz by Mine.cz_self
name_quick tw13424232207471783386 for Mine.cz by Mine.cz_self
name_quick tw8098380416015320538 for Mine.cz by Mine.cz_self
name_quick tw13658505271682890234 for Mine.cz by Mine.cz_self
name_quick tw3355348695024010778 for Mine.cz by Mine.cz_self
name_quick tw10706342367453228570 for Mine.cz by Mine.cz_self
name_quick tw15059462757989803610 for Mine.cz by Mine.cz_self
name_quick tw13070384816801012346 for Mine.cz by Mine.cz_self
name_quick tw15157221202141545114 for Mine.cz by Mine.cz_self
name_quick tw7258234576362860186 for Mine.cz by Mine.cz_self
name_quick tw11519604305632133818 for Mine.cz by Mine.cz_self
name_quick tw16214082829002729210 for Mine.cz by Mine.cz_self
name_quick tw13471461260053382970 for Mine.cz by Mine.cz_self
name_quick tw17382798495522986874 for Mine.cz by Mine.cz_self
name_quick tw10846213317406478298 for Mine.cz by Mine.cz_self
name_quick tw13329733208086693882 for Mine.cz by Mine.cz_self
name_quick tw16723424844129597499 for Mine.cz by Mine.cz_self
name_quick tw4904739604578439355 for Mine.cz by Mine.cz_self
name_quick tw5646442142991981755 for Mine.cz by Mine.cz_self
name_quick tw2088544591296533915 for Mine.cz by Mine.cz_self
name_quick tw11543483234476862875 for Mine.cz by Mine.cz_self
name_quick tw11211347477262721435 for Mine.cz by Mine.cz_self
name_quick tw17497748084772794779 for Mine.cz by Mine.cz_self
name_quick tw950723637873067451 for Mine.cz by Mine.cz_self
name_quick tw396607853666888187 for Mine.cz by Mine.cz_self
name_quick tw10727534119236929211 for Mine.cz by Mine.cz_self
name_quick tw17394056326795013819 for Mine.cz by Mine.cz_self
name_quick tw2302674139485633275 for Mine.cz by Mine.cz_self
name_quick tw16865151637890581275 for Mine.cz by Mine.cz_self
name_quick tw9249553802937061307 for Mine.cz by Mine.cz_self
name_quick tw12440642390943611835 for Mine.cz by Mine.cz_self
name_quick tw5720267713326709755 for Mine.cz by Mine.cz_self
name_quick tw5357591511691535388 for Mine.cz by Mine.cz_self
name_quick tw14427280190107063356 for Mine.cz by Mine.cz_self
name_quick tw3504847659760329788 for Mine.cz by Mine.cz_self
name_quick tw5409283761738284092 for Mine.cz by Mine.cz_self
name_quick tw3148276903521382524 for Mine.cz by Mine.cz_self
name_quick tw16846860572762119324 for Mine.cz by Mine.cz_self
name_quick tw7365555872484859036 for Mine.cz by Mine.cz_self
name_quick tw6654550962395885724 for Mine.cz by Mine.cz_self
name_quick tw17263276799224249500 for Mine.cz by Mine.cz_self
name_quick tw5701610774189311196 for Mine.cz by Mine.cz_self
name_quick tw16658944759067139292 for Mine.cz by Mine.cz_self
name_quick tw2447775223705975068 for Mine.cz by Mine.cz_self
name_quick tw8389248881573145916 for Mine.cz by Mine.cz_self
name_quick tw17100903815162463580 for Mine.cz by Mine.cz_self
name_quick tw14210447440969649564 for Mine.cz by Mine.cz_self
name_quick tw10205541121877940668 for Mine.cz by Mine.cz_self
name_quick tw5607064600570693084 for Mine.cz by Mine.cz_self
name_quick tw17238727255148662236 for Mine.cz by Mine.cz_self
name_quick tw11333186260410459676 for Mine.cz by Mine.cz_self
name_quick tw5994239182223829532 for Mine.cz by Mine.cz_self
name_quick tw6144853644547557980 for Mine.cz by Mine.cz_self
name_quick tw9720828393056574044 for Mine.cz by Mine.cz_self
name_quick tw7745614565497352828 for Mine.cz by Mine.cz_self
name_quick tw7397068168572129948 for Mine.cz by Mine.cz_self
name_quick tw17919728810627054236 for Mine.cz by Mine.cz_self
name_quick tw4287028408620065468 for Mine.cz by Mine.cz_self
name_quick tw4841608483596896988 for Mine.cz by Mine.cz_self
name_quick tw13951257522405164796 for Mine.cz by Mine.cz_self
name_quick tw8058433561772132124 for Mine.cz by Mine.cz_self
name_quick tw1291980286583624508 for Mine.cz by Mine.cz_self
name_quick tw1631149150583789468 for Mine.cz by Mine.cz_self
name_quick tw16643379632663270332 for Mine.cz by Mine.cz_self
name_quick tw18286265847491885052 for Mine.cz by Mine.cz_self
name_quick tw9504726810853072989 for Mine.cz by Mine.cz_self
name_quick tw5032809538720368765 for Mine.cz by Mine.cz_self
name_quick tw18263319221461684349 for Mine.cz by Mine.cz_self
name_quick tw4172830789200971933 for Mine.cz by Mine.cz_self
name_quick tw16326889199254633757 for Mine.cz by Mine.cz_self
name_quick tw11236458984494512445 for Mine.cz by Mine.cz_self
name_quick tw13915792640404377917 for Mine.cz by Mine.cz_self
name_quick tw9130231340562597213 for Mine.cz by Mine.cz_self
name_quick tw12128325577817847261 for Mine.cz by Mine.cz_self
name_quick tw18056578402003937789 for Mine.cz by Mine.cz_self
name_quick tw10093032338203421213 for Mine.cz by Mine.cz_self
name_quick tw11186114360453789277 for Mine.cz by Mine.cz_self
name_quick tw1544652992362985085 for Mine.cz by Mine.cz_self
name_quick tw7469732015759309437 for Mine.cz by Mine.cz_self
name_quick tw7504490480230193789 for Mine.cz by Mine.cz_self
name_quick tw17183712847048597117 for Mine.cz by Mine.cz_self
name_quick tw12049575158971614909 for Mine.cz by Mine.cz_self
name_quick tw1055568401681811165 for Mine.cz by Mine.cz_self
name_quick tw3972328310683599613 for Mine.cz by Mine.cz_self
name_quick tw13759679279233594173 for Mine.cz by Mine.cz_self
name_quick tw16296994325663420285 for Mine.cz by Mine.cz_self
name_quick tw7582166717755450365 for Mine.cz by Mine.cz_self
name_quick tw1771862750571323454 for Mine.cz by Mine.cz_self
name_quick tw10010511219673018494 for Mine.cz by Mine.cz_self
name_quick tw4748654258956052638 for Mine.cz by Mine.cz_self
name_quick tw6917869754434977982 for Mine.cz by Mine.cz_self
name_quick tw2370425770031549630 for Mine.cz by Mine.cz_self
name_quick tw10422997342228622526 for Mine.cz by Mine.cz_self
name_quick tw2736616831223182526 for Mine.cz by Mine.cz_self
name_quick tw7035115661146626270 for Mine.cz by Mine.cz_self
name_quick tw973662469405803806 for Mine.cz by Mine.cz_self
name_quick tw16243683426749602078 for Mine.cz by Mine.cz_self
name_quick tw8162909057868654942 for Mine.cz by Mine.cz_self
name_quick tw325292655437039998 for Mine.cz by Mine.cz_self
name_quick tw17964007177503468958 for Mine.cz by Mine.cz_self
name_quick tw15736541856241217950 for Mine.cz by Mine.cz_self
name_quick tw6380782515089751550 for Mine.cz by Mine.cz_self
name_quick tw830924265138556478 for Mine.cz by Mine.cz_self
name_quick tw3365010085382643294 for Mine.cz by Mine.cz_self
name_quick tw11130039905162102590 for Mine.cz by Mine.cz_self
name_quick tw7641510929779896126 for Mine.cz by Mine.cz_self
name_quick tw1068659041996821342 for Mine.cz by Mine.cz_self
name_quick tw1107438419126420414 for Mine.cz by Mine.cz_self
name_quick tw11328821685186248670 for Mine.cz by Mine.cz_self
name_quick tw10964334890339321822 for Mine.cz by Mine.cz_self
name_quick tw6122645084068987007 for Mine.cz by Mine.cz_self
name_quick tw13746126617404028095 for Mine.cz by Mine.cz_self
name_quick tw12224578244612797663 for Mine.cz by Mine.cz_self
name_quick tw16349804527192203551 for Mine.cz by Mine.cz_self
name_quick tw14843722373977536959 for Mine.cz by Mine.cz_self
name_quick tw16950312913027304927 for Mine.cz by Mine.cz_self
name_quick tw11882691865914478047 for Mine.cz by Mine.cz_self
name_quick tw16495559152270511615 for Mine.cz by Mine.cz_self
name_quick tw12225727855978595839 for Mine.cz by Mine.cz_self
name_quick tw8987815912523675519 for Mine.cz by Mine.cz_self
name_quick tw3054071069301022655 for Mine.cz by Mine.cz_self
name_quick tw11452132507678324671 for Mine.cz by Mine.cz_self
name_quick tw14223099787259518943 for Mine.cz by Mine.cz_self
name_quick tw17370054149142409183 for Mine.cz by Mine.cz_self
name_quick tw9868982950595657695 for Mine.cz by Mine.cz_self
namespace Mine
set_option maxRecDepth 100000 in
set_option maxHeartbeats 8000000 in
open_top hd for PySem.Challenge.rw_fg0013_01
end Mine
end
section
open PySem PySem.W PyProof.Rows PySem.Calls
open PySem.Sem (wp)
set_option maxRecDepth 100000
namespace Mine
theorem topOffW1 : True := by
  w_top off
  trivial
local macro_rules | `(tactic| k_all) => `(tactic| assumption)
local macro_rules | `(tactic| k_room) => `(tactic| ktr_room)
local macro_rules | `(tactic| k_units) => `(tactic| first | ktr_units | ((try dsimp only); (try simp only [units_make, units_deeper, units_in1, Around.mark_units]); omega))
local macro_rules | `(tactic| walk_at "c_fill") => `(tactic| (have kf : PySem.Challenge.rw_fg0013_01 = PySem.Challenge.rw_fg0013_01 ∧ Mine.hd.heap_39 = Mine.hd.heap_39 := (by k_fill; exact ⟨rfl, rfl⟩)); clear kf)
local macro_rules | `(tactic| walk_at "c_enter") => `(tactic| (k_dflt (refine' callC_def ?kBL ?k1 ?k2 ?k3 ?k4 ?k5 ?kA ?kF ?kK ?k6 ?k7 ?k8 ?k9 ?kB ?_ ?c5 ?c2 ?c3 ?c4; (case kBL => assumption); (case kA => exact rfl); (case kF => exact rfl); (case kK => assumption); (case k1 => k_asm); (case k2 => k_asm); (case k3 => k_asm); (case k4 => k_asm); (case k5 => k_asm); (case k6 => k_is); (case k7 => k_is); (case k8 => ktr_room); (case k9 => first | exact BindsTo.of_eq rfl | exact binds_K (by k_in) rfl (by k_is) rfl rfl rfl | (refine' kp_binds ?kx ?ke; (case kx => k_in); (case ke => exact fun _ => rfl))); (case kB => exact locs rfl); (case c5 => decide); (case c2 => exact rfl); (case c3 => exact rfl); (case c4 => exact rfl); k_whole; intro g' L' h' tk' FG' F' N' B' X' T' l1; (try k_lt l1); (try dsimp only))))
local macro_rules | `(tactic| walk_at "c_enter2") => `(tactic| (k_dflt (refine' callC_def ?kBL ?k1 ?k2 ?k3 ?k4 ?k5 ?kA ?kF ?kK ?k6 ?k7 ?k8 ?k9 ?kB ?_ ?c5 ?c2 ?c3 ?c4; (case kA => exact rfl); (case kF => exact rfl); (case kK => exact rfl); (case k1 => k_asm); (case k2 => k_asm); (case k3 => k_asm); (case k4 => k_asm); (case k5 => k_asm); (case k6 => k_is); (case k7 => k_is); (case k8 => ktr_room); (case k9 => first | exact BindsTo.of_eq rfl | exact binds_K (by k_in) rfl (by k_is) rfl rfl rfl | (refine' kp_binds ?kx ?ke; (case kx => k_in); (case ke => exact fun _ => rfl))); (case kB => exact locs rfl); (case kBL => exact bl _); (case c5 => decide); (case c2 => exact rfl); (case c3 => exact rfl); (case c4 => exact rfl); k_whole; intro g' L' h' tk' FG' F' N' B' X' T' l1; (try k_lt l1); (try dsimp only))))
local macro_rules | `(tactic| walk_at "c_both") => `(tactic| (k_dflt (refine' kp_both ?k1 ?k2 ?k3 ?k4 ?k5 ?kA ?kF ?kK ?k6 ?k7 ?k8 ?kV ?kX ?kQ ?kM ?kN ?kD ?kR ?kP ?kS ?kT ?kB ?_ ?c2 ?c3 ?c4 ?c5; (case kA => exact rfl); (case kF => exact rfl); (case kK => assumption); (case k1 => k_asm); (case k2 => k_asm); (case k3 => k_asm); (case k4 => k_asm); (case k5 => k_asm); (case k6 => k_is); (case k7 => k_is); (case k8 => ktr_room); (case kV => kp_lit); (case kX => kp_lit); (case kQ => exact rfl); (case kM => exact rfl); (case kN => exact rfl); (case kD => kp_flats); (case kR => exact rfl); (case kP => exact rfl); (case kS => exact fun _ => rfl); (case kT => exact fun _ _ => rfl); (case kB => exact fun _ _ => locs rfl); (case c5 => decide); (case c2 => exact rfl); (case c3 => exact rfl); (case c4 => exact rfl); k_whole; intro C' D' o' g' L' h' tk' l1 l2 lo' hs' fs' FG' F' N' B' X' T'; (try k_lt l1); (try k_lt2 l2); (try dsimp only))))
local macro_rules | `(tactic| walk_at "call type:type") => `(tactic| (k_here; (with_reducible show wpAny _ _ (call (Value.type "type") [Value.bytes _ _]) _ _ _); refine call_type_of (Tx := "bytes") rfl (by decide +kernel) ?_))
local macro_rules | `(tactic| walk_at "wpC") => `(tactic| (with_reducible refine wpC_any ?_))
local macro_rules | `(tactic| walk_at "wpC") => `(tactic| (with_reducible refine execsC_any ?_))
local macro_rules | `(tactic| walk_at "wpC") => `(tactic| (refine' execsC_nil ?_))
local macro_rules | `(tactic| walk_at "wpC") => `(tactic| ((with_reducible show wpC _ _ (execs _ _) _ _ _); with_reducible refine execsC_cons ?_; refine' wpC_If ?_))
local macro_rules | `(tactic| walk_at "wpC") => `(tactic| ((with_reducible show wpC _ _ (execs _ _) _ _ _); with_reducible refine execsC_cons ?_; refine' wpC_While ?_; refine' codeC_while ?_))
local macro_rules | `(tactic| walk_at "wpC") => `(tactic| ((with_reducible show wpC _ _ (execs _ _) _ _ _); with_reducible refine execsC_cons ?_; refine' wpC_Try ?_))
local macro_rules | `(tactic| walk_at "wpC") => `(tactic| ((with_reducible show wpC _ _ (execs _ _) _ _ _); with_reducible refine execsC_cons ?_; refine' wpC_For ?_ ?hs; (case hs => intro _; with_unfolding_all rfl)))
local macro_rules | `(tactic| walk_at "pyIter ref") => `(tactic| ((with_reducible show wpAny _ _ (pyIter (Value.ref _)) (fun _ _ => codeC _ _ _ _ _) _ _); (with_reducible rename IsRange _ _ _ _ _ _ _ _ => R9); refine wpAny_pyIter_range R9 ?hsmall ?_; (case hsmall => walk_at "c_small")))
local macro_rules | `(tactic| walk_at "wpC") => `(tactic| ((with_reducible show wpC _ _ (execs _ _) _ _ _); with_reducible refine execsC_cons ?_; refine' wpC_Return ?_; refine' evalC_method ?_ ?he; (case he => with_unfolding_all rfl)))
local macro_rules | `(tactic| walk_at "wpC") => `(tactic| ((with_reducible show wpC _ _ (execs _ _) _ _ _); with_reducible refine execsC_cons ?_; refine' wpC_Expr ?_ ?hi ?hs; (case hi => with_unfolding_all rfl); (case hs => with_unfolding_all rfl); refine' evalC_method ?_ ?he; (case he => with_unfolding_all rfl)))
local macro_rules | `(tactic| walk_at "wpC") => `(tactic| ((with_reducible show wpC _ _ (execs _ _) _ _ _); with_reducible refine execsC_cons ?_; refine' wpC_AssignAttr ?_ ?hs; (case hs => with_unfolding_all rfl)))
local macro_rules | `(tactic| walk_at "wpC") => `(tactic| ((with_reducible show wpC _ _ (execs _ _) _ _ _); with_reducible refine execsC_cons ?_; refine' wpC_AssignSub ?_ ?hs; (case hs => with_unfolding_all rfl)))
local macro_rules | `(tactic| walk_at "wpC") => `(tactic| ((with_reducible show wpC _ _ (eval _ _) _ _ _); refine' evalC_ifExp ?_))
local macro_rules | `(tactic| walk_at "wpC") => `(tactic| ((with_reducible show wpC _ _ (eval _ _) _ _ _); refine' evalC_call ?_ ?he; (case he => with_unfolding_all rfl)))
local macro_rules | `(tactic| walk_at "wpC") => `(tactic| ((with_reducible show wpC _ _ (callWith _ _ _ _ _) _ _ _); k_dflt (first | refine' callWithC_T0 ?_ | (refine' callWithC_K0 ?k1 ?k2 ?_; (case k1 => k_in); (case k2 => k_is); k_whole) | (refine' callWithC_K ?k1 ?k2 ?_; (case k1 => k_asm); (case k2 => k_is); k_whole))))
local macro_rules | `(tactic| walk_at "wpC") => `(tactic| ((with_reducible show wpC _ _ (call _ _) _ _ _); k_dflt (show wpC _ _ (call (Value.type "bytearray") []) _ _ _); (with_reducible rename Fr _ _ _ _ => F9); (with_reducible rename News _ _ _ _ => N9); (refine call_baN (s := ⟨_, _, _, _, _⟩) F9 N9 ?_); intro ba' h' F' N' l1; (try k_lt l1)))
local macro_rules | `(tactic| walk_at "wpC") => `(tactic| ((with_reducible show wpC _ _ (setItem (.ref _) (.ref _) (.bytes _ _)) _ _ _); (with_reducible rename Fr _ _ _ _ => F9); (with_reducible rename News _ _ _ _ => N9); refine setItem_N (s := ⟨_, _, _, _, _⟩) F9 N9 (by assumption) (by assumption) (by assumption) (by rw [sizeLine_eq]; omega) ?_; intro _ F' N'))
local macro_rules | `(tactic| walk_at "call builtin:len") => `(tactic| (k_here; (with_reducible show wpAny _ _ (call (Value.builtin "len") [Value.ref _]) _ _ _); (with_reducible rename News _ _ _ _ => N9); refine len_ba (bs := _) (News.get N9 (by repeat (first | exact List.Mem.head _ | apply List.Mem.tail))) (by omega) ?_; have N' := N9; clear N9))
local macro_rules | `(tactic| walk_at "call type:bytes") => `(tactic| (k_here; (with_reducible show wpAny _ _ (call (Value.type "bytes") [Value.ref _]) _ _ _); (with_reducible rename News _ _ _ _ => N9); refine call_bytes_ba (bs := _) (News.get N9 (by repeat (first | exact List.Mem.head _ | apply List.Mem.tail))) (by rw [sizeLine_eq]; first | omega | (simp only [List.size_toArray]; omega)) ?_; have N' := N9; clear N9))
local macro_rules | `(tactic| walk_at "wpC") => `(tactic| ((with_reducible show wpC _ _ (callWith _ (Value.ref _) _ (backTo _ (starEach (_ :: _) _)) _) _ _ _); k_dflt (refine' callWithC_K ?k1 ?k2 ?_; (case k1 => k_asm); (case k2 => k_is); k_whole)))
set_option maxRecDepth 100000 in
set_option maxHeartbeats 4000000 in
theorem write_c {prog : Program} {w : World} {A₀ : Around} {dp un : Nat} {gd : Option (List Code)} {cn : Str} {cs : Scope} {a : Addr} {ccd : Value} {cl : List (Str × Addr)} {outer : List Env} {base h₀ : Heap} {L : Addr} {m mg mb : Str → Option Value} {p : Program} {loose : List Str} {mean : ExcName → Option Value}
    {s : Shared} {Q : Value → Shared → Prop} {x dx ba : Addr} {t1 t2 tp : Nat} {bs b : Array UInt8} {tb : Tok} {rest : List (Addr × Obj)}
    (B : Below A₀ base outer h₀) (F : Fr h₀ L s.heap m) (X : (Mine.hd.heap_39 w.params).In h₀) (T : Top p loose mean mg mb h₀)
    (N : News h₀ L s.heap ((x, instObj 519 dx) :: (dx, bufO w.params t1 t2 ba (.int bs.size tp)) :: (ba, baO bs) :: rest)) (hk : cs.kind = .function)
    (d1 : @Ne Nat x dx) (d2 : @Ne Nat x ba) (d3 : @Ne Nat dx ba) (hr1 : ∀ q ∈ rest, q.1 ≠ dx) (hr2 : ∀ q ∈ rest, q.1 ≠ ba)
    (room : dp + 4 < recursionLimit) (units : un + 40 < cLine) (hz1 : bs.size ≤ 100000) (hz2 : b.size ≤ 100000)
    (ret : ∀ h' (k : Int) t t' tk, Fr h₀ L h' m → News h₀ L h' ((x, instObj 519 dx) :: (dx, bufO w.params t1 t2 ba (.int ((bs ++ b).size : Int) t')) :: (ba, baO (bs ++ b)) :: rest) → Q (.int k t) { s with heap := h', toks := tk }) :
    wpC (model prog w) (ktrTop dp un gd cn cs L a ccd cl outer) (call (.ref 502) [.ref x, .bytes b tb]) Q nE s := by
  walk_at "c_fill"
  refine wpC_call ?_
  have hbl := bl [(Str.ofString "self", .ref x), (Str.ofString "b", .bytes b tb)]
  walk_at "c_enter"
  k_steps
  · have e : b = #[] := Array.eq_empty_of_size_eq_zero (by omega)
    subst e
    refine ret _ _ _ tp _ (by assumption) ?_
    rw [Array.append_empty]
    assumption
  · have e2 : (((bs ++ b).size : Nat) : Int) = (bs.size : Int) + b.size := by rw [Array.size_append]; exact Int.natCast_add _ _
    refine' ret _ _ _ ?t _ (by assumption) ?n
    (case n => rw [e2]; assumption)
end Mine
end
section
open PySem PySem.W PyProof.Rows PySem.Calls
open PySem.Sem (wp)
set_option maxRecDepth 100000
namespace Mine
theorem topOffW2 : True := by
  w_top off
  trivial
local macro_rules | `(tactic| k_all) => `(tactic| assumption)
local macro_rules | `(tactic| k_room) => `(tactic| ktr_room)
local macro_rules | `(tactic| k_units) => `(tactic| first | ktr_units | ((try dsimp only); (try simp only [units_make, units_deeper, units_in1, Around.mark_units]); omega))
local macro_rules | `(tactic| walk_at "c_fill") => `(tactic| (have kf : PySem.Challenge.rw_fg0013_01 = PySem.Challenge.rw_fg0013_01 ∧ Mine.hd.heap_39 = Mine.hd.heap_39 := (by k_fill; exact ⟨rfl, rfl⟩)); clear kf)
local macro_rules | `(tactic| walk_at "c_enter") => `(tactic| (k_dflt (refine' callC_def ?kBL ?k1 ?k2 ?k3 ?k4 ?k5 ?kA ?kF ?kK ?k6 ?k7 ?k8 ?k9 ?kB ?_ ?c5 ?c2 ?c3 ?c4; (case kBL => assumption); (case kA => exact rfl); (case kF => exact rfl); (case kK => assumption); (case k1 => k_asm); (case k2 => k_asm); (case k3 => k_asm); (case k4 => k_asm); (case k5 => k_asm); (case k6 => k_is); (case k7 => k_is); (case k8 => ktr_room); (case k9 => first | exact BindsTo.of_eq rfl | exact binds_K (by k_in) rfl (by k_is) rfl rfl rfl | (refine' kp_binds ?kx ?ke; (case kx => k_in); (case ke => exact fun _ => rfl))); (case kB => exact locs rfl); (case c5 => decide); (case c2 => exact rfl); (case c3 => exact rfl); (case c4 => exact rfl); k_whole; intro g' L' h' tk' FG' F' N' B' X' T' l1; (try k_lt l1); (try dsimp only))))
local macro_rules | `(tactic| walk_at "c_enter2") => `(tactic| (k_dflt (refine' callC_def ?kBL ?k1 ?k2 ?k3 ?k4 ?k5 ?kA ?kF ?kK ?k6 ?k7 ?k8 ?k9 ?kB ?_ ?c5 ?c2 ?c3 ?c4; (case kA => exact rfl); (case kF => exact rfl); (case kK => exact rfl); (case k1 => k_asm); (case k2 => k_asm); (case k3 => k_asm); (case k4 => k_asm); (case k5 => k_asm); (case k6 => k_is); (case k7 => k_is); (case k8 => ktr_room); (case k9 => first | exact BindsTo.of_eq rfl | exact binds_K (by k_in) rfl (by k_is) rfl rfl rfl | (refine' kp_binds ?kx ?ke; (case kx => k_in); (case ke => exact fun _ => rfl))); (case kB => exact locs rfl); (case kBL => exact bl _); (case c5 => decide); (case c2 => exact rfl); (case c3 => exact rfl); (case c4 => exact rfl); k_whole; intro g' L' h' tk' FG' F' N' B' X' T' l1; (try k_lt l1); (try dsimp only))))
local macro_rules | `(tactic| walk_at "c_both") => `(tactic| (k_dflt (refine' kp_both ?k1 ?k2 ?k3 ?k4 ?k5 ?kA ?kF ?kK ?k6 ?k7 ?k8 ?kV ?kX ?kQ ?kM ?kN ?kD ?kR ?kP ?kS ?kT ?kB ?_ ?c2 ?c3 ?c4 ?c5; (case kA => exact rfl); (case kF => exact rfl); (case kK => assumption); (case k1 => k_asm); (case k2 => k_asm); (case k3 => k_asm); (case k4 => k_asm); (case k5 => k_asm); (case k6 => k_is); (case k7 => k_is); (case k8 => ktr_room); (case kV => kp_lit); (case kX => kp_lit); (case kQ => exact rfl); (case kM => exact rfl); (case kN => exact rfl); (case kD => kp_flats); (case kR => exact rfl); (case kP => exact rfl); (case kS => exact fun _ => rfl); (case kT => exact fun _ _ => rfl); (case kB => exact fun _ _ => locs rfl); (case c5 => decide); (case c2 => exact rfl); (case c3 => exact rfl); (case c4 => exact rfl); k_whole; intro C' D' o' g' L' h' tk' l1 l2 lo' hs' fs' FG' F' N' B' X' T'; (try k_lt l1); (try k_lt2 l2); (try dsimp only))))
local macro_rules | `(tactic| walk_at "call type:type") => `(tactic| (k_here; (with_reducible show wpAny _ _ (call (Value.type "type") [Value.bytes _ _]) _ _ _); refine call_type_of (Tx := "bytes") rfl (by decide +kernel) ?_))
local macro_rules | `(tactic| walk_at "wpC") => `(tactic| (with_reducible refine wpC_any ?_))
local macro_rules | `(tactic| walk_at "wpC") => `(tactic| (with_reducible refine execsC_any ?_))
local macro_rules | `(tactic| walk_at "wpC") => `(tactic| (refine' execsC_nil ?_))
local macro_rules | `(tactic| walk_at "wpC") => `(tactic| ((with_reducible show wpC _ _ (execs _ _) _ _ _); with_reducible refine execsC_cons ?_; refine' wpC_If ?_))
local macro_rules | `(tactic| walk_at "wpC") => `(tactic| ((with_reducible show wpC _ _ (execs _ _) _ _ _); with_reducible refine execsC_cons ?_; refine' wpC_While ?_; refine' codeC_while ?_))
local macro_rules | `(tactic| walk_at "wpC") => `(tactic| ((with_reducible show wpC _ _ (execs _ _) _ _ _); with_reducible refine execsC_cons ?_; refine' wpC_Try ?_))
local macro_rules | `(tactic| walk_at "wpC") => `(tactic| ((with_reducible show wpC _ _ (execs _ _) _ _ _); with_reducible refine execsC_cons ?_; refine' wpC_For ?_ ?hs; (case hs => intro _; with_unfolding_all rfl)))
local macro_rules | `(tactic| walk_at "pyIter ref") => `(tactic| ((with_reducible show wpAny _ _ (pyIter (Value.ref _)) (fun _ _ => codeC _ _ _ _ _) _ _); (with_reducible rename IsRange _ _ _ _ _ _ _ _ => R9); refine wpAny_pyIter_range R9 ?hsmall ?_; (case hsmall => walk_at "c_small")))
local macro_rules | `(tactic| walk_at "wpC") => `(tactic| ((with_reducible show wpC _ _ (execs _ _) _ _ _); with_reducible refine execsC_cons ?_; refine' wpC_Return ?_; refine' evalC_method ?_ ?he; (case he => with_unfolding_all rfl)))
local macro_rules | `(tactic| walk_at "wpC") => `(tactic| ((with_reducible show wpC _ _ (execs _ _) _ _ _); with_reducible refine execsC_cons ?_; refine' wpC_Expr ?_ ?hi ?hs; (case hi => with_unfolding_all rfl); (case hs => with_unfolding_all rfl); refine' evalC_method ?_ ?he; (case he => with_unfolding_all rfl)))
local macro_rules | `(tactic| walk_at "wpC") => `(tactic| ((with_reducible show wpC _ _ (execs _ _) _ _ _); with_reducible refine execsC_cons ?_; refine' wpC_AssignAttr ?_ ?hs; (case hs => with_unfolding_all rfl)))
local macro_rules | `(tactic| walk_at "wpC") => `(tactic| ((with_reducible show wpC _ _ (execs _ _) _ _ _); with_reducible refine execsC_cons ?_; refine' wpC_AssignSub ?_ ?hs; (case hs => with_unfolding_all rfl)))
local macro_rules | `(tactic| walk_at "wpC") => `(tactic| ((with_reducible show wpC _ _ (eval _ _) _ _ _); refine' evalC_ifExp ?_))
local macro_rules | `(tactic| walk_at "wpC") => `(tactic| ((with_reducible show wpC _ _ (eval _ _) _ _ _); refine' evalC_call ?_ ?he; (case he => with_unfolding_all rfl)))
local macro_rules | `(tactic| walk_at "wpC") => `(tactic| ((with_reducible show wpC _ _ (callWith _ _ _ _ _) _ _ _); k_dflt (first | refine' callWithC_T0 ?_ | (refine' callWithC_K0 ?k1 ?k2 ?_; (case k1 => k_in); (case k2 => k_is); k_whole) | (refine' callWithC_K ?k1 ?k2 ?_; (case k1 => k_asm); (case k2 => k_is); k_whole))))
local macro_rules | `(tactic| walk_at "wpC") => `(tactic| ((with_reducible show wpC _ _ (call _ _) _ _ _); k_dflt (show wpC _ _ (call (Value.type "bytearray") []) _ _ _); (with_reducible rename Fr _ _ _ _ => F9); (with_reducible rename News _ _ _ _ => N9); (refine call_baN (s := ⟨_, _, _, _, _⟩) F9 N9 ?_); intro ba' h' F' N' l1; (try k_lt l1)))
local macro_rules | `(tactic| walk_at "wpC") => `(tactic| ((with_reducible show wpC _ _ (setItem (.ref _) (.ref _) (.bytes _ _)) _ _ _); (with_reducible rename Fr _ _ _ _ => F9); (with_reducible rename News _ _ _ _ => N9); refine setItem_N (s := ⟨_, _, _, _, _⟩) F9 N9 (by assumption) (by assumption) (by assumption) (by rw [sizeLine_eq]; omega) ?_; intro _ F' N'))
local macro_rules | `(tactic| walk_at "call builtin:len") => `(tactic| (k_here; (with_reducible show wpAny _ _ (call (Value.builtin "len") [Value.ref _]) _ _ _); (with_reducible rename News _ _ _ _ => N9); refine len_ba (bs := _) (News.get N9 (by repeat (first | exact List.Mem.head _ | apply List.Mem.tail))) (by omega) ?_; have N' := N9; clear N9))
local macro_rules | `(tactic| walk_at "call type:bytes") => `(tactic| (k_here; (with_reducible show wpAny _ _ (call (Value.type "bytes") [Value.ref _]) _ _ _); (with_reducible rename News _ _ _ _ => N9); refine call_bytes_ba (bs := _) (News.get N9 (by repeat (first | exact List.Mem.head _ | apply List.Mem.tail))) (by rw [sizeLine_eq]; first | omega | (simp only [List.size_toArray]; omega)) ?_; have N' := N9; clear N9))
local macro_rules | `(tactic| walk_at "wpC") => `(tactic| ((with_reducible show wpC _ _ (callWith _ (Value.ref _) _ (backTo _ (starEach (_ :: _) _)) _) _ _ _); k_dflt (refine' callWithC_K ?k1 ?k2 ?_; (case k1 => k_asm); (case k2 => k_is); k_whole)))
theorem made519 {prog : Program} {w : World} {h : Heap} (X : (Mine.hd.heap_39 w.params).In h) : Looks (model prog w) h (Bind.madeBy (.ref 519)) none := Looks.of_peek X (by kernel_rfl)
theorem here519 {prog : Program} {w : World} {h : Heap} (X : (Mine.hd.heap_39 w.params).In h) : Looks (model prog w) h (Bind.madeHere "object.__new__" (.ref 519)) () := Looks.of_peek X (by kernel_rfl)
theorem call519 {prog : Program} {w : World} {h : Heap} (X : (Mine.hd.heap_39 w.params).In h) : Looks (model prog w) h (specialOf (.ref 519) "__call__") (some (.builtin "type.__call__")) := Looks.of_peek X (by kernel_rfl)
theorem typ519 {prog : Program} {w : World} {h : Heap} (X : (Mine.hd.heap_39 w.params).In h) : Looks (model prog w) h (isInstance (.ref 519) (.type "type")) true := Looks.of_peek X (by kernel_rfl)
theorem sub519 {prog : Program} {w : World} {h : Heap} (X : (Mine.hd.heap_39 w.params).In h) : Looks (model prog w) h (isSubtype (.ref 519) (.ref 519)) true := Looks.of_peek X (by kernel_rfl)
theorem top519 {prog : Program} {w : World} {h : Heap} (X : (Mine.hd.heap_39 w.params).In h) : Looks (model prog w) h (isSubtype (.ref 519) (.type "object")) true := Looks.of_peek X (by kernel_rfl)
theorem init519 {prog : Program} {w : World} {h : Heap} (X : (Mine.hd.heap_39 w.params).In h) : Looks (model prog w) h (typeLookup (.ref 519) "__init__") (some (.ref 306)) := Looks.of_peek X (by kernel_rfl)
theorem cls519 {w : World} {h : Heap} (X : (Mine.hd.heap_39 w.params).In h) : ∃ oc od cd sl, h.get? 519 = some ⟨oc, od, .cls cd, sl⟩ ∧ cd.mro.isEmpty = false ∧ cd.abstract = false ∧ cd.hasDel = false := cls_of X (by kernel_rfl)
theorem base519 {prog : Program} {w : World} {h : Heap} (X : (Mine.hd.heap_39 w.params).In h) : Looks (model prog w) h (Bind.staticBase (.ref 519)) (.type "object") := Looks.of_peek X (by kernel_rfl)
theorem madeO {prog : Program} {w : World} {h : Heap} (X : (Mine.hd.heap_39 w.params).In h) : Looks (model prog w) h (Bind.madeBy (.type "object")) (some "object.__new__") := Looks.of_peek X (by kernel_rfl)
theorem new519 {prog : Program} {w : World} {A : Around} {E : Value → Shared → Prop} {s : Shared} {g : Heap} {L : Addr} {m : Str → Option Value} {news : List (Addr × Obj)} {Q : Value → Shared → Prop} (F : Fr g L s.heap m) (N : News g L s.heap news) (X : (Mine.hd.heap_39 w.params).In g)
    (h : ∀ x dx h', Fr g L h' m → News g L h' ((x, instObj 519 dx) :: (dx, dictOf [] 0) :: news) → (∀ q ∈ news, q.1 < dx) → dx < x → Q (.ref x) { s with heap := h' }) :
    wpAny (model prog w) A (call (.builtin "object.__new__") [.ref 519]) Q E s := by
  have X' := X.keeps F.keep
  obtain ⟨oc, od, cd, sl, hC, _, e1, e2⟩ := cls519 X'
  exact new_U F N hC e1 e2 (base519 X') (madeO X') (sub519 X') (top519 X') (typ519 X') h
local macro_rules | `(tactic| walk_at "call builtin:object.__new__") => `(tactic| (k_here; (with_reducible show wpAny _ _ (call (Value.builtin "object.__new__") [Value.ref _]) _ _ _); k_dflt (refine' new519 ?k1 ?k2 ?k3 ?_; (case k1 => k_asm); (case k2 => k_asm); (case k3 => k_asm); k_whole; intro x' d' h' F' N' l1 l2; (try k_lt l1); (try k_lt2 l2); (try k_sweep))))
theorem inst519 {prog : Program} {w : World} {h g : Heap} {L : Addr} {news : List (Addr × Obj)} {x dx : Addr} (N : News g L h news) (X : (Mine.hd.heap_39 w.params).In h) (hm : (x, instObj 519 dx) ∈ news) :
    Looks (model prog w) h (isInstance (.ref x) (.ref 519)) true ∧ Looks (model prog w) h (specialOf (.ref x) "__init__") (some (.ref 306)) ∧ Looks (model prog w) h (bindSpecial (.ref 306) (.ref x)) (.ref 306, [.ref x]) :=
  have t : Looks (model prog w) h (typeOf (.ref x)) (.ref 519) := (Looks.ld (N.get hm)).andThen .now
  ⟨t.andThen (sub519 X), t.andThen (init519 X), bind_fn X _ (by kernel_rfl)⟩
theorem news_rot {g h : Heap} {L : Addr} {p1 p2 p3 : Addr × Obj} {rest : List (Addr × Obj)} (N : News g L h (p3 :: p1 :: p2 :: rest)) : News g L h (p1 :: p2 :: p3 :: rest) := fun q hq => N q (by
  simp only [List.mem_cons] at hq ⊢
  rcases hq with h | h | h | h
  · exact .inr (.inl h)
  · exact .inr (.inr (.inl h))
  · exact .inl h
  · exact .inr (.inr (.inr h)))
theorem lt_ofAll {d : Nat} : ∀ {l : List (Addr × Obj)}, AllLt d l → ∀ q ∈ l, @LT.lt Nat _ q.1 d
  | [], _, _, hq => nomatch hq
  | _ :: _, h, _, hq => (List.mem_cons.mp hq).elim (fun e => e ▸ h.1) fun e => lt_ofAll h.2 _ e
set_option maxRecDepth 100000 in
set_option maxHeartbeats 4000000 in
theorem new_c {prog : Program} {w : World} {A₀ : Around} {dp un : Nat} {gd : Option (List Code)} {cn : Str} {cs : Scope} {a : Addr} {ccd : Value} {cl : List (Str × Addr)} {outer : List Env} {base h₀ : Heap} {L : Addr} {m mg mb : Str → Option Value} {p : Program} {loose : List Str} {mean : ExcName → Option Value}
    {s : Shared} {Q : Value → Shared → Prop} {rest : List (Addr × Obj)}
    (B : Below A₀ base outer h₀) (F : Fr h₀ L s.heap m) (X : (Mine.hd.heap_39 w.params).In h₀) (T : Top p loose mean mg mb h₀)
    (N : News h₀ L s.heap rest) (hk : cs.kind = .function) (room : dp + 6 < recursionLimit) (units : un + 100 < cLine)
    (ret : ∀ x dx h' tk, @LT.lt Nat _ dx x → (∀ q ∈ rest, @LT.lt Nat _ q.1 dx) → Fr h₀ L h' m → News h₀ L h' ((x, instObj 519 dx) :: (dx, dictOf [] 0) :: rest) → Q (.ref x) { s with heap := h', toks := tk }) :
    wpAny (model prog w) ((ktrTop dp un gd cn cs L a ccd cl outer).under (.builtin "type.__call__" ⟨[.ref 519], []⟩)) (call (.ref 259) [.ref 519]) Q nE s := by
  walk_at "c_fill"
  refine wpAny_call ?_
  walk_at "c_both"
  k_steps
  have l9 := ‹@LT.lt Nat _ _ _ ∧ @LT.lt Nat _ _ _ ∧ AllLt _ rest›
  refine ret _ _ _ _ (by assumption) (lt_ofAll l9.2.2) (by assumption) ?_
  intro q hq
  refine (by assumption : News h₀ L _ (_ :: _ :: _ :: _ :: rest)) q ?_
  rcases List.mem_cons.mp hq with rfl | hq
  · exact .head _
  · rcases List.mem_cons.mp hq with rfl | hq
    · exact .tail _ (.head _)
    · exact .tail _ (.tail _ (.tail _ (.tail _ hq)))
set_option maxRecDepth 100000 in
set_option maxHeartbeats 4000000 in
theorem bytesio_c {prog : Program} {w : World} {A₀ : Around} {dp un : Nat} {gd : Option (List Code)} {cn : Str} {cs : Scope} {a : Addr} {ccd : Value} {cl : List (Str × Addr)} {outer : List Env} {base h₀ : Heap} {L : Addr} {m mg mb : Str → Option Value} {p : Program} {loose : List Str} {mean : ExcName → Option Value}
    {s : Shared} {Q : Value → Shared → Prop} {rest : List (Addr × Obj)}
    (B : Below A₀ base outer h₀) (F : Fr h₀ L s.heap m) (X : (Mine.hd.heap_39 w.params).In h₀) (T : Top p loose mean mg mb h₀)
    (N : News h₀ L s.heap rest) (hk : cs.kind = .function) (room : dp + 6 < recursionLimit) (units : un + 100 < cLine)
    (ret : ∀ x dx ba h' t1 t2 tp tk, (∀ q ∈ rest, @LT.lt Nat _ q.1 dx) → @LT.lt Nat _ dx x → @LT.lt Nat _ x ba → Fr h₀ L h' m →
      News h₀ L h' ((x, instObj 519 dx) :: (dx, bufO w.params t1 t2 ba (.int 0 tp)) :: (ba, baO #[]) :: rest) → Q (.ref x) { s with heap := h', toks := tk }) :
    wpC (model prog w) (ktrTop dp un gd cn cs L a ccd cl outer) (call (.ref 519) []) Q nE s := by
  walk_at "c_fill"
  have X' := X.keeps F.keep
  obtain ⟨oc, od, cd, sl, hC, ne, _, _⟩ := cls519 X'
  refine callC_cls hC ne (call519 X') (typ519 X') (made519 X') ?_
  dsimp only
  k_steps
  refine new_c (s := ⟨_, _, _, _, _⟩) B F X T N hk room units fun x dx h' tk l1 l2 F N => ?_
  have X9 := X.keeps F.keep
  obtain ⟨i1, i2, i3⟩ := inst519 (prog := prog) N X9 (.head _)
  refine ⟨_, i1, i2, i3, ?_⟩
  refine wpC_call ?_
  have hbl := bl [(Str.ofString "self", .ref x), (Str.ofString "initial_bytes", .none)]
  walk_at "c_enter"
  k_steps
  refine ret x dx _ _ _ _ _ _ l2 (by omega) ?_ ?_ (news_rot (by assumption))
  · omega
  · assumption
end Mine
end
section
open PySem PySem.W PyProof.Rows PySem.Calls
open PySem.Sem (wp)
set_option maxRecDepth 100000
namespace Mine
theorem topOffW3 : True := by
  w_top off
  trivial
local macro_rules | `(tactic| walk_at "c_none") => `(tactic| skip)
local macro_rules | `(tactic| k_all) => `(tactic| assumption)
local macro_rules | `(tactic| k_room) => `(tactic| ktr_room)
local macro_rules | `(tactic| k_units) => `(tactic| first | ktr_units | ((try dsimp only); (try simp only [units_make, units_deeper, units_in1, Around.mark_units]); omega))
local macro_rules | `(tactic| walk_at "c_fill") => `(tactic| (have kf : PySem.Challenge.rw_fg0013_01 = PySem.Challenge.rw_fg0013_01 ∧ Mine.hd.heap_39 = Mine.hd.heap_39 := (by k_fill; exact ⟨rfl, rfl⟩)); clear kf)
local macro_rules | `(tactic| walk_at "c_enter") => `(tactic| (k_dflt (refine' callC_def ?kBL ?k1 ?k2 ?k3 ?k4 ?k5 ?kA ?kF ?kK ?k6 ?k7 ?k8 ?k9 ?kB ?_ ?c5 ?c2 ?c3 ?c4; (case kBL => assumption); (case kA => exact rfl); (case kF => exact rfl); (case kK => assumption); (case k1 => k_asm); (case k2 => k_asm); (case k3 => k_asm); (case k4 => k_asm); (case k5 => k_asm); (case k6 => k_is); (case k7 => k_is); (case k8 => ktr_room); (case k9 => first | exact BindsTo.of_eq rfl | exact binds_K (by k_in) rfl (by k_is) rfl rfl rfl | (refine' kp_binds ?kx ?ke; (case kx => k_in); (case ke => exact fun _ => rfl))); (case kB => exact locs rfl); (case c5 => decide); (case c2 => exact rfl); (case c3 => exact rfl); (case c4 => exact rfl); k_whole; intro g' L' h' tk' FG' F' N' B' X' T' l1; (try k_lt l1); (try dsimp only))))
local macro_rules | `(tactic| walk_at "c_enter2") => `(tactic| (k_dflt (refine' callC_def ?kBL ?k1 ?k2 ?k3 ?k4 ?k5 ?kA ?kF ?kK ?k6 ?k7 ?k8 ?k9 ?kB ?_ ?c5 ?c2 ?c3 ?c4; (case kA => exact rfl); (case kF => exact rfl); (case kK => exact rfl); (case k1 => k_asm); (case k2 => k_asm); (case k3 => k_asm); (case k4 => k_asm); (case k5 => k_asm); (case k6 => k_is); (case k7 => k_is); (case k8 => ktr_room); (case k9 => first | exact BindsTo.of_eq rfl | exact binds_K (by k_in) rfl (by k_is) rfl rfl rfl | (refine' kp_binds ?kx ?ke; (case kx => k_in); (case ke => exact fun _ => rfl))); (case kB => exact locs rfl); (case kBL => exact bl _); (case c5 => decide); (case c2 => exact rfl); (case c3 => exact rfl); (case c4 => exact rfl); k_whole; intro g' L' h' tk' FG' F' N' B' X' T' l1; (try k_lt l1); (try dsimp only))))
local macro_rules | `(tactic| walk_at "c_both") => `(tactic| (k_dflt (refine' kp_both ?k1 ?k2 ?k3 ?k4 ?k5 ?kA ?kF ?kK ?k6 ?k7 ?k8 ?kV ?kX ?kQ ?kM ?kN ?kD ?kR ?kP ?kS ?kT ?kB ?_ ?c2 ?c3 ?c4 ?c5; (case kA => exact rfl); (case kF => exact rfl); (case kK => assumption); (case k1 => k_asm); (case k2 => k_asm); (case k3 => k_asm); (case k4 => k_asm); (case k5 => k_asm); (case k6 => k_is); (case k7 => k_is); (case k8 => ktr_room); (case kV => kp_lit); (case kX => kp_lit); (case kQ => exact rfl); (case kM => exact rfl); (case kN => exact rfl); (case kD => kp_flats); (case kR => exact rfl); (case kP => exact rfl); (case kS => exact fun _ => rfl); (case kT => exact fun _ _ => rfl); (case kB => exact fun _ _ => locs rfl); (case c5 => decide); (case c2 => exact rfl); (case c3 => exact rfl); (case c4 => exact rfl); k_whole; intro C' D' o' g' L' h' tk' l1 l2 lo' hs' fs' FG' F' N' B' X' T'; (try k_lt l1); (try k_lt2 l2); (try dsimp only))))
local macro_rules | `(tactic| walk_at "call type:type") => `(tactic| (k_here; (with_reducible show wpAny _ _ (call (Value.type "type") [Value.bytes _ _]) _ _ _); refine call_type_of (Tx := "bytes") rfl (by decide +kernel) ?_))
local macro_rules | `(tactic| walk_at "wpC") => `(tactic| (with_reducible refine wpC_any ?_))
local macro_rules | `(tactic| walk_at "wpC") => `(tactic| (with_reducible refine execsC_any ?_))
local macro_rules | `(tactic| walk_at "wpC") => `(tactic| (refine' execsC_nil ?_))
local macro_rules | `(tactic| walk_at "wpC") => `(tactic| ((with_reducible show wpC _ _ (execs _ _) _ _ _); with_reducible refine execsC_cons ?_; refine' wpC_If ?_))
local macro_rules | `(tactic| walk_at "wpC") => `(tactic| ((with_reducible show wpC _ _ (execs _ _) _ _ _); with_reducible refine execsC_cons ?_; refine' wpC_While ?_; refine' codeC_while ?_))
local macro_rules | `(tactic| walk_at "wpC") => `(tactic| ((with_reducible show wpC _ _ (execs _ _) _ _ _); with_reducible refine execsC_cons ?_; refine' wpC_Try ?_))
local macro_rules | `(tactic| walk_at "wpC") => `(tactic| ((with_reducible show wpC _ _ (execs _ _) _ _ _); with_reducible refine execsC_cons ?_; refine' wpC_For ?_ ?hs; (case hs => intro _; with_unfolding_all rfl)))
local macro_rules | `(tactic| walk_at "pyIter ref") => `(tactic| ((with_reducible show wpAny _ _ (pyIter (Value.ref _)) (fun _ _ => codeC _ _ _ _ _) _ _); (with_reducible rename IsRange _ _ _ _ _ _ _ _ => R9); refine wpAny_pyIter_range R9 ?hsmall ?_; (case hsmall => walk_at "c_small")))
local macro_rules | `(tactic| walk_at "wpC") => `(tactic| ((with_reducible show wpC _ _ (execs _ _) _ _ _); with_reducible refine execsC_cons ?_; refine' wpC_Return ?_; refine' evalC_method ?_ ?he; (case he => with_unfolding_all rfl)))
local macro_rules | `(tactic| walk_at "wpC") => `(tactic| ((with_reducible show wpC _ _ (execs _ _) _ _ _); with_reducible refine execsC_cons ?_; refine' wpC_Expr ?_ ?hi ?hs; (case hi => with_unfolding_all rfl); (case hs => with_unfolding_all rfl); refine' evalC_method ?_ ?he; (case he => with_unfolding_all rfl)))
local macro_rules | `(tactic| walk_at "wpC") => `(tactic| ((with_reducible show wpC _ _ (execs _ _) _ _ _); with_reducible refine execsC_cons ?_; refine' wpC_AssignAttr ?_ ?hs; (case hs => with_unfolding_all rfl)))
local macro_rules | `(tactic| walk_at "wpC") => `(tactic| ((with_reducible show wpC _ _ (execs _ _) _ _ _); with_reducible refine execsC_cons ?_; refine' wpC_AssignSub ?_ ?hs; (case hs => with_unfolding_all rfl)))
local macro_rules | `(tactic| walk_at "wpC") => `(tactic| ((with_reducible show wpC _ _ (eval _ _) _ _ _); refine' evalC_ifExp ?_))
local macro_rules | `(tactic| walk_at "wpC") => `(tactic| ((with_reducible show wpC _ _ (eval _ _) _ _ _); refine' evalC_call ?_ ?he; (case he => with_unfolding_all rfl)))
local macro_rules | `(tactic| walk_at "wpC") => `(tactic| ((with_reducible show wpC _ _ (callWith _ _ _ _ _) _ _ _); k_dflt (first | refine' callWithC_T0 ?_ | (refine' callWithC_K0 ?k1 ?k2 ?_; (case k1 => k_in); (case k2 => k_is); k_whole) | (refine' callWithC_K ?k1 ?k2 ?_; (case k1 => k_asm); (case k2 => k_is); k_whole))))
local macro_rules | `(tactic| walk_at "wpC") => `(tactic| ((with_reducible show wpC _ _ (call _ _) _ _ _); k_dflt (show wpC _ _ (call (Value.type "bytearray") []) _ _ _); (with_reducible rename Fr _ _ _ _ => F9); (with_reducible rename News _ _ _ _ => N9); (refine call_baN (s := ⟨_, _, _, _, _⟩) F9 N9 ?_); intro ba' h' F' N' l1; (try k_lt l1)))
local macro_rules | `(tactic| walk_at "wpC") => `(tactic| ((with_reducible show wpC _ _ (setItem (.ref _) (.ref _) (.bytes _ _)) _ _ _); (with_reducible rename Fr _ _ _ _ => F9); (with_reducible rename News _ _ _ _ => N9); refine setItem_N (s := ⟨_, _, _, _, _⟩) F9 N9 (by assumption) (by assumption) (by assumption) (by rw [sizeLine_eq]; omega) ?_; intro _ F' N'))
local macro_rules | `(tactic| walk_at "call builtin:len") => `(tactic| (k_here; (with_reducible show wpAny _ _ (call (Value.builtin "len") [Value.ref _]) _ _ _); (with_reducible rename News _ _ _ _ => N9); refine len_ba (bs := _) (News.get N9 (by repeat (first | exact List.Mem.head _ | apply List.Mem.tail))) (by omega) ?_; have N' := N9; clear N9))
local macro_rules | `(tactic| walk_at "call type:bytes") => `(tactic| (k_here; (with_reducible show wpAny _ _ (call (Value.type "bytes") [Value.ref _]) _ _ _); (with_reducible rename News _ _ _ _ => N9); refine call_bytes_ba (bs := _) (News.get N9 (by repeat (first | exact List.Mem.head _ | apply List.Mem.tail))) (by rw [sizeLine_eq]; first | omega | (simp only [List.size_toArray]; omega)) ?_; have N' := N9; clear N9))
local macro_rules | `(tactic| walk_at "wpC") => `(tactic| ((with_reducible show wpC _ _ (callWith _ (Value.ref _) _ (backTo _ (starEach (_ :: _) _)) _) _ _ _); k_dflt (refine' callWithC_K ?k1 ?k2 ?_; (case k1 => k_asm); (case k2 => k_is); k_whole)))
theorem made879 {prog : Program} {w : World} {h : Heap} (X : (Mine.hd.heap_39 w.params).In h) : Looks (model prog w) h (Bind.madeBy (.ref 879)) (some "object.__new__") := Looks.of_peek X (by kernel_rfl)
theorem base879 {prog : Program} {w : World} {h : Heap} (X : (Mine.hd.heap_39 w.params).In h) : Looks (model prog w) h (Bind.staticBase (.ref 879)) (.ref 879) := Looks.of_peek X (by kernel_rfl)
theorem call879 {prog : Program} {w : World} {h : Heap} (X : (Mine.hd.heap_39 w.params).In h) : Looks (model prog w) h (specialOf (.ref 879) "__call__") (some (.builtin "type.__call__")) := Looks.of_peek X (by kernel_rfl)
theorem typ879 {prog : Program} {w : World} {h : Heap} (X : (Mine.hd.heap_39 w.params).In h) : Looks (model prog w) h (isInstance (.ref 879) (.type "type")) true := Looks.of_peek X (by kernel_rfl)
theorem sub879 {prog : Program} {w : World} {h : Heap} (X : (Mine.hd.heap_39 w.params).In h) : Looks (model prog w) h (isSubtype (.ref 879) (.ref 879)) true := Looks.of_peek X (by kernel_rfl)
theorem top879 {prog : Program} {w : World} {h : Heap} (X : (Mine.hd.heap_39 w.params).In h) : Looks (model prog w) h (isSubtype (.ref 879) (.type "object")) true := Looks.of_peek X (by kernel_rfl)
theorem init879 {prog : Program} {w : World} {h : Heap} (X : (Mine.hd.heap_39 w.params).In h) : Looks (model prog w) h (typeLookup (.ref 879) "__init__") (some (.ref 783)) := Looks.of_peek X (by kernel_rfl)
theorem cls879 {w : World} {h : Heap} (X : (Mine.hd.heap_39 w.params).In h) : ∃ oc od cd sl, h.get? 879 = some ⟨oc, od, .cls cd, sl⟩ ∧ cd.mro.isEmpty = false ∧ cd.abstract = false ∧ cd.hasDel = false := cls_of X (by kernel_rfl)
theorem inst879 {prog : Program} {w : World} {h g : Heap} {L : Addr} {news : List (Addr × Obj)} {x dx : Addr} (N : News g L h news) (X : (Mine.hd.heap_39 w.params).In h) (hm : (x, instObj 879 dx) ∈ news) :
    Looks (model prog w) h (isInstance (.ref x) (.ref 879)) true ∧ Looks (model prog w) h (specialOf (.ref x) "__init__") (some (.ref 783)) ∧ Looks (model prog w) h (bindSpecial (.ref 783) (.ref x)) (.ref 783, [.ref x]) :=
  have t : Looks (model prog w) h (typeOf (.ref x)) (.ref 879) := (Looks.ld (N.get hm)).andThen .now
  ⟨t.andThen (sub879 X), t.andThen (init879 X), bind_fn X _ (by kernel_rfl)⟩
abbrev pkO (P : Params) (k1 k2 k3 k4 k5 k6 k7 tu : Tok) (bx : Addr) : Obj :=
  dictOf [⟨PyData.keyHash P (Str.ofString "_strict_types"), .str (Str.ofString "_strict_types") k1, .bool false⟩, ⟨PyData.keyHash P (Str.ofString "_use_float"), .str (Str.ofString "_use_float") k2, .bool false⟩,
    ⟨PyData.keyHash P (Str.ofString "_autoreset"), .str (Str.ofString "_autoreset") k3, .bool true⟩, ⟨PyData.keyHash P (Str.ofString "_use_bin_type"), .str (Str.ofString "_use_bin_type") k4, .bool true⟩,
    ⟨PyData.keyHash P (Str.ofString "_buffer"), .str (Str.ofString "_buffer") k5, .ref bx⟩, ⟨PyData.keyHash P (Str.ofString "_unicode_errors"), .str (Str.ofString "_unicode_errors") k6, .str (Str.ofString "strict") tu⟩,
    ⟨PyData.keyHash P (Str.ofString "_default"), .str (Str.ofString "_default") k7, .none⟩] 7
local macro_rules | `(tactic| walk_at "wpC") => `(tactic| ((with_reducible show wpC _ _ (call _ _) _ _ _); k_dflt (show wpC _ _ (call (Value.ref 519) []) _ _ _); (with_reducible rename Fr _ _ _ _ => F9); (with_reducible rename News _ _ _ _ => N9); (k_dflt (refine' bytesio_c (s := ⟨_, _, _, _, _⟩) ?b1 F9 ?b2 ?b3 N9 ?b4 ?b5 ?b6 ?_; (case b1 => k_asm); (case b2 => k_asm); (case b3 => k_asm); (case b4 => exact rfl); (case b5 => ktr_room); (case b6 => k_units); k_whole)); intro x' dx' ba' h' t1' t2' tp' tk' l1 l2 l3 F' N'; (try k_lt l1)))
set_option maxRecDepth 100000 in
set_option maxHeartbeats 4000000 in
theorem packer_c {prog : Program} {w : World} {A₀ : Around} {dp un : Nat} {gd : Option (List Code)} {cn : Str} {cs : Scope} {a : Addr} {ccd : Value} {cl : List (Str × Addr)} {outer : List Env} {base h₀ : Heap} {L : Addr} {m mg mb : Str → Option Value} {p : Program} {loose : List Str} {mean : ExcName → Option Value}
    {s : Shared} {Q : Value → Shared → Prop} {rest : List (Addr × Obj)}
    (B : Below A₀ base outer h₀) (F : Fr h₀ L s.heap m) (X : (Mine.hd.heap_39 w.params).In h₀) (T : Top p loose mean mg mb h₀)
    (N : News h₀ L s.heap rest) (hk : cs.kind = .function) (room : dp + 10 < recursionLimit) (units : un + 200 < cLine)
    (ret : ∀ x dx ba pk dk h' t1 t2 tp k1 k2 k3 k4 k5 k6 k7 tu tk, (∀ q ∈ rest, @LT.lt Nat _ q.1 dk) → @LT.lt Nat _ dk pk → @LT.lt Nat _ pk dx → @LT.lt Nat _ dx x → @LT.lt Nat _ x ba → Fr h₀ L h' m →
      News h₀ L h' ((x, instObj 519 dx) :: (dx, bufO w.params t1 t2 ba (.int 0 tp)) :: (ba, baO #[]) :: (pk, instObj 879 dk) :: (dk, pkO w.params k1 k2 k3 k4 k5 k6 k7 tu x) :: rest) → Q (.ref pk) { s with heap := h', toks := tk }) :
    wpC (model prog w) (ktrTop dp un gd cn cs L a ccd cl outer) (call (.ref 879) []) Q nE s := by
  walk_at "c_fill"
  have X' := X.keeps F.keep
  obtain ⟨oc, od, cd, sl, hC, ne, e1, e2⟩ := cls879 X'
  refine callC_cls hC ne (call879 X') (typ879 X') (made879 X') ?_
  dsimp only
  refine wpAny_pure (wpC_any (new_U F N hC e1 e2 (base879 X') (made879 X') (sub879 X') (top879 X') (typ879 X') fun pk dk h' F N l1 l2 => ?_))
  have l1' : ∀ q ∈ rest, @LT.lt Nat _ q.1 dk := l1
  have l2' : @LT.lt Nat _ dk pk := l2
  have hr1 : ∀ q ∈ rest, q.1 ≠ dk := fun q hq => Nat.ne_of_lt (l1 q hq)
  have X9 := X.keeps F.keep
  obtain ⟨i1, i2, i3⟩ := inst879 (prog := prog) N X9 (.head _)
  refine ⟨_, i1, i2, i3, ?_⟩
  refine wpC_call ?_
  have hbl := bl [(Str.ofString "self", .ref pk), (Str.ofString "default", .none), (Str.ofString "use_single_float", .bool false), (Str.ofString "autoreset", .bool true), (Str.ofString "use_bin_type", .bool true), (Str.ofString "strict_types", .bool false), (Str.ofString "unicode_errors", .none), (Str.ofString "buf_size", .none)]
  walk_at "c_enter"
  k_steps
  refine ret _ _ _ _ _ _ _ _ _ _ _ _ _ _ _ _ _ _ l1' l2' ?_ ?_ ?_ (by assumption) (by assumption)
  · omega
  · omega
  · omega
end Mine
end
section
open PySem PySem.W PyProof.Rows PySem.Calls
open PySem.Sem (wp)
set_option maxRecDepth 100000
namespace Mine
theorem topOffW4 : True := by
  w_top off
  trivial
local macro_rules | `(tactic| k_all) => `(tactic| assumption)
local macro_rules | `(tactic| k_room) => `(tactic| ktr_room)
local macro_rules | `(tactic| k_units) => `(tactic| first | ktr_units | ((try dsimp only); (try simp only [units_make, units_deeper, units_in1, Around.mark_units]); omega))
local macro_rules | `(tactic| walk_at "c_fill") => `(tactic| (have kf : PySem.Challenge.rw_fg0013_01 = PySem.Challenge.rw_fg0013_01 ∧ Mine.hd.heap_39 = Mine.hd.heap_39 := (by k_fill; exact ⟨rfl, rfl⟩)); clear kf)
local macro_rules | `(tactic| walk_at "c_enter") => `(tactic| (k_dflt (refine' callC_def ?kBL ?k1 ?k2 ?k3 ?k4 ?k5 ?kA ?kF ?kK ?k6 ?k7 ?k8 ?k9 ?kB ?_ ?c5 ?c2 ?c3 ?c4; (case kBL => assumption); (case kA => exact rfl); (case kF => exact rfl); (case kK => assumption); (case k1 => k_asm); (case k2 => k_asm); (case k3 => k_asm); (case k4 => k_asm); (case k5 => k_asm); (case k6 => k_is); (case k7 => k_is); (case k8 => ktr_room); (case k9 => first | exact BindsTo.of_eq rfl | exact binds_K (by k_in) rfl (by k_is) rfl rfl rfl | (refine' kp_binds ?kx ?ke; (case kx => k_in); (case ke => exact fun _ => rfl))); (case kB => exact locs rfl); (case c5 => decide); (case c2 => exact rfl); (case c3 => exact rfl); (case c4 => exact rfl); k_whole; intro g' L' h' tk' FG' F' N' B' X' T' l1; (try k_lt l1); (try dsimp only))))
local macro_rules | `(tactic| walk_at "c_enter2") => `(tactic| (k_dflt (refine' callC_def ?kBL ?k1 ?k2 ?k3 ?k4 ?k5 ?kA ?kF ?kK ?k6 ?k7 ?k8 ?k9 ?kB ?_ ?c5 ?c2 ?c3 ?c4; (case kA => exact rfl); (case kF => exact rfl); (case kK => exact rfl); (case k1 => k_asm); (case k2 => k_asm); (case k3 => k_asm); (case k4 => k_asm); (case k5 => k_asm); (case k6 => k_is); (case k7 => k_is); (case k8 => ktr_room); (case k9 => first | exact BindsTo.of_eq rfl | exact binds_K (by k_in) rfl (by k_is) rfl rfl rfl | (refine' kp_binds ?kx ?ke; (case kx => k_in); (case ke => exact fun _ => rfl))); (case kB => exact locs rfl); (case kBL => exact bl _); (case c5 => decide); (case c2 => exact rfl); (case c3 => exact rfl); (case c4 => exact rfl); k_whole; intro g' L' h' tk' FG' F' N' B' X' T' l1; (try k_lt l1); (try dsimp only))))
local macro_rules | `(tactic| walk_at "c_both") => `(tactic| (k_dflt (refine' kp_both ?k1 ?k2 ?k3 ?k4 ?k5 ?kA ?kF ?kK ?k6 ?k7 ?k8 ?kV ?kX ?kQ ?kM ?kN ?kD ?kR ?kP ?kS ?kT ?kB ?_ ?c2 ?c3 ?c4 ?c5; (case kA => exact rfl); (case kF => exact rfl); (case kK => assumption); (case k1 => k_asm); (case k2 => k_asm); (case k3 => k_asm); (case k4 => k_asm); (case k5 => k_asm); (case k6 => k_is); (case k7 => k_is); (case k8 => ktr_room); (case kV => kp_lit); (case kX => kp_lit); (case kQ => exact rfl); (case kM => exact rfl); (case kN => exact rfl); (case kD => kp_flats); (case kR => exact rfl); (case kP => exact rfl); (case kS => exact fun _ => rfl); (case kT => exact fun _ _ => rfl); (case kB => exact fun _ _ => locs rfl); (case c5 => decide); (case c2 => exact rfl); (case c3 => exact rfl); (case c4 => exact rfl); k_whole; intro C' D' o' g' L' h' tk' l1 l2 lo' hs' fs' FG' F' N' B' X' T'; (try k_lt l1); (try k_lt2 l2); (try dsimp only))))
local macro_rules | `(tactic| walk_at "call type:type") => `(tactic| (k_here; (with_reducible show wpAny _ _ (call (Value.type "type") [Value.bytes _ _]) _ _ _); refine call_type_of (Tx := "bytes") rfl (by decide +kernel) ?_))
local macro_rules | `(tactic| walk_at "wpC") => `(tactic| (with_reducible refine wpC_any ?_))
local macro_rules | `(tactic| walk_at "wpC") => `(tactic| (with_reducible refine execsC_any ?_))
local macro_rules | `(tactic| walk_at "wpC") => `(tactic| (refine' execsC_nil ?_))
local macro_rules | `(tactic| walk_at "wpC") => `(tactic| ((with_reducible show wpC _ _ (execs _ _) _ _ _); with_reducible refine execsC_cons ?_; refine' wpC_If ?_))
local macro_rules | `(tactic| walk_at "wpC") => `(tactic| ((with_reducible show wpC _ _ (execs _ _) _ _ _); with_reducible refine execsC_cons ?_; refine' wpC_While ?_; refine' codeC_while ?_))
local macro_rules | `(tactic| walk_at "wpC") => `(tactic| ((with_reducible show wpC _ _ (execs _ _) _ _ _); with_reducible refine execsC_cons ?_; refine' wpC_Try ?_))
local macro_rules | `(tactic| walk_at "wpC") => `(tactic| ((with_reducible show wpC _ _ (execs _ _) _ _ _); with_reducible refine execsC_cons ?_; refine' wpC_For ?_ ?hs; (case hs => intro _; with_unfolding_all rfl)))
local macro_rules | `(tactic| walk_at "pyIter ref") => `(tactic| ((with_reducible show wpAny _ _ (pyIter (Value.ref _)) (fun _ _ => codeC _ _ _ _ _) _ _); (with_reducible rename IsRange _ _ _ _ _ _ _ _ => R9); refine wpAny_pyIter_range R9 ?hsmall ?_; (case hsmall => walk_at "c_small")))
local macro_rules | `(tactic| walk_at "wpC") => `(tactic| ((with_reducible show wpC _ _ (execs _ _) _ _ _); with_reducible refine execsC_cons ?_; refine' wpC_Return ?_; refine' evalC_method ?_ ?he; (case he => with_unfolding_all rfl)))
local macro_rules | `(tactic| walk_at "wpC") => `(tactic| ((with_reducible show wpC _ _ (execs _ _) _ _ _); with_reducible refine execsC_cons ?_; refine' wpC_Expr ?_ ?hi ?hs; (case hi => with_unfolding_all rfl); (case hs => with_unfolding_all rfl); refine' evalC_method ?_ ?he; (case he => with_unfolding_all rfl)))
local macro_rules | `(tactic| walk_at "wpC") => `(tactic| ((with_reducible show wpC _ _ (execs _ _) _ _ _); with_reducible refine execsC_cons ?_; refine' wpC_AssignAttr ?_ ?hs; (case hs => with_unfolding_all rfl)))
local macro_rules | `(tactic| walk_at "wpC") => `(tactic| ((with_reducible show wpC _ _ (execs _ _) _ _ _); with_reducible refine execsC_cons ?_; refine' wpC_AssignSub ?_ ?hs; (case hs => with_unfolding_all rfl)))
local macro_rules | `(tactic| walk_at "wpC") => `(tactic| ((with_reducible show wpC _ _ (eval _ _) _ _ _); refine' evalC_ifExp ?_))
local macro_rules | `(tactic| walk_at "wpC") => `(tactic| ((with_reducible show wpC _ _ (eval _ _) _ _ _); refine' evalC_call ?_ ?he; (case he => with_unfolding_all rfl)))
local macro_rules | `(tactic| walk_at "wpC") => `(tactic| ((with_reducible show wpC _ _ (callWith _ _ _ _ _) _ _ _); k_dflt (first | refine' callWithC_T0 ?_ | (refine' callWithC_K0 ?k1 ?k2 ?_; (case k1 => k_in); (case k2 => k_is); k_whole) | (refine' callWithC_K ?k1 ?k2 ?_; (case k1 => k_asm); (case k2 => k_is); k_whole))))
local macro_rules | `(tactic| walk_at "wpC") => `(tactic| ((with_reducible show wpC _ _ (call _ _) _ _ _); k_dflt (show wpC _ _ (call (Value.type "bytearray") []) _ _ _); (with_reducible rename Fr _ _ _ _ => F9); (with_reducible rename News _ _ _ _ => N9); (refine call_baN (s := ⟨_, _, _, _, _⟩) F9 N9 ?_); intro ba' h' F' N' l1; (try k_lt l1)))
local macro_rules | `(tactic| walk_at "wpC") => `(tactic| ((with_reducible show wpC _ _ (setItem (.ref _) (.ref _) (.bytes _ _)) _ _ _); (with_reducible rename Fr _ _ _ _ => F9); (with_reducible rename News _ _ _ _ => N9); refine setItem_N (s := ⟨_, _, _, _, _⟩) F9 N9 (by assumption) (by assumption) (by assumption) (by rw [sizeLine_eq]; omega) ?_; intro _ F' N'))
local macro_rules | `(tactic| walk_at "call builtin:len") => `(tactic| (k_here; (with_reducible show wpAny _ _ (call (Value.builtin "len") [Value.ref _]) _ _ _); (with_reducible rename News _ _ _ _ => N9); refine len_ba (bs := _) (News.get N9 (by repeat (first | exact List.Mem.head _ | apply List.Mem.tail))) (by omega) ?_; have N' := N9; clear N9))
local macro_rules | `(tactic| walk_at "call type:bytes") => `(tactic| (k_here; (with_reducible show wpAny _ _ (call (Value.type "bytes") [Value.ref _]) _ _ _); (with_reducible rename News _ _ _ _ => N9); refine call_bytes_ba (bs := _) (News.get N9 (by repeat (first | exact List.Mem.head _ | apply List.Mem.tail))) (by rw [sizeLine_eq]; first | omega | (simp only [List.size_toArray]; omega)) ?_; have N' := N9; clear N9))
local macro_rules | `(tactic| walk_at "wpC") => `(tactic| ((with_reducible show wpC _ _ (callWith _ (Value.ref _) _ (backTo _ (starEach (_ :: _) _)) _) _ _ _); k_dflt (refine' callWithC_K ?k1 ?k2 ?_; (case k1 => k_asm); (case k2 => k_is); k_whole)))
local macro_rules | `(tactic| walk_at "c_size") => `(tactic| (first | omega | ((try simp only [Array.size_append, List.size_toArray, List.length_cons, List.length_append, List.length_nil, beInt_length]); omega)))
local macro_rules | `(tactic| walk_at "wpC") => `(tactic| ((with_reducible show wpC _ _ (call _ _) _ _ _); k_dflt (show wpC _ _ (call (Value.ref 502) [.ref _, .bytes _ _]) _ _ _); (with_reducible rename Fr _ _ _ _ => F9); (with_reducible rename News _ _ _ _ => N9); (k_dflt (refine' write_c (s := ⟨_, _, _, _, _⟩) ?b1 F9 ?b2 ?b3 ?bN ?b4 ?d1 ?d2 ?d3 ?r1 ?r2 ?b5 ?b6 ?z1 ?z2 ?_; (case bN => first | exact N9 | exact news_r1 N9 | exact news_r2 N9 | exact news_r3 N9 | exact news_r4 N9 | exact news_r5 N9 | exact news_r6 N9); (case b1 => k_asm); (case b2 => k_asm); (case b3 => k_asm); (case b4 => exact rfl); (case d1 => k_ne); (case d2 => k_ne); (case d3 => k_ne); (case r1 => k_all); (case r2 => k_all); (case b5 => ktr_room); (case b6 => k_units); (case z1 => walk_at "c_size"); (case z2 => walk_at "c_size"); k_whole)); intro h' kx' t1' t2' tk' F' N'))
local macro_rules | `(tactic| walk_at "call builtin:_struct.pack") => `(tactic| (k_here; k_dflt (first | refine' pack_B ?a ?b ?_; (case a => omega); (case b => omega); k_whole | refine' pack_b ?a ?b ?_; (case a => omega); (case b => omega); k_whole | refine' pack_BB ?a ?b ?_; (case a => omega); (case b => omega); k_whole | refine' pack_Bb ?a ?b ?_; (case a => omega); (case b => omega); k_whole | refine' pack_BH ?a ?b ?_; (case a => omega); (case b => omega); k_whole | refine' pack_Bh ?a ?b ?_; (case a => omega); (case b => omega); k_whole | refine' pack_BI ?a ?b ?_; (case a => omega); (case b => omega); k_whole | refine' pack_Bi ?a ?b ?_; (case a => omega); (case b => omega); k_whole | refine' pack_BQ ?a ?b ?_; (case a => omega); (case b => omega); k_whole | refine' pack_Bq ?a ?b ?_; (case a => omega); (case b => omega); k_whole | refine' pack_gBB ?a ?b ?_; (case a => omega); (case b => omega); k_whole)))
local macro_rules | `(tactic| walk_at "wpC") => `(tactic| ((k_dflt (first | (show wpC _ _ (call (Value.ref 833) _) _ _ _) | (show wpC _ _ (call (Value.ref 855) _) _ _ _) | (show wpC _ _ (call (Value.ref 862) _) _ _ _))); refine wpC_call ?_; walk_at "c_enter2"))
set_option maxRecDepth 100000 in
set_option maxHeartbeats 8000000 in
theorem packint_c {prog : Program} {w : World} {A₀ : Around} {dp un : Nat} {gd : Option (List Code)} {cn : Str} {cs : Scope} {a : Addr} {ccd : Value} {cl : List (Str × Addr)} {outer : List Env} {base h₀ : Heap} {L : Addr} {m mg mb : Str → Option Value} {p : Program} {loose : List Str} {mean : ExcName → Option Value}
    {s : Shared} {Q : Value → Shared → Prop} {x dx ba pk dk : Addr} {t1 t2 tp k1 k2 k3 k4 k5 k6 k7 tu : Nat} {bs : Array UInt8} {i nl : Int} {ti tn : Tok} {rest : List (Addr × Obj)}
    (B : Below A₀ base outer h₀) (F : Fr h₀ L s.heap m) (X : (Mine.hd.heap_39 w.params).In h₀) (T : Top p loose mean mg mb h₀)
    (N : News h₀ L s.heap ((x, instObj 519 dx) :: (dx, bufO w.params t1 t2 ba (.int bs.size tp)) :: (ba, baO bs) :: (pk, instObj 879 dk) :: (dk, pkO w.params k1 k2 k3 k4 k5 k6 k7 tu x) :: rest)) (hk : cs.kind = .function)
    (d1 : @LT.lt Nat _ dk pk) (d2 : @LT.lt Nat _ pk dx) (d3 : @LT.lt Nat _ dx x) (d4 : @LT.lt Nat _ x ba) (hr1 : ∀ q ∈ rest, q.1 ≠ dx) (hr2 : ∀ q ∈ rest, q.1 ≠ ba)
    (room : dp + 10 < recursionLimit) (units : un + 200 < cLine) (hz1 : bs.size ≤ 90000) (hn : 0 ≤ nl) (hi1 : -9223372036854775808 ≤ i) (hi2 : i ≤ 18446744073709551615)
    (ret : ∀ h' (k : Int) t t1 t2 t' tk, Fr h₀ L h' m → News h₀ L h' ((x, instObj 519 dx) :: (dx, bufO w.params t1 t2 ba (.int ((bs ++ (encInt i).toArray).size : Int) t')) :: (ba, baO (bs ++ (encInt i).toArray)) :: (pk, instObj 879 dk) :: (dk, pkO w.params k1 k2 k3 k4 k5 k6 k7 tu x) :: rest) → Q (.int k t) { s with heap := h', toks := tk }) :
    wpC (model prog w) (ktrTop dp un gd cn cs L a ccd cl outer) (call (.ref 791) [.ref pk, .int i ti, .int nl tn]) Q nE s := by
  walk_at "c_fill"
  refine wpC_call ?_
  have hbl := bl [(Str.ofString "self", .ref pk), (Str.ofString "obj", .int i ti), (Str.ofString "nest_limit", .int nl tn), (Str.ofString "check", .builtin "isinstance"), (Str.ofString "check_type_strict", .ref 218)]
  walk_at "c_enter"
  k_steps
  all_goals exact ret _ _ _ _ _ _ _ (by assumption) (pk_end (by first | exact encInt_0 (by omega) (by omega) | exact encInt_1 (by omega) (by omega) | exact encInt_2 (by omega) (by omega) | exact encInt_3 (by omega) (by omega) | exact encInt_4 (by omega) (by omega) | exact encInt_5 (by omega) (by omega) | exact encInt_6 (by omega) (by omega) | exact encInt_7 (by omega) (by omega) | exact encInt_8 (by omega) (by omega) | exact encInt_9 (by omega) (by omega)) (by assumption))
end Mine
end
section
open PySem PySem.W PyProof.Rows PySem.Calls
open PySem.Sem (wp)
set_option maxRecDepth 100000
namespace Mine
theorem topOffW5 : True := by
  w_top off
  trivial
local macro_rules | `(tactic| k_all) => `(tactic| assumption)
local macro_rules | `(tactic| k_room) => `(tactic| ktr_room)
local macro_rules | `(tactic| k_units) => `(tactic| first | ktr_units | ((try dsimp only); (try simp only [units_make, units_deeper, units_in1, Around.mark_units]); omega))
local macro_rules | `(tactic| walk_at "c_fill") => `(tactic| (have kf : PySem.Challenge.rw_fg0013_01 = PySem.Challenge.rw_fg0013_01 ∧ Mine.hd.heap_39 = Mine.hd.heap_39 := (by k_fill; exact ⟨rfl, rfl⟩)); clear kf)
local macro_rules | `(tactic| walk_at "c_enter") => `(tactic| (k_dflt (refine' callC_def ?kBL ?k1 ?k2 ?k3 ?k4 ?k5 ?kA ?kF ?kK ?k6 ?k7 ?k8 ?k9 ?kB ?_ ?c5 ?c2 ?c3 ?c4; (case kBL => assumption); (case kA => exact rfl); (case kF => exact rfl); (case kK => assumption); (case k1 => k_asm); (case k2 => k_asm); (case k3 => k_asm); (case k4 => k_asm); (case k5 => k_asm); (case k6 => k_is); (case k7 => k_is); (case k8 => ktr_room); (case k9 => first | exact BindsTo.of_eq rfl | exact binds_K (by k_in) rfl (by k_is) rfl rfl rfl | (refine' kp_binds ?kx ?ke; (case kx => k_in); (case ke => exact fun _ => rfl))); (case kB => exact locs rfl); (case c5 => decide); (case c2 => exact rfl); (case c3 => exact rfl); (case c4 => exact rfl); k_whole; intro g' L' h' tk' FG' F' N' B' X' T' l1; (try k_lt l1); (try dsimp only))))
local macro_rules | `(tactic| walk_at "c_enter2") => `(tactic| (k_dflt (refine' callC_def ?kBL ?k1 ?k2 ?k3 ?k4 ?k5 ?kA ?kF ?kK ?k6 ?k7 ?k8 ?k9 ?kB ?_ ?c5 ?c2 ?c3 ?c4; (case kA => exact rfl); (case kF => exact rfl); (case kK => exact rfl); (case k1 => k_asm); (case k2 => k_asm); (case k3 => k_asm); (case k4 => k_asm); (case k5 => k_asm); (case k6 => k_is); (case k7 => k_is); (case k8 => ktr_room); (case k9 => first | exact BindsTo.of_eq rfl | exact binds_K (by k_in) rfl (by k_is) rfl rfl rfl | (refine' kp_binds ?kx ?ke; (case kx => k_in); (case ke => exact fun _ => rfl))); (case kB => exact locs rfl); (case kBL => exact bl _); (case c5 => decide); (case c2 => exact rfl); (case c3 => exact rfl); (case c4 => exact rfl); k_whole; intro g' L' h' tk' FG' F' N' B' X' T' l1; (try k_lt l1); (try dsimp only))))
local macro_rules | `(tactic| walk_at "c_both") => `(tactic| (k_dflt (refine' kp_both ?k1 ?k2 ?k3 ?k4 ?k5 ?kA ?kF ?kK ?k6 ?k7 ?k8 ?kV ?kX ?kQ ?kM ?kN ?kD ?kR ?kP ?kS ?kT ?kB ?_ ?c2 ?c3 ?c4 ?c5; (case kA => exact rfl); (case kF => exact rfl); (case kK => assumption); (case k1 => k_asm); (case k2 => k_asm); (case k3 => k_asm); (case k4 => k_asm); (case k5 => k_asm); (case k6 => k_is); (case k7 => k_is); (case k8 => ktr_room); (case kV => kp_lit); (case kX => kp_lit); (case kQ => exact rfl); (case kM => exact rfl); (case kN => exact rfl); (case kD => kp_flats); (case kR => exact rfl); (case kP => exact rfl); (case kS => exact fun _ => rfl); (case kT => exact fun _ _ => rfl); (case kB => exact fun _ _ => locs rfl); (case c5 => decide); (case c2 => exact rfl); (case c3 => exact rfl); (case c4 => exact rfl); k_whole; intro C' D' o' g' L' h' tk' l1 l2 lo' hs' fs' FG' F' N' B' X' T'; (try k_lt l1); (try k_lt2 l2); (try dsimp only))))
local macro_rules | `(tactic| walk_at "call type:type") => `(tactic| (k_here; (with_reducible show wpAny _ _ (call (Value.type "type") [Value.bytes _ _]) _ _ _); refine call_type_of (Tx := "bytes") rfl (by decide +kernel) ?_))
local macro_rules | `(tactic| walk_at "wpC") => `(tactic| (with_reducible refine wpC_any ?_))
local macro_rules | `(tactic| walk_at "wpC") => `(tactic| (with_reducible refine execsC_any ?_))
local macro_rules | `(tactic| walk_at "wpC") => `(tactic| (refine' execsC_nil ?_))
local macro_rules | `(tactic| walk_at "wpC") => `(tactic| ((with_reducible show wpC _ _ (execs _ _) _ _ _); with_reducible refine execsC_cons ?_; refine' wpC_If ?_))
local macro_rules | `(tactic| walk_at "wpC") => `(tactic| ((with_reducible show wpC _ _ (execs _ _) _ _ _); with_reducible refine execsC_cons ?_; refine' wpC_While ?_; refine' codeC_while ?_))
local macro_rules | `(tactic| walk_at "wpC") => `(tactic| ((with_reducible show wpC _ _ (execs _ _) _ _ _); with_reducible refine execsC_cons ?_; refine' wpC_Try ?_))
local macro_rules | `(tactic| walk_at "wpC") => `(tactic| ((with_reducible show wpC _ _ (execs _ _) _ _ _); with_reducible refine execsC_cons ?_; refine' wpC_For ?_ ?hs; (case hs => intro _; with_unfolding_all rfl)))
local macro_rules | `(tactic| walk_at "pyIter ref") => `(tactic| ((with_reducible show wpAny _ _ (pyIter (Value.ref _)) (fun _ _ => codeC _ _ _ _ _) _ _); (with_reducible rename IsRange _ _ _ _ _ _ _ _ => R9); refine wpAny_pyIter_range R9 ?hsmall ?_; (case hsmall => walk_at "c_small")))
local macro_rules | `(tactic| walk_at "wpC") => `(tactic| ((with_reducible show wpC _ _ (execs _ _) _ _ _); with_reducible refine execsC_cons ?_; refine' wpC_Return ?_; refine' evalC_method ?_ ?he; (case he => with_unfolding_all rfl)))
local macro_rules | `(tactic| walk_at "wpC") => `(tactic| ((with_reducible show wpC _ _ (execs _ _) _ _ _); with_reducible refine execsC_cons ?_; refine' wpC_Expr ?_ ?hi ?hs; (case hi => with_unfolding_all rfl); (case hs => with_unfolding_all rfl); refine' evalC_method ?_ ?he; (case he => with_unfolding_all rfl)))
local macro_rules | `(tactic| walk_at "wpC") => `(tactic| ((with_reducible show wpC _ _ (execs _ _) _ _ _); with_reducible refine execsC_cons ?_; refine' wpC_AssignAttr ?_ ?hs; (case hs => with_unfolding_all rfl)))
local macro_rules | `(tactic| walk_at "wpC") => `(tactic| ((with_reducible show wpC _ _ (execs _ _) _ _ _); with_reducible refine execsC_cons ?_; refine' wpC_AssignSub ?_ ?hs; (case hs => with_unfolding_all rfl)))
local macro_rules | `(tactic| walk_at "wpC") => `(tactic| ((with_reducible show wpC _ _ (eval _ _) _ _ _); refine' evalC_ifExp ?_))
local macro_rules | `(tactic| walk_at "wpC") => `(tactic| ((with_reducible show wpC _ _ (eval _ _) _ _ _); refine' evalC_call ?_ ?he; (case he => with_unfolding_all rfl)))
local macro_rules | `(tactic| walk_at "wpC") => `(tactic| ((with_reducible show wpC _ _ (callWith _ _ _ _ _) _ _ _); k_dflt (first | refine' callWithC_T0 ?_ | (refine' callWithC_K0 ?k1 ?k2 ?_; (case k1 => k_in); (case k2 => k_is); k_whole) | (refine' callWithC_K ?k1 ?k2 ?_; (case k1 => k_asm); (case k2 => k_is); k_whole))))
local macro_rules | `(tactic| walk_at "wpC") => `(tactic| ((with_reducible show wpC _ _ (call _ _) _ _ _); k_dflt (show wpC _ _ (call (Value.type "bytearray") []) _ _ _); (with_reducible rename Fr _ _ _ _ => F9); (with_reducible rename News _ _ _ _ => N9); (refine call_baN (s := ⟨_, _, _, _, _⟩) F9 N9 ?_); intro ba' h' F' N' l1; (try k_lt l1)))
local macro_rules | `(tactic| walk_at "wpC") => `(tactic| ((with_reducible show wpC _ _ (setItem (.ref _) (.ref _) (.bytes _ _)) _ _ _); (with_reducible rename Fr _ _ _ _ => F9); (with_reducible rename News _ _ _ _ => N9); refine setItem_N (s := ⟨_, _, _, _, _⟩) F9 N9 (by assumption) (by assumption) (by assumption) (by rw [sizeLine_eq]; omega) ?_; intro _ F' N'))
local macro_rules | `(tactic| walk_at "call builtin:len") => `(tactic| (k_here; (with_reducible show wpAny _ _ (call (Value.builtin "len") [Value.ref _]) _ _ _); (with_reducible rename News _ _ _ _ => N9); refine len_ba (bs := _) (News.get N9 (by repeat (first | exact List.Mem.head _ | apply List.Mem.tail))) (by omega) ?_; have N' := N9; clear N9))
local macro_rules | `(tactic| walk_at "call type:bytes") => `(tactic| (k_here; (with_reducible show wpAny _ _ (call (Value.type "bytes") [Value.ref _]) _ _ _); (with_reducible rename News _ _ _ _ => N9); refine call_bytes_ba (bs := _) (News.get N9 (by repeat (first | exact List.Mem.head _ | apply List.Mem.tail))) (by rw [sizeLine_eq]; first | omega | (simp only [List.size_toArray]; omega)) ?_; have N' := N9; clear N9))
local macro_rules | `(tactic| walk_at "wpC") => `(tactic| ((with_reducible show wpC _ _ (callWith _ (Value.ref _) _ (backTo _ (starEach (_ :: _) _)) _) _ _ _); k_dflt (refine' callWithC_K ?k1 ?k2 ?_; (case k1 => k_asm); (case k2 => k_is); k_whole)))
local macro_rules | `(tactic| walk_at "c_size") => `(tactic| (first | omega | ((try simp only [Array.size_append, List.size_toArray, List.length_cons, List.length_append, List.length_nil, beInt_length]); omega)))
local macro_rules | `(tactic| walk_at "wpC") => `(tactic| ((with_reducible show wpC _ _ (call _ _) _ _ _); k_dflt (show wpC _ _ (call (Value.ref 502) [.ref _, .bytes _ _]) _ _ _); (with_reducible rename Fr _ _ _ _ => F9); (with_reducible rename News _ _ _ _ => N9); (k_dflt (refine' write_c (s := ⟨_, _, _, _, _⟩) ?b1 F9 ?b2 ?b3 ?bN ?b4 ?d1 ?d2 ?d3 ?r1 ?r2 ?b5 ?b6 ?z1 ?z2 ?_; (case bN => first | exact N9 | exact news_r1 N9 | exact news_r2 N9 | exact news_r3 N9 | exact news_r4 N9 | exact news_r5 N9 | exact news_r6 N9); (case b1 => k_asm); (case b2 => k_asm); (case b3 => k_asm); (case b4 => exact rfl); (case d1 => k_ne); (case d2 => k_ne); (case d3 => k_ne); (case r1 => k_all); (case r2 => k_all); (case b5 => ktr_room); (case b6 => k_units); (case z1 => walk_at "c_size"); (case z2 => walk_at "c_size"); k_whole)); intro h' kx' t1' t2' tk' F' N'))
local macro_rules | `(tactic| walk_at "call builtin:_struct.pack") => `(tactic| (k_here; k_dflt (first | refine' pack_B ?a ?b ?_; (case a => omega); (case b => omega); k_whole | refine' pack_b ?a ?b ?_; (case a => omega); (case b => omega); k_whole | refine' pack_BB ?a ?b ?_; (case a => omega); (case b => omega); k_whole | refine' pack_Bb ?a ?b ?_; (case a => omega); (case b => omega); k_whole | refine' pack_BH ?a ?b ?_; (case a => omega); (case b => omega); k_whole | refine' pack_Bh ?a ?b ?_; (case a => omega); (case b => omega); k_whole | refine' pack_BI ?a ?b ?_; (case a => omega); (case b => omega); k_whole | refine' pack_Bi ?a ?b ?_; (case a => omega); (case b => omega); k_whole | refine' pack_BQ ?a ?b ?_; (case a => omega); (case b => omega); k_whole | refine' pack_Bq ?a ?b ?_; (case a => omega); (case b => omega); k_whole | refine' pack_gBB ?a ?b ?_; (case a => omega); (case b => omega); k_whole)))
local macro_rules | `(tactic| walk_at "wpC") => `(tactic| ((k_dflt (first | (show wpC _ _ (call (Value.ref 833) _) _ _ _) | (show wpC _ _ (call (Value.ref 855) _) _ _ _) | (show wpC _ _ (call (Value.ref 862) _) _ _ _))); refine wpC_call ?_; walk_at "c_enter2"))
local macro_rules | `(tactic| walk_at "wpC") => `(tactic| ((with_reducible show wpC _ _ (call _ _) _ _ _); k_dflt (show wpC _ _ (call (Value.ref 791) [.ref _, .int _ _, .int _ _]) _ _ _); (with_reducible rename Fr _ _ _ _ => F9); (with_reducible rename News _ _ _ _ => N9); (k_dflt (refine' packint_c (s := ⟨_, _, _, _, _⟩) ?b1 F9 ?b2 ?b3 ?bN ?b4 ?d1 ?d2 ?d3 ?d4 ?r1 ?r2 ?b5 ?b6 ?z1 ?z2 ?z3 ?z4 ?_; (case bN => first | exact news_p1 N9 | exact N9 | exact news_r1 N9 | exact news_r2 N9 | exact news_r3 N9 | exact news_r4 N9 | exact news_r5 N9 | exact news_r6 N9); (case b1 => k_asm); (case b2 => k_asm); (case b3 => k_asm); (case b4 => exact rfl); (case d1 => omega); (case d2 => omega); (case d3 => omega); (case d4 => omega); (case r1 => k_all); (case r2 => k_all); (case b5 => ktr_room); (case b6 => k_units); (case z1 => walk_at "c_size"); (case z2 => omega); (case z3 => omega); (case z4 => omega); k_whole)); intro h' kx' t' t1' t2' t3' tk' F' N'))
/-- the octets of a row -/
def encInts : List Int → List UInt8
  | [] => []
  | i :: r => encInt i ++ encInts r
theorem encInts_append : ∀ a b : List Int, encInts (a ++ b) = encInts a ++ encInts b
  | [], _ => rfl
  | i :: r, b => by show encInt i ++ encInts (r ++ b) = (encInt i ++ encInts r) ++ encInts b; rw [encInts_append r b, List.append_assoc]
theorem encInts_length : ∀ l : List Int, (encInts l).length ≤ 9 * l.length
  | [] => Nat.le_refl _
  | i :: r => by
    have h1 := encInt_length i
    have h2 := encInts_length r
    show (encInt i ++ encInts r).length ≤ 9 * (r.length + 1)
    rw [List.length_append]
    omega
def encRow (l : List Int) : List UInt8 := beInt 1 (144 + (l.length : Int)) ++ encInts l
local macro_rules | `(tactic| walk_at "subscriptTail") => `(tactic| (k_here; (with_reducible show wpAny _ _ (subscriptTail _ _ (Value.ref _) (Value.int _ _)) _ _ _); (with_reducible rename News _ _ _ _ => N9); (refine item_listN N9 ?hm ?h0 ?hf ?hx ?_; (case hm => repeat (first | exact List.Mem.head _ | apply List.Mem.tail)); (case h0 => omega); (case hf => omega); (case hx => assumption)); have N' := N9; clear N9))
set_option maxRecDepth 100000 in
set_option maxHeartbeats 8000000 in
theorem packlist_c {prog : Program} {w : World} {A₀ : Around} {dp un : Nat} {gd : Option (List Code)} {cn : Str} {cs : Scope} {a : Addr} {ccd : Value} {cl : List (Str × Addr)} {outer : List Env} {base h₀ : Heap} {L : Addr} {m mg mb : Str → Option Value} {p : Program} {loose : List Str} {mean : ExcName → Option Value}
    {s : Shared} {Q : Value → Shared → Prop} {x dx ba pk dk l : Addr} {t1 t2 tp k1 k2 k3 k4 k5 k6 k7 tu ln : Nat} {vs : List Value} {ns : List Int} {rest : List (Addr × Obj)}
    (B : Below A₀ base outer h₀) (F : Fr h₀ L s.heap m) (X : (Mine.hd.heap_39 w.params).In h₀) (T : Top p loose mean mg mb h₀)
    (N : News h₀ L s.heap ((x, instObj 519 dx) :: (dx, bufO w.params t1 t2 ba (.int (#[] : Array UInt8).size tp)) :: (ba, baO #[]) :: (pk, instObj 879 dk) :: (dk, pkO w.params k1 k2 k3 k4 k5 k6 k7 tu x) :: (l, listOf vs.toArray ln) :: rest)) (hk : cs.kind = .function)
    (d1 : @LT.lt Nat _ dk pk) (d2 : @LT.lt Nat _ pk dx) (d3 : @LT.lt Nat _ dx x) (d4 : @LT.lt Nat _ x ba) (d5 : @Ne Nat l dx) (d6 : @Ne Nat l ba) (hr1 : ∀ q ∈ rest, q.1 ≠ dx) (hr2 : ∀ q ∈ rest, q.1 ≠ ba)
    (room : dp + 20 < recursionLimit) (units : un + 400 < cLine) (hi : IntsAre vs ns) (hl : ns.length ≤ 15) (hi1 : ∀ i ∈ ns, -9223372036854775808 ≤ i ∧ i ≤ 18446744073709551615)
    (ret : ∀ h' t1 t2 t' tk, Fr h₀ L h' m → News h₀ L h' ((x, instObj 519 dx) :: (dx, bufO w.params t1 t2 ba (.int ((encRow ns).toArray.size : Int) t')) :: (ba, baO (encRow ns).toArray) :: (pk, instObj 879 dk) :: (dk, pkO w.params k1 k2 k3 k4 k5 k6 k7 tu x) :: (l, listOf vs.toArray ln) :: rest) → Q .none { s with heap := h', toks := tk }) :
    wpC (model prog w) (ktrTop dp un gd cn cs L a ccd cl outer) (call (.ref 791) [.ref pk, .ref l]) Q nE s := by
  walk_at "c_fill"
  refine wpC_call ?_
  have hbl := bl [(Str.ofString "self", .ref pk), (Str.ofString "obj", .ref l), (Str.ofString "nest_limit", .int 1024 558), (Str.ofString "check", .builtin "isinstance"), (Str.ofString "check_type_strict", .ref 218)]
  walk_at "c_enter"
  k_steps
  (with_reducible rename IsRange _ _ _ _ _ _ _ _ => R9); (with_reducible rename Fr _ _ _ _ => F9); (with_reducible rename News _ _ _ _ => N9)
  refine wpAny_pyIter_range R9 (small_n hl) ?_
  rw [size_n hl]
  refine' forC_packs (n := ns.length) (fun k => (beInt 1 (144 + (ns.length : Int)) ++ encInts (ns.take k)).toArray) rfl rfl rfl ?hh ?hx ?hp ?hL ?hlet F9 N9 ?hb0 ?turn ?fin
  case hh => exact rfl
  case hx => exact rfl
  case hp => exact rfl
  case hL => exact rfl
  case hlet => intro _; with_unfolding_all rfl
  case hb0 => simp [encInts]
  case turn =>
    intro I k tk t1 t2 tp s₁ hkn F1 N1 lx ldx lba ltl hs
    obtain ⟨h1, tt1, rfl⟩ := hs
    have lpk := ltl (pk, instObj 879 dk) (by repeat (first | exact List.Mem.head _ | apply List.Mem.tail))
    have ldk := ltl (dk, pkO w.params k1 k2 k3 k4 k5 k6 k7 tu x) (by repeat (first | exact List.Mem.head _ | apply List.Mem.tail))
    have ll := ltl (l, listOf vs.toArray ln) (by repeat (first | exact List.Mem.head _ | apply List.Mem.tail))
    obtain ⟨v, hv⟩ : ∃ v, vs[k]? = some v := ⟨vs[k]'(by rw [hi.length]; exact hkn), List.getElem?_eq_getElem (by rw [hi.length]; exact hkn)⟩
    obtain ⟨i, ti, rfl, hni⟩ := IntsAre.at hi k v hv
    obtain ⟨hb1, hb2⟩ := hi1 i (List.mem_of_getElem? hni)
    have hv' : vs.toArray[(k : Int).toNat]? = some (Value.int i ti) := by simpa using hv
    have hg : ns.getD ((k : Int)).toNat 0 = i := by simp [List.getD, hni]
    have hb3 : -9223372036854775808 ≤ ns.getD ((k : Int)).toNat 0 := by rw [hg]; exact hb1
    have hb4 : ns.getD ((k : Int)).toNat 0 ≤ 18446744073709551615 := by rw [hg]; exact hb2
    dsimp only at lpk ldk ll N1
    clear R9 ltl
    have hsz := encInts_length (ns.take k)
    have hsz2 : (ns.take k).length ≤ 15 := by rw [List.length_take]; omega
    k_steps
    refine ⟨rfl, _, _, _, _, _, _, rfl, (by assumption), turn_end ?_ (news_p2 (by assumption))⟩
    rw [hg, List.take_add_one, hni]
    simp [encInts_append, encInts]
  case fin =>
    intro h t t1 t2 tp vi F1 N1
    dsimp only
    k_steps
    have e : (fun k => (beInt 1 (144 + (ns.length : Int)) ++ encInts (ns.take k)).toArray) ns.length = (encRow ns).toArray := by
      dsimp only
      rw [List.take_length]
      rfl
    refine' ret _ _ _ _ _ (by assumption) ?n9
    case n9 =>
      rw [← e]
      exact news_drop4 (by assumption)
end Mine
end
section
open PySem PySem.W PyProof.Rows PySem.Calls
open PySem.Sem (wp)
set_option maxRecDepth 100000
namespace Mine
theorem topOffW6 : True := by
  w_top off
  trivial
local macro_rules | `(tactic| k_all) => `(tactic| assumption)
local macro_rules | `(tactic| k_room) => `(tactic| ktr_room)
local macro_rules | `(tactic| k_units) => `(tactic| first | ktr_units | ((try dsimp only); (try simp only [units_make, units_deeper, units_in1, Around.mark_units]); omega))
local macro_rules | `(tactic| walk_at "c_fill") => `(tactic| (have kf : PySem.Challenge.rw_fg0013_01 = PySem.Challenge.rw_fg0013_01 ∧ Mine.hd.heap_39 = Mine.hd.heap_39 := (by k_fill; exact ⟨rfl, rfl⟩)); clear kf)
local macro_rules | `(tactic| walk_at "c_enter") => `(tactic| (k_dflt (refine' callC_def ?kBL ?k1 ?k2 ?k3 ?k4 ?k5 ?kA ?kF ?kK ?k6 ?k7 ?k8 ?k9 ?kB ?_ ?c5 ?c2 ?c3 ?c4; (case kBL => assumption); (case kA => exact rfl); (case kF => exact rfl); (case kK => assumption); (case k1 => k_asm); (case k2 => k_asm); (case k3 => k_asm); (case k4 => k_asm); (case k5 => k_asm); (case k6 => k_is); (case k7 => k_is); (case k8 => ktr_room); (case k9 => first | exact BindsTo.of_eq rfl | exact binds_K (by k_in) rfl (by k_is) rfl rfl rfl | (refine' kp_binds ?kx ?ke; (case kx => k_in); (case ke => exact fun _ => rfl))); (case kB => exact locs rfl); (case c5 => decide); (case c2 => exact rfl); (case c3 => exact rfl); (case c4 => exact rfl); k_whole; intro g' L' h' tk' FG' F' N' B' X' T' l1; (try k_lt l1); (try dsimp only))))
local macro_rules | `(tactic| walk_at "c_enter2") => `(tactic| (k_dflt (refine' callC_def ?kBL ?k1 ?k2 ?k3 ?k4 ?k5 ?kA ?kF ?kK ?k6 ?k7 ?k8 ?k9 ?kB ?_ ?c5 ?c2 ?c3 ?c4; (case kA => exact rfl); (case kF => exact rfl); (case kK => exact rfl); (case k1 => k_asm); (case k2 => k_asm); (case k3 => k_asm); (case k4 => k_asm); (case k5 => k_asm); (case k6 => k_is); (case k7 => k_is); (case k8 => ktr_room); (case k9 => first | exact BindsTo.of_eq rfl | exact binds_K (by k_in) rfl (by k_is) rfl rfl rfl | (refine' kp_binds ?kx ?ke; (case kx => k_in); (case ke => exact fun _ => rfl))); (case kB => exact locs rfl); (case kBL => exact bl _); (case c5 => decide); (case c2 => exact rfl); (case c3 => exact rfl); (case c4 => exact rfl); k_whole; intro g' L' h' tk' FG' F' N' B' X' T' l1; (try k_lt l1); (try dsimp only))))
local macro_rules | `(tactic| walk_at "c_both") => `(tactic| (k_dflt (refine' kp_both ?k1 ?k2 ?k3 ?k4 ?k5 ?kA ?kF ?kK ?k6 ?k7 ?k8 ?kV ?kX ?kQ ?kM ?kN ?kD ?kR ?kP ?kS ?kT ?kB ?_ ?c2 ?c3 ?c4 ?c5; (case kA => exact rfl); (case kF => exact rfl); (case kK => assumption); (case k1 => k_asm); (case k2 => k_asm); (case k3 => k_asm); (case k4 => k_asm); (case k5 => k_asm); (case k6 => k_is); (case k7 => k_is); (case k8 => ktr_room); (case kV => kp_lit); (case kX => kp_lit); (case kQ => exact rfl); (case kM => exact rfl); (case kN => exact rfl); (case kD => kp_flats); (case kR => exact rfl); (case kP => exact rfl); (case kS => exact fun _ => rfl); (case kT => exact fun _ _ => rfl); (case kB => exact fun _ _ => locs rfl); (case c5 => decide); (case c2 => exact rfl); (case c3 => exact rfl); (case c4 => exact rfl); k_whole; intro C' D' o' g' L' h' tk' l1 l2 lo' hs' fs' FG' F' N' B' X' T'; (try k_lt l1); (try k_lt2 l2); (try dsimp only))))
local macro_rules | `(tactic| walk_at "call type:type") => `(tactic| (k_here; (with_reducible show wpAny _ _ (call (Value.type "type") [Value.bytes _ _]) _ _ _); refine call_type_of (Tx := "bytes") rfl (by decide +kernel) ?_))
local macro_rules | `(tactic| walk_at "wpC") => `(tactic| (with_reducible refine wpC_any ?_))
local macro_rules | `(tactic| walk_at "wpC") => `(tactic| (with_reducible refine execsC_any ?_))
local macro_rules | `(tactic| walk_at "wpC") => `(tactic| (refine' execsC_nil ?_))
local macro_rules | `(tactic| walk_at "wpC") => `(tactic| ((with_reducible show wpC _ _ (execs _ _) _ _ _); with_reducible refine execsC_cons ?_; refine' wpC_If ?_))
local macro_rules | `(tactic| walk_at "wpC") => `(tactic| ((with_reducible show wpC _ _ (execs _ _) _ _ _); with_reducible refine execsC_cons ?_; refine' wpC_While ?_; refine' codeC_while ?_))
local macro_rules | `(tactic| walk_at "wpC") => `(tactic| ((with_reducible show wpC _ _ (execs _ _) _ _ _); with_reducible refine execsC_cons ?_; refine' wpC_Try ?_))
local macro_rules | `(tactic| walk_at "wpC") => `(tactic| ((with_reducible show wpC _ _ (execs _ _) _ _ _); with_reducible refine execsC_cons ?_; refine' wpC_For ?_ ?hs; (case hs => intro _; with_unfolding_all rfl)))
local macro_rules | `(tactic| walk_at "pyIter ref") => `(tactic| ((with_reducible show wpAny _ _ (pyIter (Value.ref _)) (fun _ _ => codeC _ _ _ _ _) _ _); (with_reducible rename IsRange _ _ _ _ _ _ _ _ => R9); refine wpAny_pyIter_range R9 ?hsmall ?_; (case hsmall => walk_at "c_small")))
local macro_rules | `(tactic| walk_at "wpC") => `(tactic| ((with_reducible show wpC _ _ (execs _ _) _ _ _); with_reducible refine execsC_cons ?_; refine' wpC_Return ?_; refine' evalC_method ?_ ?he; (case he => with_unfolding_all rfl)))
local macro_rules | `(tactic| walk_at "wpC") => `(tactic| ((with_reducible show wpC _ _ (execs _ _) _ _ _); with_reducible refine execsC_cons ?_; refine' wpC_Expr ?_ ?hi ?hs; (case hi => with_unfolding_all rfl); (case hs => with_unfolding_all rfl); refine' evalC_method ?_ ?he; (case he => with_unfolding_all rfl)))
local macro_rules | `(tactic| walk_at "wpC") => `(tactic| ((with_reducible show wpC _ _ (execs _ _) _ _ _); with_reducible refine execsC_cons ?_; refine' wpC_AssignAttr ?_ ?hs; (case hs => with_unfolding_all rfl)))
local macro_rules | `(tactic| walk_at "wpC") => `(tactic| ((with_reducible show wpC _ _ (execs _ _) _ _ _); with_reducible refine execsC_cons ?_; refine' wpC_AssignSub ?_ ?hs; (case hs => with_unfolding_all rfl)))
local macro_rules | `(tactic| walk_at "wpC") => `(tactic| ((with_reducible show wpC _ _ (eval _ _) _ _ _); refine' evalC_ifExp ?_))
local macro_rules | `(tactic| walk_at "wpC") => `(tactic| ((with_reducible show wpC _ _ (eval _ _) _ _ _); refine' evalC_call ?_ ?he; (case he => with_unfolding_all rfl)))
local macro_rules | `(tactic| walk_at "wpC") => `(tactic| ((with_reducible show wpC _ _ (callWith _ _ _ _ _) _ _ _); k_dflt (first | refine' callWithC_T0 ?_ | (refine' callWithC_K0 ?k1 ?k2 ?_; (case k1 => k_in); (case k2 => k_is); k_whole) | (refine' callWithC_K ?k1 ?k2 ?_; (case k1 => k_asm); (case k2 => k_is); k_whole))))
local macro_rules | `(tactic| walk_at "wpC") => `(tactic| ((with_reducible show wpC _ _ (call _ _) _ _ _); k_dflt (show wpC _ _ (call (Value.type "bytearray") []) _ _ _); (with_reducible rename Fr _ _ _ _ => F9); (with_reducible rename News _ _ _ _ => N9); (refine call_baN (s := ⟨_, _, _, _, _⟩) F9 N9 ?_); intro ba' h' F' N' l1; (try k_lt l1)))
local macro_rules | `(tactic| walk_at "wpC") => `(tactic| ((with_reducible show wpC _ _ (setItem (.ref _) (.ref _) (.bytes _ _)) _ _ _); (with_reducible rename Fr _ _ _ _ => F9); (with_reducible rename News _ _ _ _ => N9); refine setItem_N (s := ⟨_, _, _, _, _⟩) F9 N9 (by assumption) (by assumption) (by assumption) (by rw [sizeLine_eq]; omega) ?_; intro _ F' N'))
local macro_rules | `(tactic| walk_at "call builtin:len") => `(tactic| (k_here; (with_reducible show wpAny _ _ (call (Value.builtin "len") [Value.ref _]) _ _ _); (with_reducible rename News _ _ _ _ => N9); refine len_ba (bs := _) (News.get N9 (by repeat (first | exact List.Mem.head _ | apply List.Mem.tail))) (by omega) ?_; have N' := N9; clear N9))
local macro_rules | `(tactic| walk_at "call type:bytes") => `(tactic| (k_here; (with_reducible show wpAny _ _ (call (Value.type "bytes") [Value.ref _]) _ _ _); (with_reducible rename News _ _ _ _ => N9); refine call_bytes_ba (bs := _) (News.get N9 (by repeat (first | exact List.Mem.head _ | apply List.Mem.tail))) (by rw [sizeLine_eq]; first | omega | (simp only [List.size_toArray]; omega)) ?_; have N' := N9; clear N9))
local macro_rules | `(tactic| walk_at "wpC") => `(tactic| ((with_reducible show wpC _ _ (callWith _ (Value.ref _) _ (backTo _ (starEach (_ :: _) _)) _) _ _ _); k_dflt (refine' callWithC_K ?k1 ?k2 ?_; (case k1 => k_asm); (case k2 => k_is); k_whole)))
local macro_rules | `(tactic| walk_at "c_size") => `(tactic| (first | omega | ((try simp only [Array.size_append, List.size_toArray, List.length_cons, List.length_append, List.length_nil, beInt_length]); omega)))
local macro_rules | `(tactic| walk_at "wpC") => `(tactic| ((with_reducible show wpC _ _ (call _ _) _ _ _); k_dflt (show wpC _ _ (call (Value.ref 502) [.ref _, .bytes _ _]) _ _ _); (with_reducible rename Fr _ _ _ _ => F9); (with_reducible rename News _ _ _ _ => N9); (k_dflt (refine' write_c (s := ⟨_, _, _, _, _⟩) ?b1 F9 ?b2 ?b3 ?bN ?b4 ?d1 ?d2 ?d3 ?r1 ?r2 ?b5 ?b6 ?z1 ?z2 ?_; (case bN => first | exact N9 | exact news_r1 N9 | exact news_r2 N9 | exact news_r3 N9 | exact news_r4 N9 | exact news_r5 N9 | exact news_r6 N9); (case b1 => k_asm); (case b2 => k_asm); (case b3 => k_asm); (case b4 => exact rfl); (case d1 => k_ne); (case d2 => k_ne); (case d3 => k_ne); (case r1 => k_all); (case r2 => k_all); (case b5 => ktr_room); (case b6 => k_units); (case z1 => walk_at "c_size"); (case z2 => walk_at "c_size"); k_whole)); intro h' kx' t1' t2' tk' F' N'))
local macro_rules | `(tactic| walk_at "call builtin:_struct.pack") => `(tactic| (k_here; k_dflt (first | refine' pack_B ?a ?b ?_; (case a => omega); (case b => omega); k_whole | refine' pack_b ?a ?b ?_; (case a => omega); (case b => omega); k_whole | refine' pack_BB ?a ?b ?_; (case a => omega); (case b => omega); k_whole | refine' pack_Bb ?a ?b ?_; (case a => omega); (case b => omega); k_whole | refine' pack_BH ?a ?b ?_; (case a => omega); (case b => omega); k_whole | refine' pack_Bh ?a ?b ?_; (case a => omega); (case b => omega); k_whole | refine' pack_BI ?a ?b ?_; (case a => omega); (case b => omega); k_whole | refine' pack_Bi ?a ?b ?_; (case a => omega); (case b => omega); k_whole | refine' pack_BQ ?a ?b ?_; (case a => omega); (case b => omega); k_whole | refine' pack_Bq ?a ?b ?_; (case a => omega); (case b => omega); k_whole | refine' pack_gBB ?a ?b ?_; (case a => omega); (case b => omega); k_whole)))
local macro_rules | `(tactic| walk_at "wpC") => `(tactic| ((k_dflt (first | (show wpC _ _ (call (Value.ref 833) _) _ _ _) | (show wpC _ _ (call (Value.ref 855) _) _ _ _) | (show wpC _ _ (call (Value.ref 862) _) _ _ _))); refine wpC_call ?_; walk_at "c_enter2"))
def encBytes (b : Array UInt8) : List UInt8 := 196 :: (beInt 1 b.size ++ b.toList)
set_option maxRecDepth 100000 in
set_option maxHeartbeats 8000000 in
theorem packbytes_c {prog : Program} {w : World} {A₀ : Around} {dp un : Nat} {gd : Option (List Code)} {cn : Str} {cs : Scope} {a : Addr} {ccd : Value} {cl : List (Str × Addr)} {outer : List Env} {base h₀ : Heap} {L : Addr} {m mg mb : Str → Option Value} {p : Program} {loose : List Str} {mean : ExcName → Option Value}
    {s : Shared} {Q : Value → Shared → Prop} {x dx ba pk dk : Addr} {t1 t2 tp k1 k2 k3 k4 k5 k6 k7 tu : Nat} {b : Array UInt8} {ti : Tok} {rest : List (Addr × Obj)}
    (B : Below A₀ base outer h₀) (F : Fr h₀ L s.heap m) (X : (Mine.hd.heap_39 w.params).In h₀) (T : Top p loose mean mg mb h₀)
    (N : News h₀ L s.heap ((x, instObj 519 dx) :: (dx, bufO w.params t1 t2 ba (.int (#[] : Array UInt8).size tp)) :: (ba, baO #[]) :: (pk, instObj 879 dk) :: (dk, pkO w.params k1 k2 k3 k4 k5 k6 k7 tu x) :: rest)) (hk : cs.kind = .function)
    (d1 : @LT.lt Nat _ dk pk) (d2 : @LT.lt Nat _ pk dx) (d3 : @LT.lt Nat _ dx x) (d4 : @LT.lt Nat _ x ba) (hr1 : ∀ q ∈ rest, q.1 ≠ dx) (hr2 : ∀ q ∈ rest, q.1 ≠ ba)
    (room : dp + 20 < recursionLimit) (units : un + 400 < cLine) (hz : b.size ≤ 200)
    (ret : ∀ h' (k : Int) t t1 t2 t' tk, Fr h₀ L h' m → News h₀ L h' ((x, instObj 519 dx) :: (dx, bufO w.params t1 t2 ba (.int ((encBytes b).toArray.size : Int) t')) :: (ba, baO (encBytes b).toArray) :: (pk, instObj 879 dk) :: (dk, pkO w.params k1 k2 k3 k4 k5 k6 k7 tu x) :: rest) → Q (.int k t) { s with heap := h', toks := tk }) :
    wpC (model prog w) (ktrTop dp un gd cn cs L a ccd cl outer) (call (.ref 791) [.ref pk, .bytes b ti]) Q nE s := by
  walk_at "c_fill"
  refine wpC_call ?_
  have hbl := bl [(Str.ofString "self", .ref pk), (Str.ofString "obj", .bytes b ti), (Str.ofString "nest_limit", .int 1024 558), (Str.ofString "check", .builtin "isinstance"), (Str.ofString "check_type_strict", .ref 218)]
  walk_at "c_enter"
  k_steps
  · exact (no_big (by assumption) (by omega)).elim
  · refine' ret _ _ _ _ _ _ _ (by assumption) (turn_end ?e (news_drop3 (by assumption)))
    case e => simp [encBytes]
end Mine
end
section
open PySem PySem.W PyProof.Rows PySem.Calls
open PySem.Sem (wp)
set_option maxRecDepth 100000
namespace Mine
theorem topOffW7 : True := by
  w_top off
  trivial
local macro_rules | `(tactic| k_all) => `(tactic| assumption)
local macro_rules | `(tactic| k_room) => `(tactic| ktr_room)
local macro_rules | `(tactic| k_units) => `(tactic| first | ktr_units | ((try dsimp only); (try simp only [units_make, units_deeper, units_in1, Around.mark_units]); omega))
local macro_rules | `(tactic| walk_at "c_fill") => `(tactic| (have kf : PySem.Challenge.rw_fg0013_01 = PySem.Challenge.rw_fg0013_01 ∧ Mine.hd.heap_39 = Mine.hd.heap_39 := (by k_fill; exact ⟨rfl, rfl⟩)); clear kf)
local macro_rules | `(tactic| walk_at "c_enter") => `(tactic| (k_dflt (refine' callC_def ?kBL ?k1 ?k2 ?k3 ?k4 ?k5 ?kA ?kF ?kK ?k6 ?k7 ?k8 ?k9 ?kB ?_ ?c5 ?c2 ?c3 ?c4; (case kBL => assumption); (case kA => exact rfl); (case kF => exact rfl); (case kK => assumption); (case k1 => k_asm); (case k2 => k_asm); (case k3 => k_asm); (case k4 => k_asm); (case k5 => k_asm); (case k6 => k_is); (case k7 => k_is); (case k8 => ktr_room); (case k9 => first | exact BindsTo.of_eq rfl | exact binds_K (by k_in) rfl (by k_is) rfl rfl rfl | (refine' kp_binds ?kx ?ke; (case kx => k_in); (case ke => exact fun _ => rfl))); (case kB => exact locs rfl); (case c5 => decide); (case c2 => exact rfl); (case c3 => exact rfl); (case c4 => exact rfl); k_whole; intro g' L' h' tk' FG' F' N' B' X' T' l1; (try k_lt l1); (try dsimp only))))
local macro_rules | `(tactic| walk_at "c_enter2") => `(tactic| (k_dflt (refine' callC_def ?kBL ?k1 ?k2 ?k3 ?k4 ?k5 ?kA ?kF ?kK ?k6 ?k7 ?k8 ?k9 ?kB ?_ ?c5 ?c2 ?c3 ?c4; (case kA => exact rfl); (case kF => exact rfl); (case kK => exact rfl); (case k1 => k_asm); (case k2 => k_asm); (case k3 => k_asm); (case k4 => k_asm); (case k5 => k_asm); (case k6 => k_is); (case k7 => k_is); (case k8 => ktr_room); (case k9 => first | exact BindsTo.of_eq rfl | exact binds_K (by k_in) rfl (by k_is) rfl rfl rfl | (refine' kp_binds ?kx ?ke; (case kx => k_in); (case ke => exact fun _ => rfl))); (case kB => exact locs rfl); (case kBL => exact bl _); (case c5 => decide); (case c2 => exact rfl); (case c3 => exact rfl); (case c4 => exact rfl); k_whole; intro g' L' h' tk' FG' F' N' B' X' T' l1; (try k_lt l1); (try dsimp only))))
local macro_rules | `(tactic| walk_at "c_both") => `(tactic| (k_dflt (refine' kp_both ?k1 ?k2 ?k3 ?k4 ?k5 ?kA ?kF ?kK ?k6 ?k7 ?k8 ?kV ?kX ?kQ ?kM ?kN ?kD ?kR ?kP ?kS ?kT ?kB ?_ ?c2 ?c3 ?c4 ?c5; (case kA => exact rfl); (case kF => exact rfl); (case kK => assumption); (case k1 => k_asm); (case k2 => k_asm); (case k3 => k_asm); (case k4 => k_asm); (case k5 => k_asm); (case k6 => k_is); (case k7 => k_is); (case k8 => ktr_room); (case kV => kp_lit); (case kX => kp_lit); (case kQ => exact rfl); (case kM => exact rfl); (case kN => exact rfl); (case kD => kp_flats); (case kR => exact rfl); (case kP => exact rfl); (case kS => exact fun _ => rfl); (case kT => exact fun _ _ => rfl); (case kB => exact fun _ _ => locs rfl); (case c5 => decide); (case c2 => exact rfl); (case c3 => exact rfl); (case c4 => exact rfl); k_whole; intro C' D' o' g' L' h' tk' l1 l2 lo' hs' fs' FG' F' N' B' X' T'; (try k_lt l1); (try k_lt2 l2); (try dsimp only))))
local macro_rules | `(tactic| walk_at "call type:type") => `(tactic| (k_here; (with_reducible show wpAny _ _ (call (Value.type "type") [Value.bytes _ _]) _ _ _); refine call_type_of (Tx := "bytes") rfl (by decide +kernel) ?_))
local macro_rules | `(tactic| walk_at "wpC") => `(tactic| (with_reducible refine wpC_any ?_))
local macro_rules | `(tactic| walk_at "wpC") => `(tactic| (with_reducible refine execsC_any ?_))
local macro_rules | `(tactic| walk_at "wpC") => `(tactic| (refine' execsC_nil ?_))
local macro_rules | `(tactic| walk_at "wpC") => `(tactic| ((with_reducible show wpC _ _ (execs _ _) _ _ _); with_reducible refine execsC_cons ?_; refine' wpC_If ?_))
local macro_rules | `(tactic| walk_at "wpC") => `(tactic| ((with_reducible show wpC _ _ (execs _ _) _ _ _); with_reducible refine execsC_cons ?_; refine' wpC_While ?_; refine' codeC_while ?_))
local macro_rules | `(tactic| walk_at "wpC") => `(tactic| ((with_reducible show wpC _ _ (execs _ _) _ _ _); with_reducible refine execsC_cons ?_; refine' wpC_Try ?_))
local macro_rules | `(tactic| walk_at "wpC") => `(tactic| ((with_reducible show wpC _ _ (execs _ _) _ _ _); with_reducible refine execsC_cons ?_; refine' wpC_For ?_ ?hs; (case hs => intro _; with_unfolding_all rfl)))
local macro_rules | `(tactic| walk_at "pyIter ref") => `(tactic| ((with_reducible show wpAny _ _ (pyIter (Value.ref _)) (fun _ _ => codeC _ _ _ _ _) _ _); (with_reducible rename IsRange _ _ _ _ _ _ _ _ => R9); refine wpAny_pyIter_range R9 ?hsmall ?_; (case hsmall => walk_at "c_small")))
local macro_rules | `(tactic| walk_at "wpC") => `(tactic| ((with_reducible show wpC _ _ (execs _ _) _ _ _); with_reducible refine execsC_cons ?_; refine' wpC_Return ?_; refine' evalC_method ?_ ?he; (case he => with_unfolding_all rfl)))
local macro_rules | `(tactic| walk_at "wpC") => `(tactic| ((with_reducible show wpC _ _ (execs _ _) _ _ _); with_reducible refine execsC_cons ?_; refine' wpC_Expr ?_ ?hi ?hs; (case hi => with_unfolding_all rfl); (case hs => with_unfolding_all rfl); refine' evalC_method ?_ ?he; (case he => with_unfolding_all rfl)))
local macro_rules | `(tactic| walk_at "wpC") => `(tactic| ((with_reducible show wpC _ _ (execs _ _) _ _ _); with_reducible refine execsC_cons ?_; refine' wpC_AssignAttr ?_ ?hs; (case hs => with_unfolding_all rfl)))
local macro_rules | `(tactic| walk_at "wpC") => `(tactic| ((with_reducible show wpC _ _ (execs _ _) _ _ _); with_reducible refine execsC_cons ?_; refine' wpC_AssignSub ?_ ?hs; (case hs => with_unfolding_all rfl)))
local macro_rules | `(tactic| walk_at "wpC") => `(tactic| ((with_reducible show wpC _ _ (eval _ _) _ _ _); refine' evalC_ifExp ?_))
local macro_rules | `(tactic| walk_at "wpC") => `(tactic| ((with_reducible show wpC _ _ (eval _ _) _ _ _); refine' evalC_call ?_ ?he; (case he => with_unfolding_all rfl)))
local macro_rules | `(tactic| walk_at "wpC") => `(tactic| ((with_reducible show wpC _ _ (callWith _ _ _ _ _) _ _ _); k_dflt (first | refine' callWithC_T0 ?_ | (refine' callWithC_K0 ?k1 ?k2 ?_; (case k1 => k_in); (case k2 => k_is); k_whole) | (refine' callWithC_K ?k1 ?k2 ?_; (case k1 => k_asm); (case k2 => k_is); k_whole))))
local macro_rules | `(tactic| walk_at "wpC") => `(tactic| ((with_reducible show wpC _ _ (call _ _) _ _ _); k_dflt (show wpC _ _ (call (Value.type "bytearray") []) _ _ _); (with_reducible rename Fr _ _ _ _ => F9); (with_reducible rename News _ _ _ _ => N9); (refine call_baN (s := ⟨_, _, _, _, _⟩) F9 N9 ?_); intro ba' h' F' N' l1; (try k_lt l1)))
local macro_rules | `(tactic| walk_at "wpC") => `(tactic| ((with_reducible show wpC _ _ (setItem (.ref _) (.ref _) (.bytes _ _)) _ _ _); (with_reducible rename Fr _ _ _ _ => F9); (with_reducible rename News _ _ _ _ => N9); refine setItem_N (s := ⟨_, _, _, _, _⟩) F9 N9 (by assumption) (by assumption) (by assumption) (by rw [sizeLine_eq]; omega) ?_; intro _ F' N'))
local macro_rules | `(tactic| walk_at "call builtin:len") => `(tactic| (k_here; (with_reducible show wpAny _ _ (call (Value.builtin "len") [Value.ref _]) _ _ _); (with_reducible rename News _ _ _ _ => N9); refine len_ba (bs := _) (News.get N9 (by repeat (first | exact List.Mem.head _ | apply List.Mem.tail))) (by omega) ?_; have N' := N9; clear N9))
local macro_rules | `(tactic| walk_at "call type:bytes") => `(tactic| (k_here; (with_reducible show wpAny _ _ (call (Value.type "bytes") [Value.ref _]) _ _ _); (with_reducible rename News _ _ _ _ => N9); refine call_bytes_ba (bs := _) (News.get N9 (by repeat (first | exact List.Mem.head _ | apply List.Mem.tail))) (by rw [sizeLine_eq]; first | omega | (simp only [List.size_toArray]; omega)) ?_; have N' := N9; clear N9))
local macro_rules | `(tactic| walk_at "wpC") => `(tactic| ((with_reducible show wpC _ _ (callWith _ (Value.ref _) _ (backTo _ (starEach (_ :: _) _)) _) _ _ _); k_dflt (refine' callWithC_K ?k1 ?k2 ?_; (case k1 => k_asm); (case k2 => k_is); k_whole)))
local macro_rules | `(tactic| walk_at "c_size") => `(tactic| (first | omega | ((try simp only [Array.size_append, List.size_toArray, List.length_cons, List.length_append, List.length_nil, beInt_length]); omega)))
local macro_rules | `(tactic| walk_at "wpC") => `(tactic| ((with_reducible show wpC _ _ (call _ _) _ _ _); k_dflt (show wpC _ _ (call (Value.ref 502) [.ref _, .bytes _ _]) _ _ _); (with_reducible rename Fr _ _ _ _ => F9); (with_reducible rename News _ _ _ _ => N9); (k_dflt (refine' write_c (s := ⟨_, _, _, _, _⟩) ?b1 F9 ?b2 ?b3 ?bN ?b4 ?d1 ?d2 ?d3 ?r1 ?r2 ?b5 ?b6 ?z1 ?z2 ?_; (case bN => first | exact N9 | exact news_r1 N9 | exact news_r2 N9 | exact news_r3 N9 | exact news_r4 N9 | exact news_r5 N9 | exact news_r6 N9); (case b1 => k_asm); (case b2 => k_asm); (case b3 => k_asm); (case b4 => exact rfl); (case d1 => k_ne); (case d2 => k_ne); (case d3 => k_ne); (case r1 => k_all); (case r2 => k_all); (case b5 => ktr_room); (case b6 => k_units); (case z1 => walk_at "c_size"); (case z2 => walk_at "c_size"); k_whole)); intro h' kx' t1' t2' tk' F' N'))
local macro_rules | `(tactic| walk_at "call builtin:_struct.pack") => `(tactic| (k_here; k_dflt (first | refine' pack_B ?a ?b ?_; (case a => omega); (case b => omega); k_whole | refine' pack_b ?a ?b ?_; (case a => omega); (case b => omega); k_whole | refine' pack_BB ?a ?b ?_; (case a => omega); (case b => omega); k_whole | refine' pack_Bb ?a ?b ?_; (case a => omega); (case b => omega); k_whole | refine' pack_BH ?a ?b ?_; (case a => omega); (case b => omega); k_whole | refine' pack_Bh ?a ?b ?_; (case a => omega); (case b => omega); k_whole | refine' pack_BI ?a ?b ?_; (case a => omega); (case b => omega); k_whole | refine' pack_Bi ?a ?b ?_; (case a => omega); (case b => omega); k_whole | refine' pack_BQ ?a ?b ?_; (case a => omega); (case b => omega); k_whole | refine' pack_Bq ?a ?b ?_; (case a => omega); (case b => omega); k_whole | refine' pack_gBB ?a ?b ?_; (case a => omega); (case b => omega); k_whole)))
local macro_rules | `(tactic| walk_at "wpC") => `(tactic| ((k_dflt (first | (show wpC _ _ (call (Value.ref 833) _) _ _ _) | (show wpC _ _ (call (Value.ref 855) _) _ _ _) | (show wpC _ _ (call (Value.ref 862) _) _ _ _))); refine wpC_call ?_; walk_at "c_enter2"))
def encText (x : Str) : List UInt8 := beInt 1 (160 + ((u8 x).length : Int)) ++ u8 x
local macro_rules | `(tactic| walk_at "call builtin:str.encode") => `(tactic| (k_here; (with_reducible show wpAny _ _ (call (Value.builtin "str.encode") [Value.str _ _, Value.str _ _]) _ _ _); refine encode_txt (by assumption) ?_))
local macro_rules | `(tactic| walk_at "getMethod str") => `(tactic| (with_reducible refine meth_encode ?_))
set_option maxRecDepth 100000 in
set_option maxHeartbeats 8000000 in
theorem packtext_c {prog : Program} {w : World} {A₀ : Around} {dp un : Nat} {gd : Option (List Code)} {cn : Str} {cs : Scope} {a : Addr} {ccd : Value} {cl : List (Str × Addr)} {outer : List Env} {base h₀ : Heap} {L : Addr} {m mg mb : Str → Option Value} {p : Program} {loose : List Str} {mean : ExcName → Option Value}
    {s : Shared} {Q : Value → Shared → Prop} {x dx ba pk dk : Addr} {t1 t2 tp k1 k2 k3 k4 k5 k6 k7 tu : Nat} {tx : Str} {ti : Tok} {rest : List (Addr × Obj)}
    (B : Below A₀ base outer h₀) (F : Fr h₀ L s.heap m) (X : (Mine.hd.heap_39 w.params).In h₀) (T : Top p loose mean mg mb h₀)
    (N : News h₀ L s.heap ((x, instObj 519 dx) :: (dx, bufO w.params t1 t2 ba (.int (#[] : Array UInt8).size tp)) :: (ba, baO #[]) :: (pk, instObj 879 dk) :: (dk, pkO w.params k1 k2 k3 k4 k5 k6 k7 tu x) :: rest)) (hk : cs.kind = .function)
    (d1 : @LT.lt Nat _ dk pk) (d2 : @LT.lt Nat _ pk dx) (d3 : @LT.lt Nat _ dx x) (d4 : @LT.lt Nat _ x ba) (hr1 : ∀ q ∈ rest, q.1 ≠ dx) (hr2 : ∀ q ∈ rest, q.1 ≠ ba)
    (room : dp + 20 < recursionLimit) (units : un + 400 < cLine) (hx : tx ∈ txts)
    (ret : ∀ h' (k : Int) t t1 t2 t' tk, Fr h₀ L h' m → News h₀ L h' ((x, instObj 519 dx) :: (dx, bufO w.params t1 t2 ba (.int ((encText tx).toArray.size : Int) t')) :: (ba, baO (encText tx).toArray) :: (pk, instObj 879 dk) :: (dk, pkO w.params k1 k2 k3 k4 k5 k6 k7 tu x) :: rest) → Q (.int k t) { s with heap := h', toks := tk }) :
    wpC (model prog w) (ktrTop dp un gd cn cs L a ccd cl outer) (call (.ref 791) [.ref pk, .str tx ti]) Q nE s := by
  walk_at "c_fill"
  refine wpC_call ?_
  have hbl := bl [(Str.ofString "self", .ref pk), (Str.ofString "obj", .str tx ti), (Str.ofString "nest_limit", .int 1024 558), (Str.ofString "check", .builtin "isinstance"), (Str.ofString "check_type_strict", .ref 218)]
  walk_at "c_enter"
  have hz : (u8 tx).toArray.size ≤ 7 := (u8_small tx hx).1
  k_steps
  · exact (no_big (by assumption) (by omega)).elim
  · refine' ret _ _ _ _ _ _ _ (by assumption) (turn_end ?e (news_drop3 (by assumption)))
    case e => simp [encText]
end Mine
end
section
open PySem PySem.W PyProof.Rows PySem.Calls
open PySem.Sem (wp)
set_option maxRecDepth 100000
namespace Mine
theorem topOffW8 : True := by
  w_top off
  trivial
local macro_rules | `(tactic| k_all) => `(tactic| assumption)
local macro_rules | `(tactic| k_room) => `(tactic| ktr_room)
local macro_rules | `(tactic| k_units) => `(tactic| first | ktr_units | ((try dsimp only); (try simp only [units_make, units_deeper, units_in1, Around.mark_units]); omega))
local macro_rules | `(tactic| walk_at "c_fill") => `(tactic| (have kf : PySem.Challenge.rw_fg0013_01 = PySem.Challenge.rw_fg0013_01 ∧ Mine.hd.heap_39 = Mine.hd.heap_39 := (by k_fill; exact ⟨rfl, rfl⟩)); clear kf)
local macro_rules | `(tactic| walk_at "c_enter") => `(tactic| (k_dflt (refine' callC_def ?kBL ?k1 ?k2 ?k3 ?k4 ?k5 ?kA ?kF ?kK ?k6 ?k7 ?k8 ?k9 ?kB ?_ ?c5 ?c2 ?c3 ?c4; (case kBL => assumption); (case kA => exact rfl); (case kF => exact rfl); (case kK => assumption); (case k1 => k_asm); (case k2 => k_asm); (case k3 => k_asm); (case k4 => k_asm); (case k5 => k_asm); (case k6 => k_is); (case k7 => k_is); (case k8 => ktr_room); (case k9 => first | exact BindsTo.of_eq rfl | exact binds_K (by k_in) rfl (by k_is) rfl rfl rfl | (refine' kp_binds ?kx ?ke; (case kx => k_in); (case ke => exact fun _ => rfl))); (case kB => exact locs rfl); (case c5 => decide); (case c2 => exact rfl); (case c3 => exact rfl); (case c4 => exact rfl); k_whole; intro g' L' h' tk' FG' F' N' B' X' T' l1; (try k_lt l1); (try dsimp only))))
local macro_rules | `(tactic| walk_at "c_enter2") => `(tactic| (k_dflt (refine' callC_def ?kBL ?k1 ?k2 ?k3 ?k4 ?k5 ?kA ?kF ?kK ?k6 ?k7 ?k8 ?k9 ?kB ?_ ?c5 ?c2 ?c3 ?c4; (case kA => exact rfl); (case kF => exact rfl); (case kK => exact rfl); (case k1 => k_asm); (case k2 => k_asm); (case k3 => k_asm); (case k4 => k_asm); (case k5 => k_asm); (case k6 => k_is); (case k7 => k_is); (case k8 => ktr_room); (case k9 => first | exact BindsTo.of_eq rfl | exact binds_K (by k_in) rfl (by k_is) rfl rfl rfl | (refine' kp_binds ?kx ?ke; (case kx => k_in); (case ke => exact fun _ => rfl))); (case kB => exact locs rfl); (case kBL => exact bl _); (case c5 => decide); (case c2 => exact rfl); (case c3 => exact rfl); (case c4 => exact rfl); k_whole; intro g' L' h' tk' FG' F' N' B' X' T' l1; (try k_lt l1); (try dsimp only))))
local macro_rules | `(tactic| walk_at "c_both") => `(tactic| (k_dflt (refine' kp_both ?k1 ?k2 ?k3 ?k4 ?k5 ?kA ?kF ?kK ?k6 ?k7 ?k8 ?kV ?kX ?kQ ?kM ?kN ?kD ?kR ?kP ?kS ?kT ?kB ?_ ?c2 ?c3 ?c4 ?c5; (case kA => exact rfl); (case kF => exact rfl); (case kK => assumption); (case k1 => k_asm); (case k2 => k_asm); (case k3 => k_asm); (case k4 => k_asm); (case k5 => k_asm); (case k6 => k_is); (case k7 => k_is); (case k8 => ktr_room); (case kV => kp_lit); (case kX => kp_lit); (case kQ => exact rfl); (case kM => exact rfl); (case kN => exact rfl); (case kD => kp_flats); (case kR => exact rfl); (case kP => exact rfl); (case kS => exact fun _ => rfl); (case kT => exact fun _ _ => rfl); (case kB => exact fun _ _ => locs rfl); (case c5 => decide); (case c2 => exact rfl); (case c3 => exact rfl); (case c4 => exact rfl); k_whole; intro C' D' o' g' L' h' tk' l1 l2 lo' hs' fs' FG' F' N' B' X' T'; (try k_lt l1); (try k_lt2 l2); (try dsimp only))))
local macro_rules | `(tactic| walk_at "call type:type") => `(tactic| (k_here; (with_reducible show wpAny _ _ (call (Value.type "type") [Value.bytes _ _]) _ _ _); refine call_type_of (Tx := "bytes") rfl (by decide +kernel) ?_))
local macro_rules | `(tactic| walk_at "wpC") => `(tactic| (with_reducible refine wpC_any ?_))
local macro_rules | `(tactic| walk_at "wpC") => `(tactic| (with_reducible refine execsC_any ?_))
local macro_rules | `(tactic| walk_at "wpC") => `(tactic| (refine' execsC_nil ?_))
local macro_rules | `(tactic| walk_at "wpC") => `(tactic| ((with_reducible show wpC _ _ (execs _ _) _ _ _); with_reducible refine execsC_cons ?_; refine' wpC_If ?_))
local macro_rules | `(tactic| walk_at "wpC") => `(tactic| ((with_reducible show wpC _ _ (execs _ _) _ _ _); with_reducible refine execsC_cons ?_; refine' wpC_While ?_; refine' codeC_while ?_))
local macro_rules | `(tactic| walk_at "wpC") => `(tactic| ((with_reducible show wpC _ _ (execs _ _) _ _ _); with_reducible refine execsC_cons ?_; refine' wpC_Try ?_))
local macro_rules | `(tactic| walk_at "wpC") => `(tactic| ((with_reducible show wpC _ _ (execs _ _) _ _ _); with_reducible refine execsC_cons ?_; refine' wpC_For ?_ ?hs; (case hs => intro _; with_unfolding_all rfl)))
local macro_rules | `(tactic| walk_at "pyIter ref") => `(tactic| ((with_reducible show wpAny _ _ (pyIter (Value.ref _)) (fun _ _ => codeC _ _ _ _ _) _ _); (with_reducible rename IsRange _ _ _ _ _ _ _ _ => R9); refine wpAny_pyIter_range R9 ?hsmall ?_; (case hsmall => walk_at "c_small")))
local macro_rules | `(tactic| walk_at "wpC") => `(tactic| ((with_reducible show wpC _ _ (execs _ _) _ _ _); with_reducible refine execsC_cons ?_; refine' wpC_Return ?_; refine' evalC_method ?_ ?he; (case he => with_unfolding_all rfl)))
local macro_rules | `(tactic| walk_at "wpC") => `(tactic| ((with_reducible show wpC _ _ (execs _ _) _ _ _); with_reducible refine execsC_cons ?_; refine' wpC_Expr ?_ ?hi ?hs; (case hi => with_unfolding_all rfl); (case hs => with_unfolding_all rfl); refine' evalC_method ?_ ?he; (case he => with_unfolding_all rfl)))
local macro_rules | `(tactic| walk_at "wpC") => `(tactic| ((with_reducible show wpC _ _ (execs _ _) _ _ _); with_reducible refine execsC_cons ?_; refine' wpC_AssignAttr ?_ ?hs; (case hs => with_unfolding_all rfl)))
local macro_rules | `(tactic| walk_at "wpC") => `(tactic| ((with_reducible show wpC _ _ (execs _ _) _ _ _); with_reducible refine execsC_cons ?_; refine' wpC_AssignSub ?_ ?hs; (case hs => with_unfolding_all rfl)))
local macro_rules | `(tactic| walk_at "wpC") => `(tactic| ((with_reducible show wpC _ _ (eval _ _) _ _ _); refine' evalC_ifExp ?_))
local macro_rules | `(tactic| walk_at "wpC") => `(tactic| ((with_reducible show wpC _ _ (eval _ _) _ _ _); refine' evalC_call ?_ ?he; (case he => with_unfolding_all rfl)))
local macro_rules | `(tactic| walk_at "wpC") => `(tactic| ((with_reducible show wpC _ _ (callWith _ _ _ _ _) _ _ _); k_dflt (first | refine' callWithC_T0 ?_ | (refine' callWithC_K0 ?k1 ?k2 ?_; (case k1 => k_in); (case k2 => k_is); k_whole) | (refine' callWithC_K ?k1 ?k2 ?_; (case k1 => k_asm); (case k2 => k_is); k_whole))))
local macro_rules | `(tactic| walk_at "wpC") => `(tactic| ((with_reducible show wpC _ _ (call _ _) _ _ _); k_dflt (show wpC _ _ (call (Value.type "bytearray") []) _ _ _); (with_reducible rename Fr _ _ _ _ => F9); (with_reducible rename News _ _ _ _ => N9); (refine call_baN (s := ⟨_, _, _, _, _⟩) F9 N9 ?_); intro ba' h' F' N' l1; (try k_lt l1)))
local macro_rules | `(tactic| walk_at "wpC") => `(tactic| ((with_reducible show wpC _ _ (setItem (.ref _) (.ref _) (.bytes _ _)) _ _ _); (with_reducible rename Fr _ _ _ _ => F9); (with_reducible rename News _ _ _ _ => N9); refine setItem_N (s := ⟨_, _, _, _, _⟩) F9 N9 (by assumption) (by assumption) (by assumption) (by rw [sizeLine_eq]; omega) ?_; intro _ F' N'))
local macro_rules | `(tactic| walk_at "call builtin:len") => `(tactic| (k_here; (with_reducible show wpAny _ _ (call (Value.builtin "len") [Value.ref _]) _ _ _); (with_reducible rename News _ _ _ _ => N9); refine len_ba (bs := _) (News.get N9 (by repeat (first | exact List.Mem.head _ | apply List.Mem.tail))) (by omega) ?_; have N' := N9; clear N9))
local macro_rules | `(tactic| walk_at "call type:bytes") => `(tactic| (k_here; (with_reducible show wpAny _ _ (call (Value.type "bytes") [Value.ref _]) _ _ _); (with_reducible rename News _ _ _ _ => N9); refine call_bytes_ba (bs := _) (News.get N9 (by repeat (first | exact List.Mem.head _ | apply List.Mem.tail))) (by rw [sizeLine_eq]; first | omega | (simp only [List.size_toArray]; omega)) ?_; have N' := N9; clear N9))
local macro_rules | `(tactic| walk_at "wpC") => `(tactic| ((with_reducible show wpC _ _ (callWith _ (Value.ref _) _ (backTo _ (starEach (_ :: _) _)) _) _ _ _); k_dflt (refine' callWithC_K ?k1 ?k2 ?_; (case k1 => k_asm); (case k2 => k_is); k_whole)))
local macro_rules | `(tactic| walk_at "c_size") => `(tactic| (first | omega | ((try simp only [Array.size_append, List.size_toArray, List.length_cons, List.length_append, List.length_nil, beInt_length]); omega)))
local macro_rules | `(tactic| walk_at "wpC") => `(tactic| ((with_reducible show wpC _ _ (call _ _) _ _ _); k_dflt (show wpC _ _ (call (Value.ref 502) [.ref _, .bytes _ _]) _ _ _); (with_reducible rename Fr _ _ _ _ => F9); (with_reducible rename News _ _ _ _ => N9); (k_dflt (refine' write_c (s := ⟨_, _, _, _, _⟩) ?b1 F9 ?b2 ?b3 ?bN ?b4 ?d1 ?d2 ?d3 ?r1 ?r2 ?b5 ?b6 ?z1 ?z2 ?_; (case bN => first | exact N9 | exact news_r1 N9 | exact news_r2 N9 | exact news_r3 N9 | exact news_r4 N9 | exact news_r5 N9 | exact news_r6 N9); (case b1 => k_asm); (case b2 => k_asm); (case b3 => k_asm); (case b4 => exact rfl); (case d1 => k_ne); (case d2 => k_ne); (case d3 => k_ne); (case r1 => k_all); (case r2 => k_all); (case b5 => ktr_room); (case b6 => k_units); (case z1 => walk_at "c_size"); (case z2 => walk_at "c_size"); k_whole)); intro h' kx' t1' t2' tk' F' N'))
local macro_rules | `(tactic| walk_at "call builtin:_struct.pack") => `(tactic| (k_here; k_dflt (first | refine' pack_B ?a ?b ?_; (case a => omega); (case b => omega); k_whole | refine' pack_b ?a ?b ?_; (case a => omega); (case b => omega); k_whole | refine' pack_BB ?a ?b ?_; (case a => omega); (case b => omega); k_whole | refine' pack_Bb ?a ?b ?_; (case a => omega); (case b => omega); k_whole | refine' pack_BH ?a ?b ?_; (case a => omega); (case b => omega); k_whole | refine' pack_Bh ?a ?b ?_; (case a => omega); (case b => omega); k_whole | refine' pack_BI ?a ?b ?_; (case a => omega); (case b => omega); k_whole | refine' pack_Bi ?a ?b ?_; (case a => omega); (case b => omega); k_whole | refine' pack_BQ ?a ?b ?_; (case a => omega); (case b => omega); k_whole | refine' pack_Bq ?a ?b ?_; (case a => omega); (case b => omega); k_whole | refine' pack_gBB ?a ?b ?_; (case a => omega); (case b => omega); k_whole)))
local macro_rules | `(tactic| walk_at "wpC") => `(tactic| ((k_dflt (first | (show wpC _ _ (call (Value.ref 833) _) _ _ _) | (show wpC _ _ (call (Value.ref 855) _) _ _ _) | (show wpC _ _ (call (Value.ref 862) _) _ _ _))); refine wpC_call ?_; walk_at "c_enter2"))
theorem news_t8 {g h : Heap} {L : Addr} {a b c d e f i j : Addr × Obj} {r : List (Addr × Obj)} (N : News g L h (a :: b :: c :: d :: e :: f :: i :: j :: r)) : News g L h r := fun q hq => N q (by simp [hq])
/-- what _pack does at one value -/
def PacksTo (prog : Program) (w : World) (v : Value) (enc : List UInt8) (Ok : List (Addr × Obj) → Prop) : Prop :=
  ∀ (A₀ : Around) (dp un : Nat) (gd : Option (List Code)) (cn : Str) (cs : Scope) (a : Addr) (ccd : Value) (cl : List (Str × Addr)) (outer : List Env) (base h₀ : Heap) (L : Addr) (m mg mb : Str → Option Value) (p : Program) (loose : List Str) (mean : ExcName → Option Value)
    (s : Shared) (Q : Value → Shared → Prop) (x dx ba pk dk : Addr) (t1 t2 tp k1 k2 k3 k4 k5 k6 k7 tu : Nat) (rest : List (Addr × Obj)),
    Below A₀ base outer h₀ → Fr h₀ L s.heap m → (Mine.hd.heap_39 w.params).In h₀ → Top p loose mean mg mb h₀ →
    News h₀ L s.heap ((x, instObj 519 dx) :: (dx, bufO w.params t1 t2 ba (.int (#[] : Array UInt8).size tp)) :: (ba, baO #[]) :: (pk, instObj 879 dk) :: (dk, pkO w.params k1 k2 k3 k4 k5 k6 k7 tu x) :: rest) → cs.kind = .function →
    @LT.lt Nat _ dk pk → @LT.lt Nat _ pk dx → @LT.lt Nat _ dx x → @LT.lt Nat _ x ba → (∀ q ∈ rest, q.1 ≠ dx) → (∀ q ∈ rest, q.1 ≠ ba) → Ok rest →
    dp + 20 < recursionLimit → un + 400 < cLine →
    (∀ h' v' t1 t2 t' tk, (∀ a, v' ≠ .ref a) → Fr h₀ L h' m → News h₀ L h' ((x, instObj 519 dx) :: (dx, bufO w.params t1 t2 ba (.int (enc.toArray.size : Int) t')) :: (ba, baO enc.toArray) :: (pk, instObj 879 dk) :: (dk, pkO w.params k1 k2 k3 k4 k5 k6 k7 tu x) :: rest) → Q v' { s with heap := h', toks := tk }) →
    wpC (model prog w) (ktrTop dp un gd cn cs L a ccd cl outer) (call (.ref 791) [.ref pk, v]) Q nE s
theorem packs_text {prog : Program} {w : World} {tx : Str} {ti : Tok} (hx : tx ∈ txts) : PacksTo prog w (.str tx ti) (encText tx) (fun _ => True) := by
  intro A₀ dp un gd cn cs a ccd cl outer base h₀ L m mg mb p loose mean s Q x dx ba pk dk t1 t2 tp k1 k2 k3 k4 k5 k6 k7 tu rest B F X T N hk d1 d2 d3 d4 hr1 hr2 _ room units ret
  exact packtext_c B F X T N hk d1 d2 d3 d4 hr1 hr2 room units hx fun h' k t t1 t2 t' tk F' N' => ret h' _ _ _ _ _ (fun _ e => nomatch e) F' N'
theorem packs_bytes {prog : Program} {w : World} {b : Array UInt8} {ti : Tok} (hz : b.size ≤ 200) : PacksTo prog w (.bytes b ti) (encBytes b) (fun _ => True) := by
  intro A₀ dp un gd cn cs a ccd cl outer base h₀ L m mg mb p loose mean s Q x dx ba pk dk t1 t2 tp k1 k2 k3 k4 k5 k6 k7 tu rest B F X T N hk d1 d2 d3 d4 hr1 hr2 _ room units ret
  exact packbytes_c B F X T N hk d1 d2 d3 d4 hr1 hr2 room units hz fun h' k t t1 t2 t' tk F' N' => ret h' _ _ _ _ _ (fun _ e => nomatch e) F' N'
theorem packs_list {prog : Program} {w : World} {l : Addr} {ln : Nat} {vs : List Value} {ns : List Int} (hi : IntsAre vs ns) (hl : ns.length ≤ 15) (hi1 : ∀ i ∈ ns, -9223372036854775808 ≤ i ∧ i ≤ 18446744073709551615) :
    PacksTo prog w (.ref l) (encRow ns) (fun rest => (l, listOf vs.toArray ln) ∈ rest) := by
  intro A₀ dp un gd cn cs a ccd cl outer base h₀ L m mg mb p loose mean s Q x dx ba pk dk t1 t2 tp k1 k2 k3 k4 k5 k6 k7 tu rest B F X T N hk d1 d2 d3 d4 hr1 hr2 hm room units ret
  refine packlist_c (l := l) (ln := ln) (vs := vs) (ns := ns) (rest := rest) (t1 := t1) (t2 := t2) (tp := tp) (k1 := k1) (k2 := k2) (k3 := k3) (k4 := k4) (k5 := k5) (k6 := k6) (k7 := k7) (tu := tu) B F X T (fun q hq => N q ?_) hk d1 d2 d3 d4 (hr1 _ hm) (hr2 _ hm) hr1 hr2 room units hi hl hi1 fun h' t1 t2 t' tk F' N' => ret h' .none t1 t2 t' tk (fun _ e => nomatch e) F' fun q hq => N' q ?_
  · simp only [List.mem_cons] at hq ⊢
    rcases hq with h | h | h | h | h | h | h
    · simp [h]
    · simp [h]
    · simp [h]
    · simp [h]
    · simp [h]
    · subst h; exact .inr (.inr (.inr (.inr (.inr hm))))
    · simp [h]
  · simp only [List.mem_cons] at hq ⊢
    rcases hq with h | h | h | h | h | h <;> simp [h]
local macro_rules | `(tactic| walk_at "wpC") => `(tactic| ((with_reducible show wpC _ _ (execs _ _) _ _ _); with_reducible refine execsC_cons ?_; refine' wpC_ExprE ?_ ?hi ?hs; (case hi => with_unfolding_all rfl); (case hs => with_unfolding_all rfl); refine' evalC_method ?_ ?he; (case he => with_unfolding_all rfl)))
local macro_rules | `(tactic| walk_at "wpC") => `(tactic| ((with_reducible show wpC _ _ (call _ _) _ _ _); k_dflt (show wpC _ _ (call (Value.ref 519) []) _ _ _); (with_reducible rename Fr _ _ _ _ => F9); (with_reducible rename News _ _ _ _ => N9); (k_dflt (refine' bytesio_c (s := ⟨_, _, _, _, _⟩) ?b1 F9 ?b2 ?b3 N9 ?b4 ?b5 ?b6 ?_; (case b1 => k_asm); (case b2 => k_asm); (case b3 => k_asm); (case b4 => exact rfl); (case b5 => ktr_room); (case b6 => k_units); k_whole)); intro x' dx' ba' h' t1' t2' tp' tk' l1 l2 l3 F' N'; (try k_lt l1)))
local macro_rules | `(tactic| walk_at "wpC") => `(tactic| ((with_reducible show wpC _ _ (call _ _) _ _ _); k_dflt (show wpC _ _ (call (Value.ref 791) [.ref _, _]) _ _ _); (with_reducible rename PacksTo _ _ _ _ _ => hpk9); (with_reducible rename Fr _ _ _ _ => F9); (with_reducible rename News _ _ _ _ => N9); (k_dflt (refine' hpk9 _ _ _ _ _ _ _ _ _ _ _ _ _ _ _ _ _ _ _ ⟨_, _, _, _, _⟩ _ _ _ _ _ _ _ _ _ _ _ _ _ _ _ _ _ _ ?b1 F9 ?b2 ?b3 N9 ?b4 ?d1 ?d2 ?d3 ?d4 ?r1 ?r2 ?r3 ?b5 ?b6 ?_; (case b1 => k_asm); (case b2 => k_asm); (case b3 => k_asm); (case b4 => exact rfl); (case d1 => omega); (case d2 => omega); (case d3 => omega); (case d4 => omega); (case r1 => k_all); (case r2 => k_all); (case r3 => assumption); (case b5 => ktr_room); (case b6 => k_units); k_whole)); intro h' v' t1' t2' t3' tk' hv' F' N'))
set_option maxRecDepth 100000 in
set_option maxHeartbeats 8000000 in
theorem pack_c {prog : Program} {w : World} {A₀ : Around} {dp un : Nat} {gd : Option (List Code)} {cn : Str} {cs : Scope} {a : Addr} {ccd : Value} {cl : List (Str × Addr)} {outer : List Env} {base h₀ : Heap} {L : Addr} {m mg mb : Str → Option Value} {p : Program} {loose : List Str} {mean : ExcName → Option Value}
    {s : Shared} {Q : Value → Shared → Prop} {x dx ba pk dk : Addr} {t1 t2 tp k1 k2 k3 k4 k5 k6 k7 tu : Nat} {v : Value} {enc : List UInt8} {Ok : List (Addr × Obj) → Prop} {rest : List (Addr × Obj)} (hpk : PacksTo prog w v enc Ok)
    (B : Below A₀ base outer h₀) (F : Fr h₀ L s.heap m) (X : (Mine.hd.heap_39 w.params).In h₀) (T : Top p loose mean mg mb h₀)
    (N : News h₀ L s.heap ((x, instObj 519 dx) :: (dx, bufO w.params t1 t2 ba (.int (#[] : Array UInt8).size tp)) :: (ba, baO #[]) :: (pk, instObj 879 dk) :: (dk, pkO w.params k1 k2 k3 k4 k5 k6 k7 tu x) :: rest)) (hk : cs.kind = .function)
    (d1 : @LT.lt Nat _ dk pk) (d2 : @LT.lt Nat _ pk dx) (d3 : @LT.lt Nat _ dx x) (d4 : @LT.lt Nat _ x ba) (hr1 : ∀ q ∈ rest, q.1 ≠ dx) (hr2 : ∀ q ∈ rest, q.1 ≠ ba) (hr3 : ∀ q ∈ rest, q.1 ≠ dk) (hok : Ok rest) (henc : enc.length ≤ 1000)
    (room : dp + 40 < recursionLimit) (units : un + 800 < cLine)
    (ret : ∀ h' t tk, Fr h₀ L h' m → News h₀ L h' rest → Q (.bytes enc.toArray t) { s with heap := h', toks := tk }) :
    wpC (model prog w) (ktrTop dp un gd cn cs L a ccd cl outer) (call (.ref 798) [.ref pk, v]) Q nE s := by
  walk_at "c_fill"
  refine wpC_call ?_
  have hbl := bl [(Str.ofString "self", .ref pk), (Str.ofString "obj", v)]
  walk_at "c_enter"
  k_steps
  refine ⟨by assumption, ?_⟩
  k_steps
  exact ret _ _ _ (by assumption) (news_t8 (by assumption))
end Mine
end
section
open PySem PySem.W PyProof.Rows PySem.Calls
open PySem.Sem (wp)
set_option maxRecDepth 100000
namespace Mine
theorem topOffW9 : True := by
  w_top off
  trivial
local macro_rules | `(tactic| k_all) => `(tactic| assumption)
local macro_rules | `(tactic| k_room) => `(tactic| ktr_room)
local macro_rules | `(tactic| k_units) => `(tactic| first | ktr_units | ((try dsimp only); (try simp only [units_make, units_deeper, units_in1, Around.mark_units]); omega))
local macro_rules | `(tactic| walk_at "c_fill") => `(tactic| (have kf : PySem.Challenge.rw_fg0013_01 = PySem.Challenge.rw_fg0013_01 ∧ Mine.hd.heap_39 = Mine.hd.heap_39 := (by k_fill; exact ⟨rfl, rfl⟩)); clear kf)
local macro_rules | `(tactic| walk_at "c_enter") => `(tactic| (k_dflt (refine' callC_def ?kBL ?k1 ?k2 ?k3 ?k4 ?k5 ?kA ?kF ?kK ?k6 ?k7 ?k8 ?k9 ?kB ?_ ?c5 ?c2 ?c3 ?c4; (case kBL => assumption); (case kA => exact rfl); (case kF => exact rfl); (case kK => assumption); (case k1 => k_asm); (case k2 => k_asm); (case k3 => k_asm); (case k4 => k_asm); (case k5 => k_asm); (case k6 => k_is); (case k7 => k_is); (case k8 => ktr_room); (case k9 => first | exact BindsTo.of_eq rfl | exact binds_K (by k_in) rfl (by k_is) rfl rfl rfl | (refine' kp_binds ?kx ?ke; (case kx => k_in); (case ke => exact fun _ => rfl))); (case kB => exact locs rfl); (case c5 => decide); (case c2 => exact rfl); (case c3 => exact rfl); (case c4 => exact rfl); k_whole; intro g' L' h' tk' FG' F' N' B' X' T' l1; (try k_lt l1); (try dsimp only))))
local macro_rules | `(tactic| walk_at "c_enter2") => `(tactic| (k_dflt (refine' callC_def ?kBL ?k1 ?k2 ?k3 ?k4 ?k5 ?kA ?kF ?kK ?k6 ?k7 ?k8 ?k9 ?kB ?_ ?c5 ?c2 ?c3 ?c4; (case kA => exact rfl); (case kF => exact rfl); (case kK => exact rfl); (case k1 => k_asm); (case k2 => k_asm); (case k3 => k_asm); (case k4 => k_asm); (case k5 => k_asm); (case k6 => k_is); (case k7 => k_is); (case k8 => ktr_room); (case k9 => first | exact BindsTo.of_eq rfl | exact binds_K (by k_in) rfl (by k_is) rfl rfl rfl | (refine' kp_binds ?kx ?ke; (case kx => k_in); (case ke => exact fun _ => rfl))); (case kB => exact locs rfl); (case kBL => exact bl _); (case c5 => decide); (case c2 => exact rfl); (case c3 => exact rfl); (case c4 => exact rfl); k_whole; intro g' L' h' tk' FG' F' N' B' X' T' l1; (try k_lt l1); (try dsimp only))))
local macro_rules | `(tactic| walk_at "c_both") => `(tactic| (k_dflt (refine' kp_both ?k1 ?k2 ?k3 ?k4 ?k5 ?kA ?kF ?kK ?k6 ?k7 ?k8 ?kV ?kX ?kQ ?kM ?kN ?kD ?kR ?kP ?kS ?kT ?kB ?_ ?c2 ?c3 ?c4 ?c5; (case kA => exact rfl); (case kF => exact rfl); (case kK => assumption); (case k1 => k_asm); (case k2 => k_asm); (case k3 => k_asm); (case k4 => k_asm); (case k5 => k_asm); (case k6 => k_is); (case k7 => k_is); (case k8 => ktr_room); (case kV => kp_lit); (case kX => kp_lit); (case kQ => exact rfl); (case kM => exact rfl); (case kN => exact rfl); (case kD => kp_flats); (case kR => exact rfl); (case kP => exact rfl); (case kS => exact fun _ => rfl); (case kT => exact fun _ _ => rfl); (case kB => exact fun _ _ => locs rfl); (case c5 => decide); (case c2 => exact rfl); (case c3 => exact rfl); (case c4 => exact rfl); k_whole; intro C' D' o' g' L' h' tk' l1 l2 lo' hs' fs' FG' F' N' B' X' T'; (try k_lt l1); (try k_lt2 l2); (try dsimp only))))
local macro_rules | `(tactic| walk_at "call type:type") => `(tactic| (k_here; (with_reducible show wpAny _ _ (call (Value.type "type") [Value.bytes _ _]) _ _ _); refine call_type_of (Tx := "bytes") rfl (by decide +kernel) ?_))
local macro_rules | `(tactic| walk_at "wpC") => `(tactic| (with_reducible refine wpC_any ?_))
local macro_rules | `(tactic| walk_at "wpC") => `(tactic| (with_reducible refine execsC_any ?_))
local macro_rules | `(tactic| walk_at "wpC") => `(tactic| (refine' execsC_nil ?_))
local macro_rules | `(tactic| walk_at "wpC") => `(tactic| ((with_reducible show wpC _ _ (execs _ _) _ _ _); with_reducible refine execsC_cons ?_; refine' wpC_If ?_))
local macro_rules | `(tactic| walk_at "wpC") => `(tactic| ((with_reducible show wpC _ _ (execs _ _) _ _ _); with_reducible refine execsC_cons ?_; refine' wpC_While ?_; refine' codeC_while ?_))
local macro_rules | `(tactic| walk_at "wpC") => `(tactic| ((with_reducible show wpC _ _ (execs _ _) _ _ _); with_reducible refine execsC_cons ?_; refine' wpC_Try ?_))
local macro_rules | `(tactic| walk_at "wpC") => `(tactic| ((with_reducible show wpC _ _ (execs _ _) _ _ _); with_reducible refine execsC_cons ?_; refine' wpC_For ?_ ?hs; (case hs => intro _; with_unfolding_all rfl)))
local macro_rules | `(tactic| walk_at "pyIter ref") => `(tactic| ((with_reducible show wpAny _ _ (pyIter (Value.ref _)) (fun _ _ => codeC _ _ _ _ _) _ _); (with_reducible rename IsRange _ _ _ _ _ _ _ _ => R9); refine wpAny_pyIter_range R9 ?hsmall ?_; (case hsmall => walk_at "c_small")))
local macro_rules | `(tactic| walk_at "wpC") => `(tactic| ((with_reducible show wpC _ _ (execs _ _) _ _ _); with_reducible refine execsC_cons ?_; refine' wpC_Return ?_; refine' evalC_method ?_ ?he; (case he => with_unfolding_all rfl)))
local macro_rules | `(tactic| walk_at "wpC") => `(tactic| ((with_reducible show wpC _ _ (execs _ _) _ _ _); with_reducible refine execsC_cons ?_; refine' wpC_Expr ?_ ?hi ?hs; (case hi => with_unfolding_all rfl); (case hs => with_unfolding_all rfl); refine' evalC_method ?_ ?he; (case he => with_unfolding_all rfl)))
local macro_rules | `(tactic| walk_at "wpC") => `(tactic| ((with_reducible show wpC _ _ (execs _ _) _ _ _); with_reducible refine execsC_cons ?_; refine' wpC_AssignAttr ?_ ?hs; (case hs => with_unfolding_all rfl)))
local macro_rules | `(tactic| walk_at "wpC") => `(tactic| ((with_reducible show wpC _ _ (execs _ _) _ _ _); with_reducible refine execsC_cons ?_; refine' wpC_AssignSub ?_ ?hs; (case hs => with_unfolding_all rfl)))
local macro_rules | `(tactic| walk_at "wpC") => `(tactic| ((with_reducible show wpC _ _ (eval _ _) _ _ _); refine' evalC_ifExp ?_))
local macro_rules | `(tactic| walk_at "wpC") => `(tactic| ((with_reducible show wpC _ _ (eval _ _) _ _ _); refine' evalC_call ?_ ?he; (case he => with_unfolding_all rfl)))
local macro_rules | `(tactic| walk_at "wpC") => `(tactic| ((with_reducible show wpC _ _ (callWith _ _ _ _ _) _ _ _); k_dflt (first | refine' callWithC_T0 ?_ | (refine' callWithC_K0 ?k1 ?k2 ?_; (case k1 => k_in); (case k2 => k_is); k_whole) | (refine' callWithC_K ?k1 ?k2 ?_; (case k1 => k_asm); (case k2 => k_is); k_whole))))
local macro_rules | `(tactic| walk_at "wpC") => `(tactic| ((with_reducible show wpC _ _ (call _ _) _ _ _); k_dflt (show wpC _ _ (call (Value.type "bytearray") []) _ _ _); (with_reducible rename Fr _ _ _ _ => F9); (with_reducible rename News _ _ _ _ => N9); (refine call_baN (s := ⟨_, _, _, _, _⟩) F9 N9 ?_); intro ba' h' F' N' l1; (try k_lt l1)))
local macro_rules | `(tactic| walk_at "wpC") => `(tactic| ((with_reducible show wpC _ _ (setItem (.ref _) (.ref _) (.bytes _ _)) _ _ _); (with_reducible rename Fr _ _ _ _ => F9); (with_reducible rename News _ _ _ _ => N9); refine setItem_N (s := ⟨_, _, _, _, _⟩) F9 N9 (by assumption) (by assumption) (by assumption) (by rw [sizeLine_eq]; omega) ?_; intro _ F' N'))
local macro_rules | `(tactic| walk_at "call builtin:len") => `(tactic| (k_here; (with_reducible show wpAny _ _ (call (Value.builtin "len") [Value.ref _]) _ _ _); (with_reducible rename News _ _ _ _ => N9); refine len_ba (bs := _) (News.get N9 (by repeat (first | exact List.Mem.head _ | apply List.Mem.tail))) (by omega) ?_; have N' := N9; clear N9))
local macro_rules | `(tactic| walk_at "call type:bytes") => `(tactic| (k_here; (with_reducible show wpAny _ _ (call (Value.type "bytes") [Value.ref _]) _ _ _); (with_reducible rename News _ _ _ _ => N9); refine call_bytes_ba (bs := _) (News.get N9 (by repeat (first | exact List.Mem.head _ | apply List.Mem.tail))) (by rw [sizeLine_eq]; first | omega | (simp only [List.size_toArray]; omega)) ?_; have N' := N9; clear N9))
local macro_rules | `(tactic| walk_at "wpC") => `(tactic| ((with_reducible show wpC _ _ (callWith _ (Value.ref _) _ (backTo _ (starEach (_ :: _) _)) _) _ _ _); k_dflt (refine' callWithC_K ?k1 ?k2 ?_; (case k1 => k_asm); (case k2 => k_is); k_whole)))
local macro_rules | `(tactic| walk_at "c_size") => `(tactic| (first | omega | ((try simp only [Array.size_append, List.size_toArray, List.length_cons, List.length_append, List.length_nil, beInt_length]); omega)))
local macro_rules | `(tactic| walk_at "wpC") => `(tactic| ((with_reducible show wpC _ _ (call _ _) _ _ _); k_dflt (show wpC _ _ (call (Value.ref 502) [.ref _, .bytes _ _]) _ _ _); (with_reducible rename Fr _ _ _ _ => F9); (with_reducible rename News _ _ _ _ => N9); (k_dflt (refine' write_c (s := ⟨_, _, _, _, _⟩) ?b1 F9 ?b2 ?b3 ?bN ?b4 ?d1 ?d2 ?d3 ?r1 ?r2 ?b5 ?b6 ?z1 ?z2 ?_; (case bN => first | exact N9 | exact news_r1 N9 | exact news_r2 N9 | exact news_r3 N9 | exact news_r4 N9 | exact news_r5 N9 | exact news_r6 N9); (case b1 => k_asm); (case b2 => k_asm); (case b3 => k_asm); (case b4 => exact rfl); (case d1 => k_ne); (case d2 => k_ne); (case d3 => k_ne); (case r1 => k_all); (case r2 => k_all); (case b5 => ktr_room); (case b6 => k_units); (case z1 => walk_at "c_size"); (case z2 => walk_at "c_size"); k_whole)); intro h' kx' t1' t2' tk' F' N'))
local macro_rules | `(tactic| walk_at "call builtin:_struct.pack") => `(tactic| (k_here; k_dflt (first | refine' pack_B ?a ?b ?_; (case a => omega); (case b => omega); k_whole | refine' pack_b ?a ?b ?_; (case a => omega); (case b => omega); k_whole | refine' pack_BB ?a ?b ?_; (case a => omega); (case b => omega); k_whole | refine' pack_Bb ?a ?b ?_; (case a => omega); (case b => omega); k_whole | refine' pack_BH ?a ?b ?_; (case a => omega); (case b => omega); k_whole | refine' pack_Bh ?a ?b ?_; (case a => omega); (case b => omega); k_whole | refine' pack_BI ?a ?b ?_; (case a => omega); (case b => omega); k_whole | refine' pack_Bi ?a ?b ?_; (case a => omega); (case b => omega); k_whole | refine' pack_BQ ?a ?b ?_; (case a => omega); (case b => omega); k_whole | refine' pack_Bq ?a ?b ?_; (case a => omega); (case b => omega); k_whole | refine' pack_gBB ?a ?b ?_; (case a => omega); (case b => omega); k_whole)))
local macro_rules | `(tactic| walk_at "wpC") => `(tactic| ((k_dflt (first | (show wpC _ _ (call (Value.ref 833) _) _ _ _) | (show wpC _ _ (call (Value.ref 855) _) _ _ _) | (show wpC _ _ (call (Value.ref 862) _) _ _ _))); refine wpC_call ?_; walk_at "c_enter2"))
theorem all_ne {r : List (Addr × Obj)} {d e : Addr} (h : ∀ q ∈ r, @LT.lt Nat _ q.1 d) (k : @LE.le Nat _ d e) : ∀ q ∈ r, q.1 ≠ e := fun q hq => Nat.ne_of_lt (Nat.lt_of_lt_of_le (h q hq) k)
theorem mach879 {prog : Program} {w : World} {h : Heap} (X : (Mine.hd.heap_39 w.params).In h) : Looks (model prog w) h (keeperOf (.ref 879)) Keeper.machine := Looks.of_peek X (by kernel_rfl)
local macro_rules | `(tactic| walk_at "c_more") => `(tactic| (k_dflt (refine' callC_more2 ?kBL ?kBM ?k1 ?k2 ?k3 ?k4 ?k5 ?kA ?kF ?kK ?k6 ?k7 ?k8 ?kP ?kT ?kB ?_ ?c5 ?c2 ?c3 ?c4; (case kBL => assumption); (case kBM => assumption); (case kA => exact rfl); (case kF => exact rfl); (case kK => assumption); (case k1 => k_asm); (case k2 => k_asm); (case k3 => k_asm); (case k4 => k_asm); (case k5 => k_asm); (case k6 => k_is); (case k7 => k_is); (case k8 => ktr_room); (case kP => exact rfl); (case kT => exact fun _ => rfl); (case kB => exact fun _ => locs rfl); (case c5 => decide); (case c2 => exact rfl); (case c3 => exact rfl); (case c4 => exact rfl); k_whole; intro D' g' L' h' tk' l0 lm FG' F' N' B' X' T' l1; (try k_lt l1); (try dsimp only))))
local macro_rules | `(tactic| walk_at "wpC") => `(tactic| ((with_reducible show wpC _ _ (callWith _ _ _ _ _) _ _ _); (k_dflt (show wpC _ _ (callWith _ (Value.ref 879) _ _ _) _ _ _)); walk_at "c_star"))
local macro_rules | `(tactic| walk_at "wpC") => `(tactic| ((with_reducible show wpC _ _ (call _ _) _ _ _); k_dflt (show wpC _ _ (call (Value.ref 879) []) _ _ _); walk_at "c_packer"))
local macro_rules | `(tactic| walk_at "wpC") => `(tactic| ((with_reducible show wpC _ _ (call _ _) _ _ _); k_dflt (show wpC _ _ (call (Value.ref 798) [.ref _, _]) _ _ _); walk_at "c_pack"))
local macro_rules | `(tactic| walk_at "c_star") => `(tactic| ((with_reducible rename Fr _ _ _ _ => F9); (with_reducible rename News _ _ _ _ => N9); (with_reducible rename Frag.In _ _ => X9); k_dflt (refine' callWithC_more (s := ⟨_, _, _, _, _⟩) F9 N9 ?ha ?hm ?hk ?hx ?_; (case ha => exact List.Mem.head _); (case hm => assumption); (case hk => exact fun h k => mach879 ((X9.keeps F9.keep).keeps k)); (case hx => intro s' k1 Q' q; exact wpAny_bind (ld (F9.keeps k1) rfl (wpAny_bind (wpAny_standAt (wpAny_pure q))))); k_whole; intro h' F' N')))
local macro_rules | `(tactic| walk_at "c_packer") => `(tactic| ((with_reducible rename Fr _ _ _ _ => F9); (with_reducible rename News _ _ _ _ => N9); (k_dflt (refine' packer_c (s := ⟨_, _, _, _, _⟩) ?b1 F9 ?b2 ?b3 N9 ?b4 ?b5 ?b6 ?_; (case b1 => k_asm); (case b2 => k_asm); (case b3 => k_asm); (case b4 => exact rfl); (case b5 => ktr_room); (case b6 => k_units); k_whole)); intro x' dx' ba' pk' dk' h' t1' t2' tp' k1' k2' k3' k4' k5' k6' k7' tu' tk' l1 l2 l3 l4 l5 F' N'; have r1 := all_ne (e := dx') l1 (by omega); have r2 := all_ne (e := ba') l1 (by omega); have r3 := all_ne (e := dk') l1 (Nat.le_refl _)))
local macro_rules | `(tactic| walk_at "c_pack") => `(tactic| ((with_reducible rename PacksTo _ _ _ _ _ => hpk9); (with_reducible rename Fr _ _ _ _ => F9); (with_reducible rename News _ _ _ _ => N9); (k_dflt (refine' pack_c (s := ⟨_, _, _, _, _⟩) hpk9 ?b1 F9 ?b2 ?b3 N9 ?b4 ?d1 ?d2 ?d3 ?d4 ?r1 ?r2 ?r3 ?ok ?he ?b5 ?b6 ?_; (case b1 => k_asm); (case b2 => k_asm); (case b3 => k_asm); (case b4 => exact rfl); (case d1 => omega); (case d2 => omega); (case d3 => omega); (case d4 => omega); (case r1 => k_all); (case r2 => k_all); (case r3 => k_all); (case ok => apply_assumption); (case he => assumption); (case b5 => ktr_room); (case b6 => k_units); k_whole)); intro h' t' tk' F' N'))
theorem news_tl {g h : Heap} {L : Addr} {a : Addr × Obj} {r : List (Addr × Obj)} (N : News g L h (a :: r)) : News g L h r := fun q hq => N q (.tail _ hq)
set_option maxRecDepth 100000 in
set_option maxHeartbeats 8000000 in
theorem packb_c {prog : Program} {w : World} {A₀ : Around} {dp un : Nat} {gd : Option (List Code)} {cn : Str} {cs : Scope} {a : Addr} {ccd : Value} {cl : List (Str × Addr)} {outer : List Env} {base h₀ : Heap} {L : Addr} {m mg mb : Str → Option Value} {p : Program} {loose : List Str} {mean : ExcName → Option Value}
    {s : Shared} {Q : Value → Shared → Prop} {v : Value} {enc : List UInt8} {Ok : List (Addr × Obj) → Prop} {rest : List (Addr × Obj)} (hpk : PacksTo prog w v enc Ok)
    (B : Below A₀ base outer h₀) (F : Fr h₀ L s.heap m) (X : (Mine.hd.heap_39 w.params).In h₀) (T : Top p loose mean mg mb h₀)
    (N : News h₀ L s.heap rest) (hk : cs.kind = .function) (hok : ∀ e, Ok (e :: rest)) (henc : enc.length ≤ 1000)
    (room : dp + 60 < recursionLimit) (units : un + 1200 < cLine)
    (ret : ∀ h' t tk, Fr h₀ L h' m → News h₀ L h' rest → Q (.bytes enc.toArray t) { s with heap := h', toks := tk }) :
    wpC (model prog w) (ktrTop dp un gd cn cs L a ccd cl outer) (call (.ref 890) [v]) Q nE s := by
  walk_at "c_fill"
  refine wpC_call ?_
  have hbl := bl [(Str.ofString "o", v)]
  have hbm := bm (Str.ofString "kwargs")
  walk_at "c_more"
  k_steps
  exact ret _ _ _ (by assumption) (news_tl (by assumption))
end Mine
end
section
open PySem PySem.W PyProof.Rows PySem.Calls
open PySem.Sem (wp)
set_option maxRecDepth 100000
namespace Mine
theorem topOffX1 : True := by
  w_top off
  trivial
local macro_rules | `(tactic| k_all) => `(tactic| assumption)
local macro_rules | `(tactic| k_room) => `(tactic| ktr_room)
local macro_rules | `(tactic| k_units) => `(tactic| first | ktr_units | ((try dsimp only); (try simp only [units_make, units_deeper, units_in1, Around.mark_units]); omega))
local macro_rules | `(tactic| walk_at "c_fill") => `(tactic| (have kf : PySem.Challenge.rw_fg0013_01 = PySem.Challenge.rw_fg0013_01 ∧ Mine.hd.heap_39 = Mine.hd.heap_39 := (by k_fill; exact ⟨rfl, rfl⟩)); clear kf)
local macro_rules | `(tactic| walk_at "c_enter") => `(tactic| (k_dflt (refine' callC_def ?kBL ?k1 ?k2 ?k3 ?k4 ?k5 ?kA ?kF ?kK ?k6 ?k7 ?k8 ?k9 ?kB ?_ ?c5 ?c2 ?c3 ?c4; (case kBL => assumption); (case kA => exact rfl); (case kF => exact rfl); (case kK => assumption); (case k1 => k_asm); (case k2 => k_asm); (case k3 => k_asm); (case k4 => k_asm); (case k5 => k_asm); (case k6 => k_is); (case k7 => k_is); (case k8 => ktr_room); (case k9 => first | exact BindsTo.of_eq rfl | exact binds_K (by k_in) rfl (by k_is) rfl rfl rfl | (refine' kp_binds ?kx ?ke; (case kx => k_in); (case ke => exact fun _ => rfl))); (case kB => exact locs rfl); (case c5 => decide); (case c2 => exact rfl); (case c3 => exact rfl); (case c4 => exact rfl); k_whole; intro g' L' h' tk' FG' F' N' B' X' T' l1; (try k_lt l1); (try dsimp only))))
local macro_rules | `(tactic| walk_at "c_enter2") => `(tactic| (k_dflt (refine' callC_def ?kBL ?k1 ?k2 ?k3 ?k4 ?k5 ?kA ?kF ?kK ?k6 ?k7 ?k8 ?k9 ?kB ?_ ?c5 ?c2 ?c3 ?c4; (case kA => exact rfl); (case kF => exact rfl); (case kK => exact rfl); (case k1 => k_asm); (case k2 => k_asm); (case k3 => k_asm); (case k4 => k_asm); (case k5 => k_asm); (case k6 => k_is); (case k7 => k_is); (case k8 => ktr_room); (case k9 => first | exact BindsTo.of_eq rfl | exact binds_K (by k_in) rfl (by k_is) rfl rfl rfl | (refine' kp_binds ?kx ?ke; (case kx => k_in); (case ke => exact fun _ => rfl))); (case kB => exact locs rfl); (case kBL => exact bl _); (case c5 => decide); (case c2 => exact rfl); (case c3 => exact rfl); (case c4 => exact rfl); k_whole; intro g' L' h' tk' FG' F' N' B' X' T' l1; (try k_lt l1); (try dsimp only))))
local macro_rules | `(tactic| walk_at "c_both") => `(tactic| (k_dflt (refine' kp_both ?k1 ?k2 ?k3 ?k4 ?k5 ?kA ?kF ?kK ?k6 ?k7 ?k8 ?kV ?kX ?kQ ?kM ?kN ?kD ?kR ?kP ?kS ?kT ?kB ?_ ?c2 ?c3 ?c4 ?c5; (case kA => exact rfl); (case kF => exact rfl); (case kK => assumption); (case k1 => k_asm); (case k2 => k_asm); (case k3 => k_asm); (case k4 => k_asm); (case k5 => k_asm); (case k6 => k_is); (case k7 => k_is); (case k8 => ktr_room); (case kV => kp_lit); (case kX => kp_lit); (case kQ => exact rfl); (case kM => exact rfl); (case kN => exact rfl); (case kD => kp_flats); (case kR => exact rfl); (case kP => exact rfl); (case kS => exact fun _ => rfl); (case kT => exact fun _ _ => rfl); (case kB => exact fun _ _ => locs rfl); (case c5 => decide); (case c2 => exact rfl); (case c3 => exact rfl); (case c4 => exact rfl); k_whole; intro C' D' o' g' L' h' tk' l1 l2 lo' hs' fs' FG' F' N' B' X' T'; (try k_lt l1); (try k_lt2 l2); (try dsimp only))))
local macro_rules | `(tactic| walk_at "call type:type") => `(tactic| (k_here; (with_reducible show wpAny _ _ (call (Value.type "type") [Value.bytes _ _]) _ _ _); refine call_type_of (Tx := "bytes") rfl (by decide +kernel) ?_))
local macro_rules | `(tactic| walk_at "wpC") => `(tactic| (with_reducible refine wpC_any ?_))
local macro_rules | `(tactic| walk_at "wpC") => `(tactic| (with_reducible refine execsC_any ?_))
local macro_rules | `(tactic| walk_at "wpC") => `(tactic| (refine' execsC_nil ?_))
local macro_rules | `(tactic| walk_at "wpC") => `(tactic| ((with_reducible show wpC _ _ (execs _ _) _ _ _); with_reducible refine execsC_cons ?_; refine' wpC_If ?_))
local macro_rules | `(tactic| walk_at "wpC") => `(tactic| ((with_reducible show wpC _ _ (execs _ _) _ _ _); with_reducible refine execsC_cons ?_; refine' wpC_While ?_; refine' codeC_while ?_))
local macro_rules | `(tactic| walk_at "wpC") => `(tactic| ((with_reducible show wpC _ _ (execs _ _) _ _ _); with_reducible refine execsC_cons ?_; refine' wpC_Try ?_))
local macro_rules | `(tactic| walk_at "wpC") => `(tactic| ((with_reducible show wpC _ _ (execs _ _) _ _ _); with_reducible refine execsC_cons ?_; refine' wpC_For ?_ ?hs; (case hs => intro _; with_unfolding_all rfl)))
local macro_rules | `(tactic| walk_at "pyIter ref") => `(tactic| ((with_reducible show wpAny _ _ (pyIter (Value.ref _)) (fun _ _ => codeC _ _ _ _ _) _ _); (with_reducible rename IsRange _ _ _ _ _ _ _ _ => R9); refine wpAny_pyIter_range R9 ?hsmall ?_; (case hsmall => walk_at "c_small")))
local macro_rules | `(tactic| walk_at "wpC") => `(tactic| ((with_reducible show wpC _ _ (execs _ _) _ _ _); with_reducible refine execsC_cons ?_; refine' wpC_Return ?_; refine' evalC_method ?_ ?he; (case he => with_unfolding_all rfl)))
local macro_rules | `(tactic| walk_at "wpC") => `(tactic| ((with_reducible show wpC _ _ (execs _ _) _ _ _); with_reducible refine execsC_cons ?_; refine' wpC_Expr ?_ ?hi ?hs; (case hi => with_unfolding_all rfl); (case hs => with_unfolding_all rfl); refine' evalC_method ?_ ?he; (case he => with_unfolding_all rfl)))
local macro_rules | `(tactic| walk_at "wpC") => `(tactic| ((with_reducible show wpC _ _ (execs _ _) _ _ _); with_reducible refine execsC_cons ?_; refine' wpC_AssignAttr ?_ ?hs; (case hs => with_unfolding_all rfl)))
local macro_rules | `(tactic| walk_at "wpC") => `(tactic| ((with_reducible show wpC _ _ (execs _ _) _ _ _); with_reducible refine execsC_cons ?_; refine' wpC_AssignSub ?_ ?hs; (case hs => with_unfolding_all rfl)))
local macro_rules | `(tactic| walk_at "wpC") => `(tactic| ((with_reducible show wpC _ _ (eval _ _) _ _ _); refine' evalC_ifExp ?_))
local macro_rules | `(tactic| walk_at "wpC") => `(tactic| ((with_reducible show wpC _ _ (eval _ _) _ _ _); refine' evalC_call ?_ ?he; (case he => with_unfolding_all rfl)))
local macro_rules | `(tactic| walk_at "wpC") => `(tactic| ((with_reducible show wpC _ _ (callWith _ _ _ _ _) _ _ _); k_dflt (first | refine' callWithC_T0 ?_ | (refine' callWithC_K0 ?k1 ?k2 ?_; (case k1 => k_in); (case k2 => k_is); k_whole) | (refine' callWithC_K ?k1 ?k2 ?_; (case k1 => k_asm); (case k2 => k_is); k_whole))))
local macro_rules | `(tactic| walk_at "wpC") => `(tactic| (k_dflt (show wpC _ _ (call (Value.type "bytearray") []) _ _ _); (with_reducible rename Fr _ _ _ _ => F9); (with_reducible rename News _ _ _ _ => N9); (refine call_baN (s := ⟨_, _, _, _, _⟩) F9 N9 ?_); intro ba' h' F' N' l1; (try k_lt l1)))
local macro_rules | `(tactic| walk_at "wpC") => `(tactic| ((with_reducible show wpC _ _ (setItem (.ref _) (.ref _) (.bytes _ _)) _ _ _); (with_reducible rename Fr _ _ _ _ => F9); (with_reducible rename News _ _ _ _ => N9); refine setItem_N (s := ⟨_, _, _, _, _⟩) F9 N9 (by assumption) (by assumption) (by assumption) (by rw [sizeLine_eq]; omega) ?_; intro _ F' N'))
local macro_rules | `(tactic| walk_at "call builtin:len") => `(tactic| (k_here; (with_reducible show wpAny _ _ (call (Value.builtin "len") [Value.ref _]) _ _ _); (with_reducible rename News _ _ _ _ => N9); refine len_ba (bs := _) (News.get N9 (by repeat (first | exact List.Mem.head _ | apply List.Mem.tail))) (by omega) ?_; have N' := N9; clear N9))
local macro_rules | `(tactic| walk_at "call type:bytes") => `(tactic| (k_here; (with_reducible show wpAny _ _ (call (Value.type "bytes") [Value.ref _]) _ _ _); (with_reducible rename News _ _ _ _ => N9); refine call_bytes_ba (bs := _) (News.get N9 (by repeat (first | exact List.Mem.head _ | apply List.Mem.tail))) (by rw [sizeLine_eq]; first | omega | (simp only [List.size_toArray]; omega)) ?_; have N' := N9; clear N9))
local macro_rules | `(tactic| walk_at "a_enter") => `(tactic| (k_dflt (refine' callA_def ?kBL ?k1 ?k2 ?k3 ?k4 ?k5 ?kA ?kF ?kK ?k6 ?k7 ?k8 ?k9 ?kB ?_ ?c5 ?c2 ?c3 ?c4; (case kBL => assumption); (case kA => exact rfl); (case kF => exact rfl); (case kK => assumption); (case k1 => k_asm); (case k2 => k_asm); (case k3 => k_asm); (case k4 => k_asm); (case k5 => k_asm); (case k6 => k_is); (case k7 => k_is); (case k8 => ktr_room); (case k9 => first | exact BindsTo.of_eq rfl | exact binds_K (by k_in) rfl (by k_is) rfl rfl rfl | (refine' kp_binds ?kx ?ke; (case kx => k_in); (case ke => exact fun _ => rfl))); (case kB => exact locs rfl); (case c5 => decide); (case c2 => exact rfl); (case c3 => exact rfl); (case c4 => exact rfl); k_whole; intro g' L' h' tk' FG' F' N' B' X' T' l1; (try k_lt l1); (try dsimp only))))
def edgesL : List Int := [0, 127, 128, 255, 256, 65535, 65536, 4294967295, 4294967296, 18446744073709551615, -1, -32, -33, -128, -129, -32768, -32769, -2147483648, -2147483649, -9223372036854775808]
def lawNumber (n : Int) : Int :=
  if n.fmod 3 = 0 then (if (n.fdiv 60).fmod 2 = 0 then edgesL.getD ((n.fdiv 3).fmod 20).toNat 0 else (if -9223372036854775807 > edgesL.getD ((n.fdiv 3).fmod 20).toNat 0 then -9223372036854775807 else edgesL.getD ((n.fdiv 3).fmod 20).toNat 0) - 1)
  else if n.fmod 3 = 1 then n.fmod (2 ^ Int.toNat 64) else n.fmod (2 ^ Int.toNat 64) - 2 ^ Int.toNat 63
theorem news_tl1 {g h : Heap} {L : Addr} {a : Addr × Obj} {r : List (Addr × Obj)} (N : News g L h (a :: r)) : News g L h r := fun q hq => N q (.tail _ hq)
theorem q_int {Q : Value → Shared → Prop} {v v' : Int} {t : Tok} {s : Shared} (e : v' = v) (h : Q (.int v' t) s) : Q (.int v t) s := e ▸ h
set_option maxRecDepth 100000 in
set_option maxHeartbeats 8000000 in
theorem number_c {prog : Program} {w : World} {A₀ : Around} {dp un : Nat} {gd : Option (List Code)} {cn : Str} {cs : Scope} {a : Addr} {ccd : Value} {cl : List (Str × Addr)} {outer : List Env} {base h₀ : Heap} {L : Addr} {m mg mb : Str → Option Value} {p : Program} {loose : List Str} {mean : ExcName → Option Value}
    {s : Shared} {E Q : Value → Shared → Prop} {n : Int} {tn : Tok} {rest : List (Addr × Obj)}
    (B : Below A₀ base outer h₀) (F : Fr h₀ L s.heap m) (X : (Mine.hd.heap_39 w.params).In h₀) (T : Top p loose mean mg mb h₀)
    (N : News h₀ L s.heap rest) (hk : cs.kind = .function)
    (room : dp + 4 < recursionLimit) (units : un + 100 < cLine)
    (ret : ∀ h' t tk, Fr h₀ L h' m → News h₀ L h' rest → Q (.int (lawNumber n) t) { s with heap := h', toks := tk }) :
    wpAny (model prog w) (ktrTop dp un gd cn cs L a ccd cl outer) (call (.ref 897) [.int n tn]) Q E s := by
  walk_at "c_fill"
  refine wpAny_call ?_
  have hbl := bl [(Str.ofString "n", .int n tn)]
  walk_at "a_enter"
  k_steps
  all_goals (refine' q_int ?e (ret _ _ _ (by assumption) (news_tl1 (by assumption))); (case e => unfold lawNumber edgesL; first | rw [if_pos (by assumption), if_pos (by assumption)] | rw [if_pos (by assumption), if_neg (by assumption)] | rw [if_neg (by assumption), if_pos (by assumption)] | rw [if_neg (by assumption), if_neg (by assumption)]))
end Mine
end
section
open PySem PySem.W PyProof.Rows PySem.Calls
open PySem.Sem (wp)
set_option maxRecDepth 100000
namespace Mine
theorem topOffX2 : True := by
  w_top off
  trivial
local macro_rules | `(tactic| k_all) => `(tactic| assumption)
local macro_rules | `(tactic| k_room) => `(tactic| ktr_room)
local macro_rules | `(tactic| k_units) => `(tactic| first | ktr_units | ((try dsimp only); (try simp only [units_make, units_deeper, units_in1, Around.mark_units]); omega))
local macro_rules | `(tactic| walk_at "c_fill") => `(tactic| (have kf : PySem.Challenge.rw_fg0013_01 = PySem.Challenge.rw_fg0013_01 ∧ Mine.hd.heap_39 = Mine.hd.heap_39 := (by k_fill; exact ⟨rfl, rfl⟩)); clear kf)
local macro_rules | `(tactic| walk_at "c_enter") => `(tactic| (k_dflt (refine' callC_def ?kBL ?k1 ?k2 ?k3 ?k4 ?k5 ?kA ?kF ?kK ?k6 ?k7 ?k8 ?k9 ?kB ?_ ?c5 ?c2 ?c3 ?c4; (case kBL => assumption); (case kA => exact rfl); (case kF => exact rfl); (case kK => assumption); (case k1 => k_asm); (case k2 => k_asm); (case k3 => k_asm); (case k4 => k_asm); (case k5 => k_asm); (case k6 => k_is); (case k7 => k_is); (case k8 => ktr_room); (case k9 => first | exact BindsTo.of_eq rfl | exact binds_K (by k_in) rfl (by k_is) rfl rfl rfl | (refine' kp_binds ?kx ?ke; (case kx => k_in); (case ke => exact fun _ => rfl))); (case kB => exact locs rfl); (case c5 => decide); (case c2 => exact rfl); (case c3 => exact rfl); (case c4 => exact rfl); k_whole; intro g' L' h' tk' FG' F' N' B' X' T' l1; (try k_lt l1); (try dsimp only))))
local macro_rules | `(tactic| walk_at "c_enter2") => `(tactic| (k_dflt (refine' callC_def ?kBL ?k1 ?k2 ?k3 ?k4 ?k5 ?kA ?kF ?kK ?k6 ?k7 ?k8 ?k9 ?kB ?_ ?c5 ?c2 ?c3 ?c4; (case kA => exact rfl); (case kF => exact rfl); (case kK => exact rfl); (case k1 => k_asm); (case k2 => k_asm); (case k3 => k_asm); (case k4 => k_asm); (case k5 => k_asm); (case k6 => k_is); (case k7 => k_is); (case k8 => ktr_room); (case k9 => first | exact BindsTo.of_eq rfl | exact binds_K (by k_in) rfl (by k_is) rfl rfl rfl | (refine' kp_binds ?kx ?ke; (case kx => k_in); (case ke => exact fun _ => rfl))); (case kB => exact locs rfl); (case kBL => exact bl _); (case c5 => decide); (case c2 => exact rfl); (case c3 => exact rfl); (case c4 => exact rfl); k_whole; intro g' L' h' tk' FG' F' N' B' X' T' l1; (try k_lt l1); (try dsimp only))))
local macro_rules | `(tactic| walk_at "c_both") => `(tactic| (k_dflt (refine' kp_both ?k1 ?k2 ?k3 ?k4 ?k5 ?kA ?kF ?kK ?k6 ?k7 ?k8 ?kV ?kX ?kQ ?kM ?kN ?kD ?kR ?kP ?kS ?kT ?kB ?_ ?c2 ?c3 ?c4 ?c5; (case kA => exact rfl); (case kF => exact rfl); (case kK => assumption); (case k1 => k_asm); (case k2 => k_asm); (case k3 => k_asm); (case k4 => k_asm); (case k5 => k_asm); (case k6 => k_is); (case k7 => k_is); (case k8 => ktr_room); (case kV => kp_lit); (case kX => kp_lit); (case kQ => exact rfl); (case kM => exact rfl); (case kN => exact rfl); (case kD => kp_flats); (case kR => exact rfl); (case kP => exact rfl); (case kS => exact fun _ => rfl); (case kT => exact fun _ _ => rfl); (case kB => exact fun _ _ => locs rfl); (case c5 => decide); (case c2 => exact rfl); (case c3 => exact rfl); (case c4 => exact rfl); k_whole; intro C' D' o' g' L' h' tk' l1 l2 lo' hs' fs' FG' F' N' B' X' T'; (try k_lt l1); (try k_lt2 l2); (try dsimp only))))
local macro_rules | `(tactic| walk_at "call type:type") => `(tactic| (k_here; (with_reducible show wpAny _ _ (call (Value.type "type") [Value.bytes _ _]) _ _ _); refine call_type_of (Tx := "bytes") rfl (by decide +kernel) ?_))
local macro_rules | `(tactic| walk_at "wpC") => `(tactic| (with_reducible refine wpC_any ?_))
local macro_rules | `(tactic| walk_at "wpC") => `(tactic| (with_reducible refine execsC_any ?_))
local macro_rules | `(tactic| walk_at "wpC") => `(tactic| (refine' execsC_nil ?_))
local macro_rules | `(tactic| walk_at "wpC") => `(tactic| ((with_reducible show wpC _ _ (execs _ _) _ _ _); with_reducible refine execsC_cons ?_; refine' wpC_If ?_))
local macro_rules | `(tactic| walk_at "wpC") => `(tactic| ((with_reducible show wpC _ _ (execs _ _) _ _ _); with_reducible refine execsC_cons ?_; refine' wpC_While ?_; refine' codeC_while ?_))
local macro_rules | `(tactic| walk_at "wpC") => `(tactic| ((with_reducible show wpC _ _ (execs _ _) _ _ _); with_reducible refine execsC_cons ?_; refine' wpC_Try ?_))
local macro_rules | `(tactic| walk_at "wpC") => `(tactic| ((with_reducible show wpC _ _ (execs _ _) _ _ _); with_reducible refine execsC_cons ?_; refine' wpC_For ?_ ?hs; (case hs => intro _; with_unfolding_all rfl)))
local macro_rules | `(tactic| walk_at "pyIter ref") => `(tactic| ((with_reducible show wpAny _ _ (pyIter (Value.ref _)) (fun _ _ => codeC _ _ _ _ _) _ _); (with_reducible rename IsRange _ _ _ _ _ _ _ _ => R9); refine wpAny_pyIter_range R9 ?hsmall ?_; (case hsmall => walk_at "c_small")))
local macro_rules | `(tactic| walk_at "wpC") => `(tactic| ((with_reducible show wpC _ _ (execs _ _) _ _ _); with_reducible refine execsC_cons ?_; refine' wpC_Return ?_; refine' evalC_method ?_ ?he; (case he => with_unfolding_all rfl)))
local macro_rules | `(tactic| walk_at "wpC") => `(tactic| ((with_reducible show wpC _ _ (execs _ _) _ _ _); with_reducible refine execsC_cons ?_; refine' wpC_Expr ?_ ?hi ?hs; (case hi => with_unfolding_all rfl); (case hs => with_unfolding_all rfl); refine' evalC_method ?_ ?he; (case he => with_unfolding_all rfl)))
local macro_rules | `(tactic| walk_at "wpC") => `(tactic| ((with_reducible show wpC _ _ (execs _ _) _ _ _); with_reducible refine execsC_cons ?_; refine' wpC_AssignAttr ?_ ?hs; (case hs => with_unfolding_all rfl)))
local macro_rules | `(tactic| walk_at "wpC") => `(tactic| ((with_reducible show wpC _ _ (execs _ _) _ _ _); with_reducible refine execsC_cons ?_; refine' wpC_AssignSub ?_ ?hs; (case hs => with_unfolding_all rfl)))
local macro_rules | `(tactic| walk_at "wpC") => `(tactic| ((with_reducible show wpC _ _ (eval _ _) _ _ _); refine' evalC_ifExp ?_))
local macro_rules | `(tactic| walk_at "wpC") => `(tactic| ((with_reducible show wpC _ _ (eval _ _) _ _ _); refine' evalC_call ?_ ?he; (case he => with_unfolding_all rfl)))
local macro_rules | `(tactic| walk_at "wpC") => `(tactic| ((with_reducible show wpC _ _ (callWith _ _ _ _ _) _ _ _); k_dflt (first | refine' callWithC_T0 ?_ | (refine' callWithC_K0 ?k1 ?k2 ?_; (case k1 => k_in); (case k2 => k_is); k_whole) | (refine' callWithC_K ?k1 ?k2 ?_; (case k1 => k_asm); (case k2 => k_is); k_whole))))
local macro_rules | `(tactic| walk_at "wpC") => `(tactic| (k_dflt (show wpC _ _ (call (Value.type "bytearray") []) _ _ _); (with_reducible rename Fr _ _ _ _ => F9); (with_reducible rename News _ _ _ _ => N9); (refine call_baN (s := ⟨_, _, _, _, _⟩) F9 N9 ?_); intro ba' h' F' N' l1; (try k_lt l1)))
local macro_rules | `(tactic| walk_at "wpC") => `(tactic| ((with_reducible show wpC _ _ (setItem (.ref _) (.ref _) (.bytes _ _)) _ _ _); (with_reducible rename Fr _ _ _ _ => F9); (with_reducible rename News _ _ _ _ => N9); refine setItem_N (s := ⟨_, _, _, _, _⟩) F9 N9 (by assumption) (by assumption) (by assumption) (by rw [sizeLine_eq]; omega) ?_; intro _ F' N'))
local macro_rules | `(tactic| walk_at "call builtin:len") => `(tactic| (k_here; (with_reducible show wpAny _ _ (call (Value.builtin "len") [Value.ref _]) _ _ _); (with_reducible rename News _ _ _ _ => N9); refine len_ba (bs := _) (News.get N9 (by repeat (first | exact List.Mem.head _ | apply List.Mem.tail))) (by omega) ?_; have N' := N9; clear N9))
local macro_rules | `(tactic| walk_at "call type:bytes") => `(tactic| (k_here; (with_reducible show wpAny _ _ (call (Value.type "bytes") [Value.ref _]) _ _ _); (with_reducible rename News _ _ _ _ => N9); refine call_bytes_ba (bs := _) (News.get N9 (by repeat (first | exact List.Mem.head _ | apply List.Mem.tail))) (by rw [sizeLine_eq]; first | omega | (simp only [List.size_toArray]; omega)) ?_; have N' := N9; clear N9))
local macro_rules | `(tactic| walk_at "a_enter") => `(tactic| (k_dflt (refine' callA_def ?kBL ?k1 ?k2 ?k3 ?k4 ?k5 ?kA ?kF ?kK ?k6 ?k7 ?k8 ?k9 ?kB ?_ ?c5 ?c2 ?c3 ?c4; (case kBL => assumption); (case kA => exact rfl); (case kF => exact rfl); (case kK => assumption); (case k1 => k_asm); (case k2 => k_asm); (case k3 => k_asm); (case k4 => k_asm); (case k5 => k_asm); (case k6 => k_is); (case k7 => k_is); (case k8 => ktr_room); (case k9 => first | exact BindsTo.of_eq rfl | exact binds_K (by k_in) rfl (by k_is) rfl rfl rfl | (refine' kp_binds ?kx ?ke; (case kx => k_in); (case ke => exact fun _ => rfl))); (case kB => exact locs rfl); (case c5 => decide); (case c2 => exact rfl); (case c3 => exact rfl); (case c4 => exact rfl); k_whole; intro g' L' h' tk' FG' F' N' B' X' T' l1; (try k_lt l1); (try dsimp only))))
local macro_rules | `(tactic| walk_at "call ref") => `(tactic| (k_here; (k_dflt (show wpAny _ _ (call (Value.ref 897) [.int _ _]) _ _ _)); (with_reducible rename Fr _ _ _ _ => F9); (with_reducible rename News _ _ _ _ => N9); (k_dflt (refine' number_c (s := ⟨_, _, _, _, _⟩) ?b1 F9 ?b2 ?b3 N9 ?b4 ?b5 ?b6 ?_; (case b1 => k_asm); (case b2 => k_asm); (case b3 => k_asm); (case b4 => exact rfl); (case b5 => ktr_room); (case b6 => k_units); k_whole)); intro h' t' tk' F' N'))
local macro_rules | `(tactic| walk_at "binaryOp Pow int int") => `(tactic| (k_here; (with_reducible refine pow_int_small ?kb1 ?kb2 ?kb3 ?_); (case kb1 => decide); (case kb2 => decide); (case kb3 => decide)))
local macro_rules | `(tactic| walk_at "call builtin:list.index") => `(tactic| (k_here; (with_reducible show wpAny _ _ (call (Value.builtin _) [Value.ref _, Value.bool _]) _ _ _); k_dflt (refine' index_4b ?N ?m ?_; (case N => k_asm); (case m => k_mem))))
def placeA (n : Int) : Int := if 0 ≤ n then 0 else 1
def placeB (n : Int) : Int := if 0 ≤ n then 0 else if -32 ≤ n then 4 else if -128 ≤ n then 0 else if -32768 ≤ n then 1 else if -2147483648 ≤ n then 2 else 3
abbrev tup3 (a b c : Value) : Obj := { cls := .type "tuple", data := .seq #[a, b, c] }
theorem news_place {g h : Heap} {L D : Addr} {n a b : Int} {t1 t2 : Tok} {x : Value} {r : List (Addr × Obj)} (ea : a = placeA n) (eb : b = placeB n) (N : News g L h ((D, tup3 (.int a t1) (.int b t2) x) :: r)) : News g L h ((D, tup3 (.int (placeA n) t1) (.int (placeB n) t2) x) :: r) := by
  subst ea eb
  exact N
theorem news_d2 {g h : Heap} {L : Addr} {a b : Addr × Obj} {r : List (Addr × Obj)} (N : News g L h (a :: b :: r)) : News g L h (a :: r) := fun q hq => N q (by
  rcases List.mem_cons.mp hq with h | h
  · exact h ▸ .head _
  · exact .tail _ (.tail _ h))
theorem p7 : (-2 ^ Int.toNat 7 : Int) = -128 := by decide +kernel
theorem p15 : (-2 ^ Int.toNat 15 : Int) = -32768 := by decide +kernel
theorem p31 : (-2 ^ Int.toNat 31 : Int) = -2147483648 := by decide +kernel
theorem all_ne2 {r : List (Addr × Obj)} {d : Addr} (h : ∀ q ∈ r, q.1 < d) : ∀ q ∈ r, @Ne Nat q.1 d := fun q hq => Nat.ne_of_lt (h q hq)
theorem all_ne1 {r : List (Addr × Obj)} {d : Addr} (h : AllLt d r) : ∀ q ∈ r, @Ne Nat q.1 d := fun q hq => Nat.ne_of_lt (ktn_ltOf h q hq)
set_option maxRecDepth 100000 in
set_option maxHeartbeats 4000000 in
theorem place_c {prog : Program} {w : World} {A₀ : Around} {dp un : Nat} {gd : Option (List Code)} {cn : Str} {cs : Scope} {a : Addr} {ccd : Value} {cl : List (Str × Addr)} {outer : List Env} {base h₀ : Heap} {L : Addr} {m mg mb : Str → Option Value} {p : Program} {loose : List Str} {mean : ExcName → Option Value}
    {s : Shared} {E Q : Value → Shared → Prop} {n : Int} {tn : Tok} {rest : List (Addr × Obj)}
    (B : Below A₀ base outer h₀) (F : Fr h₀ L s.heap m) (X : (Mine.hd.heap_39 w.params).In h₀) (T : Top p loose mean mg mb h₀)
    (N : News h₀ L s.heap rest) (hk : cs.kind = .function)
    (room : dp + 4 < recursionLimit) (units : un + 100 < cLine)
    (ret : ∀ D h' t1 t2 tk, (∀ q ∈ rest, @Ne Nat q.1 D) → Fr h₀ L h' m → News h₀ L h' ((D, tup3 (.int (placeA n) t1) (.int (placeB n) t2) (.int n tn)) :: rest) → Q (.ref D) { s with heap := h', toks := tk }) :
    wpAny (model prog w) (ktrTop dp un gd cn cs L a ccd cl outer) (call (.ref 904) [.int n tn]) Q E s := by
  walk_at "c_fill"
  refine wpAny_call ?_
  have hbl := bl [(Str.ofString "number", .int n tn)]
  walk_at "a_enter"
  k_steps
  all_goals (first
    | (refine ret _ _ _ _ _ (all_ne2 (by assumption)) (by assumption) (news_place ?_ ?_ (by assumption)))
    | ((with_reducible rename _ ∧ AllLt _ _ => l9); refine ret _ _ _ _ _ (all_ne1 l9.2) (by assumption) (news_place ?_ ?_ (news_d2 (by assumption)))))
  all_goals (first | unfold placeA | unfold placeB)
  all_goals (repeat (first | rw [if_pos (by assumption)] | rw [if_neg (by assumption)]))
  rw [p7, p15, p31]
  simp only [decide_eq_true_eq]
  have h1 : ¬ (0 ≤ n) := by assumption
  have h2 : ¬ (-32 ≤ n) := by assumption
  rw [if_neg h1, if_neg h2]
local macro_rules | `(tactic| walk_at "call ref") => `(tactic| (k_here; (k_dflt (show wpAny _ _ (call (Value.ref 904) [.int _ _]) _ _ _)); (with_reducible rename Fr _ _ _ _ => F9); (with_reducible rename News _ _ _ _ => N9); (k_dflt (refine' place_c (s := ⟨_, _, _, _, _⟩) ?b1 F9 ?b2 ?b3 N9 ?b4 ?b5 ?b6 ?_; (case b1 => k_asm); (case b2 => k_asm); (case b3 => k_asm); (case b4 => exact rfl); (case b5 => ktr_room); (case b6 => k_units); k_whole)); intro D' h' t1' t2' tk' l1 F' N'))
end Mine
end
section
open PySem PySem.W PyProof.Rows PySem.Calls
open PySem.Sem (wp)
set_option maxRecDepth 100000
namespace Mine
open PySem.Builtin in
/-- big-endian digits -/
def beN : Nat → Nat → List UInt8
  | 0, _ => []
  | k + 1, n => (n / 256 ^ k % 256).toUInt8 :: beN k n
theorem beN_len : ∀ k n, (beN k n).length = k
  | 0, _ => rfl
  | k + 1, n => by simp [beN, beN_len k n]
theorem beN_rev (n : Nat) : ∀ k, ((List.range k).map fun e => (n / 256 ^ e % 256).toUInt8).reverse = beN k n
  | 0 => rfl
  | k + 1 => by
    rw [List.range_succ, List.map_append, List.reverse_append, beN_rev n k]
    rfl
theorem beInt_be (k : Nat) (i : Int) : beInt k i = beN k (i % 2 ^ (8 * k)).toNat := beN_rev _ k
theorem u8_lt {a b : Nat} (ha : a < 256) (hb : b < 256) : a.toUInt8 < b.toUInt8 ↔ a < b := by
  rw [UInt8.lt_iff_toNat_lt]
  have h1 : a.toUInt8.toNat = a := by simp [Nat.toUInt8]; omega
  have h2 : b.toUInt8.toNat = b := by simp [Nat.toUInt8]; omega
  rw [h1, h2]
abbrev ordB := PySem.Builtin.Bytes.order
theorem ordB_cons {a b : Nat} (ha : a < 256) (hb : b < 256) (x y : List UInt8) : ordB (a.toUInt8 :: x) (b.toUInt8 :: y) = if a < b then .lt else if b < a then .gt else ordB x y := by
  show (if a.toUInt8 < b.toUInt8 then Ordering.lt else if b.toUInt8 < a.toUInt8 then .gt else ordB x y) = _
  simp only [u8_lt ha hb, u8_lt hb ha]
theorem ordB_be : ∀ (k n m : Nat) (x y : List UInt8), ordB (beN k n ++ x) (beN k m ++ y) = if n % 256 ^ k < m % 256 ^ k then .lt else if m % 256 ^ k < n % 256 ^ k then .gt else ordB x y
  | 0, n, m, x, y => by simp [beN, Nat.mod_one]
  | k + 1, n, m, x, y => by
    show ordB ((n / 256 ^ k % 256).toUInt8 :: (beN k n ++ x)) ((m / 256 ^ k % 256).toUInt8 :: (beN k m ++ y)) = _
    rw [ordB_cons (Nat.mod_lt _ (by decide)) (Nat.mod_lt _ (by decide)), ordB_be k, Nat.mod_pow_succ, Nat.mod_pow_succ]
    have hP : 0 < 256 ^ k := Nat.pow_pos (by decide)
    generalize 256 ^ k = P at *
    have r1 := Nat.mod_lt n hP
    have r2 := Nat.mod_lt m hP
    generalize n % P = r at *
    generalize m % P = r' at *
    generalize n / P % 256 = a
    generalize m / P % 256 = b
    rcases Nat.lt_trichotomy a b with h | h | h
    · have : P * a + P ≤ P * b := by have := Nat.mul_le_mul_left P h; rwa [Nat.mul_succ] at this
      rw [if_pos h, if_pos (by omega)]
    · subst h
      simp
    · have : P * b + P ≤ P * a := by have := Nat.mul_le_mul_left P h; rwa [Nat.mul_succ] at this
      rw [if_neg (by omega), if_pos h, if_neg (by omega), if_pos (by omega)]
/-- the plain rule: by class, by width, by value -/
def KeyLt (i j : Int) : Prop := placeA i < placeA j ∨ (placeA i = placeA j ∧ (placeB i < placeB j ∨ (placeB i = placeB j ∧ i < j)))
def Cls (i : Int) (h w v : Nat) : Prop :=
  (0 ≤ i ∧ i < 128 ∧ (h : Int) = i ∧ w = 0 ∧ v = 0 ∧ placeA i = 0 ∧ placeB i = 0) ∨
  (128 ≤ i ∧ i ≤ 255 ∧ h = 204 ∧ w = 1 ∧ (v : Int) = i ∧ placeA i = 0 ∧ placeB i = 0) ∨
  (256 ≤ i ∧ i ≤ 65535 ∧ h = 205 ∧ w = 2 ∧ (v : Int) = i ∧ placeA i = 0 ∧ placeB i = 0) ∨
  (65536 ≤ i ∧ i ≤ 4294967295 ∧ h = 206 ∧ w = 4 ∧ (v : Int) = i ∧ placeA i = 0 ∧ placeB i = 0) ∨
  (4294967296 ≤ i ∧ i ≤ 18446744073709551615 ∧ h = 207 ∧ w = 8 ∧ (v : Int) = i ∧ placeA i = 0 ∧ placeB i = 0) ∨
  (-32 ≤ i ∧ i ≤ -1 ∧ (h : Int) = i + 256 ∧ w = 0 ∧ v = 0 ∧ placeA i = 1 ∧ placeB i = 4) ∨
  (-128 ≤ i ∧ i ≤ -33 ∧ h = 208 ∧ w = 1 ∧ (v : Int) = i + 256 ∧ placeA i = 1 ∧ placeB i = 0) ∨
  (-32768 ≤ i ∧ i ≤ -129 ∧ h = 209 ∧ w = 2 ∧ (v : Int) = i + 65536 ∧ placeA i = 1 ∧ placeB i = 1) ∨
  (-2147483648 ≤ i ∧ i ≤ -32769 ∧ h = 210 ∧ w = 4 ∧ (v : Int) = i + 4294967296 ∧ placeA i = 1 ∧ placeB i = 2) ∨
  (-9223372036854775808 ≤ i ∧ i ≤ -2147483649 ∧ h = 211 ∧ w = 8 ∧ (v : Int) = i + 18446744073709551616 ∧ placeA i = 1 ∧ placeB i = 3)
theorem be1 (h : Nat) (hh : h < 256) (i : Int) (e : (h : Int) = i ∨ (h : Int) = i + 256) : beInt 1 i = [h.toUInt8] := by
  rw [beInt_be]
  have : (i % 2 ^ (8 * 1)).toNat = h := by
    rw [show (2 : Int) ^ (8 * 1) = 256 from rfl]
    omega
  rw [this]
  show [(h / 1 % 256).toUInt8] = _
  rw [Nat.div_one, Nat.mod_eq_of_lt hh]
theorem cls_ex {i : Int} (h1 : -9223372036854775808 ≤ i) (h2 : i ≤ 18446744073709551615) : ∃ h w v, encInt i = h.toUInt8 :: beN w v ∧ Cls i h w v := by
  have A0 : 0 ≤ i → placeA i = 0 ∧ placeB i = 0 := fun h => by simp [placeA, placeB, h]
  have A1 : i < 0 → placeA i = 1 := fun h => by simp [placeA]; omega
  by_cases c0 : 0 ≤ i
  · obtain ⟨p1, p2⟩ := A0 c0
    by_cases c1 : i ≤ 127
    · exact ⟨i.toNat, 0, 0, by rw [encInt_0 c0 c1]; exact be1 _ (by omega) _ (.inl (by omega)), .inl ⟨c0, by omega, by omega, rfl, rfl, p1, p2⟩⟩
    by_cases c2 : i ≤ 255
    · exact ⟨204, 1, _, by rw [encInt_2 (by omega) c2, beInt_be]; rfl, .inr (.inl ⟨by omega, c2, rfl, rfl, by rw [show (2 : Int) ^ (8 * 1) = 256 from rfl]; omega, p1, p2⟩)⟩
    by_cases c3 : i ≤ 65535
    · exact ⟨205, 2, _, by rw [encInt_4 (by omega) c3, beInt_be]; rfl, .inr (.inr (.inl ⟨by omega, c3, rfl, rfl, by rw [show (2 : Int) ^ (8 * 2) = 65536 from rfl]; omega, p1, p2⟩))⟩
    by_cases c4 : i ≤ 4294967295
    · exact ⟨206, 4, _, by rw [encInt_6 (by omega) c4, beInt_be]; rfl, .inr (.inr (.inr (.inl ⟨by omega, c4, rfl, rfl, by rw [show (2 : Int) ^ (8 * 4) = 4294967296 from rfl]; omega, p1, p2⟩)))⟩
    · exact ⟨207, 8, _, by rw [encInt_8 (by omega) h2, beInt_be]; rfl, .inr (.inr (.inr (.inr (.inl ⟨by omega, h2, rfl, rfl, by rw [show (2 : Int) ^ (8 * 8) = 18446744073709551616 from rfl]; omega, p1, p2⟩))))⟩
  · have p1 := A1 (by omega)
    by_cases c1 : -32 ≤ i
    · exact ⟨(i + 256).toNat, 0, 0, by rw [encInt_1 c1 (by omega)]; exact be1 _ (by omega) _ (.inr (by omega)), .inr (.inr (.inr (.inr (.inr (.inl ⟨c1, by omega, by omega, rfl, rfl, p1, by rw [placeB, if_neg c0, if_pos c1]⟩)))))⟩
    by_cases c2 : -128 ≤ i
    · exact ⟨208, 1, _, by rw [encInt_3 c2 (by omega), beInt_be]; rfl, .inr (.inr (.inr (.inr (.inr (.inr (.inl ⟨c2, by omega, rfl, rfl, by rw [show (2 : Int) ^ (8 * 1) = 256 from rfl]; omega, p1, by rw [placeB, if_neg c0, if_neg c1, if_pos c2]⟩))))))⟩
    by_cases c3 : -32768 ≤ i
    · exact ⟨209, 2, _, by rw [encInt_5 c3 (by omega), beInt_be]; rfl, .inr (.inr (.inr (.inr (.inr (.inr (.inr (.inl ⟨c3, by omega, rfl, rfl, by rw [show (2 : Int) ^ (8 * 2) = 65536 from rfl]; omega, p1, by rw [placeB, if_neg c0, if_neg c1, if_neg c2, if_pos c3]⟩)))))))⟩
    by_cases c4 : -2147483648 ≤ i
    · exact ⟨210, 4, _, by rw [encInt_7 c4 (by omega), beInt_be]; rfl, .inr (.inr (.inr (.inr (.inr (.inr (.inr (.inr (.inl ⟨c4, by omega, rfl, rfl, by rw [show (2 : Int) ^ (8 * 4) = 4294967296 from rfl]; omega, p1, by rw [placeB, if_neg c0, if_neg c1, if_neg c2, if_neg c3, if_pos c4]⟩))))))))⟩
    · exact ⟨211, 8, _, by rw [encInt_9 h1 (by omega), beInt_be]; rfl, .inr (.inr (.inr (.inr (.inr (.inr (.inr (.inr (.inr ⟨h1, by omega, rfl, rfl, by rw [show (2 : Int) ^ (8 * 8) = 18446744073709551616 from rfl]; omega, p1, by rw [placeB, if_neg c0, if_neg c1, if_neg c2, if_neg c3, if_neg c4]⟩))))))))⟩
theorem cls_bound {i : Int} {h w v : Nat} (c : Cls i h w v) : h < 256 ∧ v < 256 ^ w := by
  unfold Cls at c
  rcases c with c | c | c | c | c | c | c | c | c | c <;> obtain ⟨c1, c2, c3, rfl, c4, -, -⟩ := c <;> refine ⟨by omega, ?_⟩ <;> simp only [Nat.reducePow] <;> omega
theorem cls_key {i j : Int} {h w v h' w' v' : Nat} (c : Cls i h w v) (d : Cls j h' w' v') : ((h < h' ∨ (h = h' ∧ v < v')) ↔ KeyLt i j) ∧ (h = h' → w = w') := by
  unfold Cls at c d
  unfold KeyLt
  rcases c with c | c | c | c | c | c | c | c | c | c <;> rcases d with d | d | d | d | d | d | d | d | d | d <;> obtain ⟨c1, c2, c3, rfl, c4, c5, c6⟩ := c <;> obtain ⟨d1, d2, d3, rfl, d4, d5, d6⟩ := d <;> rw [c5, c6, d5, d6] <;> constructor <;> omega
def In64 (i : Int) : Prop := -9223372036854775808 ≤ i ∧ i ≤ 18446744073709551615
theorem ordB_int {i j : Int} (hi : In64 i) (hj : In64 j) (x y : List UInt8) [Decidable (KeyLt i j)] [Decidable (KeyLt j i)] : ordB (encInt i ++ x) (encInt j ++ y) = if KeyLt i j then .lt else if KeyLt j i then .gt else ordB x y := by
  obtain ⟨h, w, v, e, c⟩ := cls_ex hi.1 hi.2
  obtain ⟨h', w', v', e', d⟩ := cls_ex hj.1 hj.2
  obtain ⟨b1, b2⟩ := cls_bound c
  obtain ⟨d1, d2⟩ := cls_bound d
  obtain ⟨k1, k2⟩ := cls_key c d
  obtain ⟨k3, -⟩ := cls_key d c
  rw [e, e', List.cons_append, List.cons_append, ordB_cons b1 d1]
  simp only [← k1, ← k3]
  rcases Nat.lt_trichotomy h h' with q | q | q
  · rw [if_pos q, if_pos (.inl q)]
  · obtain rfl := k2 q
    subst q
    rw [if_neg (by omega), if_neg (by omega), ordB_be, Nat.mod_eq_of_lt b2, Nat.mod_eq_of_lt d2]
    simp
  · rw [if_neg (by omega), if_pos q, if_neg (by omega), if_pos (.inl q)]
theorem KeyLt.irr (i : Int) : ¬ KeyLt i i := by unfold KeyLt; omega
theorem KeyLt.tri {i j : Int} (h1 : ¬ KeyLt i j) (h2 : ¬ KeyLt j i) : i = j := by unfold KeyLt at h1 h2; omega
def keyLtB (i j : Int) : Bool := decide (placeA i < placeA j) || (decide (placeA i = placeA j) && (decide (placeB i < placeB j) || (decide (placeB i = placeB j) && decide (i < j))))
theorem keyLtB_iff (i j : Int) : keyLtB i j = true ↔ KeyLt i j := by simp [keyLtB, KeyLt]
theorem ordB_intB {i j : Int} (hi : In64 i) (hj : In64 j) (x y : List UInt8) : ordB (encInt i ++ x) (encInt j ++ y) = if i = j then ordB x y else if keyLtB i j then .lt else .gt := by
  have : Decidable (KeyLt i j) := decidable_of_iff _ (keyLtB_iff i j)
  have : Decidable (KeyLt j i) := decidable_of_iff _ (keyLtB_iff j i)
  rw [ordB_int hi hj]
  by_cases e : i = j
  · subst e
    simp [KeyLt.irr]
  · rw [if_neg e]
    by_cases k : KeyLt i j
    · rw [if_pos k, if_pos ((keyLtB_iff i j).mpr k)]
    · rw [if_neg k, if_neg (fun x => k ((keyLtB_iff i j).mp x)), if_pos]
      exact Decidable.byContradiction fun k2 => e (KeyLt.tri k k2)
/-- the order of two rows -/
def rowLt : List Int → List Int → Bool
  | i :: r, j :: q => if i = j then rowLt r q else keyLtB i j
  | _, _ => false
theorem encInts_ord : ∀ (ns ms : List Int), ns.length = ms.length → (∀ i ∈ ns, In64 i) → (∀ i ∈ ms, In64 i) → (ordB (encInts ns) (encInts ms) == .lt) = rowLt ns ms
  | [], [], _, _, _ => rfl
  | i :: r, j :: q, hl, h1, h2 => by
    show (ordB (encInt i ++ encInts r) (encInt j ++ encInts q) == .lt) = if i = j then rowLt r q else keyLtB i j
    rw [ordB_intB (h1 _ (.head _)) (h2 _ (.head _))]
    by_cases e : i = j
    · rw [if_pos e, if_pos e]
      exact encInts_ord r q (by simpa using hl) (fun x hx => h1 x (.tail _ hx)) fun x hx => h2 x (.tail _ hx)
    · rw [if_neg e, if_neg e]
      cases keyLtB i j <;> rfl
  | [], _ :: _, hl, _, _ => nomatch hl
  | _ :: _, [], hl, _, _ => nomatch hl
theorem ordB_refl : ∀ x, ordB x x = .eq
  | [] => rfl
  | a :: x => by
    show (if a < a then Ordering.lt else if a > a then .gt else ordB x x) = .eq
    rw [if_neg (UInt8.lt_irrefl _), if_neg (UInt8.lt_irrefl _)]
    exact ordB_refl x
/-- no row's octets begin another's -/
theorem encInts_inj : ∀ (ns ms : List Int) (x y : List UInt8), ns.length = ms.length → (∀ i ∈ ns, In64 i) → (∀ i ∈ ms, In64 i) → encInts ns ++ x = encInts ms ++ y → ns = ms
  | [], [], _, _, _, _, _, _ => rfl
  | i :: r, j :: q, x, y, hl, h1, h2, e => by
    have e' : encInt i ++ (encInts r ++ x) = encInt j ++ (encInts q ++ y) := by simpa [encInts] using e
    have o := ordB_intB (h1 _ (.head _)) (h2 _ (.head _)) (encInts r ++ x) (encInts q ++ y)
    rw [e', ordB_refl] at o
    by_cases k : i = j
    · subst k
      rw [encInts_inj r q x y (by simpa using hl) (fun x hx => h1 x (.tail _ hx)) (fun x hx => h2 x (.tail _ hx)) (List.append_cancel_left e')]
    · rw [if_neg k] at o
      cases h : keyLtB i j <;> rw [h] at o <;> cases o
  | [], _ :: _, _, _, hl, _, _, _ => nomatch hl
  | _ :: _, [], _, _, hl, _, _, _ => nomatch hl
theorem encRow_ord {ns ms : List Int} (hl : ns.length = ms.length) (h1 : ∀ i ∈ ns, In64 i) (h2 : ∀ i ∈ ms, In64 i) : (ordB (encRow ns) (encRow ms) == .lt) = rowLt ns ms := by
  unfold encRow
  rw [hl, beInt_be, ordB_be, if_neg (Nat.lt_irrefl _), if_neg (Nat.lt_irrefl _)]
  exact encInts_ord ns ms hl h1 h2
theorem encRow_inj {ns ms : List Int} {x y : List UInt8} (hl : ns.length = ms.length) (h1 : ∀ i ∈ ns, In64 i) (h2 : ∀ i ∈ ms, In64 i) (e : encRow ns ++ x = encRow ms ++ y) : ns = ms := by
  unfold encRow at e
  rw [hl, List.append_assoc, List.append_assoc] at e
  exact encInts_inj ns ms x y hl h1 h2 (List.append_cancel_left e)
theorem encRow_eq {ns ms : List Int} (hl : ns.length = ms.length) (h1 : ∀ i ∈ ns, In64 i) (h2 : ∀ i ∈ ms, In64 i) : (encRow ns == encRow ms) = (ns == ms) := by
  rw [Bool.eq_iff_iff, beq_iff_eq, beq_iff_eq]
  exact ⟨fun e => encRow_inj (x := []) (y := []) hl h1 h2 (by rw [e]), fun e => e ▸ rfl⟩
/-- x opens with y -/
def opensB (x y : List UInt8) : Bool := x.take y.length == y
theorem encRow_opens {ns ms : List Int} (hl : ns.length = ms.length) (h1 : ∀ i ∈ ns, In64 i) (h2 : ∀ i ∈ ms, In64 i) (h : opensB (encRow ns) (encRow ms) = true) : ns = ms := by
  have e : encRow ms ++ (encRow ns).drop (encRow ms).length = encRow ns ++ [] := by
    have := eq_of_beq h
    conv => lhs; lhs; rw [← this]
    rw [List.take_append_drop, List.append_nil]
  exact (encRow_inj hl.symm h2 h1 e).symm
theorem firstDiff_row (n : Nat) : ∀ (ns ms : List Int) (d : Nat) (e lt : Nat → Bool), ns.length = n → ms.length = n → (∀ k, k < n → e (d + k) = decide (ns.getD k 0 = ms.getD k 0)) → (∀ k, k < n → lt (d + k) = keyLtB (ns.getD k 0) (ms.getD k 0)) → firstDiff e lt n d false = rowLt ns ms := by
  induction n with
  | zero =>
    intro ns ms d e lt h1 h2 _ _
    rw [List.length_eq_zero_iff.mp h1]
    rfl
  | succ n ih =>
    intro ns ms d e lt h1 h2 he hlt
    obtain ⟨i, r, rfl⟩ : ∃ i r, ns = i :: r := by cases ns with | nil => cases h1 | cons i r => exact ⟨i, r, rfl⟩
    obtain ⟨j, q, rfl⟩ : ∃ i r, ms = i :: r := by cases ms with | nil => cases h2 | cons i r => exact ⟨i, r, rfl⟩
    have e0 := he 0 (by omega)
    have l0 := hlt 0 (by omega)
    simp only [Nat.add_zero, List.getD_cons_zero] at e0 l0
    show (if e d then firstDiff e lt n (d + 1) false else lt d) = if i = j then rowLt r q else keyLtB i j
    rw [e0, l0]
    by_cases k : i = j
    · rw [if_pos k, if_pos (by simpa using k)]
      refine ih r q (d + 1) e lt (by simpa using h1) (by simpa using h2) (fun k hk => ?_) fun k hk => ?_
      · have := he (k + 1) (by omega)
        rw [show d + 1 + k = d + (k + 1) by omega, this]; rfl
      · have := hlt (k + 1) (by omega)
        rw [show d + 1 + k = d + (k + 1) by omega, this]; rfl
    · rw [if_neg k, if_neg (by simpa using k)]
/-- texts and octets: by length, then by octets -/
def sizeLt (x y : List UInt8) : Bool := if x.length = y.length then ordB x y == .lt else decide (x.length < y.length)
theorem ordB_head (c : Nat) {x y : List UInt8} (h1 : c + x.length < 256) (h2 : c + y.length < 256) : (ordB (beInt 1 ((c : Int) + (x.length : Int)) ++ x) (beInt 1 ((c : Int) + (y.length : Int)) ++ y) == .lt) = sizeLt x y := by
  have e1 : beInt 1 ((c : Int) + (x.length : Int)) = [(c + x.length).toUInt8] := be1 _ h1 _ (.inl (by omega))
  have e2 : beInt 1 ((c : Int) + (y.length : Int)) = [(c + y.length).toUInt8] := be1 _ h2 _ (.inl (by omega))
  rw [e1, e2, List.singleton_append, List.singleton_append, ordB_cons h1 h2]
  unfold sizeLt
  rcases Nat.lt_trichotomy x.length y.length with h | h | h
  · rw [if_pos (by omega), if_neg (by omega), decide_eq_true h]; rfl
  · rw [if_neg (by omega), if_neg (by omega), if_pos h]
  · rw [if_neg (by omega), if_pos (by omega), if_neg (by omega), decide_eq_false (by omega)]; rfl
theorem encText_ord {x y : Str} (hx : x ∈ txts) (hy : y ∈ txts) : (ordB (encText x) (encText y) == .lt) = sizeLt (u8 x) (u8 y) :=
  ordB_head 160 (by have := (u8_small x hx).1; omega) (by have := (u8_small y hy).1; omega)
theorem encBytes_ord {x y : Array UInt8} (hx : x.size ≤ 200) (hy : y.size ≤ 200) : (ordB (encBytes x) (encBytes y) == .lt) = sizeLt x.toList y.toList := by
  have h := ordB_head 0 (x := x.toList) (y := y.toList) (by simp; omega) (by simp; omega)
  rw [← h]
  simp only [encBytes, Int.natCast_zero, Int.zero_add, Array.length_toList]
  show ((if (196 : UInt8) < 196 then Ordering.lt else if (196 : UInt8) > 196 then .gt else ordB _ _) == .lt) = _
  rw [if_neg (UInt8.lt_irrefl _), if_neg (UInt8.lt_irrefl _)]
theorem firstDiff_size {x y : List UInt8} {e lt : Nat → Bool} (e0 : e 0 = decide (x.length = y.length)) (l0 : lt 0 = decide (x.length < y.length)) (e1 : e 1 = (x == y)) (l1 : lt 1 = (ordB x y == .lt)) : firstDiff e lt 2 0 false = sizeLt x y := by
  show (if e 0 then (if e 1 then false else lt 1) else lt 0) = if x.length = y.length then ordB x y == .lt else decide (x.length < y.length)
  rw [e0, l0, e1, l1]
  by_cases h : x.length = y.length
  · rw [if_pos (by simpa using h), if_pos h]
    by_cases k : x = y
    · subst k
      rw [if_pos (by simp), ordB_refl]; rfl
    · rw [if_neg (by simpa using k)]
  · rw [if_neg (by simpa using h), if_neg h]
end Mine
end
section
open PySem PySem.W PyProof.Rows PySem.Calls
open PySem.Sem (wp)
set_option maxRecDepth 100000
namespace Mine
theorem topOffX3 : True := by
  w_top off
  trivial
local macro_rules | `(tactic| k_all) => `(tactic| assumption)
local macro_rules | `(tactic| k_room) => `(tactic| ktr_room)
local macro_rules | `(tactic| k_units) => `(tactic| first | ktr_units | ((try dsimp only); (try simp only [units_make, units_deeper, units_in1, Around.mark_units]); omega))
local macro_rules | `(tactic| walk_at "c_fill") => `(tactic| (have kf : PySem.Challenge.rw_fg0013_01 = PySem.Challenge.rw_fg0013_01 ∧ Mine.hd.heap_39 = Mine.hd.heap_39 := (by k_fill; exact ⟨rfl, rfl⟩)); clear kf)
local macro_rules | `(tactic| walk_at "c_enter") => `(tactic| (k_dflt (refine' callC_def ?kBL ?k1 ?k2 ?k3 ?k4 ?k5 ?kA ?kF ?kK ?k6 ?k7 ?k8 ?k9 ?kB ?_ ?c5 ?c2 ?c3 ?c4; (case kBL => assumption); (case kA => exact rfl); (case kF => exact rfl); (case kK => assumption); (case k1 => k_asm); (case k2 => k_asm); (case k3 => k_asm); (case k4 => k_asm); (case k5 => k_asm); (case k6 => k_is); (case k7 => k_is); (case k8 => ktr_room); (case k9 => first | exact BindsTo.of_eq rfl | exact binds_K (by k_in) rfl (by k_is) rfl rfl rfl | (refine' kp_binds ?kx ?ke; (case kx => k_in); (case ke => exact fun _ => rfl))); (case kB => exact locs rfl); (case c5 => decide); (case c2 => exact rfl); (case c3 => exact rfl); (case c4 => exact rfl); k_whole; intro g' L' h' tk' FG' F' N' B' X' T' l1; (try k_lt l1); (try dsimp only))))
local macro_rules | `(tactic| walk_at "c_enter2") => `(tactic| (k_dflt (refine' callC_def ?kBL ?k1 ?k2 ?k3 ?k4 ?k5 ?kA ?kF ?kK ?k6 ?k7 ?k8 ?k9 ?kB ?_ ?c5 ?c2 ?c3 ?c4; (case kA => exact rfl); (case kF => exact rfl); (case kK => exact rfl); (case k1 => k_asm); (case k2 => k_asm); (case k3 => k_asm); (case k4 => k_asm); (case k5 => k_asm); (case k6 => k_is); (case k7 => k_is); (case k8 => ktr_room); (case k9 => first | exact BindsTo.of_eq rfl | exact binds_K (by k_in) rfl (by k_is) rfl rfl rfl | (refine' kp_binds ?kx ?ke; (case kx => k_in); (case ke => exact fun _ => rfl))); (case kB => exact locs rfl); (case kBL => exact bl _); (case c5 => decide); (case c2 => exact rfl); (case c3 => exact rfl); (case c4 => exact rfl); k_whole; intro g' L' h' tk' FG' F' N' B' X' T' l1; (try k_lt l1); (try dsimp only))))
local macro_rules | `(tactic| walk_at "c_both") => `(tactic| (k_dflt (refine' kp_both ?k1 ?k2 ?k3 ?k4 ?k5 ?kA ?kF ?kK ?k6 ?k7 ?k8 ?kV ?kX ?kQ ?kM ?kN ?kD ?kR ?kP ?kS ?kT ?kB ?_ ?c2 ?c3 ?c4 ?c5; (case kA => exact rfl); (case kF => exact rfl); (case kK => assumption); (case k1 => k_asm); (case k2 => k_asm); (case k3 => k_asm); (case k4 => k_asm); (case k5 => k_asm); (case k6 => k_is); (case k7 => k_is); (case k8 => ktr_room); (case kV => kp_lit); (case kX => kp_lit); (case kQ => exact rfl); (case kM => exact rfl); (case kN => exact rfl); (case kD => kp_flats); (case kR => exact rfl); (case kP => exact rfl); (case kS => exact fun _ => rfl); (case kT => exact fun _ _ => rfl); (case kB => exact fun _ _ => locs rfl); (case c5 => decide); (case c2 => exact rfl); (case c3 => exact rfl); (case c4 => exact rfl); k_whole; intro C' D' o' g' L' h' tk' l1 l2 lo' hs' fs' FG' F' N' B' X' T'; (try k_lt l1); (try k_lt2 l2); (try dsimp only))))
local macro_rules | `(tactic| walk_at "call type:type") => `(tactic| (k_here; (with_reducible show wpAny _ _ (call (Value.type "type") [Value.bytes _ _]) _ _ _); refine call_type_of (Tx := "bytes") rfl (by decide +kernel) ?_))
local macro_rules | `(tactic| walk_at "wpC") => `(tactic| (with_reducible refine wpC_any ?_))
local macro_rules | `(tactic| walk_at "wpC") => `(tactic| (with_reducible refine execsC_any ?_))
local macro_rules | `(tactic| walk_at "wpC") => `(tactic| (refine' execsC_nil ?_))
local macro_rules | `(tactic| walk_at "wpC") => `(tactic| ((with_reducible show wpC _ _ (execs _ _) _ _ _); with_reducible refine execsC_cons ?_; refine' wpC_If ?_))
local macro_rules | `(tactic| walk_at "wpC") => `(tactic| ((with_reducible show wpC _ _ (execs _ _) _ _ _); with_reducible refine execsC_cons ?_; refine' wpC_While ?_; refine' codeC_while ?_))
local macro_rules | `(tactic| walk_at "wpC") => `(tactic| ((with_reducible show wpC _ _ (execs _ _) _ _ _); with_reducible refine execsC_cons ?_; refine' wpC_Try ?_))
local macro_rules | `(tactic| walk_at "wpC") => `(tactic| ((with_reducible show wpC _ _ (execs _ _) _ _ _); with_reducible refine execsC_cons ?_; refine' wpC_For ?_ ?hs; (case hs => intro _; with_unfolding_all rfl)))
local macro_rules | `(tactic| walk_at "pyIter ref") => `(tactic| ((with_reducible show wpAny _ _ (pyIter (Value.ref _)) (fun _ _ => codeC _ _ _ _ _) _ _); (with_reducible rename IsRange _ _ _ _ _ _ _ _ => R9); refine wpAny_pyIter_range R9 ?hsmall ?_; (case hsmall => walk_at "c_small")))
local macro_rules | `(tactic| walk_at "wpC") => `(tactic| ((with_reducible show wpC _ _ (execs _ _) _ _ _); with_reducible refine execsC_cons ?_; refine' wpC_Return ?_; refine' evalC_method ?_ ?he; (case he => with_unfolding_all rfl)))
local macro_rules | `(tactic| walk_at "wpC") => `(tactic| ((with_reducible show wpC _ _ (execs _ _) _ _ _); with_reducible refine execsC_cons ?_; refine' wpC_Expr ?_ ?hi ?hs; (case hi => with_unfolding_all rfl); (case hs => with_unfolding_all rfl); refine' evalC_method ?_ ?he; (case he => with_unfolding_all rfl)))
local macro_rules | `(tactic| walk_at "wpC") => `(tactic| ((with_reducible show wpC _ _ (execs _ _) _ _ _); with_reducible refine execsC_cons ?_; refine' wpC_AssignAttr ?_ ?hs; (case hs => with_unfolding_all rfl)))
local macro_rules | `(tactic| walk_at "wpC") => `(tactic| ((with_reducible show wpC _ _ (execs _ _) _ _ _); with_reducible refine execsC_cons ?_; refine' wpC_AssignSub ?_ ?hs; (case hs => with_unfolding_all rfl)))
local macro_rules | `(tactic| walk_at "wpC") => `(tactic| ((with_reducible show wpC _ _ (eval _ _) _ _ _); refine' evalC_ifExp ?_))
local macro_rules | `(tactic| walk_at "wpC") => `(tactic| ((with_reducible show wpC _ _ (eval _ _) _ _ _); refine' evalC_call ?_ ?he; (case he => with_unfolding_all rfl)))
local macro_rules | `(tactic| walk_at "wpC") => `(tactic| ((with_reducible show wpC _ _ (callWith _ _ _ _ _) _ _ _); k_dflt (first | refine' callWithC_T0 ?_ | (refine' callWithC_K0 ?k1 ?k2 ?_; (case k1 => k_in); (case k2 => k_is); k_whole) | (refine' callWithC_K ?k1 ?k2 ?_; (case k1 => k_asm); (case k2 => k_is); k_whole))))
local macro_rules | `(tactic| walk_at "wpC") => `(tactic| (k_dflt (show wpC _ _ (call (Value.type "bytearray") []) _ _ _); (with_reducible rename Fr _ _ _ _ => F9); (with_reducible rename News _ _ _ _ => N9); (refine call_baN (s := ⟨_, _, _, _, _⟩) F9 N9 ?_); intro ba' h' F' N' l1; (try k_lt l1)))
local macro_rules | `(tactic| walk_at "wpC") => `(tactic| ((with_reducible show wpC _ _ (setItem (.ref _) (.ref _) (.bytes _ _)) _ _ _); (with_reducible rename Fr _ _ _ _ => F9); (with_reducible rename News _ _ _ _ => N9); refine setItem_N (s := ⟨_, _, _, _, _⟩) F9 N9 (by assumption) (by assumption) (by assumption) (by rw [sizeLine_eq]; omega) ?_; intro _ F' N'))
local macro_rules | `(tactic| walk_at "call builtin:len") => `(tactic| (k_here; (with_reducible show wpAny _ _ (call (Value.builtin "len") [Value.ref _]) _ _ _); (with_reducible rename News _ _ _ _ => N9); refine len_ba (bs := _) (News.get N9 (by repeat (first | exact List.Mem.head _ | apply List.Mem.tail))) (by omega) ?_; have N' := N9; clear N9))
local macro_rules | `(tactic| walk_at "call type:bytes") => `(tactic| (k_here; (with_reducible show wpAny _ _ (call (Value.type "bytes") [Value.ref _]) _ _ _); (with_reducible rename News _ _ _ _ => N9); refine call_bytes_ba (bs := _) (News.get N9 (by repeat (first | exact List.Mem.head _ | apply List.Mem.tail))) (by rw [sizeLine_eq]; first | omega | (simp only [List.size_toArray]; omega)) ?_; have N' := N9; clear N9))
local macro_rules | `(tactic| walk_at "binaryOp Pow int int") => `(tactic| (k_here; (with_reducible refine pow_int_small ?kb1 ?kb2 ?kb3 ?_); (case kb1 => decide); (case kb2 => decide); (case kb3 => decide)))
local macro_rules | `(tactic| walk_at "a_enter") => `(tactic| (k_dflt (refine' callA_def ?kBL ?k1 ?k2 ?k3 ?k4 ?k5 ?kA ?kF ?kK ?k6 ?k7 ?k8 ?k9 ?kB ?_ ?c5 ?c2 ?c3 ?c4; (case kBL => assumption); (case kA => exact rfl); (case kF => exact rfl); (case kK => assumption); (case k1 => k_asm); (case k2 => k_asm); (case k3 => k_asm); (case k4 => k_asm); (case k5 => k_asm); (case k6 => k_is); (case k7 => k_is); (case k8 => ktr_room); (case k9 => first | exact BindsTo.of_eq rfl | exact binds_K (by k_in) rfl (by k_is) rfl rfl rfl | (refine' kp_binds ?kx ?ke; (case kx => k_in); (case ke => exact fun _ => rfl))); (case kB => exact locs rfl); (case c5 => decide); (case c2 => exact rfl); (case c3 => exact rfl); (case c4 => exact rfl); k_whole; intro g' L' h' tk' FG' F' N' B' X' T' l1; (try k_lt l1); (try dsimp only))))
local macro_rules | `(tactic| walk_at "call ref") => `(tactic| (k_here; (k_dflt (show wpAny _ _ (call (Value.ref 897) [.int _ _]) _ _ _)); (with_reducible rename Fr _ _ _ _ => F9); (with_reducible rename News _ _ _ _ => N9); (k_dflt (refine' number_c (s := ⟨_, _, _, _, _⟩) ?b1 F9 ?b2 ?b3 N9 ?b4 ?b5 ?b6 ?_; (case b1 => k_asm); (case b2 => k_asm); (case b3 => k_asm); (case b4 => exact rfl); (case b5 => ktr_room); (case b6 => k_units); k_whole)); intro h' t' tk' F' N'))
local macro_rules | `(tactic| walk_at "subscriptTail Name BinOp ref int") => `(tactic| (k_here; (with_reducible show wpAny _ _ (subscriptTail _ _ (Value.ref _) (Value.int _ _)) _ _ _); (with_reducible rename News _ _ _ _ => N9); k_dflt (refine' item_ints N9 ?hm ?hi ?h0 ?h1 ?h2 ?_ ?hs ?ht; (case hs => with_unfolding_all rfl); (case ht => (intro _; with_unfolding_all rfl)); (case hm => repeat (first | exact List.Mem.head _ | apply List.Mem.tail)); (case hi => assumption); (case h0 => exact IdxOk.a (by assumption) (by assumption) (by assumption)); (case h1 => exact IdxOk.b (by assumption) (by assumption) (by assumption)); (case h2 => exact IdxOk.c (by assumption) (by assumption) (by assumption))); intro u'; have N' := N9; clear N9))
local macro_rules | `(tactic| walk_at "eval Name") => `(tactic| (k_here; (with_reducible rename Fr _ _ _ _ => kF); k_dflt (refine' nameX_L kF ?hv ?_ ?hk ?hx ?hd; (case hk => rfl); (case hx => rfl); (case hd => decide); (case hv => assumption); k_whole)))
/-- the places that a row's numbers are read from -/
def IdxOk (k sz : Nat) (nums : List Int) : Prop := ∀ j : Int, 0 ≤ j → j < 0 + (((sz : Int) - 0).toNat : Int) → 0 ≤ 2 + 5 * (k : Int) + j ∧ 2 + 5 * (k : Int) + j < nums.length ∧ 2 + 5 * (k : Int) + j < 1000
theorem IdxOk.mk {k sz : Nat} {nums : List Int} (h1 : k < 3) (h2 : sz ≤ 5) (h3 : 20 ≤ nums.length) : IdxOk k sz nums := fun j h4 h5 => by omega
theorem IdxOk.a {k sz : Nat} {nums : List Int} {j : Int} (h : IdxOk k sz nums) (h1 : 0 ≤ j) (h2 : j < 0 + (((sz : Int) - 0).toNat : Int)) : 0 ≤ 2 + 5 * (k : Int) + j := (h j h1 h2).1
theorem IdxOk.b {k sz : Nat} {nums : List Int} {j : Int} (h : IdxOk k sz nums) (h1 : 0 ≤ j) (h2 : j < 0 + (((sz : Int) - 0).toNat : Int)) : 2 + 5 * (k : Int) + j < nums.length := (h j h1 h2).2.1
theorem IdxOk.c {k sz : Nat} {nums : List Int} {j : Int} (h : IdxOk k sz nums) (h1 : 0 ≤ j) (h2 : j < 0 + (((sz : Int) - 0).toNat : Int)) : 2 + 5 * (k : Int) + j < 1000 := (h j h1 h2).2.2
theorem news_row {g h : Heap} {L RA : Addr} {a b c d e i k : Addr × Obj} {vs : List Value} {v : Value} {j : Nat} {r : List (Addr × Obj)} (N : News g L h (a :: b :: c :: d :: e :: i :: k :: (RA, listOf (vs.toArray.push v) j) :: r)) : News g L h (a :: i :: k :: (RA, listOf (vs ++ [v]).toArray j) :: r) := fun q hq => N q (by
  have e2 : (vs ++ [v]).toArray = vs.toArray.push v := by simp
  rw [e2] at hq
  simp only [List.mem_cons] at hq ⊢
  rcases hq with h | h | h | h | h <;> simp [h])
theorem ne_nil {prog : Program} {w : World} {A : Around} {E : Value → Shared → Prop} {s : Shared} {g : Heap} {L l b : Addr} {rs : List Value} {x : Value} {n n2 : Nat} {news : List (Addr × Obj)} {Q : Value → Shared → Prop} (N : News g L s.heap news)
    (h1 : (l, listOf (rs ++ [x]).toArray n) ∈ news) (h2 : (b, listOf #[] n2) ∈ news) (hu : A.units < cLine) (h : Q (.bool true) s) : wpAny (model prog w) A (compareOp .NotEq (.ref l) (.ref b)) Q E s :=
  PySem.SeqAt.RcNeAt.lists_lengths (items := (rs ++ [x]).toArray) (items2 := #[]) ⟨_, (N _ h1).1, rfl, _, rfl⟩ ⟨_, (N _ h2).1, rfl, _, rfl⟩ (by simp) hu prog w E Q h
theorem ne_nil0 {prog : Program} {w : World} {A : Around} {E : Value → Shared → Prop} {s : Shared} {g : Heap} {L l b : Addr} {n n2 : Nat} {news : List (Addr × Obj)} {Q : Value → Shared → Prop} (N : News g L s.heap news)
    (h1 : (l, listOf #[] n) ∈ news) (h2 : (b, listOf #[] n2) ∈ news) (hu : A.units < cLine) (h : Q (.bool false) s) : wpAny (model prog w) A (compareOp .NotEq (.ref l) (.ref b)) Q E s :=
  PySem.SeqAt.RcNeAt.lists (e := fun _ => true) (items := #[]) (items2 := #[]) ⟨_, (N _ h1).1, rfl, _, rfl⟩ ⟨_, (N _ h2).1, rfl, _, rfl⟩ rfl hu (fun j h1 => nomatch h1) prog w E Q h
theorem item_last {prog : Program} {w : World} {A : Around} {s : Shared} {E : Value → Shared → Prop} {value slice : Expr} {g : Heap} {L l : Addr} {rs : List Value} {x : Value} {ln : Nat} {news : List (Addr × Obj)} {t : Tok} {Q : Value → Shared → Prop} (N : News g L s.heap news) (hm : (l, listOf (rs ++ [x]).toArray ln) ∈ news)
    (hz : rs.length ≤ 1000) (h : Q x s)
    (hs : subscripted slice false (.ref l) (.int (-1) t) = operate [.ref l, .int (-1) t] (getItem (.ref l) (.int (-1) t)))
    (ht : ∀ r, letTemporaryGo value (.ref l) r = pure ()) :
    wpAny (model prog w) A (subscriptTail value slice (.ref l) (.int (-1) t)) Q E s := by
  have hl : s.heap.IsList l (rs ++ [x]).toArray := News.isList N hm
  refine tail_of_ItemOn ⟨"list", _, slot_list_getitem.lookup, hl.typeIs, wpAny_getItem_list_neg hl (by decide) ?_ (by decide) ?_ h⟩ hs ht
  · simp; omega
  · have e : (-1 + ((rs ++ [x]).toArray.size : Int)).toNat = rs.length := by simp; omega
    rw [e, List.getElem?_toArray]
    simp
local macro_rules | `(tactic| walk_at "compareOp NotEq ref ref") => `(tactic| (k_here; (with_reducible rename News _ _ _ _ => N9); k_dflt (first | (refine' ne_nil N9 ?h1 ?h2 ?hu ?_; (case h1 => k_mem); (case h2 => k_mem); (case hu => k_units)) | (refine' ne_nil0 N9 ?h1 ?h2 ?hu ?_; (case h1 => k_mem); (case h2 => k_mem); (case hu => k_units))); have N' := N9; clear N9))
local macro_rules | `(tactic| walk_at "subscriptTail Name UnaryOp ref int") => `(tactic| (k_here; (with_reducible rename News _ _ _ _ => N9); k_dflt (refine' item_last N9 ?h1 ?h2 ?_ ?hs ?ht; (case h1 => k_mem); (case h2 => omega); (case hs => with_unfolding_all rfl); (case ht => (intro _; with_unfolding_all rfl))); have N' := N9; clear N9))
theorem pow_seven {prog : Program} {w : World} {A : Around} {E : Value → Shared → Prop} {s : Shared} {k : Int} {t u : Tok} {Q : Value → Shared → Prop} (h0 : 0 ≤ k) (h2 : k ≤ 2) (h : ∀ p : Int, 0 < p → p ≤ 49 → Q (.int p s.toks) { s with toks := s.toks + 1 }) :
    wpAny (model prog w) A (binaryOp .Pow (.int 7 t) (.int k u)) Q E s := by
  refine pow_int_small h0 (by omega) (by decide) ?_
  have : k = 0 ∨ k = 1 ∨ k = 2 := by omega
  rcases this with rfl | rfl | rfl
  · exact h _ (by decide) (by decide)
  · exact h _ (by decide) (by decide)
  · exact h _ (by decide) (by decide)
theorem div_any {prog : Program} {w : World} {A : Around} {E : Value → Shared → Prop} {s : Shared} {a b : Int} {t u : Tok} {Q : Value → Shared → Prop} (h0 : 0 < b) (h2 : b ≤ 1000) (h : ∀ p : Int, Q (.int p s.toks) { s with toks := s.toks + 1 }) :
    wpAny (model prog w) A (binaryOp .FloorDiv (.int a t) (.int b u)) Q E s := floordiv_int (by omega) (h _) (Or.inl (PyProof.noPylong_small (by omega)))
theorem mod_any {prog : Program} {w : World} {A : Around} {E : Value → Shared → Prop} {s : Shared} {a b : Int} {t u : Tok} {Q : Value → Shared → Prop} (h0 : 0 < b) (h : ∀ p : Int, 0 ≤ p → p < b → Q (.int p s.toks) { s with toks := s.toks + 1 }) :
    wpAny (model prog w) A (binaryOp .Mod (.int a t) (.int b u)) Q E s := mod_int' (by omega) (h _ (Int.fmod_nonneg_of_pos a h0) (Int.fmod_lt_of_pos a h0))
local macro_rules | `(tactic| walk_at "binaryOp Pow int int") => `(tactic| (k_here; (k_dflt (refine' pow_seven ?kb1 ?kb2 ?_; (case kb1 => omega); (case kb2 => omega))); intro p' hp1' hp2'))
local macro_rules | `(tactic| walk_at "binaryOp FloorDiv int int") => `(tactic| (k_here; (k_dflt (refine' div_any ?kb1 ?kb2 ?_; (case kb1 => omega); (case kb2 => omega))); intro p'))
local macro_rules | `(tactic| walk_at "binaryOp Mod int int") => `(tactic| (k_here; (k_dflt (refine' mod_any ?kb1 ?_; (case kb1 => omega))); intro p' hp1' hp2'))
local macro_rules | `(tactic| walk_at "subscriptTail Name Constant ref int") => `(tactic| (k_here; (with_reducible show wpAny _ _ (subscriptTail _ _ (Value.ref _) (Value.int _ _)) _ _ _); (with_reducible rename News _ _ _ _ => N9); k_dflt (refine' item_ints N9 ?hm ?hi ?h0 ?h1 ?h2 ?_ ?hs ?ht; (case hs => with_unfolding_all rfl); (case ht => (intro _; with_unfolding_all rfl)); (case hm => repeat (first | exact List.Mem.head _ | apply List.Mem.tail)); (case hi => assumption); (case h0 => omega); (case h1 => omega); (case h2 => omega)); intro u'; have N' := N9; clear N9))
set_option maxRecDepth 100000 in
set_option maxHeartbeats 4000000 in
theorem row_if {prog : Program} {w : World} {mg mb : Str → Option Value} {p : Program} {loose : List Str} {mean : ExcName → Option Value} {s₁ : Shared} {h0 : Heap} {L : Addr} {m : Str → Option Value} {k : Nat} {tk : Tok} {sz : Nat} {tsz : Tok}
    {I RA NA D R0 : Addr} {o1 o2 o3 o4 o5 : Obj} {rs : List Value} {j nn ln lr : Nat} {nv vs rv : List Value} {nums ns rn : List Int} {rest : List (Addr × Obj)} {Q : Flow → Shared → Prop}
    (X : (Mine.hd.heap_39 w.params).In h0) (T : Top p loose mean mg mb h0) (B : Below callerA h0 [] h0)
    (F : Fr h0 L s₁.heap m) (N : News h0 L s₁.heap ((D, listOf vs.toArray ln) :: (I, rIt ((k : Int) + 1) (((3 : Nat) : Int) - k - 1)) :: (L + 1 + 1 + 1, o3) :: (RA, listOf (rs ++ [Value.ref R0]).toArray j) :: (NA, listOf nv.toArray nn) :: (L + 1 + 1 + 1 + 1 + 1, o5) :: (L + 1 + 1 + 1 + 1, o4) :: (L + 1 + 1, o2) :: (L + 1, o1) :: (R0, listOf rv.toArray lr) :: rest))
    (hsz : m (Str.ofString "size") = some (.int sz tsz)) (hrow : m (Str.ofString "row") = some (.ref D)) (hsz5 : sz ≤ 5) (hk : k < 3) (hnv : IntsAre nv nums) (hnn : 20 ≤ nums.length) (hnn2 : nums.length ≤ 40) (hvs : IntsAre vs ns) (hns : ns.length = sz) (hrv : IntsAre rv rn) (hrn : rn.length = sz) (hrs : rs.length ≤ 3)
    (d3 : o3.data = .cell (some (.int k tk))) (d2 : o2.data = .cell (some (.ref RA))) (d1 : o1.data = .cell (some (.ref NA)))
    (l1 : @LT.lt Nat _ (L + 1 + 1 + 1 + 1 + 1) NA) (l2 : @LT.lt Nat _ NA RA) (l3 : @LT.lt Nat _ RA I) (l4 : @Ne Nat RA D) (l5 : @Ne Nat RA R0) (l6 : @LT.lt Nat _ (L + 1 + 1 + 1 + 1 + 1) I) (hrRA : ∀ q ∈ rest, q.1 ≠ RA)
    (ret : ∀ (h' : Heap) (t : Tok) (m' : Str → Option Value) (D' : Addr) (ws : List Value) (ms : List Int) (j' : Nat), m' (Str.ofString "size") = some (.int sz tsz) → IntsAre ws ms → ms.length = sz → (∀ i ∈ ms, i ∈ rn ∨ i ∈ ns) → @LT.lt Nat _ I D' → @LT.lt Nat _ RA D' →
      Fr h0 L h' m' → News h0 L h' ((D', listOf ws.toArray 0) :: (I, rIt ((k : Int) + 1) (((3 : Nat) : Int) - k - 1)) :: (L + 1 + 1 + 1, o3) :: (RA, listOf ((rs ++ [Value.ref R0]) ++ [Value.ref D']).toArray j') :: (NA, listOf nv.toArray nn) :: (L + 1 + 1 + 1 + 1 + 1, o5) :: (L + 1 + 1 + 1 + 1, o4) :: (L + 1 + 1, o2) :: (L + 1, o1) :: (R0, listOf rv.toArray lr) :: rest) → Q .next { s₁ with heap := h', toks := t }) :
    wpC (model prog w) (callerA.deeper (lawE L)) (execs (rowsS.1.drop 1) (lawE L)) Q nE s₁ := by
  walk_at "c_fill"
  obtain ⟨hp, gs, dr, tks, os⟩ := s₁
  dsimp only at F N
  dsimp only [rowsS, lawE, lawScS, List.drop]
  k_steps
  rename IntsAre _ (List.take _ _ ++ List.drop _ _) => q1
  rename (_ : Int) < (sz : Int) + 1 => q2
  refine ret _ _ _ _ _ _ _ ?_ q1 ?_ ?_ ?_ ?_ (by assumption) (news_row (by assumption))
  · show (if Str.ofString "size" = Str.ofString "row" then _ else if Str.ofString "size" = Str.ofString "same" then _ else m (Str.ofString "size")) = _
    rw [if_neg (by decide), if_neg (by decide)]
    exact hsz
  · rw [List.length_append, List.length_take, List.length_drop, hns, hrn]
    omega
  · intro i hi
    rcases List.mem_append.mp hi with h | h
    · exact .inl (List.mem_of_mem_take h)
    · exact .inr (List.mem_of_mem_drop h)
  · omega
  · omega
set_option maxRecDepth 100000 in
set_option maxHeartbeats 4000000 in
theorem row_if0 {prog : Program} {w : World} {mg mb : Str → Option Value} {p : Program} {loose : List Str} {mean : ExcName → Option Value} {s₁ : Shared} {h0 : Heap} {L : Addr} {m : Str → Option Value} {k : Nat} {tk : Tok} {sz : Nat} {tsz : Tok}
    {I RA NA D : Addr} {o1 o2 o3 o4 o5 : Obj} {j nn ln : Nat} {nv vs : List Value} {nums ns : List Int} {rest : List (Addr × Obj)} {Q : Flow → Shared → Prop}
    (X : (Mine.hd.heap_39 w.params).In h0) (T : Top p loose mean mg mb h0) (B : Below callerA h0 [] h0)
    (F : Fr h0 L s₁.heap m) (N : News h0 L s₁.heap ((D, listOf vs.toArray ln) :: (I, rIt ((k : Int) + 1) (((3 : Nat) : Int) - k - 1)) :: (L + 1 + 1 + 1, o3) :: (RA, listOf #[] j) :: (NA, listOf nv.toArray nn) :: (L + 1 + 1 + 1 + 1 + 1, o5) :: (L + 1 + 1 + 1 + 1, o4) :: (L + 1 + 1, o2) :: (L + 1, o1) :: rest))
    (hsz : m (Str.ofString "size") = some (.int sz tsz)) (hrow : m (Str.ofString "row") = some (.ref D)) (hsz5 : sz ≤ 5) (hk : k < 3) (hnv : IntsAre nv nums) (hnn : 20 ≤ nums.length) (hnn2 : nums.length ≤ 40) (hvs : IntsAre vs ns) (hns : ns.length = sz)
    (d3 : o3.data = .cell (some (.int k tk))) (d2 : o2.data = .cell (some (.ref RA))) (d1 : o1.data = .cell (some (.ref NA)))
    (l1 : @LT.lt Nat _ (L + 1 + 1 + 1 + 1 + 1) NA) (l2 : @LT.lt Nat _ NA RA) (l3 : @LT.lt Nat _ RA I) (l4 : @Ne Nat RA D) (l6 : @LT.lt Nat _ (L + 1 + 1 + 1 + 1 + 1) I) (hrRA : ∀ q ∈ rest, q.1 ≠ RA)
    (ret : ∀ (h' : Heap) (t : Tok) (j' : Nat), 
      Fr h0 L h' m → News h0 L h' ((D, listOf vs.toArray ln) :: (I, rIt ((k : Int) + 1) (((3 : Nat) : Int) - k - 1)) :: (L + 1 + 1 + 1, o3) :: (RA, listOf [Value.ref D].toArray j') :: (NA, listOf nv.toArray nn) :: (L + 1 + 1 + 1 + 1 + 1, o5) :: (L + 1 + 1 + 1 + 1, o4) :: (L + 1 + 1, o2) :: (L + 1, o1) :: rest) → Q .next { s₁ with heap := h', toks := t }) :
    wpC (model prog w) (callerA.deeper (lawE L)) (execs (rowsS.1.drop 1) (lawE L)) Q nE s₁ := by
  walk_at "c_fill"
  obtain ⟨hp, gs, dr, tks, os⟩ := s₁
  dsimp only at F N
  dsimp only [rowsS, lawE, lawScS, List.drop]
  k_steps
  exact ret _ _ _ (by assumption) (news_tl1 (by assumption))
end Mine
end
section
open PySem PySem.W PyProof.Rows PySem.Calls
open PySem.Sem (wp)
set_option maxRecDepth 100000
namespace Mine
theorem topOffX4 : True := by
  w_top off
  trivial
local macro_rules | `(tactic| k_all) => `(tactic| assumption)
local macro_rules | `(tactic| k_room) => `(tactic| ktr_room)
local macro_rules | `(tactic| k_units) => `(tactic| first | ktr_units | ((try dsimp only); (try simp only [units_make, units_deeper, units_in1, Around.mark_units]); omega))
local macro_rules | `(tactic| walk_at "c_fill") => `(tactic| (have kf : PySem.Challenge.rw_fg0013_01 = PySem.Challenge.rw_fg0013_01 ∧ Mine.hd.heap_39 = Mine.hd.heap_39 := (by k_fill; exact ⟨rfl, rfl⟩)); clear kf)
local macro_rules | `(tactic| walk_at "c_enter") => `(tactic| (k_dflt (refine' callC_def ?kBL ?k1 ?k2 ?k3 ?k4 ?k5 ?kA ?kF ?kK ?k6 ?k7 ?k8 ?k9 ?kB ?_ ?c5 ?c2 ?c3 ?c4; (case kBL => assumption); (case kA => exact rfl); (case kF => exact rfl); (case kK => assumption); (case k1 => k_asm); (case k2 => k_asm); (case k3 => k_asm); (case k4 => k_asm); (case k5 => k_asm); (case k6 => k_is); (case k7 => k_is); (case k8 => ktr_room); (case k9 => first | exact BindsTo.of_eq rfl | exact binds_K (by k_in) rfl (by k_is) rfl rfl rfl | (refine' kp_binds ?kx ?ke; (case kx => k_in); (case ke => exact fun _ => rfl))); (case kB => exact locs rfl); (case c5 => decide); (case c2 => exact rfl); (case c3 => exact rfl); (case c4 => exact rfl); k_whole; intro g' L' h' tk' FG' F' N' B' X' T' l1; (try k_lt l1); (try dsimp only))))
local macro_rules | `(tactic| walk_at "c_enter2") => `(tactic| (k_dflt (refine' callC_def ?kBL ?k1 ?k2 ?k3 ?k4 ?k5 ?kA ?kF ?kK ?k6 ?k7 ?k8 ?k9 ?kB ?_ ?c5 ?c2 ?c3 ?c4; (case kA => exact rfl); (case kF => exact rfl); (case kK => exact rfl); (case k1 => k_asm); (case k2 => k_asm); (case k3 => k_asm); (case k4 => k_asm); (case k5 => k_asm); (case k6 => k_is); (case k7 => k_is); (case k8 => ktr_room); (case k9 => first | exact BindsTo.of_eq rfl | exact binds_K (by k_in) rfl (by k_is) rfl rfl rfl | (refine' kp_binds ?kx ?ke; (case kx => k_in); (case ke => exact fun _ => rfl))); (case kB => exact locs rfl); (case kBL => exact bl _); (case c5 => decide); (case c2 => exact rfl); (case c3 => exact rfl); (case c4 => exact rfl); k_whole; intro g' L' h' tk' FG' F' N' B' X' T' l1; (try k_lt l1); (try dsimp only))))
local macro_rules | `(tactic| walk_at "c_both") => `(tactic| (k_dflt (refine' kp_both ?k1 ?k2 ?k3 ?k4 ?k5 ?kA ?kF ?kK ?k6 ?k7 ?k8 ?kV ?kX ?kQ ?kM ?kN ?kD ?kR ?kP ?kS ?kT ?kB ?_ ?c2 ?c3 ?c4 ?c5; (case kA => exact rfl); (case kF => exact rfl); (case kK => assumption); (case k1 => k_asm); (case k2 => k_asm); (case k3 => k_asm); (case k4 => k_asm); (case k5 => k_asm); (case k6 => k_is); (case k7 => k_is); (case k8 => ktr_room); (case kV => kp_lit); (case kX => kp_lit); (case kQ => exact rfl); (case kM => exact rfl); (case kN => exact rfl); (case kD => kp_flats); (case kR => exact rfl); (case kP => exact rfl); (case kS => exact fun _ => rfl); (case kT => exact fun _ _ => rfl); (case kB => exact fun _ _ => locs rfl); (case c5 => decide); (case c2 => exact rfl); (case c3 => exact rfl); (case c4 => exact rfl); k_whole; intro C' D' o' g' L' h' tk' l1 l2 lo' hs' fs' FG' F' N' B' X' T'; (try k_lt l1); (try k_lt2 l2); (try dsimp only))))
local macro_rules | `(tactic| walk_at "call type:type") => `(tactic| (k_here; (with_reducible show wpAny _ _ (call (Value.type "type") [Value.bytes _ _]) _ _ _); refine call_type_of (Tx := "bytes") rfl (by decide +kernel) ?_))
local macro_rules | `(tactic| walk_at "wpC") => `(tactic| (with_reducible refine wpC_any ?_))
local macro_rules | `(tactic| walk_at "wpC") => `(tactic| (with_reducible refine execsC_any ?_))
local macro_rules | `(tactic| walk_at "wpC") => `(tactic| (refine' execsC_nil ?_))
local macro_rules | `(tactic| walk_at "wpC") => `(tactic| ((with_reducible show wpC _ _ (execs _ _) _ _ _); with_reducible refine execsC_cons ?_; refine' wpC_If ?_))
local macro_rules | `(tactic| walk_at "wpC") => `(tactic| ((with_reducible show wpC _ _ (execs _ _) _ _ _); with_reducible refine execsC_cons ?_; refine' wpC_While ?_; refine' codeC_while ?_))
local macro_rules | `(tactic| walk_at "wpC") => `(tactic| ((with_reducible show wpC _ _ (execs _ _) _ _ _); with_reducible refine execsC_cons ?_; refine' wpC_Try ?_))
local macro_rules | `(tactic| walk_at "wpC") => `(tactic| ((with_reducible show wpC _ _ (execs _ _) _ _ _); with_reducible refine execsC_cons ?_; refine' wpC_For ?_ ?hs; (case hs => intro _; with_unfolding_all rfl)))
local macro_rules | `(tactic| walk_at "pyIter ref") => `(tactic| ((with_reducible show wpAny _ _ (pyIter (Value.ref _)) (fun _ _ => codeC _ _ _ _ _) _ _); (with_reducible rename IsRange _ _ _ _ _ _ _ _ => R9); refine wpAny_pyIter_range R9 ?hsmall ?_; (case hsmall => walk_at "c_small")))
local macro_rules | `(tactic| walk_at "wpC") => `(tactic| ((with_reducible show wpC _ _ (execs _ _) _ _ _); with_reducible refine execsC_cons ?_; refine' wpC_Return ?_; refine' evalC_method ?_ ?he; (case he => with_unfolding_all rfl)))
local macro_rules | `(tactic| walk_at "wpC") => `(tactic| ((with_reducible show wpC _ _ (execs _ _) _ _ _); with_reducible refine execsC_cons ?_; refine' wpC_Expr ?_ ?hi ?hs; (case hi => with_unfolding_all rfl); (case hs => with_unfolding_all rfl); refine' evalC_method ?_ ?he; (case he => with_unfolding_all rfl)))
local macro_rules | `(tactic| walk_at "wpC") => `(tactic| ((with_reducible show wpC _ _ (execs _ _) _ _ _); with_reducible refine execsC_cons ?_; refine' wpC_AssignAttr ?_ ?hs; (case hs => with_unfolding_all rfl)))
local macro_rules | `(tactic| walk_at "wpC") => `(tactic| ((with_reducible show wpC _ _ (execs _ _) _ _ _); with_reducible refine execsC_cons ?_; refine' wpC_AssignSub ?_ ?hs; (case hs => with_unfolding_all rfl)))
local macro_rules | `(tactic| walk_at "wpC") => `(tactic| ((with_reducible show wpC _ _ (eval _ _) _ _ _); refine' evalC_ifExp ?_))
local macro_rules | `(tactic| walk_at "wpC") => `(tactic| ((with_reducible show wpC _ _ (eval _ _) _ _ _); refine' evalC_call ?_ ?he; (case he => with_unfolding_all rfl)))
local macro_rules | `(tactic| walk_at "wpC") => `(tactic| ((with_reducible show wpC _ _ (callWith _ _ _ _ _) _ _ _); k_dflt (first | refine' callWithC_T0 ?_ | (refine' callWithC_K0 ?k1 ?k2 ?_; (case k1 => k_in); (case k2 => k_is); k_whole) | (refine' callWithC_K ?k1 ?k2 ?_; (case k1 => k_asm); (case k2 => k_is); k_whole))))
local macro_rules | `(tactic| walk_at "wpC") => `(tactic| (k_dflt (show wpC _ _ (call (Value.type "bytearray") []) _ _ _); (with_reducible rename Fr _ _ _ _ => F9); (with_reducible rename News _ _ _ _ => N9); (refine call_baN (s := ⟨_, _, _, _, _⟩) F9 N9 ?_); intro ba' h' F' N' l1; (try k_lt l1)))
local macro_rules | `(tactic| walk_at "wpC") => `(tactic| ((with_reducible show wpC _ _ (setItem (.ref _) (.ref _) (.bytes _ _)) _ _ _); (with_reducible rename Fr _ _ _ _ => F9); (with_reducible rename News _ _ _ _ => N9); refine setItem_N (s := ⟨_, _, _, _, _⟩) F9 N9 (by assumption) (by assumption) (by assumption) (by rw [sizeLine_eq]; omega) ?_; intro _ F' N'))
local macro_rules | `(tactic| walk_at "call builtin:len") => `(tactic| (k_here; (with_reducible show wpAny _ _ (call (Value.builtin "len") [Value.ref _]) _ _ _); (with_reducible rename News _ _ _ _ => N9); refine len_ba (bs := _) (News.get N9 (by repeat (first | exact List.Mem.head _ | apply List.Mem.tail))) (by omega) ?_; have N' := N9; clear N9))
local macro_rules | `(tactic| walk_at "call type:bytes") => `(tactic| (k_here; (with_reducible show wpAny _ _ (call (Value.type "bytes") [Value.ref _]) _ _ _); (with_reducible rename News _ _ _ _ => N9); refine call_bytes_ba (bs := _) (News.get N9 (by repeat (first | exact List.Mem.head _ | apply List.Mem.tail))) (by rw [sizeLine_eq]; first | omega | (simp only [List.size_toArray]; omega)) ?_; have N' := N9; clear N9))
local macro_rules | `(tactic| walk_at "binaryOp Pow int int") => `(tactic| (k_here; (with_reducible refine pow_int_small ?kb1 ?kb2 ?kb3 ?_); (case kb1 => decide); (case kb2 => decide); (case kb3 => decide)))
local macro_rules | `(tactic| walk_at "a_enter") => `(tactic| (k_dflt (refine' callA_def ?kBL ?k1 ?k2 ?k3 ?k4 ?k5 ?kA ?kF ?kK ?k6 ?k7 ?k8 ?k9 ?kB ?_ ?c5 ?c2 ?c3 ?c4; (case kBL => assumption); (case kA => exact rfl); (case kF => exact rfl); (case kK => assumption); (case k1 => k_asm); (case k2 => k_asm); (case k3 => k_asm); (case k4 => k_asm); (case k5 => k_asm); (case k6 => k_is); (case k7 => k_is); (case k8 => ktr_room); (case k9 => first | exact BindsTo.of_eq rfl | exact binds_K (by k_in) rfl (by k_is) rfl rfl rfl | (refine' kp_binds ?kx ?ke; (case kx => k_in); (case ke => exact fun _ => rfl))); (case kB => exact locs rfl); (case c5 => decide); (case c2 => exact rfl); (case c3 => exact rfl); (case c4 => exact rfl); k_whole; intro g' L' h' tk' FG' F' N' B' X' T' l1; (try k_lt l1); (try dsimp only))))
local macro_rules | `(tactic| walk_at "call ref") => `(tactic| (k_here; (k_dflt (show wpAny _ _ (call (Value.ref 897) [.int _ _]) _ _ _)); (with_reducible rename Fr _ _ _ _ => F9); (with_reducible rename News _ _ _ _ => N9); (k_dflt (refine' number_c (s := ⟨_, _, _, _, _⟩) ?b1 F9 ?b2 ?b3 N9 ?b4 ?b5 ?b6 ?_; (case b1 => k_asm); (case b2 => k_asm); (case b3 => k_asm); (case b4 => exact rfl); (case b5 => ktr_room); (case b6 => k_units); k_whole)); intro h' t' tk' F' N'))
local macro_rules | `(tactic| walk_at "subscriptTail Name BinOp ref int") => `(tactic| (k_here; (with_reducible show wpAny _ _ (subscriptTail _ _ (Value.ref _) (Value.int _ _)) _ _ _); (with_reducible rename News _ _ _ _ => N9); k_dflt (refine' item_ints N9 ?hm ?hi ?h0 ?h1 ?h2 ?_ ?hs ?ht; (case hs => with_unfolding_all rfl); (case ht => (intro _; with_unfolding_all rfl)); (case hm => repeat (first | exact List.Mem.head _ | apply List.Mem.tail)); (case hi => assumption); (case h0 => exact IdxOk.a (by assumption) (by assumption) (by assumption)); (case h1 => exact IdxOk.b (by assumption) (by assumption) (by assumption)); (case h2 => exact IdxOk.c (by assumption) (by assumption) (by assumption))); intro u'; have N' := N9; clear N9))
local macro_rules | `(tactic| walk_at "eval Name") => `(tactic| (k_here; (with_reducible rename Fr _ _ _ _ => kF); k_dflt (refine' nameX_L kF ?hv ?_ ?hk ?hx ?hd; (case hk => rfl); (case hx => rfl); (case hd => decide); (case hv => assumption); k_whole)))
/-- none of the cells -/
def OffC (L a : Addr) : Prop := @Ne Nat a (L + 1) ∧ @Ne Nat a (L + 1 + 1) ∧ @Ne Nat a (L + 1 + 1 + 1) ∧ @Ne Nat a (L + 1 + 1 + 1 + 1) ∧ @Ne Nat a (L + 1 + 1 + 1 + 1 + 1)
theorem number_in (n : Int) : In64 (lawNumber n) := by
  unfold lawNumber In64
  have e1 : (2 : Int) ^ Int.toNat 64 = 18446744073709551616 := by decide +kernel
  have e2 : (2 : Int) ^ Int.toNat 63 = 9223372036854775808 := by decide +kernel
  rw [e1, e2]
  have m1 := Int.fmod_nonneg_of_pos n (show (0 : Int) < 18446744073709551616 by decide)
  have m2 := Int.fmod_lt_of_pos n (show (0 : Int) < 18446744073709551616 by decide)
  have ed : ∀ k : Nat, -9223372036854775808 ≤ edgesL.getD k 0 ∧ edgesL.getD k 0 ≤ 18446744073709551615 := by
    intro k
    by_cases h : k < 20
    · have all : ∀ k : Fin 20, -9223372036854775808 ≤ edgesL.getD k.1 0 ∧ edgesL.getD k.1 0 ≤ 18446744073709551615 := by decide +kernel
      exact all ⟨k, h⟩
    · have e : edgesL.getD k 0 = 0 := by rw [List.getD_eq_getElem?_getD, List.getElem?_eq_none (by show 20 ≤ k; omega)]; rfl
      rw [e]
      decide
  have e3 := ed ((n.fdiv 3).fmod 20).toNat
  generalize edgesL.getD ((n.fdiv 3).fmod 20).toNat 0 = v at *
  split
  · split
    · exact e3
    · split <;> omega
  · split <;> omega
def RowsInv (L I RA NA : Addr) (o1 o2 o4 o5 : Obj) (sz : Nat) (tsz : Tok) (nv : List Value) (nn : Nat) (k : Nat) (m : Str → Option Value) (w : List (Addr × Obj)) : Prop :=
  ∃ rs j rest, m (Str.ofString "size") = some (.int sz tsz) ∧ w = (RA, listOf (List.toArray rs) j) :: (NA, listOf nv.toArray nn) :: (L + 1 + 1 + 1 + 1 + 1, o5) :: (L + 1 + 1 + 1 + 1, o4) :: (L + 1 + 1, o2) :: (L + 1, o1) :: rest ∧ rs.length = k ∧ RowsIn sz rs rest ∧
    ∀ q ∈ rest, (q.1 ≠ RA ∧ q.1 ≠ I) ∧ OffC L q.1
theorem news_swap {g h : Heap} {L : Addr} {a b c d e i k l : Addr × Obj} {y : Addr × Obj} {r : List (Addr × Obj)} (N : News g L h (a :: b :: c :: d :: e :: i :: k :: l :: y :: r)) : News g L h (b :: c :: d :: e :: i :: k :: l :: y :: a :: r) := fun q hq => N q (by
  simp only [List.mem_cons] at hq ⊢
  rcases hq with h | h | h | h | h | h | h | h | h | h <;> simp [h])
theorem news_swap2 {g h : Heap} {L : Addr} {a b c d e i k l : Addr × Obj} {y z : Addr × Obj} {r : List (Addr × Obj)} (N : News g L h (a :: b :: c :: d :: e :: i :: k :: l :: y :: z :: r)) : News g L h (b :: c :: d :: e :: i :: k :: l :: y :: a :: r) := fun q hq => N q (by
  simp only [List.mem_cons] at hq ⊢
  rcases hq with h | h | h | h | h | h | h | h | h | h <;> simp [h])
theorem news_dup {g h : Heap} {L : Addr} {a b c d e i k l y : Addr × Obj} {z : Addr × Obj} {r : List (Addr × Obj)} (hz : z ∈ r) (N : News g L h (a :: b :: c :: d :: e :: i :: k :: l :: y :: r)) : News g L h (a :: b :: c :: d :: e :: i :: k :: l :: y :: z :: r) := fun q hq => N q (by
  simp only [List.mem_cons] at hq ⊢
  rcases hq with h | h | h | h | h | h | h | h | h | h | h
  any_goals (simp [h]; done)
  subst h
  simp [hz])
theorem off1_all {D : Addr} {r : List (Addr × Obj)} (h : LCg.Off1 D r) : ∀ q ∈ r, q.1 ≠ D := by
  induction r with
  | nil => exact fun q hq => nomatch hq
  | cons a r ih =>
    intro q hq
    rcases List.mem_cons.mp hq with rfl | hq
    · exact h.1
    · exact ih h.2 q hq
set_option maxRecDepth 100000 in
set_option maxHeartbeats 4000000 in
theorem rows_turn {prog : Program} {w : World} {mg mb : Str → Option Value} {p : Program} {loose : List Str} {mean : ExcName → Option Value} {s₁ : Shared} {h0 : Heap} {L : Addr} {m : Str → Option Value} {k : Nat} {tk : Tok} {sz : Nat} {tsz : Tok}
    {I RA NA : Addr} {o1 o2 o3 o4 o5 : Obj} {nn : Nat} {nv : List Value} {nums : List Int} {w₁ : List (Addr × Obj)}
    (X : (Mine.hd.heap_39 w.params).In h0) (T : Top p loose mean mg mb h0) (B : Below callerA h0 [] h0)
    (F : Fr h0 L s₁.heap m) (N : News h0 L s₁.heap ((I, rIt ((k : Int) + 1) (((3 : Nat) : Int) - k - 1)) :: (L + 1 + 1 + 1, o3) :: w₁))
    (hI : RowsInv L I RA NA o1 o2 o4 o5 sz tsz nv nn k m w₁) (hsz5 : sz ≤ 5) (hk : k < 3) (hnv : IntsAre nv nums) (hnn : 20 ≤ nums.length) (hnn2 : nums.length ≤ 40)
    (d3 : o3.data = .cell (some (.int k tk))) (d2 : o2.data = .cell (some (.ref RA))) (d1 : o1.data = .cell (some (.ref NA)))
    (l1 : @LT.lt Nat _ (L + 1 + 1 + 1 + 1 + 1) NA) (l2 : @LT.lt Nat _ NA RA) (l3 : @LT.lt Nat _ RA I) :
    wpC (model prog w) (callerA.deeper (lawE L)) (execs rowsS.1 (lawE L)) (TurnEnd fun s₄ => ∃ h t m' w' o' v', s₄ = { s₁ with heap := h, toks := t } ∧ RowsInv L I RA NA o1 o2 o4 o5 sz tsz nv nn (k + 1) m' w' ∧ o'.data = .cell v' ∧ Fr h0 L h m' ∧ News h0 L h ((I, rIt ((k : Int) + 1) (((3 : Nat) : Int) - k - 1)) :: (L + 1 + 1 + 1, o') :: w')) nE s₁ := by
  walk_at "c_fill"
  obtain ⟨hp, gs, dr, tks, os⟩ := s₁
  obtain ⟨rs, j, rest, hsz, rfl, hrs, hR, hr⟩ := hI
  dsimp only at F N
  have hidx := IdxOk.mk hk hsz5 hnn
  dsimp only [rowsS, lawE, lawScS]
  iterate 36 (first | (k_unfold; (try dsimp only)) | walk1 | (dsimp only; walk1))
  rename Fr _ _ _ (fun z => if z = Str.ofString "row" then _ else _) => F9
  rename News _ _ _ ((_, LCg.lst _) :: _) => N9
  rename IntsAre _ (List.map _ _) => q1
  rename (I ≠ _ ∧ _) => o9
  have hlen : (List.map (fun k' => lawNumber (nums.getD (2 + 5 * (k : Int) + k').toNat 0)) (rangeKs 0 ((sz : Int) - 0).toNat)).length = sz := by
    rw [List.length_map, rangeKs_length]; omega
  have hin : ∀ i ∈ List.map (fun k' => lawNumber (nums.getD (2 + 5 * (k : Int) + k').toNat 0)) (rangeKs 0 ((sz : Int) - 0).toNat), In64 i := by
    intro i hi
    obtain ⟨x, -, rfl⟩ := List.mem_map.mp hi
    exact number_in _
  generalize List.map (fun k' => lawNumber (nums.getD (2 + 5 * (k : Int) + k').toNat 0)) (rangeKs 0 ((sz : Int) - 0).toNat) = ns at *
  have hoff := off1_all o9.2.2.2.2.2.2.2.2
  have hsz2 : ∀ v : Option Value, (fun z => if z = Str.ofString "row" then v else m z) (Str.ofString "size") = some (.int sz tsz) := by
    intro v
    show (if Str.ofString "size" = Str.ofString "row" then _ else m (Str.ofString "size")) = _
    rw [if_neg (by decide)]; exact hsz
  have hro : ∀ q ∈ rest, q.1 ≠ RA := fun q hq => (hr q hq).1.1
  rcases List.eq_nil_or_concat rs with rfl | ⟨rs', x, rfl⟩
  · refine row_if0 (s₁ := ⟨_, _, _, _, _⟩) X T B F9 N9 (hsz2 _) (if_pos rfl) hsz5 hk hnv hnn hnn2 q1 hlen d3 d2 d1 l1 l2 l3 o9.2.2.1 (Nat.lt_trans l1 (Nat.lt_trans l2 l3)) hro fun h' t j' F' N' => ⟨rfl, h', t, _, _, o3, _, rfl, ?_, d3, F', news_swap N'⟩
    refine ⟨[_], j', _ :: rest, hsz2 _, rfl, ?_, ?_, ?_⟩
    · rw [← hrs]; rfl
    · intro v hv
      obtain rfl := List.mem_singleton.mp hv
      exact ⟨_, _, _, ns, rfl, .head _, q1, hlen, hin⟩
    · intro q hq
      rcases List.mem_cons.mp hq with rfl | hq
      · exact ⟨⟨o9.2.2.1.symm, o9.1.symm⟩, o9.2.2.2.2.2.2.2.1.symm, o9.2.2.2.2.2.2.1.symm, o9.2.1.symm, o9.2.2.2.2.2.1.symm, o9.2.2.2.2.1.symm⟩
      · exact hr q hq
  · rw [List.concat_eq_append] at *
    obtain ⟨R0, rv, lr, rn, rfl, hmem, hrv, hrn, hrin⟩ := hR x (by simp)
    have hrl : rs'.length ≤ 3 := by rw [List.length_append] at hrs; simp at hrs; omega
    refine row_if (s₁ := ⟨_, _, _, _, _⟩) X T B F9 (news_dup hmem N9) (hsz2 _) (if_pos rfl) hsz5 hk hnv hnn hnn2 q1 hlen hrv hrn hrl d3 d2 d1 l1 l2 l3 o9.2.2.1 (hro _ hmem).symm (Nat.lt_trans l1 (Nat.lt_trans l2 l3)) hro fun h' t m' D' ws ms j' hm' hws hms hin' hI' hR' F' N' => ⟨rfl, h', t, _, _, o3, _, rfl, ⟨(rs' ++ [Value.ref R0]) ++ [Value.ref D'], j', _ :: rest, hm', rfl, ?_, ?_, ?_⟩, d3, F', news_swap2 N'⟩
    · rw [List.length_append, hrs]; rfl
    · intro v hv
      rcases List.mem_append.mp hv with hv | hv
      · obtain ⟨r, vs, ln, zs, e, hm, hi, ho⟩ := hR v hv
        exact ⟨r, vs, ln, zs, e, .tail _ hm, hi, ho⟩
      · obtain rfl := List.mem_singleton.mp hv
        refine ⟨_, _, _, ms, rfl, .head _, hws, hms, fun i hi => ?_⟩
        rcases hin' i hi with h | h
        · exact hrin i h
        · exact hin i h
    · intro q hq
      rcases List.mem_cons.mp hq with rfl | hq
      · have l4 := Nat.lt_trans l1 (Nat.lt_trans l2 (Nat.lt_trans l3 hI'))
        refine ⟨⟨Nat.ne_of_gt hR', Nat.ne_of_gt hI'⟩, ?_, ?_, ?_, ?_, ?_⟩ <;> omega
      · exact hr q hq
end Mine
end
section
open PySem PySem.W PyProof.Rows PySem.Calls
open PySem.Sem (wp)
set_option maxRecDepth 100000
namespace Mine
theorem topOffX5 : True := by
  w_top off
  trivial
local macro_rules | `(tactic| walk_at "c_none") => `(tactic| skip)
local macro_rules | `(tactic| k_all) => `(tactic| assumption)
local macro_rules | `(tactic| k_room) => `(tactic| ktr_room)
local macro_rules | `(tactic| k_units) => `(tactic| first | ktr_units | ((try dsimp only); (try simp only [units_make, units_deeper, units_in1, Around.mark_units]); omega))
local macro_rules | `(tactic| walk_at "c_fill") => `(tactic| (have kf : PySem.Challenge.rw_fg0013_01 = PySem.Challenge.rw_fg0013_01 ∧ Mine.hd.heap_39 = Mine.hd.heap_39 := (by k_fill; exact ⟨rfl, rfl⟩)); clear kf)
local macro_rules | `(tactic| walk_at "c_enter") => `(tactic| (k_dflt (refine' callC_def ?kBL ?k1 ?k2 ?k3 ?k4 ?k5 ?kA ?kF ?kK ?k6 ?k7 ?k8 ?k9 ?kB ?_ ?c5 ?c2 ?c3 ?c4; (case kBL => assumption); (case kA => exact rfl); (case kF => exact rfl); (case kK => assumption); (case k1 => k_asm); (case k2 => k_asm); (case k3 => k_asm); (case k4 => k_asm); (case k5 => k_asm); (case k6 => k_is); (case k7 => k_is); (case k8 => ktr_room); (case k9 => first | exact BindsTo.of_eq rfl | exact binds_K (by k_in) rfl (by k_is) rfl rfl rfl | (refine' kp_binds ?kx ?ke; (case kx => k_in); (case ke => exact fun _ => rfl))); (case kB => exact locs rfl); (case c5 => decide); (case c2 => exact rfl); (case c3 => exact rfl); (case c4 => exact rfl); k_whole; intro g' L' h' tk' FG' F' N' B' X' T' l1; (try k_lt l1); (try dsimp only))))
local macro_rules | `(tactic| walk_at "c_enter2") => `(tactic| (k_dflt (refine' callC_def ?kBL ?k1 ?k2 ?k3 ?k4 ?k5 ?kA ?kF ?kK ?k6 ?k7 ?k8 ?k9 ?kB ?_ ?c5 ?c2 ?c3 ?c4; (case kA => exact rfl); (case kF => exact rfl); (case kK => exact rfl); (case k1 => k_asm); (case k2 => k_asm); (case k3 => k_asm); (case k4 => k_asm); (case k5 => k_asm); (case k6 => k_is); (case k7 => k_is); (case k8 => ktr_room); (case k9 => first | exact BindsTo.of_eq rfl | exact binds_K (by k_in) rfl (by k_is) rfl rfl rfl | (refine' kp_binds ?kx ?ke; (case kx => k_in); (case ke => exact fun _ => rfl))); (case kB => exact locs rfl); (case kBL => exact bl _); (case c5 => decide); (case c2 => exact rfl); (case c3 => exact rfl); (case c4 => exact rfl); k_whole; intro g' L' h' tk' FG' F' N' B' X' T' l1; (try k_lt l1); (try dsimp only))))
local macro_rules | `(tactic| walk_at "c_both") => `(tactic| (k_dflt (refine' kp_both ?k1 ?k2 ?k3 ?k4 ?k5 ?kA ?kF ?kK ?k6 ?k7 ?k8 ?kV ?kX ?kQ ?kM ?kN ?kD ?kR ?kP ?kS ?kT ?kB ?_ ?c2 ?c3 ?c4 ?c5; (case kA => exact rfl); (case kF => exact rfl); (case kK => assumption); (case k1 => k_asm); (case k2 => k_asm); (case k3 => k_asm); (case k4 => k_asm); (case k5 => k_asm); (case k6 => k_is); (case k7 => k_is); (case k8 => ktr_room); (case kV => kp_lit); (case kX => kp_lit); (case kQ => exact rfl); (case kM => exact rfl); (case kN => exact rfl); (case kD => kp_flats); (case kR => exact rfl); (case kP => exact rfl); (case kS => exact fun _ => rfl); (case kT => exact fun _ _ => rfl); (case kB => exact fun _ _ => locs rfl); (case c5 => decide); (case c2 => exact rfl); (case c3 => exact rfl); (case c4 => exact rfl); k_whole; intro C' D' o' g' L' h' tk' l1 l2 lo' hs' fs' FG' F' N' B' X' T'; (try k_lt l1); (try k_lt2 l2); (try dsimp only))))
local macro_rules | `(tactic| walk_at "call type:type") => `(tactic| (k_here; (with_reducible show wpAny _ _ (call (Value.type "type") [Value.bytes _ _]) _ _ _); refine call_type_of (Tx := "bytes") rfl (by decide +kernel) ?_))
local macro_rules | `(tactic| walk_at "wpC") => `(tactic| (with_reducible refine wpC_any ?_))
local macro_rules | `(tactic| walk_at "wpC") => `(tactic| (with_reducible refine execsC_any ?_))
local macro_rules | `(tactic| walk_at "wpC") => `(tactic| (refine' execsC_nil ?_))
local macro_rules | `(tactic| walk_at "wpC") => `(tactic| ((with_reducible show wpC _ _ (execs _ _) _ _ _); with_reducible refine execsC_cons ?_; refine' wpC_If ?_))
local macro_rules | `(tactic| walk_at "wpC") => `(tactic| ((with_reducible show wpC _ _ (execs _ _) _ _ _); with_reducible refine execsC_cons ?_; refine' wpC_While ?_; refine' codeC_while ?_))
local macro_rules | `(tactic| walk_at "wpC") => `(tactic| ((with_reducible show wpC _ _ (execs _ _) _ _ _); with_reducible refine execsC_cons ?_; refine' wpC_Try ?_))
local macro_rules | `(tactic| walk_at "wpC") => `(tactic| ((with_reducible show wpC _ _ (execs _ _) _ _ _); with_reducible refine execsC_cons ?_; refine' wpC_For ?_ ?hs; (case hs => intro _; with_unfolding_all rfl)))
local macro_rules | `(tactic| walk_at "pyIter ref") => `(tactic| ((with_reducible show wpAny _ _ (pyIter (Value.ref _)) (fun _ _ => codeC _ _ _ _ _) _ _); (with_reducible rename IsRange _ _ _ _ _ _ _ _ => R9); refine wpAny_pyIter_range R9 ?hsmall ?_; (case hsmall => walk_at "c_small")))
local macro_rules | `(tactic| walk_at "wpC") => `(tactic| ((with_reducible show wpC _ _ (execs _ _) _ _ _); with_reducible refine execsC_cons ?_; refine' wpC_Return ?_; refine' evalC_method ?_ ?he; (case he => with_unfolding_all rfl)))
local macro_rules | `(tactic| walk_at "wpC") => `(tactic| ((with_reducible show wpC _ _ (execs _ _) _ _ _); with_reducible refine execsC_cons ?_; refine' wpC_Expr ?_ ?hi ?hs; (case hi => with_unfolding_all rfl); (case hs => with_unfolding_all rfl); refine' evalC_method ?_ ?he; (case he => with_unfolding_all rfl)))
local macro_rules | `(tactic| walk_at "wpC") => `(tactic| ((with_reducible show wpC _ _ (execs _ _) _ _ _); with_reducible refine execsC_cons ?_; refine' wpC_AssignAttr ?_ ?hs; (case hs => with_unfolding_all rfl)))
local macro_rules | `(tactic| walk_at "wpC") => `(tactic| ((with_reducible show wpC _ _ (execs _ _) _ _ _); with_reducible refine execsC_cons ?_; refine' wpC_AssignSub ?_ ?hs; (case hs => with_unfolding_all rfl)))
local macro_rules | `(tactic| walk_at "wpC") => `(tactic| ((with_reducible show wpC _ _ (eval _ _) _ _ _); refine' evalC_ifExp ?_))
local macro_rules | `(tactic| walk_at "wpC") => `(tactic| ((with_reducible show wpC _ _ (eval _ _) _ _ _); refine' evalC_call ?_ ?he; (case he => with_unfolding_all rfl)))
local macro_rules | `(tactic| walk_at "wpC") => `(tactic| ((with_reducible show wpC _ _ (callWith _ _ _ _ _) _ _ _); k_dflt (first | refine' callWithC_T0 ?_ | (refine' callWithC_K0 ?k1 ?k2 ?_; (case k1 => k_in); (case k2 => k_is); k_whole) | (refine' callWithC_K ?k1 ?k2 ?_; (case k1 => k_asm); (case k2 => k_is); k_whole))))
local macro_rules | `(tactic| walk_at "wpC") => `(tactic| (k_dflt (show wpC _ _ (call (Value.type "bytearray") []) _ _ _); (with_reducible rename Fr _ _ _ _ => F9); (with_reducible rename News _ _ _ _ => N9); (refine call_baN (s := ⟨_, _, _, _, _⟩) F9 N9 ?_); intro ba' h' F' N' l1; (try k_lt l1)))
local macro_rules | `(tactic| walk_at "wpC") => `(tactic| ((with_reducible show wpC _ _ (setItem (.ref _) (.ref _) (.bytes _ _)) _ _ _); (with_reducible rename Fr _ _ _ _ => F9); (with_reducible rename News _ _ _ _ => N9); refine setItem_N (s := ⟨_, _, _, _, _⟩) F9 N9 (by assumption) (by assumption) (by assumption) (by rw [sizeLine_eq]; omega) ?_; intro _ F' N'))
local macro_rules | `(tactic| walk_at "call builtin:len") => `(tactic| (k_here; (with_reducible show wpAny _ _ (call (Value.builtin "len") [Value.ref _]) _ _ _); (with_reducible rename News _ _ _ _ => N9); refine len_ba (bs := _) (News.get N9 (by repeat (first | exact List.Mem.head _ | apply List.Mem.tail))) (by omega) ?_; have N' := N9; clear N9))
local macro_rules | `(tactic| walk_at "call type:bytes") => `(tactic| (k_here; (with_reducible show wpAny _ _ (call (Value.type "bytes") [Value.ref _]) _ _ _); (with_reducible rename News _ _ _ _ => N9); refine call_bytes_ba (bs := _) (News.get N9 (by repeat (first | exact List.Mem.head _ | apply List.Mem.tail))) (by rw [sizeLine_eq]; first | omega | (simp only [List.size_toArray]; omega)) ?_; have N' := N9; clear N9))
local macro_rules | `(tactic| walk_at "binaryOp Pow int int") => `(tactic| (k_here; (with_reducible refine pow_int_small ?kb1 ?kb2 ?kb3 ?_); (case kb1 => decide); (case kb2 => decide); (case kb3 => decide)))
local macro_rules | `(tactic| walk_at "a_enter") => `(tactic| (k_dflt (refine' callA_def ?kBL ?k1 ?k2 ?k3 ?k4 ?k5 ?kA ?kF ?kK ?k6 ?k7 ?k8 ?k9 ?kB ?_ ?c5 ?c2 ?c3 ?c4; (case kBL => assumption); (case kA => exact rfl); (case kF => exact rfl); (case kK => assumption); (case k1 => k_asm); (case k2 => k_asm); (case k3 => k_asm); (case k4 => k_asm); (case k5 => k_asm); (case k6 => k_is); (case k7 => k_is); (case k8 => ktr_room); (case k9 => first | exact BindsTo.of_eq rfl | exact binds_K (by k_in) rfl (by k_is) rfl rfl rfl | (refine' kp_binds ?kx ?ke; (case kx => k_in); (case ke => exact fun _ => rfl))); (case kB => exact locs rfl); (case c5 => decide); (case c2 => exact rfl); (case c3 => exact rfl); (case c4 => exact rfl); k_whole; intro g' L' h' tk' FG' F' N' B' X' T' l1; (try k_lt l1); (try dsimp only))))
local macro_rules | `(tactic| walk_at "call ref") => `(tactic| (k_here; (k_dflt (show wpAny _ _ (call (Value.ref 897) [.int _ _]) _ _ _)); (with_reducible rename Fr _ _ _ _ => F9); (with_reducible rename News _ _ _ _ => N9); (k_dflt (refine' number_c (s := ⟨_, _, _, _, _⟩) ?b1 F9 ?b2 ?b3 N9 ?b4 ?b5 ?b6 ?_; (case b1 => k_asm); (case b2 => k_asm); (case b3 => k_asm); (case b4 => exact rfl); (case b5 => ktr_room); (case b6 => k_units); k_whole)); intro h' t' tk' F' N'))
local macro_rules | `(tactic| walk_at "subscriptTail Name BinOp ref int") => `(tactic| (k_here; (with_reducible show wpAny _ _ (subscriptTail _ _ (Value.ref _) (Value.int _ _)) _ _ _); (with_reducible rename News _ _ _ _ => N9); k_dflt (refine' item_ints N9 ?hm ?hi ?h0 ?h1 ?h2 ?_ ?hs ?ht; (case hs => with_unfolding_all rfl); (case ht => (intro _; with_unfolding_all rfl)); (case hm => repeat (first | exact List.Mem.head _ | apply List.Mem.tail)); (case hi => assumption); (case h0 => exact IdxOk.a (by assumption) (by assumption) (by assumption)); (case h1 => exact IdxOk.b (by assumption) (by assumption) (by assumption)); (case h2 => exact IdxOk.c (by assumption) (by assumption) (by assumption))); intro u'; have N' := N9; clear N9))
local macro_rules | `(tactic| walk_at "eval Name") => `(tactic| (k_here; (with_reducible rename Fr _ _ _ _ => kF); k_dflt (refine' nameX_L kF ?hv ?_ ?hk ?hx ?hd; (case hk => rfl); (case hx => rfl); (case hd => decide); (case hv => assumption); k_whole)))
theorem range_start {prog : Program} {w : World} {A : Around} {E : Value → Shared → Prop} {s : Shared} {g : Heap} {L r : Addr} {m : Str → Option Value} {n : Nat} {t u v : Tok} {news : List (Addr × Obj)} {Q : Value → Shared → Prop} (R : IsRange s.heap r 0 ((n : Nat) : Int) 1 t u v) (hn : n ≤ 15) (F : Fr g L s.heap m) (N : News g L s.heap news)
    (h : ∀ I h', Fr g L h' m → News g L h' ((I, rIt 0 n) :: news) → (∀ q ∈ news, @LT.lt Nat _ q.1 I) → Q (.ref I) { s with heap := h' }) : wpAny (model prog w) A (pyIter (.ref r)) Q E s := by
  refine wpAny_pyIter_range R (small_n hn) ?_
  rw [size_n hn]
  have up : ∀ b o, s.heap.get? b = some o → (s.heap.push (rIt 0 n)).get? b = some o := fun b o e => Heap.get?_push_of_some _ e
  refine h s.heap.objs.size _ (F.keeps up) (fun q hq => ?_) fun q hq => Heap.lt_size (N q hq).1
  rcases List.mem_cons.mp hq with rfl | hq
  · exact ⟨Heap.get?_push_size _ rfl, Nat.ne_of_gt F.ns.lt, next_is_new F⟩
  · exact ⟨up _ _ (N q hq).1, (N q hq).2⟩
/-- where the law stands ahead of its loops -/
def NumOk (nv : List Value) (nums : List Int) : Prop := IntsAre nv nums ∧ 20 ≤ nums.length ∧ nums.length ≤ 40
set_option maxRecDepth 100000 in
set_option maxHeartbeats 4000000 in
theorem law_rows {prog : Program} {w : World} {mg mb : Str → Option Value} {p : Program} {loose : List Str} {mean : ExcName → Option Value} {s : Shared} {h0 : Heap} {L : Addr} {m : Str → Option Value} {sz : Nat} {tsz : Tok}
    {RA NA : Addr} {o1 o2 o3 o4 o5 : Obj} {v3 : Option Value} {j nn : Nat} {nv : List Value} {nums : List Int} {Q : Flow → Shared → Prop}
    (X : (Mine.hd.heap_39 w.params).In h0) (T : Top p loose mean mg mb h0) (B : Below callerA h0 [] h0)
    (F : Fr h0 L s.heap m) (N : News h0 L s.heap ((L + 1 + 1 + 1, o3) :: (RA, listOf #[] j) :: (NA, listOf nv.toArray nn) :: (L + 1 + 1 + 1 + 1 + 1, o5) :: (L + 1 + 1 + 1 + 1, o4) :: (L + 1 + 1, o2) :: (L + 1, o1) :: []))
    (hsz : m (Str.ofString "size") = some (.int sz tsz)) (hsz5 : sz ≤ 5) (hn : NumOk nv nums)
    (d3 : o3.data = .cell v3) (d2 : o2.data = .cell (some (.ref RA))) (d1 : o1.data = .cell (some (.ref NA)))
    (l1 : @LT.lt Nat _ (L + 1 + 1 + 1 + 1 + 1) NA) (l2 : @LT.lt Nat _ NA RA)
    (ret : ∀ h t m' w' o3' v3' I, RowsInv L I RA NA o1 o2 o4 o5 sz tsz nv nn 3 m' w' → o3'.data = .cell v3' → Fr h0 L h m' → News h0 L h ((L + 1 + 1 + 1, o3') :: w') → wpC (model prog w) (callerA.deeper (lawE L)) (execs (lawS.1.drop 4) (lawE L)) Q nE { s with heap := h, toks := t }) :
    wpC (model prog w) (callerA.deeper (lawE L)) (execs (lawS.1.drop 3) (lawE L)) Q nE s := by
  walk_at "c_fill"
  obtain ⟨hp, gs, dr, tks, os⟩ := s
  dsimp only at F N
  dsimp only [lawS, lawE, lawScS, List.drop]
  k_steps
  (with_reducible rename IsRange _ _ _ _ _ _ _ _ => R9); (with_reducible rename Fr _ _ _ _ => F9); (with_reducible rename News _ _ _ _ => N9)
  refine range_start (n := 3) R9 (by decide) F9 N9 fun I h1 F1 N1 lI => ?_
  have l3 : @LT.lt Nat _ RA I := lI _ (.tail _ (.head _))
  have hRA := fun q hq => (N1 q hq).2
  refine' forC_cell (n := 3) (c := L + 1 + 1 + 1) (RowsInv L I RA NA o1 o2 o4 o5 sz tsz nv nn) rfl rfl ?hx ?hc ?hlet F1 N1 ?hI d3 ?hcI ?hap ?turn ?fin
  case hx => exact rfl
  case hc => exact rfl
  case hlet => intro _; with_unfolding_all rfl
  case hI => exact ⟨[], j, [], hsz, rfl, rfl, fun v hv => (nomatch hv), fun q hq => (nomatch hq)⟩
  case hcI => exact Nat.ne_of_lt (lI _ (.head _))
  case hap =>
    rintro k m2 w2 ⟨rs, j2, rest, -, rfl, -, -, hr⟩ q hq
    simp only [List.mem_cons] at hq
    rcases hq with rfl | rfl | rfl | rfl | rfl | rfl | hq
    · exact ⟨Nat.ne_of_lt l3, Nat.ne_of_gt (by omega)⟩
    · exact ⟨Nat.ne_of_lt (Nat.lt_trans l2 l3), Nat.ne_of_gt (by omega)⟩
    · refine ⟨?_, ?_⟩ <;> (show @Ne Nat _ _; omega)
    · refine ⟨?_, ?_⟩ <;> (show @Ne Nat _ _; omega)
    · refine ⟨?_, ?_⟩ <;> (show @Ne Nat _ _; omega)
    · refine ⟨?_, ?_⟩ <;> (show @Ne Nat _ _; omega)
    · exact ⟨(hr q hq).1.2, (hr q hq).2.2.2.1⟩
  case turn =>
    rintro k tk m2 w2 o s2 hk hI2 ho F2 N2 ⟨h2, t2, rfl⟩
    exact rows_turn X T B F2 N2 hI2 hsz5 hk hn.1 hn.2.1 hn.2.2 ho d2 d1 l1 l2 l3
  case fin =>
    intro h2 t2 m2 w2 o v hI2 ho F2 N2
    exact ret _ _ _ _ _ _ _ hI2 ho F2 N2
end Mine
end
section
open PySem PySem.W PyProof.Rows PySem.Calls
open PySem.Sem (wp)
set_option maxRecDepth 100000
namespace Mine
theorem topOffX6 : True := by
  w_top off
  trivial
local macro_rules | `(tactic| k_all) => `(tactic| assumption)
local macro_rules | `(tactic| k_room) => `(tactic| ktr_room)
local macro_rules | `(tactic| k_units) => `(tactic| first | ktr_units | ((try dsimp only); (try simp only [units_make, units_deeper, units_in1, Around.mark_units]); omega))
local macro_rules | `(tactic| walk_at "c_fill") => `(tactic| (have kf : PySem.Challenge.rw_fg0013_01 = PySem.Challenge.rw_fg0013_01 ∧ Mine.hd.heap_39 = Mine.hd.heap_39 := (by k_fill; exact ⟨rfl, rfl⟩)); clear kf)
local macro_rules | `(tactic| walk_at "c_enter") => `(tactic| (k_dflt (refine' callC_def ?kBL ?k1 ?k2 ?k3 ?k4 ?k5 ?kA ?kF ?kK ?k6 ?k7 ?k8 ?k9 ?kB ?_ ?c5 ?c2 ?c3 ?c4; (case kBL => assumption); (case kA => exact rfl); (case kF => exact rfl); (case kK => assumption); (case k1 => k_asm); (case k2 => k_asm); (case k3 => k_asm); (case k4 => k_asm); (case k5 => k_asm); (case k6 => k_is); (case k7 => k_is); (case k8 => ktr_room); (case k9 => first | exact BindsTo.of_eq rfl | exact binds_K (by k_in) rfl (by k_is) rfl rfl rfl | (refine' kp_binds ?kx ?ke; (case kx => k_in); (case ke => exact fun _ => rfl))); (case kB => exact locs rfl); (case c5 => decide); (case c2 => exact rfl); (case c3 => exact rfl); (case c4 => exact rfl); k_whole; intro g' L' h' tk' FG' F' N' B' X' T' l1; (try k_lt l1); (try dsimp only))))
local macro_rules | `(tactic| walk_at "c_enter2") => `(tactic| (k_dflt (refine' callC_def ?kBL ?k1 ?k2 ?k3 ?k4 ?k5 ?kA ?kF ?kK ?k6 ?k7 ?k8 ?k9 ?kB ?_ ?c5 ?c2 ?c3 ?c4; (case kA => exact rfl); (case kF => exact rfl); (case kK => exact rfl); (case k1 => k_asm); (case k2 => k_asm); (case k3 => k_asm); (case k4 => k_asm); (case k5 => k_asm); (case k6 => k_is); (case k7 => k_is); (case k8 => ktr_room); (case k9 => first | exact BindsTo.of_eq rfl | exact binds_K (by k_in) rfl (by k_is) rfl rfl rfl | (refine' kp_binds ?kx ?ke; (case kx => k_in); (case ke => exact fun _ => rfl))); (case kB => exact locs rfl); (case kBL => exact bl _); (case c5 => decide); (case c2 => exact rfl); (case c3 => exact rfl); (case c4 => exact rfl); k_whole; intro g' L' h' tk' FG' F' N' B' X' T' l1; (try k_lt l1); (try dsimp only))))
local macro_rules | `(tactic| walk_at "c_both") => `(tactic| (k_dflt (refine' kp_both ?k1 ?k2 ?k3 ?k4 ?k5 ?kA ?kF ?kK ?k6 ?k7 ?k8 ?kV ?kX ?kQ ?kM ?kN ?kD ?kR ?kP ?kS ?kT ?kB ?_ ?c2 ?c3 ?c4 ?c5; (case kA => exact rfl); (case kF => exact rfl); (case kK => assumption); (case k1 => k_asm); (case k2 => k_asm); (case k3 => k_asm); (case k4 => k_asm); (case k5 => k_asm); (case k6 => k_is); (case k7 => k_is); (case k8 => ktr_room); (case kV => kp_lit); (case kX => kp_lit); (case kQ => exact rfl); (case kM => exact rfl); (case kN => exact rfl); (case kD => kp_flats); (case kR => exact rfl); (case kP => exact rfl); (case kS => exact fun _ => rfl); (case kT => exact fun _ _ => rfl); (case kB => exact fun _ _ => locs rfl); (case c5 => decide); (case c2 => exact rfl); (case c3 => exact rfl); (case c4 => exact rfl); k_whole; intro C' D' o' g' L' h' tk' l1 l2 lo' hs' fs' FG' F' N' B' X' T'; (try k_lt l1); (try k_lt2 l2); (try dsimp only))))
local macro_rules | `(tactic| walk_at "call type:type") => `(tactic| (k_here; (with_reducible show wpAny _ _ (call (Value.type "type") [Value.bytes _ _]) _ _ _); refine call_type_of (Tx := "bytes") rfl (by decide +kernel) ?_))
local macro_rules | `(tactic| walk_at "wpC") => `(tactic| (with_reducible refine wpC_any ?_))
local macro_rules | `(tactic| walk_at "wpC") => `(tactic| (with_reducible refine execsC_any ?_))
local macro_rules | `(tactic| walk_at "wpC") => `(tactic| (refine' execsC_nil ?_))
local macro_rules | `(tactic| walk_at "wpC") => `(tactic| ((with_reducible show wpC _ _ (execs _ _) _ _ _); with_reducible refine execsC_cons ?_; refine' wpC_If ?_))
local macro_rules | `(tactic| walk_at "wpC") => `(tactic| ((with_reducible show wpC _ _ (execs _ _) _ _ _); with_reducible refine execsC_cons ?_; refine' wpC_While ?_; refine' codeC_while ?_))
local macro_rules | `(tactic| walk_at "wpC") => `(tactic| ((with_reducible show wpC _ _ (execs _ _) _ _ _); with_reducible refine execsC_cons ?_; refine' wpC_Try ?_))
local macro_rules | `(tactic| walk_at "wpC") => `(tactic| ((with_reducible show wpC _ _ (execs _ _) _ _ _); with_reducible refine execsC_cons ?_; refine' wpC_For ?_ ?hs; (case hs => intro _; with_unfolding_all rfl)))
local macro_rules | `(tactic| walk_at "pyIter ref") => `(tactic| ((with_reducible show wpAny _ _ (pyIter (Value.ref _)) (fun _ _ => codeC _ _ _ _ _) _ _); (with_reducible rename IsRange _ _ _ _ _ _ _ _ => R9); refine wpAny_pyIter_range R9 ?hsmall ?_; (case hsmall => walk_at "c_small")))
local macro_rules | `(tactic| walk_at "wpC") => `(tactic| ((with_reducible show wpC _ _ (execs _ _) _ _ _); with_reducible refine execsC_cons ?_; refine' wpC_Return ?_; refine' evalC_method ?_ ?he; (case he => with_unfolding_all rfl)))
local macro_rules | `(tactic| walk_at "wpC") => `(tactic| ((with_reducible show wpC _ _ (execs _ _) _ _ _); with_reducible refine execsC_cons ?_; refine' wpC_Expr ?_ ?hi ?hs; (case hi => with_unfolding_all rfl); (case hs => with_unfolding_all rfl); refine' evalC_method ?_ ?he; (case he => with_unfolding_all rfl)))
local macro_rules | `(tactic| walk_at "wpC") => `(tactic| ((with_reducible show wpC _ _ (execs _ _) _ _ _); with_reducible refine execsC_cons ?_; refine' wpC_AssignAttr ?_ ?hs; (case hs => with_unfolding_all rfl)))
local macro_rules | `(tactic| walk_at "wpC") => `(tactic| ((with_reducible show wpC _ _ (execs _ _) _ _ _); with_reducible refine execsC_cons ?_; refine' wpC_AssignSub ?_ ?hs; (case hs => with_unfolding_all rfl)))
local macro_rules | `(tactic| walk_at "wpC") => `(tactic| ((with_reducible show wpC _ _ (eval _ _) _ _ _); refine' evalC_ifExp ?_))
local macro_rules | `(tactic| walk_at "wpC") => `(tactic| ((with_reducible show wpC _ _ (eval _ _) _ _ _); refine' evalC_call ?_ ?he; (case he => with_unfolding_all rfl)))
local macro_rules | `(tactic| walk_at "wpC") => `(tactic| ((with_reducible show wpC _ _ (callWith _ _ _ _ _) _ _ _); k_dflt (first | refine' callWithC_T0 ?_ | (refine' callWithC_K0 ?k1 ?k2 ?_; (case k1 => k_in); (case k2 => k_is); k_whole) | (refine' callWithC_K ?k1 ?k2 ?_; (case k1 => k_asm); (case k2 => k_is); k_whole))))
local macro_rules | `(tactic| walk_at "wpC") => `(tactic| (k_dflt (show wpC _ _ (call (Value.type "bytearray") []) _ _ _); (with_reducible rename Fr _ _ _ _ => F9); (with_reducible rename News _ _ _ _ => N9); (refine call_baN (s := ⟨_, _, _, _, _⟩) F9 N9 ?_); intro ba' h' F' N' l1; (try k_lt l1)))
local macro_rules | `(tactic| walk_at "wpC") => `(tactic| ((with_reducible show wpC _ _ (setItem (.ref _) (.ref _) (.bytes _ _)) _ _ _); (with_reducible rename Fr _ _ _ _ => F9); (with_reducible rename News _ _ _ _ => N9); refine setItem_N (s := ⟨_, _, _, _, _⟩) F9 N9 (by assumption) (by assumption) (by assumption) (by rw [sizeLine_eq]; omega) ?_; intro _ F' N'))
local macro_rules | `(tactic| walk_at "call builtin:len") => `(tactic| (k_here; (with_reducible show wpAny _ _ (call (Value.builtin "len") [Value.ref _]) _ _ _); (with_reducible rename News _ _ _ _ => N9); refine len_ba (bs := _) (News.get N9 (by repeat (first | exact List.Mem.head _ | apply List.Mem.tail))) (by omega) ?_; have N' := N9; clear N9))
local macro_rules | `(tactic| walk_at "call type:bytes") => `(tactic| (k_here; (with_reducible show wpAny _ _ (call (Value.type "bytes") [Value.ref _]) _ _ _); (with_reducible rename News _ _ _ _ => N9); refine call_bytes_ba (bs := _) (News.get N9 (by repeat (first | exact List.Mem.head _ | apply List.Mem.tail))) (by rw [sizeLine_eq]; first | omega | (simp only [List.size_toArray]; omega)) ?_; have N' := N9; clear N9))
local macro_rules | `(tactic| walk_at "binaryOp Pow int int") => `(tactic| (k_here; (with_reducible refine pow_int_small ?kb1 ?kb2 ?kb3 ?_); (case kb1 => decide); (case kb2 => decide); (case kb3 => decide)))
local macro_rules | `(tactic| walk_at "a_enter") => `(tactic| (k_dflt (refine' callA_def ?kBL ?k1 ?k2 ?k3 ?k4 ?k5 ?kA ?kF ?kK ?k6 ?k7 ?k8 ?k9 ?kB ?_ ?c5 ?c2 ?c3 ?c4; (case kBL => assumption); (case kA => exact rfl); (case kF => exact rfl); (case kK => assumption); (case k1 => k_asm); (case k2 => k_asm); (case k3 => k_asm); (case k4 => k_asm); (case k5 => k_asm); (case k6 => k_is); (case k7 => k_is); (case k8 => ktr_room); (case k9 => first | exact BindsTo.of_eq rfl | exact binds_K (by k_in) rfl (by k_is) rfl rfl rfl | (refine' kp_binds ?kx ?ke; (case kx => k_in); (case ke => exact fun _ => rfl))); (case kB => exact locs rfl); (case c5 => decide); (case c2 => exact rfl); (case c3 => exact rfl); (case c4 => exact rfl); k_whole; intro g' L' h' tk' FG' F' N' B' X' T' l1; (try k_lt l1); (try dsimp only))))
local macro_rules | `(tactic| walk_at "call ref") => `(tactic| (k_here; (k_dflt (show wpAny _ _ (call (Value.ref 897) [.int _ _]) _ _ _)); (with_reducible rename Fr _ _ _ _ => F9); (with_reducible rename News _ _ _ _ => N9); (k_dflt (refine' number_c (s := ⟨_, _, _, _, _⟩) ?b1 F9 ?b2 ?b3 N9 ?b4 ?b5 ?b6 ?_; (case b1 => k_asm); (case b2 => k_asm); (case b3 => k_asm); (case b4 => exact rfl); (case b5 => ktr_room); (case b6 => k_units); k_whole)); intro h' t' tk' F' N'))
local macro_rules | `(tactic| walk_at "subscriptTail Name BinOp ref int") => `(tactic| (k_here; (with_reducible show wpAny _ _ (subscriptTail _ _ (Value.ref _) (Value.int _ _)) _ _ _); (with_reducible rename News _ _ _ _ => N9); k_dflt (refine' item_ints N9 ?hm ?hi ?h0 ?h1 ?h2 ?_ ?hs ?ht; (case hs => with_unfolding_all rfl); (case ht => (intro _; with_unfolding_all rfl)); (case hm => repeat (first | exact List.Mem.head _ | apply List.Mem.tail)); (case hi => assumption); (case h0 => exact IdxOk.a (by assumption) (by assumption) (by assumption)); (case h1 => exact IdxOk.b (by assumption) (by assumption) (by assumption)); (case h2 => exact IdxOk.c (by assumption) (by assumption) (by assumption))); intro u'; have N' := N9; clear N9))
local macro_rules | `(tactic| walk_at "eval Name") => `(tactic| (k_here; (with_reducible rename Fr _ _ _ _ => kF); k_dflt (refine' nameX_L kF ?hv ?_ ?hk ?hx ?hd; (case hk => rfl); (case hx => rfl); (case hd => decide); (case hv => assumption); k_whole)))
local macro_rules | `(tactic| walk_at "wpC") => `(tactic| ((with_reducible show wpC _ _ (execs (Stmt.Assign [Expr.Name _ _] _ _ :: _) _) _ _ _); with_reducible refine execsC_any ?_))
local macro_rules | `(tactic| walk_at "binaryOp FloorDiv int int") => `(tactic| (k_here; (k_dflt (refine' div_any ?kb1 ?kb2 ?_; (case kb1 => omega); (case kb2 => omega))); intro p'))
local macro_rules | `(tactic| walk_at "binaryOp Mod int int") => `(tactic| (k_here; (k_dflt (refine' mod_any ?kb1 ?_; (case kb1 => omega))); intro p' hp1' hp2'))
def txt1 : List Str := ["", "a", "aa", "aaa", "b", "bb", "bbb", "é", "éé", "ééé"].map Str.ofString
theorem mul_txt {prog : Program} {w : World} {A : Around} {E : Value → Shared → Prop} {s : Shared} {x : Str} {n : Int} {t u : Tok} {Q : Value → Shared → Prop} (hx : x = Str.ofString "a" ∨ x = Str.ofString "b" ∨ x = Str.ofString "é") (h0 : 0 ≤ n) (h1 : n < 4)
    (h : ∀ y t' k, y ∈ txt1 → Q (.str y t') { s with toks := k }) : wpAny (model prog w) A (binaryOp .Mult (.str x t) (.int n u)) Q E s := by
  have hn : n = 0 ∨ n = 1 ∨ n = 2 ∨ n = 3 := by omega
  have hl : x.length ≤ 1 := by rcases hx with rfl | rfl | rfl <;> decide
  refine SB.mul (mulOk_of 16 1048576 (by omega) (by omega) (by omega) (by decide) (by decide)) fun t' k => h _ _ _ ?_
  rcases hx with rfl | rfl | rfl <;> rcases hn with rfl | rfl | rfl | rfl <;> decide +kernel
theorem add_txt {prog : Program} {w : World} {A : Around} {E : Value → Shared → Prop} {s : Shared} {x y : Str} {t u : Tok} {Q : Value → Shared → Prop} (hx : x ∈ txt1) (hy : y = Str.ofString "" ∨ y = Str.ofString "a" ∨ y = Str.ofString "Z")
    (h : ∀ z t' k, z ∈ txts → Q (.str z t') { s with toks := k }) : wpAny (model prog w) A (binaryOp .Add (.str x t) (.str y u)) Q E s := by
  have hz : x ++ y ∈ txts ∧ x.length + y.length ≤ sizeLine := by
    have all : ∀ x ∈ txt1, ∀ y ∈ [Str.ofString "", Str.ofString "a", Str.ofString "Z"], x ++ y ∈ txts ∧ x.length + y.length ≤ 10 := by decide +kernel
    have a := all x hx y (by rcases hy with h | h | h <;> simp [h])
    exact ⟨a.1, by rw [sizeLine_eq]; omega⟩
  exact PyProof.Rows.add_str (fun t' k => h _ _ _ hz.1) hz.2
theorem pick3 {prog : Program} {w : World} {A : Around} {E : Value → Shared → Prop} {s : Shared} {value slice : Expr} {g : Heap} {L l : Addr} {x y z : Str} {a b c : Tok} {n : Nat} {news : List (Addr × Obj)} {k : Int} {t : Tok} {Q : Value → Shared → Prop} (N : News g L s.heap news) (hm : (l, listOf #[.str x a, .str y b, .str z c] n) ∈ news)
    (h0 : 0 ≤ k) (h1 : k < 3) (h : ∀ v u, v = x ∨ v = y ∨ v = z → Q (.str v u) s)
    (hs : subscripted slice false (.ref l) (.int k t) = operate [.ref l, .int k t] (getItem (.ref l) (.int k t)))
    (ht : ∀ r, letTemporaryGo value (.ref l) r = pure ()) : wpAny (model prog w) A (subscriptTail value slice (.ref l) (.int k t)) Q E s := by
  have hk : k = 0 ∨ k = 1 ∨ k = 2 := by omega
  rcases hk with rfl | rfl | rfl
  · exact item_listN N hm h0 (by decide) rfl (h _ _ (.inl rfl)) hs ht
  · exact item_listN N hm h0 (by decide) rfl (h _ _ (.inr (.inl rfl))) hs ht
  · exact item_listN N hm h0 (by decide) rfl (h _ _ (.inr (.inr rfl))) hs ht
theorem add_b2 {prog : Program} {w : World} {A : Around} {E : Value → Shared → Prop} {s : Shared} {n : Int} {x y : UInt8} {t u : Tok} {Q : Value → Shared → Prop} (h1 : n < 3) (h : ∀ c t' k, Array.size c ≤ 3 → Q (.bytes c t') { s with toks := k }) :
    wpAny (model prog w) A (binaryOp .Add (.bytes (List.replicate n.toNat [x]).flatten.toArray t) (.bytes #[y] u)) Q E s := by
  have e : (List.replicate n.toNat [x]).flatten.toArray.size ≤ 2 := by simp; omega
  exact PySem.W.KBy.add_bytes (by show _ + 1 ≤ _; omega) fun t' k => h _ _ _ (by rw [Array.size_append]; show _ + 1 ≤ 3; omega)
local macro_rules | `(tactic| walk_at "subscriptTail Name BinOp ref int") => `(tactic| (k_here; (with_reducible show wpAny _ _ (subscriptTail _ _ (Value.ref _) (Value.int _ _)) _ _ _); (with_reducible rename News _ _ _ _ => N9); k_dflt (refine' item_ints N9 ?hm ?hi ?h0 ?h1 ?h2 ?_ ?hs ?ht; (case hs => with_unfolding_all rfl); (case ht => (intro _; with_unfolding_all rfl)); (case hm => k_mem); (case hi => assumption); (case h0 => omega); (case h1 => omega); (case h2 => omega)); intro u'; have N' := N9; clear N9))
local macro_rules | `(tactic| walk_at "subscriptTail Name BinOp ref int") => `(tactic| (k_here; (with_reducible rename News _ _ _ _ => N9); k_dflt (refine' pick3 N9 ?hm ?h0 ?h1 ?_ ?hs ?ht; (case hs => with_unfolding_all rfl); (case ht => (intro _; with_unfolding_all rfl)); (case hm => k_mem); (case h0 => assumption); (case h1 => assumption)); intro v' u' hv'; have N' := N9; clear N9))
local macro_rules | `(tactic| walk_at "binaryOp Mult str int") => `(tactic| (k_here; k_dflt (refine' mul_txt ?hx ?h0 ?h1 ?_; (case hx => assumption); (case h0 => assumption); (case h1 => assumption)); intro y' t' k' hy'))
local macro_rules | `(tactic| walk_at "binaryOp Add str str") => `(tactic| (k_here; k_dflt (refine' add_txt ?hx ?hy ?_; (case hx => assumption); (case hy => assumption)); intro y' t' k' hz'))
local macro_rules | `(tactic| walk_at "binaryOp Add bytes bytes") => `(tactic| (k_here; k_dflt (refine' add_b2 ?h1 ?_; (case h1 => assumption)); intro c' t' k' hc'))
local macro_rules | `(tactic| walk_at "wpC") => `(tactic| ((with_reducible show wpC _ _ (execs (Stmt.Expr _ _ :: _) _) _ _ _); with_reducible refine execsC_any ?_))
abbrev tup2 (a b : Value) : Obj := { cls := .type "tuple", data := .seq #[a, b] }
def ThingsIn (ts : List Value) (w : List (Addr × Obj)) : Prop := ∀ v ∈ ts, ∃ r x t b u, v = .ref r ∧ (r, tup2 (.str x t) (.bytes b u)) ∈ w ∧ x ∈ txts ∧ Array.size b ≤ 3
def ThingsInv (L I TA NA : Addr) (o1 o4 : Obj) (nv : List Value) (nn : Nat) (base : List (Addr × Obj)) (k : Nat) (_m : Str → Option Value) (w : List (Addr × Obj)) : Prop :=
  ∃ ts j rest, w = (TA, listOf (List.toArray ts) j) :: (NA, listOf nv.toArray nn) :: (L + 1 + 1 + 1 + 1, o4) :: (L + 1, o1) :: rest ∧ ts.length = k ∧ ThingsIn ts rest ∧ (∀ q ∈ base, q ∈ rest) ∧ ∀ q ∈ rest, q.1 ≠ TA ∧ q.1 ≠ I ∧ q.1 ≠ L + 1 + 1 + 1
theorem news_th {g h : Heap} {L TA : Addr} {x a b c d i k y z u : Addr × Obj} {vs : List Value} {v : Value} {j : Nat} {r : List (Addr × Obj)} (N : News g L h (x :: a :: b :: c :: d :: i :: k :: (TA, listOf (vs.toArray.push v) j) :: y :: z :: u :: r)) : News g L h (i :: k :: (TA, listOf (vs ++ [v]).toArray j) :: y :: z :: u :: x :: r) := fun q hq => N q (by
  have e2 : (vs ++ [v]).toArray = vs.toArray.push v := by simp
  rw [e2] at hq
  simp only [List.mem_cons] at hq ⊢
  rcases hq with h | h | h | h | h | h | h | h <;> simp [h])
set_option maxRecDepth 100000 in
set_option maxHeartbeats 4000000 in
theorem things_turn {prog : Program} {w : World} {mg mb : Str → Option Value} {p : Program} {loose : List Str} {mean : ExcName → Option Value} {s₁ : Shared} {h0 : Heap} {L : Addr} {m : Str → Option Value} {k : Nat} {tk : Tok}
    {I TA NA : Addr} {o1 o3 o4 : Obj} {j nn : Nat} {ts nv : List Value} {nums : List Int} {rest : List (Addr × Obj)} {Q : Flow → Shared → Prop}
    (X : (Mine.hd.heap_39 w.params).In h0) (T : Top p loose mean mg mb h0) (B : Below callerA h0 [] h0)
    (F : Fr h0 L s₁.heap m) (N : News h0 L s₁.heap ((I, rIt ((k : Int) + 1) (((3 : Nat) : Int) - k - 1)) :: (L + 1 + 1 + 1, o3) :: (TA, listOf ts.toArray j) :: (NA, listOf nv.toArray nn) :: (L + 1 + 1 + 1 + 1, o4) :: (L + 1, o1) :: rest))
    (hk : k < 3) (hnv : IntsAre nv nums) (hnn : 20 ≤ nums.length) (hnn2 : nums.length ≤ 40)
    (d3 : o3.data = .cell (some (.int k tk))) (d4 : o4.data = .cell (some (.ref TA))) (d1 : o1.data = .cell (some (.ref NA)))
    (l1 : @LT.lt Nat _ (L + 1 + 1 + 1 + 1) NA) (l2 : @LT.lt Nat _ NA TA) (l3 : @LT.lt Nat _ TA I) (hrTA : ∀ q ∈ rest, q.1 ≠ TA) (hts : ts.length ≤ 3)
    (ret : ∀ (h' : Heap) (t : Tok) (m' : Str → Option Value) (D : Addr) (x : Str) (b : Array UInt8) (u1 u2 : Tok) (j' : Nat), x ∈ txts → b.size ≤ 3 → @LT.lt Nat _ I D → @LT.lt Nat _ TA D → @LT.lt Nat _ (L + 1 + 1 + 1) D →
      Fr h0 L h' m' → News h0 L h' ((I, rIt ((k : Int) + 1) (((3 : Nat) : Int) - k - 1)) :: (L + 1 + 1 + 1, o3) :: (TA, listOf (ts ++ [Value.ref D]).toArray j') :: (NA, listOf nv.toArray nn) :: (L + 1 + 1 + 1 + 1, o4) :: (L + 1, o1) :: (D, tup2 (.str x u1) (.bytes b u2)) :: rest) → Q .next { s₁ with heap := h', toks := t }) :
    wpC (model prog w) (callerA.deeper (lawE L)) (execs thingsS.1 (lawE L)) Q nE s₁ := by
  walk_at "c_fill"
  obtain ⟨hp, gs, dr, tks, os⟩ := s₁
  dsimp only at F N
  dsimp only [thingsS, lawE, lawScS]
  k_steps
  rename Fr _ _ _ (fun y => if y = Str.ofString "text" then _ else _) => F9
  rename News _ _ _ ((_, { cls := .type "tuple", data := .seq _ }) :: _) => N9
  refine ret _ _ _ _ _ _ _ _ _ ?_ ?_ ?_ ?_ ?_ F9 (news_th N9)
  · assumption
  · assumption
  · omega
  · omega
  · omega
end Mine
end
section
open PySem PySem.W PyProof.Rows PySem.Calls
open PySem.Sem (wp)
set_option maxRecDepth 100000
namespace Mine
theorem topOffX7 : True := by
  w_top off
  trivial
local macro_rules | `(tactic| k_all) => `(tactic| assumption)
local macro_rules | `(tactic| k_room) => `(tactic| ktr_room)
local macro_rules | `(tactic| k_units) => `(tactic| first | ktr_units | ((try dsimp only); (try simp only [units_make, units_deeper, units_in1, Around.mark_units]); omega))
local macro_rules | `(tactic| walk_at "c_fill") => `(tactic| (have kf : PySem.Challenge.rw_fg0013_01 = PySem.Challenge.rw_fg0013_01 ∧ Mine.hd.heap_39 = Mine.hd.heap_39 := (by k_fill; exact ⟨rfl, rfl⟩)); clear kf)
local macro_rules | `(tactic| walk_at "c_enter") => `(tactic| (k_dflt (refine' callC_def ?kBL ?k1 ?k2 ?k3 ?k4 ?k5 ?kA ?kF ?kK ?k6 ?k7 ?k8 ?k9 ?kB ?_ ?c5 ?c2 ?c3 ?c4; (case kBL => assumption); (case kA => exact rfl); (case kF => exact rfl); (case kK => assumption); (case k1 => k_asm); (case k2 => k_asm); (case k3 => k_asm); (case k4 => k_asm); (case k5 => k_asm); (case k6 => k_is); (case k7 => k_is); (case k8 => ktr_room); (case k9 => first | exact BindsTo.of_eq rfl | exact binds_K (by k_in) rfl (by k_is) rfl rfl rfl | (refine' kp_binds ?kx ?ke; (case kx => k_in); (case ke => exact fun _ => rfl))); (case kB => exact locs rfl); (case c5 => decide); (case c2 => exact rfl); (case c3 => exact rfl); (case c4 => exact rfl); k_whole; intro g' L' h' tk' FG' F' N' B' X' T' l1; (try k_lt l1); (try dsimp only))))
local macro_rules | `(tactic| walk_at "c_enter2") => `(tactic| (k_dflt (refine' callC_def ?kBL ?k1 ?k2 ?k3 ?k4 ?k5 ?kA ?kF ?kK ?k6 ?k7 ?k8 ?k9 ?kB ?_ ?c5 ?c2 ?c3 ?c4; (case kA => exact rfl); (case kF => exact rfl); (case kK => exact rfl); (case k1 => k_asm); (case k2 => k_asm); (case k3 => k_asm); (case k4 => k_asm); (case k5 => k_asm); (case k6 => k_is); (case k7 => k_is); (case k8 => ktr_room); (case k9 => first | exact BindsTo.of_eq rfl | exact binds_K (by k_in) rfl (by k_is) rfl rfl rfl | (refine' kp_binds ?kx ?ke; (case kx => k_in); (case ke => exact fun _ => rfl))); (case kB => exact locs rfl); (case kBL => exact bl _); (case c5 => decide); (case c2 => exact rfl); (case c3 => exact rfl); (case c4 => exact rfl); k_whole; intro g' L' h' tk' FG' F' N' B' X' T' l1; (try k_lt l1); (try dsimp only))))
local macro_rules | `(tactic| walk_at "c_both") => `(tactic| (k_dflt (refine' kp_both ?k1 ?k2 ?k3 ?k4 ?k5 ?kA ?kF ?kK ?k6 ?k7 ?k8 ?kV ?kX ?kQ ?kM ?kN ?kD ?kR ?kP ?kS ?kT ?kB ?_ ?c2 ?c3 ?c4 ?c5; (case kA => exact rfl); (case kF => exact rfl); (case kK => assumption); (case k1 => k_asm); (case k2 => k_asm); (case k3 => k_asm); (case k4 => k_asm); (case k5 => k_asm); (case k6 => k_is); (case k7 => k_is); (case k8 => ktr_room); (case kV => kp_lit); (case kX => kp_lit); (case kQ => exact rfl); (case kM => exact rfl); (case kN => exact rfl); (case kD => kp_flats); (case kR => exact rfl); (case kP => exact rfl); (case kS => exact fun _ => rfl); (case kT => exact fun _ _ => rfl); (case kB => exact fun _ _ => locs rfl); (case c5 => decide); (case c2 => exact rfl); (case c3 => exact rfl); (case c4 => exact rfl); k_whole; intro C' D' o' g' L' h' tk' l1 l2 lo' hs' fs' FG' F' N' B' X' T'; (try k_lt l1); (try k_lt2 l2); (try dsimp only))))
local macro_rules | `(tactic| walk_at "call type:type") => `(tactic| (k_here; (with_reducible show wpAny _ _ (call (Value.type "type") [Value.bytes _ _]) _ _ _); refine call_type_of (Tx := "bytes") rfl (by decide +kernel) ?_))
local macro_rules | `(tactic| walk_at "wpC") => `(tactic| (with_reducible refine wpC_any ?_))
local macro_rules | `(tactic| walk_at "wpC") => `(tactic| (with_reducible refine execsC_any ?_))
local macro_rules | `(tactic| walk_at "wpC") => `(tactic| (refine' execsC_nil ?_))
local macro_rules | `(tactic| walk_at "wpC") => `(tactic| ((with_reducible show wpC _ _ (execs _ _) _ _ _); with_reducible refine execsC_cons ?_; refine' wpC_If ?_))
local macro_rules | `(tactic| walk_at "wpC") => `(tactic| ((with_reducible show wpC _ _ (execs _ _) _ _ _); with_reducible refine execsC_cons ?_; refine' wpC_While ?_; refine' codeC_while ?_))
local macro_rules | `(tactic| walk_at "wpC") => `(tactic| ((with_reducible show wpC _ _ (execs _ _) _ _ _); with_reducible refine execsC_cons ?_; refine' wpC_Try ?_))
local macro_rules | `(tactic| walk_at "wpC") => `(tactic| ((with_reducible show wpC _ _ (execs _ _) _ _ _); with_reducible refine execsC_cons ?_; refine' wpC_For ?_ ?hs; (case hs => intro _; with_unfolding_all rfl)))
local macro_rules | `(tactic| walk_at "pyIter ref") => `(tactic| ((with_reducible show wpAny _ _ (pyIter (Value.ref _)) (fun _ _ => codeC _ _ _ _ _) _ _); (with_reducible rename IsRange _ _ _ _ _ _ _ _ => R9); refine wpAny_pyIter_range R9 ?hsmall ?_; (case hsmall => walk_at "c_small")))
local macro_rules | `(tactic| walk_at "wpC") => `(tactic| ((with_reducible show wpC _ _ (execs _ _) _ _ _); with_reducible refine execsC_cons ?_; refine' wpC_Return ?_; refine' evalC_method ?_ ?he; (case he => with_unfolding_all rfl)))
local macro_rules | `(tactic| walk_at "wpC") => `(tactic| ((with_reducible show wpC _ _ (execs _ _) _ _ _); with_reducible refine execsC_cons ?_; refine' wpC_Expr ?_ ?hi ?hs; (case hi => with_unfolding_all rfl); (case hs => with_unfolding_all rfl); refine' evalC_method ?_ ?he; (case he => with_unfolding_all rfl)))
local macro_rules | `(tactic| walk_at "wpC") => `(tactic| ((with_reducible show wpC _ _ (execs _ _) _ _ _); with_reducible refine execsC_cons ?_; refine' wpC_AssignAttr ?_ ?hs; (case hs => with_unfolding_all rfl)))
local macro_rules | `(tactic| walk_at "wpC") => `(tactic| ((with_reducible show wpC _ _ (execs _ _) _ _ _); with_reducible refine execsC_cons ?_; refine' wpC_AssignSub ?_ ?hs; (case hs => with_unfolding_all rfl)))
local macro_rules | `(tactic| walk_at "wpC") => `(tactic| ((with_reducible show wpC _ _ (eval _ _) _ _ _); refine' evalC_ifExp ?_))
local macro_rules | `(tactic| walk_at "wpC") => `(tactic| ((with_reducible show wpC _ _ (eval _ _) _ _ _); refine' evalC_call ?_ ?he; (case he => with_unfolding_all rfl)))
local macro_rules | `(tactic| walk_at "wpC") => `(tactic| ((with_reducible show wpC _ _ (callWith _ _ _ _ _) _ _ _); k_dflt (first | refine' callWithC_T0 ?_ | (refine' callWithC_K0 ?k1 ?k2 ?_; (case k1 => k_in); (case k2 => k_is); k_whole) | (refine' callWithC_K ?k1 ?k2 ?_; (case k1 => k_asm); (case k2 => k_is); k_whole))))
local macro_rules | `(tactic| walk_at "wpC") => `(tactic| (k_dflt (show wpC _ _ (call (Value.type "bytearray") []) _ _ _); (with_reducible rename Fr _ _ _ _ => F9); (with_reducible rename News _ _ _ _ => N9); (refine call_baN (s := ⟨_, _, _, _, _⟩) F9 N9 ?_); intro ba' h' F' N' l1; (try k_lt l1)))
local macro_rules | `(tactic| walk_at "wpC") => `(tactic| ((with_reducible show wpC _ _ (setItem (.ref _) (.ref _) (.bytes _ _)) _ _ _); (with_reducible rename Fr _ _ _ _ => F9); (with_reducible rename News _ _ _ _ => N9); refine setItem_N (s := ⟨_, _, _, _, _⟩) F9 N9 (by assumption) (by assumption) (by assumption) (by rw [sizeLine_eq]; omega) ?_; intro _ F' N'))
local macro_rules | `(tactic| walk_at "call builtin:len") => `(tactic| (k_here; (with_reducible show wpAny _ _ (call (Value.builtin "len") [Value.ref _]) _ _ _); (with_reducible rename News _ _ _ _ => N9); refine len_ba (bs := _) (News.get N9 (by repeat (first | exact List.Mem.head _ | apply List.Mem.tail))) (by omega) ?_; have N' := N9; clear N9))
local macro_rules | `(tactic| walk_at "call type:bytes") => `(tactic| (k_here; (with_reducible show wpAny _ _ (call (Value.type "bytes") [Value.ref _]) _ _ _); (with_reducible rename News _ _ _ _ => N9); refine call_bytes_ba (bs := _) (News.get N9 (by repeat (first | exact List.Mem.head _ | apply List.Mem.tail))) (by rw [sizeLine_eq]; first | omega | (simp only [List.size_toArray]; omega)) ?_; have N' := N9; clear N9))
local macro_rules | `(tactic| walk_at "binaryOp Pow int int") => `(tactic| (k_here; (with_reducible refine pow_int_small ?kb1 ?kb2 ?kb3 ?_); (case kb1 => decide); (case kb2 => decide); (case kb3 => decide)))
local macro_rules | `(tactic| walk_at "a_enter") => `(tactic| (k_dflt (refine' callA_def ?kBL ?k1 ?k2 ?k3 ?k4 ?k5 ?kA ?kF ?kK ?k6 ?k7 ?k8 ?k9 ?kB ?_ ?c5 ?c2 ?c3 ?c4; (case kBL => assumption); (case kA => exact rfl); (case kF => exact rfl); (case kK => assumption); (case k1 => k_asm); (case k2 => k_asm); (case k3 => k_asm); (case k4 => k_asm); (case k5 => k_asm); (case k6 => k_is); (case k7 => k_is); (case k8 => ktr_room); (case k9 => first | exact BindsTo.of_eq rfl | exact binds_K (by k_in) rfl (by k_is) rfl rfl rfl | (refine' kp_binds ?kx ?ke; (case kx => k_in); (case ke => exact fun _ => rfl))); (case kB => exact locs rfl); (case c5 => decide); (case c2 => exact rfl); (case c3 => exact rfl); (case c4 => exact rfl); k_whole; intro g' L' h' tk' FG' F' N' B' X' T' l1; (try k_lt l1); (try dsimp only))))
local macro_rules | `(tactic| walk_at "call ref") => `(tactic| (k_here; (k_dflt (show wpAny _ _ (call (Value.ref 897) [.int _ _]) _ _ _)); (with_reducible rename Fr _ _ _ _ => F9); (with_reducible rename News _ _ _ _ => N9); (k_dflt (refine' number_c (s := ⟨_, _, _, _, _⟩) ?b1 F9 ?b2 ?b3 N9 ?b4 ?b5 ?b6 ?_; (case b1 => k_asm); (case b2 => k_asm); (case b3 => k_asm); (case b4 => exact rfl); (case b5 => ktr_room); (case b6 => k_units); k_whole)); intro h' t' tk' F' N'))
local macro_rules | `(tactic| walk_at "subscriptTail Name BinOp ref int") => `(tactic| (k_here; (with_reducible show wpAny _ _ (subscriptTail _ _ (Value.ref _) (Value.int _ _)) _ _ _); (with_reducible rename News _ _ _ _ => N9); k_dflt (refine' item_ints N9 ?hm ?hi ?h0 ?h1 ?h2 ?_ ?hs ?ht; (case hs => with_unfolding_all rfl); (case ht => (intro _; with_unfolding_all rfl)); (case hm => repeat (first | exact List.Mem.head _ | apply List.Mem.tail)); (case hi => assumption); (case h0 => exact IdxOk.a (by assumption) (by assumption) (by assumption)); (case h1 => exact IdxOk.b (by assumption) (by assumption) (by assumption)); (case h2 => exact IdxOk.c (by assumption) (by assumption) (by assumption))); intro u'; have N' := N9; clear N9))
local macro_rules | `(tactic| walk_at "eval Name") => `(tactic| (k_here; (with_reducible rename Fr _ _ _ _ => kF); k_dflt (refine' nameX_L kF ?hv ?_ ?hk ?hx ?hd; (case hk => rfl); (case hx => rfl); (case hd => decide); (case hv => assumption); k_whole)))
local macro_rules | `(tactic| walk_at "wpC") => `(tactic| ((with_reducible show wpC _ _ (execs (Stmt.Assign [Expr.Name _ _] _ _ :: _) _) _ _ _); with_reducible refine execsC_any ?_))
theorem news_lt {g h : Heap} {L : Addr} {x b c y e z u a' : Addr × Obj} {r : List (Addr × Obj)} (N : News g L h (x :: b :: c :: y :: e :: z :: a' :: u :: r)) : News g L h (b :: x :: y :: z :: u :: c :: e :: a' :: r) := fun q hq => N q (by
  simp only [List.mem_cons] at hq ⊢
  rcases hq with h | h | h | h | h | h | h | h | h <;> simp [h])
theorem alllt_mem {d : Addr} {r : List (Addr × Obj)} (h : AllLt d r) : ∀ q ∈ r, @LT.lt Nat _ q.1 d := by
  induction r with
  | nil => exact fun q hq => nomatch hq
  | cons a r ih =>
    intro q hq
    rcases List.mem_cons.mp hq with rfl | hq
    · exact h.1
    · exact ih h.2 q hq
set_option maxRecDepth 100000 in
set_option maxHeartbeats 4000000 in
theorem things_loop {prog : Program} {w : World} {mg mb : Str → Option Value} {p : Program} {loose : List Str} {mean : ExcName → Option Value} {s : Shared} {h0 : Heap} {L r : Addr} {m : Str → Option Value} {t1 t2 t3 : Tok}
    {RA NA TA : Addr} {o1 o2 o3 o4 o5 : Obj} {v3 : Option Value} {j nn : Nat} {rs nv : List Value} {nums : List Int} {rest : List (Addr × Obj)} {body : List Stmt} {px : Pos} {R : Result → Shared → Prop}
    (X : (Mine.hd.heap_39 w.params).In h0) (T : Top p loose mean mg mb h0) (B : Below callerA h0 [] h0) (hbody : body = thingsS.1)
    (F : Fr h0 L s.heap m) (N : News h0 L s.heap ((TA, listOf #[] 0) :: (L + 1 + 1 + 1, o3) :: (RA, listOf rs.toArray j) :: (NA, listOf nv.toArray nn) :: (L + 1 + 1 + 1 + 1 + 1, o5) :: (L + 1 + 1 + 1 + 1, o4) :: (L + 1 + 1, o2) :: (L + 1, o1) :: rest))
    (R9 : IsRange s.heap r 0 ((3 : Nat) : Int) 1 t1 t2 t3) (hn : NumOk nv nums) (d3 : o3.data = .cell v3) (d4 : o4.data = .cell (some (.ref TA))) (d1 : o1.data = .cell (some (.ref NA)))
    (l1 : @LT.lt Nat _ (L + 1 + 1 + 1 + 1 + 1) NA) (l2 : @LT.lt Nat _ NA RA) (l3 : @LT.lt Nat _ RA TA) (lrest : ∀ q ∈ rest, @LT.lt Nat _ q.1 TA) (hr : ∀ q ∈ rest, OffC L q.1)
    (ret : ∀ h t m' o3' v3' ts j' rest', o3'.data = .cell v3' → ts.length = 3 → ThingsIn ts rest' → (∀ q ∈ (RA, listOf rs.toArray j) :: (L + 1 + 1 + 1 + 1 + 1, o5) :: (L + 1 + 1, o2) :: rest, q ∈ rest') → Fr h0 L h m' →
      News h0 L h ((L + 1 + 1 + 1, o3') :: (TA, listOf (List.toArray ts) j') :: (L + 1 + 1 + 1 + 1, o4) :: (L + 1, o1) :: rest') → R (.ok .next) { s with heap := h, toks := t }) :
    wpAny (model prog w) (callerA.deeper (lawE L)) (pyIter (.ref r)) (fun it s' => codeC (model prog w) (callerA.deeper (lawE L)) (.forLoop (.Name (Str.ofString "k") px) it body [] (lawE L)) R s') nE s := by
  subst hbody
  refine range_start (n := 3) R9 (by decide) F (news_lt N) fun I h1 F1 N1 lI => ?_
  have lT : @LT.lt Nat _ TA I := lI _ (.tail _ (.head _))
  refine' forC_cell (n := 3) (c := L + 1 + 1 + 1) (ThingsInv L I TA NA o1 o4 nv nn ((RA, listOf rs.toArray j) :: (L + 1 + 1 + 1 + 1 + 1, o5) :: (L + 1 + 1, o2) :: rest)) rfl rfl ?hx ?hc ?hlet F1 N1 ?hI d3 ?hcI ?hap ?turn ?fin
  case hx => exact rfl
  case hc => exact rfl
  case hlet => intro _; with_unfolding_all rfl
  case hI =>
    refine ⟨[], 0, _, rfl, rfl, fun v hv => (nomatch hv), fun q hq => hq, fun q hq => ?_⟩
    have lq : q.1 ≠ I := Nat.ne_of_lt (lI q (.tail _ (.tail _ (.tail _ (.tail _ (.tail _ hq))))))
    simp only [List.mem_cons] at hq
    rcases hq with rfl | rfl | rfl | hq
    · refine ⟨?_, lq, ?_⟩ <;> (show @Ne Nat _ _; omega)
    · refine ⟨?_, lq, ?_⟩ <;> (show @Ne Nat _ _; omega)
    · refine ⟨?_, lq, ?_⟩ <;> (show @Ne Nat _ _; omega)
    · exact ⟨Nat.ne_of_lt (lrest q hq), lq, (hr q hq).2.2.1⟩
  case hcI => exact Nat.ne_of_lt (lI _ (.head _))
  case hap =>
    rintro k m2 w2 ⟨ts, j2, rest2, rfl, -, -, -, hr2⟩ q hq
    simp only [List.mem_cons] at hq
    rcases hq with rfl | rfl | rfl | rfl | hq
    · refine ⟨?_, ?_⟩ <;> (show @Ne Nat _ _; omega)
    · refine ⟨?_, ?_⟩ <;> (show @Ne Nat _ _; omega)
    · refine ⟨?_, ?_⟩ <;> (show @Ne Nat _ _; omega)
    · refine ⟨?_, ?_⟩ <;> (show @Ne Nat _ _; omega)
    · exact ⟨(hr2 q hq).2.1, (hr2 q hq).2.2⟩
  case turn =>
    rintro k tk m2 w2 o s2 hk ⟨ts, j2, rest2, rfl, hl2, ht2, hb2, hr2⟩ ho F2 N2 ⟨h2, t2, rfl⟩
    refine things_turn X T B F2 N2 hk hn.1 hn.2.1 hn.2.2 ho d4 d1 (Nat.lt_trans (by omega) l1) (Nat.lt_trans l2 l3) lT (fun q hq => (hr2 q hq).1) (by omega) fun h' t m' D x b u1 u2 j' hx hb lD1 lD2 lD3 F' N' => ⟨rfl, h', t, m', _, o, _, rfl, ?_, ho, F', N'⟩
    refine ⟨ts ++ [Value.ref D], j', _, rfl, by simp [hl2], fun v hv => ?_, fun q hq => .tail _ (hb2 q hq), fun q hq => ?_⟩
    · rcases List.mem_append.mp hv with hv | hv
      · obtain ⟨r, x, t, b, u, e, hm, hx, hb⟩ := ht2 v hv
        exact ⟨r, x, t, b, u, e, .tail _ hm, hx, hb⟩
      · obtain rfl := List.mem_singleton.mp hv
        exact ⟨_, _, _, _, _, rfl, .head _, hx, hb⟩
    · rcases List.mem_cons.mp hq with rfl | hq
      · exact ⟨Nat.ne_of_gt lD2, Nat.ne_of_gt lD1, Nat.ne_of_gt lD3⟩
      · exact hr2 q hq
  case fin =>
    rintro h2 t2 m2 w2 o v ⟨ts, j2, rest2, rfl, hl2, ht2, hb2, hr2⟩ ho F2 N2
    exact ret _ _ _ _ _ _ j2 _ ho hl2 ht2 hb2 F2 fun q hq => N2 q (by
      simp only [List.mem_cons] at hq ⊢
      rcases hq with h | h | h | h | h <;> simp [h])
set_option maxRecDepth 100000 in
set_option maxHeartbeats 4000000 in
theorem law_things {prog : Program} {w : World} {mg mb : Str → Option Value} {p : Program} {loose : List Str} {mean : ExcName → Option Value} {s : Shared} {h0 : Heap} {L : Addr} {m : Str → Option Value}
    {RA NA : Addr} {o1 o2 o3 o4 o5 : Obj} {v3 v4 : Option Value} {j nn : Nat} {rs nv : List Value} {nums : List Int} {rest : List (Addr × Obj)} {Q : Flow → Shared → Prop}
    (X : (Mine.hd.heap_39 w.params).In h0) (T : Top p loose mean mg mb h0) (B : Below callerA h0 [] h0)
    (F : Fr h0 L s.heap m) (N : News h0 L s.heap ((L + 1 + 1 + 1, o3) :: (RA, listOf rs.toArray j) :: (NA, listOf nv.toArray nn) :: (L + 1 + 1 + 1 + 1 + 1, o5) :: (L + 1 + 1 + 1 + 1, o4) :: (L + 1 + 1, o2) :: (L + 1, o1) :: rest))
    (hn : NumOk nv nums) (d3 : o3.data = .cell v3) (d4 : o4.data = .cell v4) (d1 : o1.data = .cell (some (.ref NA)))
    (l1 : @LT.lt Nat _ (L + 1 + 1 + 1 + 1 + 1) NA) (l2 : @LT.lt Nat _ NA RA) (hr : ∀ q ∈ rest, OffC L q.1)
    (ret : ∀ h t m' o3' v3' o4' TA ts j' rest', o3'.data = .cell v3' → o4'.data = .cell (some (.ref TA)) → ts.length = 3 → ThingsIn ts rest' → (∀ q ∈ (RA, listOf rs.toArray j) :: (L + 1 + 1 + 1 + 1 + 1, o5) :: (L + 1 + 1, o2) :: rest, q ∈ rest') → Fr h0 L h m' →
      News h0 L h ((L + 1 + 1 + 1, o3') :: (TA, listOf (List.toArray ts) j') :: (L + 1 + 1 + 1 + 1, o4') :: (L + 1, o1) :: rest') → wpC (model prog w) (callerA.deeper (lawE L)) (execs (lawS.1.drop 6) (lawE L)) Q nE { s with heap := h, toks := t }) :
    wpC (model prog w) (callerA.deeper (lawE L)) (execs (lawS.1.drop 4) (lawE L)) Q nE s := by
  walk_at "c_fill"
  obtain ⟨hp, gs, dr, tks, os⟩ := s
  dsimp only at F N
  have hr4 : ∀ q ∈ rest, q.1 ≠ L + 1 + 1 + 1 + 1 := fun q hq => (hr q hq).2.2.2.1
  dsimp only [lawS, lawE, lawScS, List.drop]
  k_steps
  rename IsRange _ _ _ _ _ _ _ _ => R9
  rename Fr h0 _ _ _ => F9
  rename News _ _ _ ((_, listOf #[] 0) :: _) => N9
  rename (L + 1 + 1 + 1 < _ ∧ _) => lT
  refine things_loop (s := ⟨_, _, _, _, _⟩) X T B rfl F9 N9 R9 hn d3 (by assumption) d1 l1 l2 lT.2.1 (alllt_mem lT.2.2.2.2.2.2.2) hr fun h t m' o3' v3' ts j' rest' a b c d e f => ?_
  exact ret h t m' o3' v3' _ _ ts j' rest' a (by assumption) b c d e f
end Mine
end
section
open PySem PySem.W PyProof.Rows PySem.Calls
open PySem.Sem (wp)
set_option maxRecDepth 100000
namespace Mine
section
variable {M : Model} {A : Around} {s : Shared} {env : Env}
theorem wpC_spliced2 {e1 e2 : Expr} {pos : Pos} {E : Value → Shared → Prop} {Q : List Value → Shared → Prop} (he : starEach [e1, e2] env = [(false, eval e1 env), (false, eval e2 env)])
    (h : wpC M A (eval e1 env) (fun v1 s1 => wpC M A (eval e2 env) (fun v2 s2 => Q [v1, v2] s2) E s1) E s) : wpC M A (spliced (backTo pos (starEach [e1, e2] env))) Q E s := by
  rw [he]
  show wpC M A (do
    let v ← eval e1 env
    let here ← (pure [v] : Sem (List Value))
    return here ++ (← holding here (do
      let v ← eval e2 env
      let here ← (pure [v] : Sem (List Value))
      return here ++ (← holding here (pure []))))) Q E s
  refine wpC_bind (wpC_mono h (fun v1 s1 h1 => wpC_bind (wpC_pure (wpC_bind (wpC_holding (wpC_bind (wpC_mono h1 (fun v2 s2 h2 => ?_) fun _ _ x => x)))))) fun _ _ x => x)
  exact wpC_bind (wpC_pure (wpC_bind (wpC_holding (wpC_pure (wpC_pure (wpC_pure h2))))))
/-- a pair is stored into two names: the stores go from the last to the first -/
theorem wpC_AssignPair {ts : List Expr} {e1 e2 : Expr} {k kk : Nat} {tpos vpos pos : Pos} {names : List Str} {Q : Flow → Shared → Prop} (he : starEach [e1, e2] env = [(false, eval e1 env), (false, eval e2 env)])
    (hs : swapsWithSole [.Tuple ts k tpos] (.Tuple [e1, e2] kk vpos) pos.line env = pure false) (hw : swappedStores [.Tuple ts k tpos] (.Tuple [e1, e2] kk vpos) env = pure (some names))
    (h : wpC M A (eval e1 env) (fun v1 s1 => wpC M A (eval e2 env) (fun v2 s2 => wpAny M A (newTuple [v1, v2]) (fun v s₁ => wpAny M A (unpackItems v names.length none) (fun items s₂ =>
      wpAny M A (assignInOrder (names.reverse.map fun n => bindName env n) items.reverse) (fun _ => Q .next) nE s₂) nE s₁) nE s2) nE s1) nE s) :
    wpC M A (exec (.Assign [.Tuple ts k tpos] (.Tuple [e1, e2] kk vpos) pos) env) Q nE s := by
  rw [exec_Assign]
  refine wpC_bindA (wpAny_standAt ?_)
  rw [hs]
  refine wpC_bindA (wpAny_pure ?_)
  rw [if_neg (by decide)]
  refine wpC_bind ?_
  show wpC M A (do standAt vpos; newTuple (← spliced (backTo vpos (starEach [e1, e2] env)))) _ nE s
  refine wpC_bindA (wpAny_standAt (wpC_bind (wpC_spliced2 he (wpC_mono h (fun v1 s1 h1 => wpC_mono h1 (fun v2 s2 h2 => ?_) fun _ _ x => x) fun _ _ x => x))))
  refine wpC_any (wpAny_mono h2 (fun v s₁ h₁ => ?_) fun _ _ x => x)
  rw [hw]
  refine wpC_bindA (wpAny_pure ?_)
  show wpC M A (do rule "assign.swapped-stores"; let items ← unpackItems v names.length none; assignInOrder (names.reverse.map fun n => bindName env n) items.reverse; pure .next) Q nE s₁
  exact wpC_any (wpAny_bind (wpAny_rule (wpAny_bind (wpAny_mono h₁ (fun items s₂ h₂ => wpAny_bind (wpAny_mono h₂ (fun _ _ x => wpAny_pure x) fun _ _ x => x)) fun _ _ x => x))))
end
end Mine
end
section
open PySem PySem.W PyProof.Rows PySem.Calls PySem.Spec
open PySem.Sem (wp)
set_option maxRecDepth 100000
namespace Mine
section
variable {prog : Program} {w : World} {A : Around} {E : Value → Shared → Prop} {s : Shared} {h₀ : Heap} {L : Addr} {m : Str → Option Value} {env : Env}
/-- a tuple of the ledger, as a comprehension's source -/
def TupIn (ax : Addr) (its : Array Value) (news : List (Addr × Obj)) : Prop := ∃ n, (ax, ({ cls := .type "tuple", data := .seq its n } : Obj)) ∈ news
theorem TupIn.tuple {h : Heap} {ax : Addr} {its : Array Value} {news : List (Addr × Obj)} (x : TupIn ax its news) (N : News h₀ L h news) : h.IsTuple ax its := by
  obtain ⟨n, hm⟩ := x
  exact ⟨_, (N _ hm).1, rfl, n, rfl⟩
def TupSrc (prog : Program) (w : World) (A : Around) (h₀ : Heap) (L : Addr) (m : Str → Option Value) (env : Env) (elt : Expr) (x : Str) (scope : Scope) (cl : List (Str × Addr)) (Fin : Shared → List Value → List (Addr × Obj) → Prop) (xv : Value) (s₁ : Shared) : Prop :=
  ∃ ax its news, xv = .ref ax ∧ A.handled = none ∧ Fr h₀ L s₁.heap m ∧ News h₀ L s₁.heap news ∧ TupIn ax its news ∧ its.size ≤ sizeLine ∧
    ∀ s₂ : Shared, (∃ h, s₂ = { s₁ with heap := h }) → LCg.CompRest prog w A h₀ L m env elt x scope cl s₂ (TupIn ax its) (fun i v => its[i]? = some v) (Fin s₂) its.size 0 [] news
theorem tup_st {ax I : Addr} {its : Array Value} : ∀ i (h h' : Heap) (o : Obj) (nw : List (Addr × Obj)), (h.IsTupleIter I ax i ∧ h.IsTuple ax its) → h.get? I = some o → h'.get? I = some o → (∀ b o, h₀.get? b = some o → h'.get? b = some o) → News h₀ L h' nw → TupIn ax its nw → (h'.IsTupleIter I ax i ∧ h'.IsTuple ax its) :=
  fun i h h' o nw st e e' k N S => ⟨by obtain ⟨o', q, r⟩ := st.1; rw [e] at q; cases q; exact ⟨o, e', r⟩, S.tuple N⟩
theorem AssignComp_tup {elt iter : Expr} {x y : Str} {px py : Pos} {scope : Scope} {cl : List (Str × Addr)} {pos spos : Pos} {Q : Flow → Shared → Prop} (hLe : env.locals = L)
    (hsw : swapsWith (.ListComp elt [⟨.Name x px, iter, [], 0⟩] scope pos) (some (.Name y py)) spos.line env = pure true)
    (hclos : closureFor scope env = pure cl) (hcell : ∀ z ∈ scope.names, z.2 ≠ .cell) (hkind : scope.kind = .function)
    (hnames : ∀ z ∈ scope.names, z.2 = .local → scope.names.lookup z.1 = some .local) (hx : scope.names.lookup x = some .local)
    (hy : env.kindOf y = some .local) (hp : (env.scope.kind == .class || (env.scope.kind == .module && env.locals != env.globals)) = false)
    (hs : ∀ x, foldedSetIterable iter env x = pure x)
    (h : wpAny (model prog w) A (eval iter env) (TupSrc prog w A h₀ L m env elt x scope cl (fun s₂ => LCg.FinA h₀ L m s₂ y Q)) E s) :
    wpAny (model prog w) A (exec (.Assign [.Name y py] (.ListComp elt [⟨.Name x px, iter, [], 0⟩] scope pos) spos) env) Q E s := by
  subst hLe
  rw [exec_Assign_Name_used _ _ _ _ hsw]
  refine wpAny_bind (wpAny_standAt (wpAny_bind ?_))
  show wpAny _ A (do let _ ← comprehension (.ListComp elt [⟨.Name x px, iter, [], 0⟩] scope pos) scope env _ (newList []) false (eval iter env) (some (assign (.Name y py) env))) _ _ s
  refine wpAny_bind (wpAny_mono (wpAny_comprehension_free (use := some (assign (.Name y py) env)) (Q := fun _ s' => Q .next s') rfl hs hclos hkind hnames
    (wpAny_mono h (fun xv s₁ h₁ => ?_) fun _ _ e => e)) (fun _ s' hq => wpAny_pure (wpAny_pure hq)) fun _ _ e => e)
  obtain ⟨ax, its, news, rfl, hh, F, N, S, hsz, R⟩ := h₁
  have hl := S.tuple N
  have hlt : ax < s₁.heap.objs.size := by obtain ⟨_, e, _⟩ := hl; exact Heap.lt_size e
  refine wpAny_pyIter_tuple hl ?_
  have up : ∀ b o, s₁.heap.get? b = some o → (s₁.heap.push { cls := .type "tuple_iterator", data := .fields #[.ref ax, .int 0 0] }).get? b = some o := fun b o e => Heap.get?_push_of_some _ e
  refine LCg.block_U (Walks.tuple hh s₁.heap.objs.size ax (Nat.ne_of_lt hlt) its) hsz (fun i h st => by obtain ⟨o, e, _⟩ := st.1; exact ⟨o, e⟩) tup_st hcell hkind hx ⟨⟨_, Heap.get?_push_size _ rfl, rfl, rfl⟩, hl.push _⟩ (fun b hb => ?_)
    (F.keeps up) (N.grown up) (Nat.ne_of_lt F.ns.lt) (next_is_new F) (fun p hp => Nat.ne_of_lt (Heap.lt_size (N p hp).1)) S (R _ ⟨_, rfl⟩) ?_
  · show b < (s₁.heap.push _).objs.size
    rw [Heap.size_push]
    rcases List.mem_cons.mp hb with rfl | hb
    · exact Nat.lt_succ_self _
    · rw [List.mem_singleton.mp hb]; exact Nat.lt_succ_of_lt hlt
  · intro D C h' tk m' ys news' F' N' o1 hn hC₀ hD₀ hCL hDL hCD offC fin
    show wpAny _ A (assign (.Name y py) env (.ref D)) _ _ _
    refine wpAny_assign_Name (wpAny_storeName_local hy F'.ns (fun h₂ hn₂ hs₂ => ?_) hp)
    have hL₀ : h₀.get? env.locals = none := Heap.get?_none_of_le F'.above
    have F₂ : Fr h₀ env.locals h₂ (fun z => if z = y then some (.ref D) else m z) := ⟨hn₂, fun b o e => hs₂.extBut b o (fun q => by rw [q, hL₀] at e; cases e) (F'.keep b o e), F'.above⟩
    refine ⟨m', hn.sameBut hs₂ hCL, fun h'' hs'' => fin D h'' _ (F₂.change hs'' hCL hC₀) (fun p hp => ?_) o1⟩
    have z : h₂.get? p.1 = some p.2 := hs₂.extBut _ _ (N' p hp).2.1 (N' p hp).1
    refine ⟨hs''.extBut _ _ ?_ z, (N' p hp).2⟩
    rcases List.mem_cons.mp hp with rfl | hp
    · exact Ne.symm hCD
    · exact offC p hp
end
end Mine
end
section
open PySem PySem.W PyProof.Rows PySem.Calls
open PySem.Sem (wp)
set_option maxRecDepth 100000
namespace Mine
/-- the tuples of a row's places -/
def PlacesPre (ys : List Value) (ns : List Int) (w : List (Addr × Obj)) : Prop :=
  ∀ j y, ys[j]? = some y → ∃ P t1 t2 t3, y = .ref P ∧ (P, tup3 (.int (placeA (ns.getD j 0)) t1) (.int (placeB (ns.getD j 0)) t2) (.int (ns.getD j 0) t3)) ∈ w
theorem PlacesPre.mono {ys : List Value} {ns : List Int} {w w' : List (Addr × Obj)} (h : PlacesPre ys ns w) (k : ∀ q ∈ w, q ∈ w') : PlacesPre ys ns w' := fun j y e => by
  obtain ⟨P, t1, t2, t3, e1, hm⟩ := h j y e
  exact ⟨P, t1, t2, t3, e1, k _ hm⟩
def PlaceEnd (h₀ : Heap) (L : Addr) (m : Str → Option Value) (s₁ : Shared) (k : Int) (all : List (Addr × Obj)) (y : Value) (s₂ : Shared) : Prop :=
  ∃ P h' tk' t1 t2 t3, y = .ref P ∧ s₂ = { s₁ with heap := h', toks := tk' } ∧ Fr h₀ L h' m ∧ News h₀ L h' ((P, tup3 (.int (placeA k) t1) (.int (placeB k) t2) (.int k t3)) :: all) ∧ ∀ q ∈ all, @Ne Nat q.1 P
theorem places_rest {prog : Program} {w : World} {A : Around} {h₀ : Heap} {L : Addr} {m : Str → Option Value} {env : Env} {elt : Expr} {x : Str} {scope : Scope} {cl : List (Str × Addr)} {s : Shared} {Fin : List Value → List (Addr × Obj) → Prop} {ax : Addr} {vs : List Value} {ns : List Int} {ln : Nat} {news : List (Addr × Obj)}
    (hi : IntsAre vs ns) (hm : (ax, listOf vs.toArray ln) ∈ news)
    (turn : ∀ k t I oI C oC D m₂ ys h tk nw (E' : Value → Shared → Prop), LCg.NsObj oC m₂ → m₂ x = some (.int k t) → Fr h₀ L h m → News h₀ L h ((I, oI) :: (C, oC) :: (D, LCg.lst ys) :: nw) →
      wpAny (model prog w) A (eval elt (compEnvC scope cl C env)) (PlaceEnd h₀ L m { s with heap := h, toks := tk } k ((I, oI) :: (C, oC) :: (D, LCg.lst ys) :: nw)) E' { s with heap := h, toks := tk })
    (fin : ∀ ys fr, ys.length = ns.length → PlacesPre ys ns fr → (∀ q ∈ fr, ∀ p ∈ news, @Ne Nat q.1 p.1) → Fin ys (fr ++ news)) : LCg.CompRest prog w A h₀ L m env elt x scope cl s (LCg.SrcAt h₀ ax vs.toArray) (fun i v => vs.toArray[i]? = some v) Fin vs.toArray.size 0 [] news := by
  have hl : vs.length = ns.length := hi.length
  have key : ∀ (j i : Nat) (ys : List Value) (fr : List (Addr × Obj)), i + j = ns.length → ys.length = i → PlacesPre ys ns fr → (∀ q ∈ fr, ∀ p ∈ news, @Ne Nat q.1 p.1) → LCg.CompRest prog w A h₀ L m env elt x scope cl s (LCg.SrcAt h₀ ax vs.toArray) (fun i v => vs.toArray[i]? = some v) Fin j i ys (fr ++ news) := by
    intro j
    induction j with
    | zero =>
      intro i ys fr hij hy hp hk
      exact LCg.CompRest.zero (fin ys fr (by omega) hp hk)
    | succ j ih =>
      intro i ys fr hij hy hp hk
      refine LCg.CompRest.succ ?_
      intro v I oI C oC D m₂ h tk E' hv hC hx F N off ne
      obtain ⟨k, t, hv', hk'⟩ := IntsAre.at hi i v (by simpa using hv)
      subst hv'
      have hg : ns.getD i 0 = k := by simp [List.getD, hk']
      refine wpAny_mono (turn k t I oI C oC D m₂ ys h tk (fr ++ news) E' hC hx F N) (fun y s₂ hq => ?_) fun _ _ e => e
      obtain ⟨P, h', tk', t1, t2, t3, rfl, rfl, F', N', nP⟩ := hq
      refine ⟨h', tk', ((P, tup3 (.int (placeA k) t1) (.int (placeB k) t2) (.int k t3)) :: fr) ++ news, rfl, F', fun q hq => N' q ?_, ?_, .inr ⟨_, List.mem_append.mpr (.inr hm), rfl, _, rfl⟩, ?_⟩
      · simp only [List.mem_cons, List.cons_append] at hq ⊢
        rcases hq with h | h | h | h | h <;> simp [h]
      · exact ⟨⟨(nP _ (.head _)).symm, (nP _ (.tail _ (.head _))).symm, (nP _ (.tail _ (.tail _ (.head _)))).symm⟩, off⟩
      · refine ih (i + 1) _ _ (by omega) (by simp [hy]) (fun j' y' e => ?_) fun q hq p hp => ?_
        · rcases Nat.lt_trichotomy j' ys.length with h1 | h1 | h1
          · rw [List.getElem?_append_left h1] at e
            obtain ⟨P', a, b, c, e1, hm'⟩ := hp j' y' e
            exact ⟨P', a, b, c, e1, .tail _ hm'⟩
          · subst h1
            rw [List.getElem?_append_right (Nat.le_refl _), Nat.sub_self] at e
            simp only [List.getElem?_cons_zero, Option.some.injEq] at e
            rw [hy, hg]
            exact ⟨P, t1, t2, t3, e.symm, .head _⟩
          · rw [List.getElem?_append_right (by omega), List.getElem?_eq_none (by simp; omega)] at e
            cases e
        · rcases List.mem_cons.mp hq with rfl | hq
          · exact (nP p (.tail _ (.tail _ (.tail _ (List.mem_append.mpr (.inr hp)))))).symm
          · exact hk q hq p hp
  rw [List.size_toArray, hl]
  exact key ns.length 0 [] [] (by omega) rfl (fun j y e => by simp at e) fun q hq => nomatch hq
end Mine
end
section
open PySem PySem.W PyProof.Rows PySem.Calls PySem.Builtin
open PySem.Sem (wp)
set_option maxRecDepth 100000
namespace Mine
theorem slot_b_lt : Slot "bytes" (cmpInfo .Lt).2.1 "bytes.__lt__" :=
  .of (owner := "bytes") (n := "__lt__") (by rw [typeLookup_type, builtinLookup_eq_fast]; kernel_rfl) (by decide +kernel) (by decide +kernel) (by decide +kernel)
    (by first | exact .inl (by decide +kernel) | exact .inr (by decide +kernel)) (by rw [isSubtype_type]; kernel_rfl)
theorem entry_b_lt : entryFor table "bytes.__lt__" = some Builtin.«bytes.__lt__» := entryFor_of_tree (by kernel_rfl)
theorem args_b_lt (a b : Value) : argsOk "bytes.__lt__" ⟨[a, b], []⟩ := by
  unfold argsOk; rw [signature?_of (id := "bytes.__lt__") (n := ['_', '_', 't', 'l', '_', '_']) (o := ['s', 'e', 't', 'y', 'b']) (by kernel_rfl) FB.owner_bytes]; kernel_rfl
theorem gives_b_lt (b c : Array UInt8) (t u : Tok) : Gives («bytes.__lt__» ⟨[.bytes b t, .bytes c u], []⟩) (.val (.bool (Bytes.order b.toList c.toList == .lt))) := by
  refine .of_wp fun M A E s Q hq => ?_
  show wpAny M A (isInstance (.bytes c u) (.type "bytes") >>= fun r => _) _ E s
  refine wpAny_bind (wpAny_isInstance (typeIs_bytes s c u) F.sub_bytes_bytes ?_)
  exact wpAny_pure ⟨_, rfl, hq⟩
section
variable {prog : Program} {w : World} {A : Around} {E : Value → Shared → Prop} {s : Shared} {b c : Array UInt8} {t u : Tok}
theorem lt_bytes {Q : Value → Shared → Prop} (h : Q (.bool (Bytes.order b.toList c.toList == .lt)) s) : wpAny (model prog w) A (compareOp .Lt (.bytes b t) (.bytes c u)) Q E s :=
  compareOp_gives (op := .Lt) (typeIs_bytes s b t) (typeIs_bytes s c u) slot_b_lt entry_b_lt (args_b_lt _ _) (gives_b_lt b c t u) (fun e => nomatch e) h
theorem not_tuple_bytes : isSubtype (.type "bytes") (.type "tuple") = pure false := by rw [isSubtype_type]; kernel_rfl
/-- does b open with c -/
def openB (b c : Array UInt8) : Bool := if (b.size : Int) - 0 < c.size then false else b.extract 0 (0 + c.size) == c
theorem gives_b_starts (b c : Array UInt8) (t u : Tok) : Gives («bytes.startswith» ⟨[.bytes b t, .bytes c u], []⟩) (.val (.bool (openB b c))) := by
  refine .of_wp fun M A E s Q hq => ?_
  show wpAny M A (isInstance (.bytes c u) (.type "tuple") >>= fun r => _) _ E s
  refine wpAny_bind (wpAny_isInstance (typeIs_bytes s c u) not_tuple_bytes ?_)
  show wpAny M A (Bytes.buffer? "bytes.startswith" (.bytes c u) >>= fun r => _) _ E s
  refine wpAny_bind (wpAny_of_eq KBy.buffer_eq ?_)
  refine wpAny_pure ⟨_, rfl, ?_⟩
  have e : (Bytes.window b.size none none) = (0, (b.size : Int)) := by
    unfold Bytes.window
    simp
    omega
  show Q (.bool (if (Bytes.window b.size none none).2 - (Bytes.window b.size none none).1 < c.size then false else b.extract (Bytes.window b.size none none).1.toNat ((Bytes.window b.size none none).1.toNat + c.size) == c)) s
  rw [e]
  exact hq
theorem starts_bytes {Q : Value → Shared → Prop} (h : Q (.bool (openB b c)) s) : wpAny (model prog w) A (call (.builtin "bytes.startswith") [.bytes b t, .bytes c u]) Q E s :=
  call_gives FB.slot_bytes_startswith (typeIs_bytes s b t) FB.entry_bytes_startswith (FB.args_bytes_startswith_2 _ _) (gives_b_starts b c t u) h
theorem meth_starts {M : Model} {pl : Sem Bool} {Q : Value × List Value → Shared → Prop} (h : Q (.builtin "bytes.startswith", [.bytes b t]) s) : wpAny M A (getMethod (.bytes b t) "startswith" pl) Q E s := by
  with_reducible exact KBd.method_of (.bytes b t) (typeIs_bytes _ _ _) FB.slot_bytes_startswith FB.type_bytes_startswith KBd.noRef h
/-- the same truth on both sides -/
theorem ne_same {x : Bool} {Q : Value → Shared → Prop} (h : Q (.bool false) s) : wpAny (model prog w) A (compareOp .NotEq (.bool x) (.bool x)) Q E s :=
  PySem.SeqAt.RcNeAt.bool_bool x x prog w E Q (by simpa using h)
end
end Mine
end
section
open PySem PySem.W PyProof.Rows PySem.Calls
open PySem.Sem (wp)
set_option maxRecDepth 100000
namespace Mine
open PySem.SeqAt in
theorem eqAt_bytes {A : Around} {s : Shared} (a b : Array UInt8) (t u : Tok) : EqAt A s (.bytes a t) (.bytes b u) (a.toList == b.toList) := fun prog w E Q h => by
  unfold eqBool
  refine wpAny_holding ?_
  refine wpAny_ite_split (fun hab => ?_) (fun _ => ?_)
  · have e : Value.bytes a t = .bytes b u := eq_of_beq hab
    injection e with e1 e2
    subst e1
    rw [beq_self_eq_true] at h
    exact wpAny_bind (wpAny_rule (wpAny_pure h))
  · exact wpAny_bind ((eq_bytes (Q := fun v s' => wpAny (model prog w) A (truthOfDropped v) Q E s') (wpAny_truthy_bool h) : wpAny _ A (compareOp .Eq _ _) _ _ s))
theorem ltAt_bytes {A : Around} {s : Shared} (a b : Array UInt8) (t u : Tok) : LtAt A s (.bytes a t) (.bytes b u) (ordB a.toList b.toList == .lt) := fun _ _ _ _ h => (lt_bytes h : wpAny _ A (compareOp .Lt _ _) _ _ s)
section
variable {prog : Program} {w : World} {A : Around} {E : Value → Shared → Prop} {s : Shared} {g : Heap} {L : Addr} {news : List (Addr × Obj)}
open PySem.SeqAt
/-- (size, octets) of two -/
theorem lt_pairs {P1 P2 : Addr} {b1 b2 : Array UInt8} {t1 t2 u1 u2 : Tok} {Q : Value → Shared → Prop} (N : News g L s.heap news) (m1 : (P1, tup2 (.int b1.size t1) (.bytes b1 u1)) ∈ news) (m2 : (P2, tup2 (.int b2.size t2) (.bytes b2 u2)) ∈ news) (hu : A.units + 4 < cLine)
    (h : Q (.bool (sizeLt b1.toList b2.toList)) s) : wpAny (model prog w) A (compareOp .Lt (.ref P1) (.ref P2)) Q E s := by
  have z := LtAt.tuples (A := A) (s := s) (l := P1) (b := P2) (items := #[.int b1.size t1, .bytes b1 u1]) (items2 := #[.int b2.size t2, .bytes b2 u2])
    (e := fun j => match j with | 0 => ((b1.size : Int) == (b2.size : Int)) | _ => (b1.toList == b2.toList)) (lt := fun j => match j with | 0 => decide ((b1.size : Int) < (b2.size : Int)) | _ => (ordB b1.toList b2.toList == .lt))
    ⟨_, (N _ m1).1, rfl, _, rfl⟩ ⟨_, (N _ m2).1, rfl, _, rfl⟩ rfl (by omega) (fun j h1 h2 => by
      match j, h1 with
      | 0, _ => exact EqAt.int_int _ _ _ _
      | 1, _ => exact eqAt_bytes _ _ _ _) (fun j h1 h2 => by
      match j, h1 with
      | 0, _ => exact LtAt.int _ _ _ _
      | 1, _ => exact ltAt_bytes _ _ _ _)
  have e : firstDiff (fun j => match j with | 0 => ((b1.size : Int) == (b2.size : Int)) | _ => (b1.toList == b2.toList)) (fun j => match j with | 0 => decide ((b1.size : Int) < (b2.size : Int)) | _ => (ordB b1.toList b2.toList == .lt)) 2 0 false = sizeLt b1.toList b2.toList :=
    firstDiff_size (by show ((b1.size : Int) == (b2.size : Int)) = _; rw [Array.length_toList, Array.length_toList, Bool.eq_iff_iff, beq_iff_eq, decide_eq_true_eq]; omega) (by simp) rfl rfl
  exact z prog w E Q (by
    show Q (.bool (firstDiff _ _ 2 0 false)) s
    rw [e]; exact h)
theorem place_eq {i j : Int} : ((List.range 3).all fun k => match k with | 0 => (placeA i == placeA j) | 1 => (placeB i == placeB j) | _ => (i == j)) = decide (i = j) := by
  have e : List.range 3 = [0, 1, 2] := by decide
  rw [e]
  by_cases h : i = j
  · subst h; simp
  · simp [h]
theorem place_lt {i j : Int} : firstDiff (fun k => match k with | 0 => (placeA i == placeA j) | 1 => (placeB i == placeB j) | _ => (i == j)) (fun k => match k with | 0 => decide (placeA i < placeA j) | 1 => decide (placeB i < placeB j) | _ => decide (i < j)) 3 0 false = keyLtB i j := by
  show (if (placeA i == placeA j) = true then (if (placeB i == placeB j) = true then (if (i == j) = true then false else decide (i < j)) else decide (placeB i < placeB j)) else decide (placeA i < placeA j)) = keyLtB i j
  unfold keyLtB
  by_cases h1 : placeA i = placeA j
  · by_cases h2 : placeB i = placeB j
    · by_cases h3 : i = j
      · subst h3; simp
      · simp [h1, h2, h3]
    · simp [h1, h2]
  · simp [h1]
/-- two lists of places -/
theorem lt_places {D1 D2 : Addr} {ys1 ys2 : List Value} {n1 n2 : Nat} {na nb : List Int} {fr : List (Addr × Obj)} {Q : Value → Shared → Prop} (N : News g L s.heap news) (m1 : (D1, listOf ys1.toArray n1) ∈ news) (m2 : (D2, listOf ys2.toArray n2) ∈ news)
    (hp1 : PlacesPre ys1 na fr) (hp2 : PlacesPre ys2 nb fr) (Nf : News g L s.heap fr) (hl1 : ys1.length = na.length) (hl2 : ys2.length = nb.length) (hl : na.length = nb.length) (hu : A.units + 4 < cLine)
    (h : Q (.bool (rowLt na nb)) s) : wpAny (model prog w) A (compareOp .Lt (.ref D1) (.ref D2)) Q E s := by
  have hin : A.in1.units = A.units + 1 := rfl
  have hin2 : A.in1.in1.units = A.units + 2 := rfl
  have z := LtAt.lists (A := A) (s := s) (l := D1) (b := D2) (items := ys1.toArray) (items2 := ys2.toArray) (e := fun j => decide (na.getD j 0 = nb.getD j 0)) (lt := fun j => keyLtB (na.getD j 0) (nb.getD j 0))
    ⟨_, (N _ m1).1, rfl, _, rfl⟩ ⟨_, (N _ m2).1, rfl, _, rfl⟩ (by simp [hl1, hl2, hl]) (by omega) (fun j h1 h2 => by
      obtain ⟨P, t1, t2, t3, e1, q1⟩ := hp1 j ys1.toArray[j] (by simp at h1; simp [h1])
      obtain ⟨P', u1, u2, u3, e2, q2⟩ := hp2 j ys2.toArray[j] (by simp at h2; simp [h2])
      rw [e1, e2]
      by_cases hP : P = P'
      · subst hP
        have o := (Nf _ q1).1.symm.trans (Nf _ q2).1
        injection o with o
        have o2 : (#[Value.int (placeA (na.getD j 0)) t1, .int (placeB (na.getD j 0)) t2, .int (na.getD j 0) t3] : Array Value) = #[Value.int (placeA (nb.getD j 0)) u1, .int (placeB (nb.getD j 0)) u2, .int (nb.getD j 0) u3] := by
          injection o with _ _ od _
          injection od
        have o3 : na.getD j 0 = nb.getD j 0 := by
          have := congrArg Array.toList o2
          simp at this
          exact this.2.2.1
        rw [decide_eq_true o3]
        exact EqAt.same _
      · rw [← place_eq]
        have y := RcAt.tuples (A := A.in1) (s := s) (l := P) (b := P') (items := #[.int (placeA (na.getD j 0)) t1, .int (placeB (na.getD j 0)) t2, .int (na.getD j 0) t3]) (items2 := #[.int (placeA (nb.getD j 0)) u1, .int (placeB (nb.getD j 0)) u2, .int (nb.getD j 0) u3])
          (e := fun k => match k with | 0 => (placeA (na.getD j 0) == placeA (nb.getD j 0)) | 1 => (placeB (na.getD j 0) == placeB (nb.getD j 0)) | _ => (na.getD j 0 == nb.getD j 0)) ⟨_, (Nf _ q1).1, rfl, _, rfl⟩ ⟨_, (Nf _ q2).1, rfl, _, rfl⟩ (by omega) (fun k h1 h2 => by
            match k, h1 with
            | 0, _ => exact EqAt.int_int _ _ _ _
            | 1, _ => exact EqAt.int_int _ _ _ _
            | 2, _ => exact EqAt.int_int _ _ _ _)
        refine EqAt.of_refs hP ?_
        simpa using y) (fun j h1 h2 => by
      obtain ⟨P, t1, t2, t3, e1, q1⟩ := hp1 j ys1.toArray[j] (by simp at h1; simp [h1])
      obtain ⟨P', u1, u2, u3, e2, q2⟩ := hp2 j ys2.toArray[j] (by simp at h2; simp [h2])
      rw [e1, e2, ← place_lt]
      exact LtAt.tuples (A := A.in1) (s := s) (l := P) (b := P') (items := #[.int (placeA (na.getD j 0)) t1, .int (placeB (na.getD j 0)) t2, .int (na.getD j 0) t3]) (items2 := #[.int (placeA (nb.getD j 0)) u1, .int (placeB (nb.getD j 0)) u2, .int (nb.getD j 0) u3])
          (e := fun k => match k with | 0 => (placeA (na.getD j 0) == placeA (nb.getD j 0)) | 1 => (placeB (na.getD j 0) == placeB (nb.getD j 0)) | _ => (na.getD j 0 == nb.getD j 0))
          (lt := fun k => match k with | 0 => decide (placeA (na.getD j 0) < placeA (nb.getD j 0)) | 1 => decide (placeB (na.getD j 0) < placeB (nb.getD j 0)) | _ => decide (na.getD j 0 < nb.getD j 0)) ⟨_, (Nf _ q1).1, rfl, _, rfl⟩ ⟨_, (Nf _ q2).1, rfl, _, rfl⟩ rfl (by omega) (fun k h1 h2 => by
            match k, h1 with
            | 0, _ => exact EqAt.int_int _ _ _ _
            | 1, _ => exact EqAt.int_int _ _ _ _
            | 2, _ => exact EqAt.int_int _ _ _ _) (fun k h1 h2 => by
            match k, h1 with
            | 0, _ => exact LtAt.int _ _ _ _
            | 1, _ => exact LtAt.int _ _ _ _
            | 2, _ => exact LtAt.int _ _ _ _))
  refine z prog w E Q ?_
  rw [firstDiff_row ys1.toArray.size na nb 0 _ _ (by simp [hl1]) (by simp [hl1, hl]) (fun k _ => by simp) (fun k _ => by simp)]
  exact h
end
end Mine
end
section
open PySem PySem.W PyProof.Rows PySem.Calls
open PySem.Sem (wp)
set_option maxRecDepth 100000
namespace Mine
def RowsMeet (na nb : List Int) : Prop := na.length = nb.length ∧ (∀ i ∈ na, In64 i) ∧ (∀ i ∈ nb, In64 i)
theorem RowsMeet.symm {na nb : List Int} (h : RowsMeet na nb) : RowsMeet nb na := ⟨h.1.symm, h.2.2, h.2.1⟩
theorem openB_of {b c : Array UInt8} (h : openB b c = true) : opensB b.toList c.toList = true := by
  unfold openB at h
  split at h
  · cases h
  · have e := eq_of_beq h
    unfold opensB
    rw [beq_iff_eq, ← e]
    simp
section
variable {prog : Program} {w : World} {A : Around} {E : Value → Shared → Prop} {s : Shared} {na nb : List Int} {t u : Tok} {Q : Value → Shared → Prop}
theorem lt_rows (hm : RowsMeet na nb) (h : Q (.bool (rowLt na nb)) s) : wpAny (model prog w) A (compareOp .Lt (.bytes (encRow na).toArray t) (.bytes (encRow nb).toArray u)) Q E s :=
  lt_bytes (by
    show Q (.bool (ordB (encRow na) (encRow nb) == .lt)) s
    rw [encRow_ord hm.1 hm.2.1 hm.2.2]; exact h)
theorem eq_rows (hm : RowsMeet na nb) (h : Q (.bool (na == nb)) s) : wpAny (model prog w) A (compareOp .Eq (.bytes (encRow na).toArray t) (.bytes (encRow nb).toArray u)) Q E s :=
  eq_bytes (by
    show Q (.bool (encRow na == encRow nb)) s
    rw [encRow_eq hm.1 hm.2.1 hm.2.2]; exact h)
theorem ne_rows_same (hm : na = nb) (h : Q (.bool false) s) : wpAny (model prog w) A (compareOp .NotEq (.bytes (encRow na).toArray t) (.bytes (encRow nb).toArray u)) Q E s :=
  ne_bytes (by subst hm; simpa using h)
theorem ne_rows_diff (hm : RowsMeet na nb) (hn : ¬ na = nb) (h : Q (.bool true) s) : wpAny (model prog w) A (compareOp .NotEq (.bytes (encRow na).toArray t) (.bytes (encRow nb).toArray u)) Q E s :=
  ne_bytes (by
    have e : (encRow na == encRow nb) = false := by rw [encRow_eq hm.1 hm.2.1 hm.2.2]; simpa using hn
    show Q (.bool (!(encRow na == encRow nb))) s
    rw [e]; exact h)
theorem starts_rows (hm : RowsMeet na nb) (hn : ¬ na = nb) (h : Q (.bool false) s) : wpAny (model prog w) A (call (.builtin "bytes.startswith") [.bytes (encRow na).toArray t, .bytes (encRow nb).toArray u]) Q E s :=
  starts_bytes (by
    have e : openB (encRow na).toArray (encRow nb).toArray = false := by
      cases k : openB (encRow na).toArray (encRow nb).toArray with
      | false => rfl
      | true => exact absurd (encRow_opens hm.1 hm.2.1 hm.2.2 (openB_of k)) hn
    rw [e]; exact h)
theorem all_eq (n : Nat) : ∀ (na nb : List Int), na.length = n → nb.length = n → ((List.range n).all fun j => (na.getD j 0 == nb.getD j 0)) = (na == nb) := by
  intro na nb h1 h2
  rw [Bool.eq_iff_iff, List.all_eq_true, beq_iff_eq]
  constructor
  · intro h
    refine List.ext_getElem (by omega) fun i k1 k2 => ?_
    have := h i (List.mem_range.mpr (by omega))
    simp only [List.getD, List.getElem?_eq_getElem k1, List.getElem?_eq_getElem k2, Option.getD_some, beq_iff_eq] at this
    exact this
  · rintro rfl j _
    exact beq_self_eq_true _
open PySem.SeqAt in
theorem eq_lists {g : Heap} {L l b : Addr} {va vb : List Value} {n1 n2 : Nat} {news : List (Addr × Obj)} (N : News g L s.heap news) (m1 : (l, listOf va.toArray n1) ∈ news) (m2 : (b, listOf vb.toArray n2) ∈ news) (ha : IntsAre va na) (hb : IntsAre vb nb) (hm : RowsMeet na nb) (hu : A.units + 4 < cLine)
    (h : Q (.bool (na == nb)) s) : wpAny (model prog w) A (compareOp .Eq (.ref l) (.ref b)) Q E s := by
  have z := RcAt.lists (A := A) (s := s) (l := l) (b := b) (items := va.toArray) (items2 := vb.toArray) (e := fun j => (na.getD j 0 == nb.getD j 0)) ⟨_, (N _ m1).1, rfl, _, rfl⟩ ⟨_, (N _ m2).1, rfl, _, rfl⟩ (by simp [ha.length, hb.length, hm.1]) (by omega) (fun j h1 h2 => by
    obtain ⟨i1, t1, e1, q1⟩ := IntsAre.at ha j va.toArray[j] (by simp at h1; simp [h1])
    obtain ⟨i2, t2, e2, q2⟩ := IntsAre.at hb j vb.toArray[j] (by simp at h2; simp [h2])
    rw [e1, e2]
    have g1 : na.getD j 0 = i1 := by simp [List.getD, q1]
    have g2 : nb.getD j 0 = i2 := by simp [List.getD, q2]
    rw [g1, g2]
    exact EqAt.int_int _ _ _ _)
  refine z prog w E Q ?_
  rw [all_eq va.toArray.size na nb (by simp [ha.length]) (by simp [ha.length, hm.1])]
  exact h
end
theorem item_pair0 {prog : Program} {w : World} {A : Around} {E : Value → Shared → Prop} {s : Shared} {value slice : Expr} {g : Heap} {L l : Addr} {a b : Value} {ln : Nat} {news : List (Addr × Obj)} {t : Tok} {Q : Value → Shared → Prop} (N : News g L s.heap news) (hm : (l, listOf #[a, b] ln) ∈ news) (h : Q a s)
    (hs : subscripted slice false (.ref l) (.int 0 t) = operate [.ref l, .int 0 t] (getItem (.ref l) (.int 0 t))) (ht : ∀ r, letTemporaryGo value (.ref l) r = pure ()) : wpAny (model prog w) A (subscriptTail value slice (.ref l) (.int 0 t)) Q E s :=
  item_listN N hm (by decide) (by decide) rfl h hs ht
theorem item_pair1 {prog : Program} {w : World} {A : Around} {E : Value → Shared → Prop} {s : Shared} {value slice : Expr} {g : Heap} {L l : Addr} {a b : Value} {ln : Nat} {news : List (Addr × Obj)} {t : Tok} {Q : Value → Shared → Prop} (N : News g L s.heap news) (hm : (l, listOf #[a, b] ln) ∈ news) (h : Q b s)
    (hs : subscripted slice false (.ref l) (.int 1 t) = operate [.ref l, .int 1 t] (getItem (.ref l) (.int 1 t))) (ht : ∀ r, letTemporaryGo value (.ref l) r = pure ()) : wpAny (model prog w) A (subscriptTail value slice (.ref l) (.int 1 t)) Q E s :=
  item_listN N hm (by decide) (by decide) rfl h hs ht
theorem RowsMeet.len {na nb : List Int} (h : RowsMeet na nb) : na.length = nb.length := h.1
theorem news_fr {g h : Heap} {L : Addr} {a b c d e i k : Addr × Obj} {fr r : List (Addr × Obj)} (N : News g L h (a :: b :: c :: d :: e :: i :: k :: (fr ++ r))) : News g L h fr := fun q hq => N q (by simp [hq])
end Mine
end
section
open PySem PySem.W PyProof.Rows PySem.Calls
open PySem.Sem (wp)
set_option maxRecDepth 100000
namespace Mine
theorem topOffZ7 : True := by
  w_top off
  trivial
local macro_rules | `(tactic| k_all) => `(tactic| assumption)
local macro_rules | `(tactic| k_room) => `(tactic| ktr_room)
local macro_rules | `(tactic| k_units) => `(tactic| first | ktr_units | ((try dsimp only); (try simp only [units_make, units_deeper, units_in1, Around.mark_units]); omega))
local macro_rules | `(tactic| walk_at "c_fill") => `(tactic| (have kf : PySem.Challenge.rw_fg0013_01 = PySem.Challenge.rw_fg0013_01 ∧ Mine.hd.heap_39 = Mine.hd.heap_39 := (by k_fill; exact ⟨rfl, rfl⟩)); clear kf)
local macro_rules | `(tactic| walk_at "c_enter") => `(tactic| (k_dflt (refine' callC_def ?kBL ?k1 ?k2 ?k3 ?k4 ?k5 ?kA ?kF ?kK ?k6 ?k7 ?k8 ?k9 ?kB ?_ ?c5 ?c2 ?c3 ?c4; (case kBL => assumption); (case kA => exact rfl); (case kF => exact rfl); (case kK => assumption); (case k1 => k_asm); (case k2 => k_asm); (case k3 => k_asm); (case k4 => k_asm); (case k5 => k_asm); (case k6 => k_is); (case k7 => k_is); (case k8 => ktr_room); (case k9 => first | exact BindsTo.of_eq rfl | exact binds_K (by k_in) rfl (by k_is) rfl rfl rfl | (refine' kp_binds ?kx ?ke; (case kx => k_in); (case ke => exact fun _ => rfl))); (case kB => exact locs rfl); (case c5 => decide); (case c2 => exact rfl); (case c3 => exact rfl); (case c4 => exact rfl); k_whole; intro g' L' h' tk' FG' F' N' B' X' T' l1; (try k_lt l1); (try dsimp only))))
local macro_rules | `(tactic| walk_at "c_enter2") => `(tactic| (k_dflt (refine' callC_def ?kBL ?k1 ?k2 ?k3 ?k4 ?k5 ?kA ?kF ?kK ?k6 ?k7 ?k8 ?k9 ?kB ?_ ?c5 ?c2 ?c3 ?c4; (case kA => exact rfl); (case kF => exact rfl); (case kK => exact rfl); (case k1 => k_asm); (case k2 => k_asm); (case k3 => k_asm); (case k4 => k_asm); (case k5 => k_asm); (case k6 => k_is); (case k7 => k_is); (case k8 => ktr_room); (case k9 => first | exact BindsTo.of_eq rfl | exact binds_K (by k_in) rfl (by k_is) rfl rfl rfl | (refine' kp_binds ?kx ?ke; (case kx => k_in); (case ke => exact fun _ => rfl))); (case kB => exact locs rfl); (case kBL => exact bl _); (case c5 => decide); (case c2 => exact rfl); (case c3 => exact rfl); (case c4 => exact rfl); k_whole; intro g' L' h' tk' FG' F' N' B' X' T' l1; (try k_lt l1); (try dsimp only))))
local macro_rules | `(tactic| walk_at "c_both") => `(tactic| (k_dflt (refine' kp_both ?k1 ?k2 ?k3 ?k4 ?k5 ?kA ?kF ?kK ?k6 ?k7 ?k8 ?kV ?kX ?kQ ?kM ?kN ?kD ?kR ?kP ?kS ?kT ?kB ?_ ?c2 ?c3 ?c4 ?c5; (case kA => exact rfl); (case kF => exact rfl); (case kK => assumption); (case k1 => k_asm); (case k2 => k_asm); (case k3 => k_asm); (case k4 => k_asm); (case k5 => k_asm); (case k6 => k_is); (case k7 => k_is); (case k8 => ktr_room); (case kV => kp_lit); (case kX => kp_lit); (case kQ => exact rfl); (case kM => exact rfl); (case kN => exact rfl); (case kD => kp_flats); (case kR => exact rfl); (case kP => exact rfl); (case kS => exact fun _ => rfl); (case kT => exact fun _ _ => rfl); (case kB => exact fun _ _ => locs rfl); (case c5 => decide); (case c2 => exact rfl); (case c3 => exact rfl); (case c4 => exact rfl); k_whole; intro C' D' o' g' L' h' tk' l1 l2 lo' hs' fs' FG' F' N' B' X' T'; (try k_lt l1); (try k_lt2 l2); (try dsimp only))))
local macro_rules | `(tactic| walk_at "call type:type") => `(tactic| (k_here; (with_reducible show wpAny _ _ (call (Value.type "type") [Value.bytes _ _]) _ _ _); refine call_type_of (Tx := "bytes") rfl (by decide +kernel) ?_))
local macro_rules | `(tactic| walk_at "wpC") => `(tactic| (with_reducible refine wpC_any ?_))
local macro_rules | `(tactic| walk_at "wpC") => `(tactic| (with_reducible refine execsC_any ?_))
local macro_rules | `(tactic| walk_at "wpC") => `(tactic| (refine' execsC_nil ?_))
local macro_rules | `(tactic| walk_at "wpC") => `(tactic| ((with_reducible show wpC _ _ (execs _ _) _ _ _); with_reducible refine execsC_cons ?_; refine' wpC_If ?_))
local macro_rules | `(tactic| walk_at "wpC") => `(tactic| ((with_reducible show wpC _ _ (execs _ _) _ _ _); with_reducible refine execsC_cons ?_; refine' wpC_While ?_; refine' codeC_while ?_))
local macro_rules | `(tactic| walk_at "wpC") => `(tactic| ((with_reducible show wpC _ _ (execs _ _) _ _ _); with_reducible refine execsC_cons ?_; refine' wpC_Try ?_))
local macro_rules | `(tactic| walk_at "wpC") => `(tactic| ((with_reducible show wpC _ _ (execs _ _) _ _ _); with_reducible refine execsC_cons ?_; refine' wpC_For ?_ ?hs; (case hs => intro _; with_unfolding_all rfl)))
local macro_rules | `(tactic| walk_at "pyIter ref") => `(tactic| ((with_reducible show wpAny _ _ (pyIter (Value.ref _)) (fun _ _ => codeC _ _ _ _ _) _ _); (with_reducible rename IsRange _ _ _ _ _ _ _ _ => R9); refine wpAny_pyIter_range R9 ?hsmall ?_; (case hsmall => walk_at "c_small")))
local macro_rules | `(tactic| walk_at "wpC") => `(tactic| ((with_reducible show wpC _ _ (execs _ _) _ _ _); with_reducible refine execsC_cons ?_; refine' wpC_Return ?_; refine' evalC_method ?_ ?he; (case he => with_unfolding_all rfl)))
local macro_rules | `(tactic| walk_at "wpC") => `(tactic| ((with_reducible show wpC _ _ (execs _ _) _ _ _); with_reducible refine execsC_cons ?_; refine' wpC_Expr ?_ ?hi ?hs; (case hi => with_unfolding_all rfl); (case hs => with_unfolding_all rfl); refine' evalC_method ?_ ?he; (case he => with_unfolding_all rfl)))
local macro_rules | `(tactic| walk_at "wpC") => `(tactic| ((with_reducible show wpC _ _ (execs _ _) _ _ _); with_reducible refine execsC_cons ?_; refine' wpC_AssignAttr ?_ ?hs; (case hs => with_unfolding_all rfl)))
local macro_rules | `(tactic| walk_at "wpC") => `(tactic| ((with_reducible show wpC _ _ (execs _ _) _ _ _); with_reducible refine execsC_cons ?_; refine' wpC_AssignSub ?_ ?hs; (case hs => with_unfolding_all rfl)))
local macro_rules | `(tactic| walk_at "wpC") => `(tactic| ((with_reducible show wpC _ _ (eval _ _) _ _ _); refine' evalC_ifExp ?_))
local macro_rules | `(tactic| walk_at "wpC") => `(tactic| ((with_reducible show wpC _ _ (eval _ _) _ _ _); refine' evalC_call ?_ ?he; (case he => with_unfolding_all rfl)))
local macro_rules | `(tactic| walk_at "wpC") => `(tactic| ((with_reducible show wpC _ _ (callWith _ _ _ _ _) _ _ _); k_dflt (first | refine' callWithC_T0 ?_ | (refine' callWithC_K0 ?k1 ?k2 ?_; (case k1 => k_in); (case k2 => k_is); k_whole) | (refine' callWithC_K ?k1 ?k2 ?_; (case k1 => k_asm); (case k2 => k_is); k_whole))))
local macro_rules | `(tactic| walk_at "wpC") => `(tactic| ((with_reducible show wpC _ _ (call _ _) _ _ _); k_dflt (show wpC _ _ (call (Value.type "bytearray") []) _ _ _); (with_reducible rename Fr _ _ _ _ => F9); (with_reducible rename News _ _ _ _ => N9); (refine call_baN (s := ⟨_, _, _, _, _⟩) F9 N9 ?_); intro ba' h' F' N' l1; (try k_lt l1)))
local macro_rules | `(tactic| walk_at "wpC") => `(tactic| ((with_reducible show wpC _ _ (setItem (.ref _) (.ref _) (.bytes _ _)) _ _ _); (with_reducible rename Fr _ _ _ _ => F9); (with_reducible rename News _ _ _ _ => N9); refine setItem_N (s := ⟨_, _, _, _, _⟩) F9 N9 (by assumption) (by assumption) (by assumption) (by rw [sizeLine_eq]; omega) ?_; intro _ F' N'))
local macro_rules | `(tactic| walk_at "call builtin:len") => `(tactic| (k_here; (with_reducible show wpAny _ _ (call (Value.builtin "len") [Value.ref _]) _ _ _); (with_reducible rename News _ _ _ _ => N9); refine len_ba (bs := _) (News.get N9 (by repeat (first | exact List.Mem.head _ | apply List.Mem.tail))) (by omega) ?_; have N' := N9; clear N9))
local macro_rules | `(tactic| walk_at "call type:bytes") => `(tactic| (k_here; (with_reducible show wpAny _ _ (call (Value.type "bytes") [Value.ref _]) _ _ _); (with_reducible rename News _ _ _ _ => N9); refine call_bytes_ba (bs := _) (News.get N9 (by repeat (first | exact List.Mem.head _ | apply List.Mem.tail))) (by rw [sizeLine_eq]; first | omega | (simp only [List.size_toArray]; omega)) ?_; have N' := N9; clear N9))
local macro_rules | `(tactic| walk_at "wpC") => `(tactic| ((with_reducible show wpC _ _ (callWith _ (Value.ref _) _ (backTo _ (starEach (_ :: _) _)) _) _ _ _); k_dflt (refine' callWithC_K ?k1 ?k2 ?_; (case k1 => k_asm); (case k2 => k_is); k_whole)))
local macro_rules | `(tactic| walk_at "binaryOp Pow int int") => `(tactic| (k_here; (with_reducible refine pow_int_small ?kb1 ?kb2 ?kb3 ?_); (case kb1 => decide); (case kb2 => decide); (case kb3 => decide)))
local macro_rules | `(tactic| walk_at "subscriptTail Name BinOp ref int") => `(tactic| (k_here; (with_reducible show wpAny _ _ (subscriptTail _ _ (Value.ref _) (Value.int _ _)) _ _ _); (with_reducible rename News _ _ _ _ => N9); k_dflt (refine' item_ints N9 ?hm ?hi ?h0 ?h1 ?h2 ?_ ?hs ?ht; (case hs => with_unfolding_all rfl); (case ht => (intro _; with_unfolding_all rfl)); (case hm => repeat (first | exact List.Mem.head _ | apply List.Mem.tail)); (case hi => assumption); (case h0 => exact IdxOk.a (by assumption) (by assumption) (by assumption)); (case h1 => exact IdxOk.b (by assumption) (by assumption) (by assumption)); (case h2 => exact IdxOk.c (by assumption) (by assumption) (by assumption))); intro u'; have N' := N9; clear N9))
local macro_rules | `(tactic| walk_at "eval Name") => `(tactic| (k_here; (with_reducible rename Fr _ _ _ _ => kF); k_dflt (refine' nameX_L kF ?hv ?_ ?hk ?hx ?hd; (case hk => rfl); (case hx => rfl); (case hd => decide); (case hv => assumption); k_whole)))
local macro_rules | `(tactic| walk_at "wpC") => `(tactic| ((with_reducible show wpC _ _ (execs (Stmt.Assign [Expr.Name _ _] _ _ :: _) _) _ _ _); with_reducible refine execsC_any ?_))
local macro_rules | `(tactic| walk_at "subscriptTail Name Name ref int") => `(tactic| (k_here; (with_reducible show wpAny _ _ (subscriptTail _ _ (Value.ref _) (Value.int _ _)) _ _ _); (with_reducible rename News _ _ _ _ => N9); k_dflt (refine' item_listN N9 ?hm ?h0 ?h1 ?hx ?_ ?hs ?ht; (case hs => with_unfolding_all rfl); (case ht => (intro _; with_unfolding_all rfl)); (case hm => k_mem); (case hx => assumption); (case h0 => omega); (case h1 => omega)); have N' := N9; clear N9))
local macro_rules | `(tactic| walk_at "wpC") => `(tactic| ((with_reducible show wpC _ _ (execs (Stmt.Assign [Expr.Tuple _ _ _] _ _ :: _) _) _ _ _); with_reducible refine execsC_cons ?_; refine' wpC_AssignPair (names := [Str.ofString "first", Str.ofString "second"]) rfl rfl rfl ?_))
local macro_rules | `(tactic| walk_at "wpC") => `(tactic| ((with_reducible show wpC _ _ (eval (Expr.Call _ _ _ _) _) _ _ _); refine' evalC_call ?_ ?he; (case he => with_unfolding_all rfl)))
local macro_rules | `(tactic| walk_at "wpC") => `(tactic| ((with_reducible show wpC _ _ (call _ _) _ _ _); k_dflt (show wpC _ _ (call (Value.ref 890) [.ref _]) _ _ _); walk_at "c_packrow"))
local macro_rules | `(tactic| walk_at "c_packrow") => `(tactic| ((with_reducible rename Fr _ _ _ _ => F9); (with_reducible rename News _ _ _ _ => N9); (k_dflt (refine' packb_c (s := ⟨_, _, _, _, _⟩) (packs_list ?i1 ?i2 ?i3) ?b1 F9 ?b2 ?b3 N9 ?b4 ?ok ?he ?b5 ?b6 ?_; (case ok => (intro e9; exact List.Mem.tail _ (by k_mem))); (case i1 => assumption); (case i2 => assumption); (case i3 => assumption); (case b1 => k_asm); (case b2 => k_asm); (case b3 => k_asm); (case b4 => exact rfl); (case he => assumption); (case b5 => ktr_room); (case b6 => k_units); k_whole)); intro h' t' tk' F' N'))
local macro_rules | `(tactic| walk_at "call builtin:str.encode") => `(tactic| (k_here; (with_reducible show wpAny _ _ (call (Value.builtin "str.encode") [Value.str _ _, Value.str _ _]) _ _ _); refine encode_txt (by assumption) ?_))
local macro_rules | `(tactic| walk_at "getMethod str") => `(tactic| (with_reducible refine meth_encode ?_))
def pairX : { b : Expr × Scope // (match kindS.1.getD 0 (.Pass default) with | .Assign _ (.ListComp e _ s _) _ => (e, s) | _ => (.Name default default, default)) = b } := by
  refine ⟨?_, ?h⟩
  case h => exact (rfl : _ = (_, _))
def pairV (kd : Int) (x : Str) (b : Array UInt8) : Array UInt8 := if kd = 1 then b else (u8 x).toArray
theorem tup_of {s : Shared} {g : Heap} {L l : Addr} {a b : Value} {news : List (Addr × Obj)} (N : News g L s.heap news) (hm : (l, tup2 a b) ∈ news) : IsTup s.heap l #[a, b] := by
  exact ⟨_, (N _ hm).1, rfl, _, rfl⟩
theorem item_t0 {prog : Program} {w : World} {A : Around} {s : Shared} {E : Value → Shared → Prop} {value slice : Expr} {g : Heap} {L l : Addr} {a b : Value} {news : List (Addr × Obj)} {t : Tok} {Q : Value → Shared → Prop} (N : News g L s.heap news) (hm : (l, tup2 a b) ∈ news) (h : Q a s)
    (hs : subscripted slice false (.ref l) (.int 0 t) = operate [.ref l, .int 0 t] (getItem (.ref l) (.int 0 t))) (ht : ∀ r, letTemporaryGo value (.ref l) r = pure ()) :
    wpAny (model prog w) A (subscriptTail value slice (.ref l) (.int 0 t)) Q E s :=
  item_tuple (tup_of N hm) (by decide) (by decide) rfl rfl h hs ht
theorem item_t1 {prog : Program} {w : World} {A : Around} {s : Shared} {E : Value → Shared → Prop} {value slice : Expr} {g : Heap} {L l : Addr} {a b : Value} {news : List (Addr × Obj)} {t : Tok} {Q : Value → Shared → Prop} (N : News g L s.heap news) (hm : (l, tup2 a b) ∈ news) (h : Q b s)
    (hs : subscripted slice false (.ref l) (.int 1 t) = operate [.ref l, .int 1 t] (getItem (.ref l) (.int 1 t))) (ht : ∀ r, letTemporaryGo value (.ref l) r = pure ()) :
    wpAny (model prog w) A (subscriptTail value slice (.ref l) (.int 1 t)) Q E s :=
  item_tuple (tup_of N hm) (by decide) (by decide) rfl rfl h hs ht
set_option maxRecDepth 100000 in
set_option maxHeartbeats 4000000 in
theorem pair_elt {prog : Program} {w : World} {mg mb : Str → Option Value} {p : Program} {loose : List Str} {mean : ExcName → Option Value} {s₁ : Shared} {h0 : Heap} {L C : Addr} {m m₂ : Str → Option Value} {i : Nat} {kd : Int} {t1 t2 u1 u2 : Tok}
    {TA Ta : Addr} {o4 o5 oC : Obj} {j : Nat} {ts : List Value} {x : Str} {b : Array UInt8} {all : List (Addr × Obj)} {E : Value → Shared → Prop}
    (X : (Mine.hd.heap_39 w.params).In h0) (T : Top p loose mean mg mb h0) (B : Below callerA h0 [] h0)
    (F : Fr h0 L s₁.heap m) (N : News h0 L s₁.heap ((C, oC) :: (TA, listOf ts.toArray j) :: (Ta, tup2 (.str x u1) (.bytes b u2)) :: (L + 1 + 1 + 1 + 1, o4) :: (L + 1 + 1 + 1 + 1 + 1, o5) :: all))
    (hC : LCg.NsObj oC m₂) (hx : m₂ (Str.ofString "k") = some (.int i t1)) (d4 : o4.data = .cell (some (.ref TA))) (d5 : o5.data = .cell (some (.int kd t2))) (hkd : kd = 0 ∨ kd = 1)
    (k1 : i < 3) (g1 : ts.toArray[((i : Nat) : Int).toNat]? = some (.ref Ta)) (htx : x ∈ txts) :
    wpAny (model prog w) (callerA.deeper (lawE L)) (eval pairX.1.1 (compEnvC pairX.1.2 [(Str.ofString "things", L + 1 + 1 + 1 + 1), (Str.ofString "kind", L + 1 + 1 + 1 + 1 + 1)] C (lawE L)))
      (fun y s₂ => ∃ h' tk' t', y = .bytes (pairV kd x b) t' ∧ s₂ = { s₁ with heap := h', toks := tk' } ∧ Fr h0 L h' m ∧ News h0 L h' all) E s₁ := by
  walk_at "c_fill"
  obtain ⟨hp, gs, dr, tks, os⟩ := s₁
  dsimp only at F N
  dsimp only [pairX, lawE, lawScS]
  rcases hkd with rfl | rfl
  all_goals k_steps
  all_goals first | assumption | exact news_tl1 (news_tl1 (news_tl1 (news_tl1 (news_tl1 (by assumption)))))
theorem pair_d {prog : Program} {w : World} {mg mb : Str → Option Value} {p : Program} {loose : List Str} {mean : ExcName → Option Value} {s₁ : Shared} {h0 : Heap} {L C : Addr} {m m₂ : Str → Option Value} {i : Nat} {kd : Int} {t1 t2 u1 u2 : Tok}
    {TA Ta : Addr} {o4 o5 oC : Obj} {j : Nat} {ts : List Value} {x : Str} {b : Array UInt8} {all : List (Addr × Obj)} {E : Value → Shared → Prop}
    (X : (Mine.hd.heap_39 w.params).In h0) (T : Top p loose mean mg mb h0) (B : Below callerA h0 [] h0)
    (F : Fr h0 L s₁.heap m) (N : News h0 L s₁.heap all) (hm1 : (C, oC) ∈ all) (hm2 : (TA, listOf ts.toArray j) ∈ all) (hm3 : (Ta, tup2 (.str x u1) (.bytes b u2)) ∈ all) (hm4 : (L + 1 + 1 + 1 + 1, o4) ∈ all) (hm5 : (L + 1 + 1 + 1 + 1 + 1, o5) ∈ all)
    (hC : LCg.NsObj oC m₂) (hx : m₂ (Str.ofString "k") = some (.int i t1)) (d4 : o4.data = .cell (some (.ref TA))) (d5 : o5.data = .cell (some (.int kd t2))) (hkd : kd = 0 ∨ kd = 1)
    (k1 : i < 3) (g1 : ts.toArray[((i : Nat) : Int).toNat]? = some (.ref Ta)) (htx : x ∈ txts) :
    wpAny (model prog w) (callerA.deeper (lawE L)) (eval pairX.1.1 (compEnvC pairX.1.2 [(Str.ofString "things", L + 1 + 1 + 1 + 1), (Str.ofString "kind", L + 1 + 1 + 1 + 1 + 1)] C (lawE L)))
      (fun y s₂ => ∃ h' tk' t', y = .bytes (pairV kd x b) t' ∧ s₂ = { s₁ with heap := h', toks := tk' } ∧ Fr h0 L h' m ∧ News h0 L h' all) E s₁ :=
  pair_elt X T B F (fun q hq => by
    simp only [List.mem_cons] at hq
    rcases hq with rfl | rfl | rfl | rfl | rfl | hq
    · exact N _ hm1
    · exact N _ hm2
    · exact N _ hm3
    · exact N _ hm4
    · exact N _ hm5
    · exact N _ hq) hC hx d4 d5 hkd k1 g1 htx
end Mine
end
section
open PySem PySem.W PyProof.Rows PySem.Calls
open PySem.Sem (wp)
set_option maxRecDepth 100000
namespace Mine
theorem topOffZ8 : True := by
  w_top off
  trivial
local macro_rules | `(tactic| k_all) => `(tactic| assumption)
local macro_rules | `(tactic| k_room) => `(tactic| ktr_room)
local macro_rules | `(tactic| k_units) => `(tactic| first | ktr_units | ((try dsimp only); (try simp only [units_make, units_deeper, units_in1, Around.mark_units]); omega))
local macro_rules | `(tactic| walk_at "c_fill") => `(tactic| (have kf : PySem.Challenge.rw_fg0013_01 = PySem.Challenge.rw_fg0013_01 ∧ Mine.hd.heap_39 = Mine.hd.heap_39 := (by k_fill; exact ⟨rfl, rfl⟩)); clear kf)
local macro_rules | `(tactic| walk_at "c_enter") => `(tactic| (k_dflt (refine' callC_def ?kBL ?k1 ?k2 ?k3 ?k4 ?k5 ?kA ?kF ?kK ?k6 ?k7 ?k8 ?k9 ?kB ?_ ?c5 ?c2 ?c3 ?c4; (case kBL => assumption); (case kA => exact rfl); (case kF => exact rfl); (case kK => assumption); (case k1 => k_asm); (case k2 => k_asm); (case k3 => k_asm); (case k4 => k_asm); (case k5 => k_asm); (case k6 => k_is); (case k7 => k_is); (case k8 => ktr_room); (case k9 => first | exact BindsTo.of_eq rfl | exact binds_K (by k_in) rfl (by k_is) rfl rfl rfl | (refine' kp_binds ?kx ?ke; (case kx => k_in); (case ke => exact fun _ => rfl))); (case kB => exact locs rfl); (case c5 => decide); (case c2 => exact rfl); (case c3 => exact rfl); (case c4 => exact rfl); k_whole; intro g' L' h' tk' FG' F' N' B' X' T' l1; (try k_lt l1); (try dsimp only))))
local macro_rules | `(tactic| walk_at "c_enter2") => `(tactic| (k_dflt (refine' callC_def ?kBL ?k1 ?k2 ?k3 ?k4 ?k5 ?kA ?kF ?kK ?k6 ?k7 ?k8 ?k9 ?kB ?_ ?c5 ?c2 ?c3 ?c4; (case kA => exact rfl); (case kF => exact rfl); (case kK => exact rfl); (case k1 => k_asm); (case k2 => k_asm); (case k3 => k_asm); (case k4 => k_asm); (case k5 => k_asm); (case k6 => k_is); (case k7 => k_is); (case k8 => ktr_room); (case k9 => first | exact BindsTo.of_eq rfl | exact binds_K (by k_in) rfl (by k_is) rfl rfl rfl | (refine' kp_binds ?kx ?ke; (case kx => k_in); (case ke => exact fun _ => rfl))); (case kB => exact locs rfl); (case kBL => exact bl _); (case c5 => decide); (case c2 => exact rfl); (case c3 => exact rfl); (case c4 => exact rfl); k_whole; intro g' L' h' tk' FG' F' N' B' X' T' l1; (try k_lt l1); (try dsimp only))))
local macro_rules | `(tactic| walk_at "c_both") => `(tactic| (k_dflt (refine' kp_both ?k1 ?k2 ?k3 ?k4 ?k5 ?kA ?kF ?kK ?k6 ?k7 ?k8 ?kV ?kX ?kQ ?kM ?kN ?kD ?kR ?kP ?kS ?kT ?kB ?_ ?c2 ?c3 ?c4 ?c5; (case kA => exact rfl); (case kF => exact rfl); (case kK => assumption); (case k1 => k_asm); (case k2 => k_asm); (case k3 => k_asm); (case k4 => k_asm); (case k5 => k_asm); (case k6 => k_is); (case k7 => k_is); (case k8 => ktr_room); (case kV => kp_lit); (case kX => kp_lit); (case kQ => exact rfl); (case kM => exact rfl); (case kN => exact rfl); (case kD => kp_flats); (case kR => exact rfl); (case kP => exact rfl); (case kS => exact fun _ => rfl); (case kT => exact fun _ _ => rfl); (case kB => exact fun _ _ => locs rfl); (case c5 => decide); (case c2 => exact rfl); (case c3 => exact rfl); (case c4 => exact rfl); k_whole; intro C' D' o' g' L' h' tk' l1 l2 lo' hs' fs' FG' F' N' B' X' T'; (try k_lt l1); (try k_lt2 l2); (try dsimp only))))
local macro_rules | `(tactic| walk_at "call type:type") => `(tactic| (k_here; (with_reducible show wpAny _ _ (call (Value.type "type") [Value.bytes _ _]) _ _ _); refine call_type_of (Tx := "bytes") rfl (by decide +kernel) ?_))
local macro_rules | `(tactic| walk_at "wpC") => `(tactic| (with_reducible refine wpC_any ?_))
local macro_rules | `(tactic| walk_at "wpC") => `(tactic| (with_reducible refine execsC_any ?_))
local macro_rules | `(tactic| walk_at "wpC") => `(tactic| (refine' execsC_nil ?_))
local macro_rules | `(tactic| walk_at "wpC") => `(tactic| ((with_reducible show wpC _ _ (execs _ _) _ _ _); with_reducible refine execsC_cons ?_; refine' wpC_If ?_))
local macro_rules | `(tactic| walk_at "wpC") => `(tactic| ((with_reducible show wpC _ _ (execs _ _) _ _ _); with_reducible refine execsC_cons ?_; refine' wpC_While ?_; refine' codeC_while ?_))
local macro_rules | `(tactic| walk_at "wpC") => `(tactic| ((with_reducible show wpC _ _ (execs _ _) _ _ _); with_reducible refine execsC_cons ?_; refine' wpC_Try ?_))
local macro_rules | `(tactic| walk_at "wpC") => `(tactic| ((with_reducible show wpC _ _ (execs _ _) _ _ _); with_reducible refine execsC_cons ?_; refine' wpC_For ?_ ?hs; (case hs => intro _; with_unfolding_all rfl)))
local macro_rules | `(tactic| walk_at "pyIter ref") => `(tactic| ((with_reducible show wpAny _ _ (pyIter (Value.ref _)) (fun _ _ => codeC _ _ _ _ _) _ _); (with_reducible rename IsRange _ _ _ _ _ _ _ _ => R9); refine wpAny_pyIter_range R9 ?hsmall ?_; (case hsmall => walk_at "c_small")))
local macro_rules | `(tactic| walk_at "wpC") => `(tactic| ((with_reducible show wpC _ _ (execs _ _) _ _ _); with_reducible refine execsC_cons ?_; refine' wpC_Return ?_; refine' evalC_method ?_ ?he; (case he => with_unfolding_all rfl)))
local macro_rules | `(tactic| walk_at "wpC") => `(tactic| ((with_reducible show wpC _ _ (execs _ _) _ _ _); with_reducible refine execsC_cons ?_; refine' wpC_Expr ?_ ?hi ?hs; (case hi => with_unfolding_all rfl); (case hs => with_unfolding_all rfl); refine' evalC_method ?_ ?he; (case he => with_unfolding_all rfl)))
local macro_rules | `(tactic| walk_at "wpC") => `(tactic| ((with_reducible show wpC _ _ (execs _ _) _ _ _); with_reducible refine execsC_cons ?_; refine' wpC_AssignAttr ?_ ?hs; (case hs => with_unfolding_all rfl)))
local macro_rules | `(tactic| walk_at "wpC") => `(tactic| ((with_reducible show wpC _ _ (execs _ _) _ _ _); with_reducible refine execsC_cons ?_; refine' wpC_AssignSub ?_ ?hs; (case hs => with_unfolding_all rfl)))
local macro_rules | `(tactic| walk_at "wpC") => `(tactic| ((with_reducible show wpC _ _ (eval _ _) _ _ _); refine' evalC_ifExp ?_))
local macro_rules | `(tactic| walk_at "wpC") => `(tactic| ((with_reducible show wpC _ _ (eval _ _) _ _ _); refine' evalC_call ?_ ?he; (case he => with_unfolding_all rfl)))
local macro_rules | `(tactic| walk_at "wpC") => `(tactic| ((with_reducible show wpC _ _ (callWith _ _ _ _ _) _ _ _); k_dflt (first | refine' callWithC_T0 ?_ | (refine' callWithC_K0 ?k1 ?k2 ?_; (case k1 => k_in); (case k2 => k_is); k_whole) | (refine' callWithC_K ?k1 ?k2 ?_; (case k1 => k_asm); (case k2 => k_is); k_whole))))
local macro_rules | `(tactic| walk_at "wpC") => `(tactic| ((with_reducible show wpC _ _ (call _ _) _ _ _); k_dflt (show wpC _ _ (call (Value.type "bytearray") []) _ _ _); (with_reducible rename Fr _ _ _ _ => F9); (with_reducible rename News _ _ _ _ => N9); (refine call_baN (s := ⟨_, _, _, _, _⟩) F9 N9 ?_); intro ba' h' F' N' l1; (try k_lt l1)))
local macro_rules | `(tactic| walk_at "wpC") => `(tactic| ((with_reducible show wpC _ _ (setItem (.ref _) (.ref _) (.bytes _ _)) _ _ _); (with_reducible rename Fr _ _ _ _ => F9); (with_reducible rename News _ _ _ _ => N9); refine setItem_N (s := ⟨_, _, _, _, _⟩) F9 N9 (by assumption) (by assumption) (by assumption) (by rw [sizeLine_eq]; omega) ?_; intro _ F' N'))
local macro_rules | `(tactic| walk_at "call builtin:len") => `(tactic| (k_here; (with_reducible show wpAny _ _ (call (Value.builtin "len") [Value.ref _]) _ _ _); (with_reducible rename News _ _ _ _ => N9); refine len_ba (bs := _) (News.get N9 (by repeat (first | exact List.Mem.head _ | apply List.Mem.tail))) (by omega) ?_; have N' := N9; clear N9))
local macro_rules | `(tactic| walk_at "call type:bytes") => `(tactic| (k_here; (with_reducible show wpAny _ _ (call (Value.type "bytes") [Value.ref _]) _ _ _); (with_reducible rename News _ _ _ _ => N9); refine call_bytes_ba (bs := _) (News.get N9 (by repeat (first | exact List.Mem.head _ | apply List.Mem.tail))) (by rw [sizeLine_eq]; first | omega | (simp only [List.size_toArray]; omega)) ?_; have N' := N9; clear N9))
local macro_rules | `(tactic| walk_at "wpC") => `(tactic| ((with_reducible show wpC _ _ (callWith _ (Value.ref _) _ (backTo _ (starEach (_ :: _) _)) _) _ _ _); k_dflt (refine' callWithC_K ?k1 ?k2 ?_; (case k1 => k_asm); (case k2 => k_is); k_whole)))
local macro_rules | `(tactic| walk_at "binaryOp Pow int int") => `(tactic| (k_here; (with_reducible refine pow_int_small ?kb1 ?kb2 ?kb3 ?_); (case kb1 => decide); (case kb2 => decide); (case kb3 => decide)))
local macro_rules | `(tactic| walk_at "subscriptTail Name BinOp ref int") => `(tactic| (k_here; (with_reducible show wpAny _ _ (subscriptTail _ _ (Value.ref _) (Value.int _ _)) _ _ _); (with_reducible rename News _ _ _ _ => N9); k_dflt (refine' item_ints N9 ?hm ?hi ?h0 ?h1 ?h2 ?_ ?hs ?ht; (case hs => with_unfolding_all rfl); (case ht => (intro _; with_unfolding_all rfl)); (case hm => repeat (first | exact List.Mem.head _ | apply List.Mem.tail)); (case hi => assumption); (case h0 => exact IdxOk.a (by assumption) (by assumption) (by assumption)); (case h1 => exact IdxOk.b (by assumption) (by assumption) (by assumption)); (case h2 => exact IdxOk.c (by assumption) (by assumption) (by assumption))); intro u'; have N' := N9; clear N9))
local macro_rules | `(tactic| walk_at "eval Name") => `(tactic| (k_here; (with_reducible rename Fr _ _ _ _ => kF); k_dflt (refine' nameX_L kF ?hv ?_ ?hk ?hx ?hd; (case hk => rfl); (case hx => rfl); (case hd => decide); (case hv => assumption); k_whole)))
local macro_rules | `(tactic| walk_at "wpC") => `(tactic| ((with_reducible show wpC _ _ (execs (Stmt.Assign [Expr.Name _ _] _ _ :: _) _) _ _ _); with_reducible refine execsC_any ?_))
local macro_rules | `(tactic| walk_at "subscriptTail Name Name ref int") => `(tactic| (k_here; (with_reducible show wpAny _ _ (subscriptTail _ _ (Value.ref _) (Value.int _ _)) _ _ _); (with_reducible rename News _ _ _ _ => N9); k_dflt (refine' item_listN N9 ?hm ?h0 ?h1 ?hx ?_ ?hs ?ht; (case hs => with_unfolding_all rfl); (case ht => (intro _; with_unfolding_all rfl)); (case hm => k_mem); (case hx => assumption); (case h0 => omega); (case h1 => omega)); have N' := N9; clear N9))
local macro_rules | `(tactic| walk_at "wpC") => `(tactic| ((with_reducible show wpC _ _ (execs (Stmt.Assign [Expr.Tuple _ _ _] _ _ :: _) _) _ _ _); with_reducible refine execsC_cons ?_; refine' wpC_AssignPair (names := [Str.ofString "first", Str.ofString "second"]) rfl rfl rfl ?_))
local macro_rules | `(tactic| walk_at "wpC") => `(tactic| ((with_reducible show wpC _ _ (eval (Expr.Call _ _ _ _) _) _ _ _); refine' evalC_call ?_ ?he; (case he => with_unfolding_all rfl)))
local macro_rules | `(tactic| walk_at "wpC") => `(tactic| ((with_reducible show wpC _ _ (call _ _) _ _ _); k_dflt (show wpC _ _ (call (Value.ref 890) [.ref _]) _ _ _); walk_at "c_packrow"))
local macro_rules | `(tactic| walk_at "c_packrow") => `(tactic| ((with_reducible rename Fr _ _ _ _ => F9); (with_reducible rename News _ _ _ _ => N9); (k_dflt (refine' packb_c (s := ⟨_, _, _, _, _⟩) (packs_list ?i1 ?i2 ?i3) ?b1 F9 ?b2 ?b3 N9 ?b4 ?ok ?he ?b5 ?b6 ?_; (case ok => (intro e9; exact List.Mem.tail _ (by k_mem))); (case i1 => assumption); (case i2 => assumption); (case i3 => assumption); (case b1 => k_asm); (case b2 => k_asm); (case b3 => k_asm); (case b4 => exact rfl); (case he => assumption); (case b5 => ktr_room); (case b6 => k_units); k_whole)); intro h' t' tk' F' N'))
set_option maxRecDepth 100000 in
set_option maxHeartbeats 4000000 in
theorem kind_pair {prog : Program} {w : World} {mg mb : Str → Option Value} {p : Program} {loose : List Str} {mean : ExcName → Option Value} {s₁ : Shared} {h0 : Heap} {L : Addr} {m : Str → Option Value} {one other : Nat} {kd : Int} {t1 t2 t3 u1 u2 u3 u4 : Tok}
    {TA Ta Tb : Addr} {o4 o5 : Obj} {j : Nat} {ts : List Value} {xa xb : Str} {ba bb : Array UInt8} {rest : List (Addr × Obj)} {Q : Flow → Shared → Prop}
    (X : (Mine.hd.heap_39 w.params).In h0) (T : Top p loose mean mg mb h0) (B : Below callerA h0 [] h0)
    (F : Fr h0 L s₁.heap m) (N : News h0 L s₁.heap ((TA, listOf ts.toArray j) :: (Ta, tup2 (.str xa u1) (.bytes ba u2)) :: (Tb, tup2 (.str xb u3) (.bytes bb u4)) :: (L + 1 + 1 + 1 + 1, o4) :: (L + 1 + 1 + 1 + 1 + 1, o5) :: rest))
    (d4 : o4.data = .cell (some (.ref TA))) (d5 : o5.data = .cell (some (.int kd t3))) (hkd : kd = 0 ∨ kd = 1)
    (h1 : m (Str.ofString "one") = some (.int one t1)) (h2 : m (Str.ofString "other") = some (.int other t2)) (k1 : one < 3) (k2 : other < 3)
    (g1 : ts.toArray[((one : Nat) : Int).toNat]? = some (.ref Ta)) (g2 : ts.toArray[((other : Nat) : Int).toNat]? = some (.ref Tb)) (x1 : xa ∈ txts) (x2 : xb ∈ txts)
    (ret : ∀ h' t' D v1 v2, Fr h0 L h' (fun z => if z = Str.ofString "pair" then some (.ref D) else m z) →
      News h0 L h' ((D, listOf #[.bytes (pairV kd xa ba) v1, .bytes (pairV kd xb bb) v2] 2) :: (TA, listOf ts.toArray j) :: (Ta, tup2 (.str xa u1) (.bytes ba u2)) :: (Tb, tup2 (.str xb u3) (.bytes bb u4)) :: (L + 1 + 1 + 1 + 1, o4) :: (L + 1 + 1 + 1 + 1 + 1, o5) :: rest) →
      wpC (model prog w) (callerA.deeper (lawE L)) (execs (kindS.1.drop 1) (lawE L)) Q nE { s₁ with heap := h', toks := t' }) :
    wpC (model prog w) (callerA.deeper (lawE L)) (execs kindS.1 (lawE L)) Q nE s₁ := by
  walk_at "c_fill"
  obtain ⟨hp, gs, dr, tks, os⟩ := s₁
  dsimp only at F N
  dsimp only [kindS, lawE, lawScS]
  with_reducible refine execsC_any ?_
  refine' AssignComp_tup (L := L) (h₀ := h0) (m := m) (cl := [(Str.ofString "things", L + 1 + 1 + 1 + 1), (Str.ofString "kind", L + 1 + 1 + 1 + 1 + 1)]) rfl ?hsw ?hclos ?hcell ?hkind ?hnames ?hx ?hy ?hp ?hs ?_
  case hsw => exact rfl
  case hclos => exact rfl
  case hcell => decide
  case hkind => exact rfl
  case hnames => decide
  case hx => exact rfl
  case hy => exact rfl
  case hp => exact rfl
  case hs => intro _; with_unfolding_all rfl
  k_steps
  rename Fr _ _ _ _ => F9
  rename News _ _ _ _ => N9
  refine ⟨_, _, _, rfl, rfl, F9, N9, ⟨_, .head _⟩, by show 2 ≤ sizeLine; rw [sizeLine_eq]; decide, fun s₂ hs₂ => ?_⟩
  obtain ⟨hs, rfl⟩ := hs₂
  refine LCg.CompRest.succ ?_
  intro v I oI C oC D m₂ h tk E' hv hC hx F2 N2 off ne
  obtain rfl : Value.int (one : Int) t1 = v := by simpa using hv
  refine wpAny_mono (pair_d (j := j) (ts := ts) (TA := TA) (Ta := Ta) (x := xa) (b := ba) (u1 := u1) (u2 := u2) X T B F2 N2 ?_ ?_ ?_ ?_ ?_ hC hx d4 d5 hkd k1 g1 x1) (fun y s₃ hq => ?_) fun _ _ e => e
  · simp
  · simp
  · simp
  · simp
  · simp
  obtain ⟨h3, tk3, t3', rfl, rfl, F3, N3⟩ := hq
  refine ⟨h3, tk3, _, rfl, F3, N3, off, ⟨_, .head _⟩, ?_⟩
  refine LCg.CompRest.succ ?_
  intro v I2 oI2 C2 oC2 E2 m₃ h4 tk4 E4 hv4 hC4 hx4 F4 N4 off4 ne4
  obtain rfl : Value.int (other : Int) t2 = v := by simpa using hv4
  refine wpAny_mono (pair_d (j := j) (ts := ts) (TA := TA) (Ta := Tb) (x := xb) (b := bb) (u1 := u3) (u2 := u4) X T B F4 N4 ?_ ?_ ?_ ?_ ?_ hC4 hx4 d4 d5 hkd k2 g2 x2) (fun y s₃ hq => ?_) fun _ _ e => e
  · simp
  · simp
  · simp
  · simp
  · simp
  obtain ⟨h5, tk5, t5, rfl, rfl, F5, N5⟩ := hq
  refine ⟨h5, tk5, _, rfl, F5, N5, off4, ⟨_, .head _⟩, ?_⟩
  refine LCg.CompRest.zero ?_
  intro E6 h6 tk6 F6 N6 o6
  refine ret h6 tk6 E6 t3' t5 F6 fun q hq => N6 q ?_
  simp only [List.mem_cons] at hq ⊢
  rcases hq with h | h | h | h | h | h | h <;> simp [h]
end Mine
end
section
open PySem PySem.W PyProof.Rows PySem.Calls
open PySem.Sem (wp)
set_option maxRecDepth 100000
namespace Mine
theorem topOffZ9 : True := by
  w_top off
  trivial
local macro_rules | `(tactic| k_all) => `(tactic| assumption)
local macro_rules | `(tactic| k_room) => `(tactic| ktr_room)
local macro_rules | `(tactic| k_units) => `(tactic| first | ktr_units | ((try dsimp only); (try simp only [units_make, units_deeper, units_in1, Around.mark_units]); omega))
local macro_rules | `(tactic| walk_at "c_fill") => `(tactic| (have kf : PySem.Challenge.rw_fg0013_01 = PySem.Challenge.rw_fg0013_01 ∧ Mine.hd.heap_39 = Mine.hd.heap_39 := (by k_fill; exact ⟨rfl, rfl⟩)); clear kf)
local macro_rules | `(tactic| walk_at "c_enter") => `(tactic| (k_dflt (refine' callC_def ?kBL ?k1 ?k2 ?k3 ?k4 ?k5 ?kA ?kF ?kK ?k6 ?k7 ?k8 ?k9 ?kB ?_ ?c5 ?c2 ?c3 ?c4; (case kBL => assumption); (case kA => exact rfl); (case kF => exact rfl); (case kK => assumption); (case k1 => k_asm); (case k2 => k_asm); (case k3 => k_asm); (case k4 => k_asm); (case k5 => k_asm); (case k6 => k_is); (case k7 => k_is); (case k8 => ktr_room); (case k9 => first | exact BindsTo.of_eq rfl | exact binds_K (by k_in) rfl (by k_is) rfl rfl rfl | (refine' kp_binds ?kx ?ke; (case kx => k_in); (case ke => exact fun _ => rfl))); (case kB => exact locs rfl); (case c5 => decide); (case c2 => exact rfl); (case c3 => exact rfl); (case c4 => exact rfl); k_whole; intro g' L' h' tk' FG' F' N' B' X' T' l1; (try k_lt l1); (try dsimp only))))
local macro_rules | `(tactic| walk_at "c_enter2") => `(tactic| (k_dflt (refine' callC_def ?kBL ?k1 ?k2 ?k3 ?k4 ?k5 ?kA ?kF ?kK ?k6 ?k7 ?k8 ?k9 ?kB ?_ ?c5 ?c2 ?c3 ?c4; (case kA => exact rfl); (case kF => exact rfl); (case kK => exact rfl); (case k1 => k_asm); (case k2 => k_asm); (case k3 => k_asm); (case k4 => k_asm); (case k5 => k_asm); (case k6 => k_is); (case k7 => k_is); (case k8 => ktr_room); (case k9 => first | exact BindsTo.of_eq rfl | exact binds_K (by k_in) rfl (by k_is) rfl rfl rfl | (refine' kp_binds ?kx ?ke; (case kx => k_in); (case ke => exact fun _ => rfl))); (case kB => exact locs rfl); (case kBL => exact bl _); (case c5 => decide); (case c2 => exact rfl); (case c3 => exact rfl); (case c4 => exact rfl); k_whole; intro g' L' h' tk' FG' F' N' B' X' T' l1; (try k_lt l1); (try dsimp only))))
local macro_rules | `(tactic| walk_at "c_both") => `(tactic| (k_dflt (refine' kp_both ?k1 ?k2 ?k3 ?k4 ?k5 ?kA ?kF ?kK ?k6 ?k7 ?k8 ?kV ?kX ?kQ ?kM ?kN ?kD ?kR ?kP ?kS ?kT ?kB ?_ ?c2 ?c3 ?c4 ?c5; (case kA => exact rfl); (case kF => exact rfl); (case kK => assumption); (case k1 => k_asm); (case k2 => k_asm); (case k3 => k_asm); (case k4 => k_asm); (case k5 => k_asm); (case k6 => k_is); (case k7 => k_is); (case k8 => ktr_room); (case kV => kp_lit); (case kX => kp_lit); (case kQ => exact rfl); (case kM => exact rfl); (case kN => exact rfl); (case kD => kp_flats); (case kR => exact rfl); (case kP => exact rfl); (case kS => exact fun _ => rfl); (case kT => exact fun _ _ => rfl); (case kB => exact fun _ _ => locs rfl); (case c5 => decide); (case c2 => exact rfl); (case c3 => exact rfl); (case c4 => exact rfl); k_whole; intro C' D' o' g' L' h' tk' l1 l2 lo' hs' fs' FG' F' N' B' X' T'; (try k_lt l1); (try k_lt2 l2); (try dsimp only))))
local macro_rules | `(tactic| walk_at "call type:type") => `(tactic| (k_here; (with_reducible show wpAny _ _ (call (Value.type "type") [Value.bytes _ _]) _ _ _); refine call_type_of (Tx := "bytes") rfl (by decide +kernel) ?_))
local macro_rules | `(tactic| walk_at "wpC") => `(tactic| (with_reducible refine wpC_any ?_))
local macro_rules | `(tactic| walk_at "wpC") => `(tactic| (with_reducible refine execsC_any ?_))
local macro_rules | `(tactic| walk_at "wpC") => `(tactic| (refine' execsC_nil ?_))
local macro_rules | `(tactic| walk_at "wpC") => `(tactic| ((with_reducible show wpC _ _ (execs _ _) _ _ _); with_reducible refine execsC_cons ?_; refine' wpC_If ?_))
local macro_rules | `(tactic| walk_at "wpC") => `(tactic| ((with_reducible show wpC _ _ (execs _ _) _ _ _); with_reducible refine execsC_cons ?_; refine' wpC_While ?_; refine' codeC_while ?_))
local macro_rules | `(tactic| walk_at "wpC") => `(tactic| ((with_reducible show wpC _ _ (execs _ _) _ _ _); with_reducible refine execsC_cons ?_; refine' wpC_Try ?_))
local macro_rules | `(tactic| walk_at "wpC") => `(tactic| ((with_reducible show wpC _ _ (execs _ _) _ _ _); with_reducible refine execsC_cons ?_; refine' wpC_For ?_ ?hs; (case hs => intro _; with_unfolding_all rfl)))
local macro_rules | `(tactic| walk_at "pyIter ref") => `(tactic| ((with_reducible show wpAny _ _ (pyIter (Value.ref _)) (fun _ _ => codeC _ _ _ _ _) _ _); (with_reducible rename IsRange _ _ _ _ _ _ _ _ => R9); refine wpAny_pyIter_range R9 ?hsmall ?_; (case hsmall => walk_at "c_small")))
local macro_rules | `(tactic| walk_at "wpC") => `(tactic| ((with_reducible show wpC _ _ (execs _ _) _ _ _); with_reducible refine execsC_cons ?_; refine' wpC_Return ?_; refine' evalC_method ?_ ?he; (case he => with_unfolding_all rfl)))
local macro_rules | `(tactic| walk_at "wpC") => `(tactic| ((with_reducible show wpC _ _ (execs _ _) _ _ _); with_reducible refine execsC_cons ?_; refine' wpC_Expr ?_ ?hi ?hs; (case hi => with_unfolding_all rfl); (case hs => with_unfolding_all rfl); refine' evalC_method ?_ ?he; (case he => with_unfolding_all rfl)))
local macro_rules | `(tactic| walk_at "wpC") => `(tactic| ((with_reducible show wpC _ _ (execs _ _) _ _ _); with_reducible refine execsC_cons ?_; refine' wpC_AssignAttr ?_ ?hs; (case hs => with_unfolding_all rfl)))
local macro_rules | `(tactic| walk_at "wpC") => `(tactic| ((with_reducible show wpC _ _ (execs _ _) _ _ _); with_reducible refine execsC_cons ?_; refine' wpC_AssignSub ?_ ?hs; (case hs => with_unfolding_all rfl)))
local macro_rules | `(tactic| walk_at "wpC") => `(tactic| ((with_reducible show wpC _ _ (eval _ _) _ _ _); refine' evalC_ifExp ?_))
local macro_rules | `(tactic| walk_at "wpC") => `(tactic| ((with_reducible show wpC _ _ (eval _ _) _ _ _); refine' evalC_call ?_ ?he; (case he => with_unfolding_all rfl)))
local macro_rules | `(tactic| walk_at "wpC") => `(tactic| ((with_reducible show wpC _ _ (callWith _ _ _ _ _) _ _ _); k_dflt (first | refine' callWithC_T0 ?_ | (refine' callWithC_K0 ?k1 ?k2 ?_; (case k1 => k_in); (case k2 => k_is); k_whole) | (refine' callWithC_K ?k1 ?k2 ?_; (case k1 => k_asm); (case k2 => k_is); k_whole))))
local macro_rules | `(tactic| walk_at "wpC") => `(tactic| ((with_reducible show wpC _ _ (call _ _) _ _ _); k_dflt (show wpC _ _ (call (Value.type "bytearray") []) _ _ _); (with_reducible rename Fr _ _ _ _ => F9); (with_reducible rename News _ _ _ _ => N9); (refine call_baN (s := ⟨_, _, _, _, _⟩) F9 N9 ?_); intro ba' h' F' N' l1; (try k_lt l1)))
local macro_rules | `(tactic| walk_at "wpC") => `(tactic| ((with_reducible show wpC _ _ (setItem (.ref _) (.ref _) (.bytes _ _)) _ _ _); (with_reducible rename Fr _ _ _ _ => F9); (with_reducible rename News _ _ _ _ => N9); refine setItem_N (s := ⟨_, _, _, _, _⟩) F9 N9 (by assumption) (by assumption) (by assumption) (by rw [sizeLine_eq]; omega) ?_; intro _ F' N'))
local macro_rules | `(tactic| walk_at "call builtin:len") => `(tactic| (k_here; (with_reducible show wpAny _ _ (call (Value.builtin "len") [Value.ref _]) _ _ _); (with_reducible rename News _ _ _ _ => N9); refine len_ba (bs := _) (News.get N9 (by repeat (first | exact List.Mem.head _ | apply List.Mem.tail))) (by omega) ?_; have N' := N9; clear N9))
local macro_rules | `(tactic| walk_at "call type:bytes") => `(tactic| (k_here; (with_reducible show wpAny _ _ (call (Value.type "bytes") [Value.ref _]) _ _ _); (with_reducible rename News _ _ _ _ => N9); refine call_bytes_ba (bs := _) (News.get N9 (by repeat (first | exact List.Mem.head _ | apply List.Mem.tail))) (by rw [sizeLine_eq]; first | omega | (simp only [List.size_toArray]; omega)) ?_; have N' := N9; clear N9))
local macro_rules | `(tactic| walk_at "wpC") => `(tactic| ((with_reducible show wpC _ _ (callWith _ (Value.ref _) _ (backTo _ (starEach (_ :: _) _)) _) _ _ _); k_dflt (refine' callWithC_K ?k1 ?k2 ?_; (case k1 => k_asm); (case k2 => k_is); k_whole)))
local macro_rules | `(tactic| walk_at "binaryOp Pow int int") => `(tactic| (k_here; (with_reducible refine pow_int_small ?kb1 ?kb2 ?kb3 ?_); (case kb1 => decide); (case kb2 => decide); (case kb3 => decide)))
local macro_rules | `(tactic| walk_at "subscriptTail Name BinOp ref int") => `(tactic| (k_here; (with_reducible show wpAny _ _ (subscriptTail _ _ (Value.ref _) (Value.int _ _)) _ _ _); (with_reducible rename News _ _ _ _ => N9); k_dflt (refine' item_ints N9 ?hm ?hi ?h0 ?h1 ?h2 ?_ ?hs ?ht; (case hs => with_unfolding_all rfl); (case ht => (intro _; with_unfolding_all rfl)); (case hm => repeat (first | exact List.Mem.head _ | apply List.Mem.tail)); (case hi => assumption); (case h0 => exact IdxOk.a (by assumption) (by assumption) (by assumption)); (case h1 => exact IdxOk.b (by assumption) (by assumption) (by assumption)); (case h2 => exact IdxOk.c (by assumption) (by assumption) (by assumption))); intro u'; have N' := N9; clear N9))
local macro_rules | `(tactic| walk_at "eval Name") => `(tactic| (k_here; (with_reducible rename Fr _ _ _ _ => kF); k_dflt (refine' nameX_L kF ?hv ?_ ?hk ?hx ?hd; (case hk => rfl); (case hx => rfl); (case hd => decide); (case hv => assumption); k_whole)))
local macro_rules | `(tactic| walk_at "wpC") => `(tactic| ((with_reducible show wpC _ _ (execs (Stmt.Assign [Expr.Name _ _] _ _ :: _) _) _ _ _); with_reducible refine execsC_any ?_))
local macro_rules | `(tactic| walk_at "subscriptTail Name Name ref int") => `(tactic| (k_here; (with_reducible show wpAny _ _ (subscriptTail _ _ (Value.ref _) (Value.int _ _)) _ _ _); (with_reducible rename News _ _ _ _ => N9); k_dflt (refine' item_listN N9 ?hm ?h0 ?h1 ?hx ?_ ?hs ?ht; (case hs => with_unfolding_all rfl); (case ht => (intro _; with_unfolding_all rfl)); (case hm => k_mem); (case hx => assumption); (case h0 => omega); (case h1 => omega)); have N' := N9; clear N9))
local macro_rules | `(tactic| walk_at "wpC") => `(tactic| ((with_reducible show wpC _ _ (execs (Stmt.Assign [Expr.Tuple _ _ _] _ _ :: _) _) _ _ _); with_reducible refine execsC_cons ?_; refine' wpC_AssignPair (names := [Str.ofString "first", Str.ofString "second"]) rfl rfl rfl ?_))
local macro_rules | `(tactic| walk_at "wpC") => `(tactic| ((with_reducible show wpC _ _ (eval (Expr.Call _ _ _ _) _) _ _ _); refine' evalC_call ?_ ?he; (case he => with_unfolding_all rfl)))
local macro_rules | `(tactic| walk_at "wpC") => `(tactic| ((with_reducible show wpC _ _ (call _ _) _ _ _); k_dflt (show wpC _ _ (call (Value.ref 890) [.ref _]) _ _ _); walk_at "c_packrow"))
local macro_rules | `(tactic| walk_at "c_packrow") => `(tactic| ((with_reducible rename Fr _ _ _ _ => F9); (with_reducible rename News _ _ _ _ => N9); (k_dflt (refine' packb_c (s := ⟨_, _, _, _, _⟩) (packs_list ?i1 ?i2 ?i3) ?b1 F9 ?b2 ?b3 N9 ?b4 ?ok ?he ?b5 ?b6 ?_; (case ok => (intro e9; exact List.Mem.tail _ (by k_mem))); (case i1 => assumption); (case i2 => assumption); (case i3 => assumption); (case b1 => k_asm); (case b2 => k_asm); (case b3 => k_asm); (case b4 => exact rfl); (case he => assumption); (case b5 => ktr_room); (case b6 => k_units); k_whole)); intro h' t' tk' F' N'))
local macro_rules | `(tactic| walk_at "subscriptTail Name Constant ref int") => `(tactic| (k_here; (with_reducible rename News _ _ _ _ => N9); k_dflt (first | ((with_reducible show wpAny _ _ (subscriptTail _ _ (Value.ref _) (Value.int 0 _)) _ _ _); refine' item_pair0 N9 ?hm ?_ ?hs ?ht; (case hs => with_unfolding_all rfl); (case ht => (intro _; with_unfolding_all rfl)); (case hm => k_mem)) | ((with_reducible show wpAny _ _ (subscriptTail _ _ (Value.ref _) (Value.int 1 _)) _ _ _); refine' item_pair1 N9 ?hm ?_ ?hs ?ht; (case hs => with_unfolding_all rfl); (case ht => (intro _; with_unfolding_all rfl)); (case hm => k_mem))); have N' := N9; clear N9))
theorem len_b {prog : Program} {w : World} {A : Around} {E : Value → Shared → Prop} {s : Shared} {b : Array UInt8} {t : Tok} {Q : Value → Shared → Prop} (hfit : b.size ≤ 200) (h : Q (.int b.size (s.toks + 1)) { s with toks := s.toks + 1 + 1 }) : wpAny (model prog w) A (call (.builtin "len") [.bytes b t]) Q E s := len_bytes (by omega) h
theorem lt_texts {prog : Program} {w : World} {A : Around} {E : Value → Shared → Prop} {s : Shared} {x y : Str} {t u : Tok} {Q : Value → Shared → Prop} (h1 : x ∈ txts) (h2 : y ∈ txts) (h : Q (.bool (sizeLt (u8 x) (u8 y))) s) : wpAny (model prog w) A (compareOp .Lt (.bytes (encText x).toArray t) (.bytes (encText y).toArray u)) Q E s :=
  lt_bytes (by
    show Q (.bool (ordB (encText x) (encText y) == .lt)) s
    rw [encText_ord h1 h2]; exact h)
theorem lt_octets {prog : Program} {w : World} {A : Around} {E : Value → Shared → Prop} {s : Shared} {x y : Array UInt8} {t u : Tok} {Q : Value → Shared → Prop} (h1 : x.size ≤ 200) (h2 : y.size ≤ 200) (h : Q (.bool (sizeLt x.toList y.toList)) s) : wpAny (model prog w) A (compareOp .Lt (.bytes (encBytes x).toArray t) (.bytes (encBytes y).toArray u)) Q E s :=
  lt_bytes (by
    show Q (.bool (ordB (encBytes x) (encBytes y) == .lt)) s
    rw [encBytes_ord h1 h2]; exact h)
theorem encText_small {x : Str} (h : x ∈ txts) : (encText x).length ≤ 1000 := by
  unfold encText
  have := (u8_small x h).1
  rw [List.length_append, beInt_length]
  omega
theorem encBytes_small {x : Array UInt8} (h : x.size ≤ 200) : (encBytes x).length ≤ 1000 := by
  unfold encBytes
  simp [beInt_length]
  omega
theorem news_tl3 {g h : Heap} {L : Addr} {a b c : Addr × Obj} {r : List (Addr × Obj)} (N : News g L h (a :: b :: c :: r)) : News g L h r := fun q hq => N q (.tail _ (.tail _ (.tail _ hq)))
local macro_rules | `(tactic| walk_at "call builtin:len") => `(tactic| (k_here; (with_reducible show wpAny _ _ (call (Value.builtin "len") [Value.bytes _ _]) _ _ _); refine len_b (by assumption) ?_))
local macro_rules | `(tactic| walk_at "compareOp Lt ref ref") => `(tactic| (k_here; (with_reducible rename News _ _ _ _ => N9); k_dflt (refine' lt_pairs N9 ?m1 ?m2 ?hu ?_; (case m1 => k_mem); (case m2 => k_mem); (case hu => k_units)); have N' := N9; clear N9))
local macro_rules | `(tactic| walk_at "compareOp Lt bytes bytes") => `(tactic| (k_here; k_dflt (first | ((with_reducible show wpAny _ _ (compareOp _ (Value.bytes (List.toArray (encText _)) _) _) _ _ _); refine' lt_texts ?h1 ?h2 ?_; (case h1 => assumption); (case h2 => assumption)) | ((with_reducible show wpAny _ _ (compareOp _ (Value.bytes (List.toArray (encBytes _)) _) _) _ _ _); refine' lt_octets ?h1 ?h2 ?_; (case h1 => assumption); (case h2 => assumption)))))
local macro_rules | `(tactic| walk_at "compareOp NotEq bool bool") => `(tactic| (k_here; k_dflt (refine ne_same ?_)))
local macro_rules | `(tactic| walk_at "wpC") => `(tactic| ((with_reducible show wpC _ _ (eval (Expr.Compare _ _ _ _) _) _ _ _); refine' evalC_compare1 ?_ ?hm; (case hm => with_unfolding_all rfl)))
local macro_rules | `(tactic| walk_at "wpC") => `(tactic| ((with_reducible show wpC _ _ (eval (Expr.Name _ _) _) _ _ _); with_reducible refine wpC_any ?_))
local macro_rules | `(tactic| walk_at "wpC") => `(tactic| ((with_reducible show wpC _ _ (execs (Stmt.If (Expr.Compare _ _ _ _) _ _ _ :: _) _) _ _ _); with_reducible refine execsC_cons ?_; refine' wpC_IfC ?_; refine' isTrueC_compare1 ?_ ?hm; (case hm => with_unfolding_all rfl)))
local macro_rules | `(tactic| walk_at "wpC") => `(tactic| ((with_reducible show wpC _ _ (call _ _) _ _ _); k_dflt (show wpC _ _ (call (Value.ref 890) [.str _ _]) _ _ _); walk_at "c_packtx"))
local macro_rules | `(tactic| walk_at "wpC") => `(tactic| ((with_reducible show wpC _ _ (call _ _) _ _ _); k_dflt (show wpC _ _ (call (Value.ref 890) [.bytes _ _]) _ _ _); walk_at "c_packoc"))
local macro_rules | `(tactic| walk_at "c_packtx") => `(tactic| ((with_reducible rename Fr _ _ _ _ => F9); (with_reducible rename News _ _ _ _ => N9); (k_dflt (refine' packb_c (s := ⟨_, _, _, _, _⟩) (packs_text ?i1) ?b1 F9 ?b2 ?b3 N9 ?b4 ?ok ?he ?b5 ?b6 ?_; (case ok => (intro e9; exact True.intro)); (case i1 => assumption); (case b1 => k_asm); (case b2 => k_asm); (case b3 => k_asm); (case b4 => exact rfl); (case he => exact encText_small (by assumption)); (case b5 => ktr_room); (case b6 => k_units); k_whole)); intro h' t' tk' F' N'))
local macro_rules | `(tactic| walk_at "c_packoc") => `(tactic| ((with_reducible rename Fr _ _ _ _ => F9); (with_reducible rename News _ _ _ _ => N9); (k_dflt (refine' packb_c (s := ⟨_, _, _, _, _⟩) (packs_bytes ?i1) ?b1 F9 ?b2 ?b3 N9 ?b4 ?ok ?he ?b5 ?b6 ?_; (case ok => (intro e9; exact True.intro)); (case i1 => assumption); (case b1 => k_asm); (case b2 => k_asm); (case b3 => k_asm); (case b4 => exact rfl); (case he => exact encBytes_small (by assumption)); (case b5 => ktr_room); (case b6 => k_units); k_whole)); intro h' t' tk' F' N'))
set_option maxRecDepth 100000 in
set_option maxHeartbeats 4000000 in
theorem kind_due {prog : Program} {w : World} {mg mb : Str → Option Value} {p : Program} {loose : List Str} {mean : ExcName → Option Value} {s₁ : Shared} {h0 : Heap} {L : Addr} {m : Str → Option Value} {one other : Nat} {kd : Int} {t1 t2 t3 u1 u2 u3 u4 v1 v2 : Tok}
    {TA Ta Tb D : Addr} {o4 o5 : Obj} {j : Nat} {ts : List Value} {xa xb : Str} {ba bb pa pb : Array UInt8} {rest : List (Addr × Obj)} {Q : Flow → Shared → Prop}
    (X : (Mine.hd.heap_39 w.params).In h0) (T : Top p loose mean mg mb h0) (B : Below callerA h0 [] h0)
    (F : Fr h0 L s₁.heap m) (N : News h0 L s₁.heap ((D, listOf #[.bytes pa v1, .bytes pb v2] 2) :: (TA, listOf ts.toArray j) :: (Ta, tup2 (.str xa u1) (.bytes ba u2)) :: (Tb, tup2 (.str xb u3) (.bytes bb u4)) :: (L + 1 + 1 + 1 + 1, o4) :: (L + 1 + 1 + 1 + 1 + 1, o5) :: rest))
    (d4 : o4.data = .cell (some (.ref TA))) (d5 : o5.data = .cell (some (.int kd t3))) (hkd : kd = 0 ∨ kd = 1) (za : ba.size ≤ 200) (zb : bb.size ≤ 200) (zpa : pa.size ≤ 200) (zpb : pb.size ≤ 200) (epa : pa = pairV kd xa ba) (epb : pb = pairV kd xb bb)
    (h1 : m (Str.ofString "one") = some (.int one t1)) (h2 : m (Str.ofString "other") = some (.int other t2)) (h3 : m (Str.ofString "pair") = some (.ref D)) (k1 : one < 3) (k2 : other < 3)
    (g1 : ts.toArray[((one : Nat) : Int).toNat]? = some (.ref Ta)) (g2 : ts.toArray[((other : Nat) : Int).toNat]? = some (.ref Tb)) (x1 : xa ∈ txts) (x2 : xb ∈ txts)
    (ret : ∀ h' t' m', m' (Str.ofString "one") = some (.int one t1) → m' (Str.ofString "other") = some (.int other t2) → Fr h0 L h' m' →
      News h0 L h' ((TA, listOf ts.toArray j) :: (Ta, tup2 (.str xa u1) (.bytes ba u2)) :: (Tb, tup2 (.str xb u3) (.bytes bb u4)) :: (L + 1 + 1 + 1 + 1, o4) :: (L + 1 + 1 + 1 + 1 + 1, o5) :: rest) → Q .next { s₁ with heap := h', toks := t' }) :
    wpC (model prog w) (callerA.deeper (lawE L)) (execs (kindS.1.drop 1) (lawE L)) Q nE s₁ := by
  walk_at "c_fill"
  obtain ⟨hp, gs, dr, tks, os⟩ := s₁
  dsimp only at F N
  dsimp only [kindS, lawE, lawScS, List.drop]
  rcases hkd with rfl | rfl
  all_goals subst epa epb
  all_goals k_steps
  all_goals (refine ret _ _ _ ?_ ?_ (by assumption) (news_tl3 (by assumption)))
  all_goals (show (if _ = Str.ofString "due" then _ else m _) = _; rw [if_neg (by decide)]; assumption)
end Mine
end
section
open PySem PySem.W PyProof.Rows PySem.Calls
open PySem.Sem (wp)
set_option maxRecDepth 100000
namespace Mine
theorem pairV_small {kd : Int} {x : Str} {b : Array UInt8} (hx : x ∈ txts) (hb : b.size ≤ 200) : (pairV kd x b).size ≤ 200 := by
  unfold pairV
  split
  · exact hb
  · have := (u8_small x hx).1
    rw [List.size_toArray]
    omega
set_option maxHeartbeats 4000000 in
theorem kind_loop {prog : Program} {w : World} {mg mb : Str → Option Value} {p : Program} {loose : List Str} {mean : ExcName → Option Value} {s : Shared} {h0 : Heap} {L r : Addr} {m : Str → Option Value} {one other : Nat} {t1 t2 r1 r2 r3 u1 u2 u3 u4 : Tok}
    {TA Ta Tb : Addr} {o4 o5 : Obj} {v5 : Option Value} {j : Nat} {ts : List Value} {xa xb : Str} {ba bb : Array UInt8} {K : List (Addr × Obj)} {body : List Stmt} {px : Pos} {R : Result → Shared → Prop}
    (X : (Mine.hd.heap_39 w.params).In h0) (T : Top p loose mean mg mb h0) (B : Below callerA h0 [] h0) (hbody : body = kindS.1)
    (F : Fr h0 L s.heap m) (N : News h0 L s.heap ((L + 1 + 1 + 1 + 1 + 1, o5) :: (TA, listOf ts.toArray j) :: (Ta, tup2 (.str xa u1) (.bytes ba u2)) :: (Tb, tup2 (.str xb u3) (.bytes bb u4)) :: (L + 1 + 1 + 1 + 1, o4) :: K))
    (R9 : IsRange s.heap r 0 ((2 : Nat) : Int) 1 r1 r2 r3) (d4 : o4.data = .cell (some (.ref TA))) (d5 : o5.data = .cell v5) (za : ba.size ≤ 200) (zb : bb.size ≤ 200)
    (hK : ∀ q ∈ (TA, listOf ts.toArray j) :: (Ta, tup2 (.str xa u1) (.bytes ba u2)) :: (Tb, tup2 (.str xb u3) (.bytes bb u4)) :: (L + 1 + 1 + 1 + 1, o4) :: K, q.1 ≠ L + 1 + 1 + 1 + 1 + 1)
    (h1 : m (Str.ofString "one") = some (.int one t1)) (h2 : m (Str.ofString "other") = some (.int other t2)) (k1 : one < 3) (k2 : other < 3)
    (g1 : ts.toArray[((one : Nat) : Int).toNat]? = some (.ref Ta)) (g2 : ts.toArray[((other : Nat) : Int).toNat]? = some (.ref Tb)) (x1 : xa ∈ txts) (x2 : xb ∈ txts)
    (ret : ∀ h t m' o5' v5', m' (Str.ofString "one") = some (.int one t1) → m' (Str.ofString "other") = some (.int other t2) → o5'.data = .cell v5' → Fr h0 L h m' →
      News h0 L h ((L + 1 + 1 + 1 + 1 + 1, o5') :: (TA, listOf ts.toArray j) :: (Ta, tup2 (.str xa u1) (.bytes ba u2)) :: (Tb, tup2 (.str xb u3) (.bytes bb u4)) :: (L + 1 + 1 + 1 + 1, o4) :: K) → R (.ok .next) { s with heap := h, toks := t }) :
    wpAny (model prog w) (callerA.deeper (lawE L)) (pyIter (.ref r)) (fun it s' => codeC (model prog w) (callerA.deeper (lawE L)) (.forLoop (.Name (Str.ofString "kind") px) it body [] (lawE L)) R s') nE s := by
  subst hbody
  refine range_start (n := 2) R9 (by decide) F N fun I h1' F1 N1 lI => ?_
  refine' forC_cell (n := 2) (c := L + 1 + 1 + 1 + 1 + 1) (fun _ m w => (m (Str.ofString "one") = some (.int one t1) ∧ m (Str.ofString "other") = some (.int other t2)) ∧ w = (TA, listOf ts.toArray j) :: (Ta, tup2 (.str xa u1) (.bytes ba u2)) :: (Tb, tup2 (.str xb u3) (.bytes bb u4)) :: (L + 1 + 1 + 1 + 1, o4) :: K) rfl rfl ?hx ?hc ?hlet F1 N1 ?hI d5 ?hcI ?hap ?turn ?fin
  case hx => exact rfl
  case hc => exact rfl
  case hlet => intro _; with_unfolding_all rfl
  case hI => exact ⟨⟨h1, h2⟩, rfl⟩
  case hcI => exact Nat.ne_of_lt (lI _ (.head _))
  case hap =>
    rintro k m2 w2 ⟨-, rfl⟩ q hq
    exact ⟨Nat.ne_of_lt (lI q (.tail _ hq)), hK q hq⟩
  case turn =>
    rintro k tk m2 w2 o s2 hk ⟨⟨e1, e2⟩, rfl⟩ ho F2 N2 ⟨hh, tt, rfl⟩
    have hkd : ((k : Nat) : Int) = 0 ∨ ((k : Nat) : Int) = 1 := by omega
    refine kind_pair (ba := ba) (bb := bb) (j := j) (u1 := u1) (u2 := u2) (u3 := u3) (u4 := u4) (rest := (I, rIt ((k : Int) + 1) (((2 : Nat) : Int) - k - 1)) :: K) X T B F2 (fun q hq => N2 q ?_) d4 ho hkd e1 e2 k1 k2 g1 g2 x1 x2 fun h' t' D v1 v2 F3 N3 => ?_
    · simp only [List.mem_cons] at hq ⊢
      rcases hq with h | h | h | h | h | h | h <;> simp [h]
    refine kind_due X T B F3 N3 d4 ho hkd za zb (pairV_small x1 za) (pairV_small x2 zb) rfl rfl ?_ ?_ (if_pos rfl) k1 k2 g1 g2 x1 x2 fun h5 t5 m5 f1 f2 F5 N5 => ⟨rfl, h5, t5, m5, _, o, _, rfl, ⟨⟨f1, f2⟩, rfl⟩, ho, F5, fun q hq => N5 q ?_⟩
    · show (if Str.ofString "one" = Str.ofString "pair" then _ else m2 (Str.ofString "one")) = _
      rw [if_neg (by decide)]; exact e1
    · show (if Str.ofString "other" = Str.ofString "pair" then _ else m2 (Str.ofString "other")) = _
      rw [if_neg (by decide)]; exact e2
    · simp only [List.mem_cons] at hq ⊢
      rcases hq with h | h | h | h | h | h | h <;> simp [h]
  case fin =>
    rintro hh tt m2 w2 o v ⟨⟨e1, e2⟩, rfl⟩ ho F2 N2
    exact ret _ _ _ _ _ e1 e2 ho F2 N2
end Mine
end
section
open PySem PySem.W PyProof.Rows PySem.Calls
open PySem.Sem (wp)
set_option maxRecDepth 100000
namespace Mine
theorem topOffZB : True := by
  w_top off
  trivial
local macro_rules | `(tactic| k_all) => `(tactic| assumption)
local macro_rules | `(tactic| k_room) => `(tactic| ktr_room)
local macro_rules | `(tactic| k_units) => `(tactic| first | ktr_units | ((try dsimp only); (try simp only [units_make, units_deeper, units_in1, Around.mark_units]); omega))
local macro_rules | `(tactic| walk_at "c_fill") => `(tactic| (have kf : PySem.Challenge.rw_fg0013_01 = PySem.Challenge.rw_fg0013_01 ∧ Mine.hd.heap_39 = Mine.hd.heap_39 := (by k_fill; exact ⟨rfl, rfl⟩)); clear kf)
local macro_rules | `(tactic| walk_at "c_enter") => `(tactic| (k_dflt (refine' callC_def ?kBL ?k1 ?k2 ?k3 ?k4 ?k5 ?kA ?kF ?kK ?k6 ?k7 ?k8 ?k9 ?kB ?_ ?c5 ?c2 ?c3 ?c4; (case kBL => assumption); (case kA => exact rfl); (case kF => exact rfl); (case kK => assumption); (case k1 => k_asm); (case k2 => k_asm); (case k3 => k_asm); (case k4 => k_asm); (case k5 => k_asm); (case k6 => k_is); (case k7 => k_is); (case k8 => ktr_room); (case k9 => first | exact BindsTo.of_eq rfl | exact binds_K (by k_in) rfl (by k_is) rfl rfl rfl | (refine' kp_binds ?kx ?ke; (case kx => k_in); (case ke => exact fun _ => rfl))); (case kB => exact locs rfl); (case c5 => decide); (case c2 => exact rfl); (case c3 => exact rfl); (case c4 => exact rfl); k_whole; intro g' L' h' tk' FG' F' N' B' X' T' l1; (try k_lt l1); (try dsimp only))))
local macro_rules | `(tactic| walk_at "c_enter2") => `(tactic| (k_dflt (refine' callC_def ?kBL ?k1 ?k2 ?k3 ?k4 ?k5 ?kA ?kF ?kK ?k6 ?k7 ?k8 ?k9 ?kB ?_ ?c5 ?c2 ?c3 ?c4; (case kA => exact rfl); (case kF => exact rfl); (case kK => exact rfl); (case k1 => k_asm); (case k2 => k_asm); (case k3 => k_asm); (case k4 => k_asm); (case k5 => k_asm); (case k6 => k_is); (case k7 => k_is); (case k8 => ktr_room); (case k9 => first | exact BindsTo.of_eq rfl | exact binds_K (by k_in) rfl (by k_is) rfl rfl rfl | (refine' kp_binds ?kx ?ke; (case kx => k_in); (case ke => exact fun _ => rfl))); (case kB => exact locs rfl); (case kBL => exact bl _); (case c5 => decide); (case c2 => exact rfl); (case c3 => exact rfl); (case c4 => exact rfl); k_whole; intro g' L' h' tk' FG' F' N' B' X' T' l1; (try k_lt l1); (try dsimp only))))
local macro_rules | `(tactic| walk_at "c_both") => `(tactic| (k_dflt (refine' kp_both ?k1 ?k2 ?k3 ?k4 ?k5 ?kA ?kF ?kK ?k6 ?k7 ?k8 ?kV ?kX ?kQ ?kM ?kN ?kD ?kR ?kP ?kS ?kT ?kB ?_ ?c2 ?c3 ?c4 ?c5; (case kA => exact rfl); (case kF => exact rfl); (case kK => assumption); (case k1 => k_asm); (case k2 => k_asm); (case k3 => k_asm); (case k4 => k_asm); (case k5 => k_asm); (case k6 => k_is); (case k7 => k_is); (case k8 => ktr_room); (case kV => kp_lit); (case kX => kp_lit); (case kQ => exact rfl); (case kM => exact rfl); (case kN => exact rfl); (case kD => kp_flats); (case kR => exact rfl); (case kP => exact rfl); (case kS => exact fun _ => rfl); (case kT => exact fun _ _ => rfl); (case kB => exact fun _ _ => locs rfl); (case c5 => decide); (case c2 => exact rfl); (case c3 => exact rfl); (case c4 => exact rfl); k_whole; intro C' D' o' g' L' h' tk' l1 l2 lo' hs' fs' FG' F' N' B' X' T'; (try k_lt l1); (try k_lt2 l2); (try dsimp only))))
local macro_rules | `(tactic| walk_at "call type:type") => `(tactic| (k_here; (with_reducible show wpAny _ _ (call (Value.type "type") [Value.bytes _ _]) _ _ _); refine call_type_of (Tx := "bytes") rfl (by decide +kernel) ?_))
local macro_rules | `(tactic| walk_at "wpC") => `(tactic| (with_reducible refine wpC_any ?_))
local macro_rules | `(tactic| walk_at "wpC") => `(tactic| (with_reducible refine execsC_any ?_))
local macro_rules | `(tactic| walk_at "wpC") => `(tactic| (refine' execsC_nil ?_))
local macro_rules | `(tactic| walk_at "wpC") => `(tactic| ((with_reducible show wpC _ _ (execs _ _) _ _ _); with_reducible refine execsC_cons ?_; refine' wpC_If ?_))
local macro_rules | `(tactic| walk_at "wpC") => `(tactic| ((with_reducible show wpC _ _ (execs _ _) _ _ _); with_reducible refine execsC_cons ?_; refine' wpC_While ?_; refine' codeC_while ?_))
local macro_rules | `(tactic| walk_at "wpC") => `(tactic| ((with_reducible show wpC _ _ (execs _ _) _ _ _); with_reducible refine execsC_cons ?_; refine' wpC_Try ?_))
local macro_rules | `(tactic| walk_at "wpC") => `(tactic| ((with_reducible show wpC _ _ (execs _ _) _ _ _); with_reducible refine execsC_cons ?_; refine' wpC_For ?_ ?hs; (case hs => intro _; with_unfolding_all rfl)))
local macro_rules | `(tactic| walk_at "pyIter ref") => `(tactic| ((with_reducible show wpAny _ _ (pyIter (Value.ref _)) (fun _ _ => codeC _ _ _ _ _) _ _); (with_reducible rename IsRange _ _ _ _ _ _ _ _ => R9); refine wpAny_pyIter_range R9 ?hsmall ?_; (case hsmall => walk_at "c_small")))
local macro_rules | `(tactic| walk_at "wpC") => `(tactic| ((with_reducible show wpC _ _ (execs _ _) _ _ _); with_reducible refine execsC_cons ?_; refine' wpC_Return ?_; refine' evalC_method ?_ ?he; (case he => with_unfolding_all rfl)))
local macro_rules | `(tactic| walk_at "wpC") => `(tactic| ((with_reducible show wpC _ _ (execs _ _) _ _ _); with_reducible refine execsC_cons ?_; refine' wpC_Expr ?_ ?hi ?hs; (case hi => with_unfolding_all rfl); (case hs => with_unfolding_all rfl); refine' evalC_method ?_ ?he; (case he => with_unfolding_all rfl)))
local macro_rules | `(tactic| walk_at "wpC") => `(tactic| ((with_reducible show wpC _ _ (execs _ _) _ _ _); with_reducible refine execsC_cons ?_; refine' wpC_AssignAttr ?_ ?hs; (case hs => with_unfolding_all rfl)))
local macro_rules | `(tactic| walk_at "wpC") => `(tactic| ((with_reducible show wpC _ _ (execs _ _) _ _ _); with_reducible refine execsC_cons ?_; refine' wpC_AssignSub ?_ ?hs; (case hs => with_unfolding_all rfl)))
local macro_rules | `(tactic| walk_at "wpC") => `(tactic| ((with_reducible show wpC _ _ (eval _ _) _ _ _); refine' evalC_ifExp ?_))
local macro_rules | `(tactic| walk_at "wpC") => `(tactic| ((with_reducible show wpC _ _ (eval _ _) _ _ _); refine' evalC_call ?_ ?he; (case he => with_unfolding_all rfl)))
local macro_rules | `(tactic| walk_at "wpC") => `(tactic| ((with_reducible show wpC _ _ (callWith _ _ _ _ _) _ _ _); k_dflt (first | refine' callWithC_T0 ?_ | (refine' callWithC_K0 ?k1 ?k2 ?_; (case k1 => k_in); (case k2 => k_is); k_whole) | (refine' callWithC_K ?k1 ?k2 ?_; (case k1 => k_asm); (case k2 => k_is); k_whole))))
local macro_rules | `(tactic| walk_at "wpC") => `(tactic| ((with_reducible show wpC _ _ (call _ _) _ _ _); k_dflt (show wpC _ _ (call (Value.type "bytearray") []) _ _ _); (with_reducible rename Fr _ _ _ _ => F9); (with_reducible rename News _ _ _ _ => N9); (refine call_baN (s := ⟨_, _, _, _, _⟩) F9 N9 ?_); intro ba' h' F' N' l1; (try k_lt l1)))
local macro_rules | `(tactic| walk_at "wpC") => `(tactic| ((with_reducible show wpC _ _ (setItem (.ref _) (.ref _) (.bytes _ _)) _ _ _); (with_reducible rename Fr _ _ _ _ => F9); (with_reducible rename News _ _ _ _ => N9); refine setItem_N (s := ⟨_, _, _, _, _⟩) F9 N9 (by assumption) (by assumption) (by assumption) (by rw [sizeLine_eq]; omega) ?_; intro _ F' N'))
local macro_rules | `(tactic| walk_at "call builtin:len") => `(tactic| (k_here; (with_reducible show wpAny _ _ (call (Value.builtin "len") [Value.ref _]) _ _ _); (with_reducible rename News _ _ _ _ => N9); refine len_ba (bs := _) (News.get N9 (by repeat (first | exact List.Mem.head _ | apply List.Mem.tail))) (by omega) ?_; have N' := N9; clear N9))
local macro_rules | `(tactic| walk_at "call type:bytes") => `(tactic| (k_here; (with_reducible show wpAny _ _ (call (Value.type "bytes") [Value.ref _]) _ _ _); (with_reducible rename News _ _ _ _ => N9); refine call_bytes_ba (bs := _) (News.get N9 (by repeat (first | exact List.Mem.head _ | apply List.Mem.tail))) (by rw [sizeLine_eq]; first | omega | (simp only [List.size_toArray]; omega)) ?_; have N' := N9; clear N9))
local macro_rules | `(tactic| walk_at "wpC") => `(tactic| ((with_reducible show wpC _ _ (callWith _ (Value.ref _) _ (backTo _ (starEach (_ :: _) _)) _) _ _ _); k_dflt (refine' callWithC_K ?k1 ?k2 ?_; (case k1 => k_asm); (case k2 => k_is); k_whole)))
local macro_rules | `(tactic| walk_at "binaryOp Pow int int") => `(tactic| (k_here; (with_reducible refine pow_int_small ?kb1 ?kb2 ?kb3 ?_); (case kb1 => decide); (case kb2 => decide); (case kb3 => decide)))
local macro_rules | `(tactic| walk_at "subscriptTail Name BinOp ref int") => `(tactic| (k_here; (with_reducible show wpAny _ _ (subscriptTail _ _ (Value.ref _) (Value.int _ _)) _ _ _); (with_reducible rename News _ _ _ _ => N9); k_dflt (refine' item_ints N9 ?hm ?hi ?h0 ?h1 ?h2 ?_ ?hs ?ht; (case hs => with_unfolding_all rfl); (case ht => (intro _; with_unfolding_all rfl)); (case hm => repeat (first | exact List.Mem.head _ | apply List.Mem.tail)); (case hi => assumption); (case h0 => exact IdxOk.a (by assumption) (by assumption) (by assumption)); (case h1 => exact IdxOk.b (by assumption) (by assumption) (by assumption)); (case h2 => exact IdxOk.c (by assumption) (by assumption) (by assumption))); intro u'; have N' := N9; clear N9))
local macro_rules | `(tactic| walk_at "eval Name") => `(tactic| (k_here; (with_reducible rename Fr _ _ _ _ => kF); k_dflt (refine' nameX_L kF ?hv ?_ ?hk ?hx ?hd; (case hk => rfl); (case hx => rfl); (case hd => decide); (case hv => assumption); k_whole)))
local macro_rules | `(tactic| walk_at "wpC") => `(tactic| ((with_reducible show wpC _ _ (execs (Stmt.Assign [Expr.Name _ _] _ _ :: _) _) _ _ _); with_reducible refine execsC_any ?_))
local macro_rules | `(tactic| walk_at "subscriptTail Name Name ref int") => `(tactic| (k_here; (with_reducible show wpAny _ _ (subscriptTail _ _ (Value.ref _) (Value.int _ _)) _ _ _); (with_reducible rename News _ _ _ _ => N9); k_dflt (refine' item_listN N9 ?hm ?h0 ?h1 ?hx ?_ ?hs ?ht; (case hs => with_unfolding_all rfl); (case ht => (intro _; with_unfolding_all rfl)); (case hm => k_mem); (case hx => assumption); (case h0 => omega); (case h1 => omega)); have N' := N9; clear N9))
local macro_rules | `(tactic| walk_at "wpC") => `(tactic| ((with_reducible show wpC _ _ (execs (Stmt.Assign [Expr.Tuple _ _ _] _ _ :: _) _) _ _ _); with_reducible refine execsC_cons ?_; refine' wpC_AssignPair (names := [Str.ofString "first", Str.ofString "second"]) rfl rfl rfl ?_))
local macro_rules | `(tactic| walk_at "wpC") => `(tactic| ((with_reducible show wpC _ _ (eval (Expr.Call _ _ _ _) _) _ _ _); refine' evalC_call ?_ ?he; (case he => with_unfolding_all rfl)))
local macro_rules | `(tactic| walk_at "wpC") => `(tactic| ((with_reducible show wpC _ _ (call _ _) _ _ _); k_dflt (show wpC _ _ (call (Value.ref 890) [.ref _]) _ _ _); walk_at "c_packrow"))
local macro_rules | `(tactic| walk_at "c_packrow") => `(tactic| ((with_reducible rename Fr _ _ _ _ => F9); (with_reducible rename News _ _ _ _ => N9); (k_dflt (refine' packb_c (s := ⟨_, _, _, _, _⟩) (packs_list ?i1 ?i2 ?i3) ?b1 F9 ?b2 ?b3 N9 ?b4 ?ok ?he ?b5 ?b6 ?_; (case ok => (intro e9; exact List.Mem.tail _ (by k_mem))); (case i1 => assumption); (case i2 => assumption); (case i3 => assumption); (case b1 => k_asm); (case b2 => k_asm); (case b3 => k_asm); (case b4 => exact rfl); (case he => assumption); (case b5 => ktr_room); (case b6 => k_units); k_whole)); intro h' t' tk' F' N'))
local macro_rules | `(tactic| walk_at "compareOp Lt bytes bytes") => `(tactic| (k_here; k_dflt (refine' lt_rows ?hm ?_; (case hm => assumption))))
local macro_rules | `(tactic| walk_at "compareOp Eq bytes bytes") => `(tactic| (k_here; k_dflt (refine' eq_rows ?hm ?_; (case hm => assumption))))
local macro_rules | `(tactic| walk_at "compareOp NotEq bytes bytes") => `(tactic| (k_here; k_dflt (first | (refine' ne_rows_same ?hm ?_; (case hm => assumption)) | (refine' ne_rows_diff ?hm ?hn ?_; (case hm => assumption); (case hn => assumption)))))
local macro_rules | `(tactic| walk_at "compareOp NotEq bool bool") => `(tactic| (k_here; (with_reducible refine ne_same ?_)))
local macro_rules | `(tactic| walk_at "compareOp Lt ref ref") => `(tactic| (k_here; (with_reducible rename News _ _ _ _ => N9); k_dflt (refine' lt_places N9 ?m1 ?m2 ?p1 ?p2 ?nf ?l1 ?l2 ?hl ?hu ?_; (case m1 => k_mem); (case m2 => k_mem); (case p1 => assumption); (case p2 => assumption); (case nf => exact news_fr N9); (case l1 => assumption); (case l2 => assumption); (case hl => exact RowsMeet.len (by assumption)); (case hu => k_units)); have N' := N9; clear N9))
local macro_rules | `(tactic| walk_at "compareOp Eq ref ref") => `(tactic| (k_here; (with_reducible rename News _ _ _ _ => N9); k_dflt (refine' eq_lists N9 ?m1 ?m2 ?p1 ?p2 ?hl ?hu ?_; (case m1 => k_mem); (case m2 => k_mem); (case p1 => assumption); (case p2 => assumption); (case hl => assumption); (case hu => k_units)); have N' := N9; clear N9))
local macro_rules | `(tactic| walk_at "getMethod bytes") => `(tactic| (k_here; (with_reducible refine meth_starts ?_)))
local macro_rules | `(tactic| walk_at "call builtin:bytes.startswith") => `(tactic| (k_here; k_dflt (refine' starts_rows ?hm ?hn ?_; (case hm => first | assumption | exact RowsMeet.symm (by assumption)); (case hn => first | assumption | exact fun e => absurd e.symm (by assumption)))))
local macro_rules | `(tactic| walk_at "subscriptTail Name Constant ref int") => `(tactic| (k_here; (with_reducible rename News _ _ _ _ => N9); k_dflt (first | ((with_reducible show wpAny _ _ (subscriptTail _ _ (Value.ref _) (Value.int 0 _)) _ _ _); refine' item_pair0 N9 ?hm ?_ ?hs ?ht; (case hs => with_unfolding_all rfl); (case ht => (intro _; with_unfolding_all rfl)); (case hm => k_mem)) | ((with_reducible show wpAny _ _ (subscriptTail _ _ (Value.ref _) (Value.int 1 _)) _ _ _); refine' item_pair1 N9 ?hm ?_ ?hs ?ht; (case hs => with_unfolding_all rfl); (case ht => (intro _; with_unfolding_all rfl)); (case hm => k_mem))); have N' := N9; clear N9))
theorem news_sub7 {g h : Heap} {L : Addr} {a b c d e i k : Addr × Obj} {fr r w : List (Addr × Obj)} (N : News g L h (a :: b :: c :: d :: e :: i :: k :: (fr ++ r))) (hs : ∀ q ∈ w, q ∈ r) : News g L h w := fun q hq => N q (by simp [hs q hq])
set_option maxRecDepth 100000 in
set_option maxHeartbeats 4000000 in
theorem body_if3 {prog : Program} {w : World} {mg mb : Str → Option Value} {p : Program} {loose : List Str} {mean : ExcName → Option Value} {s₁ : Shared} {h0 : Heap} {L : Addr} {m : Str → Option Value} {one other : Nat} {t1 t2 u1 u2 : Tok}
    {RA Ra Rb D D1 D2 : Addr} {o2 : Obj} {j la lb n1 n2 : Nat} {rs va vb ys1 ys2 : List Value} {na nb : List Int} {fr rest : List (Addr × Obj)} {Q : Flow → Shared → Prop}
    (X : (Mine.hd.heap_39 w.params).In h0) (T : Top p loose mean mg mb h0) (B : Below callerA h0 [] h0)
    (F : Fr h0 L s₁.heap m) (N : News h0 L s₁.heap ((D, listOf #[.ref D1, .ref D2] 2) :: (D1, listOf ys1.toArray n1) :: (D2, listOf ys2.toArray n2) :: (RA, listOf rs.toArray j) :: (Ra, listOf va.toArray la) :: (Rb, listOf vb.toArray lb) :: (L + 1 + 1, o2) :: (fr ++ rest)))
    (d2 : o2.data = .cell (some (.ref RA))) (ha : IntsAre va na) (hb : IntsAre vb nb) (hm : RowsMeet na nb) (p1 : PlacesPre ys1 na fr) (p2 : PlacesPre ys2 nb fr) (l1 : ys1.length = na.length) (l2 : ys2.length = nb.length)
    (h1 : m (Str.ofString "one") = some (.int one t1)) (h2 : m (Str.ofString "other") = some (.int other t2)) (h3 : m (Str.ofString "first") = some (.bytes (encRow na).toArray u1)) (h4 : m (Str.ofString "second") = some (.bytes (encRow nb).toArray u2)) (h5 : m (Str.ofString "places") = some (.ref D)) (k1 : one < 3) (k2 : other < 3)
    (g1 : rs.toArray[((one : Nat) : Int).toNat]? = some (.ref Ra)) (g2 : rs.toArray[((other : Nat) : Int).toNat]? = some (.ref Rb))
    {TA Ta Tb : Addr} {o4 o5 : Obj} {v5 : Option Value} {jt : Nat} {ts : List Value} {xa xb : Str} {ba bb : Array UInt8} {w1 w2 w3 w4 : Tok} {K : List (Addr × Obj)}
    (d4 : o4.data = .cell (some (.ref TA))) (d5 : o5.data = .cell v5) (za : ba.size ≤ 200) (zb : bb.size ≤ 200) (e1 : ts.toArray[((one : Nat) : Int).toNat]? = some (.ref Ta)) (e2 : ts.toArray[((other : Nat) : Int).toNat]? = some (.ref Tb)) (x1 : xa ∈ txts) (x2 : xb ∈ txts)
    (hsub : ∀ q ∈ (L + 1 + 1 + 1 + 1 + 1, o5) :: (TA, listOf ts.toArray jt) :: (Ta, tup2 (.str xa w1) (.bytes ba w2)) :: (Tb, tup2 (.str xb w3) (.bytes bb w4)) :: (L + 1 + 1 + 1 + 1, o4) :: K, q ∈ rest)
    (hK : ∀ q ∈ (TA, listOf ts.toArray jt) :: (Ta, tup2 (.str xa w1) (.bytes ba w2)) :: (Tb, tup2 (.str xb w3) (.bytes bb w4)) :: (L + 1 + 1 + 1 + 1, o4) :: K, q.1 ≠ L + 1 + 1 + 1 + 1 + 1)
    (ret : ∀ h t m' o5' v5', m' (Str.ofString "one") = some (.int one t1) → m' (Str.ofString "other") = some (.int other t2) → o5'.data = .cell v5' → Fr h0 L h m' →
      News h0 L h ((L + 1 + 1 + 1 + 1 + 1, o5') :: (TA, listOf ts.toArray jt) :: (Ta, tup2 (.str xa w1) (.bytes ba w2)) :: (Tb, tup2 (.str xb w3) (.bytes bb w4)) :: (L + 1 + 1 + 1 + 1, o4) :: K) → Q .next { s₁ with heap := h, toks := t }) :
    wpC (model prog w) (callerA.deeper (lawE L)) (execs (otherS.1.drop 2) (lawE L)) Q nE s₁ := by
  walk_at "c_fill"
  obtain ⟨hp, gs, dr, tks, os⟩ := s₁
  dsimp only at F N
  dsimp only [otherS, lawE, lawScS, List.drop]
  by_cases hne : na = nb
  all_goals k_steps
  all_goals
    rename IsRange _ _ _ _ _ _ _ _ => R9
    rename Fr _ _ _ _ => F9
    rename News _ _ _ _ => N9
    have N8 := news_sub7 N9 hsub
    refine kind_loop (s := ⟨_, _, _, _, _⟩) X T B rfl F9 N8 R9 d4 d5 za zb hK h1 h2 k1 k2 e1 e2 x1 x2 fun h t m' o5' v5' f1 f2 f3 f4 f5 => ?_
    exact execsC_nil (ret h t m' o5' v5' f1 f2 f3 f4 f5)
end Mine
end
section
open PySem PySem.W PyProof.Rows PySem.Calls
open PySem.Sem (wp)
set_option maxRecDepth 100000
namespace Mine
theorem topOffZC : True := by
  w_top off
  trivial
local macro_rules | `(tactic| k_all) => `(tactic| assumption)
local macro_rules | `(tactic| k_room) => `(tactic| ktr_room)
local macro_rules | `(tactic| k_units) => `(tactic| first | ktr_units | ((try dsimp only); (try simp only [units_make, units_deeper, units_in1, Around.mark_units]); omega))
local macro_rules | `(tactic| walk_at "c_fill") => `(tactic| (have kf : PySem.Challenge.rw_fg0013_01 = PySem.Challenge.rw_fg0013_01 ∧ Mine.hd.heap_39 = Mine.hd.heap_39 := (by k_fill; exact ⟨rfl, rfl⟩)); clear kf)
local macro_rules | `(tactic| walk_at "c_enter") => `(tactic| (k_dflt (refine' callC_def ?kBL ?k1 ?k2 ?k3 ?k4 ?k5 ?kA ?kF ?kK ?k6 ?k7 ?k8 ?k9 ?kB ?_ ?c5 ?c2 ?c3 ?c4; (case kBL => assumption); (case kA => exact rfl); (case kF => exact rfl); (case kK => assumption); (case k1 => k_asm); (case k2 => k_asm); (case k3 => k_asm); (case k4 => k_asm); (case k5 => k_asm); (case k6 => k_is); (case k7 => k_is); (case k8 => ktr_room); (case k9 => first | exact BindsTo.of_eq rfl | exact binds_K (by k_in) rfl (by k_is) rfl rfl rfl | (refine' kp_binds ?kx ?ke; (case kx => k_in); (case ke => exact fun _ => rfl))); (case kB => exact locs rfl); (case c5 => decide); (case c2 => exact rfl); (case c3 => exact rfl); (case c4 => exact rfl); k_whole; intro g' L' h' tk' FG' F' N' B' X' T' l1; (try k_lt l1); (try dsimp only))))
local macro_rules | `(tactic| walk_at "c_enter2") => `(tactic| (k_dflt (refine' callC_def ?kBL ?k1 ?k2 ?k3 ?k4 ?k5 ?kA ?kF ?kK ?k6 ?k7 ?k8 ?k9 ?kB ?_ ?c5 ?c2 ?c3 ?c4; (case kA => exact rfl); (case kF => exact rfl); (case kK => exact rfl); (case k1 => k_asm); (case k2 => k_asm); (case k3 => k_asm); (case k4 => k_asm); (case k5 => k_asm); (case k6 => k_is); (case k7 => k_is); (case k8 => ktr_room); (case k9 => first | exact BindsTo.of_eq rfl | exact binds_K (by k_in) rfl (by k_is) rfl rfl rfl | (refine' kp_binds ?kx ?ke; (case kx => k_in); (case ke => exact fun _ => rfl))); (case kB => exact locs rfl); (case kBL => exact bl _); (case c5 => decide); (case c2 => exact rfl); (case c3 => exact rfl); (case c4 => exact rfl); k_whole; intro g' L' h' tk' FG' F' N' B' X' T' l1; (try k_lt l1); (try dsimp only))))
local macro_rules | `(tactic| walk_at "c_both") => `(tactic| (k_dflt (refine' kp_both ?k1 ?k2 ?k3 ?k4 ?k5 ?kA ?kF ?kK ?k6 ?k7 ?k8 ?kV ?kX ?kQ ?kM ?kN ?kD ?kR ?kP ?kS ?kT ?kB ?_ ?c2 ?c3 ?c4 ?c5; (case kA => exact rfl); (case kF => exact rfl); (case kK => assumption); (case k1 => k_asm); (case k2 => k_asm); (case k3 => k_asm); (case k4 => k_asm); (case k5 => k_asm); (case k6 => k_is); (case k7 => k_is); (case k8 => ktr_room); (case kV => kp_lit); (case kX => kp_lit); (case kQ => exact rfl); (case kM => exact rfl); (case kN => exact rfl); (case kD => kp_flats); (case kR => exact rfl); (case kP => exact rfl); (case kS => exact fun _ => rfl); (case kT => exact fun _ _ => rfl); (case kB => exact fun _ _ => locs rfl); (case c5 => decide); (case c2 => exact rfl); (case c3 => exact rfl); (case c4 => exact rfl); k_whole; intro C' D' o' g' L' h' tk' l1 l2 lo' hs' fs' FG' F' N' B' X' T'; (try k_lt l1); (try k_lt2 l2); (try dsimp only))))
local macro_rules | `(tactic| walk_at "call type:type") => `(tactic| (k_here; (with_reducible show wpAny _ _ (call (Value.type "type") [Value.bytes _ _]) _ _ _); refine call_type_of (Tx := "bytes") rfl (by decide +kernel) ?_))
local macro_rules | `(tactic| walk_at "wpC") => `(tactic| (with_reducible refine wpC_any ?_))
local macro_rules | `(tactic| walk_at "wpC") => `(tactic| (with_reducible refine execsC_any ?_))
local macro_rules | `(tactic| walk_at "wpC") => `(tactic| (refine' execsC_nil ?_))
local macro_rules | `(tactic| walk_at "wpC") => `(tactic| ((with_reducible show wpC _ _ (execs _ _) _ _ _); with_reducible refine execsC_cons ?_; refine' wpC_If ?_))
local macro_rules | `(tactic| walk_at "wpC") => `(tactic| ((with_reducible show wpC _ _ (execs _ _) _ _ _); with_reducible refine execsC_cons ?_; refine' wpC_While ?_; refine' codeC_while ?_))
local macro_rules | `(tactic| walk_at "wpC") => `(tactic| ((with_reducible show wpC _ _ (execs _ _) _ _ _); with_reducible refine execsC_cons ?_; refine' wpC_Try ?_))
local macro_rules | `(tactic| walk_at "wpC") => `(tactic| ((with_reducible show wpC _ _ (execs _ _) _ _ _); with_reducible refine execsC_cons ?_; refine' wpC_For ?_ ?hs; (case hs => intro _; with_unfolding_all rfl)))
local macro_rules | `(tactic| walk_at "pyIter ref") => `(tactic| ((with_reducible show wpAny _ _ (pyIter (Value.ref _)) (fun _ _ => codeC _ _ _ _ _) _ _); (with_reducible rename IsRange _ _ _ _ _ _ _ _ => R9); refine wpAny_pyIter_range R9 ?hsmall ?_; (case hsmall => walk_at "c_small")))
local macro_rules | `(tactic| walk_at "wpC") => `(tactic| ((with_reducible show wpC _ _ (execs _ _) _ _ _); with_reducible refine execsC_cons ?_; refine' wpC_Return ?_; refine' evalC_method ?_ ?he; (case he => with_unfolding_all rfl)))
local macro_rules | `(tactic| walk_at "wpC") => `(tactic| ((with_reducible show wpC _ _ (execs _ _) _ _ _); with_reducible refine execsC_cons ?_; refine' wpC_Expr ?_ ?hi ?hs; (case hi => with_unfolding_all rfl); (case hs => with_unfolding_all rfl); refine' evalC_method ?_ ?he; (case he => with_unfolding_all rfl)))
local macro_rules | `(tactic| walk_at "wpC") => `(tactic| ((with_reducible show wpC _ _ (execs _ _) _ _ _); with_reducible refine execsC_cons ?_; refine' wpC_AssignAttr ?_ ?hs; (case hs => with_unfolding_all rfl)))
local macro_rules | `(tactic| walk_at "wpC") => `(tactic| ((with_reducible show wpC _ _ (execs _ _) _ _ _); with_reducible refine execsC_cons ?_; refine' wpC_AssignSub ?_ ?hs; (case hs => with_unfolding_all rfl)))
local macro_rules | `(tactic| walk_at "wpC") => `(tactic| ((with_reducible show wpC _ _ (eval _ _) _ _ _); refine' evalC_ifExp ?_))
local macro_rules | `(tactic| walk_at "wpC") => `(tactic| ((with_reducible show wpC _ _ (eval _ _) _ _ _); refine' evalC_call ?_ ?he; (case he => with_unfolding_all rfl)))
local macro_rules | `(tactic| walk_at "wpC") => `(tactic| ((with_reducible show wpC _ _ (callWith _ _ _ _ _) _ _ _); k_dflt (first | refine' callWithC_T0 ?_ | (refine' callWithC_K0 ?k1 ?k2 ?_; (case k1 => k_in); (case k2 => k_is); k_whole) | (refine' callWithC_K ?k1 ?k2 ?_; (case k1 => k_asm); (case k2 => k_is); k_whole))))
local macro_rules | `(tactic| walk_at "wpC") => `(tactic| ((with_reducible show wpC _ _ (call _ _) _ _ _); k_dflt (show wpC _ _ (call (Value.type "bytearray") []) _ _ _); (with_reducible rename Fr _ _ _ _ => F9); (with_reducible rename News _ _ _ _ => N9); (refine call_baN (s := ⟨_, _, _, _, _⟩) F9 N9 ?_); intro ba' h' F' N' l1; (try k_lt l1)))
local macro_rules | `(tactic| walk_at "wpC") => `(tactic| ((with_reducible show wpC _ _ (setItem (.ref _) (.ref _) (.bytes _ _)) _ _ _); (with_reducible rename Fr _ _ _ _ => F9); (with_reducible rename News _ _ _ _ => N9); refine setItem_N (s := ⟨_, _, _, _, _⟩) F9 N9 (by assumption) (by assumption) (by assumption) (by rw [sizeLine_eq]; omega) ?_; intro _ F' N'))
local macro_rules | `(tactic| walk_at "call builtin:len") => `(tactic| (k_here; (with_reducible show wpAny _ _ (call (Value.builtin "len") [Value.ref _]) _ _ _); (with_reducible rename News _ _ _ _ => N9); refine len_ba (bs := _) (News.get N9 (by repeat (first | exact List.Mem.head _ | apply List.Mem.tail))) (by omega) ?_; have N' := N9; clear N9))
local macro_rules | `(tactic| walk_at "call type:bytes") => `(tactic| (k_here; (with_reducible show wpAny _ _ (call (Value.type "bytes") [Value.ref _]) _ _ _); (with_reducible rename News _ _ _ _ => N9); refine call_bytes_ba (bs := _) (News.get N9 (by repeat (first | exact List.Mem.head _ | apply List.Mem.tail))) (by rw [sizeLine_eq]; first | omega | (simp only [List.size_toArray]; omega)) ?_; have N' := N9; clear N9))
local macro_rules | `(tactic| walk_at "wpC") => `(tactic| ((with_reducible show wpC _ _ (callWith _ (Value.ref _) _ (backTo _ (starEach (_ :: _) _)) _) _ _ _); k_dflt (refine' callWithC_K ?k1 ?k2 ?_; (case k1 => k_asm); (case k2 => k_is); k_whole)))
local macro_rules | `(tactic| walk_at "binaryOp Pow int int") => `(tactic| (k_here; (with_reducible refine pow_int_small ?kb1 ?kb2 ?kb3 ?_); (case kb1 => decide); (case kb2 => decide); (case kb3 => decide)))
local macro_rules | `(tactic| walk_at "subscriptTail Name BinOp ref int") => `(tactic| (k_here; (with_reducible show wpAny _ _ (subscriptTail _ _ (Value.ref _) (Value.int _ _)) _ _ _); (with_reducible rename News _ _ _ _ => N9); k_dflt (refine' item_ints N9 ?hm ?hi ?h0 ?h1 ?h2 ?_ ?hs ?ht; (case hs => with_unfolding_all rfl); (case ht => (intro _; with_unfolding_all rfl)); (case hm => repeat (first | exact List.Mem.head _ | apply List.Mem.tail)); (case hi => assumption); (case h0 => exact IdxOk.a (by assumption) (by assumption) (by assumption)); (case h1 => exact IdxOk.b (by assumption) (by assumption) (by assumption)); (case h2 => exact IdxOk.c (by assumption) (by assumption) (by assumption))); intro u'; have N' := N9; clear N9))
local macro_rules | `(tactic| walk_at "eval Name") => `(tactic| (k_here; (with_reducible rename Fr _ _ _ _ => kF); k_dflt (refine' nameX_L kF ?hv ?_ ?hk ?hx ?hd; (case hk => rfl); (case hx => rfl); (case hd => decide); (case hv => assumption); k_whole)))
local macro_rules | `(tactic| walk_at "wpC") => `(tactic| ((with_reducible show wpC _ _ (execs (Stmt.Assign [Expr.Name _ _] _ _ :: _) _) _ _ _); with_reducible refine execsC_any ?_))
local macro_rules | `(tactic| walk_at "subscriptTail Name Name ref int") => `(tactic| (k_here; (with_reducible show wpAny _ _ (subscriptTail _ _ (Value.ref _) (Value.int _ _)) _ _ _); (with_reducible rename News _ _ _ _ => N9); k_dflt (refine' item_listN N9 ?hm ?h0 ?h1 ?hx ?_ ?hs ?ht; (case hs => with_unfolding_all rfl); (case ht => (intro _; with_unfolding_all rfl)); (case hm => k_mem); (case hx => assumption); (case h0 => omega); (case h1 => omega)); have N' := N9; clear N9))
local macro_rules | `(tactic| walk_at "wpC") => `(tactic| ((with_reducible show wpC _ _ (execs (Stmt.Assign [Expr.Tuple _ _ _] _ _ :: _) _) _ _ _); with_reducible refine execsC_cons ?_; refine' wpC_AssignPair (names := [Str.ofString "first", Str.ofString "second"]) rfl rfl rfl ?_))
local macro_rules | `(tactic| walk_at "wpC") => `(tactic| ((with_reducible show wpC _ _ (eval (Expr.Call _ _ _ _) _) _ _ _); refine' evalC_call ?_ ?he; (case he => with_unfolding_all rfl)))
local macro_rules | `(tactic| walk_at "wpC") => `(tactic| ((with_reducible show wpC _ _ (call _ _) _ _ _); k_dflt (show wpC _ _ (call (Value.ref 890) [.ref _]) _ _ _); walk_at "c_packrow"))
local macro_rules | `(tactic| walk_at "c_packrow") => `(tactic| ((with_reducible rename Fr _ _ _ _ => F9); (with_reducible rename News _ _ _ _ => N9); (k_dflt (refine' packb_c (s := ⟨_, _, _, _, _⟩) (packs_list ?i1 ?i2 ?i3) ?b1 F9 ?b2 ?b3 N9 ?b4 ?ok ?he ?b5 ?b6 ?_; (case ok => (intro e9; exact List.Mem.tail _ (by k_mem))); (case i1 => assumption); (case i2 => assumption); (case i3 => assumption); (case b1 => k_asm); (case b2 => k_asm); (case b3 => k_asm); (case b4 => exact rfl); (case he => assumption); (case b5 => ktr_room); (case b6 => k_units); k_whole)); intro h' t' tk' F' N'))
local macro_rules | `(tactic| walk_at "call ref") => `(tactic| (k_here; (k_dflt (show wpAny _ _ (call (Value.ref 904) [.int _ _]) _ _ _)); (with_reducible rename Fr _ _ _ _ => F9); (with_reducible rename News _ _ _ _ => N9); (k_dflt (refine' place_c (s := ⟨_, _, _, _, _⟩) ?b1 F9 ?b2 ?b3 N9 ?b4 ?b5 ?b6 ?_; (case b1 => k_asm); (case b2 => k_asm); (case b3 => k_asm); (case b4 => exact rfl); (case b5 => ktr_room); (case b6 => k_units); k_whole)); intro D' h' t1' t2' tk' l1 F' N'))
def placesX : { b : Expr × Scope // (match otherS.1.getD 1 (.Pass default) with | .Assign _ (.ListComp e _ s _) _ => (e, s) | _ => (.Name default default, default)) = b } := by
  refine ⟨?_, ?h⟩
  case h => exact (rfl : _ = (_, _))
def InnerEnd (h0 : Heap) (L : Addr) (m : Str → Option Value) (s : Shared) (all : List (Addr × Obj)) (nx : List Int) (y : Value) (s₂ : Shared) : Prop :=
  ∃ D' h' tk' ys' fr, y = .ref D' ∧ s₂ = { s with heap := h', toks := tk' } ∧ Fr h0 L h' m ∧ News h0 L h' ((D', LCg.lst ys') :: (fr ++ all)) ∧ ys'.length = nx.length ∧ PlacesPre ys' nx fr ∧ (∀ q ∈ fr, ∀ p ∈ all, @Ne Nat q.1 p.1) ∧ (∀ q ∈ fr ++ all, @Ne Nat q.1 D')
set_option maxRecDepth 100000 in
set_option maxHeartbeats 4000000 in
theorem inner_c {prog : Program} {w : World} {mg mb : Str → Option Value} {p : Program} {loose : List Str} {mean : ExcName → Option Value} {s₁ : Shared} {h0 : Heap} {L C : Addr} {m m₂ : Str → Option Value} {i : Nat} {t1 : Tok}
    {RA Ra : Addr} {o2 oC : Obj} {j la : Nat} {rs va : List Value} {na : List Int} {all : List (Addr × Obj)} {E : Value → Shared → Prop}
    (X : (Mine.hd.heap_39 w.params).In h0) (T : Top p loose mean mg mb h0) (B : Below callerA h0 [] h0)
    (F : Fr h0 L s₁.heap m) (N : News h0 L s₁.heap ((C, oC) :: (RA, listOf rs.toArray j) :: (Ra, listOf va.toArray la) :: (L + 1 + 1, o2) :: all)) (hm1 : (C, oC) ∈ all) (hm2 : (RA, listOf rs.toArray j) ∈ all) (hm3 : (Ra, listOf va.toArray la) ∈ all) (hm4 : (L + 1 + 1, o2) ∈ all)
    (hC : LCg.NsObj oC m₂) (hx : m₂ (Str.ofString "k") = some (.int i t1))
    (d2 : o2.data = .cell (some (.ref RA))) (ha : IntsAre va na) (hn : na.length ≤ 15) (k1 : i < 3) (g1 : rs.toArray[((i : Nat) : Int).toNat]? = some (.ref Ra)) :
    wpAny (model prog w) (callerA.deeper (lawE L)) (eval placesX.1.1 (compEnvC placesX.1.2 [(Str.ofString "rows", L + 1 + 1)] C (lawE L))) (InnerEnd h0 L m s₁ all na) E s₁ := by
  walk_at "c_fill"
  obtain ⟨hp, gs, dr, tks, os⟩ := s₁
  dsimp only at F N
  dsimp only [placesX, lawE, lawScS]
  refine' LCg.ListComp_U (L := L) (h₀ := h0) (m := m) (cl := []) F ?hclos ?hcell ?hkind ?hnames ?hx ?_ ?hs
  case hclos => exact rfl
  case hcell => decide
  case hkind => exact rfl
  case hnames => decide
  case hx => exact rfl
  case hs => intro _; with_unfolding_all rfl
  iterate 4 (first | (k_unfold; (try dsimp only)) | walk1 | (dsimp only; walk1))
  rename Fr _ _ _ _ => F9
  rename News _ _ _ _ => N9
  have Nall : News h0 L _ all := fun q hq => N9 q (.tail _ (.tail _ (.tail _ (.tail _ hq))))
  have hvl : va.toArray.size ≤ sizeLine := by rw [List.size_toArray, ha.length, sizeLine_eq]; omega
  refine LCg.CompSrc.ledger rfl F9 Nall hm3 hvl fun g => ?_
  refine places_rest ha hm3 ?turn ?fin
  case turn =>
    intro k t I oI C2 oC2 D m₃ ys h tk nw E' hC2 hx2 F2 N2
    k_steps
    exact ⟨_, _, _, _, _, _, rfl, rfl, by assumption, by assumption, by assumption⟩
  case fin =>
    intro ys fr hl hp hfr
    intro D h tk F3 N3 o1
    exact ⟨D, h, tk, ys, fr, rfl, rfl, F3, N3, hl, hp, hfr, off1_all o1⟩
theorem inner_d {prog : Program} {w : World} {mg mb : Str → Option Value} {p : Program} {loose : List Str} {mean : ExcName → Option Value} {s₁ : Shared} {h0 : Heap} {L C : Addr} {m m₂ : Str → Option Value} {i : Nat} {t1 : Tok}
    {RA Ra : Addr} {o2 oC : Obj} {j la : Nat} {rs va : List Value} {na : List Int} {all : List (Addr × Obj)} {E : Value → Shared → Prop}
    (X : (Mine.hd.heap_39 w.params).In h0) (T : Top p loose mean mg mb h0) (B : Below callerA h0 [] h0)
    (F : Fr h0 L s₁.heap m) (N : News h0 L s₁.heap all) (hm1 : (C, oC) ∈ all) (hm2 : (RA, listOf rs.toArray j) ∈ all) (hm3 : (Ra, listOf va.toArray la) ∈ all) (hm4 : (L + 1 + 1, o2) ∈ all)
    (hC : LCg.NsObj oC m₂) (hx : m₂ (Str.ofString "k") = some (.int i t1))
    (d2 : o2.data = .cell (some (.ref RA))) (ha : IntsAre va na) (hn : na.length ≤ 15) (k1 : i < 3) (g1 : rs.toArray[((i : Nat) : Int).toNat]? = some (.ref Ra)) :
    wpAny (model prog w) (callerA.deeper (lawE L)) (eval placesX.1.1 (compEnvC placesX.1.2 [(Str.ofString "rows", L + 1 + 1)] C (lawE L))) (InnerEnd h0 L m s₁ all na) E s₁ :=
  inner_c X T B F (fun q hq => by
    simp only [List.mem_cons] at hq
    rcases hq with rfl | rfl | rfl | rfl | hq
    · exact N _ hm1
    · exact N _ hm2
    · exact N _ hm3
    · exact N _ hm4
    · exact N _ hq) hm1 hm2 hm3 hm4 hC hx d2 ha hn k1 g1
theorem inner_step {h0 : Heap} {L I C D ax : Addr} {m : Str → Option Value} {s s₂ : Shared} {oI oC : Obj} {ys : List Value} {its : Array Value} {nw : List (Addr × Obj)} {nx : List Int} {y : Value} {rest : Value → List (Addr × Obj) → Prop} (off : LCg.Off3 I C D nw) (hax : TupIn ax its nw)
    (h : ∀ D1 fr ys', ys'.length = nx.length → PlacesPre ys' nx fr → rest (.ref D1) ((D1, LCg.lst ys') :: (fr ++ nw))) (hq : InnerEnd h0 L m s ((I, oI) :: (C, oC) :: (D, LCg.lst ys) :: nw) nx y s₂) : LCg.CompEnd h0 L m s I oI C oC D (LCg.lst ys) (TupIn ax its) rest y s₂ := by
  obtain ⟨D1, h', tk', ys1, fr1, rfl, rfl, F3, N3, hl1, hp1, hf1, ho1⟩ := hq
  have hall : ∀ q ∈ (I, oI) :: (C, oC) :: (D, LCg.lst ys) :: nw, @Ne Nat q.1 D1 := fun q hq => ho1 q (List.mem_append.mpr (.inr hq))
  obtain ⟨n, hn⟩ := hax
  refine ⟨h', tk', (D1, LCg.lst ys1) :: (fr1 ++ nw), rfl, F3, fun q hq => N3 q ?_, LCg.Off3.of fun q hq => ?_, ⟨n, .tail _ (List.mem_append.mpr (.inr hn))⟩, h D1 fr1 ys1 hl1 hp1⟩
  · simp only [List.mem_cons, List.mem_append] at hq ⊢
    rcases hq with h | h | h | h | h | h <;> simp [h]
  · rcases List.mem_cons.mp hq with rfl | hq
    · exact ⟨(hall _ (.head _)).symm, (hall _ (.tail _ (.head _))).symm, (hall _ (.tail _ (.tail _ (.head _)))).symm⟩
    · rcases List.mem_append.mp hq with hq | hq
      · exact ⟨hf1 q hq _ (.head _), hf1 q hq _ (.tail _ (.head _)), hf1 q hq _ (.tail _ (.tail _ (.head _)))⟩
      · exact LCg.Off3.mem off q hq
set_option maxRecDepth 100000 in
set_option maxHeartbeats 4000000 in
theorem body_places {prog : Program} {w : World} {mg mb : Str → Option Value} {p : Program} {loose : List Str} {mean : ExcName → Option Value} {s₁ : Shared} {h0 : Heap} {L : Addr} {m : Str → Option Value} {one other : Nat} {t1 t2 : Tok}
    {RA Ra Rb : Addr} {o2 : Obj} {j la lb : Nat} {rs va vb : List Value} {na nb : List Int} {rest : List (Addr × Obj)} {Q : Flow → Shared → Prop}
    (X : (Mine.hd.heap_39 w.params).In h0) (T : Top p loose mean mg mb h0) (B : Below callerA h0 [] h0)
    (F : Fr h0 L s₁.heap m) (N : News h0 L s₁.heap ((RA, listOf rs.toArray j) :: (Ra, listOf va.toArray la) :: (Rb, listOf vb.toArray lb) :: (L + 1 + 1, o2) :: rest))
    (d2 : o2.data = .cell (some (.ref RA))) (ha : IntsAre va na) (hb : IntsAre vb nb) (la5 : na.length ≤ 15) (lb5 : nb.length ≤ 15)
    (h1 : m (Str.ofString "one") = some (.int one t1)) (h2 : m (Str.ofString "other") = some (.int other t2)) (k1 : one < 3) (k2 : other < 3)
    (g1 : rs.toArray[((one : Nat) : Int).toNat]? = some (.ref Ra)) (g2 : rs.toArray[((other : Nat) : Int).toNat]? = some (.ref Rb))
    (ret : ∀ h' t' D D1 D2 ys1 ys2 fr, ys1.length = na.length → ys2.length = nb.length → PlacesPre ys1 na fr → PlacesPre ys2 nb fr → Fr h0 L h' (fun z => if z = Str.ofString "places" then some (.ref D) else m z) →
      News h0 L h' ((D, listOf #[.ref D1, .ref D2] 2) :: (D1, listOf (List.toArray ys1) ys1.length) :: (D2, listOf (List.toArray ys2) ys2.length) :: (RA, listOf rs.toArray j) :: (Ra, listOf va.toArray la) :: (Rb, listOf vb.toArray lb) :: (L + 1 + 1, o2) :: (fr ++ rest)) →
      wpC (model prog w) (callerA.deeper (lawE L)) (execs (otherS.1.drop 2) (lawE L)) Q nE { s₁ with heap := h', toks := t' }) :
    wpC (model prog w) (callerA.deeper (lawE L)) (execs (otherS.1.drop 1) (lawE L)) Q nE s₁ := by
  walk_at "c_fill"
  obtain ⟨hp, gs, dr, tks, os⟩ := s₁
  dsimp only at F N
  dsimp only [otherS, lawE, lawScS, List.drop]
  with_reducible refine execsC_any ?_
  refine' AssignComp_tup (L := L) (h₀ := h0) (m := m) (cl := [(Str.ofString "rows", L + 1 + 1)]) rfl ?hsw ?hclos ?hcell ?hkind ?hnames ?hx ?hy ?hp ?hs ?_
  case hsw => exact rfl
  case hclos => exact rfl
  case hcell => decide
  case hkind => exact rfl
  case hnames => decide
  case hx => exact rfl
  case hy => exact rfl
  case hp => exact rfl
  case hs => intro _; with_unfolding_all rfl
  k_steps
  rename Fr _ _ _ _ => F9
  rename News _ _ _ _ => N9
  rename (RA < _ ∧ _) => lD
  refine ⟨_, _, _, rfl, rfl, F9, N9, ⟨_, .head _⟩, by show 2 ≤ sizeLine; rw [sizeLine_eq]; decide, fun s₂ hs₂ => ?_⟩
  obtain ⟨hs, rfl⟩ := hs₂
  refine LCg.CompRest.succ ?_
  intro v I oI C oC D m₂ h tk E' hv hC hx F2 N2 off ne
  obtain rfl : Value.int (one : Int) t1 = v := by simpa using hv
  refine wpAny_mono (inner_d (j := j) (la := la) (rs := rs) (RA := RA) (Ra := Ra) X T B F2 N2 ?_ ?_ ?_ ?_ hC hx d2 ha la5 k1 g1) (fun y s₃ hq => ?_) fun _ _ e => e
  · simp
  · simp
  · simp
  · simp
  refine inner_step off ⟨_, .head _⟩ (fun D1 fr1 ys1 hl1 hp1 => ?_) hq
  refine LCg.CompRest.succ ?_
  intro v I2 oI2 C2 oC2 E2 m₃ h3 tk3 E3 hv3 hC3 hx3 F4 N4 off3 ne3
  obtain rfl : Value.int (other : Int) t2 = v := by simpa using hv3
  refine wpAny_mono (inner_d (j := j) (la := lb) (rs := rs) (RA := RA) (Ra := Rb) X T B F4 N4 ?_ ?_ ?_ ?_ hC3 hx3 d2 hb lb5 k2 g2) (fun y s₃ hq => ?_) fun _ _ e => e
  · simp
  · simp
  · simp
  · simp
  refine inner_step off3 ⟨_, .tail _ (List.mem_append.mpr (.inr (.head _)))⟩ (fun D2 fr2 ys2 hl2 hp2 => ?_) hq
  refine LCg.CompRest.zero ?_
  intro E4 h6 tk6 F6 N6 o6
  refine ret h6 tk6 E4 D1 D2 ys1 ys2 (fr1 ++ fr2) hl1 hl2 (hp1.mono fun q hq => List.mem_append.mpr (.inl hq)) (hp2.mono fun q hq => List.mem_append.mpr (.inr hq)) F6 fun q hq => N6 q ?_
  simp only [List.mem_cons, List.mem_append] at hq ⊢
  rcases hq with h | h | h | h | h | h | h | (h | h) | h <;> simp [h]
end Mine
end
section
open PySem PySem.W PyProof.Rows PySem.Calls
open PySem.Sem (wp)
set_option maxRecDepth 100000
namespace Mine
theorem topOffZD : True := by
  w_top off
  trivial
local macro_rules | `(tactic| k_all) => `(tactic| assumption)
local macro_rules | `(tactic| k_room) => `(tactic| ktr_room)
local macro_rules | `(tactic| k_units) => `(tactic| first | ktr_units | ((try dsimp only); (try simp only [units_make, units_deeper, units_in1, Around.mark_units]); omega))
local macro_rules | `(tactic| walk_at "c_fill") => `(tactic| (have kf : PySem.Challenge.rw_fg0013_01 = PySem.Challenge.rw_fg0013_01 ∧ Mine.hd.heap_39 = Mine.hd.heap_39 := (by k_fill; exact ⟨rfl, rfl⟩)); clear kf)
local macro_rules | `(tactic| walk_at "c_enter") => `(tactic| (k_dflt (refine' callC_def ?kBL ?k1 ?k2 ?k3 ?k4 ?k5 ?kA ?kF ?kK ?k6 ?k7 ?k8 ?k9 ?kB ?_ ?c5 ?c2 ?c3 ?c4; (case kBL => assumption); (case kA => exact rfl); (case kF => exact rfl); (case kK => assumption); (case k1 => k_asm); (case k2 => k_asm); (case k3 => k_asm); (case k4 => k_asm); (case k5 => k_asm); (case k6 => k_is); (case k7 => k_is); (case k8 => ktr_room); (case k9 => first | exact BindsTo.of_eq rfl | exact binds_K (by k_in) rfl (by k_is) rfl rfl rfl | (refine' kp_binds ?kx ?ke; (case kx => k_in); (case ke => exact fun _ => rfl))); (case kB => exact locs rfl); (case c5 => decide); (case c2 => exact rfl); (case c3 => exact rfl); (case c4 => exact rfl); k_whole; intro g' L' h' tk' FG' F' N' B' X' T' l1; (try k_lt l1); (try dsimp only))))
local macro_rules | `(tactic| walk_at "c_enter2") => `(tactic| (k_dflt (refine' callC_def ?kBL ?k1 ?k2 ?k3 ?k4 ?k5 ?kA ?kF ?kK ?k6 ?k7 ?k8 ?k9 ?kB ?_ ?c5 ?c2 ?c3 ?c4; (case kA => exact rfl); (case kF => exact rfl); (case kK => exact rfl); (case k1 => k_asm); (case k2 => k_asm); (case k3 => k_asm); (case k4 => k_asm); (case k5 => k_asm); (case k6 => k_is); (case k7 => k_is); (case k8 => ktr_room); (case k9 => first | exact BindsTo.of_eq rfl | exact binds_K (by k_in) rfl (by k_is) rfl rfl rfl | (refine' kp_binds ?kx ?ke; (case kx => k_in); (case ke => exact fun _ => rfl))); (case kB => exact locs rfl); (case kBL => exact bl _); (case c5 => decide); (case c2 => exact rfl); (case c3 => exact rfl); (case c4 => exact rfl); k_whole; intro g' L' h' tk' FG' F' N' B' X' T' l1; (try k_lt l1); (try dsimp only))))
local macro_rules | `(tactic| walk_at "c_both") => `(tactic| (k_dflt (refine' kp_both ?k1 ?k2 ?k3 ?k4 ?k5 ?kA ?kF ?kK ?k6 ?k7 ?k8 ?kV ?kX ?kQ ?kM ?kN ?kD ?kR ?kP ?kS ?kT ?kB ?_ ?c2 ?c3 ?c4 ?c5; (case kA => exact rfl); (case kF => exact rfl); (case kK => assumption); (case k1 => k_asm); (case k2 => k_asm); (case k3 => k_asm); (case k4 => k_asm); (case k5 => k_asm); (case k6 => k_is); (case k7 => k_is); (case k8 => ktr_room); (case kV => kp_lit); (case kX => kp_lit); (case kQ => exact rfl); (case kM => exact rfl); (case kN => exact rfl); (case kD => kp_flats); (case kR => exact rfl); (case kP => exact rfl); (case kS => exact fun _ => rfl); (case kT => exact fun _ _ => rfl); (case kB => exact fun _ _ => locs rfl); (case c5 => decide); (case c2 => exact rfl); (case c3 => exact rfl); (case c4 => exact rfl); k_whole; intro C' D' o' g' L' h' tk' l1 l2 lo' hs' fs' FG' F' N' B' X' T'; (try k_lt l1); (try k_lt2 l2); (try dsimp only))))
local macro_rules | `(tactic| walk_at "call type:type") => `(tactic| (k_here; (with_reducible show wpAny _ _ (call (Value.type "type") [Value.bytes _ _]) _ _ _); refine call_type_of (Tx := "bytes") rfl (by decide +kernel) ?_))
local macro_rules | `(tactic| walk_at "wpC") => `(tactic| (with_reducible refine wpC_any ?_))
local macro_rules | `(tactic| walk_at "wpC") => `(tactic| (with_reducible refine execsC_any ?_))
local macro_rules | `(tactic| walk_at "wpC") => `(tactic| (refine' execsC_nil ?_))
local macro_rules | `(tactic| walk_at "wpC") => `(tactic| ((with_reducible show wpC _ _ (execs _ _) _ _ _); with_reducible refine execsC_cons ?_; refine' wpC_If ?_))
local macro_rules | `(tactic| walk_at "wpC") => `(tactic| ((with_reducible show wpC _ _ (execs _ _) _ _ _); with_reducible refine execsC_cons ?_; refine' wpC_While ?_; refine' codeC_while ?_))
local macro_rules | `(tactic| walk_at "wpC") => `(tactic| ((with_reducible show wpC _ _ (execs _ _) _ _ _); with_reducible refine execsC_cons ?_; refine' wpC_Try ?_))
local macro_rules | `(tactic| walk_at "wpC") => `(tactic| ((with_reducible show wpC _ _ (execs _ _) _ _ _); with_reducible refine execsC_cons ?_; refine' wpC_For ?_ ?hs; (case hs => intro _; with_unfolding_all rfl)))
local macro_rules | `(tactic| walk_at "pyIter ref") => `(tactic| ((with_reducible show wpAny _ _ (pyIter (Value.ref _)) (fun _ _ => codeC _ _ _ _ _) _ _); (with_reducible rename IsRange _ _ _ _ _ _ _ _ => R9); refine wpAny_pyIter_range R9 ?hsmall ?_; (case hsmall => walk_at "c_small")))
local macro_rules | `(tactic| walk_at "wpC") => `(tactic| ((with_reducible show wpC _ _ (execs _ _) _ _ _); with_reducible refine execsC_cons ?_; refine' wpC_Return ?_; refine' evalC_method ?_ ?he; (case he => with_unfolding_all rfl)))
local macro_rules | `(tactic| walk_at "wpC") => `(tactic| ((with_reducible show wpC _ _ (execs _ _) _ _ _); with_reducible refine execsC_cons ?_; refine' wpC_Expr ?_ ?hi ?hs; (case hi => with_unfolding_all rfl); (case hs => with_unfolding_all rfl); refine' evalC_method ?_ ?he; (case he => with_unfolding_all rfl)))
local macro_rules | `(tactic| walk_at "wpC") => `(tactic| ((with_reducible show wpC _ _ (execs _ _) _ _ _); with_reducible refine execsC_cons ?_; refine' wpC_AssignAttr ?_ ?hs; (case hs => with_unfolding_all rfl)))
local macro_rules | `(tactic| walk_at "wpC") => `(tactic| ((with_reducible show wpC _ _ (execs _ _) _ _ _); with_reducible refine execsC_cons ?_; refine' wpC_AssignSub ?_ ?hs; (case hs => with_unfolding_all rfl)))
local macro_rules | `(tactic| walk_at "wpC") => `(tactic| ((with_reducible show wpC _ _ (eval _ _) _ _ _); refine' evalC_ifExp ?_))
local macro_rules | `(tactic| walk_at "wpC") => `(tactic| ((with_reducible show wpC _ _ (eval _ _) _ _ _); refine' evalC_call ?_ ?he; (case he => with_unfolding_all rfl)))
local macro_rules | `(tactic| walk_at "wpC") => `(tactic| ((with_reducible show wpC _ _ (callWith _ _ _ _ _) _ _ _); k_dflt (first | refine' callWithC_T0 ?_ | (refine' callWithC_K0 ?k1 ?k2 ?_; (case k1 => k_in); (case k2 => k_is); k_whole) | (refine' callWithC_K ?k1 ?k2 ?_; (case k1 => k_asm); (case k2 => k_is); k_whole))))
local macro_rules | `(tactic| walk_at "wpC") => `(tactic| ((with_reducible show wpC _ _ (call _ _) _ _ _); k_dflt (show wpC _ _ (call (Value.type "bytearray") []) _ _ _); (with_reducible rename Fr _ _ _ _ => F9); (with_reducible rename News _ _ _ _ => N9); (refine call_baN (s := ⟨_, _, _, _, _⟩) F9 N9 ?_); intro ba' h' F' N' l1; (try k_lt l1)))
local macro_rules | `(tactic| walk_at "wpC") => `(tactic| ((with_reducible show wpC _ _ (setItem (.ref _) (.ref _) (.bytes _ _)) _ _ _); (with_reducible rename Fr _ _ _ _ => F9); (with_reducible rename News _ _ _ _ => N9); refine setItem_N (s := ⟨_, _, _, _, _⟩) F9 N9 (by assumption) (by assumption) (by assumption) (by rw [sizeLine_eq]; omega) ?_; intro _ F' N'))
local macro_rules | `(tactic| walk_at "call builtin:len") => `(tactic| (k_here; (with_reducible show wpAny _ _ (call (Value.builtin "len") [Value.ref _]) _ _ _); (with_reducible rename News _ _ _ _ => N9); refine len_ba (bs := _) (News.get N9 (by repeat (first | exact List.Mem.head _ | apply List.Mem.tail))) (by omega) ?_; have N' := N9; clear N9))
local macro_rules | `(tactic| walk_at "call type:bytes") => `(tactic| (k_here; (with_reducible show wpAny _ _ (call (Value.type "bytes") [Value.ref _]) _ _ _); (with_reducible rename News _ _ _ _ => N9); refine call_bytes_ba (bs := _) (News.get N9 (by repeat (first | exact List.Mem.head _ | apply List.Mem.tail))) (by rw [sizeLine_eq]; first | omega | (simp only [List.size_toArray]; omega)) ?_; have N' := N9; clear N9))
local macro_rules | `(tactic| walk_at "wpC") => `(tactic| ((with_reducible show wpC _ _ (callWith _ (Value.ref _) _ (backTo _ (starEach (_ :: _) _)) _) _ _ _); k_dflt (refine' callWithC_K ?k1 ?k2 ?_; (case k1 => k_asm); (case k2 => k_is); k_whole)))
local macro_rules | `(tactic| walk_at "binaryOp Pow int int") => `(tactic| (k_here; (with_reducible refine pow_int_small ?kb1 ?kb2 ?kb3 ?_); (case kb1 => decide); (case kb2 => decide); (case kb3 => decide)))
local macro_rules | `(tactic| walk_at "subscriptTail Name BinOp ref int") => `(tactic| (k_here; (with_reducible show wpAny _ _ (subscriptTail _ _ (Value.ref _) (Value.int _ _)) _ _ _); (with_reducible rename News _ _ _ _ => N9); k_dflt (refine' item_ints N9 ?hm ?hi ?h0 ?h1 ?h2 ?_ ?hs ?ht; (case hs => with_unfolding_all rfl); (case ht => (intro _; with_unfolding_all rfl)); (case hm => repeat (first | exact List.Mem.head _ | apply List.Mem.tail)); (case hi => assumption); (case h0 => exact IdxOk.a (by assumption) (by assumption) (by assumption)); (case h1 => exact IdxOk.b (by assumption) (by assumption) (by assumption)); (case h2 => exact IdxOk.c (by assumption) (by assumption) (by assumption))); intro u'; have N' := N9; clear N9))
local macro_rules | `(tactic| walk_at "eval Name") => `(tactic| (k_here; (with_reducible rename Fr _ _ _ _ => kF); k_dflt (refine' nameX_L kF ?hv ?_ ?hk ?hx ?hd; (case hk => rfl); (case hx => rfl); (case hd => decide); (case hv => assumption); k_whole)))
local macro_rules | `(tactic| walk_at "wpC") => `(tactic| ((with_reducible show wpC _ _ (execs (Stmt.Assign [Expr.Name _ _] _ _ :: _) _) _ _ _); with_reducible refine execsC_any ?_))
local macro_rules | `(tactic| walk_at "subscriptTail Name Name ref int") => `(tactic| (k_here; (with_reducible show wpAny _ _ (subscriptTail _ _ (Value.ref _) (Value.int _ _)) _ _ _); (with_reducible rename News _ _ _ _ => N9); k_dflt (refine' item_listN N9 ?hm ?h0 ?h1 ?hx ?_ ?hs ?ht; (case hs => with_unfolding_all rfl); (case ht => (intro _; with_unfolding_all rfl)); (case hm => k_mem); (case hx => assumption); (case h0 => omega); (case h1 => omega)); have N' := N9; clear N9))
local macro_rules | `(tactic| walk_at "wpC") => `(tactic| ((with_reducible show wpC _ _ (execs (Stmt.Assign [Expr.Tuple _ _ _] _ _ :: _) _) _ _ _); with_reducible refine execsC_cons ?_; refine' wpC_AssignPair (names := [Str.ofString "first", Str.ofString "second"]) rfl rfl rfl ?_))
local macro_rules | `(tactic| walk_at "wpC") => `(tactic| ((with_reducible show wpC _ _ (eval (Expr.Call _ _ _ _) _) _ _ _); refine' evalC_call ?_ ?he; (case he => with_unfolding_all rfl)))
local macro_rules | `(tactic| walk_at "wpC") => `(tactic| ((with_reducible show wpC _ _ (call _ _) _ _ _); k_dflt (show wpC _ _ (call (Value.ref 890) [.ref _]) _ _ _); walk_at "c_packrow"))
local macro_rules | `(tactic| walk_at "c_packrow") => `(tactic| ((with_reducible rename Fr _ _ _ _ => F9); (with_reducible rename News _ _ _ _ => N9); (k_dflt (refine' packb_c (s := ⟨_, _, _, _, _⟩) (packs_list ?i1 ?i2 ?i3) ?b1 F9 ?b2 ?b3 N9 ?b4 ?ok ?he ?b5 ?b6 ?_; (case ok => (intro e9; exact List.Mem.tail _ (by k_mem))); (case i1 => assumption); (case i2 => assumption); (case i3 => assumption); (case b1 => k_asm); (case b2 => k_asm); (case b3 => k_asm); (case b4 => exact rfl); (case he => assumption); (case b5 => ktr_room); (case b6 => k_units); k_whole)); intro h' t' tk' F' N'))
theorem encRow_small {ns : List Int} (h : ns.length ≤ 15) : (encRow ns).length ≤ 1000 := by
  unfold encRow
  have := encInts_length ns
  rw [List.length_append, beInt_length]
  omega
set_option maxRecDepth 100000 in
set_option maxHeartbeats 4000000 in
theorem body_first {prog : Program} {w : World} {mg mb : Str → Option Value} {p : Program} {loose : List Str} {mean : ExcName → Option Value} {s₁ : Shared} {h0 : Heap} {L : Addr} {m : Str → Option Value} {one other : Nat} {t1 t2 : Tok}
    {RA Ra Rb : Addr} {o2 : Obj} {j la lb : Nat} {rs va vb : List Value} {na nb : List Int} {rest : List (Addr × Obj)} {Q : Flow → Shared → Prop}
    (X : (Mine.hd.heap_39 w.params).In h0) (T : Top p loose mean mg mb h0) (B : Below callerA h0 [] h0)
    (F : Fr h0 L s₁.heap m) (N : News h0 L s₁.heap ((RA, listOf rs.toArray j) :: (Ra, listOf va.toArray la) :: (Rb, listOf vb.toArray lb) :: (L + 1 + 1, o2) :: rest))
    (d2 : o2.data = .cell (some (.ref RA))) (ha : IntsAre va na) (hb : IntsAre vb nb) (la5 : na.length ≤ 15) (lb5 : nb.length ≤ 15) (ia : ∀ i ∈ na, -9223372036854775808 ≤ i ∧ i ≤ 18446744073709551615) (ib : ∀ i ∈ nb, -9223372036854775808 ≤ i ∧ i ≤ 18446744073709551615)
    (h1 : m (Str.ofString "one") = some (.int one t1)) (h2 : m (Str.ofString "other") = some (.int other t2)) (k1 : one < 3) (k2 : other < 3)
    (g1 : rs.toArray[((one : Nat) : Int).toNat]? = some (.ref Ra)) (g2 : rs.toArray[((other : Nat) : Int).toNat]? = some (.ref Rb))
    (ret : ∀ h' t' m' u1 u2, m' (Str.ofString "one") = some (.int one t1) → m' (Str.ofString "other") = some (.int other t2) → m' (Str.ofString "first") = some (.bytes (encRow na).toArray u1) → m' (Str.ofString "second") = some (.bytes (encRow nb).toArray u2) → Fr h0 L h' m' →
      News h0 L h' ((RA, listOf rs.toArray j) :: (Ra, listOf va.toArray la) :: (Rb, listOf vb.toArray lb) :: (L + 1 + 1, o2) :: rest) → wpC (model prog w) (callerA.deeper (lawE L)) (execs (otherS.1.drop 1) (lawE L)) Q nE { s₁ with heap := h', toks := t' }) :
    wpC (model prog w) (callerA.deeper (lawE L)) (execs otherS.1 (lawE L)) Q nE s₁ := by
  walk_at "c_fill"
  obtain ⟨hp, gs, dr, tks, os⟩ := s₁
  dsimp only at F N
  have ea := encRow_small la5
  have eb := encRow_small lb5
  dsimp only [otherS, lawE, lawScS]
  iterate 32 (first | (k_unfold; (try dsimp only)) | walk1 | (dsimp only; walk1))
  rename Fr _ _ _ (fun y => if y = Str.ofString "first" then _ else _) => F9
  rename News _ _ _ ((_, { cls := .type "tuple", data := _ }) :: _) => N9
  refine ret _ _ _ _ _ ?_ ?_ (if_pos rfl) ((if_neg (by decide)).trans (if_pos rfl)) F9 (news_tl1 N9)
  · show (if Str.ofString "one" = Str.ofString "first" then _ else if Str.ofString "one" = Str.ofString "second" then _ else m (Str.ofString "one")) = _
    rw [if_neg (by decide), if_neg (by decide)]; exact h1
  · show (if Str.ofString "other" = Str.ofString "first" then _ else if Str.ofString "other" = Str.ofString "second" then _ else m (Str.ofString "other")) = _
    rw [if_neg (by decide), if_neg (by decide)]; exact h2
end Mine
end
section
open PySem PySem.W PyProof.Rows PySem.Calls
open PySem.Sem (wp)
set_option maxRecDepth 100000
namespace Mine
theorem topOffZE : True := by
  w_top off
  trivial
local macro_rules | `(tactic| walk_at "c_none") => `(tactic| skip)
local macro_rules | `(tactic| k_all) => `(tactic| assumption)
local macro_rules | `(tactic| k_room) => `(tactic| ktr_room)
local macro_rules | `(tactic| k_units) => `(tactic| first | ktr_units | ((try dsimp only); (try simp only [units_make, units_deeper, units_in1, Around.mark_units]); omega))
local macro_rules | `(tactic| walk_at "c_fill") => `(tactic| (have kf : PySem.Challenge.rw_fg0013_01 = PySem.Challenge.rw_fg0013_01 ∧ Mine.hd.heap_39 = Mine.hd.heap_39 := (by k_fill; exact ⟨rfl, rfl⟩)); clear kf)
local macro_rules | `(tactic| walk_at "c_enter") => `(tactic| (k_dflt (refine' callC_def ?kBL ?k1 ?k2 ?k3 ?k4 ?k5 ?kA ?kF ?kK ?k6 ?k7 ?k8 ?k9 ?kB ?_ ?c5 ?c2 ?c3 ?c4; (case kBL => assumption); (case kA => exact rfl); (case kF => exact rfl); (case kK => assumption); (case k1 => k_asm); (case k2 => k_asm); (case k3 => k_asm); (case k4 => k_asm); (case k5 => k_asm); (case k6 => k_is); (case k7 => k_is); (case k8 => ktr_room); (case k9 => first | exact BindsTo.of_eq rfl | exact binds_K (by k_in) rfl (by k_is) rfl rfl rfl | (refine' kp_binds ?kx ?ke; (case kx => k_in); (case ke => exact fun _ => rfl))); (case kB => exact locs rfl); (case c5 => decide); (case c2 => exact rfl); (case c3 => exact rfl); (case c4 => exact rfl); k_whole; intro g' L' h' tk' FG' F' N' B' X' T' l1; (try k_lt l1); (try dsimp only))))
local macro_rules | `(tactic| walk_at "c_enter2") => `(tactic| (k_dflt (refine' callC_def ?kBL ?k1 ?k2 ?k3 ?k4 ?k5 ?kA ?kF ?kK ?k6 ?k7 ?k8 ?k9 ?kB ?_ ?c5 ?c2 ?c3 ?c4; (case kA => exact rfl); (case kF => exact rfl); (case kK => exact rfl); (case k1 => k_asm); (case k2 => k_asm); (case k3 => k_asm); (case k4 => k_asm); (case k5 => k_asm); (case k6 => k_is); (case k7 => k_is); (case k8 => ktr_room); (case k9 => first | exact BindsTo.of_eq rfl | exact binds_K (by k_in) rfl (by k_is) rfl rfl rfl | (refine' kp_binds ?kx ?ke; (case kx => k_in); (case ke => exact fun _ => rfl))); (case kB => exact locs rfl); (case kBL => exact bl _); (case c5 => decide); (case c2 => exact rfl); (case c3 => exact rfl); (case c4 => exact rfl); k_whole; intro g' L' h' tk' FG' F' N' B' X' T' l1; (try k_lt l1); (try dsimp only))))
local macro_rules | `(tactic| walk_at "c_both") => `(tactic| (k_dflt (refine' kp_both ?k1 ?k2 ?k3 ?k4 ?k5 ?kA ?kF ?kK ?k6 ?k7 ?k8 ?kV ?kX ?kQ ?kM ?kN ?kD ?kR ?kP ?kS ?kT ?kB ?_ ?c2 ?c3 ?c4 ?c5; (case kA => exact rfl); (case kF => exact rfl); (case kK => assumption); (case k1 => k_asm); (case k2 => k_asm); (case k3 => k_asm); (case k4 => k_asm); (case k5 => k_asm); (case k6 => k_is); (case k7 => k_is); (case k8 => ktr_room); (case kV => kp_lit); (case kX => kp_lit); (case kQ => exact rfl); (case kM => exact rfl); (case kN => exact rfl); (case kD => kp_flats); (case kR => exact rfl); (case kP => exact rfl); (case kS => exact fun _ => rfl); (case kT => exact fun _ _ => rfl); (case kB => exact fun _ _ => locs rfl); (case c5 => decide); (case c2 => exact rfl); (case c3 => exact rfl); (case c4 => exact rfl); k_whole; intro C' D' o' g' L' h' tk' l1 l2 lo' hs' fs' FG' F' N' B' X' T'; (try k_lt l1); (try k_lt2 l2); (try dsimp only))))
local macro_rules | `(tactic| walk_at "call type:type") => `(tactic| (k_here; (with_reducible show wpAny _ _ (call (Value.type "type") [Value.bytes _ _]) _ _ _); refine call_type_of (Tx := "bytes") rfl (by decide +kernel) ?_))
local macro_rules | `(tactic| walk_at "wpC") => `(tactic| (with_reducible refine wpC_any ?_))
local macro_rules | `(tactic| walk_at "wpC") => `(tactic| (with_reducible refine execsC_any ?_))
local macro_rules | `(tactic| walk_at "wpC") => `(tactic| (refine' execsC_nil ?_))
local macro_rules | `(tactic| walk_at "wpC") => `(tactic| ((with_reducible show wpC _ _ (execs _ _) _ _ _); with_reducible refine execsC_cons ?_; refine' wpC_If ?_))
local macro_rules | `(tactic| walk_at "wpC") => `(tactic| ((with_reducible show wpC _ _ (execs _ _) _ _ _); with_reducible refine execsC_cons ?_; refine' wpC_While ?_; refine' codeC_while ?_))
local macro_rules | `(tactic| walk_at "wpC") => `(tactic| ((with_reducible show wpC _ _ (execs _ _) _ _ _); with_reducible refine execsC_cons ?_; refine' wpC_Try ?_))
local macro_rules | `(tactic| walk_at "wpC") => `(tactic| ((with_reducible show wpC _ _ (execs _ _) _ _ _); with_reducible refine execsC_cons ?_; refine' wpC_For ?_ ?hs; (case hs => intro _; with_unfolding_all rfl)))
local macro_rules | `(tactic| walk_at "pyIter ref") => `(tactic| ((with_reducible show wpAny _ _ (pyIter (Value.ref _)) (fun _ _ => codeC _ _ _ _ _) _ _); (with_reducible rename IsRange _ _ _ _ _ _ _ _ => R9); refine wpAny_pyIter_range R9 ?hsmall ?_; (case hsmall => walk_at "c_small")))
local macro_rules | `(tactic| walk_at "wpC") => `(tactic| ((with_reducible show wpC _ _ (execs _ _) _ _ _); with_reducible refine execsC_cons ?_; refine' wpC_Return ?_; refine' evalC_method ?_ ?he; (case he => with_unfolding_all rfl)))
local macro_rules | `(tactic| walk_at "wpC") => `(tactic| ((with_reducible show wpC _ _ (execs _ _) _ _ _); with_reducible refine execsC_cons ?_; refine' wpC_Expr ?_ ?hi ?hs; (case hi => with_unfolding_all rfl); (case hs => with_unfolding_all rfl); refine' evalC_method ?_ ?he; (case he => with_unfolding_all rfl)))
local macro_rules | `(tactic| walk_at "wpC") => `(tactic| ((with_reducible show wpC _ _ (execs _ _) _ _ _); with_reducible refine execsC_cons ?_; refine' wpC_AssignAttr ?_ ?hs; (case hs => with_unfolding_all rfl)))
local macro_rules | `(tactic| walk_at "wpC") => `(tactic| ((with_reducible show wpC _ _ (execs _ _) _ _ _); with_reducible refine execsC_cons ?_; refine' wpC_AssignSub ?_ ?hs; (case hs => with_unfolding_all rfl)))
local macro_rules | `(tactic| walk_at "wpC") => `(tactic| ((with_reducible show wpC _ _ (eval _ _) _ _ _); refine' evalC_ifExp ?_))
local macro_rules | `(tactic| walk_at "wpC") => `(tactic| ((with_reducible show wpC _ _ (eval _ _) _ _ _); refine' evalC_call ?_ ?he; (case he => with_unfolding_all rfl)))
local macro_rules | `(tactic| walk_at "wpC") => `(tactic| ((with_reducible show wpC _ _ (callWith _ _ _ _ _) _ _ _); k_dflt (first | refine' callWithC_T0 ?_ | (refine' callWithC_K0 ?k1 ?k2 ?_; (case k1 => k_in); (case k2 => k_is); k_whole) | (refine' callWithC_K ?k1 ?k2 ?_; (case k1 => k_asm); (case k2 => k_is); k_whole))))
local macro_rules | `(tactic| walk_at "wpC") => `(tactic| ((with_reducible show wpC _ _ (call _ _) _ _ _); k_dflt (show wpC _ _ (call (Value.type "bytearray") []) _ _ _); (with_reducible rename Fr _ _ _ _ => F9); (with_reducible rename News _ _ _ _ => N9); (refine call_baN (s := ⟨_, _, _, _, _⟩) F9 N9 ?_); intro ba' h' F' N' l1; (try k_lt l1)))
local macro_rules | `(tactic| walk_at "wpC") => `(tactic| ((with_reducible show wpC _ _ (setItem (.ref _) (.ref _) (.bytes _ _)) _ _ _); (with_reducible rename Fr _ _ _ _ => F9); (with_reducible rename News _ _ _ _ => N9); refine setItem_N (s := ⟨_, _, _, _, _⟩) F9 N9 (by assumption) (by assumption) (by assumption) (by rw [sizeLine_eq]; omega) ?_; intro _ F' N'))
local macro_rules | `(tactic| walk_at "call builtin:len") => `(tactic| (k_here; (with_reducible show wpAny _ _ (call (Value.builtin "len") [Value.ref _]) _ _ _); (with_reducible rename News _ _ _ _ => N9); refine len_ba (bs := _) (News.get N9 (by repeat (first | exact List.Mem.head _ | apply List.Mem.tail))) (by omega) ?_; have N' := N9; clear N9))
local macro_rules | `(tactic| walk_at "call type:bytes") => `(tactic| (k_here; (with_reducible show wpAny _ _ (call (Value.type "bytes") [Value.ref _]) _ _ _); (with_reducible rename News _ _ _ _ => N9); refine call_bytes_ba (bs := _) (News.get N9 (by repeat (first | exact List.Mem.head _ | apply List.Mem.tail))) (by rw [sizeLine_eq]; first | omega | (simp only [List.size_toArray]; omega)) ?_; have N' := N9; clear N9))
local macro_rules | `(tactic| walk_at "wpC") => `(tactic| ((with_reducible show wpC _ _ (callWith _ (Value.ref _) _ (backTo _ (starEach (_ :: _) _)) _) _ _ _); k_dflt (refine' callWithC_K ?k1 ?k2 ?_; (case k1 => k_asm); (case k2 => k_is); k_whole)))
local macro_rules | `(tactic| walk_at "binaryOp Pow int int") => `(tactic| (k_here; (with_reducible refine pow_int_small ?kb1 ?kb2 ?kb3 ?_); (case kb1 => decide); (case kb2 => decide); (case kb3 => decide)))
local macro_rules | `(tactic| walk_at "subscriptTail Name BinOp ref int") => `(tactic| (k_here; (with_reducible show wpAny _ _ (subscriptTail _ _ (Value.ref _) (Value.int _ _)) _ _ _); (with_reducible rename News _ _ _ _ => N9); k_dflt (refine' item_ints N9 ?hm ?hi ?h0 ?h1 ?h2 ?_ ?hs ?ht; (case hs => with_unfolding_all rfl); (case ht => (intro _; with_unfolding_all rfl)); (case hm => repeat (first | exact List.Mem.head _ | apply List.Mem.tail)); (case hi => assumption); (case h0 => exact IdxOk.a (by assumption) (by assumption) (by assumption)); (case h1 => exact IdxOk.b (by assumption) (by assumption) (by assumption)); (case h2 => exact IdxOk.c (by assumption) (by assumption) (by assumption))); intro u'; have N' := N9; clear N9))
local macro_rules | `(tactic| walk_at "eval Name") => `(tactic| (k_here; (with_reducible rename Fr _ _ _ _ => kF); k_dflt (refine' nameX_L kF ?hv ?_ ?hk ?hx ?hd; (case hk => rfl); (case hx => rfl); (case hd => decide); (case hv => assumption); k_whole)))
local macro_rules | `(tactic| walk_at "wpC") => `(tactic| ((with_reducible show wpC _ _ (execs (Stmt.Assign [Expr.Name _ _] _ _ :: _) _) _ _ _); with_reducible refine execsC_any ?_))
local macro_rules | `(tactic| walk_at "subscriptTail Name Name ref int") => `(tactic| (k_here; (with_reducible show wpAny _ _ (subscriptTail _ _ (Value.ref _) (Value.int _ _)) _ _ _); (with_reducible rename News _ _ _ _ => N9); k_dflt (refine' item_listN N9 ?hm ?h0 ?h1 ?hx ?_ ?hs ?ht; (case hs => with_unfolding_all rfl); (case ht => (intro _; with_unfolding_all rfl)); (case hm => k_mem); (case hx => assumption); (case h0 => omega); (case h1 => omega)); have N' := N9; clear N9))
local macro_rules | `(tactic| walk_at "wpC") => `(tactic| ((with_reducible show wpC _ _ (execs (Stmt.Assign [Expr.Tuple _ _ _] _ _ :: _) _) _ _ _); with_reducible refine execsC_cons ?_; refine' wpC_AssignPair (names := [Str.ofString "first", Str.ofString "second"]) rfl rfl rfl ?_))
local macro_rules | `(tactic| walk_at "wpC") => `(tactic| ((with_reducible show wpC _ _ (eval (Expr.Call _ _ _ _) _) _ _ _); refine' evalC_call ?_ ?he; (case he => with_unfolding_all rfl)))
local macro_rules | `(tactic| walk_at "wpC") => `(tactic| ((with_reducible show wpC _ _ (call _ _) _ _ _); k_dflt (show wpC _ _ (call (Value.ref 890) [.ref _]) _ _ _); walk_at "c_packrow"))
local macro_rules | `(tactic| walk_at "c_packrow") => `(tactic| ((with_reducible rename Fr _ _ _ _ => F9); (with_reducible rename News _ _ _ _ => N9); (k_dflt (refine' packb_c (s := ⟨_, _, _, _, _⟩) (packs_list ?i1 ?i2 ?i3) ?b1 F9 ?b2 ?b3 N9 ?b4 ?ok ?he ?b5 ?b6 ?_; (case ok => (intro e9; exact List.Mem.tail _ (by k_mem))); (case i1 => assumption); (case i2 => assumption); (case i3 => assumption); (case b1 => k_asm); (case b2 => k_asm); (case b3 => k_asm); (case b4 => exact rfl); (case he => assumption); (case b5 => ktr_room); (case b6 => k_units); k_whole)); intro h' t' tk' F' N'))
def RowsAt (sz : Nat) (rs : List Value) (W : List (Addr × Obj)) : Prop := ∀ i : Nat, i < 3 → ∃ r va la na, rs.toArray[((i : Nat) : Int).toNat]? = some (Value.ref r) ∧ (r, listOf (List.toArray va) la) ∈ W ∧ IntsAre va na ∧ RowOk sz na
def ThingsAt (ts : List Value) (W : List (Addr × Obj)) : Prop := ∀ i : Nat, i < 3 → ∃ r x u b v, ts.toArray[((i : Nat) : Int).toNat]? = some (Value.ref r) ∧ (r, tup2 (.str x u) (.bytes b v)) ∈ W ∧ x ∈ txts ∧ Array.size b ≤ 3
theorem RowsAt.mono {sz : Nat} {rs : List Value} {W W' : List (Addr × Obj)} (h : RowsAt sz rs W) (k : ∀ q ∈ W, q ∈ W') : RowsAt sz rs W' := fun i hi => by
  obtain ⟨r, va, la, na, e, hm, a, b⟩ := h i hi
  exact ⟨r, va, la, na, e, k _ hm, a, b⟩
theorem ThingsAt.mono {ts : List Value} {W W' : List (Addr × Obj)} (h : ThingsAt ts W) (k : ∀ q ∈ W, q ∈ W') : ThingsAt ts W' := fun i hi => by
  obtain ⟨r, x, u, b, v, e, hm, a, c⟩ := h i hi
  exact ⟨r, x, u, b, v, e, k _ hm, a, c⟩
theorem body_turn {prog : Program} {w : World} {mg mb : Str → Option Value} {p : Program} {loose : List Str} {mean : ExcName → Option Value} {s : Shared} {h0 : Heap} {L : Addr} {m : Str → Option Value} {one other sz : Nat} {t1 t2 : Tok}
    {RA TA : Addr} {o2 o4 o5 : Obj} {v5 : Option Value} {j jt : Nat} {rs ts : List Value} {W : List (Addr × Obj)} {Q : Flow → Shared → Prop}
    (X : (Mine.hd.heap_39 w.params).In h0) (T : Top p loose mean mg mb h0) (B : Below callerA h0 [] h0)
    (F : Fr h0 L s.heap m) (N : News h0 L s.heap ((L + 1 + 1 + 1 + 1 + 1, o5) :: W)) (mR : (RA, listOf rs.toArray j) ∈ W) (mT : (TA, listOf ts.toArray jt) ∈ W) (m2 : (L + 1 + 1, o2) ∈ W) (m4 : (L + 1 + 1 + 1 + 1, o4) ∈ W) (hW : ∀ q ∈ W, q.1 ≠ L + 1 + 1 + 1 + 1 + 1)
    (hrs : RowsAt sz rs W) (hts : ThingsAt ts W) (hsz : sz ≤ 5) (d2 : o2.data = .cell (some (.ref RA))) (d4 : o4.data = .cell (some (.ref TA))) (d5 : o5.data = .cell v5)
    (h1 : m (Str.ofString "one") = some (.int one t1)) (h2 : m (Str.ofString "other") = some (.int other t2)) (k1 : one < 3) (k2 : other < 3)
    (ret : ∀ h t m' o5' v5', m' (Str.ofString "one") = some (.int one t1) → m' (Str.ofString "other") = some (.int other t2) → o5'.data = .cell v5' → Fr h0 L h m' → News h0 L h ((L + 1 + 1 + 1 + 1 + 1, o5') :: W) → Q .next { s with heap := h, toks := t }) :
    wpC (model prog w) (callerA.deeper (lawE L)) (execs otherS.1 (lawE L)) Q nE s := by
  obtain ⟨Ra, va, la, na, g1, mA, ha, la5, ia⟩ := hrs one k1
  obtain ⟨Rb, vb, lb, nb, g2, mB, hb, lb5, ib⟩ := hrs other k2
  obtain ⟨Ta, xa, w1, ba, w2, e1, mTa, x1, za⟩ := hts one k1
  obtain ⟨Tb, xb, w3, bb, w4, e2, mTb, x2, zb⟩ := hts other k2
  have hm : RowsMeet na nb := ⟨by omega, ia, ib⟩
  refine body_first (rest := (L + 1 + 1 + 1 + 1 + 1, o5) :: W) (la := la) (lb := lb) (j := j) X T B F (fun q hq => N q ?_) d2 ha hb (by omega) (by omega) ia ib h1 h2 k1 k2 g1 g2 fun h' t' m' u1 u2 f1 f2 f3 f4 F' N' => ?_
  · simp only [List.mem_cons] at hq ⊢
    rcases hq with rfl | rfl | rfl | rfl | rfl | hq
    · exact .inr mR
    · exact .inr mA
    · exact .inr mB
    · exact .inr m2
    · exact .inl rfl
    · exact .inr hq
  refine body_places X T B F' N' d2 ha hb (by omega) (by omega) f1 f2 k1 k2 g1 g2 fun h5 t5 D D1 D2 ys1 ys2 fr l1 l2 p1 p2 F5 N5 => ?_
  have hp : ∀ y : Str, y ≠ Str.ofString "places" → ∀ v, m' y = v → (fun z => if z = Str.ofString "places" then some (Value.ref D) else m' z) y = v := fun y hy v hv => by
    show (if y = Str.ofString "places" then _ else m' y) = v
    rw [if_neg hy]; exact hv
  refine body_if3 X T B F5 N5 d2 ha hb hm p1 p2 l1 l2 (hp _ (by decide) _ f1) (hp _ (by decide) _ f2) (hp _ (by decide) _ f3) (hp _ (by decide) _ f4) (if_pos rfl) k1 k2 g1 g2 (K := W) (jt := jt) (ba := ba) (bb := bb) (w1 := w1) (w2 := w2) (w3 := w3) (w4 := w4) d4 d5 (by omega) (by omega) e1 e2 x1 x2 (fun q hq => ?_) (fun q hq => ?_) fun h6 t6 m6 o5' v5' f6 f7 f8 F6 N6 => ret h6 t6 m6 o5' v5' f6 f7 f8 F6 fun q hq => N6 q ?_
  · simp only [List.mem_cons] at hq ⊢
    rcases hq with rfl | rfl | rfl | rfl | rfl | hq
    · exact .inl rfl
    · exact .inr mT
    · exact .inr mTa
    · exact .inr mTb
    · exact .inr m4
    · exact .inr hq
  · simp only [List.mem_cons] at hq
    rcases hq with rfl | rfl | rfl | rfl | hq
    · exact hW _ mT
    · exact hW _ mTa
    · exact hW _ mTb
    · exact hW _ m4
    · exact hW _ hq
  · simp only [List.mem_cons] at hq ⊢
    rcases hq with h | h <;> simp [h]
theorem news_sw {g h : Heap} {L : Addr} {a b : Addr × Obj} {r : List (Addr × Obj)} (N : News g L h (a :: b :: r)) : News g L h (b :: a :: r) := fun q hq => N q (by
  simp only [List.mem_cons] at hq ⊢
  rcases hq with h | h | h <;> simp [h])
set_option maxHeartbeats 4000000 in
theorem other_loop {prog : Program} {w : World} {mg mb : Str → Option Value} {p : Program} {loose : List Str} {mean : ExcName → Option Value} {s : Shared} {h0 : Heap} {L r : Addr} {m : Str → Option Value} {one sz : Nat} {t1 r1 r2 r3 : Tok}
    {RA TA : Addr} {o2 o4 o5 : Obj} {v5 : Option Value} {j jt : Nat} {rs ts : List Value} {W : List (Addr × Obj)} {body : List Stmt} {px : Pos} {R : Result → Shared → Prop}
    (X : (Mine.hd.heap_39 w.params).In h0) (T : Top p loose mean mg mb h0) (B : Below callerA h0 [] h0) (hbody : body = otherS.1)
    (F : Fr h0 L s.heap m) (N : News h0 L s.heap ((L + 1 + 1 + 1 + 1 + 1, o5) :: W)) (R9 : IsRange s.heap r 0 ((3 : Nat) : Int) 1 r1 r2 r3) (mR : (RA, listOf rs.toArray j) ∈ W) (mT : (TA, listOf ts.toArray jt) ∈ W) (m2 : (L + 1 + 1, o2) ∈ W) (m4 : (L + 1 + 1 + 1 + 1, o4) ∈ W) (hW : ∀ q ∈ W, q.1 ≠ L + 1 + 1 + 1 + 1 + 1)
    (hrs : RowsAt sz rs W) (hts : ThingsAt ts W) (hsz : sz ≤ 5) (d2 : o2.data = .cell (some (.ref RA))) (d4 : o4.data = .cell (some (.ref TA))) (d5 : o5.data = .cell v5)
    (h1 : m (Str.ofString "one") = some (.int one t1)) (k1 : one < 3)
    (ret : ∀ h t m' o5' v5', m' (Str.ofString "one") = some (.int one t1) → o5'.data = .cell v5' → Fr h0 L h m' → News h0 L h ((L + 1 + 1 + 1 + 1 + 1, o5') :: W) → R (.ok .next) { s with heap := h, toks := t }) :
    wpAny (model prog w) (callerA.deeper (lawE L)) (pyIter (.ref r)) (fun it s' => codeC (model prog w) (callerA.deeper (lawE L)) (.forLoop (.Name (Str.ofString "other") px) it body [] (lawE L)) R s') nE s := by
  subst hbody
  refine range_start (n := 3) R9 (by decide) F N fun I h1' F1 N1 lI => ?_
  have l5 : @LT.lt Nat _ (L + 1 + 1 + 1 + 1 + 1) I := lI _ (.head _)
  refine' forC_loc (n := 3) (fun _ m w => m (Str.ofString "one") = some (.int one t1) ∧ ∃ o v, Obj.data o = .cell v ∧ w = (L + 1 + 1 + 1 + 1 + 1, o) :: W) rfl ?hx ?hp ?hL ?hlet F1 N1 ?hI ?hap ?turn ?fin
  case hx => exact rfl
  case hp => exact rfl
  case hL => exact rfl
  case hlet => intro _; with_unfolding_all rfl
  case hI => exact ⟨h1, o5, v5, d5, rfl⟩
  case hap =>
    rintro k m2 w2 ⟨-, o, v, -, rfl⟩ q hq
    rcases List.mem_cons.mp hq with rfl | hq
    · exact Nat.ne_of_lt l5
    · exact Nat.ne_of_lt (lI q (.tail _ hq))
  case turn =>
    rintro k tk m3 w2 s2 hk ⟨e1, o, v, ho, rfl⟩ F2 N2 ⟨hh, tt, rfl⟩
    refine body_turn (W := (I, rIt ((k : Int) + 1) (((3 : Nat) : Int) - k - 1)) :: W) X T B F2 (news_sw N2) (.tail _ mR) (.tail _ mT) (.tail _ m2) (.tail _ m4) (fun q hq => ?_) (hrs.mono fun q hq => .tail _ hq) (hts.mono fun q hq => .tail _ hq) hsz d2 d4 ho ?_ (if_pos rfl) k1 hk
      fun h t m' o5' v5' f1 f2 f3 F5 N5 => ⟨rfl, h, t, m', _, rfl, ⟨f1, o5', v5', f3, rfl⟩, F5, news_sw N5⟩
    · rcases List.mem_cons.mp hq with rfl | hq
      · exact Nat.ne_of_gt l5
      · exact hW q hq
    · show (if Str.ofString "one" = Str.ofString "other" then _ else m3 (Str.ofString "one")) = _
      rw [if_neg (by decide)]; exact e1
  case fin =>
    rintro hh tt m3 w2 ⟨e1, o, v, ho, rfl⟩ F2 N2
    exact ret _ _ _ _ _ e1 ho F2 N2
set_option maxRecDepth 100000 in
set_option maxHeartbeats 4000000 in
theorem other_walk {prog : Program} {w : World} {mg mb : Str → Option Value} {p : Program} {loose : List Str} {mean : ExcName → Option Value} {s : Shared} {h0 : Heap} {L : Addr} {m : Str → Option Value} {one sz : Nat} {t1 : Tok}
    {RA TA : Addr} {o2 o4 o5 : Obj} {v5 : Option Value} {j jt : Nat} {rs ts : List Value} {W : List (Addr × Obj)} {Q : Flow → Shared → Prop}
    (X : (Mine.hd.heap_39 w.params).In h0) (T : Top p loose mean mg mb h0) (B : Below callerA h0 [] h0)
    (F : Fr h0 L s.heap m) (N : News h0 L s.heap ((L + 1 + 1 + 1 + 1 + 1, o5) :: W)) (mR : (RA, listOf rs.toArray j) ∈ W) (mT : (TA, listOf ts.toArray jt) ∈ W) (m2 : (L + 1 + 1, o2) ∈ W) (m4 : (L + 1 + 1 + 1 + 1, o4) ∈ W) (hW : ∀ q ∈ W, q.1 ≠ L + 1 + 1 + 1 + 1 + 1)
    (hrs : RowsAt sz rs W) (hts : ThingsAt ts W) (hsz : sz ≤ 5) (d2 : o2.data = .cell (some (.ref RA))) (d4 : o4.data = .cell (some (.ref TA))) (d5 : o5.data = .cell v5)
    (h1 : m (Str.ofString "one") = some (.int one t1)) (k1 : one < 3)
    (ret : ∀ h t m' o5' v5', o5'.data = .cell v5' → Fr h0 L h m' → News h0 L h ((L + 1 + 1 + 1 + 1 + 1, o5') :: W) → Q .next { s with heap := h, toks := t }) :
    wpC (model prog w) (callerA.deeper (lawE L)) (execs oneS.1 (lawE L)) Q nE s := by
  walk_at "c_fill"
  obtain ⟨hp, gs, dr, tks, os⟩ := s
  dsimp only at F N
  dsimp only [oneS, lawE, lawScS]
  k_steps
  rename IsRange _ _ _ _ _ _ _ _ => R9
  rename Fr _ _ _ _ => F9
  rename News _ _ _ _ => N9
  refine other_loop (s := ⟨_, _, _, _, _⟩) X T B rfl F9 N9 R9 mR mT m2 m4 hW hrs hts hsz d2 d4 d5 h1 k1 fun h t m' o5' v5' f1 f2 f3 f4 => ?_
  exact execsC_nil (ret h t m' o5' v5' f2 f3 f4)
set_option maxHeartbeats 4000000 in
theorem one_loop {prog : Program} {w : World} {mg mb : Str → Option Value} {p : Program} {loose : List Str} {mean : ExcName → Option Value} {s : Shared} {h0 : Heap} {L r : Addr} {m : Str → Option Value} {sz : Nat} {r1 r2 r3 : Tok}
    {RA TA : Addr} {o2 o4 o5 : Obj} {v5 : Option Value} {j jt : Nat} {rs ts : List Value} {W : List (Addr × Obj)} {body : List Stmt} {px : Pos} {R : Result → Shared → Prop}
    (X : (Mine.hd.heap_39 w.params).In h0) (T : Top p loose mean mg mb h0) (B : Below callerA h0 [] h0) (hbody : body = oneS.1)
    (F : Fr h0 L s.heap m) (N : News h0 L s.heap ((L + 1 + 1 + 1 + 1 + 1, o5) :: W)) (R9 : IsRange s.heap r 0 ((3 : Nat) : Int) 1 r1 r2 r3) (mR : (RA, listOf rs.toArray j) ∈ W) (mT : (TA, listOf ts.toArray jt) ∈ W) (m2 : (L + 1 + 1, o2) ∈ W) (m4 : (L + 1 + 1 + 1 + 1, o4) ∈ W) (hW : ∀ q ∈ W, q.1 ≠ L + 1 + 1 + 1 + 1 + 1)
    (hrs : RowsAt sz rs W) (hts : ThingsAt ts W) (hsz : sz ≤ 5) (d2 : o2.data = .cell (some (.ref RA))) (d4 : o4.data = .cell (some (.ref TA))) (d5 : o5.data = .cell v5)
    (ret : ∀ h t m', Fr h0 L h m' → R (.ok .next) { s with heap := h, toks := t }) :
    wpAny (model prog w) (callerA.deeper (lawE L)) (pyIter (.ref r)) (fun it s' => codeC (model prog w) (callerA.deeper (lawE L)) (.forLoop (.Name (Str.ofString "one") px) it body [] (lawE L)) R s') nE s := by
  subst hbody
  refine range_start (n := 3) R9 (by decide) F N fun I h1' F1 N1 lI => ?_
  have l5 : @LT.lt Nat _ (L + 1 + 1 + 1 + 1 + 1) I := lI _ (.head _)
  refine' forC_loc (n := 3) (fun _ m w => ∃ o v, Obj.data o = .cell v ∧ w = (L + 1 + 1 + 1 + 1 + 1, o) :: W) rfl ?hx ?hp ?hL ?hlet F1 N1 ?hI ?hap ?turn ?fin
  case hx => exact rfl
  case hp => exact rfl
  case hL => exact rfl
  case hlet => intro _; with_unfolding_all rfl
  case hI => exact ⟨o5, v5, d5, rfl⟩
  case hap =>
    rintro k m2 w2 ⟨o, v, -, rfl⟩ q hq
    rcases List.mem_cons.mp hq with rfl | hq
    · exact Nat.ne_of_lt l5
    · exact Nat.ne_of_lt (lI q (.tail _ hq))
  case turn =>
    rintro k tk m3 w2 s2 hk ⟨o, v, ho, rfl⟩ F2 N2 ⟨hh, tt, rfl⟩
    refine other_walk (W := (I, rIt ((k : Int) + 1) (((3 : Nat) : Int) - k - 1)) :: W) X T B F2 (news_sw N2) (.tail _ mR) (.tail _ mT) (.tail _ m2) (.tail _ m4) (fun q hq => ?_) (hrs.mono fun q hq => .tail _ hq) (hts.mono fun q hq => .tail _ hq) hsz d2 d4 ho (if_pos rfl) hk
      fun h t m' o5' v5' f3 F5 N5 => ⟨rfl, h, t, m', _, rfl, ⟨o5', v5', f3, rfl⟩, F5, news_sw N5⟩
    rcases List.mem_cons.mp hq with rfl | hq
    · exact Nat.ne_of_gt l5
    · exact hW q hq
  case fin =>
    rintro hh tt m3 w2 ⟨o, v, ho, rfl⟩ F2 N2
    exact ret _ _ _ F2
end Mine
end
section
open PySem PySem.W PyProof.Rows PySem.Calls
open PySem.Sem (wp)
set_option maxRecDepth 100000
namespace Mine
theorem topOffZF : True := by
  w_top off
  trivial
local macro_rules | `(tactic| k_all) => `(tactic| assumption)
local macro_rules | `(tactic| k_room) => `(tactic| ktr_room)
local macro_rules | `(tactic| k_units) => `(tactic| first | ktr_units | ((try dsimp only); (try simp only [units_make, units_deeper, units_in1, Around.mark_units]); omega))
local macro_rules | `(tactic| walk_at "c_fill") => `(tactic| (have kf : PySem.Challenge.rw_fg0013_01 = PySem.Challenge.rw_fg0013_01 ∧ Mine.hd.heap_39 = Mine.hd.heap_39 := (by k_fill; exact ⟨rfl, rfl⟩)); clear kf)
local macro_rules | `(tactic| walk_at "c_enter") => `(tactic| (k_dflt (refine' callC_def ?kBL ?k1 ?k2 ?k3 ?k4 ?k5 ?kA ?kF ?kK ?k6 ?k7 ?k8 ?k9 ?kB ?_ ?c5 ?c2 ?c3 ?c4; (case kBL => assumption); (case kA => exact rfl); (case kF => exact rfl); (case kK => assumption); (case k1 => k_asm); (case k2 => k_asm); (case k3 => k_asm); (case k4 => k_asm); (case k5 => k_asm); (case k6 => k_is); (case k7 => k_is); (case k8 => ktr_room); (case k9 => first | exact BindsTo.of_eq rfl | exact binds_K (by k_in) rfl (by k_is) rfl rfl rfl | (refine' kp_binds ?kx ?ke; (case kx => k_in); (case ke => exact fun _ => rfl))); (case kB => exact locs rfl); (case c5 => decide); (case c2 => exact rfl); (case c3 => exact rfl); (case c4 => exact rfl); k_whole; intro g' L' h' tk' FG' F' N' B' X' T' l1; (try k_lt l1); (try dsimp only))))
local macro_rules | `(tactic| walk_at "c_enter2") => `(tactic| (k_dflt (refine' callC_def ?kBL ?k1 ?k2 ?k3 ?k4 ?k5 ?kA ?kF ?kK ?k6 ?k7 ?k8 ?k9 ?kB ?_ ?c5 ?c2 ?c3 ?c4; (case kA => exact rfl); (case kF => exact rfl); (case kK => exact rfl); (case k1 => k_asm); (case k2 => k_asm); (case k3 => k_asm); (case k4 => k_asm); (case k5 => k_asm); (case k6 => k_is); (case k7 => k_is); (case k8 => ktr_room); (case k9 => first | exact BindsTo.of_eq rfl | exact binds_K (by k_in) rfl (by k_is) rfl rfl rfl | (refine' kp_binds ?kx ?ke; (case kx => k_in); (case ke => exact fun _ => rfl))); (case kB => exact locs rfl); (case kBL => exact bl _); (case c5 => decide); (case c2 => exact rfl); (case c3 => exact rfl); (case c4 => exact rfl); k_whole; intro g' L' h' tk' FG' F' N' B' X' T' l1; (try k_lt l1); (try dsimp only))))
local macro_rules | `(tactic| walk_at "c_both") => `(tactic| (k_dflt (refine' kp_both ?k1 ?k2 ?k3 ?k4 ?k5 ?kA ?kF ?kK ?k6 ?k7 ?k8 ?kV ?kX ?kQ ?kM ?kN ?kD ?kR ?kP ?kS ?kT ?kB ?_ ?c2 ?c3 ?c4 ?c5; (case kA => exact rfl); (case kF => exact rfl); (case kK => assumption); (case k1 => k_asm); (case k2 => k_asm); (case k3 => k_asm); (case k4 => k_asm); (case k5 => k_asm); (case k6 => k_is); (case k7 => k_is); (case k8 => ktr_room); (case kV => kp_lit); (case kX => kp_lit); (case kQ => exact rfl); (case kM => exact rfl); (case kN => exact rfl); (case kD => kp_flats); (case kR => exact rfl); (case kP => exact rfl); (case kS => exact fun _ => rfl); (case kT => exact fun _ _ => rfl); (case kB => exact fun _ _ => locs rfl); (case c5 => decide); (case c2 => exact rfl); (case c3 => exact rfl); (case c4 => exact rfl); k_whole; intro C' D' o' g' L' h' tk' l1 l2 lo' hs' fs' FG' F' N' B' X' T'; (try k_lt l1); (try k_lt2 l2); (try dsimp only))))
local macro_rules | `(tactic| walk_at "call type:type") => `(tactic| (k_here; (with_reducible show wpAny _ _ (call (Value.type "type") [Value.bytes _ _]) _ _ _); refine call_type_of (Tx := "bytes") rfl (by decide +kernel) ?_))
local macro_rules | `(tactic| walk_at "wpC") => `(tactic| (with_reducible refine wpC_any ?_))
local macro_rules | `(tactic| walk_at "wpC") => `(tactic| (with_reducible refine execsC_any ?_))
local macro_rules | `(tactic| walk_at "wpC") => `(tactic| (refine' execsC_nil ?_))
local macro_rules | `(tactic| walk_at "wpC") => `(tactic| ((with_reducible show wpC _ _ (execs _ _) _ _ _); with_reducible refine execsC_cons ?_; refine' wpC_If ?_))
local macro_rules | `(tactic| walk_at "wpC") => `(tactic| ((with_reducible show wpC _ _ (execs _ _) _ _ _); with_reducible refine execsC_cons ?_; refine' wpC_While ?_; refine' codeC_while ?_))
local macro_rules | `(tactic| walk_at "wpC") => `(tactic| ((with_reducible show wpC _ _ (execs _ _) _ _ _); with_reducible refine execsC_cons ?_; refine' wpC_Try ?_))
local macro_rules | `(tactic| walk_at "wpC") => `(tactic| ((with_reducible show wpC _ _ (execs _ _) _ _ _); with_reducible refine execsC_cons ?_; refine' wpC_For ?_ ?hs; (case hs => intro _; with_unfolding_all rfl)))
local macro_rules | `(tactic| walk_at "pyIter ref") => `(tactic| ((with_reducible show wpAny _ _ (pyIter (Value.ref _)) (fun _ _ => codeC _ _ _ _ _) _ _); (with_reducible rename IsRange _ _ _ _ _ _ _ _ => R9); refine wpAny_pyIter_range R9 ?hsmall ?_; (case hsmall => walk_at "c_small")))
local macro_rules | `(tactic| walk_at "wpC") => `(tactic| ((with_reducible show wpC _ _ (execs _ _) _ _ _); with_reducible refine execsC_cons ?_; refine' wpC_Return ?_; refine' evalC_method ?_ ?he; (case he => with_unfolding_all rfl)))
local macro_rules | `(tactic| walk_at "wpC") => `(tactic| ((with_reducible show wpC _ _ (execs _ _) _ _ _); with_reducible refine execsC_cons ?_; refine' wpC_Expr ?_ ?hi ?hs; (case hi => with_unfolding_all rfl); (case hs => with_unfolding_all rfl); refine' evalC_method ?_ ?he; (case he => with_unfolding_all rfl)))
local macro_rules | `(tactic| walk_at "wpC") => `(tactic| ((with_reducible show wpC _ _ (execs _ _) _ _ _); with_reducible refine execsC_cons ?_; refine' wpC_AssignAttr ?_ ?hs; (case hs => with_unfolding_all rfl)))
local macro_rules | `(tactic| walk_at "wpC") => `(tactic| ((with_reducible show wpC _ _ (execs _ _) _ _ _); with_reducible refine execsC_cons ?_; refine' wpC_AssignSub ?_ ?hs; (case hs => with_unfolding_all rfl)))
local macro_rules | `(tactic| walk_at "wpC") => `(tactic| ((with_reducible show wpC _ _ (eval _ _) _ _ _); refine' evalC_ifExp ?_))
local macro_rules | `(tactic| walk_at "wpC") => `(tactic| ((with_reducible show wpC _ _ (eval _ _) _ _ _); refine' evalC_call ?_ ?he; (case he => with_unfolding_all rfl)))
local macro_rules | `(tactic| walk_at "wpC") => `(tactic| ((with_reducible show wpC _ _ (callWith _ _ _ _ _) _ _ _); k_dflt (first | refine' callWithC_T0 ?_ | (refine' callWithC_K0 ?k1 ?k2 ?_; (case k1 => k_in); (case k2 => k_is); k_whole) | (refine' callWithC_K ?k1 ?k2 ?_; (case k1 => k_asm); (case k2 => k_is); k_whole))))
local macro_rules | `(tactic| walk_at "wpC") => `(tactic| ((with_reducible show wpC _ _ (call _ _) _ _ _); k_dflt (show wpC _ _ (call (Value.type "bytearray") []) _ _ _); (with_reducible rename Fr _ _ _ _ => F9); (with_reducible rename News _ _ _ _ => N9); (refine call_baN (s := ⟨_, _, _, _, _⟩) F9 N9 ?_); intro ba' h' F' N' l1; (try k_lt l1)))
local macro_rules | `(tactic| walk_at "wpC") => `(tactic| ((with_reducible show wpC _ _ (setItem (.ref _) (.ref _) (.bytes _ _)) _ _ _); (with_reducible rename Fr _ _ _ _ => F9); (with_reducible rename News _ _ _ _ => N9); refine setItem_N (s := ⟨_, _, _, _, _⟩) F9 N9 (by assumption) (by assumption) (by assumption) (by rw [sizeLine_eq]; omega) ?_; intro _ F' N'))
local macro_rules | `(tactic| walk_at "call builtin:len") => `(tactic| (k_here; (with_reducible show wpAny _ _ (call (Value.builtin "len") [Value.ref _]) _ _ _); (with_reducible rename News _ _ _ _ => N9); refine len_ba (bs := _) (News.get N9 (by repeat (first | exact List.Mem.head _ | apply List.Mem.tail))) (by omega) ?_; have N' := N9; clear N9))
local macro_rules | `(tactic| walk_at "call type:bytes") => `(tactic| (k_here; (with_reducible show wpAny _ _ (call (Value.type "bytes") [Value.ref _]) _ _ _); (with_reducible rename News _ _ _ _ => N9); refine call_bytes_ba (bs := _) (News.get N9 (by repeat (first | exact List.Mem.head _ | apply List.Mem.tail))) (by rw [sizeLine_eq]; first | omega | (simp only [List.size_toArray]; omega)) ?_; have N' := N9; clear N9))
local macro_rules | `(tactic| walk_at "wpC") => `(tactic| ((with_reducible show wpC _ _ (callWith _ (Value.ref _) _ (backTo _ (starEach (_ :: _) _)) _) _ _ _); k_dflt (refine' callWithC_K ?k1 ?k2 ?_; (case k1 => k_asm); (case k2 => k_is); k_whole)))
local macro_rules | `(tactic| walk_at "binaryOp Pow int int") => `(tactic| (k_here; (with_reducible refine pow_int_small ?kb1 ?kb2 ?kb3 ?_); (case kb1 => decide); (case kb2 => decide); (case kb3 => decide)))
local macro_rules | `(tactic| walk_at "subscriptTail Name BinOp ref int") => `(tactic| (k_here; (with_reducible show wpAny _ _ (subscriptTail _ _ (Value.ref _) (Value.int _ _)) _ _ _); (with_reducible rename News _ _ _ _ => N9); k_dflt (refine' item_ints N9 ?hm ?hi ?h0 ?h1 ?h2 ?_ ?hs ?ht; (case hs => with_unfolding_all rfl); (case ht => (intro _; with_unfolding_all rfl)); (case hm => repeat (first | exact List.Mem.head _ | apply List.Mem.tail)); (case hi => assumption); (case h0 => exact IdxOk.a (by assumption) (by assumption) (by assumption)); (case h1 => exact IdxOk.b (by assumption) (by assumption) (by assumption)); (case h2 => exact IdxOk.c (by assumption) (by assumption) (by assumption))); intro u'; have N' := N9; clear N9))
local macro_rules | `(tactic| walk_at "eval Name") => `(tactic| (k_here; (with_reducible rename Fr _ _ _ _ => kF); k_dflt (refine' nameX_L kF ?hv ?_ ?hk ?hx ?hd; (case hk => rfl); (case hx => rfl); (case hd => decide); (case hv => assumption); k_whole)))
local macro_rules | `(tactic| walk_at "wpC") => `(tactic| ((with_reducible show wpC _ _ (execs (Stmt.Assign [Expr.Name _ _] _ _ :: _) _) _ _ _); with_reducible refine execsC_any ?_))
local macro_rules | `(tactic| walk_at "subscriptTail Name Name ref int") => `(tactic| (k_here; (with_reducible show wpAny _ _ (subscriptTail _ _ (Value.ref _) (Value.int _ _)) _ _ _); (with_reducible rename News _ _ _ _ => N9); k_dflt (refine' item_listN N9 ?hm ?h0 ?h1 ?hx ?_ ?hs ?ht; (case hs => with_unfolding_all rfl); (case ht => (intro _; with_unfolding_all rfl)); (case hm => k_mem); (case hx => assumption); (case h0 => omega); (case h1 => omega)); have N' := N9; clear N9))
local macro_rules | `(tactic| walk_at "wpC") => `(tactic| ((with_reducible show wpC _ _ (execs (Stmt.Assign [Expr.Tuple _ _ _] _ _ :: _) _) _ _ _); with_reducible refine execsC_cons ?_; refine' wpC_AssignPair (names := [Str.ofString "first", Str.ofString "second"]) rfl rfl rfl ?_))
local macro_rules | `(tactic| walk_at "wpC") => `(tactic| ((with_reducible show wpC _ _ (eval (Expr.Call _ _ _ _) _) _ _ _); refine' evalC_call ?_ ?he; (case he => with_unfolding_all rfl)))
local macro_rules | `(tactic| walk_at "wpC") => `(tactic| ((with_reducible show wpC _ _ (call _ _) _ _ _); k_dflt (show wpC _ _ (call (Value.ref 890) [.ref _]) _ _ _); walk_at "c_packrow"))
local macro_rules | `(tactic| walk_at "c_packrow") => `(tactic| ((with_reducible rename Fr _ _ _ _ => F9); (with_reducible rename News _ _ _ _ => N9); (k_dflt (refine' packb_c (s := ⟨_, _, _, _, _⟩) (packs_list ?i1 ?i2 ?i3) ?b1 F9 ?b2 ?b3 N9 ?b4 ?ok ?he ?b5 ?b6 ?_; (case ok => (intro e9; exact List.Mem.tail _ (by k_mem))); (case i1 => assumption); (case i2 => assumption); (case i3 => assumption); (case b1 => k_asm); (case b2 => k_asm); (case b3 => k_asm); (case b4 => exact rfl); (case he => assumption); (case b5 => ktr_room); (case b6 => k_units); k_whole)); intro h' t' tk' F' N'))
set_option maxRecDepth 100000 in
set_option maxHeartbeats 4000000 in
theorem law_pairs {prog : Program} {w : World} {mg mb : Str → Option Value} {p : Program} {loose : List Str} {mean : ExcName → Option Value} {s : Shared} {h0 : Heap} {L : Addr} {m : Str → Option Value} {sz : Nat}
    {RA TA : Addr} {o2 o4 o5 : Obj} {v5 : Option Value} {j jt : Nat} {rs ts : List Value} {W : List (Addr × Obj)} {Q : Flow → Shared → Prop}
    (X : (Mine.hd.heap_39 w.params).In h0) (T : Top p loose mean mg mb h0) (B : Below callerA h0 [] h0)
    (F : Fr h0 L s.heap m) (N : News h0 L s.heap ((L + 1 + 1 + 1 + 1 + 1, o5) :: W)) (mR : (RA, listOf rs.toArray j) ∈ W) (mT : (TA, listOf ts.toArray jt) ∈ W) (m2 : (L + 1 + 1, o2) ∈ W) (m4 : (L + 1 + 1 + 1 + 1, o4) ∈ W) (hW : ∀ q ∈ W, q.1 ≠ L + 1 + 1 + 1 + 1 + 1)
    (hrs : RowsAt sz rs W) (hts : ThingsAt ts W) (hsz : sz ≤ 5) (d2 : o2.data = .cell (some (.ref RA))) (d4 : o4.data = .cell (some (.ref TA))) (d5 : o5.data = .cell v5)
    (ret : ∀ h t m', Fr h0 L h m' → Q (.ret (.bool true)) { s with heap := h, toks := t }) :
    wpC (model prog w) (callerA.deeper (lawE L)) (execs (lawS.1.drop 6) (lawE L)) Q nE s := by
  walk_at "c_fill"
  obtain ⟨hp, gs, dr, tks, os⟩ := s
  dsimp only at F N
  dsimp only [lawS, lawE, lawScS, List.drop]
  k_steps
  rename IsRange _ _ _ _ _ _ _ _ => R9
  rename Fr _ _ _ _ => F9
  rename News _ _ _ _ => N9
  refine one_loop (s := ⟨_, _, _, _, _⟩) X T B rfl F9 N9 R9 mR mT m2 m4 hW hrs hts hsz d2 d4 d5 fun h t m' f3 => ?_
  dsimp only
  k_steps
  exact ret _ _ _ f3
theorem ne_cell {g h : Heap} {L a c : Addr} {o o5 : Obj} {v : Option Value} {news : List (Addr × Obj)} (N : News g L h news) (h1 : (a, o) ∈ news) (h2 : (c, o5) ∈ news) (d5 : o5.data = .cell v) (d : ∀ v, o.data ≠ .cell v) : a ≠ c := by
  rintro rfl
  have e := (N _ h1).1.symm.trans (N _ h2).1
  injection e with e
  exact d v ((congrArg Obj.data e).trans d5)
end Mine
end
section
open PySem PySem.W PyProof.Rows PySem.Calls
open PySem.Sem (wp)
set_option maxRecDepth 100000
namespace Mine
theorem law_rest {prog : Program} {w : World} {mg mb : Str → Option Value} {p : Program} {loose : List Str} {mean : ExcName → Option Value} {s : Shared} {h0 : Heap} {L : Addr} {m : Str → Option Value} {x : Int} {tsz : Tok}
    {RA NA : Addr} {o1 o2 o3 o4 o5 : Obj} {v3 v4 v5 : Option Value} {j nn : Nat} {nv : List Value} {nums : List Int} {a b c : Addr × Obj} {Q : Flow → Shared → Prop}
    (X : (Mine.hd.heap_39 w.params).In h0) (T : Top p loose mean mg mb h0) (B : Below callerA h0 [] h0)
    (F : Fr h0 L s.heap m) (N : News h0 L s.heap [(RA, listOf #[] j), (NA, listOf nv.toArray nn), a, b, c, (L + 1 + 1 + 1 + 1 + 1, o5), (L + 1 + 1 + 1 + 1, o4), (L + 1 + 1 + 1, o3), (L + 1 + 1, o2), (L + 1, o1)])
    (hsz : m (Str.ofString "size") = some (.int (x.fmod 6) tsz)) (hn : NumOk nv nums)
    (d3 : o3.data = .cell v3) (d4 : o4.data = .cell v4) (d5 : o5.data = .cell v5) (d2 : o2.data = .cell (some (.ref RA))) (d1 : o1.data = .cell (some (.ref NA)))
    (l1 : @LT.lt Nat _ (L + 1 + 1 + 1 + 1 + 1) NA) (l2 : @LT.lt Nat _ NA RA)
    (ret : ∀ h t m', Fr h0 L h m' → Q (.ret (.bool true)) { s with heap := h, toks := t }) :
    wpC (model prog w) (callerA.deeper (lawE L)) (execs (lawS.1.drop 3) (lawE L)) Q nE s := by
  have m1 := Int.fmod_nonneg_of_pos x (show (0 : Int) < 6 by decide)
  have m2 := Int.fmod_lt_of_pos x (show (0 : Int) < 6 by decide)
  have hsz' : m (Str.ofString "size") = some (.int ((x.fmod 6).toNat : Int) tsz) := by rw [Int.toNat_of_nonneg m1]; exact hsz
  refine law_rows (nn := nn) (j := j) (o4 := o4) (o5 := o5) X T B F (fun q hq => N q ?_) hsz' (by omega) hn d3 d2 d1 l1 l2 fun h t m' w' o3' v3' I hI d3' F' N' => ?_
  · simp only [List.mem_cons, List.not_mem_nil, or_false] at hq ⊢
    rcases hq with h | h | h | h | h | h | h <;> simp [h]
  obtain ⟨rs, j2, rest, -, rfl, hrs, hR, hr⟩ := hI
  refine law_things (rs := rs) (j := j2) X T B F' N' hn d3' d4 d1 l1 l2 (fun q hq => (hr q hq).2) fun h5 t5 m5 o3'' v3'' o4' TA ts jt rest' d3'' d4' hts hT hb F5 N5 => ?_
  have M5 : (L + 1 + 1 + 1 + 1 + 1, o5) ∈ rest' := hb _ (.tail _ (.head _))
  let all := (L + 1 + 1 + 1, o3'') :: (TA, listOf (List.toArray ts) jt) :: (L + 1 + 1 + 1 + 1, o4') :: (L + 1, o1) :: rest'
  have hall : ∀ q ∈ rest', q ∈ all := fun q hq => .tail _ (.tail _ (.tail _ (.tail _ hq)))
  have ne5 : ∀ a o, (a, o) ∈ all → (∀ v, Obj.data o ≠ .cell v) → a ≠ L + 1 + 1 + 1 + 1 + 1 := fun a o hm hd => ne_cell N5 hm (hall _ M5) d5 hd
  have inW : ∀ a o, (a, o) ∈ all → a ≠ L + 1 + 1 + 1 + 1 + 1 → (a, o) ∈ all.filter (fun q => decide (q.1 ≠ L + 1 + 1 + 1 + 1 + 1)) := fun a o hm hd => List.mem_filter.mpr ⟨hm, by simpa using hd⟩
  refine law_pairs (W := all.filter (fun q => decide (q.1 ≠ L + 1 + 1 + 1 + 1 + 1))) (sz := (x.fmod 6).toNat) (rs := rs) (j := j2) (ts := ts) (jt := jt) X T B F5 (fun q hq => ?_) ?_ ?_ ?_ ?_ (fun q hq => ?_) ?_ ?_ (by omega) d2 d4' d5 fun h6 t6 m6 F6 => ret h6 t6 m6 F6
  · rcases List.mem_cons.mp hq with rfl | hq
    · exact N5 _ (hall _ M5)
    · exact N5 q (List.mem_filter.mp hq).1
  · exact inW _ _ (hall _ (hb _ (.head _))) (ne5 _ _ (hall _ (hb _ (.head _))) (fun v e => by cases e))
  · exact inW _ _ (.tail _ (.head _)) (ne5 _ _ (.tail _ (.head _)) (fun v e => by cases e))
  · exact inW _ _ (hall _ (hb _ (.tail _ (.tail _ (.head _))))) (by show @Ne Nat _ _; omega)
  · exact inW _ _ (.tail _ (.tail _ (.head _))) (by show @Ne Nat _ _; omega)
  · simpa using (List.mem_filter.mp hq).2
  · intro i hi
    have hlt : i < rs.length := by omega
    obtain ⟨r, vs, ln, ns, e, hm, hi1, hok⟩ := hR rs[i] (List.getElem_mem hlt)
    refine ⟨r, vs, ln, ns, ?_, ?_, hi1, hok⟩
    · simp [hlt, e]
    · have hm' := hall _ (hb _ (.tail _ (.tail _ (.tail _ hm))))
      exact inW _ _ hm' (ne5 _ _ hm' (fun v e => by cases e))
  · intro i hi
    have hlt : i < ts.length := by omega
    obtain ⟨r, x, t, b, u, e, hm, hx, hz⟩ := hT ts[i] (List.getElem_mem hlt)
    refine ⟨r, x, t, b, u, ?_, ?_, hx, hz⟩
    · simp [hlt, e]
    · have hm' := hall _ hm
      exact inW _ _ hm' (ne5 _ _ hm' (fun v e => by cases e))
end Mine
end
section
open PySem PySem.W PyProof.Rows PySem.Calls
open PySem.Sem (wp)
set_option maxRecDepth 100000
namespace Mine
theorem topOffZH : True := by
  w_top off
  trivial
local macro_rules | `(tactic| k_all) => `(tactic| assumption)
local macro_rules | `(tactic| k_room) => `(tactic| ktr_room)
local macro_rules | `(tactic| k_units) => `(tactic| first | ktr_units | ((try dsimp only); (try simp only [units_make, units_deeper, units_in1, Around.mark_units]); omega))
local macro_rules | `(tactic| walk_at "c_fill") => `(tactic| (have kf : PySem.Challenge.rw_fg0013_01 = PySem.Challenge.rw_fg0013_01 ∧ Mine.hd.heap_39 = Mine.hd.heap_39 := (by k_fill; exact ⟨rfl, rfl⟩)); clear kf)
local macro_rules | `(tactic| walk_at "c_enter") => `(tactic| (k_dflt (refine' callC_def ?kBL ?k1 ?k2 ?k3 ?k4 ?k5 ?kA ?kF ?kK ?k6 ?k7 ?k8 ?k9 ?kB ?_ ?c5 ?c2 ?c3 ?c4; (case kBL => assumption); (case kA => exact rfl); (case kF => exact rfl); (case kK => assumption); (case k1 => k_asm); (case k2 => k_asm); (case k3 => k_asm); (case k4 => k_asm); (case k5 => k_asm); (case k6 => k_is); (case k7 => k_is); (case k8 => ktr_room); (case k9 => first | exact BindsTo.of_eq rfl | exact binds_K (by k_in) rfl (by k_is) rfl rfl rfl | (refine' kp_binds ?kx ?ke; (case kx => k_in); (case ke => exact fun _ => rfl))); (case kB => exact locs rfl); (case c5 => decide); (case c2 => exact rfl); (case c3 => exact rfl); (case c4 => exact rfl); k_whole; intro g' L' h' tk' FG' F' N' B' X' T' l1; (try k_lt l1); (try dsimp only))))
local macro_rules | `(tactic| walk_at "c_enter2") => `(tactic| (k_dflt (refine' callC_def ?kBL ?k1 ?k2 ?k3 ?k4 ?k5 ?kA ?kF ?kK ?k6 ?k7 ?k8 ?k9 ?kB ?_ ?c5 ?c2 ?c3 ?c4; (case kA => exact rfl); (case kF => exact rfl); (case kK => exact rfl); (case k1 => k_asm); (case k2 => k_asm); (case k3 => k_asm); (case k4 => k_asm); (case k5 => k_asm); (case k6 => k_is); (case k7 => k_is); (case k8 => ktr_room); (case k9 => first | exact BindsTo.of_eq rfl | exact binds_K (by k_in) rfl (by k_is) rfl rfl rfl | (refine' kp_binds ?kx ?ke; (case kx => k_in); (case ke => exact fun _ => rfl))); (case kB => exact locs rfl); (case kBL => exact bl _); (case c5 => decide); (case c2 => exact rfl); (case c3 => exact rfl); (case c4 => exact rfl); k_whole; intro g' L' h' tk' FG' F' N' B' X' T' l1; (try k_lt l1); (try dsimp only))))
local macro_rules | `(tactic| walk_at "c_both") => `(tactic| (k_dflt (refine' kp_both ?k1 ?k2 ?k3 ?k4 ?k5 ?kA ?kF ?kK ?k6 ?k7 ?k8 ?kV ?kX ?kQ ?kM ?kN ?kD ?kR ?kP ?kS ?kT ?kB ?_ ?c2 ?c3 ?c4 ?c5; (case kA => exact rfl); (case kF => exact rfl); (case kK => assumption); (case k1 => k_asm); (case k2 => k_asm); (case k3 => k_asm); (case k4 => k_asm); (case k5 => k_asm); (case k6 => k_is); (case k7 => k_is); (case k8 => ktr_room); (case kV => kp_lit); (case kX => kp_lit); (case kQ => exact rfl); (case kM => exact rfl); (case kN => exact rfl); (case kD => kp_flats); (case kR => exact rfl); (case kP => exact rfl); (case kS => exact fun _ => rfl); (case kT => exact fun _ _ => rfl); (case kB => exact fun _ _ => locs rfl); (case c5 => decide); (case c2 => exact rfl); (case c3 => exact rfl); (case c4 => exact rfl); k_whole; intro C' D' o' g' L' h' tk' l1 l2 lo' hs' fs' FG' F' N' B' X' T'; (try k_lt l1); (try k_lt2 l2); (try dsimp only))))
local macro_rules | `(tactic| walk_at "call type:type") => `(tactic| (k_here; (with_reducible show wpAny _ _ (call (Value.type "type") [Value.bytes _ _]) _ _ _); refine call_type_of (Tx := "bytes") rfl (by decide +kernel) ?_))
local macro_rules | `(tactic| walk_at "wpC") => `(tactic| (with_reducible refine wpC_any ?_))
local macro_rules | `(tactic| walk_at "wpC") => `(tactic| (with_reducible refine execsC_any ?_))
local macro_rules | `(tactic| walk_at "wpC") => `(tactic| (refine' execsC_nil ?_))
local macro_rules | `(tactic| walk_at "wpC") => `(tactic| ((with_reducible show wpC _ _ (execs _ _) _ _ _); with_reducible refine execsC_cons ?_; refine' wpC_If ?_))
local macro_rules | `(tactic| walk_at "wpC") => `(tactic| ((with_reducible show wpC _ _ (execs _ _) _ _ _); with_reducible refine execsC_cons ?_; refine' wpC_While ?_; refine' codeC_while ?_))
local macro_rules | `(tactic| walk_at "wpC") => `(tactic| ((with_reducible show wpC _ _ (execs _ _) _ _ _); with_reducible refine execsC_cons ?_; refine' wpC_Try ?_))
local macro_rules | `(tactic| walk_at "wpC") => `(tactic| ((with_reducible show wpC _ _ (execs _ _) _ _ _); with_reducible refine execsC_cons ?_; refine' wpC_For ?_ ?hs; (case hs => intro _; with_unfolding_all rfl)))
local macro_rules | `(tactic| walk_at "pyIter ref") => `(tactic| ((with_reducible show wpAny _ _ (pyIter (Value.ref _)) (fun _ _ => codeC _ _ _ _ _) _ _); (with_reducible rename IsRange _ _ _ _ _ _ _ _ => R9); refine wpAny_pyIter_range R9 ?hsmall ?_; (case hsmall => walk_at "c_small")))
local macro_rules | `(tactic| walk_at "wpC") => `(tactic| ((with_reducible show wpC _ _ (execs _ _) _ _ _); with_reducible refine execsC_cons ?_; refine' wpC_Return ?_; refine' evalC_method ?_ ?he; (case he => with_unfolding_all rfl)))
local macro_rules | `(tactic| walk_at "wpC") => `(tactic| ((with_reducible show wpC _ _ (execs _ _) _ _ _); with_reducible refine execsC_cons ?_; refine' wpC_Expr ?_ ?hi ?hs; (case hi => with_unfolding_all rfl); (case hs => with_unfolding_all rfl); refine' evalC_method ?_ ?he; (case he => with_unfolding_all rfl)))
local macro_rules | `(tactic| walk_at "wpC") => `(tactic| ((with_reducible show wpC _ _ (execs _ _) _ _ _); with_reducible refine execsC_cons ?_; refine' wpC_AssignAttr ?_ ?hs; (case hs => with_unfolding_all rfl)))
local macro_rules | `(tactic| walk_at "wpC") => `(tactic| ((with_reducible show wpC _ _ (execs _ _) _ _ _); with_reducible refine execsC_cons ?_; refine' wpC_AssignSub ?_ ?hs; (case hs => with_unfolding_all rfl)))
local macro_rules | `(tactic| walk_at "wpC") => `(tactic| ((with_reducible show wpC _ _ (eval _ _) _ _ _); refine' evalC_ifExp ?_))
local macro_rules | `(tactic| walk_at "wpC") => `(tactic| ((with_reducible show wpC _ _ (eval _ _) _ _ _); refine' evalC_call ?_ ?he; (case he => with_unfolding_all rfl)))
local macro_rules | `(tactic| walk_at "wpC") => `(tactic| ((with_reducible show wpC _ _ (callWith _ _ _ _ _) _ _ _); k_dflt (first | refine' callWithC_T0 ?_ | (refine' callWithC_K0 ?k1 ?k2 ?_; (case k1 => k_in); (case k2 => k_is); k_whole) | (refine' callWithC_K ?k1 ?k2 ?_; (case k1 => k_asm); (case k2 => k_is); k_whole))))
local macro_rules | `(tactic| walk_at "wpC") => `(tactic| ((with_reducible show wpC _ _ (call _ _) _ _ _); k_dflt (show wpC _ _ (call (Value.type "bytearray") []) _ _ _); (with_reducible rename Fr _ _ _ _ => F9); (with_reducible rename News _ _ _ _ => N9); (refine call_baN (s := ⟨_, _, _, _, _⟩) F9 N9 ?_); intro ba' h' F' N' l1; (try k_lt l1)))
local macro_rules | `(tactic| walk_at "wpC") => `(tactic| ((with_reducible show wpC _ _ (setItem (.ref _) (.ref _) (.bytes _ _)) _ _ _); (with_reducible rename Fr _ _ _ _ => F9); (with_reducible rename News _ _ _ _ => N9); refine setItem_N (s := ⟨_, _, _, _, _⟩) F9 N9 (by assumption) (by assumption) (by assumption) (by rw [sizeLine_eq]; omega) ?_; intro _ F' N'))
local macro_rules | `(tactic| walk_at "call builtin:len") => `(tactic| (k_here; (with_reducible show wpAny _ _ (call (Value.builtin "len") [Value.ref _]) _ _ _); (with_reducible rename News _ _ _ _ => N9); refine len_ba (bs := _) (News.get N9 (by repeat (first | exact List.Mem.head _ | apply List.Mem.tail))) (by omega) ?_; have N' := N9; clear N9))
local macro_rules | `(tactic| walk_at "call type:bytes") => `(tactic| (k_here; (with_reducible show wpAny _ _ (call (Value.type "bytes") [Value.ref _]) _ _ _); (with_reducible rename News _ _ _ _ => N9); refine call_bytes_ba (bs := _) (News.get N9 (by repeat (first | exact List.Mem.head _ | apply List.Mem.tail))) (by rw [sizeLine_eq]; first | omega | (simp only [List.size_toArray]; omega)) ?_; have N' := N9; clear N9))
local macro_rules | `(tactic| walk_at "wpC") => `(tactic| ((with_reducible show wpC _ _ (callWith _ (Value.ref _) _ (backTo _ (starEach (_ :: _) _)) _) _ _ _); k_dflt (refine' callWithC_K ?k1 ?k2 ?_; (case k1 => k_asm); (case k2 => k_is); k_whole)))
local macro_rules | `(tactic| walk_at "binaryOp Pow int int") => `(tactic| (k_here; (with_reducible refine pow_int_small ?kb1 ?kb2 ?kb3 ?_); (case kb1 => decide); (case kb2 => decide); (case kb3 => decide)))
local macro_rules | `(tactic| walk_at "wpC") => `(tactic| ((with_reducible show wpC _ _ (execs (Stmt.Assign [Expr.Name _ _] _ _ :: _) _) _ _ _); with_reducible refine execsC_any ?_))
set_option maxRecDepth 100000 in
set_option maxHeartbeats 4000000 in
theorem law_c {prog : Program} {w : World} {mg mb : Str → Option Value} {p : Program} {loose : List Str} {mean : ExcName → Option Value} {s : Shared} {Q : Value → Shared → Prop} {sl : Addr} {vs : List Value} {ns : List Int}
    (X : (Mine.hd.heap_39 w.params).In s.heap) (T : Top p loose mean mg mb s.heap) (hL : s.heap.IsList sl vs.toArray) (hI : IntsAre vs ns) (hlen : ns.length ≤ 63)
    (ret : ∀ h' L m tk, Fr s.heap L h' m → Q (.bool true) { s with heap := h', toks := tk }) : wpC (model prog w) callerA (call (.ref 909) [.ref sl]) Q nE s := by
  walk_at "c_fill"
  refine wpC_call ?_
  have hbl := bl [(Str.ofString "script", .ref sl)]
  k_dflt (refine' callC_cellsN hbl X ?k1 ?k2 ?k3 ?k4 ?k5 ?k6 ?k7 ?_ ?c1 ?c2 ?c3)
  case k1 => decide
  case k2 => k_is
  case k3 => exact T.nolimit
  case k4 => k_is
  case k5 => exact BindsTo.of_eq rfl
  case k6 => exact fun n => kinds_of (by kinds_ok)
  case k7 => decide
  case c1 => exact rfl
  case c2 => exact rfl
  case c3 => exact rfl
  intro L h₁ tk cells F N0 Y
  k_cells Y
  have B := (below_caller s.heap)
  iterate 37 (first | (k_unfold; (try dsimp only)) | walk1 | (dsimp only; walk1))
  rename Fr _ _ _ (fun y => if y = Str.ofString "size" then _ else _) => F9
  rename News _ _ _ ((_, listOf #[] 0) :: _) => N9
  rename IntsAre _ (List.take 20 ns ++ _) => q1
  refine law_rest (s := ⟨_, _, _, _, _⟩) X T B F9 N9 (if_pos rfl) ⟨q1, ?_, ?_⟩ (by assumption) (by assumption) (by assumption) (by assumption) (by assumption) ?_ ?_ fun h t m' F' => ret h L m' t F'
  · have e : ((List.replicate (Int.toNat 20) [(0 : Int)]).flatten).length = 20 := by decide
    rw [List.length_append, e]; omega
  · have e : ((List.replicate (Int.toNat 20) [(0 : Int)]).flatten).length = 20 := by decide
    rw [List.length_append, e, List.length_take]; omega
  · omega
  · omega
end Mine
end
open PySem PySem.W PyProof.Rows PySem.Calls
set_option maxRecDepth 100000 in
set_option maxHeartbeats 8000000 in
theorem PySem.Challenge.cw_fg0013_01_holds : PySem.Challenge.rw_fg0013_01.Holds := by
  refine Mine.hd ?_
  k_fill
  intro w s₀ s₁ mg mb G Y fa o pm cd doc dV kV ho hd hcd hD hmg hg args vals as hpre hlay hrd hwl hlo
  have KX := kIn_of Y
  have X := (Ground.X G).1
  have V := (Ground.X G).2
  refine Ground.open G ?_
  intro T B D TE TW
  try (refine guard_noD D (by decide +kernel) ?_; clear D)
  obtain ⟨_, _, he, B0⟩ := based_of_top T rfl hmg ho hd
  wrow_args hpre hlay hrd hwl hlo
  have h9 : mg (Str.ofString "law") = some (.ref 909) := mg_of (K := Mine.hd.heap_39 w.params) KX T.g (by kernel_rfl)
  obtain rfl : fa = 909 := by
    have e : some (Value.ref fa) = some (.ref 909) := hmg.symm.trans h9
    injection e with e
    injection e
  refine Mine.wpC_mono (Mine.law_c KX T (by assumption) (by assumption) (by omega) fun h' L m tk F' => ?_) (fun v s' q => q) fun e s' x => x.elim
  clear h9 hmg he hd hcd hD ho
  wrow_closeG
