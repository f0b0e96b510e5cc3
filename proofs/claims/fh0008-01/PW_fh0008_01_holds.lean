import PyProof.Rows.All
import Wide.All
import OpenK.AllK
import Wide.FinOn
import Lean
import PySem.Challenge.RW_fh0008_01
open PySem PySem.W PySem.W.X PySem.Calls PyProof.Rows PySem.Spec
set_option Elab.async false
set_option maxRecDepth 10000
set_option linter.unusedVariables false
set_option linter.unusedSimpArgs false
namespace L6
/-- the built-ins that may hold a bytearray's memory while they run -/
def heldIds : List String := ["bytearray.__contains__", "bytearray.__mod__", "bytearray.__rmod__", "_struct.pack_into.held", "bytearray.find.held"] ++ PySem.Builtin.Bytes.decodersThatHold
def bears : Code → Bool
  | .builtin id _ => heldIds.contains id
  | _ => false
/-- the claim's caller is on the stack, and nothing there holds a bytearray's memory -/
def onStack (l : List Code) : Prop := (∃ a, Code.builtin "claim.caller" a ∈ l) ∧ ∀ c ∈ l, bears c = false
def wpC {α : Type} (M : Model) (A : Around) (t : Sem α) (Q : α → Shared → Prop) (E : Value → Shared → Prop) (s : Shared) : Prop :=
  ∀ Γ p, Γ.In A → onStack (Γ.code :: Γ.below.map (·.1)) → Sem.wp M Γ t (fun a _ s' => Q a s') (fun e _ s' => E e s') p s
def codeC (M : Model) (A : Around) (c : Code) (R : Result → Shared → Prop) (s : Shared) : Prop :=
  ∀ Γ p, Γ.code = c → Γ.Below A → onStack (Γ.below.map (·.1)) → wpCode M Γ R p s
section
variable {α β : Type} {M : Model} {A : Around} {E : Value → Shared → Prop} {s : Shared}
theorem wpC_of {t : Sem α} {Q : α → Shared → Prop} (h : wpAny M A t Q E s) : wpC M A t Q E s := fun Γ p hΓ _ => h Γ p hΓ
theorem codeC_of {c : Code} {R : Result → Shared → Prop} (h : codeAny M A c R s) : codeC M A c R s := fun Γ p hc hΓ _ => h Γ p hc hΓ
theorem wpC_mono {t : Sem α} {Q Q' : α → Shared → Prop} {E' : Value → Shared → Prop} (h : wpC M A t Q E s) (hQ : ∀ a s, Q a s → Q' a s) (hE : ∀ e s, E e s → E' e s) : wpC M A t Q' E' s :=
  fun Γ p hΓ hc => Sem.wp_mono M Γ t (fun a _ s => hQ a s) (fun e _ s => hE e s) p s (h Γ p hΓ hc)
theorem codeC_mono {c : Code} {R R' : Result → Shared → Prop} (h : codeC M A c R s) (hR : ∀ r s, R r s → R' r s) : codeC M A c R' s :=
  fun Γ p hc hΓ hx => wpCode_mono hR (h Γ p hc hΓ hx)
theorem wpC_bind {m : Sem α} {f : α → Sem β} {Q : β → Shared → Prop} (h : wpC M A m (fun a s' => wpC M A (f a) Q E s') E s) : wpC M A (m >>= f) Q E s := fun Γ p hΓ hc => by
  rw [Sem.wp_bind']
  exact Sem.wp_mono M Γ m (fun a p' s' h' => h' Γ p' hΓ hc) (fun _ _ _ h' => h') p s (h Γ p hΓ hc)
/-- what comes first is plain -/
theorem wpC_pre {m : Sem α} {f : α → Sem β} {Q : β → Shared → Prop} (h : wpAny M A m (fun a s' => wpC M A (f a) Q E s') E s) : wpC M A (m >>= f) Q E s := wpC_bind (wpC_of h)
/-- it raises: what follows is dead -/
theorem wpC_thru {m : Sem α} {f : α → Sem β} {Q : β → Shared → Prop} (h : wpC M A m (fun _ _ => False) E s) : wpC M A (m >>= f) Q E s := wpC_bind (wpC_mono h (fun _ _ z => z.elim) fun _ _ z => z)
theorem wpC_pure {a : α} {Q : α → Shared → Prop} (h : Q a s) : wpC M A (pure a) Q E s := fun _ _ _ _ => h
theorem wpC_holding {vs : List Value} {m : Sem α} {Q : α → Shared → Prop} (h : wpC M A m Q E s) : wpC M A (holding vs m) Q E s := fun Γ p hΓ hc => by rw [Sem.wp_holding]; exact h Γ p hΓ hc
theorem wpC_tryCatch {m : Sem α} {k : Value → Sem α} {Q : α → Shared → Prop} (h : wpC M A m Q (fun e s' => wpC M A (k e) Q E s') s) : wpC M A (tryCatch m k) Q E s := fun Γ p hΓ hc => by
  rw [Sem.wp_tryCatch']
  exact Sem.wp_mono M Γ m (fun _ _ _ h' => h') (fun e p' s' h' => h' Γ p' hΓ hc) p s (h Γ p hΓ hc)
theorem wpC_onRaise {m : Sem α} {k : Value → Sem Unit} {Q : α → Shared → Prop} (h : wpC M A m Q (fun e s' => wpC M A (k e) (fun _ s'' => E e s'') E s') s) : wpC M A (m.onRaise k) Q E s := fun Γ p hΓ hc => by
  rw [Sem.wp_onRaise]
  exact Sem.wp_mono M Γ m (fun _ _ _ h' => h') (fun e p' s' h' => h' Γ p' hΓ hc) p s (h Γ p hΓ hc)
theorem wpC_attempt {m : Sem α} {Q : Except Value α → Shared → Prop} (h : wpC M A m (fun a => Q (.ok a)) (fun e => Q (.error e)) s) : wpC M A m.attempt Q E s := fun Γ p hΓ hc => by rw [Sem.wp_attempt]; exact h Γ p hΓ hc
theorem wpC_run {c : Code} {h : Option Value} {Q : Flow → Shared → Prop} (hc : codeC M (A.mark h) c (fun r s' => match r with | .ok f => Q f s' | .error e => E e s') s) (hnb : h ≠ some byPass := by intro x; cases x) : wpC M A (run c h) Q E s :=
  fun Γ p hΓ hx => by rw [Sem.wp_run]; exact hc _ p rfl (hΓ.enter c h p hnb) hx
theorem wpC_runValue {c : Code} {Q : Value → Shared → Prop} (hc : codeC M A c (fun r s' => match r with | .ok (.ret v) => Q v s' | .ok _ => False | .error e => E e s') s) : wpC M A (runValue c) Q E s :=
  fun Γ p hΓ hx => by rw [Sem.wp_runValue]; exact hc _ p rfl (hΓ.enter c none p (by intro x; cases x)) hx
theorem wpC_call {f : Value} {pos : List Value} {kw : List (Str × Value)} {Q : Value → Shared → Prop} (hc : codeC M A (.call f ⟨pos, kw⟩) (fun r s' => match r with | .ok (.ret v) => Q v s' | .ok _ => False | .error e => E e s') s) : wpC M A (call f pos kw) Q E s := wpC_runValue hc
theorem codeC_of_tree {c : Code} {R : Result → Shared → Prop} (hb : bears c = false)
    (h : wpC M (A.under c) (M.den c) (fun fin s' => match fin with | .done f => R (.ok f) s' | .again c' => c'.quiet = true ∧ codeC M A c' R s') (fun e s' => R (.error e) s') s) : codeC M A c R s := fun Γ p hc hΓ hx => by
  rw [wpCode_iff_wp, hc]
  have hx' : onStack (Γ.code :: Γ.below.map (·.1)) := by
    obtain ⟨⟨a, ha⟩, hn⟩ := hx
    refine ⟨⟨a, List.mem_cons_of_mem _ ha⟩, fun c' h' => ?_⟩
    rcases List.mem_cons.mp h' with rfl | h'
    · rw [hc]; exact hb
    · exact hn c' h'
  refine Sem.wp_mono M Γ _ (fun fin p' s' h' => ?_) (fun _ _ _ h' => h') p s (h Γ p (hc ▸ hΓ.in) hx')
  cases fin with
  | done f => exact h'
  | again c' => exact ⟨h'.1, h'.2 (Γ.goto c') p' rfl (hΓ.goto c') hx⟩
/-- no mark is set under the claim's caller -/
theorem wpC_mark {own : List String} {e : Value} {Q : Unit → Shared → Prop} (h : Q () s) : wpC M A (markTheRefusal own e) Q E s := fun Γ p hΓ hx => by
  unfold markTheRefusal
  rw [Sem.wp_bind']
  show Sem.wp M Γ (if pythonCodeMadeTheCall own (((Γ.code, p) :: Γ.below).map (·.1)) = true then _ else _) _ _ p s
  have : pythonCodeMadeTheCall own (((Γ.code, p) :: Γ.below).map (·.1)) = false := by
    obtain ⟨⟨a, ha⟩, _⟩ := hx
    unfold pythonCodeMadeTheCall
    refine Bool.and_eq_false_iff.mpr (.inl (Bool.and_eq_false_iff.mpr (.inl ?_)))
    rw [Bool.not_eq_false']
    exact List.any_eq_true.mpr ⟨_, ha, rfl⟩
  rw [this]
  exact h
/-- no bytearray is held -/
theorem wpC_exported {v : Value} {Q : Bool → Shared → Prop} (h : Q false s) : wpC M A (PySem.Builtin.Bytes.exported v) Q E s := fun Γ p hΓ hx => by
  unfold PySem.Builtin.Bytes.exported
  rw [Sem.wp_bind']
  show Q (List.any ((Γ.code, p) :: Γ.below) _) s
  have key : ∀ f : Code × Pos → Bool, (∀ c q, bears c = false → f (c, q) = false) → List.any ((Γ.code, p) :: Γ.below) f = false := fun f hf => by
    refine List.any_eq_false.mpr fun x hm => ?_
    obtain ⟨c, q⟩ := x
    rw [hf c q (hx.2 c ?_)]
    · exact Bool.false_ne_true
    · rcases List.mem_cons.mp hm with e | hm
      · cases e; exact List.mem_cons_self
      · exact List.mem_cons_of_mem _ (List.mem_map_of_mem (f := (·.1)) hm)
  rw [key _ fun c q hb => ?_]
  · exact h
  · split
    all_goals first
      | rfl
      | (rename_i e; cases e; exfalso; revert hb; simp only [bears, heldIds]; decide +kernel)
      | (rename_i e; cases e; have hb' := hb; simp only [bears, heldIds, List.contains_eq_mem, List.mem_append, decide_eq_false_iff_not, not_or] at hb'; simp [hb'.2])
end

theorem wpC_nsGet {M : Model} {A : Around} {E : Value → Shared → Prop} {s : Shared} {a : Addr} {x : Str} {m : Str → Option Value} {Q : Option Value → Shared → Prop} (n : s.heap.Ns a m) (h : Q (m x) s) : wpC M A (nsGet a x) Q E s := wpC_of (wpAny_nsGet n h)
/-- what the caller's thread comes to, told at the caller's own stack -/
theorem caller_ends {prog : Program} {w : World} {t : Sem Fin} {s : Shared} {R : Result → Shared → Prop} (hz : s.asleep)
    (h : wpC (model prog w) callerA t (fun fin s' => ∃ f, fin = .done f ∧ R (.ok f) s' ∧ AllBare s'.gens) (fun e s' => R (.error e) s' ∧ AllBare s'.gens) s) :
    ∃ n r s' s'', runN (denote table) prog w n s ⟨t, .builtin "claim.caller" {}, default, []⟩ = .halted (outcomeOf r) s' ∧
      schedN (denote table) prog w n (.single s ⟨t, .builtin "claim.caller" {}, default, []⟩) = .halted (outcomeOf r) s' ∧ s'.forget = s''.forget ∧ R r s'' := by
  have h0 := h ⟨.builtin "claim.caller" {}, none, none, [], none⟩ default caller_in ⟨⟨{}, List.mem_cons_self⟩, fun c hc => by simp at hc; subst hc; decide +kernel⟩
  obtain ⟨n, r, sa, sb, k1, k2, k3, k4⟩ := wp_halts_full (M := model prog w) (c := .builtin "claim.caller" {}) (p := default) (R := R) hz
    (Sem.wp_mono _ _ _ (fun fin p' s' ⟨f, e, h1, h2⟩ => by subst e; exact ⟨h1, leftWithCleanup_false_of_bare h2⟩) (fun e p' s' ⟨h1, h2⟩ => ⟨h1, leftWithCleanup_false_of_bare h2⟩) _ _ h0)
  exact ⟨n, r, sb, sa, k2, k1, k3, k4⟩
/-- the walk that this file's head asks: that of the library's, at the caller's own stack -/
abbrev WalkOC (q : Program) (loose : List Str) (XP : (Str → Option Value) → Heap → Prop) (YP : World → Heap → Prop) (r : RowW) (d : DefRec) : Prop :=
  ∀ (w : World) (s₀ s₁ : Shared) (mg mb : Str → Option Value), Ground q loose r.records XP w s₀ mg mb s₁.heap → YP w s₁.heap → ∀ (a : Addr), mg d.name = some (.ref a) →
    ∀ (args : List WData) (vals : List Value) (as : List Addr), r.claim.pre args = true → WData.layableAll args = true → Laid r.records w s₀ s₁ args vals as → (∀ a ∈ as, (a == sysModules) = false) →
      wpC (model r.prog w) callerA (PySem.call (.ref a) vals) (fun v s' => GoodWG r.claim (classAt s₀.heap) (ExcName.means s₀.heap) args s₁ (.ok (.ret v)) s')
        (fun e s' => GoodWG r.claim (classAt s₀.heap) (ExcName.means s₀.heap) args s₁ (.error e) s') s₁
theorem PySem.W.holds_open {r : OpenRow} {q : Program} {loose : List Str} {Xt : Shared → Bool} {XP : (Str → Option Value) → Heap → Prop} {α : Type} {Yf : Shared → α} {Ya : World → α} {YP : World → Heap → Prop} {d : DefRec} {kwd : List (Str × Expr)} {N : Nat}
    (left : LeftO r.prog q loose Xt Yf Ya N) (hY : ∀ w s, Yf s = Ya w → YP w s.heap) (hYk : ∀ w h h', YP w h → (∀ b o, h.get? b = some o → h'.get? b = some o) → YP w h')
    (hX : ∀ s, Xt s = true → XP (s.heap.nsMap mainGlobals) s.heap) (hXk : ∀ mg h h', XP mg h → (∀ b o, h.get? b = some o → h'.get? b = some o) → XP mg h')
    (hdef : defOf q r.name = some (d, kwd)) (hp : r.prog.theDef r.name = some (d.params, d.body, d.scope)) (hk : kwWritten? d.params.kwonlyargs d.params.kw_defaults = some kwd) (hRf : ∀ s, Xt s = true → RecFacts r.records s.heap) (hwr : (!r.writes || r.records.isEmpty) = true)
    (k1 : r.wellSaid = true) (ok : (chainsOk q && opensWell r.prog && (frees r.toRowW && r.within.isEmpty)) = true) (hb : r.prog.bare) (hw : r.toRowW.promised)
    (call : WalkOC q loose XP YP r.toRowW d) : r.Holds := by
  simp only [Bool.and_eq_true] at ok
  obtain ⟨⟨c1, c2⟩, c3, c4⟩ := ok
  obtain ⟨f1, f2, f3, f4, f5⟩ := frees_parts c3
  have far := left.behind (XP := fun mg h => XP mg h ∧ RecFacts r.records h) (fun s hs => ⟨hX s hs, hRf s hs⟩) c1
  refine ⟨k1, hw, ⟨hb, c2, by show r.makers.map _ = []; rw [f5]; rfl⟩, hw.witness, fun w => ⟨(left.behind hX c1 w).1, fun sr hsr => ?_⟩⟩
  obtain ⟨sf, hfence, hnog, s, ran, hz, hbare, hns, G0, y⟩ := (far w).2 sr hsr
  have RF := G0.X.2
  have Gp : Ground q loose [] XP w s (s.heap.nsMap mainGlobals) (s.heap.nsMap builtinsNs) s.heap := ⟨G0.T, G0.B, G0.D, G0.TE, G0.TD, G0.W, G0.X.1, G0.cls, G0.has, G0.apart, G0.once, G0.K⟩
  refine ⟨sf, hfence, hnog, s, ran, fun n hn => ?_, RF.1, RF.2.1, fun args hpre hlay ord hord => ?_⟩
  · obtain rfl : n = r.name := by split at hn <;> simp_all
    exact pinned_of_view hns Gp hdef hp hk
  have G := RF.ground Gp
  have nog : s.gens = #[] := Array.eq_empty_of_size_eq_zero (beq_iff_eq.mp hbare)
  obtain ⟨⟨vs, s₁⟩, laid⟩ := Option.isSome_iff_exists.mp (layAllW_isSome (P := w.params) (ord := ord) G.has args r.args s (pre_splitW hpre).1)
  have keeps := layAllW_keeps _ _ _ laid
  have rest := layAllW_rest _ _ _ laid
  obtain ⟨as, reads, into, older⟩ := reads_layAllW hord _ _ _ laid hlay s₁.heap (fun _ _ e => e)
  have L : Laid r.records w s s₁ args vs as := ⟨⟨ord, hord, laid⟩, reads, into, older, keeps, rest.1.trans nog, rest.2.2.1⟩
  have G₁ := G.keeps hXk keeps
  obtain ⟨a, o, pm, cd, doc, dV, kV, h1, _⟩ := G₁.fn hdef
  have h := call w s s₁ _ _ G₁ (hYk _ _ _ (hY w s y) keeps) a (defOf_name hdef ▸ h1) args vs as hpre hlay L (L.low G.low)
  have told : ∀ {res : Result} {s' : Shared}, GoodWG r.claim (classAt s.heap) (ExcName.means s.heap) args s₁ res s' → ((r.claim.Ends s args vs s₁ res s' ∧ s'.os = s.os ∧
      (r.writes = true → namesKept r.prog r.keeps s.heap s'.heap ∧ ∀ x ∈ r.records, ∀ a, classAt s.heap x.1 = some a → recordClass s'.heap a x.1 (x.2.map (·.1)) = true)) ∧ AllBare s'.gens) := fun g =>
    have z := g.laid (c := r.claim) f1 (List.isEmpty_iff.mp c4) (ident_freeW f2 f3 f4) L
    ⟨⟨z.1, z.2.1, fun q => ⟨namesKept_of ran hns _ keeps g.2.1.old, noTable hwr q⟩⟩, z.2.2⟩
  obtain ⟨n, res, s', s'', run, sched, same, ends, hos, kept⟩ := caller_ends (prog := r.prog) (w := w)
    (t := do match ← nsGet mainNs r.name with
      | some f => do ret (← PySem.call f vs)
      | none => unsupported "claim.caller:no-such-global") (s := s₁)
    (R := fun res s' => r.claim.Ends s args vs s₁ res s' ∧ s'.os = s.os ∧
      (r.writes = true → namesKept r.prog r.keeps s.heap s'.heap ∧ ∀ x ∈ r.records, ∀ a, classAt s.heap x.1 = some a → recordClass s'.heap a x.1 (x.2.map (·.1)) = true))
    (Shared.asleep_of_life rest.2.2.2 hz)
    (wpC_bind (wpC_nsGet G₁.T.g (by
      rw [h1]
      exact wpC_bind (wpC_mono h (fun v s' g => wpC_pure ⟨_, rfl, told g⟩) fun e s' g => told g))))
  obtain ⟨eh, _, _, eo, _⟩ := Shared.forget_eq same
  have ends := ends.congr eh
  rw [← eh] at kept
  rw [← eo] at hos
  have hlife : s'.heap.life = s.heap.life := (runN_life _ _ _ run).trans rest.2.2.2
  refine ⟨vs, s₁, laid, n, _, s', sched, ?_, (fun _ i x hx => by rw [nog] at hx; simp at hx), kept, by rw [hlife], Shared.rest_eq hos⟩
  rcases ends with ⟨v, rfl, d1, d2, d3, d4, d5⟩ | ⟨e, ob, cls, rfl, d1, d2, d3, d4, d5⟩
  · exact .inl ⟨v, rfl, d1, d2, d3, fun b o y _ => d4 b o y, d5⟩
  · exact .inr ⟨e, ob, cls, rfl, d1, d2, d3, d4, fun b o y _ => d5 b o y⟩

set_option maxRecDepth 100000 in
set_option maxHeartbeats 8000000 in
open_top hd for PySem.Challenge.rw_fh0008_01
theorem KK_low (w : World) : (hd.heap_39 w.params).all (fun p => Nat.blt p.1 515) = true := by kernel_rfl
theorem KK_lt (w : World) {b : Addr} {o : Obj} (h : (hd.heap_39 w.params).lookup b = some o) : b < 515 := by
  have := KK_low w
  generalize hd.heap_39 w.params = l at h this
  induction l with
  | nil => cases h
  | cons p r ih =>
    obtain ⟨a, x⟩ := p
    rw [List.all_cons, Bool.and_eq_true] at this
    rw [List.lookup_cons] at h
    split at h
    · rename_i e
      have : b = a := by simpa using e
      subst this
      exact Nat.le_of_ble_eq_true this.1
    · exact ih h this.2

/-- what is older stays: but for S, and frames (fs) up to their slots -/
structure Rel (S fs : List Addr) (h h' : Heap) : Prop where
  keep : ∀ b o, b ∉ S → b ∉ fs → h.get? b = some o → h'.get? b = some o
  frame : ∀ b o, b ∉ S → b ∈ fs → h.get? b = some o → ∃ sl, h'.get? b = some { o with slots := sl }

theorem Rel.refl (S fs : List Addr) (h : Heap) : Rel S fs h h := ⟨fun _ _ _ _ e => e, fun _ o _ _ e => ⟨o.slots, e⟩⟩
theorem Rel.trans {S fs : List Addr} {a b c : Heap} (x : Rel S fs a b) (y : Rel S fs b c) : Rel S fs a c where
  keep := fun p o n q e => y.keep p o n q (x.keep p o n q e)
  frame := fun p o n q e => by
    obtain ⟨sl, h1⟩ := x.frame p o n q e
    obtain ⟨sl', h2⟩ := y.frame p _ n q h1
    exact ⟨sl', h2⟩
theorem Rel.of_keeps {S fs : List Addr} {h h' : Heap} (k : ∀ b o, h.get? b = some o → h'.get? b = some o) : Rel S fs h h' :=
  ⟨fun b o _ _ e => k b o e, fun b o _ _ e => ⟨o.slots, k b o e⟩⟩
theorem Rel.any {S fs : List Addr} {h h' : Heap} (x : Rel S fs h h') {b : Addr} {o : Obj} (n : b ∉ S) (e : h.get? b = some o) : ∃ sl, h'.get? b = some { o with slots := sl } := by
  by_cases q : b ∈ fs
  · exact x.frame b o n q e
  · exact ⟨o.slots, x.keep b o n q e⟩
theorem Rel.ns {S fs : List Addr} {h h' : Heap} (x : Rel S fs h h') {a : Addr} {m : Str → Option Value} (hn : a ∉ S) (n : h.Ns a m) : h'.Ns a m := by
  obtain ⟨o, es, ep, ho, hd, r⟩ := n
  obtain ⟨sl, h1⟩ := x.any hn ho
  exact ⟨_, es, ep, h1, hd, r⟩
theorem Rel.mono {S S' fs fs' : List Addr} {h h' : Heap} (x : Rel S fs h h') (hS : ∀ a ∈ S, a ∈ S') (hf : ∀ a ∈ fs, a ∈ fs') : Rel S' fs' h h' where
  keep := fun b o n q e => x.keep b o (fun z => n (hS b z)) (fun z => q (hf b z)) e
  frame := fun b o n _ e => x.any (fun z => n (hS b z)) e
theorem Rel.none_of {fs : List Addr} {h h' : Heap} (x : Rel [] fs h h') {b : Addr} (e : h'.get? b = none) : h.get? b = none := by
  cases q : h.get? b with
  | none => rfl
  | some o => obtain ⟨sl, h1⟩ := x.any (fun z => nomatch z) q; rw [e] at h1; cases h1
theorem Rel.pure {S fs : List Addr} {h h' : Heap} (x : Rel [] [] h h') : Rel S fs h h' := x.mono (fun _ z => nomatch z) fun _ z => nomatch z

/-- but for the heap and the toks, the same -/
structure Same (s s' : Shared) : Prop where
  gens : s'.gens = s.gens
  os : s'.os = s.os
  drawn : s'.drawn = s.drawn
theorem Same.refl (s : Shared) : Same s s := ⟨rfl, rfl, rfl⟩
theorem Same.trans {a b c : Shared} (x : Same a b) (y : Same b c) : Same a c := ⟨y.gens.trans x.gens, y.os.trans x.os, y.drawn.trans x.drawn⟩
theorem Same.eq {s s' : Shared} (x : Same s s') : s' = { s with heap := s'.heap, toks := s'.toks } := by
  obtain ⟨h, g, d, t, o⟩ := s
  obtain ⟨h', g', d', t', o'⟩ := s'
  obtain ⟨rfl, rfl, rfl⟩ := x
  rfl
/-- what is known of the top -/
structure WF (w : World) (mg mb : Str → Option Value) (h : Heap) : Prop where
  X : (hd.heap_39 w.params).In h
  g : h.Ns mainGlobals mg
  b : h.Ns builtinsNs mb
  lim : h.NoLimit
  bi : ∀ x : Str, x ≠ "__name__" → mb x = bootBuiltins x
  nd : ∃ mc, h.Ns cStatics mc ∧ mc "sys.int_max_str_digits" = none

theorem WF.rel {w : World} {mg mb : Str → Option Value} {S fs : List Addr} {h h' : Heap} (W : WF w mg mb h) (x : Rel S fs h h') (low : ∀ a ∈ S ++ fs, 515 ≤ a) : WF w mg mb h' := by
  have n1 : ∀ a, a < 515 → a ∉ S := fun a z q => absurd (low a (List.mem_append_left _ q)) (Nat.not_le.mpr z)
  have n2 : ∀ a, a < 515 → a ∉ fs := fun a z q => absurd (low a (List.mem_append_right _ q)) (Nat.not_le.mpr z)
  refine ⟨fun a o e => x.keep a o (n1 a (KK_lt w e)) (n2 a (KK_lt w e)) (W.X a o e), x.ns (n1 _ (by decide)) W.g, x.ns (n1 _ (by decide)) W.b, ?_, W.bi, ?_⟩
  · obtain ⟨mc, h1, h2⟩ := W.lim
    exact ⟨mc, x.ns (n1 _ (by decide)) h1, h2⟩
  · obtain ⟨mc, h1, h2⟩ := W.nd
    exact ⟨mc, x.ns (n1 _ (by decide)) h1, h2⟩

/-- a call of a def: what it touches (S), the frames around it, the state at its start, its frame -/
structure Cx where
  S : List Addr
  fs : List Addr
  s₀ : Shared
  L : Addr

/-- the state within a call: loc what its names hold, news what is known of the objects at hand -/
structure St (C : Cx) (loc : List (Str × Value)) (news : List (Addr × Obj)) (s : Shared) : Prop where
  base : ∃ g m, Rel C.S C.fs C.s₀.heap g ∧ Fr g C.L s.heap m ∧ News g C.L s.heap news ∧ ∀ p ∈ loc, m p.1 = some p.2
  low : ∀ a ∈ C.S ++ C.fs, 515 ≤ a
  ge : C.s₀.heap.objs.size ≤ C.L
  keys : (loc.map (·.1)).Nodup
  ord : (news.map (·.1)).Nodup
  same : Same C.s₀ s

section
variable {C : Cx} {s : Shared} {loc : List (Str × Value)} {news : List (Addr × Obj)}

theorem St.toRel (D : St C loc news s) : Rel C.S C.fs C.s₀.heap s.heap := by
  obtain ⟨⟨g, m, x, F, N, lc⟩, _⟩ := D
  exact x.trans (Rel.of_keeps F.keep)
theorem St.get (D : St C loc news s) {a : Addr} {o : Obj} (h : (a, o) ∈ news) : s.heap.get? a = some o := by
  obtain ⟨⟨g, m, x, F, N, lc⟩, _⟩ := D
  exact (N _ h).1
theorem St.old (D : St C loc news s) {a : Addr} {o : Obj} (h : C.s₀.heap.get? a = some o) (q : a ∉ C.S) (q' : a ∉ C.fs) : s.heap.get? a = some o := D.toRel.keep a o q q' h
theorem St.local (D : St C loc news s) {x : Str} {v : Value} (h : (x, v) ∈ loc) : ∃ m, s.heap.Ns C.L m ∧ m x = some v := by
  obtain ⟨⟨g, m, y, F, N, lc⟩, _⟩ := D
  exact ⟨m, F.ns, lc _ h⟩
theorem St.wf {w : World} {mg mb : Str → Option Value} (D : St C loc news s) (W : WF w mg mb C.s₀.heap) : WF w mg mb s.heap := W.rel D.toRel D.low
/-- the heap alone counts -/
theorem St.toks (D : St C loc news s) {t : Nat} : St C loc news { s with toks := t } := ⟨D.base, D.low, D.ge, D.keys, D.ord, D.same.trans ⟨rfl, rfl, rfl⟩⟩
theorem St.lt (D : St C loc news s) {p : Addr × Obj} (hp : p ∈ news) : p.1 < s.heap.objs.size := Heap.lt_size (D.get (o := p.2) hp)
theorem St.push (D : St C loc news s) (o : Obj) (hf : o.isFreed = false := by rfl) : St C loc ((s.heap.objs.size, o) :: news) { s with heap := s.heap.push o } := by
  obtain ⟨⟨g, m, x, F, N, lc⟩, h0, hge, h1, h2, h3⟩ := id D
  refine ⟨⟨g, m, x, F.push o, N.push F o hf, lc⟩, h0, hge, h1, List.nodup_cons.mpr ⟨fun hb => ?_, h2⟩, h3.trans ⟨rfl, rfl, rfl⟩⟩
  obtain ⟨p, hp, e⟩ := List.mem_map.mp hb
  exact absurd (D.lt hp) (by rw [e]; exact Nat.lt_irrefl _)
/-- a piece of the ledger, anew -/
theorem St.set (D : St C loc news s) (i : Nat) {a : Addr} {o : Obj} {f : Obj → Obj} (hi : news[i]? = some (a, o)) (hf : (f o).isFreed = false) : St C loc (news.set i (a, f o)) { s with heap := s.heap.update a f } := by
  obtain ⟨⟨g, m, x, F, N, lc⟩, h0, hge, h1, h2, h3⟩ := id D
  have sp := pairwise_split hi
  have z := N (a, o) (List.mem_of_getElem? hi)
  have ho := z.1
  have hs : Heap.SameBut a s.heap (s.heap.update a f) := Heap.SameBut.update ..
  have ord' := h2
  rw [sp, List.map_append, List.map_cons] at ord'
  have q := List.nodup_append.mp ord'
  have p1 : ∀ p ∈ news.take i, p.1 ≠ a := fun p hp => q.2.2 p.1 (List.mem_map_of_mem hp) a (.head _)
  have p2 : ∀ p ∈ news.drop (i + 1), p.1 ≠ a := fun p hp e => (List.nodup_cons.mp q.2.1).1 (by have := List.mem_map_of_mem (f := (·.1)) hp; rwa [e] at this)
  have ge : (s.heap.update a f).get? a = some (f o) := Heap.get?_update_self f ho hf
  have e : news.set i (a, f o) = news.take i ++ (a, f o) :: news.drop (i + 1) := by
    obtain ⟨hl, _⟩ := List.getElem?_eq_some_iff.mp hi
    exact List.set_eq_take_append_cons_drop.trans (if_pos hl)
  have N' := N
  rw [sp] at N'
  refine ⟨⟨g, m, x, F.change hs z.2.1 z.2.2, ?_, lc⟩, h0, hge, h1, ?_, h3.trans ⟨rfl, rfl, rfl⟩⟩
  · rw [e]; exact news_set N' p1 p2 hs ge
  · rw [e, List.map_append, List.map_cons]; exact ord'
/-- the part g of a heap, as it lies in another -/
def regrown (g h : Heap) : Heap := ⟨g.objs.mapIdx fun i o => if (g.get? i).isSome then (h.objs[i]?).getD o else o, h.life⟩
theorem regrown_size (g h : Heap) : (regrown g h).objs.size = g.objs.size := by simp [regrown]
theorem regrown_at (g h : Heap) (b : Addr) : (regrown g h).objs[b]? = (g.objs[b]?).map fun o => if (g.get? b).isSome then (h.objs[b]?).getD o else o := by
  simp [regrown, Array.getElem?_mapIdx]
theorem regrown_none {g h : Heap} {b : Addr} (e : g.get? b = none) : (regrown g h).get? b = none := by
  have e1 : (regrown g h).objs[b]? = g.objs[b]? := by
    rw [regrown_at, e]; simp
  unfold Heap.get? at e ⊢
  rw [e1]; exact e
theorem regrown_some {g h : Heap} {b : Addr} {o o' : Obj} (e : g.get? b = some o) (e' : h.get? b = some o') : (regrown g h).get? b = some o' := by
  obtain ⟨a1, a2⟩ := Heap.get?_some_iff.mp e
  obtain ⟨b1, b2⟩ := Heap.get?_some_iff.mp e'
  refine Heap.get?_some_iff.mpr ⟨?_, b2⟩
  rw [regrown_at, a1, e, b1]; simp
theorem regrown_inv {g h : Heap} {b : Addr} {o' : Obj} (k : ∀ b o, g.get? b = some o → ∃ o', h.get? b = some o') (e : (regrown g h).get? b = some o') : ∃ o, g.get? b = some o ∧ h.get? b = some o' := by
  cases q : g.get? b with
  | none => rw [regrown_none q] at e; cases e
  | some o =>
    obtain ⟨x, hx⟩ := k b o q
    rw [regrown_some q hx] at e
    cases e
    exact ⟨o, rfl, hx⟩
/-- behind a call that touches S', all of it at hand: what is then known, with what the call has made (fr) -/
theorem St.after (D : St C loc news s) {s' : Shared} {S' : List Addr} (x : Rel S' (C.L :: C.fs) s.heap s'.heap) (hS : ∀ a ∈ S', a ∈ news.map (·.1)) (hg : Same s s')
    (fr news' : List (Addr × Obj)) (ha : news'.map (·.1) = news.map (·.1)) (hn : ∀ p ∈ fr ++ news', s'.heap.get? p.1 = some p.2) (hf : (fr.map (·.1)).Nodup) (hz : ∀ p ∈ fr, s.heap.get? p.1 = none) : St C loc (fr ++ news') s' := by
  obtain ⟨⟨g, m, y, F, N, lc⟩, h0, hge, h1, h2, h3⟩ := id D
  have gS : ∀ b o, g.get? b = some o → b ∉ S' := fun b o e q => by
    obtain ⟨p, hp, rfl⟩ := List.mem_map.mp (hS b q)
    rw [(N p hp).2.2] at e; cases e
  have gL : ∀ b o, g.get? b = some o → b ≠ C.L := fun b o e q => by
    subst q; exact absurd (Nat.lt_of_lt_of_le (Heap.lt_size e) F.above) (Nat.lt_irrefl _)
  have LS : C.L ∉ S' := fun q => by
    obtain ⟨p, hp, e⟩ := List.mem_map.mp (hS _ q)
    exact (N p hp).2.1 e
  have k : ∀ b o, g.get? b = some o → ∃ o', s'.heap.get? b = some o' := fun b o e => by
    obtain ⟨sl, q⟩ := x.any (gS b o e) (F.keep b o e); exact ⟨_, q⟩
  have kk : ∀ b o, g.get? b = some o → b ∉ C.fs → s'.heap.get? b = some o := fun b o e q => x.keep b o (gS b o e) (fun z => by
    rcases List.mem_cons.mp z with z | z
    · exact gL b o e z
    · exact q z) (F.keep b o e)
  refine ⟨⟨regrown g s'.heap, m, ⟨fun b o n q e => ?_, fun b o n q e => ?_⟩, ⟨x.ns LS F.ns, fun b o e => ?_, ?_⟩, fun p hp => ⟨hn p hp, ?_⟩, lc⟩, h0, hge, h1, ?_, h3.trans hg⟩
  · have q1 := y.keep b o n q e
    exact regrown_some q1 (kk b o q1 q)
  · obtain ⟨sl, q1⟩ := y.frame b o n q e
    obtain ⟨sl', q2⟩ := x.any (gS b _ q1) (F.keep b _ q1)
    exact ⟨sl', regrown_some q1 q2⟩
  · obtain ⟨_, _, q⟩ := regrown_inv k e; exact q
  · rw [regrown_size]; exact F.above
  · rcases List.mem_append.mp hp with hp | hp
    · have hb := hz p hp
      refine ⟨fun e => ?_, regrown_none ?_⟩
      · obtain ⟨oL, _, _, hL, _⟩ := F.ns
        rw [e, hL] at hb; cases hb
      · cases q : g.get? p.1 with
        | none => rfl
        | some o => have := F.keep _ _ q; rw [hb] at this; cases this
    · have : p.1 ∈ news.map (·.1) := ha ▸ List.mem_map_of_mem hp
      obtain ⟨p', hp', e⟩ := List.mem_map.mp this
      exact ⟨e ▸ (N p' hp').2.1, regrown_none (e ▸ (N p' hp').2.2)⟩
  · rw [List.map_append, ha]
    refine List.nodup_append.mpr ⟨hf, h2, fun a ha' b hb e => ?_⟩
    obtain ⟨p, hp, rfl⟩ := List.mem_map.mp ha'
    obtain ⟨p', hp', rfl⟩ := List.mem_map.mp hb
    have := hz p hp
    rw [e, D.get (o := p'.2) hp'] at this; cases this
/-- behind a call that touches nothing -/
theorem St.call (D : St C loc news s) {s' : Shared} {fs : List Addr} (x : Rel [] fs s.heap s'.heap) (hfs : ∀ a ∈ fs, a ∈ C.fs) (hn : ∀ p ∈ news, p.1 ∉ fs) (hg : Same s s') : St C loc news s' :=
  D.after (x.mono (fun _ z => z) fun a z => List.mem_cons_of_mem _ (hfs a z)) (fun _ z => nomatch z) hg [] news rfl (fun p hp => x.keep _ _ (fun z => nomatch z) (hn p hp) (D.get (o := p.2) hp)) List.nodup_nil (fun _ z => nomatch z)
theorem St.pureCall (D : St C loc news s) {s' : Shared} (x : Rel [] [] s.heap s'.heap) (hg : Same s s') : St C loc news s' :=
  D.call x (fun _ z => nomatch z) (fun _ _ z => nomatch z) hg
theorem St.pureNew (D : St C loc news s) {s' : Shared} (x : Rel [] [] s.heap s'.heap) (hg : Same s s') {a : Addr} {o : Obj} (ha : s'.heap.get? a = some o) (hz : s.heap.get? a = none) : St C loc ((a, o) :: news) s' :=
  D.after (x.mono (fun _ z => z) (fun _ z => nomatch z)) (fun _ z => nomatch z) hg [(a, o)] news rfl (fun p hp => by
    rcases List.mem_cons.mp hp with rfl | hp
    · exact ha
    · exact x.keep _ _ (fun z => nomatch z) (fun z => nomatch z) (D.get (o := p.2) hp)) (by simp) (fun p hp => by
    rcases List.mem_cons.mp hp with rfl | hp
    · exact hz
    · exact nomatch hp)
theorem St.locs (D : St C loc news s) {loc' : List (Str × Value)} (h : ∀ p ∈ loc', p ∈ loc) (hk' : decide ((loc'.map (·.1)).Nodup) = true) : St C loc' news s := by
  have hk := of_decide_eq_true hk'
  obtain ⟨⟨g, m, y, F, N, lc⟩, h0, hge, h1, h2, h3⟩ := D
  exact ⟨⟨g, m, y, F, N, fun p hp => lc p (h p hp)⟩, h0, hge, hk, h2, h3⟩
theorem St.drop (D : St C loc news s) {news' : List (Addr × Obj)} (h : news'.Sublist news) : St C loc news' s := by
  obtain ⟨⟨g, m, y, F, N, lc⟩, h0, hge, h1, h2, h3⟩ := D
  exact ⟨⟨g, m, y, F, fun p hp => N p (h.subset hp), lc⟩, h0, hge, h1, h2.sublist (h.map _), h3⟩
theorem St.fresh (D : St C loc news s) : C.s₀.heap.objs.size ≤ C.L ∧ C.L < s.heap.objs.size := by
  obtain ⟨⟨g, m, x, F, N, lc⟩, _, hge, _⟩ := D
  exact ⟨hge, F.ns.lt⟩
theorem St.noL (D : St C loc news s) {p : Addr × Obj} (hp : p ∈ news) : p.1 ≠ C.L := by
  obtain ⟨⟨g, m, x, F, N, lc⟩, _⟩ := D
  exact (N p hp).2.1
end

/-- a text by its signs -/
def T (l : List Nat) : Str := ⟨l.toArray⟩
theorem T_len (l : List Nat) : (T l).length = l.length := by simp [T, Str.length]
theorem T_app (a b : List Nat) : T a ++ T b = T (a ++ b) := by
  show Str.append (T a) (T b) = _
  simp [Str.append, T]
theorem T_inj {a b : List Nat} (h : T a = T b) : a = b := by
  have := congrArg (fun x : Str => x.cps.toList) h
  simpa [T] using this
theorem T_list (l : List Nat) : (T l).cps.toList = l := by simp [T]
theorem T_of (x : Str) : x = T x.cps.toList := by cases x; simp [T]
theorem T_beq (a b : List Nat) : (T a == T b) = decide (a = b) := by
  by_cases h : a = b
  · subst h; simp
  · rw [decide_eq_false h]
    refine beq_eq_false_iff_ne.mpr fun e => h (T_inj e)
def hexD (d : Nat) : Nat := if d < 10 then 48 + d else 87 + d
def hexL (n : Nat) : List Nat := if n < 16 then [hexD n] else hexL (n / 16) ++ [hexD (n % 16)]
/-- x is held -/
inductive Has (x : Str) (v : Value) : List (Str × Value) → Prop
  | here {r : List (Str × Value)} : Has x v ((x, v) :: r)
  | there {p : Str × Value} {r : List (Str × Value)} : Has x v r → Has x v (p :: r)
theorem Has.mem {x : Str} {v : Value} {l : List (Str × Value)} (h : Has x v l) : (x, v) ∈ l := by
  induction h with
  | here => exact .head _
  | there _ ih => exact .tail _ ih
theorem Has.of_mem {x : Str} {v : Value} : ∀ {l : List (Str × Value)}, (x, v) ∈ l → Has x v l
  | _ :: _, .head _ => .here
  | _ :: _, .tail _ h => .there (Has.of_mem h)
/-- each of l' is held -/
inductive AllIn (l : List (Str × Value)) : List (Str × Value) → Prop
  | nil : AllIn l []
  | cons {x : Str} {v : Value} {r : List (Str × Value)} : Has x v l → AllIn l r → AllIn l ((x, v) :: r)
theorem AllIn.mem {l l' : List (Str × Value)} (h : AllIn l l') : ∀ p ∈ l', p ∈ l := by
  induction h with
  | nil => exact fun _ hp => nomatch hp
  | cons h _ ih =>
    intro p hp
    rcases List.mem_cons.mp hp with rfl | hp
    · exact h.mem
    · exact ih p hp
theorem St.to {C : Cx} {s : Shared} {loc loc' : List (Str × Value)} {news : List (Addr × Obj)} (D : St C loc news s) (h : AllIn loc loc') (hk : decide ((loc'.map (·.1)).Nodup) = true) : St C loc' news s := D.locs h.mem hk
/-- x is held anew -/
inductive Put (x : Str) (v : Value) : List (Str × Value) → List (Str × Value) → Prop
  | here {o : Value} {r : List (Str × Value)} : Put x v ((x, o) :: r) ((x, v) :: r)
  | there {p : Str × Value} {r r' : List (Str × Value)} : Put x v r r' → Put x v (p :: r) (p :: r')
theorem Put.keys {x : Str} {v : Value} {l l' : List (Str × Value)} (h : Put x v l l') : l'.map (·.1) = l.map (·.1) := by
  induction h with
  | here => rfl
  | there _ ih => rw [List.map_cons, List.map_cons, ih]
theorem Put.mem {x : Str} {v : Value} {l l' : List (Str × Value)} (h : Put x v l l') (hk : (l.map (·.1)).Nodup) : ∀ p ∈ l', p = (x, v) ∨ (p ∈ l ∧ p.1 ≠ x) := by
  induction h with
  | @here o r =>
    intro p hp
    rw [List.map_cons, List.nodup_cons] at hk
    rcases List.mem_cons.mp hp with rfl | hp
    · exact .inl rfl
    · exact .inr ⟨.tail _ hp, fun e => hk.1 (by have := List.mem_map_of_mem (f := (·.1)) hp; rwa [e] at this)⟩
  | @there q r r' h ih =>
    intro p hp
    rw [List.map_cons, List.nodup_cons] at hk
    rcases List.mem_cons.mp hp with rfl | hp
    · refine .inr ⟨.head _, fun e => hk.1 ?_⟩
      rw [← h.keys, e]
      clear ih hk hp e
      induction h with
      | here => exact .head _
      | there _ ih => exact .tail _ ih
    · rcases ih hk.2 p hp with e | ⟨a, b⟩
      · exact .inl e
      · exact .inr ⟨.tail _ a, b⟩

def okLocal (sc : Scope) (x : Str) : Bool := sc.kind == .function && sc.names.lookup x == some .local && !(x == ("__debug__" : Str))
def okGlobal (sc : Scope) (x : Str) : Bool := sc.kind == .function && sc.names.lookup x == some .globalImplicit && !(x == ("__debug__" : Str))
def okCell (sc : Scope) (x : Str) : Bool := sc.kind == .function && sc.names.lookup x == some .cell && !(x == ("__debug__" : Str))
/-- the environment of a def's frame L -/
structure EnvAt (env : Env) (L : Addr) : Prop where
  loc : env.locals = L
/-- the globals and the builtins -/
structure EnvIn (env : Env) : Prop where
  glob : env.globals = mainGlobals
  bi : env.builtins = builtinsNs
abbrev cellOf (v : Value) : Obj := { cls := .type "cell", data := .cell (some v) }
/-- an object that holds names -/
def NsObj (o : Obj) (m : Str → Option Value) : Prop := ∃ es ep, o.data = .dict es ep ∧ StrKeys es ∧ ∀ name, nsFind es name = m name
theorem NsObj.ns {h : Heap} {a : Addr} {o : Obj} {m : Str → Option Value} (x : NsObj o m) (e : h.get? a = some o) : h.Ns a m := let ⟨es, ep, hd, r⟩ := x; ⟨o, es, ep, e, hd, r⟩
theorem ns_obj {h : Heap} {a : Addr} {m : Str → Option Value} (x : h.Ns a m) : ∃ o, h.get? a = some o ∧ NsObj o m := let ⟨o, es, ep, e, hd, r⟩ := x; ⟨o, e, es, ep, hd, r⟩
theorem okLocal_parts {sc : Scope} {x : Str} (h : okLocal sc x = true) : sc.kind = .function ∧ sc.names.lookup x = some .local ∧ (x == ("__debug__" : Str)) = false := by
  unfold okLocal at h
  simp only [Bool.and_eq_true, beq_iff_eq, Bool.not_eq_true'] at h
  exact ⟨h.1.1, h.1.2, h.2⟩
theorem okGlobal_parts {sc : Scope} {x : Str} (h : okGlobal sc x = true) : sc.kind = .function ∧ sc.names.lookup x = some .globalImplicit ∧ (x == ("__debug__" : Str)) = false := by
  unfold okGlobal at h
  simp only [Bool.and_eq_true, beq_iff_eq, Bool.not_eq_true'] at h
  exact ⟨h.1.1, h.1.2, h.2⟩

section
variable {prog : Program} {w : World} {A : Around} {E : Value → Shared → Prop} {C : Cx} {s : Shared} {a : Addr} {mg mb : Str → Option Value} {loc loc' : List (Str × Value)} {news : List (Addr × Obj)} {name : Str} {scope : Scope} {cd : Value}

theorem r_local {env : Env} {x : Str} {pos : Pos} {v : Value} {Q : Value → Shared → Prop} (D : St C loc news s) (hL : EnvAt env C.L) (hc : okLocal env.scope x = true) (hv : Has x v loc) (h : Q v s) :
    wpAny (model prog w) A (eval (.Name x pos) env) Q E s := by
  obtain ⟨m, n, e⟩ := D.local hv.mem
  obtain ⟨h1, h2, h3⟩ := okLocal_parts hc
  exact wpAny_Name (wpAny_loadName_local h1 h2 (hL.loc ▸ n) e h) h3
theorem r_loadName {env : Env} {x : Str} {v : Value} {Q : Value → Shared → Prop} (D : St C loc news s) (hL : EnvAt env C.L) (hc : okLocal env.scope x = true) (hv : Has x v loc) (h : Q v s) :
    wpAny (model prog w) A (loadName env x) Q E s := by
  obtain ⟨m, n, e⟩ := D.local hv.mem
  obtain ⟨h1, h2, h3⟩ := okLocal_parts hc
  exact wpAny_loadName_local h1 h2 (hL.loc ▸ n) e h
theorem r_global {env : Env} {x : Str} {pos : Pos} {v : Value} {Q : Value → Shared → Prop} (D : St C loc news s) (W : WF w mg mb C.s₀.heap) (hG : EnvIn env) (hc : okGlobal env.scope x = true) (e : nsIn (hd.heap_39 w.params) mainGlobals x = some (some v)) (h : Q v s) :
    wpAny (model prog w) A (eval (.Name x pos) env) Q E s := by
  obtain ⟨h1, h2, h3⟩ := okGlobal_parts hc
  exact Name_function_global h1 h2 (loadGlobal_global (hG.glob ▸ (D.wf W).g) (mg_of (D.wf W).X (D.wf W).g e) h) h3
theorem r_builtin {env : Env} {x : Str} {pos : Pos} {v : Value} {Q : Value → Shared → Prop} (D : St C loc news s) (W : WF w mg mb C.s₀.heap) (hG : EnvIn env) (hc : okGlobal env.scope x = true) (e : nsIn (hd.heap_39 w.params) mainGlobals x = some none) (hv : bootBuiltins x = some v) (hn : (x == ("__name__" : Str)) = false) (h : Q v s) :
    wpAny (model prog w) A (eval (.Name x pos) env) Q E s := by
  obtain ⟨h1, h2, h3⟩ := okGlobal_parts hc
  exact Name_function_global h1 h2 (loadGlobal_builtin (hG.glob ▸ (D.wf W).g) (mg_none_of (D.wf W).X (D.wf W).g e) (hG.bi ▸ (D.wf W).b) ((W.bi x (beq_eq_false_iff_ne.mp hn)).trans hv) h) h3
/-- a name of a cell at hand -/
theorem r_cell {env : Env} {x : Str} {pos : Pos} {v : Value} {c : Addr} {Q : Value → Shared → Prop} (D : St C loc news s) (hc : okCell env.scope x = true) (hl : env.cells.lookup x = some c) (hm : (c, cellOf v) ∈ news) (h : Q v s) :
    wpAny (model prog w) A (eval (.Name x pos) env) Q E s := by
  unfold okCell at hc
  simp only [Bool.and_eq_true, beq_iff_eq, Bool.not_eq_true'] at hc
  exact wpAny_Name (wpAny_loadName_cell hc.1.1 hc.1.2 hl ⟨_, D.get hm, rfl⟩ h) hc.2
/-- a name of a comprehension's own -/
theorem r_own {env : Env} {x : Str} {pos : Pos} {v : Value} {c : Addr} {o : Obj} {m : Str → Option Value} {Q : Value → Shared → Prop} (D : St C loc news s) (hl : env.locals = c) (hc : okLocal env.scope x = true) (hm : (c, o) ∈ news) (ho : NsObj o m) (hx : m x = some v) (h : Q v s) :
    wpAny (model prog w) A (eval (.Name x pos) env) Q E s := by
  obtain ⟨h1, h2, h3⟩ := okLocal_parts hc
  exact wpAny_Name (wpAny_loadName_local h1 h2 (hl ▸ ho.ns (D.get hm)) hx h) h3
theorem r_store_any {env : Env} {x : Str} {v : Value} {Q : Unit → Shared → Prop} (D : St C loc news s) (hL : EnvAt env C.L) (hc : okLocal env.scope x = true) (h : ∀ s', (∃ (g : Heap) (m : Str → Option Value), Rel C.S C.fs C.s₀.heap g ∧ Fr g C.L s'.heap (fun y => if y = x then some v else m y) ∧ News g C.L s'.heap news ∧ ∀ p ∈ loc, m p.1 = some p.2) → Same s s' → Q () s') :
    wpAny (model prog w) A (storeName env x v) Q E s := by
  obtain ⟨⟨g, m, y, F, N, lc⟩, h0, hge, h1, h2, h3⟩ := D
  obtain ⟨k1, k2, _⟩ := okLocal_parts hc
  refine wpAny_storeName_local k2 (hL.loc ▸ F.ns) (fun h' hn hs => h _ ⟨g, m, y, F.set (hL.loc ▸ hn) (hL.loc ▸ hs), N.set (hL.loc ▸ hs), lc⟩ ⟨rfl, rfl, rfl⟩) ?_
  rw [k1]; rfl
theorem r_store {env : Env} {x : Str} {v : Value} {Q : Unit → Shared → Prop} (D : St C loc news s) (hL : EnvAt env C.L) (hc : okLocal env.scope x = true) (hp : Put x v loc loc') (h : ∀ s', St C loc' news s' → Q () s') :
    wpAny (model prog w) A (storeName env x v) Q E s :=
  r_store_any D hL hc fun s' ⟨g, m, y, F', N', lc⟩ e1 => h s' ⟨⟨g, _, y, F', N', fun p hm => by
    rcases hp.mem D.keys p hm with rfl | ⟨q1, q2⟩
    · exact if_pos rfl
    · exact (if_neg q2).trans (lc p q1)⟩, D.low, D.ge, by rw [hp.keys]; exact D.keys, D.ord, D.same.trans e1⟩
theorem r_storeN {env : Env} {x : Str} {v : Value} {Q : Unit → Shared → Prop} (D : St C loc news s) (hL : EnvAt env C.L) (hc : okLocal env.scope x = true) (hp : (loc.map (·.1)).contains x = false) (h : ∀ s', St C ((x, v) :: loc) news s' → Q () s') :
    wpAny (model prog w) A (storeName env x v) Q E s := by
  have hn : x ∉ loc.map (·.1) := fun q => by
    have := List.contains_iff_mem.mpr q
    rw [hp] at this; cases this
  exact r_store_any D hL hc fun s' ⟨g, m, y, F', N', lc⟩ e1 => h s' ⟨⟨g, _, y, F', N', fun p hm => by
    rcases List.mem_cons.mp hm with rfl | hm
    · exact if_pos rfl
    · exact (if_neg fun (q : p.1 = x) => hn (by have := List.mem_map_of_mem (f := (·.1)) hm; rwa [q] at this)).trans (lc p hm)⟩, D.low, D.ge, by rw [List.map_cons, List.nodup_cons]; exact ⟨hn, D.keys⟩, D.ord, D.same.trans e1⟩
theorem r_int {env : Env} {i : Int} {k : Nat} {pos : Pos} {Q : Value → Shared → Prop} (D : St C loc news s) (h : ∀ s' t, St C loc news s' → Q (.int i t) s') : wpAny (model prog w) A (eval (.Constant (.int i) k pos) env) Q E s :=
  wpAny_Constant_int (h _ _ D.toks)
theorem r_str {env : Env} {x : Str} {k : Nat} {pos : Pos} {Q : Value → Shared → Prop} (D : St C loc news s) (h : ∀ s' t, St C loc news s' → Q (.str x t) s') : wpAny (model prog w) A (eval (.Constant (.str x) k pos) env) Q E s :=
  Constant_str (h _ _ D.toks)
theorem r_strL {env : Env} {x : Str} {l : List Nat} {k : Nat} {pos : Pos} {Q : Value → Shared → Prop} (D : St C loc news s) (hx : x = T l) (h : ∀ s' t, St C loc news s' → Q (.str (T l) t) s') : wpAny (model prog w) A (eval (.Constant (.str x) k pos) env) Q E s := by
  subst hx; exact Constant_str (h _ _ D.toks)
theorem r_cbool {env : Env} {b : Bool} {k : Nat} {pos : Pos} {Q : Value → Shared → Prop} (h : Q (.bool b) s) : wpAny (model prog w) A (eval (.Constant (.bool b) k pos) env) Q E s := wpAny_Constant_bool h
theorem r_cnone {env : Env} {k : Nat} {pos : Pos} {Q : Value → Shared → Prop} (h : Q .none s) : wpAny (model prog w) A (eval (.Constant .none k pos) env) Q E s := wpAny_Constant_none h
theorem lit0 : Str.ofString "" = T [] := by kernel_rfl
theorem lit1 : Str.ofString ":" = T [58] := by kernel_rfl
theorem lit2 : Str.ofString "::" = T [58, 58] := by kernel_rfl
theorem lit3 : Str.ofString "0" = T [48] := by kernel_rfl
theorem lit4 : Str.ofString "1" = T [49] := by kernel_rfl
theorem lit5 : Str.ofString "000" = T [48, 48, 48] := by kernel_rfl
theorem lit6 : Str.ofString "g" = T [103] := by kernel_rfl
theorem lit7 : Str.ofString ":1" = T [58, 49] := by kernel_rfl
theorem lit8 : Str.ofString "." = T [46] := by kernel_rfl
theorem lit9 : Str.ofString ".1" = T [46, 49] := by kernel_rfl
theorem lit10 : Str.ofString "256." = T [50, 53, 54, 46] := by kernel_rfl
theorem lit11 : Str.ofString "x." = T [120, 46] := by kernel_rfl
theorem lit12 : Str.ofString "left" = T [108, 101, 102, 116] := by kernel_rfl
theorem lit13 : Str.ofString "right" = T [114, 105, 103, 104, 116] := by kernel_rfl
theorem lit14 : Str.ofString "__" = T [95, 95] := by kernel_rfl
theorem r_add {x y : Int} {t u : Tok} {Q : Value → Shared → Prop} (D : St C loc news s) (h : ∀ s' t, St C loc news s' → Q (.int (x + y) t) s') : wpAny (model prog w) A (binaryOp .Add (.int x t) (.int y u)) Q E s := PyProof.Rows.add_int (h _ _ D.toks)
theorem r_sub {x y : Int} {t u : Tok} {Q : Value → Shared → Prop} (D : St C loc news s) (h : ∀ s' t, St C loc news s' → Q (.int (x - y) t) s') : wpAny (model prog w) A (binaryOp .Sub (.int x t) (.int y u)) Q E s := PyProof.Rows.sub_int (h _ _ D.toks)
theorem r_mod {x y : Int} {t u : Tok} {Q : Value → Shared → Prop} (D : St C loc news s) (hy : 0 < y) (h : ∀ s' t, St C loc news s' → Q (.int (x % y) t) s') : wpAny (model prog w) A (binaryOp .Mod (.int x t) (.int y u)) Q E s := by
  refine PyProof.Rows.mod_int (by omega) ?_
  rw [Int.fmod_eq_emod_of_nonneg _ (by omega)]
  exact h _ _ D.toks
theorem r_fdiv {x y : Int} {t u : Tok} {Q : Value → Shared → Prop} (D : St C loc news s) (hy : 0 < y) (hy2 : y < 1073741824) (h : ∀ s' t, St C loc news s' → Q (.int (x / y) t) s') : wpAny (model prog w) A (binaryOp .FloorDiv (.int x t) (.int y u)) Q E s := by
  refine PyProof.Rows.floordiv_int (by omega) ?_ (.inl (PyProof.noPylong_small (by omega)))
  rw [Int.fdiv_eq_ediv_of_nonneg _ (by omega)]
  exact h _ _ D.toks
theorem r_addstr {x y : Str} {t u : Tok} {Q : Value → Shared → Prop} (D : St C loc news s) (hz : x.length + y.length ≤ sizeLine) (h : ∀ s' t, St C loc news s' → Q (.str (x ++ y) t) s') : wpAny (model prog w) A (binaryOp .Add (.str x t) (.str y u)) Q E s := PyProof.Rows.add_str (fun _ _ => h _ _ D.toks) hz
theorem r_truthy_str {x : Str} {t : Tok} {Q : Bool → Shared → Prop} (D : St C loc news s) (hz : (x.length : Int) < 2 ^ 63) (h : ∀ s', St C loc news s' → Q ((x.length : Int) != 0) s') : wpAny (model prog w) A (truthy (.str x t)) Q E s := PySem.P.truthy_str (by omega) (h _ D.toks)

theorem r_stritem {x : Str} {t u : Tok} {i : Int} {value slice : Expr} {Q : Value → Shared → Prop} (D : St C loc news s) (h1 : 0 ≤ i) (h2 : i < x.length) (hz : x.length ≤ 16777216) (h : ∀ s' t, St C loc news s' → Q (.str (Txt.item x i) t) s')
    (hs : subscripted slice false (.str x t) (.int i u) = operate [.str x t, .int i u] (getItem (.str x t) (.int i u)) := by with_unfolding_all rfl)
    (ht : ∀ r, letTemporaryGo value (.str x t) r = pure () := by intro _; with_unfolding_all rfl) : wpAny (model prog w) A (subscriptTail value slice (.str x t) (.int i u)) Q E s :=
  PyProof.Rows.item_str (fitsSsize_of (N := 9223372036854775808) (by omega) (by omega) (Int.le_refl _)) (by omega) h2 (fun _ => h _ _ D.toks) hs ht

theorem r_addT {x y : List Nat} {t u : Tok} {Q : Value → Shared → Prop} (D : St C loc news s) (hz : x.length + y.length ≤ 16777216) (h : ∀ s' t, St C loc news s' → Q (.str (T (x ++ y)) t) s') : wpAny (model prog w) A (binaryOp .Add (.str (T x) t) (.str (T y) u)) Q E s :=
  r_addstr D (by rw [T_len, T_len, sizeLine_eq]; exact hz) (by rw [T_app]; exact h)

theorem r_truthyT {x : List Nat} {t : Tok} {Q : Bool → Shared → Prop} (D : St C loc news s) (hz : x.length ≤ 16777216) (h : ∀ s', St C loc news s' → Q (!x.isEmpty) s') : wpAny (model prog w) A (truthy (.str (T x) t)) Q E s := by
  refine r_truthy_str D (by rw [T_len]; omega) fun s' D' => ?_
  have e : (((T x).length : Int) != 0) = !x.isEmpty := by rw [T_len]; cases x <;> simp; omega
  rw [e]; exact h s' D'

theorem while_ {test : Expr} {body : List Stmt} {pos : Pos} {env : Env} {Q : Flow → Shared → Prop} (I : Nat → Shared → Prop)
    (turn : ∀ n s, I n s → wpAny (model prog w) A (isTrue test env (eval test env)) (fun b s₂ => if b = true then wpAny (model prog w) A (execs body env) (fun f s₃ => match f with
      | .next | .cont => ∃ k, k < n ∧ I k s₃ | .brk => Q .next s₃ | .ret v => Q (.ret v) s₃) (fun _ _ => False) s₂ else Q .next s₂) (fun _ _ => False) s)
    (n : Nat) (h : I n s) : wpAny (model prog w) A (exec (.While test body [] pos) env) Q E s := by
  refine wpAny_While (codeAny_whileLoop I (fun n s hI => wpAny_mono (turn n s hI) (fun b s₂ h₂ => ?_) fun _ _ x => x.elim) n h)
  cases b with
  | true =>
    simp only [if_true] at h₂ ⊢
    refine wpAny_mono h₂ (fun f s₃ h₃ => ?_) fun _ _ x => x.elim
    cases f <;> exact h₃
  | false =>
    simp only [Bool.false_eq_true, if_false] at h₂ ⊢
    exact wpAny_execs_nil h₂

theorem seq_ {st : Stmt} {rest : List Stmt} {env : Env} {Q : Flow → Shared → Prop} (P : Shared → Prop) (h1 : wpAny (model prog w) A (exec st env) (fun f s' => f = .next ∧ P s') (fun _ _ => False) s) (h2 : ∀ s', P s' → wpAny (model prog w) A (execs rest env) Q E s') : wpAny (model prog w) A (execs (st :: rest) env) Q E s :=
  wpAny_execs_cons (wpAny_mono h1 (fun f s' h => by obtain ⟨rfl, hp⟩ := h; exact h2 s' hp) fun _ _ x => x.elim)
def okDef (sc : Scope) (names : List Str) : Bool := !sc.isCoroutine && !sc.isGenerator && sc.kind == .function && sc.names.all (fun x => x.2 != .cell) && names.all (fun x => sc.names.lookup x == some .local) && decide names.Nodup
theorem lookup_rev {binds : List (Str × Value)} (hn : (binds.map (·.1)).Nodup) : ∀ p ∈ binds, binds.reverse.lookup p.1 = some p.2 := by
  induction binds with
  | nil => exact fun _ hp => nomatch hp
  | cons q r ih =>
    obtain ⟨x, v⟩ := q
    rw [List.map_cons, List.nodup_cons] at hn
    intro p hp
    rw [List.reverse_cons, List.lookup_append]
    rcases List.mem_cons.mp hp with rfl | hp
    · have : r.reverse.lookup x = none := by
        rw [List.lookup_eq_none_iff]
        intro p hp
        have : p.1 ≠ x := fun e => hn.1 (by have := List.mem_map_of_mem (f := (·.1)) (List.mem_reverse.mp hp); rwa [e] at this)
        exact bne_iff_ne.mpr (Ne.symm this)
      rw [this]; simp
    · rw [ih hn.2 p hp]; rfl
/-- a def of the text is entered: S what it may touch (at hand: news), fs the frames around it; s₁ the state once the arguments are bound, ledger news₁ -/
theorem enterC {R : Result → Shared → Prop} {f : Addr} {nm qual : Str} {params : Arguments} {body : List Stmt} {sc : Scope} {dV kV doc pm cdv ct oc : Value} {an od : Option Addr} {osl : Array (Option Value)} {vs : List Value} (S fs : List Addr) (news₁ : List (Addr × Obj)) (s₁ : Shared) (binds : List (Str × Value))
    (W : WF w mg mb s.heap) (hroom : A.depth < 1000) (low : ∀ a ∈ S ++ fs, 515 ≤ a) (hb₁ : ∀ b o, s.heap.get? b = some o → s₁.heap.get? b = some o) (hsz : s.heap.objs.size ≤ s₁.heap.objs.size) (hsame : Same s s₁)
    (hS : ∀ p ∈ news₁, (p.1 ∈ S ∨ s.heap.get? p.1 = none) ∧ s₁.heap.get? p.1 = some p.2) (hord : (news₁.map (·.1)).Nodup)
    (ho : (hd.heap_39 w.params).lookup f = some ⟨oc, od, .func (fnOf nm qual params body sc dV kV doc pm an cdv ct), osl⟩) (hcd : codeIn (hd.heap_39 w.params) cdv qual = true)
    (hbind : ∀ (M : Model) (A : Around) (E : Value → Shared → Prop) (Q : List (Str × Value) → Shared → Prop), Q binds s₁ → wpAny M A (bindArgs (fnOf nm qual params body sc dV kV doc pm an cdv ct) ⟨vs, []⟩) Q E s) (hok : okDef sc (binds.map (·.1)) = true)
    (h : ∀ L s₂, s₁.heap.objs.size ≤ L → St ⟨S, fs, s, L⟩ binds news₁ s₂ → wpAny (model prog w) (A.deeper (envOf qual sc L f cdv)) (execs body (envOf qual sc L f cdv))
        (fun fl s' => R (.ok (.ret (match fl with | .ret v => v | _ => .none))) s')
        (fun e s' => wpAny (model prog w) (A.deeper (envOf qual sc L f cdv)) (leaving (envOf qual sc L f cdv) e) (fun _ s'' => R (.error e) s'') (fun e' s'' => R (.error e') s'') s') s₂) : codeAny (model prog w) A (.call (.ref f) ⟨vs, []⟩) R s := by
  unfold okDef at hok
  simp only [Bool.and_eq_true, Bool.not_eq_true', beq_iff_eq, List.all_eq_true, bne_iff_ne, ne_eq, decide_eq_true_eq] at hok
  obtain ⟨⟨⟨⟨⟨k1, k2⟩, k3⟩, k4⟩, k5⟩, k6⟩ := hok
  refine codeAny_call_function (fd := fnOf nm qual params body sc dV kV doc pm an cdv ct) (body := body) hroom (W.X _ _ ho) rfl k1 k2 rfl (codeRec_of W.X hcd) (hbind _ _ _ _ ?_)
  refine wpAny_newFunctionEnv k4 (fun x hx => k5 _ (List.mem_map_of_mem hx)) (fun h₁ hns hsb => ?_) k3
  have hk₁ : ∀ b o, s₁.heap.get? b = some o → h₁.get? b = some o := fun b o e => hsb.extBut b o (Nat.ne_of_lt (Heap.lt_size e)) (Heap.get?_push_of_some _ e)
  refine ⟨W.lim.keeps fun b o e => hk₁ b o (hb₁ b o e), codeAny_func (h s₁.heap.objs.size _ (Nat.le_refl _) ⟨⟨hideAll s₁.heap (news₁.map (·.1)), _, ⟨fun b o n q e => ?_, fun b o n q e => ?_⟩,
    ⟨hns, fun b o e => hk₁ b o (of_hideAll _ e), Nat.le_of_eq (hideAll_size _ _)⟩, fun p hp => ⟨hk₁ _ _ (hS p hp).2, Nat.ne_of_lt (Heap.lt_size (hS p hp).2), hideAll_none _ (List.mem_map_of_mem hp)⟩, lookup_rev k6⟩, low, hsz, k6, hord, hsame.trans ⟨rfl, rfl, rfl⟩⟩)⟩
  · refine hideAll_get _ (hb₁ b o e) fun z => ?_
    obtain ⟨p, hp, rfl⟩ := List.mem_map.mp z
    rcases (hS p hp).1 with z | z
    · exact n z
    · rw [z] at e; cases e
  · refine ⟨o.slots, hideAll_get _ (hb₁ b o e) fun z => ?_⟩
    obtain ⟨p, hp, rfl⟩ := List.mem_map.mp z
    rcases (hS p hp).1 with z | z
    · exact n z
    · rw [z] at e; cases e
/-- nothing new is bound -/
theorem enterC0 {R : Result → Shared → Prop} {f : Addr} {nm qual : Str} {params : Arguments} {body : List Stmt} {sc : Scope} {dV kV doc pm cdv ct oc : Value} {an od : Option Addr} {osl : Array (Option Value)} {vs : List Value} (S fs : List Addr) (news : List (Addr × Obj)) (binds : List (Str × Value))
    (W : WF w mg mb s.heap) (hroom : A.depth < 1000) (low : ∀ a ∈ S ++ fs, 515 ≤ a) (hS : ∀ p ∈ news, p.1 ∈ S ∧ s.heap.get? p.1 = some p.2) (hord : (news.map (·.1)).Nodup)
    (ho : (hd.heap_39 w.params).lookup f = some ⟨oc, od, .func (fnOf nm qual params body sc dV kV doc pm an cdv ct), osl⟩) (hcd : codeIn (hd.heap_39 w.params) cdv qual = true)
    (hbind : BindsTo s (fnOf nm qual params body sc dV kV doc pm an cdv ct) ⟨vs, []⟩ binds) (hok : okDef sc (binds.map (·.1)) = true)
    (h : ∀ L s₁, s.heap.objs.size ≤ L → St ⟨S, fs, s, L⟩ binds news s₁ → wpAny (model prog w) (A.deeper (envOf qual sc L f cdv)) (execs body (envOf qual sc L f cdv))
        (fun fl s' => R (.ok (.ret (match fl with | .ret v => v | _ => .none))) s')
        (fun e s' => wpAny (model prog w) (A.deeper (envOf qual sc L f cdv)) (leaving (envOf qual sc L f cdv) e) (fun _ s'' => R (.error e) s'') (fun e' s'' => R (.error e') s'') s') s₁) : codeAny (model prog w) A (.call (.ref f) ⟨vs, []⟩) R s :=
  enterC S fs news s binds W hroom low (fun _ _ e => e) (Nat.le_refl _) (Same.refl _) (fun p hp => ⟨.inl (hS p hp).1, (hS p hp).2⟩) hord ho hcd hbind hok h
theorem enterS {Q : Value → Shared → Prop} {E : Value → Shared → Prop} {f : Addr} {nm qual : Str} {params : Arguments} {body : List Stmt} {sc : Scope} {dV kV doc pm cdv ct oc : Value} {an od : Option Addr} {osl : Array (Option Value)} {vs : List Value} (S fs : List Addr) (news : List (Addr × Obj)) (binds : List (Str × Value))
    (W : WF w mg mb s.heap) (hroom : A.depth < 1000) (low : ∀ a ∈ S ++ fs, 515 ≤ a) (hS : ∀ p ∈ news, p.1 ∈ S ∧ s.heap.get? p.1 = some p.2) (hord : (news.map (·.1)).Nodup)
    (ho : (hd.heap_39 w.params).lookup f = some ⟨oc, od, .func (fnOf nm qual params body sc dV kV doc pm an cdv ct), osl⟩) (hcd : codeIn (hd.heap_39 w.params) cdv qual = true)
    (hbind : BindsTo s (fnOf nm qual params body sc dV kV doc pm an cdv ct) ⟨vs, []⟩ binds) (hok : okDef sc (binds.map (·.1)) = true)
    (h : ∀ L s₁, s.heap.objs.size ≤ L → St ⟨S, fs, s, L⟩ binds news s₁ → wpAny (model prog w) (A.deeper (envOf qual sc L f cdv)) (execs body (envOf qual sc L f cdv))
        (fun fl s' => Q (match fl with | .ret v => v | _ => .none) s')
        (fun e s' => wpAny (model prog w) (A.deeper (envOf qual sc L f cdv)) (leaving (envOf qual sc L f cdv) e) (fun _ s'' => E e s'') (fun e' s'' => E e' s'') s') s₁) : wpAny (model prog w) A (call (.ref f) vs) Q E s :=
  wpAny_call (enterC0 S fs news binds W hroom low hS hord ho hcd hbind hok h)
/-- the same, where nothing is raised and nothing touched -/
theorem enter {Q : Value → Shared → Prop} {E : Value → Shared → Prop} {f : Addr} {nm qual : Str} {params : Arguments} {body : List Stmt} {sc : Scope} {dV kV doc pm cdv ct oc : Value} {an od : Option Addr} {osl : Array (Option Value)} {vs : List Value} (binds : List (Str × Value))
    (W : WF w mg mb s.heap) (hroom : A.depth < 1000)
    (ho : (hd.heap_39 w.params).lookup f = some ⟨oc, od, .func (fnOf nm qual params body sc dV kV doc pm an cdv ct), osl⟩) (hcd : codeIn (hd.heap_39 w.params) cdv qual = true)
    (hbind : BindsTo s (fnOf nm qual params body sc dV kV doc pm an cdv ct) ⟨vs, []⟩ binds) (hok : okDef sc (binds.map (·.1)) = true)
    (h : ∀ L s₁, St ⟨[], [], s, L⟩ binds [] s₁ → wpAny (model prog w) (A.deeper (envOf qual sc L f cdv)) (execs body (envOf qual sc L f cdv))
        (fun fl s' => Q (match fl with | .ret v => v | _ => .none) s') (fun _ _ => False) s₁) : wpAny (model prog w) A (call (.ref f) vs) Q E s :=
  enterS [] [] [] binds W hroom (fun _ z => nomatch z) (fun _ z => nomatch z) List.nodup_nil ho hcd hbind hok fun L s₁ _ D => wpAny_mono (h L s₁ D) (fun _ _ x => x) fun _ _ x => x.elim
end

/-- the frames of l are dicts at hand -/
def FrOK (h : Heap) (l : List Env) : Prop := ∀ env ∈ l, env.scope.kind ≠ .module ∧ ∃ L o es n, env.frame = some L ∧ h.get? L = some o ∧ o.data = .dict es n
theorem FrOK.funs {h base : Heap} : ∀ {l : List Env}, FrOK h l → (∀ L ∈ l.filterMap (·.frame), base.get? L = none) → h.FunFrames base l
  | [], _, _ => trivial
  | env :: l, k, n => by
    obtain ⟨hk, L, o, es, m, hf, ho, hd⟩ := k env (.head _)
    refine ⟨hk, ⟨L, o, hf, n L ?_, ho, fun vs q => by rw [hd] at q; cases q⟩, FrOK.funs (fun e he => k e (.tail _ he)) fun L' hL => n L' ?_⟩
    · rw [List.filterMap_cons, hf]; exact .head _
    · rw [List.filterMap_cons, hf]; exact .tail _ hL
theorem FrOK.mem {h : Heap} {l : List Env} (k : FrOK h l) {L : Addr} (hL : L ∈ l.filterMap (·.frame)) : ∃ o es n, h.get? L = some o ∧ o.data = .dict es n := by
  obtain ⟨env, he, hf⟩ := List.mem_filterMap.mp hL
  obtain ⟨_, L', o, es, n, hf', ho, hd⟩ := k env he
  rw [hf] at hf'; cases hf'
  exact ⟨o, es, n, ho, hd⟩
theorem FrOK.rel {S fs : List Addr} {h h' : Heap} {l : List Env} (k : FrOK h l) (x : Rel S fs h h') (n : ∀ a ∈ l.filterMap (·.frame), a ∉ S) : FrOK h' l := fun env he => by
  obtain ⟨hk, L, o, es, m, hf, ho, hd⟩ := k env he
  obtain ⟨sl, h1⟩ := x.any (n L (List.mem_filterMap.mpr ⟨env, he, hf⟩)) ho
  exact ⟨hk, L, _, es, m, hf, h1, hd⟩
/-- what is around a call: its frames fs, nothing being handled -/
structure Frames (A : Around) (fs : List Addr) (h : Heap) : Prop where
  ex : ∃ l, A.frames = some l ∧ l.filterMap (·.frame) = fs ∧ FrOK h l
  low : ∀ a ∈ fs, 515 ≤ a
  calm : A.handled = none
theorem Frames.rel {A : Around} {S fs fs' : List Addr} {h h' : Heap} (K : Frames A fs h) (x : Rel S fs' h h') (n : ∀ a ∈ fs, a ∉ S) : Frames A fs h' := by
  obtain ⟨⟨l, h1, h2, h3⟩, lo, c⟩ := K
  exact ⟨⟨l, h1, h2, h3.rel x (by rw [h2]; exact n)⟩, lo, c⟩
theorem Frames.mem {A : Around} {fs : List Addr} {h : Heap} (K : Frames A fs h) {L : Addr} (hL : L ∈ fs) : ∃ o es n, h.get? L = some o ∧ o.data = .dict es n := by
  obtain ⟨⟨l, h1, h2, h3⟩, lo, c⟩ := K
  exact h3.mem (by rw [h2]; exact hL)
theorem Frames.lowS {A : Around} {S fs : List Addr} {h : Heap} (K : Frames A fs h) (n : ∀ a ∈ S, 515 ≤ a) : ∀ a ∈ S ++ fs, 515 ≤ a := fun a ha => (List.mem_append.mp ha).elim (n a) (K.low a)
theorem WF.lowSize {w : World} {mg mb : Str → Option Value} {h : Heap} (W : WF w mg mb h) : 515 ≤ h.objs.size := by
  have e : ((hd.heap_39 w.params).lookup 514).isSome = true := by kernel_rfl
  obtain ⟨o, ho⟩ := Option.isSome_iff_exists.mp e
  exact Heap.lt_size (W.X _ _ ho)
/-- within a def's body -/
theorem Frames.deeper {w : World} {mg mb : Str → Option Value} {C : Cx} {s : Shared} {loc : List (Str × Value)} {news : List (Addr × Obj)} {A : Around} {name : Str} {scope : Scope} {a : Addr} {cd : Value} (K : Frames A C.fs C.s₀.heap) (W : WF w mg mb C.s₀.heap) (D : St C loc news s) (n : ∀ a ∈ C.fs, a ∉ C.S) (hk : scope.kind = .function) :
    Frames (A.deeper (envOf name scope C.L a cd)) (C.L :: C.fs) s.heap := by
  have K' := K.rel D.toRel n
  obtain ⟨⟨l, h1, h2, h3⟩, lo, c⟩ := K'
  refine ⟨⟨envOf name scope C.L a cd :: l, Around.frames_deeper h1, by rw [List.filterMap_cons]; show C.L :: _ = _; rw [h2], fun env he => ?_⟩, fun b hb => ?_, c⟩
  · rcases List.mem_cons.mp he with rfl | he
    · obtain ⟨⟨g, m, x, ⟨⟨o, es, ep, ho, hd, _⟩, _⟩, _⟩, _⟩ := D
      exact ⟨by show scope.kind ≠ _; rw [hk]; decide, C.L, o, es, ep, rfl, ho, hd⟩
    · exact h3 env he
  · rcases List.mem_cons.mp hb with rfl | hb
    · exact Nat.le_trans W.lowSize D.ge
    · exact lo b hb

/-- e flies, or is held at hand (fl): made since h₀, which else stands but for slots of fs -/
structure Flew (fs : List Addr) (h₀ : Heap) (e : Addr) (cls : Value) (t : Addr) (args : List Value) (fl : Value) (h : Heap) : Prop where
  rel : Rel [] fs h₀ h
  new : h₀.get? e = none
  tnew : h₀.get? t = none
  tr : h.TracedAtW h₀ e cls (.ref t) fl
  tup : h.TupAt t args
theorem Flew.there {fs : List Addr} {h₀ h : Heap} {e t : Addr} {cls fl : Value} {args : List Value} (f : Flew fs h₀ e cls t args fl h) : ∃ ob, h.get? e = some ob ∧ ob.cls = cls := f.tr.there
theorem tracedAt_mono {h base base' : Heap} {e : Addr} {cls a0 fl : Value} (x : h.TracedAtW base e cls a0 fl) (k : ∀ b, base.get? b = none → base'.get? b = none) : h.TracedAtW base' e cls a0 fl := by
  obtain ⟨oe, vs, T, oT, ts, x1, x2, x3, x4, x5, x6⟩ := x
  exact ⟨oe, vs, T, oT, ts, x1, x2, x3, x4, k _ x5, x6⟩
section
variable {fs : List Addr} {h₀ h : Heap} {e t : Addr} {cls fl : Value} {args : List Value} {l l' : List Env}
theorem none_hide (as : List Addr) {b : Addr} (n : h.get? b = none) : (hideAll h as).get? b = none := by
  cases q : (hideAll h as).get? b with
  | none => rfl
  | some o => have := of_hideAll _ q; rw [n] at this; cases this
/-- what the library's rules ask -/
theorem Flew.lib (f : Flew fs h₀ e cls t args fl h) (k : FrOK h₀ l) (hl : l.filterMap (·.frame) = fs) : (hideAll h₀ fs).StaysIn h ∧ (hideAll h₀ fs).get? e = none ∧ h.FunFrames (hideAll h₀ fs) l ∧ h.TracedAtW (hideAll h₀ fs) e cls (.ref t) fl := by
  refine ⟨fun b o q => ?_, none_hide _ f.new, (k.rel f.rel fun _ _ z => nomatch z).funs fun L hL => hideAll_none _ (hl ▸ hL), tracedAt_mono f.tr fun b n => none_hide _ n⟩
  have nb : b ∉ fs := fun z => by rw [hideAll_none fs z] at q; cases q
  exact f.rel.keep b o (fun z => nomatch z) nb (of_hideAll _ q)
/-- and what they give -/
theorem Flew.of (k : FrOK h₀ l) (hl : l.filterMap (·.frame) = fs) (x1 : (hideAll h₀ fs).StaysIn h) (en : h₀.get? e = none) (x4 : h.TracedAtW (hideAll h₀ fs) e cls (.ref t) fl) (u : h₀.UpToSlots h) (tn : h₀.get? t = none) (tup : h.TupAt t args) : Flew fs h₀ e cls t args fl h := by
  refine ⟨⟨fun b o _ nb q => x1 b o (hideAll_get _ q nb), fun b o _ hb q => ?_⟩, en, tn, ?_, tup⟩
  · obtain ⟨o', es, n, ho, hd⟩ := k.mem (hl.symm ▸ hb)
    rw [ho] at q; cases q
    exact u b _ ho fun vs q => by rw [hd] at q; cases q
  · obtain ⟨oe, vs, T, oT, ts, y1, y2, y3, y4, y5, y6, y7, y8, y9⟩ := x4
    refine ⟨oe, vs, T, oT, ts, y1, y2, y3, y4, ?_, y6, y7, y8, y9⟩
    cases q : h₀.get? T with
    | none => rfl
    | some o =>
      have hb : T ∈ fs := Classical.byContradiction fun z => by rw [hideAll_get fs q z] at y5; cases y5
      obtain ⟨o', es, n, ho, hd⟩ := k.mem (hl.symm ▸ hb)
      obtain ⟨sl, z⟩ := u T _ ho fun vs q => by rw [hd] at q; cases q
      rw [y7] at z; cases z
      rw [hd] at y8; cases y8
theorem Flew.up (f : Flew fs h₀ e cls t args fl h) (k : FrOK h₀ l) (hl : l.filterMap (·.frame) = fs) : h₀.UpToSlots h := fun b o q _ => by
  obtain ⟨sl, z⟩ := f.rel.any (fun z => nomatch z) q
  exact ⟨sl, z⟩
end
section
variable {M : Model} {A : Around} {E : Value → Shared → Prop} {s : Shared} {fs : List Addr} {h₀ : Heap} {e t L : Addr} {cls fl : Value} {args : List Value} {env : Env} {outer : List Env} {Q : Unit → Shared → Prop}

theorem x_leave (hfr : A.frames = some (env :: outer)) (hf : env.frame = some L) (k : FrOK h₀ (env :: outer)) (hl : (env :: outer).filterMap (·.frame) = fs) (f : Flew fs h₀ e cls t args .none s.heap)
    (hQ : ∀ h', Flew fs h₀ e cls t args .none h' → Q () { s with heap := h' }) : wpAny M A (leaving env (.ref e)) Q E s := by
  obtain ⟨f1, f2, f3, f4⟩ := f.lib k hl
  refine wpAny_leaving_nextW hfr f3 hf f4 f1 f2 fun h' ⟨x1, x2, x3, x4⟩ => hQ h' ?_
  exact .of k hl x1 f.new x3 ((f.up k hl).trans x4) f.tnew (f.tup.of_slots x4)
theorem x_land (k : FrOK h₀ (env :: outer)) (hl : (env :: outer).filterMap (·.frame) = fs) (f : Flew fs h₀ e cls t args fl s.heap)
    (hQ : ∀ h', Flew fs h₀ e cls t args .none h' → Q () { s with heap := h' }) : wpAny M A (setFlight (.ref e) none) Q E s := by
  obtain ⟨f1, f2, f3, f4⟩ := f.lib k hl
  refine wpAny_setFlight_noneW f1 f3 f4 fun h' x1 x2 x3 x4 => hQ h' ?_
  have u : s.heap.UpToSlots h' := fun b o hb hn => ⟨o.slots, x4 b o hb hn⟩
  exact .of k hl x1 f.new x3 ((f.up k hl).trans u) f.tnew (f.tup.of_slots u)
theorem x_again (hf : env.frame = some L) (f : Flew fs h₀ e cls t args (rawInt L) s.heap) (hQ : Q () s) : wpAny M A (noteFrame (.ref e) env) Q E s := wpAny_noteFrame_againW hf f.tr hQ
theorem x_leave_held (hf : env.frame = some L) (k : FrOK h₀ (env :: outer)) (hl : (env :: outer).filterMap (·.frame) = fs) (f : Flew fs h₀ e cls t args (rawInt L) s.heap)
    (hQ : ∀ h', Flew fs h₀ e cls t args .none h' → Q () { s with heap := h' }) : wpAny M A (leaving env (.ref e)) Q E s := by
  unfold leaving
  exact wpAny_bind (x_again hf f (x_land k hl f hQ))
theorem x_note (hfr : A.frames = some (env :: outer)) (hf : env.frame = some L) (k : FrOK h₀ (env :: outer)) (hl : (env :: outer).filterMap (·.frame) = fs) (f : Flew fs h₀ e cls t args .none s.heap)
    (hQ : ∀ h', Flew fs h₀ e cls t args (rawInt L) h' → Q () { s with heap := h' }) : wpAny M A (noteFrame (.ref e) env) Q E s := by
  obtain ⟨f1, f2, f3, f4⟩ := f.lib k hl
  refine wpAny_noteFrame_onW hfr f3 hf f4 f1 f2 fun h' ⟨x1, x2, x3, x4⟩ => hQ h' ?_
  exact .of k hl x1 f.new x3 ((f.up k hl).trans x4) f.tnew (f.tup.of_slots x4)
theorem made_none {h h' : Heap} {t : Addr} (x : Heap.MadeExcOf h h' e cls args) (as : List Addr) : (hideAll h as).get? e = none := none_hide _ x.new
theorem x_leave_made (hfr : A.frames = some (env :: outer)) (hf : env.frame = some L) (k : FrOK h₀ (env :: outer)) (hl : (env :: outer).filterMap (·.frame) = fs) (f : Heap.MadeExcOf h₀ s.heap e cls args)
    (hQ : ∀ h' t, Flew fs h₀ e cls t args .none h' → Q () { s with heap := h' }) : wpAny M A (leaving env (.ref e)) Q E s := by
  obtain ⟨t, he, htn, ht⟩ := f.there
  refine wpAny_leaving_firstW (a0 := .ref t) (base := hideAll h₀ fs) hfr ?_ hf he (fun b o q => f.keeps b o (of_hideAll _ q)) (none_hide _ f.new) rfl rfl rfl fun h' ⟨x1, x2, x3, x4⟩ => hQ h' t ?_
  · exact (k.rel (S := []) (fs := []) (Rel.of_keeps f.keeps) fun _ _ z => nomatch z).funs fun L hL => hideAll_none _ (hl ▸ hL)
  · exact .of k hl x1 f.new x3 ((Heap.UpToSlots.of_keeps f.keeps).trans x4) htn (Heap.TupAt.of_slots ⟨_, _, ht, rfl, rfl⟩ x4)
theorem x_note_made (hfr : A.frames = some (env :: outer)) (hf : env.frame = some L) (k : FrOK h₀ (env :: outer)) (hl : (env :: outer).filterMap (·.frame) = fs) (f : Heap.MadeExcOf h₀ s.heap e cls args)
    (hQ : ∀ h' t, Flew fs h₀ e cls t args (rawInt L) h' → Q () { s with heap := h' }) : wpAny M A (noteFrame (.ref e) env) Q E s := by
  obtain ⟨t, he, htn, ht⟩ := f.there
  unfold noteFrame
  simp only [hf]
  refine wpAny_bind (wpAny_field (x := .none) he rfl rfl ?_)
  rw [if_neg (by decide)]
  refine wpAny_entryW (a0 := .ref t) (base := hideAll h₀ fs) hfr ?_ hf he (fun b o q => f.keeps b o (of_hideAll _ q)) (none_hide _ f.new) rfl (by simp) rfl fun h' ⟨x1, x2, x3, x4⟩ => hQ h' t ?_
  · exact (k.rel (S := []) (fs := []) (Rel.of_keeps f.keeps) fun _ _ z => nomatch z).funs fun L hL => hideAll_none _ (hl ▸ hL)
  · exact .of k hl x1 f.new x3 ((Heap.UpToSlots.of_keeps f.keeps).trans x4) htn (Heap.TupAt.of_slots ⟨_, _, ht, rfl, rfl⟩ x4)
theorem x_fly (hf : env.frame = some L) (k : FrOK h₀ (env :: outer)) (hl : (env :: outer).filterMap (·.frame) = fs) (f : Flew fs h₀ e cls t args fl s.heap)
    (hQ : ∀ h', Flew fs h₀ e cls t args (rawInt L) h' → Q () { s with heap := h' }) : wpAny M A (setFlight (.ref e) env.frame) Q E s := by
  obtain ⟨oe, vs, T, oT, ts, he, hcls, hd, h1, hnT, hTe, hT, hdT, h3⟩ := f.tr
  have hsz3 : 3 < ts.size := (Array.getElem?_eq_some_iff.mp h3).1
  have other : ∀ b, b ≠ T → (s.heap.update T (Obj.mapFields (·.setIfInBounds 3 (env.frame.elim Value.none fun f => rawInt f)))).get? b = s.heap.get? b :=
    fun b hb => Heap.get?_update_other _ _ (Ne.symm hb)
  unfold setFlight
  refine wpAny_bind (wpAny_field he hd h1 ?_)
  rw [if_pos (show (Value.ref T != Value.none) = true from by simp)]
  have nb : ∀ b o, h₀.get? b = some o → b ≠ T := fun b o q z => by rw [z, hnT] at q; cases q
  refine wpAny_setField hT hdT hsz3 (hQ _ ⟨⟨fun b o x y q => ?_, fun b o x y q => ?_⟩, f.new, f.tnew, ?_, ?_⟩)
  · exact (other b (nb b o q)).trans (f.rel.keep b o x y q)
  · obtain ⟨sl, z⟩ := f.rel.frame b o x y q
    exact ⟨sl, (other b (nb b o q)).trans z⟩
  · exact ⟨oe, vs, T, _, _, (other e (Ne.symm hTe)).trans he, hcls, hd, h1, hnT, hTe, Heap.get?_update_self _ hT (Obj.isFreed_of_fields (Obj.data_mapFields hdT _)), Obj.data_mapFields hdT _, by simp [hsz3, hf]⟩
  · obtain ⟨ot, n, ht, hc, hdt⟩ := f.tup
    exact ⟨ot, n, (other t fun z => by rw [z, hT] at ht; cases ht; rw [hdT] at hdt; cases hdt).trans ht, hc, hdt⟩
end

theorem is_list_rel {S fs : List Addr} {h h' : Heap} (x : Rel S fs h h') {a : Addr} {its : Array Value} (hl : h.IsList a its) (n : a ∉ S) : h'.IsList a its := by
  obtain ⟨o, ho, hc, k, hd⟩ := hl
  obtain ⟨sl, h1⟩ := x.any n ho
  exact ⟨_, h1, hc, k, hd⟩
theorem is_tup_rel {S fs : List Addr} {h h' : Heap} (x : Rel S fs h h') {a : Addr} {its : Array Value} (hl : IsTup h a its) (n : a ∉ S) : IsTup h' a its := by
  obtain ⟨o, ho, hc, k, hd⟩ := hl
  obtain ⟨sl, h1⟩ := x.any n ho
  exact ⟨_, h1, hc, k, hd⟩
/-- the object of a list iterator -/
def LI (o : Obj) (a : Addr) (i : Nat) : Prop := o.cls = .type "list_iterator" ∧ o.data = .fields #[.ref a, .int i 0]
def TI (o : Obj) (a : Addr) (i : Nat) : Prop := o.cls = .type "tuple_iterator" ∧ o.data = .fields #[.ref a, .int i 0]
def RI (x left step : Int) : Obj := { cls := .type "range_iterator", dict := none, data := .fields #[rawInt x, rawInt left, rawInt step], slots := #[] }
section
variable {C : Cx} {s : Shared} {loc : List (Str × Value)} {news : List (Addr × Obj)}
theorem St.perm (D : St C loc news s) {news' : List (Addr × Obj)} (h : news.Perm news') : St C loc news' s := by
  obtain ⟨⟨g, m, y, F, N, lc⟩, h0, hge, h1, h2, h3⟩ := D
  exact ⟨⟨g, m, y, F, fun p hp => N p (h.mem_iff.mpr hp), lc⟩, h0, hge, h1, (h.map _).nodup_iff.mp h2, h3⟩
/-- one object of the ledger has changed, nothing else -/
theorem St.ext (D : St C loc news s) {s' : Shared} {a : Addr} {o : Obj} {rest : List (Addr × Obj)} (hn : news = (a, o) :: rest) (hs : ∀ b o, b ≠ a → s.heap.get? b = some o → s'.heap.get? b = some o) (e : Same s s') : St C loc rest s' := by
  subst hn
  obtain ⟨⟨g, m, y, F, N, lc⟩, h0, hge, h1, h2, h3⟩ := D
  have z := N (a, o) (.head _)
  have nd := List.nodup_cons.mp h2
  refine ⟨⟨g, m, y, ⟨F.ns.at' fun o e => hs _ o (Ne.symm z.2.1) e, fun b ob e => hs b ob (fun q => by rw [q, z.2.2] at e; cases e) (F.keep b ob e), F.above⟩, fun p hp => ?_, lc⟩, h0, hge, h1, nd.2, h3.trans e⟩
  have zp := N p (.tail _ hp)
  exact ⟨hs _ _ (fun q => nd.1 (by have := List.mem_map_of_mem (f := (·.1)) hp; rwa [q] at this)) zp.1, zp.2⟩
theorem St.change (D : St C loc news s) {s' : Shared} {a : Addr} {o o' : Obj} {rest : List (Addr × Obj)} (hn : news = (a, o) :: rest) (hs : ∀ b o, b ≠ a → s.heap.get? b = some o → s'.heap.get? b = some o) (ho : s'.heap.get? a = some o') (e : Same s s') : St C loc ((a, o') :: rest) s' := by
  have D' := D.ext hn hs e
  subst hn
  obtain ⟨⟨g, m, y, F, N, lc⟩, h0, hge, h1, h2, h3⟩ := D
  have z := N (a, o) (.head _)
  have nd := List.nodup_cons.mp h2
  refine ⟨⟨g, m, y, ⟨F.ns.at' fun o e => hs _ o (Ne.symm z.2.1) e, fun b ob e => hs b ob (fun q => by rw [q, z.2.2] at e; cases e) (F.keep b ob e), F.above⟩, fun p hp => ?_, lc⟩, h0, hge, h1, h2, h3.trans e⟩
  rcases List.mem_cons.mp hp with rfl | hp
  · exact ⟨ho, z.2⟩
  · have zp := N p (.tail _ hp)
    exact ⟨hs _ _ (fun q => nd.1 (by have := List.mem_map_of_mem (f := (·.1)) hp; rwa [q] at this)) zp.1, zp.2⟩
theorem St.forget (D : St C loc news s) {news' : List (Addr × Obj)} (h : news'.Sublist news) : St C loc news' s := D.drop h
theorem St.list (D : St C loc news s) {a : Addr} {its : Array Value} (hl : C.s₀.heap.IsList a its) (n : a ∉ C.S) : s.heap.IsList a its := is_list_rel D.toRel hl n
theorem St.tupl (D : St C loc news s) {a : Addr} {its : Array Value} (hl : IsTup C.s₀.heap a its) (n : a ∉ C.S) : IsTup s.heap a its := is_tup_rel D.toRel hl n
theorem St.listN (D : St C loc news s) {a : Addr} {its : Array Value} {k : Nat} (hm : (a, listOf its k) ∈ news) : s.heap.IsList a its := ⟨_, D.get hm, rfl, k, rfl⟩
abbrev tupOf (its : Array Value) : Obj := { cls := .type "tuple", data := .seq its }
theorem St.tupN (D : St C loc news s) {a : Addr} {its : Array Value} (hm : (a, tupOf its) ∈ news) : IsTup s.heap a its := ⟨_, D.get hm, rfl, _, rfl⟩
theorem St.newFresh (D : St C loc news s) : C.s₀.heap.get? s.heap.objs.size = none := by
  have := D.fresh
  exact Heap.get?_none_of_le (Nat.le_of_lt (Nat.lt_of_le_of_lt this.1 this.2))
theorem St.isNewS (D : St C loc news s) {p : Addr × Obj} (hp : p ∈ news) (n : p.1 ∉ C.S) : C.s₀.heap.get? p.1 = none := by
  obtain ⟨⟨g, m, x, F, N, lc⟩, _⟩ := D
  cases q : C.s₀.heap.get? p.1 with
  | none => rfl
  | some o =>
    obtain ⟨sl, h1⟩ := x.any n q
    rw [(N p hp).2.2] at h1; cases h1
theorem St.isNew (D : St C loc news s) (hS : C.S = []) {p : Addr × Obj} (hp : p ∈ news) : C.s₀.heap.get? p.1 = none := by
  obtain ⟨⟨g, m, x, F, N, lc⟩, _⟩ := D
  cases q : C.s₀.heap.get? p.1 with
  | none => rfl
  | some o =>
    obtain ⟨sl, h1⟩ := x.any (by rw [hS]; exact fun z => nomatch z) q
    rw [(N p hp).2.2] at h1; cases h1
section
variable {prog : Program} {w : World} {A : Around} {E : Value → Shared → Prop} {env : Env} {mg mb : Str → Option Value}
theorem it_list {ax : Addr} {its : Array Value} {Q : Value → Shared → Prop} (D : St C loc news s) (hl : s.heap.IsList ax its) (k : ∀ I oI s', St C loc ((I, oI) :: news) s' → LI oI ax 0 → s'.heap.IsList ax its → Q (.ref I) s') :
    wpAny (model prog w) A (pyIter (.ref ax)) Q E s :=
  wpAny_pyIter_list hl (k _ _ _ (D.push _) ⟨rfl, rfl⟩ (let ⟨o, ho, r⟩ := hl; ⟨o, Heap.get?_push_of_some _ ho, r⟩))
theorem it_tup {ax : Addr} {its : Array Value} {Q : Value → Shared → Prop} (D : St C loc news s) (hl : IsTup s.heap ax its) (k : ∀ I oI s', St C loc ((I, oI) :: news) s' → TI oI ax 0 → IsTup s'.heap ax its → Q (.ref I) s') :
    wpAny (model prog w) A (pyIter (.ref ax)) Q E s :=
  wpAny_pyIter_tuple (let ⟨o, ho, r⟩ := hl; ⟨o, ho, r⟩) (k _ _ _ (D.push _) ⟨rfl, rfl⟩ (let ⟨o, ho, r⟩ := hl; ⟨o, Heap.get?_push_of_some _ ho, r⟩))
theorem next_list {ax I : Addr} {oI : Obj} {i : Nat} {its : Array Value} {Q : Option Value → Shared → Prop} (hh : A.handled = none) (D : St C loc ((I, oI) :: news) s) (hI : LI oI ax i) (hl : s.heap.IsList ax its)
    (item : ∀ v oI' s', its[i]? = some v → LI oI' ax (i + 1) → St C loc ((I, oI') :: news) s' → Q (some v) s') (done : ∀ s', its.size ≤ i → St C loc news s' → Q none s') : wpAny (model prog w) A (pyNext (.ref I)) Q E s := by
  have hit : s.heap.IsListIter I ax i := ⟨oI, D.get (.head _), hI⟩
  cases hx : its[i]? with
  | some v =>
    refine wpAny_pyNext_list_item hit hl hx fun h' hit' hs => ?_
    obtain ⟨oI', ho', hI'⟩ := hit'
    exact item v oI' _ hx hI' (D.change rfl (fun b o n e => hs.extBut b o n e) ho' ⟨rfl, rfl, rfl⟩)
  | none =>
    refine wpAny_pyNext_list_end hh hit hl hx fun h' hs => done _ ?_ (D.ext rfl (fun b o n e => hs b o n e) ⟨rfl, rfl, rfl⟩)
    simpa using hx
theorem next_tup {ax I : Addr} {oI : Obj} {i : Nat} {its : Array Value} {Q : Option Value → Shared → Prop} (hh : A.handled = none) (D : St C loc ((I, oI) :: news) s) (hI : TI oI ax i) (hl : IsTup s.heap ax its)
    (item : ∀ v oI' s', its[i]? = some v → TI oI' ax (i + 1) → St C loc ((I, oI') :: news) s' → Q (some v) s') (done : ∀ s', its.size ≤ i → St C loc news s' → Q none s') : wpAny (model prog w) A (pyNext (.ref I)) Q E s := by
  have hit : s.heap.IsTupleIter I ax i := ⟨oI, D.get (.head _), hI⟩
  have hl' : s.heap.IsTuple ax its := let ⟨o, ho, r⟩ := hl; ⟨o, ho, r⟩
  cases hx : its[i]? with
  | some v =>
    refine wpAny_pyNext_tuple_item hit hl' hx fun h' hit' hs => ?_
    obtain ⟨oI', ho', hI'⟩ := hit'
    exact item v oI' _ hx hI' (D.change rfl (fun b o n e => hs.extBut b o n e) ho' ⟨rfl, rfl, rfl⟩)
  | none =>
    refine wpAny_pyNext_tuple_end hh hit hl' hx fun h' hs => done _ ?_ (D.ext rfl (fun b o n e => hs b o n e) ⟨rfl, rfl, rfl⟩)
    simpa using hx
theorem next_range {I : Addr} {x left step : Int} {Q : Option Value → Shared → Prop} (hh : A.handled = none) (D : St C loc ((I, RI x left step) :: news) s)
    (item : ∀ s' t, 0 < left → St C loc ((I, RI (x + step) (left - 1) step) :: news) s' → Q (some (.int x t)) s') (done : ∀ s', left ≤ 0 → St C loc news s' → Q none s') : wpAny (model prog w) A (pyNext (.ref I)) Q E s := by
  have hit : IsRangeIter s.heap I x left step := D.get (.head _)
  by_cases hp : 0 < left
  · exact wpAny_pyNext_range_item hit hp fun h' hit' hs => item _ _ hp (D.change rfl (fun b o n e => hs.extBut b o n e) hit' ⟨rfl, rfl, rfl⟩)
  · exact wpAny_pyNext_range_end hh hit (by omega) fun h' hs => done _ (by omega) (D.ext rfl (fun b o n e => hs b o n e) ⟨rfl, rfl, rfl⟩)

/-- a for over a list, nothing raised: J what holds before the turn i -/
theorem for_list {target iter : Expr} {body : List Stmt} {pos : Pos} {Q : Flow → Shared → Prop} (_D : St C loc news s) (hh : A.handled = none) (its : Array Value) (ax : Addr) (J : Nat → List (Str × Value) → List (Addr × Obj) → Prop)
    (first : wpAny (model prog w) A (eval iter env) (fun v s₁ => v = .ref ax ∧ s₁.heap.IsList ax its ∧ ∃ loc news, J 0 loc news ∧ St C loc news s₁) E s)
    (src : ∀ i loc news s, J i loc news → St C loc news s → s.heap.IsList ax its)
    (turn : ∀ i v loc news s I oI, its[i]? = some v → J i loc news → St C loc ((I, oI) :: news) s → wpAny (model prog w) A (assign target env v) (fun _ s₂ => wpAny (model prog w) A (execs body env) (fun f s₃ => match f with
          | .next | .cont => ∃ loc news, J (i + 1) loc news ∧ St C loc ((I, oI) :: news) s₃
          | _ => False) (fun _ _ => False) s₂) (fun _ _ => False) s)
    (fin : ∀ loc news s, J its.size loc news → St C loc news s → Q .next s)
    (hs : ∀ x, foldedSetIterable iter env x = pure x := by intro _; rfl) (ht : ∀ it v, letOwnedTupleGo target it v = pure () := by intro _ _; rfl) :
    wpAny (model prog w) A (exec (.For target iter body [] pos) env) Q E s := by
  refine wpAny_For (wpAny_mono first (fun v s₁ h₁ => ?_) fun _ _ x => x) hs
  obtain ⟨rfl, hl, loc, news, hJ, D⟩ := h₁
  refine it_list D hl fun I oI s₂ D₂ hI hl₂ => ?_
  refine codeAny_forLoop (fun k s' => ∃ i loc news oI, i ≤ its.size ∧ k = its.size + 1 - i ∧ LI oI ax i ∧ J i loc news ∧ St C loc ((I, oI) :: news) s') ?_ (its.size + 1) ⟨0, loc, news, oI, Nat.zero_le _, rfl, hI, hJ, D₂⟩ (ht _)
  rintro k s₃ ⟨i, loc, news, oI, hi, rfl, hI, hJ, D₃⟩
  refine next_list hh D₃ hI (src i loc _ _ hJ (D₃.forget (List.sublist_cons_self _ _))) (fun v oI' s₄ hx hI' D₄ => ?_) fun s₄ hx D₄ => ?_
  · have hlt := (Array.getElem?_eq_some_iff.mp hx).1
    refine wpAny_mono (turn i v loc news s₄ I oI' hx hJ D₄) (fun _ s₅ h₅ => wpAny_mono h₅ (fun f s₆ h₆ => ?_) fun _ _ x => x.elim) fun _ _ x => x.elim
    cases f with
    | next => obtain ⟨loc', news', hJ', D'⟩ := h₆; exact ⟨_, by omega, i + 1, loc', news', oI', hlt, rfl, hI', hJ', D'⟩
    | cont => obtain ⟨loc', news', hJ', D'⟩ := h₆; exact ⟨_, by omega, i + 1, loc', news', oI', hlt, rfl, hI', hJ', D'⟩
    | brk => exact h₆.elim
    | ret v => exact h₆.elim
  · obtain rfl : i = its.size := Nat.le_antisymm hi hx
    exact wpAny_execs_nil (fin loc news s₄ hJ D₄)
end
end

/-- the scope of a comprehension over one name x -/
def okComp (sc : Scope) (x : Str) : Bool := sc.kind == .function && sc.names.all (fun y => y.2 != .cell) && sc.names.all (fun y => !(y.2 == .local) || sc.names.lookup y.1 == some .local) && sc.names.lookup x == some .local
theorem okComp_parts {sc : Scope} {x : Str} (h : okComp sc x = true) : (∀ y ∈ sc.names, y.2 ≠ .cell) ∧ sc.kind = .function ∧ (∀ y ∈ sc.names, y.2 = .local → sc.names.lookup y.1 = some .local) ∧ sc.names.lookup x = some .local := by
  unfold okComp at h
  simp only [Bool.and_eq_true, beq_iff_eq, List.all_eq_true, bne_iff_ne, ne_eq, Bool.or_eq_true, Bool.not_eq_true'] at h
  obtain ⟨⟨⟨h1, h2⟩, h3⟩, h4⟩ := h
  refine ⟨h2, h1, fun y hy e => ?_, h4⟩
  rcases h3 y hy with q | q
  · rw [e] at q; exact absurd q (by decide)
  · exact q
/-- where the items of a source are -/
inductive Src
  | list (a : Addr) (its : Array Value)
  | tup (a : Addr) (its : Array Value)
def Src.val : Src → Value | .list a _ => .ref a | .tup a _ => .ref a
def Src.its : Src → Array Value | .list _ x => x | .tup _ x => x
def Src.At (h : Heap) : Src → Prop | .list a x => h.IsList a x | .tup a x => IsTup h a x
def Src.It (o : Obj) (i : Nat) : Src → Prop | .list a _ => LI o a i | .tup a _ => TI o a i
section
variable {C : Cx} {s : Shared} {loc : List (Str × Value)} {news : List (Addr × Obj)} {prog : Program} {w : World} {A : Around} {E : Value → Shared → Prop} {env : Env}
theorem St.srcAt (D : St C loc news s) {src : Src} (hl : src.At C.s₀.heap) (hS : C.S = []) : src.At s.heap := by
  cases src with
  | list a x => exact D.list hl (by rw [hS]; exact fun z => nomatch z)
  | tup a x => exact D.tupl hl (by rw [hS]; exact fun z => nomatch z)
theorem it_src {src : Src} {Q : Value → Shared → Prop} (D : St C loc news s) (hl : src.At s.heap) (k : ∀ I oI s', St C loc ((I, oI) :: news) s' → src.It oI 0 → src.At s'.heap → Q (.ref I) s') :
    wpAny (model prog w) A (pyIter src.val) Q E s := by
  cases src with
  | list a x => exact it_list D hl k
  | tup a x => exact it_tup D hl k
theorem next_src {src : Src} {I : Addr} {oI : Obj} {i : Nat} {Q : Option Value → Shared → Prop} (hh : A.handled = none) (D : St C loc ((I, oI) :: news) s) (hI : src.It oI i) (hl : src.At s.heap)
    (item : ∀ v oI' s', src.its[i]? = some v → src.It oI' (i + 1) → St C loc ((I, oI') :: news) s' → Q (some v) s') (done : ∀ s', src.its.size ≤ i → St C loc news s' → Q none s') : wpAny (model prog w) A (pyNext (.ref I)) Q E s := by
  cases src with
  | list a x => exact next_list hh D hI hl item done
  | tup a x => exact next_tup hh D hI hl item done
theorem iter_src {src : Src} {I : Addr} {oI : Obj} {i : Nat} {Q : Value → Shared → Prop} (D : St C loc ((I, oI) :: news) s) (hI : src.It oI i) (h : Q (.ref I) s) : wpAny (model prog w) A (pyIter (.ref I)) Q E s := by
  cases src with
  | list a x => exact wpAny_pyIter_listiter ⟨oI, D.get (.head _), hI⟩ h
  | tup a x => exact wpAny_pyIter_tupleiter ⟨oI, D.get (.head _), hI⟩ h
theorem nodup_swap {a b : Addr} {l : List Addr} (h : (a :: b :: l).Nodup) : (b :: a :: l).Nodup := (List.Perm.swap b a l).nodup_iff.mp h
/-- the new frame of a comprehension -/
theorem St.pushed (D : St C loc news s) {s' : Shared} {a : Addr} {o : Obj} (ha : s.heap.get? a = none) (hk : ∀ b o, s.heap.get? b = some o → s'.heap.get? b = some o) (ho : s'.heap.get? a = some o) (e : Same s s') : St C loc ((a, o) :: news) s' :=
  D.pureNew (Rel.of_keeps hk) e ho ha
theorem stay_new {a : Addr} {its : Array Value} {k : Nat} (hm : (a, listOf its k) ∈ news) : ∀ news' s, news.Sublist news' → St C loc news' s → (Src.list a its).At s.heap := fun _ _ hs D => D.listN (hs.subset hm)
theorem stay_old {a : Addr} {its : Array Value} (hl : C.s₀.heap.IsList a its) (n : a ∉ C.S) : ∀ news' s, news.Sublist news' → St C loc news' s → (Src.list a its).At s.heap := fun _ _ hs D => D.list hl n
theorem stay_oldT {a : Addr} {its : Array Value} (hl : IsTup C.s₀.heap a its) (n : a ∉ C.S) : ∀ news' s, news.Sublist news' → St C loc news' s → (Src.tup a its).At s.heap := fun _ _ hs D => D.tupl hl n
/-- what a list comprehension wants once its source stands: p the test, F what the element's text makes -/
def CompG (prog : Program) (w : World) (A : Around) (C : Cx) (env : Env) (elt : Expr) (x : Str) (ifs : List Expr) (scope : Scope) (cl : List (Str × Addr)) (Q : Value → Shared → Prop) (xv : Value) (s₁ : Shared) : Prop :=
  ∃ (src : Src) (loc : List (Str × Value)) (news : List (Addr × Obj)) (p : Value → Bool) (F : Value → Value → Prop), xv = src.val ∧ src.At s₁.heap ∧ St C loc news s₁ ∧
    (∀ news' s, news.Sublist news' → St C loc news' s → src.At s.heap) ∧ src.its.size ≤ 16777216 ∧
    (∀ v c oc m D oD I oI s E', v ∈ src.its → NsObj oc m → m x = some v → St C loc ((c, oc) :: (D, oD) :: (I, oI) :: news) s →
      wpAny (model prog w) A (forIn ifs true fun c' r => if r = true then do let ok ← isTrue c' (compEnvC scope cl c env) (eval c' (compEnvC scope cl c env)); pure (ForInStep.yield ok) else pure (ForInStep.yield r)) (fun ok s₃ => ok = p v ∧ St C loc ((c, oc) :: (D, oD) :: (I, oI) :: news) s₃) E' s) ∧
    (∀ v c oc m D oD I oI s E', v ∈ src.its → p v = true → NsObj oc m → m x = some v → St C loc ((c, oc) :: (D, oD) :: (I, oI) :: news) s →
      wpAny (model prog w) A (eval elt (compEnvC scope cl c env)) (fun y s₃ => F v y ∧ St C loc ((c, oc) :: (D, oD) :: (I, oI) :: news) s₃) E' s) ∧
    (∀ D ys s, Paired F (src.its.toList.filter p) ys → St C loc ((D, listOf ys.toArray ys.length) :: news) s → Q (.ref D) s)
/-- a list comprehension over one name -/
theorem comp_gen {elt iter : Expr} {x : Str} {px : Pos} {ifs : List Expr} {scope : Scope} {cl : List (Str × Addr)} {pos : Pos} {Q : Value → Shared → Prop} (_D : St C loc news s) (hh : A.handled = none)
    (hclos : closureFor scope env = pure cl) (hok : okComp scope x = true)
    (first : wpAny (model prog w) A (eval iter env) (CompG prog w A C env elt x ifs scope cl Q) E s)
    (hs : ∀ x, foldedSetIterable iter env x = pure x := by intro _; rfl) :
    wpAny (model prog w) A (eval (.ListComp elt [⟨.Name x px, iter, ifs, 0⟩] scope pos) env) Q E s := by
  obtain ⟨hcell, hkind, hnames, hx⟩ := okComp_parts hok
  rw [eval_ListComp]
  refine wpAny_comprehension_free (use := none) rfl hs hclos hkind hnames (wpAny_mono first (fun v s₁ h₁ => ?_) fun _ _ e => e)
  obtain ⟨src, loc, news, p, F, rfl, hl, D₁, stay, hsz, tests, helt, k⟩ := h₁
  refine it_src D₁ hl fun I oI s₂ D₂ hI hl₂ => ?_
  refine wpAny_newObj_type (wpAny_newFunctionEnv hcell (by intro y hy; simp at hy) (fun h₁ hns₁ hsb₁ => ?_) hkind)
  dsimp only at hns₁ hsb₁ ⊢
  have D₃ := D₂.push (listOf #[] 0)
  generalize hH2 : s₂.heap.push { cls := .type "list", dict := none, data := .seq ([] : List Value).toArray } = H2 at hns₁ hsb₁ ⊢
  have hH : s₂.heap.push (listOf #[] 0) = H2 := hH2
  rw [hH] at D₃
  have hC : H2.objs.size = s₂.heap.objs.size + 1 := by rw [← hH2, Heap.size_push]
  have keep₁ : ∀ b o, H2.get? b = some o → h₁.get? b = some o := fun b o e => hsb₁.extBut b o (Nat.ne_of_lt (Heap.lt_size e)) (Heap.get?_push_of_some _ e)
  obtain ⟨oc, hoc, hNs⟩ := ns_obj hns₁
  have D₄ := D₃.pushed (s' := { s₂ with heap := h₁, toks := s₂.toks + ([] : List (Str × Value)).length }) (a := H2.objs.size) (Heap.get?_none_of_le (Nat.le_refl _)) keep₁ hoc ⟨rfl, rfl, rfl⟩
  have loop : ∀ s₃, s₃ = ({ s₂ with heap := h₁, toks := s₂.toks + ([] : List (Str × Value)).length } : Shared) → codeAny (model prog w) A (.compLoop (.ListComp elt [⟨.Name x px, iter, ifs, 0⟩] scope pos) 0 (.ref I) (.ref s₂.heap.objs.size) (compEnvC scope cl H2.objs.size env)) (compPost (model prog w) A E none Q (.ref s₂.heap.objs.size) H2.objs.size) s₃ := by
    rintro s₃ rfl
    refine codeAny_compLoop_tests (fun j s' => ∃ i oI oc m ys, i ≤ src.its.size ∧ j = src.its.size + 1 - i ∧ src.It oI i ∧ NsObj oc m ∧ Paired F ((src.its.toList.take i).filter p) ys ∧ ys.length ≤ i ∧ St C loc ((H2.objs.size, oc) :: (s₂.heap.objs.size, listOf ys.toArray ys.length) :: (I, oI) :: news) s') ?_ (src.its.size + 1)
      ⟨0, oI, oc, _, [], Nat.zero_le _, rfl, hI, hNs, by simpa using Paired.nil, Nat.le_refl _, D₄⟩
    rintro j s' ⟨i, oI, oc, m, ys, hi, rfl, hI, hNs, hF, hyl, D'⟩
    have P1 : ((H2.objs.size, oc) :: (s₂.heap.objs.size, listOf ys.toArray ys.length) :: (I, oI) :: news).Perm ((I, oI) :: (H2.objs.size, oc) :: (s₂.heap.objs.size, listOf ys.toArray ys.length) :: news) :=
      ((List.Perm.swap _ _ _).cons _).trans (List.Perm.swap _ _ _)
    have hl' := stay _ _ ((List.sublist_cons_self _ _).trans ((List.sublist_cons_self _ _).trans (List.sublist_cons_self _ _))) D'
    refine next_src hh (D'.perm P1) hI hl' (fun v oI' s₄ hv hI' D₄ => ?_) fun s₄ hv D₄ => ?_
    · have hlt := (Array.getElem?_eq_some_iff.mp hv).1
      have hmem : v ∈ src.its := by obtain ⟨h1, rfl⟩ := Array.getElem?_eq_some_iff.mp hv; exact Array.getElem_mem h1
      have hvl : src.its.toList[i]? = some v := by simpa using hv
      have D₅ : St C loc ((H2.objs.size, oc) :: (s₂.heap.objs.size, listOf ys.toArray ys.length) :: (I, oI') :: news) s₄ := D₄.perm ((List.Perm.swap _ _ _).trans ((List.Perm.swap _ _ _).cons _))
      refine wpAny_assign_Name (wpAny_storeName_local (lookup_relabel_local hx) (hNs.ns (D₅.get (.head _))) (fun h₂ hn₂ hs₂ => ?_) (by simp [compEnvC, relabel, hkind]))
      obtain ⟨oc', hoc', hNs'⟩ := ns_obj hn₂
      have D₆ := D₅.change (s' := { s₄ with heap := h₂, toks := s₄.toks + 1 }) rfl (fun b o n e => hs₂.extBut b o n e) hoc' ⟨rfl, rfl, rfl⟩
      have htake : src.its.toList.take (i + 1) = src.its.toList.take i ++ [v] := by rw [List.take_add_one, hvl]; rfl
      refine wpAny_mono (tests v _ _ _ _ _ _ _ _ _ hmem hNs' (by simp) D₆) (fun ok s₇ h₇ => ?_) fun _ _ e => e
      obtain ⟨rfl, D₇⟩ := h₇
      cases hpv : p v with
      | false =>
        simp only [Bool.false_eq_true, if_false]
        refine ⟨src.its.size + 1 - (i + 1), by omega, i + 1, oI', oc', _, ys, hlt, rfl, hI', hNs', ?_, by omega, D₇⟩
        rw [htake, List.filter_append]; simpa [hpv] using hF
      | true =>
        simp only [if_true]
        refine wpAny_mono (helt v _ _ _ _ _ _ _ _ _ hmem hpv hNs' (by simp) D₇) (fun y s₈ h₈ => ?_) fun _ _ e => e
        obtain ⟨hFy, D₈⟩ := h₈
        have D₉ := D₈.perm (List.Perm.swap _ _ _)
        refine append_at (hsz := by show ys.toArray.size ≤ sizeLine; rw [List.size_toArray, sizeLine_eq]; omega) (D₉.get (.head _)) fun h₅ hs₅ hD₅ => ?_
        have D₁₀ := (D₉.change (s' := { s₈ with heap := h₅ }) rfl (fun b o n e => hs₅.extBut b o n e) hD₅ ⟨rfl, rfl, rfl⟩).perm (List.Perm.swap _ _ _)
        refine ⟨src.its.size + 1 - (i + 1), by omega, i + 1, oI', oc', _, ys ++ [y], hlt, rfl, hI', hNs', ?_, by rw [List.length_append, List.length_singleton]; omega, ?_⟩
        · rw [htake, List.filter_append]; simpa [hpv] using Paired.snoc hF hFy
        · have e : listOf (ys ++ [y]).toArray (ys ++ [y]).length = ({ cls := .type "list", data := .seq (ys.toArray.push y) (ys.length + 1) } : Obj) := by
            rw [List.length_append, List.length_singleton, List.push_toArray]
          rw [e]; exact D₁₀
    · obtain rfl : i = src.its.size := Nat.le_antisymm hi hv
      refine ⟨m, hNs.ns (D₄.get (.head _)), fun h'' hs'' => k _ ys _ ?_ ?_⟩
      · have e : src.its.toList.take src.its.size = src.its.toList := List.take_of_length_le (by simp)
        rwa [e] at hF
      · exact D₄.ext (s' := { s₄ with heap := h'' }) rfl (fun b o n e => hs''.extBut b o n e) ⟨rfl, rfl, rfl⟩
  have D₅ := D₄.perm (((List.Perm.swap _ _ _).cons _).trans (List.Perm.swap _ _ _))
  exact codeAny_compStart_list (loop _ rfl) (iter_src D₅ hI (loop _ rfl))
/-- and without a test -/
theorem compG_plain {elt : Expr} {x : Str} {scope : Scope} {cl : List (Str × Addr)} {Q : Value → Shared → Prop} (F : Value → Value → Prop) (src : Src) {xv : Value} (D : St C loc news s) (hx : xv = src.val) (hl : src.At s.heap)
    (stay : ∀ news' s, news.Sublist news' → St C loc news' s → src.At s.heap) (hsz : src.its.size ≤ 16777216)
    (helt : ∀ v c oc m D oD I oI s E', v ∈ src.its → NsObj oc m → m x = some v → St C loc ((c, oc) :: (D, oD) :: (I, oI) :: news) s →
      wpAny (model prog w) A (eval elt (compEnvC scope cl c env)) (fun y s₃ => F v y ∧ St C loc ((c, oc) :: (D, oD) :: (I, oI) :: news) s₃) E' s)
    (k : ∀ D ys s, Paired F src.its.toList ys → St C loc ((D, listOf ys.toArray ys.length) :: news) s → Q (.ref D) s) : CompG prog w A C env elt x [] scope cl Q xv s :=
  ⟨src, loc, news, fun _ => true, F, hx, hl, D, stay, hsz, fun v c oc m D oD I oI s E' _ _ _ D' => wpAny_tests_nil ⟨rfl, D'⟩, fun v c oc m D oD I oI s E' hv _ hN hm D' => helt v c oc m D oD I oI s E' hv hN hm D',
    fun D ys s h => k D ys s (by rw [show src.its.toList.filter (fun _ => true) = src.its.toList from List.filter_eq_self.mpr fun _ _ => rfl] at h; exact h)⟩
end

theorem if_tt {P R : Prop} (h : P) : if true = true then P else R := h
theorem if_ff {P R : Prop} (h : R) : if false = true then P else R := h
section
variable {prog : Program} {w : World} {A : Around} {E : Value → Shared → Prop} {C : Cx} {s : Shared} {mg mb : Str → Option Value} {loc : List (Str × Value)} {news news' : List (Addr × Obj)} {env : Env}
/-- what the library's rules give and ask -/
theorem St.lib (D : St C loc news s) : ∃ g m, Fr g C.L s.heap m ∧ News g C.L s.heap news ∧
    (∀ s' o, Fr g C.L s'.heap m → News g C.L s'.heap ((s.heap.objs.size, o) :: news) → Same s s' → St C loc ((s.heap.objs.size, o) :: news) s') ∧
    (∀ s', Fr g C.L s'.heap m → News g C.L s'.heap news → Same s s' → St C loc news s') := by
  obtain ⟨⟨g, m, x, F, N, lc⟩, h0, hge, h1, h2, h3⟩ := id D
  refine ⟨g, m, F, N, fun s' o F' N' e => ⟨⟨g, m, x, F', N', lc⟩, h0, hge, h1, List.nodup_cons.mpr ⟨fun hb => ?_, h2⟩, h3.trans e⟩, fun s' F' N' e => ⟨⟨g, m, x, F', N', lc⟩, h0, hge, h1, h2, h3.trans e⟩⟩
  obtain ⟨p, hp, e⟩ := List.mem_map.mp hb
  exact absurd (D.lt hp) (by rw [e]; exact Nat.lt_irrefl _)
theorem St.libX {w : World} {mg mb : Str → Option Value} (D : St C loc news s) (W : WF w mg mb C.s₀.heap) : ∃ g m, Fr g C.L s.heap m ∧ News g C.L s.heap news ∧ (hd.heap_39 w.params).In g ∧
    (∀ s' news', Fr g C.L s'.heap m → News g C.L s'.heap news' → (news'.map (·.1)).Nodup → Same s s' → St C loc news' s') := by
  obtain ⟨⟨g, m, x, F, N, lc⟩, h0, hge, h1, h2, h3⟩ := id D
  exact ⟨g, m, F, N, (W.rel x h0).X, fun s' news' F' N' n e => ⟨⟨g, m, x, F', N', lc⟩, h0, hge, h1, n, h3.trans e⟩⟩
/-- an object of the ledger, changed -/
inductive Alt (a : Addr) (o o' : Obj) : List (Addr × Obj) → List (Addr × Obj) → Prop
  | here {r : List (Addr × Obj)} : Alt a o o' ((a, o) :: r) ((a, o') :: r)
  | there {p : Addr × Obj} {r r' : List (Addr × Obj)} : Alt a o o' r r' → Alt a o o' (p :: r) (p :: r')
theorem Alt.perm {a : Addr} {o o' : Obj} (U : Alt a o o' news news') : ∃ r, news.Perm ((a, o) :: r) ∧ news'.Perm ((a, o') :: r) := by
  induction U with
  | here => exact ⟨_, .refl _, .refl _⟩
  | there _ ih =>
    obtain ⟨r, h1, h2⟩ := ih
    exact ⟨_ :: r, (h1.cons _).trans (.swap _ _ _), (h2.cons _).trans (.swap _ _ _)⟩
theorem Alt.mem {a : Addr} {o o' : Obj} (U : Alt a o o' news news') : (a, o) ∈ news := by
  obtain ⟨r, h1, _⟩ := U.perm
  exact h1.mem_iff.mpr (.head _)
theorem Alt.keys {a : Addr} {o o' : Obj} (U : Alt a o o' news news') : news'.map (·.1) = news.map (·.1) := by
  induction U with
  | here => rfl
  | there _ ih => rw [List.map_cons, List.map_cons, ih]
theorem Alt.upd {a : Addr} {o o' : Obj} (U : Alt a o o' news news') (h : (news.map (·.1)).Nodup) : Upd a o o' news news' := by
  induction U with
  | @here r =>
    rw [List.map_cons, List.nodup_cons] at h
    exact .head fun p hp e => h.1 (by have := List.mem_map_of_mem (f := (·.1)) hp; rwa [e] at this)
  | @there p r r' U ih =>
    rw [List.map_cons, List.nodup_cons] at h
    refine .tail (fun e => h.1 ?_) (ih h.2)
    have := List.mem_map_of_mem (f := (·.1)) U.mem
    rwa [← e] at this
theorem St.alt (D : St C loc news s) {s' : Shared} {a : Addr} {o o' : Obj} (U : Alt a o o' news news') (hs : ∀ b o, b ≠ a → s.heap.get? b = some o → s'.heap.get? b = some o) (ho : s'.heap.get? a = some o') (e : Same s s') : St C loc news' s' := by
  obtain ⟨r, h1, h2⟩ := U.perm
  exact ((D.perm h1).change rfl hs ho e).perm h2.symm
theorem r_newlist {vs : List Value} {Q : Value → Shared → Prop} (D : St C loc news s) (hz : vs.length ≤ 16777216) (h : ∀ a s', St C loc ((a, listOf vs.toArray 0) :: news) s' → Q (.ref a) s') : wpAny (model prog w) A (newList vs) Q E s := by
  refine wpAny_newObj_type (h _ _ (D.push _)) ?_
  show vs.toArray.size ≤ sizeLine
  rw [List.size_toArray, sizeLine_eq]; exact hz
theorem r_newtup {vs : List Value} {Q : Value → Shared → Prop} (D : St C loc news s) (hz : vs.length ≤ 16777216) (h : ∀ a s', St C loc ((a, tupOf vs.toArray) :: news) s' → Q (.ref a) s') : wpAny (model prog w) A (newTuple vs) Q E s := by
  refine wpAny_newObj_type (h _ _ (D.push _)) ?_
  show vs.toArray.size ≤ sizeLine
  rw [List.size_toArray, sizeLine_eq]; exact hz
theorem r_listadd {l b : Addr} {vs ws : List Value} {Q : Value → Shared → Prop} (D : St C loc news s) (hl : s.heap.IsList l vs.toArray) (hb : s.heap.IsList b ws.toArray) (hz : vs.length + ws.length ≤ 16777216)
    (h : ∀ a s', St C loc ((a, listOf (vs ++ ws).toArray 0) :: news) s' → Q (.ref a) s') : wpAny (model prog w) A (binaryOp .Add (.ref l) (.ref b)) Q E s := by
  obtain ⟨g, m, F, N, k1, k0⟩ := D.lib
  exact add_lists F N hl hb (fun h' F' N' => h _ _ (k1 _ _ F' N' ⟨rfl, rfl, rfl⟩)) (by rw [sizeLine_eq]; exact hz)
theorem r_len_list {a : Addr} {vs : List Value} {Q : Value → Shared → Prop} (D : St C loc news s) (hl : s.heap.IsList a vs.toArray) (hz : vs.length ≤ 16777216) (h : ∀ s' t, St C loc news s' → Q (.int (vs.length : Nat) t) s') :
    wpAny (model prog w) A (call (.builtin "len") [.ref a]) Q E s := by
  refine len_list hl (by rw [List.size_toArray]; omega) ?_
  rw [List.size_toArray]
  exact h _ _ (D.toks.toks)
theorem r_len_tup {a : Addr} {vs : List Value} {Q : Value → Shared → Prop} (D : St C loc news s) (hl : IsTup s.heap a vs.toArray) (hz : vs.length ≤ 16777216) (h : ∀ s' t, St C loc news s' → Q (.int (vs.length : Nat) t) s') :
    wpAny (model prog w) A (call (.builtin "len") [.ref a]) Q E s := by
  refine PyProof.Rows.len_tuple hl (by rw [List.size_toArray]; omega) ?_
  rw [List.size_toArray]
  exact h _ _ (D.toks.toks)
abbrev sliceOf (l u : Value) : Obj := { cls := .type "slice", data := .fields #[l, u, .none] }
theorem r_slice {lower upper : Option Expr} {p : Pos} {Q : Value → Shared → Prop} (_D : St C loc news s)
    (h : wpAny (model prog w) A (evalPart lower env) (fun l s₁ => wpAny (model prog w) A (evalPart upper env) (fun u s₂ => ∃ loc news, St C loc news s₂ ∧ ∀ a s', St C loc ((a, sliceOf l u) :: news) s' → Q (.ref a) s') E s₁) E s) :
    wpAny (model prog w) A (eval (.Slice lower upper none p) env) Q E s := by
  refine wpAny_Slice (wpAny_mono h (fun l s₁ h₁ => wpAny_mono h₁ (fun u s₂ h₂ => ?_) fun _ _ x => x) fun _ _ x => x)
  obtain ⟨loc, news, D, k⟩ := h₂
  exact evalPart_none_step (k _ _ (D.push _))
theorem r_slice_list {value slice : Expr} {l a : Addr} {vs : List Value} {vl vu : Value} {lo hi : Option Int} {Q : Value → Shared → Prop} (D : St C loc news s) (hm : (a, sliceOf vl vu) ∈ news) (hl : s.heap.IsList l vs.toArray) (pl : IsPart vl lo) (pu : IsPart vu hi) (hz : vs.length ≤ 16777216)
    (h : ∀ b s', St C loc ((b, listOf (kms_pick vs lo hi).toArray 0) :: news) s' → Q (.ref b) s')
    (hs : subscripted slice false (.ref l) (.ref a) = operate [.ref a, .ref l] (getItem (.ref l) (.ref a)) := by with_unfolding_all rfl)
    (ht : ∀ r, letTemporaryGo value (.ref l) r = pure () := by intro _; with_unfolding_all rfl) : wpAny (model prog w) A (subscriptTail value slice (.ref l) (.ref a)) Q E s := by
  refine subscriptTail_ops hl.typeIs list_getitem_lookup (wpAny_getItem_list_slice hl ⟨_, D.get hm, rfl, rfl⟩ pl pu .none (by simp) ?_ (by rw [List.size_toArray, sizeLine_eq]; exact hz)) hs ht
  rw [kms_pick_eq]
  exact h _ _ (D.push _)
theorem pick_to (l : List Value) (y : Nat) : kms_pick l none (some (y : Int)) = l.take y := by
  unfold kms_pick kms_lo kms_hi
  simp only [List.drop_zero, Nat.sub_zero]
  rw [if_neg (by omega)]
  simp only [Int.toNat_natCast]
  rw [kmk_take_min]
theorem pick_from (l : List Value) (x : Nat) : kms_pick l (some (x : Int)) none = l.drop x := by
  unfold kms_pick kms_lo kms_hi
  simp only
  rw [if_neg (by omega)]
  simp only [Int.toNat_natCast]
  rw [kmk_drop_min, List.take_of_length_le]
  rw [List.length_drop]; omega
theorem r_item {value slice : Expr} {l : Addr} {vs : List Value} {k : Nat} {u : Tok} {x : Value} {Q : Value → Shared → Prop} (hl : s.heap.IsList l vs.toArray) (hk : k ≤ 16777216) (hx : vs[k]? = some x) (h : Q x s)
    (hs : subscripted slice false (.ref l) (.int (k : Nat) u) = operate [.ref l, .int (k : Nat) u] (getItem (.ref l) (.int (k : Nat) u)) := by with_unfolding_all rfl) (hg : ∀ r, letTemporaryGo value (.ref l) r = pure () := by intro _; with_unfolding_all rfl) :
    wpAny (model prog w) A (subscriptTail value slice (.ref l) (.int (k : Nat) u)) Q E s :=
  item_listL hl (by omega) (by omega) (by simpa using hx) h hs hg
theorem r_itemT {value slice : Expr} {l : Addr} {vs : List Value} {k : Nat} {u : Tok} {x : Value} {Q : Value → Shared → Prop} (hl : IsTup s.heap l vs.toArray) (hk : k ≤ 16777216) (hx : vs[k]? = some x) (h : Q x s)
    (hs : subscripted slice false (.ref l) (.int (k : Nat) u) = operate [.ref l, .int (k : Nat) u] (getItem (.ref l) (.int (k : Nat) u)) := by with_unfolding_all rfl) (hg : ∀ r, letTemporaryGo value (.ref l) r = pure () := by intro _; with_unfolding_all rfl) :
    wpAny (model prog w) A (subscriptTail value slice (.ref l) (.int (k : Nat) u)) Q E s := by
  have hlt := (List.getElem?_eq_some_iff.mp hx).1
  exact item_tupleL hl (by omega) (by omega) (StrLaws.seqIndex_nonneg (by omega) (by omega)) (by simpa using hx) h hs hg
theorem r_append {l : Addr} {vs : List Value} {k : Nat} {x : Value} {Q : Value → Shared → Prop} (D : St C loc news s) (U : Alt l (listOf vs.toArray k) (listOf (vs ++ [x]).toArray (k + 1)) news news') (hz : vs.length ≤ 16777216)
    (h : ∀ s', St C loc news' s' → Q .none s') : wpAny (model prog w) A (call (.builtin "list.append") [.ref l, x]) Q E s := by
  refine append_at (hsz := by rw [List.size_toArray, sizeLine_eq]; exact hz) (D.get U.mem) fun h' hs ho => h _ (D.alt U (fun b o n e => hs.extBut b o n e) (ho.trans ?_) ⟨rfl, rfl, rfl⟩)
  rw [← List.push_toArray]
theorem r_meth_list {l : Addr} {o : Obj} {name : Str} {id : String} {pl : Sem Bool} {pos : Pos} {args : List (Bool × Sem Value)} {Q : Value → Shared → Prop} (D : St C loc news s) (slot : Slot "list" name id) (hty : typeOf (.builtin id) = pure (.type "method_descriptor"))
    (hm : (l, o) ∈ news) (hc : o.cls = .type "list") (hd : o.dict = none) (h : wpAny (model prog w) A (callWith pos (.builtin id) [.ref l] args []) Q E s) : wpAny (model prog w) A (getMethod (.ref l) name pl) (fun fx s₂ => wpAny (model prog w) A (callWith pos fx.1 fx.2 args []) Q E s₂) E s :=
  getMethod_builtin ⟨o, D.get hm, hc⟩ PySem.F.plainAttrs_list slot hty (fun a e => by cases e; exact ⟨o, D.get hm, hd⟩) h
theorem r_meth_str {x : Str} {t : Tok} {name : Str} {id : String} {pl : Sem Bool} {pos : Pos} {args : List (Bool × Sem Value)} {Q : Value → Shared → Prop} (slot : Slot "str" name id) (hty : typeOf (.builtin id) = pure (.type "method_descriptor"))
    (h : wpAny (model prog w) A (callWith pos (.builtin id) [.str x t] args []) Q E s) : wpAny (model prog w) A (getMethod (.str x t) name pl) (fun fx s₂ => wpAny (model prog w) A (callWith pos fx.1 fx.2 args []) Q E s₂) E s :=
  getMethod_builtin (typeIs_str _ _ _) PySem.F.plainAttrs_str slot hty (fun _ e => nomatch e) h
section
variable {pos : Pos} {id T' : String} {f : Addr} {v₀ : Value} {e e₁ e₂ e₃ e₄ e₅ : Expr} {Q : Value → Shared → Prop} {K : Frag}
theorem cm0 (h : wpAny (model prog w) A (call (.builtin id) [v₀]) Q E s) : wpAny (model prog w) A (callWith pos (.builtin id) [v₀] (backTo pos (starEach [] env)) []) Q E s := callWith_method0 h
theorem cm1 (h : wpAny (model prog w) A (eval e env) (fun v s₁ => wpAny (model prog w) A (call (.builtin id) [v₀, v]) Q E s₁) E s) (he : starEach [e] env = [(false, eval e env)]) :
    wpAny (model prog w) A (callWith pos (.builtin id) [v₀] (backTo pos (starEach [e] env)) []) Q E s :=
  callWith_method1 (spliced_more (wpAny_mono h (fun v s₁ h₁ => spliced_none h₁) fun _ _ x => x) he) he rfl
theorem cb1 (h : wpAny (model prog w) A (eval e env) (fun v s₁ => wpAny (model prog w) A (call (.builtin id) [v]) Q E s₁) E s) (he : starEach [e] env = [(false, eval e env)]) :
    wpAny (model prog w) A (callWith pos (.builtin id) [] (backTo pos (starEach [e] env)) []) Q E s :=
  callWith_method1 (spliced_more (wpAny_mono h (fun v s₁ h₁ => spliced_none h₁) fun _ _ x => x) he) he rfl
theorem cb2 (h : wpAny (model prog w) A (eval e₁ env) (fun v s₁ => wpAny (model prog w) A (eval e₂ env) (fun v₂ s₂ => wpAny (model prog w) A (call (.builtin id) [v, v₂]) Q E s₂) E s₁) E s) (he : starEach [e₁, e₂] env = [(false, eval e₁ env), (false, eval e₂ env)]) (he₂ : starEach [e₂] env = [(false, eval e₂ env)]) :
    wpAny (model prog w) A (callWith pos (.builtin id) [] (backTo pos (starEach [e₁, e₂] env)) []) Q E s := by
  refine callWith_method1 (spliced_more (wpAny_mono h (fun v s₁ h₁ => spliced_more (wpAny_mono h₁ (fun v₂ s₂ h₂ => spliced_none h₂) fun _ _ x => x) he₂) fun _ _ x => x) (he.trans (by rw [he₂]))) (he.trans (by rw [he₂])) ?_
  rw [he₂]; rfl
theorem ct0 (h : wpAny (model prog w) A (call (.type T') []) Q E s) : wpAny (model prog w) A (callWith pos (.type T') [] (backTo pos (starEach [] env)) []) Q E s := PyProof.Rows.callWith_type0 h
theorem ct1 (h : wpAny (model prog w) A (eval e env) (fun v s₁ => wpAny (model prog w) A (call (.type T') [v]) Q E s₁) E s) (he : starEach [e] env = [(false, eval e env)]) :
    wpAny (model prog w) A (callWith pos (.type T') [] (backTo pos (starEach [e] env)) []) Q E s :=
  PyProof.Rows.callWith_type1 (spliced_more (wpAny_mono h (fun v s₁ h₁ => spliced_none h₁) fun _ _ x => x) he) he rfl
theorem ct2 (h : wpAny (model prog w) A (eval e₁ env) (fun v s₁ => wpAny (model prog w) A (eval e₂ env) (fun v₂ s₂ => wpAny (model prog w) A (call (.type T') [v, v₂]) Q E s₂) E s₁) E s) (he : starEach [e₁, e₂] env = [(false, eval e₁ env), (false, eval e₂ env)]) (he₂ : starEach [e₂] env = [(false, eval e₂ env)]) :
    wpAny (model prog w) A (callWith pos (.type T') [] (backTo pos (starEach [e₁, e₂] env)) []) Q E s := by
  refine PyProof.Rows.callWith_type1 (spliced_more (wpAny_mono h (fun v s₁ h₁ => spliced_more (wpAny_mono h₁ (fun v₂ s₂ h₂ => spliced_none h₂) fun _ _ x => x) he₂) fun _ _ x => x) (he.trans (by rw [he₂]))) (he.trans (by rw [he₂])) ?_
  rw [he₂]; rfl
theorem ct3 (h : wpAny (model prog w) A (eval e₁ env) (fun v s₁ => wpAny (model prog w) A (eval e₂ env) (fun v₂ s₂ => wpAny (model prog w) A (eval e₃ env) (fun v₃ s₃ => wpAny (model prog w) A (call (.type T') [v, v₂, v₃]) Q E s₃) E s₂) E s₁) E s)
    (he : starEach [e₁, e₂, e₃] env = [(false, eval e₁ env), (false, eval e₂ env), (false, eval e₃ env)]) (he₂ : starEach [e₂, e₃] env = [(false, eval e₂ env), (false, eval e₃ env)]) (he₃ : starEach [e₃] env = [(false, eval e₃ env)]) :
    wpAny (model prog w) A (callWith pos (.type T') [] (backTo pos (starEach [e₁, e₂, e₃] env)) []) Q E s := by
  refine PyProof.Rows.callWith_type1 (spliced_more (wpAny_mono h (fun v s₁ h₁ => spliced_more (wpAny_mono h₁ (fun v₂ s₂ h₂ => spliced_more (wpAny_mono h₂ (fun v₃ s₃ h₃ => spliced_none h₃) fun _ _ x => x) he₃) fun _ _ x => x) (he₂.trans (by rw [he₃]))) fun _ _ x => x) (he.trans (by rw [he₂]))) (he.trans (by rw [he₂])) ?_
  rw [he₂]; rfl
theorem ck0 (X : K.In s.heap) (hk : keepIn K (.ref f) = true) (h : wpAny (model prog w) A (call (.ref f) []) Q E s) : wpAny (model prog w) A (callWith pos (.ref f) [] (backTo pos (starEach [] env)) []) Q E s := callWith_K0 X hk h
theorem ck1 (X : K.In s.heap) (hk : keepIn K (.ref f) = true) (h : wpAny (model prog w) A (eval e env) (fun v s₁ => K.In s₁.heap ∧ wpAny (model prog w) A (call (.ref f) [v]) Q E s₁) E s) (he : starEach [e] env = [(false, eval e env)]) :
    wpAny (model prog w) A (callWith pos (.ref f) [] (backTo pos (starEach [e] env)) []) Q E s :=
  callWith_K X hk (spliced_more (wpAny_mono h (fun v s₁ h₁ => spliced_none h₁) fun _ _ x => x) he) he rfl
theorem ck2 (X : K.In s.heap) (hk : keepIn K (.ref f) = true) (h : wpAny (model prog w) A (eval e₁ env) (fun v s₁ => wpAny (model prog w) A (eval e₂ env) (fun v₂ s₂ => K.In s₂.heap ∧ wpAny (model prog w) A (call (.ref f) [v, v₂]) Q E s₂) E s₁) E s)
    (he : starEach [e₁, e₂] env = [(false, eval e₁ env), (false, eval e₂ env)]) (he₂ : starEach [e₂] env = [(false, eval e₂ env)]) :
    wpAny (model prog w) A (callWith pos (.ref f) [] (backTo pos (starEach [e₁, e₂] env)) []) Q E s := by
  refine callWith_K X hk (spliced_more (wpAny_mono h (fun v s₁ h₁ => spliced_more (wpAny_mono h₁ (fun v₂ s₂ h₂ => spliced_none h₂) fun _ _ x => x) he₂) fun _ _ x => x) (he.trans (by rw [he₂]))) (he.trans (by rw [he₂])) ?_
  rw [he₂]; rfl
theorem ck3 (X : K.In s.heap) (hk : keepIn K (.ref f) = true) (h : wpAny (model prog w) A (eval e₁ env) (fun v s₁ => wpAny (model prog w) A (eval e₂ env) (fun v₂ s₂ => wpAny (model prog w) A (eval e₃ env) (fun v₃ s₃ => K.In s₃.heap ∧ wpAny (model prog w) A (call (.ref f) [v, v₂, v₃]) Q E s₃) E s₂) E s₁) E s)
    (he : starEach [e₁, e₂, e₃] env = [(false, eval e₁ env), (false, eval e₂ env), (false, eval e₃ env)]) (he₂ : starEach [e₂, e₃] env = [(false, eval e₂ env), (false, eval e₃ env)]) (he₃ : starEach [e₃] env = [(false, eval e₃ env)]) :
    wpAny (model prog w) A (callWith pos (.ref f) [] (backTo pos (starEach [e₁, e₂, e₃] env)) []) Q E s := by
  refine callWith_K X hk (spliced_more (wpAny_mono h (fun v s₁ h₁ => spliced_more (wpAny_mono h₁ (fun v₂ s₂ h₂ => spliced_more (wpAny_mono h₂ (fun v₃ s₃ h₃ => spliced_none h₃) fun _ _ x => x) he₃) fun _ _ x => x) (he₂.trans (by rw [he₃]))) fun _ _ x => x) (he.trans (by rw [he₂]))) (he.trans (by rw [he₂])) ?_
  rw [he₂]; rfl
end
/-- texts joined -/
def joinL (sep : List Nat) : List (List Nat) → List Nat
  | [] => []
  | [x] => x
  | x :: y :: r => x ++ sep ++ joinL sep (y :: r)
theorem join_T (sep : List Nat) (ls : List (List Nat)) : Txt.join (T sep) (ls.map T) = T (joinL sep ls) := by
  show PySem.Builtin.Str.glued _ _ = _
  rw [StrLaws.glued_eq_join]
  induction ls with
  | nil => kernel_rfl
  | cons x r ih =>
    cases r with
    | nil => rfl
    | cons y r =>
      show T x ++ T sep ++ Str.join (T sep) ((y :: r).map T) = _
      rw [ih, joinL, T_app, T_app]
def sumLen (ls : List (List Nat)) : Nat := (ls.map List.length).sum
theorem r_join {D' : Addr} {sep : List Nat} {vs : List Value} {ls : List (List Nat)} {t : Tok} {Q : Value → Shared → Prop} (D : St C loc news s) (hl : s.heap.IsList D' vs.toArray) (hi : StrsAre vs (ls.map T)) (hsep : sep.length ≤ 16) (hw : sumLen ls + ls.length ≤ 1048576)
    (h : ∀ s' t', St C loc news s' → Q (.str (T (joinL sep ls)) t') s') : wpAny (model prog w) A (call (.builtin "str.join") [.str (T sep) t, .ref D']) Q E s := by
  refine join_listW hl (by simpa using hi) (by rw [T_len]; exact hsep) ?_ fun t' k => ?_
  · rw [List.map_map, List.length_map]
    have e : (ls.map ((fun x : Str => x.length) ∘ T)) = ls.map List.length := List.map_congr_left fun x _ => T_len x
    rw [e]; exact hw
  · rw [join_T]; exact h _ _ D.toks
theorem r_unpack2 {x1 x2 : Str} {p1 p2 tp : Pos} {k : Nat} {t : Addr} {v1 v2 : Value} {Q : Unit → Shared → Prop} (D : St C loc news s) (hh : A.handled = none) (ht : IsTup s.heap t #[v1, v2])
    (h : ∀ s', St C loc news s' → wpAny (model prog w) A (assign (.Name x1 p1) env v1) (fun _ s₁ => wpAny (model prog w) A (assign (.Name x2 p2) env v2) Q E s₁) E s') : wpAny (model prog w) A (assign (.Tuple [.Name x1 p1, .Name x2 p2] k tp) env (.ref t)) Q E s := by
  have ea : assignEach [.Name x1 p1, .Name x2 p2] env = [(false, assign (.Name x1 p1) env), (false, assign (.Name x2 p2) env)] := rfl
  refine assign_Tuple_tuple hh ht (by rw [ea]; rfl) (by rw [ea]; rfl) fun h' he => ?_
  rw [ea]
  have D' : St C loc news { s with heap := h' } := D.pureCall (Rel.of_keeps fun b o e => he b o (Nat.ne_of_lt (Heap.lt_size e)) e) ⟨rfl, rfl, rfl⟩
  show wpAny _ _ (assignInOrder [assign (.Name x1 p1) env, assign (.Name x2 p2) env] [v1, v2]) _ _ _
  exact wpAny_assignInOrder_more (wpAny_mono (h _ D') (fun _ s₁ h₁ => wpAny_assignInOrder_more (wpAny_mono h₁ (fun _ _ h₂ => wpAny_assignInOrder_none h₂) fun _ _ x => x)) fun _ _ x => x)
theorem r_swap2 {x1 x2 : Str} {p1 p2 tp pos : Pos} {k : Nat} {value : Expr} {Q : Flow → Shared → Prop} (_D : St C loc news s) (hh : A.handled = none)
    (h : wpAny (model prog w) A (eval value env) (fun v s₁ => ∃ t v1 v2 loc news, v = .ref t ∧ St C loc news s₁ ∧ IsTup s₁.heap t #[v1, v2] ∧ ∀ s', St C loc news s' → wpAny (model prog w) A (storeName env x2 v2) (fun _ s₁ => wpAny (model prog w) A (storeName env x1 v1) (fun _ => Q .next) E s₁) E s') E s)
    (hs : swapsWithSole [.Tuple [.Name x1 p1, .Name x2 p2] k tp] value pos.line env = pure false)
    (hw : swappedStores [.Tuple [.Name x1 p1, .Name x2 p2] k tp] value env = pure (some [x1, x2])) : wpAny (model prog w) A (exec (.Assign [.Tuple [.Name x1 p1, .Name x2 p2] k tp] value pos) env) Q E s := by
  refine Assign_Tuple_swapped (wpAny_mono h (fun v s₁ h₁ => ?_) fun _ _ x => x) hs hw
  obtain ⟨t, v1, v2, loc, news, rfl, D, ht, h⟩ := h₁
  show wpAny (model prog w) A (unpackItems (.ref t) 2 none) _ E s₁
  refine unpackItems_tuple (items := #[v1, v2]) hh ht fun h' he => ?_
  have D' : St C loc news { s₁ with heap := h' } := D.pureCall (Rel.of_keeps fun b o e => he b o (Nat.ne_of_lt (Heap.lt_size e)) e) ⟨rfl, rfl, rfl⟩
  have h2 := h _ D'
  show wpAny _ _ (assignInOrder [fun v => bindName env x2 v, fun v => bindName env x1 v] [v2, v1]) _ _ _
  refine wpAny_assignInOrder_more (bindName_ (wpAny_mono h2 (fun _ s₁ h₁ => ?_) fun _ _ x => x))
  exact wpAny_assignInOrder_more (bindName_ (wpAny_mono h₁ (fun _ _ h₂ => wpAny_assignInOrder_none h₂) fun _ _ x => x))
theorem r_iadd {x y : Int} {t u : Tok} {Q : Value → Shared → Prop} (D : St C loc news s) (h : ∀ s' t, St C loc news s' → Q (.int (x + y) t) s') : wpAny (model prog w) A (inplaceOp .Add (.int x t) (.int y u)) Q E s := PyProof.Rows.iadd_int (h _ _ D.toks)
end
/-- values that are these numbers; these texts -/
def isNat (v : Value) (n : Nat) : Prop := ∃ t, v = .int (n : Nat) t
def isTxt (v : Value) (l : List Nat) : Prop := ∃ t, v = .str (T l) t
abbrev Nats (vs : List Value) (ns : List Nat) : Prop := Paired isNat vs ns
abbrev Txts (vs : List Value) (ls : List (List Nat)) : Prop := Paired isTxt vs ls
theorem txts_strs : ∀ {vs : List Value} {ls : List (List Nat)}, Txts vs ls → StrsAre vs (ls.map T)
  | _, _, .nil => .nil
  | _, _, .cons ⟨t, e⟩ r => by subst e; exact .cons _ t (txts_strs r)
section
variable {α β γ : Type} {R : α → β → Prop}
theorem pd_take : ∀ {l : List α} {l' : List β}, Paired R l l' → ∀ k, Paired R (l.take k) (l'.take k)
  | _, _, _, 0 => .nil
  | _, _, .nil, _ + 1 => .nil
  | _, _, .cons h r, k + 1 => .cons h (pd_take r k)
theorem pd_drop : ∀ {l : List α} {l' : List β}, Paired R l l' → ∀ k, Paired R (l.drop k) (l'.drop k)
  | _, _, h, 0 => h
  | _, _, .nil, _ + 1 => .nil
  | _, _, .cons _ r, k + 1 => pd_drop r k
theorem pd_app : ∀ {l m : List α} {l' m' : List β}, Paired R l l' → Paired R m m' → Paired R (l ++ m) (l' ++ m')
  | _, _, _, _, .nil, h => h
  | _, _, _, _, .cons a r, h => .cons a (pd_app r h)
theorem pd_at : ∀ {l : List α} {l' : List β}, Paired R l l' → ∀ {k : Nat} {b : β}, l'[k]? = some b → ∃ a, l[k]? = some a ∧ R a b
  | _, _, .cons h _, 0, b, e => by simp at e; subst e; exact ⟨_, rfl, h⟩
  | _, _, .cons _ r, k + 1, b, e => by simpa using pd_at r (by simpa using e)
/-- what the elements of a comprehension are -/
theorem pd_comp {F : α → γ → Prop} {f : β → δ} {R' : γ → δ → Prop} (hF : ∀ v y a, R v a → F v y → R' y (f a)) : ∀ {vs : List α} {ys : List γ} {xs : List β}, Paired F vs ys → Paired R vs xs → Paired R' ys (xs.map f)
  | _, _, _, .nil, .nil => .nil
  | _, _, _, .cons h r, .cons h' r' => .cons (hF _ _ _ h' h) (pd_comp hF r r')
theorem pd_mem : ∀ {l : List α} {l' : List β}, Paired R l l' → ∀ {a : α}, a ∈ l → ∃ b, b ∈ l' ∧ R a b
  | _, _, .cons h r, a, hm => by
    rcases List.mem_cons.mp hm with rfl | hm
    · exact ⟨_, .head _, h⟩
    · obtain ⟨b, hb, e⟩ := pd_mem r hm
      exact ⟨b, .tail _ hb, e⟩
end
section
variable {prog : Program} {w : World} {A : Around} {E : Value → Shared → Prop} {C : Cx} {s : Shared} {mg mb : Str → Option Value} {loc : List (Str × Value)} {news news' : List (Addr × Obj)} {env : Env}
/-- a for over a range that is at hand, nothing raised -/
theorem for_range {target iter : Expr} {body : List Stmt} {pos : Pos} {Q : Flow → Shared → Prop} (_D : St C loc news s) (hh : A.handled = none) (a c : Int) (n : Nat) (J : Nat → List (Str × Value) → List (Addr × Obj) → Prop)
    (first : wpAny (model prog w) A (eval iter env) (fun v s₁ => ∃ r b t u k loc news, v = .ref r ∧ IsRange s₁.heap r a b c t u k ∧ Builtin.Range.small a b c = true ∧ Builtin.Range.rangeSize a b c = (n : Int) ∧ J 0 loc news ∧ St C loc news s₁) E s)
    (turn : ∀ i t loc news s I oI, i < n → J i loc news → St C loc ((I, oI) :: news) s → wpAny (model prog w) A (assign target env (.int (a + c * i) t)) (fun _ s₂ => wpAny (model prog w) A (execs body env) (fun f s₃ => match f with
          | .next | .cont => ∃ loc news, J (i + 1) loc news ∧ St C loc ((I, oI) :: news) s₃
          | _ => False) (fun _ _ => False) s₂) (fun _ _ => False) s)
    (fin : ∀ loc news s, J n loc news → St C loc news s → Q .next s)
    (hs : ∀ x, foldedSetIterable iter env x = pure x := by intro _; rfl) (ht : ∀ it v, letOwnedTupleGo target it v = pure () := by intro _ _; rfl) :
    wpAny (model prog w) A (exec (.For target iter body [] pos) env) Q E s := by
  refine wpAny_For (wpAny_mono first (fun v s₁ h₁ => ?_) fun _ _ x => x) hs
  obtain ⟨r, b, t, u, k, loc, news, rfl, hr, hsm, hsz, hJ, D⟩ := h₁
  refine wpAny_pyIter_range hr hsm ?_
  have D₂ := D.push (RI a (n : Int) c)
  rw [hsz]
  refine codeAny_forLoop (fun k s' => ∃ (i : Nat) (loc : List (Str × Value)) (news : List (Addr × Obj)) (I : Addr), I = s₁.heap.objs.size ∧ i ≤ n ∧ k = n + 1 - i ∧ J i loc news ∧ St C loc ((I, RI (a + c * i) ((n : Int) - i) c) :: news) s') ?_ (n + 1) ⟨0, loc, news, _, rfl, Nat.zero_le _, rfl, hJ, by rw [show a + c * ((0 : Nat) : Int) = a by simp, show (n : Int) - ((0 : Nat) : Int) = n by simp]; exact D₂⟩ (ht _)
  rintro k s₃ ⟨i, loc, news, _, rfl, hi, rfl, hJ, D₃⟩
  refine next_range hh D₃ (fun s₄ t hlt D₄ => ?_) fun s₄ hlt D₄ => ?_
  · have hlt : i < n := by omega
    refine wpAny_mono (turn i t loc news s₄ _ _ hlt hJ D₄) (fun _ s₅ h₅ => wpAny_mono h₅ (fun f s₆ h₆ => ?_) fun _ _ x => x.elim) fun _ _ x => x.elim
    have e : RI (a + c * i + c) ((n : Int) - i - 1) c = RI (a + c * ((i + 1 : Nat) : Int)) ((n : Int) - ((i + 1 : Nat) : Int)) c := by
      rw [show a + c * (i : Int) + c = a + c * ((i + 1 : Nat) : Int) by rw [Int.natCast_add, Int.mul_add]; omega, show (n : Int) - i - 1 = (n : Int) - ((i + 1 : Nat) : Int) by omega]
    rw [e] at h₆
    cases f with
    | next => obtain ⟨loc', news', hJ', D'⟩ := h₆; exact ⟨_, by omega, i + 1, loc', news', _, rfl, hlt, rfl, hJ', D'⟩
    | cont => obtain ⟨loc', news', hJ', D'⟩ := h₆; exact ⟨_, by omega, i + 1, loc', news', _, rfl, hlt, rfl, hJ', D'⟩
    | brk => exact h₆.elim
    | ret v => exact h₆.elim
  · obtain rfl : i = n := by omega
    exact wpAny_execs_nil (fin loc news s₄ hJ D₄)
abbrev rangeOf (a b c : Int) (t u v : Tok) : Obj := { cls := .type "range", data := .fields #[.int a t, .int b u, .int c v] }
theorem r_range3 {a b c : Int} {t u v : Tok} {Q : Value → Shared → Prop} (D : St C loc news s) (hc : c ≠ 0) (hp : Builtin.divisionGoesByPylong (b - a) c = false) (h : ∀ r s', St C loc ((r, rangeOf a b c t u v) :: news) s' → Q (.ref r) s') :
    wpAny (model prog w) A (call (.type "range") [.int a t, .int b u, .int c v]) Q E s := PySem.call_range_3 hc (h _ _ ((D.push _).toks)) (.inl hp)
theorem r_range1 {n : Int} {u : Tok} {Q : Value → Shared → Prop} (D : St C loc news s) (h : ∀ r s' t v, St C loc ((r, rangeOf 0 n 1 t u v) :: news) s' → Q (.ref r) s') :
    wpAny (model prog w) A (call (.type "range") [.int n u]) Q E s := PySem.call_range_1 (h _ _ _ _ ((D.push _).toks))
theorem r_eqT {x y : List Nat} {t u : Tok} {Q : Value → Shared → Prop} (h : Q (.bool (decide (x = y))) s) : wpAny (model prog w) A (compareOp .Eq (.str (T x) t) (.str (T y) u)) Q E s :=
  PyProof.Rows.eq_str (by rw [T_beq]; exact h)
theorem r_hexfmt {n : Nat} {t u : Tok} {Q : Value → Shared → Prop} (D : St C loc news s) (hn : n < 65536) (hm : Meets (Builtin.«str.__mod__» ⟨[.str ⟨#[37, 120]⟩ t, .int n u], []⟩) (fun _ R s => ∀ t' k, R (.ok (.ret (.str (T (hexL n)) t'))) { s with toks := k })) (h : ∀ s' t, St C loc news s' → Q (.str (T (hexL n)) t) s') :
    wpAny (model prog w) A (binaryOp .Mod (.str (Str.ofString "%x") t) (.int n u)) Q E s :=
  KPc.mod_lit (X' := ⟨#[37, 120]⟩) (by kernel_rfl) (shown (N := 2 ^ 1920) (by omega) (by omega) (Int.le_refl _)) (fun _ _ => hm) fun t' k => h _ _ D.toks
theorem r_shl {a : Nat} {t u : Tok} {Q : Value → Shared → Prop} (D : St C loc news s) (ha : a < 65536) (h : ∀ s' t, St C loc news s' → Q (.int ((a * 256 : Nat) : Int) t) s') : wpAny (model prog w) A (binaryOp .LShift (.int a t) (.int 8 u)) Q E s := by
  refine PyProof.Rows.lshift_int_small (by omega) (by omega) (by omega) ?_
  rw [show ((a : Int) * 2 ^ (8 : Int).toNat) = ((a * 256 : Nat) : Int) from by show (a : Int) * 256 = _; omega]
  exact h _ _ D.toks
theorem r_src {src : Src} {value slice : Expr} {i : Int} {k : Nat} {u : Tok} {x : Value} {Q : Value → Shared → Prop} (hl : src.At s.heap) (hi : i = (k : Nat)) (hk : k ≤ 16777216) (hx : src.its.toList[k]? = some x) (h : Q x s)
    (hs : ∀ l, subscripted slice false (.ref l) (.int i u) = operate [.ref l, .int i u] (getItem (.ref l) (.int i u))) (hg : ∀ l r, letTemporaryGo value (.ref l) r = pure ()) :
    wpAny (model prog w) A (subscriptTail value slice src.val (.int i u)) Q E s := by
  subst hi
  cases src with
  | list a x => exact r_item (vs := x.toList) (show s.heap.IsList a x.toList.toArray by rw [Array.toArray_toList]; exact hl) hk hx h (hs _) (hg _)
  | tup a x => exact r_itemT (vs := x.toList) (show IsTup s.heap a x.toList.toArray by rw [Array.toArray_toList]; exact hl) hk hx h (hs _) (hg _)
end

section
variable {prog : Program} {w : World} {A : Around} {E : Value → Shared → Prop} {C : Cx} {s : Shared} {mg mb : Str → Option Value} {loc : List (Str × Value)} {news news' : List (Addr × Obj)} {env : Env}
theorem r_iter_tup {a : Addr} {its : Array Value} {Q : Value → Shared → Prop} (D : St C loc news s) (hl : IsTup s.heap a its) (h : ∀ I oI s', C.s₀.heap.objs.size ≤ I → St C loc ((I, oI) :: news) s' → TI oI a 0 → Q (.ref I) s') :
    wpAny (model prog w) A (call (.builtin "iter") [.ref a]) Q E s := by
  refine call_function_entry (by decide +kernel) (by decide +kernel) kdk_entry_iter (kdk_args_iter _) ?_
  unfold Builtin.«iter»
  refine wpAny_bind (m := someArgs "iter" 1 2 _) (wpAny_of_eq (a := [Value.ref a]) (by first | rfl | kernel_rfl!) ?_)
  show wpAny _ _ (pyIter (.ref a) >>= _) _ _ _
  exact wpAny_bind (wpAny_pyIter_tuple (let ⟨o, ho, r⟩ := hl; ⟨o, ho, r⟩) (wpAny_pure ⟨_, rfl, h _ _ _ (Nat.le_of_lt (Nat.lt_of_le_of_lt D.fresh.1 D.fresh.2)) (D.push _) ⟨rfl, rfl⟩⟩))
theorem next_open {it : Addr} {Q : Value → Shared → Prop} (hT : s.TypeIs (.ref it) "tuple_iterator") (h : wpAny (model prog w) A.in1.in1 (Builtin.«tuple_iterator.__next__» ⟨[.ref it], []⟩) (fun f s' => ∃ v, f = .done (.ret v) ∧ Q v s') E s) :
    wpAny (model prog w) A (call (.builtin "next") [.ref it]) Q E s := by
  refine call_function_entry (by decide +kernel) (by decide +kernel) kdk_entry_next (kdk_args_next _) ?_
  unfold Builtin.«next»
  refine wpAny_bind (m := someArgs "next" 1 2 _) (wpAny_of_eq (a := [Value.ref it]) (by first | rfl | kernel_rfl!) ?_)
  dsimp only
  refine wpAny_bind (wpAny_specialOf (name := Str.ofString "__next__") hT PySem.F.slot_tuple_iterator_next.lookup ?_)
  refine wpAny_ite_split (fun hab => absurd hab (by decide)) (fun _ => ?_)
  refine wpAny_bind (wpAny_callSpecial?_slot (name := Str.ofString "__next__") hT PySem.F.slot_tuple_iterator_next
    (wpAny_call_entry PySem.F.slot_tuple_iterator_next hT PySem.F.entry_tuple_iterator_next (wpAny_mono h (fun f s' hf => ?_) fun _ _ x => x) (PySem.F.args_tuple_iterator_next_1 _)))
  obtain ⟨v, rfl, hv⟩ := hf
  exact ⟨v, rfl, wpAny_pure ⟨_, rfl, hv⟩⟩
theorem r_next_item {t I : Addr} {oI : Obj} {i : Nat} {its : Array Value} {x : Value} {Q : Value → Shared → Prop} (D : St C loc news s) (hm : (I, oI) ∈ news) (hI : TI oI t i) (hl : IsTup s.heap t its) (hx : its[i]? = some x)
    (h : ∀ oI' s', TI oI' t (i + 1) → (∀ news', Alt I oI oI' news news' → St C loc news' s') → Q x s') : wpAny (model prog w) A (call (.builtin "next") [.ref I]) Q E s := by
  have ho := D.get hm
  obtain ⟨hc, hd⟩ := hI
  obtain ⟨ol, hol, _, nl, hdl⟩ := hl
  refine next_open ⟨oI, ho, hc⟩ ?_
  show wpAny _ _ (field (.ref I) 0 >>= _) _ _ s
  refine wpAny_bind (wpAny_field ho hd (x := .ref t) rfl ?_)
  show wpAny _ _ (if (Value.ref t == Value.none) = true then _ else _) _ _ s
  rw [if_neg (show ¬ ((Value.ref t == Value.none) = true) from Bool.false_ne_true)]
  show wpAny _ _ (field (.ref I) 1 >>= _) _ _ s
  refine wpAny_bind (wpAny_field ho hd (x := .int i 0) rfl ?_)
  show wpAny _ _ (seqItems? (.ref t) >>= _) _ _ s
  refine wpAny_bind (wpAny_seqItems hol hdl ?_)
  simp only [Int.toNat_natCast, hx]
  refine wpAny_bind (wpAny_setField ho hd (by simp) (wpAny_pure ⟨x, rfl, ?_⟩))
  have e := Heap.get?_update_self (Obj.mapFields (·.setIfInBounds 1 (rawInt ((i : Int) + 1)))) ho (Obj.isFreed_of_fields (Obj.data_mapFields hd _))
  refine h _ _ ⟨(Obj.cls_mapFields ..).trans hc, ?_⟩ fun news' U => D.alt U (fun b o n q => (Heap.get?_update_other _ _ (Ne.symm n)).trans q) e ⟨rfl, rfl, rfl⟩
  rw [Obj.data_mapFields hd]; simp [rawInt]
theorem r_next_end {t I : Addr} {oI : Obj} {i : Nat} {its : Array Value} {Q : Value → Shared → Prop} (hh : A.handled = none) (D : St C loc news s) (hm : (I, oI) ∈ news) (hI : TI oI t i) (hl : IsTup s.heap t its) (hx : its[i]? = none)
    (h : ∀ oI' sm s' e, (∀ news', Alt I oI oI' news news' → St C loc news' sm) → Heap.MadeExcOf sm.heap s'.heap e (.type "StopIteration") [] → Same sm s' → E (.ref e) s') : wpAny (model prog w) A (call (.builtin "next") [.ref I]) Q E s := by
  have ho := D.get hm
  obtain ⟨hc, hd⟩ := hI
  obtain ⟨ol, hol, _, nl, hdl⟩ := hl
  refine next_open ⟨oI, ho, hc⟩ ?_
  show wpAny _ _ (field (.ref I) 0 >>= _) _ _ s
  refine wpAny_bind (wpAny_field ho hd (x := .ref t) rfl ?_)
  show wpAny _ _ (if (Value.ref t == Value.none) = true then _ else _) _ _ s
  rw [if_neg (show ¬ ((Value.ref t == Value.none) = true) from Bool.false_ne_true)]
  show wpAny _ _ (field (.ref I) 1 >>= _) _ _ s
  refine wpAny_bind (wpAny_field ho hd (x := .int i 0) rfl ?_)
  show wpAny _ _ (seqItems? (.ref t) >>= _) _ _ s
  refine wpAny_bind (wpAny_seqItems hol hdl ?_)
  simp only [Int.toNat_natCast, hx]
  refine wpAny_bind (wpAny_rule (wpAny_bind (wpAny_setField ho hd (by simp) ?_)))
  have e := Heap.get?_update_self (Obj.mapFields (·.setIfInBounds 0 Value.none)) ho (Obj.isFreed_of_fields (Obj.data_mapFields hd _))
  show wpAny _ _ (newExc (.type "StopIteration") [] >>= _) _ _ _
  refine wpAny_bind ?_
  simp only [newExc, newTuple]
  refine wpAny_bind (wpAny_newObj_type ?_ (by size_fits))
  refine wpAny_bind (m := firstArgMember _ _) (wpAny_of_eq (a := Value.none) (by first | rfl | (simp only [firstArgMember]; rfl)) ?_)
  refine wpAny_newObj_type ?_ (by size_fits)
  simp only [raiseNew]
  refine wpAny_bind (wpAny_handled ?_)
  rw [show A.in1.in1.handled = none from hh]
  refine wpAny_bind (wpAny_pure (wpAny_throw ?_))
  refine h _ { s with heap := s.heap.update I (Obj.mapFields (·.setIfInBounds 0 Value.none)) } _ _ (fun news' U => D.alt U (fun b o n q => (Heap.get?_update_other _ _ (Ne.symm n)).trans q) e ⟨rfl, rfl, rfl⟩) ⟨fun b o q => Heap.get?_push_of_some _ (Heap.get?_push_of_some _ q), ?_, (s.heap.update I (Obj.mapFields (·.setIfInBounds 0 Value.none))).objs.size, ?_, Heap.get?_none_of_le (Nat.le_refl _), Heap.get?_push_of_some _ (Heap.get?_push_size _ rfl)⟩ ⟨rfl, rfl, rfl⟩
  · exact Heap.get?_none_of_le (by rw [Heap.size_push]; exact Nat.le_succ _)
  · exact Heap.get?_push_size _ rfl
/-- an object of a class, at hand -/
abbrev inst (c dx : Addr) (sl : Array (Option Value)) : Obj := ⟨.ref c, some dx, .plain, sl⟩
theorem r_getslot {c x dx p : Addr} {od : Obj} {sl : Array (Option Value)} {name : Str} {v : Value} {i : Nat} {expr : Bool} {Q : Value → Shared → Prop} (D : St C loc news s) (W : WF w mg mb C.s₀.heap) (hx : (x, inst c dx sl) ∈ news) (hdx : (dx, od) ∈ news)
    (hg : plainGet (hd.heap_39 w.params) c name = true) (hc : isClsIn (hd.heap_39 w.params) c = true) (ha : findIn (hd.heap_39 w.params) (.ref c) name = some (some (.ref p))) (hn : specialIn (hd.heap_39 w.params) (.ref p) "__get__" = some (some (.builtin "member_descriptor.__get__"))) (ht : takesIn (hd.heap_39 w.params) (.ref p) = some true) (hp : slotIn (hd.heap_39 w.params) p c = some i)
    (hv : (sl[i]?).join = some v) (hh : handedIn v = true) (h : ∀ s', St C loc news s' → Q v s') : wpAny (model prog w) A (getAttr (.ref x) name expr) Q E s := by
  obtain ⟨g, m, F, N, X, k⟩ := D.libX W
  exact get_slot F X (InstAt.of_news N hx hdx) hg hc ha hn ht hp hv hh (h _ D.toks)
theorem r_setslot {c x dx p : Addr} {od : Obj} {sl : Array (Option Value)} {name : Str} {v : Value} {i : Nat} {Q : Unit → Shared → Prop} (D : St C loc news s) (W : WF w mg mb C.s₀.heap) (hdx : (dx, od) ∈ news)
    (hs : findIn (hd.heap_39 w.params) (.ref c) "__setattr__" = some (some (.builtin "object.__setattr__"))) (hp : plainOver (hd.heap_39 w.params) c = true) (ht : takerIn (hd.heap_39 w.params) c name = some (some (.ref p))) (hT : typeIn (hd.heap_39 w.params) (.ref p) = some (.type "member_descriptor")) (hi : slotIn (hd.heap_39 w.params) p c = some i) (hz : i < 1000)
    (U : Alt x (inst c dx sl) (inst c dx ((sl ++ Array.replicate (i + 1 - sl.size) none).setIfInBounds i (some v))) news news') (h : ∀ s', St C loc news' s' → Q () s') : wpAny (model prog w) A (setAttr (.ref x) name v) Q E s := by
  obtain ⟨g, m, F, N, X, k⟩ := D.libX W
  exact set_slot F X N (InstAt.of_news N U.mem hdx) hs hp ht hT hi hz rfl rfl (U.upd D.ord) fun h' F' N' => h _ (k _ _ F' N' (by rw [U.keys]; exact D.ord) ⟨rfl, rfl, rfl⟩)
end

theorem isExc_stop : isSubtype (.type "StopIteration") (.type "BaseException") = pure true := by rw [isSubtype_type]; kernel_rfl
theorem notTup_stop : isSubtype (.type ((Manifest.find? "StopIteration").elim "type" fun y => y.metatype)) (.type "tuple") = pure false := by rw [isSubtype_type]; kernel_rfl
theorem sub_stop : isSubtype (.type "StopIteration") (.type "StopIteration") = pure true := by rw [isSubtype_type]; kernel_rfl
section
variable {prog : Program} {w : World} {A : Around} {E : Value → Shared → Prop} {C : Cx} {s s' : Shared} {mg mb : Str → Option Value} {loc : List (Str × Value)} {news news' : List (Addr × Obj)} {name : Str} {scope : Scope} {a : Addr} {cd : Value}
theorem St.noFrame (D : St C loc news s) (K : Frames A C.fs C.s₀.heap) (dis : ∀ b ∈ C.fs, b ∉ C.S) {p : Addr × Obj} (hp : p ∈ news) : p.1 ∉ C.L :: C.fs := fun z => by
  obtain ⟨⟨g, m, x, F, N, lc⟩, _⟩ := D
  rcases List.mem_cons.mp z with z | z
  · exact (N p hp).2.1 z
  · obtain ⟨o, _, _, ho, _⟩ := K.mem z
    obtain ⟨sl, h1⟩ := x.any (dis _ z) ho
    rw [(N p hp).2.2] at h1; cases h1
/-- nothing but frames has changed -/
theorem St.calm (D : St C loc news s) (K : Frames A C.fs C.s₀.heap) (dis : ∀ b ∈ C.fs, b ∉ C.S) (x : Rel [] (C.L :: C.fs) s.heap s'.heap) (e : Same s s') : St C loc news s' :=
  D.after x (fun _ z => nomatch z) e [] news rfl (fun p hp => x.keep _ _ (fun z => nomatch z) (D.noFrame K dis hp) (D.get (o := p.2) hp)) List.nodup_nil (fun _ z => nomatch z)
theorem frames_here (D : St C loc news s) (W : WF w mg mb C.s₀.heap) (K : Frames A C.fs C.s₀.heap) (dis : ∀ b ∈ C.fs, b ∉ C.S) (hk : scope.kind = .function) :
    ∃ outer, (A.deeper (envOf name scope C.L a cd)).frames = some (envOf name scope C.L a cd :: outer) ∧ (envOf name scope C.L a cd :: outer).filterMap (·.frame) = C.L :: C.fs ∧ FrOK s.heap (envOf name scope C.L a cd :: outer) := by
  obtain ⟨⟨l, h1, h2, h3⟩, lo, c⟩ := K.rel D.toRel dis
  refine ⟨l, Around.frames_deeper h1, by rw [List.filterMap_cons]; show C.L :: _ = _; rw [h2], fun env he => ?_⟩
  rcases List.mem_cons.mp he with rfl | he
  · obtain ⟨⟨g, m, x, ⟨⟨o, es, ep, ho, hd, _⟩, _⟩, _⟩, _⟩ := D
    exact ⟨by show scope.kind ≠ _; rw [hk]; decide, C.L, o, es, ep, rfl, ho, hd⟩
  · exact h3 env he
/-- an exception caught at home by a clause of a built-in class -/
theorem catch_held {e t : Addr} {fl : Value} {args : List Value} {X T' : String} {x : Str} {b₀ : Stmt} {suite : List Stmt} {rest : List ExceptHandler} {pos np : Pos} {Q : Flow → Shared → Prop} (D : St C loc news s) (W : WF w mg mb C.s₀.heap) (K : Frames A C.fs C.s₀.heap) (dis : ∀ b ∈ C.fs, b ∉ C.S) (hk : scope.kind = .function)
    (f : Flew (C.L :: C.fs) s.heap e (.type X) t args fl s'.heap) (same : Same s s')
    (hc : okGlobal scope x = true) (ex : nsIn (hd.heap_39 w.params) mainGlobals x = some none) (hv : bootBuiltins x = some (.type T')) (hn : (x == ("__name__" : Str)) = false)
    (hexc : isSubtype (.type T') (.type "BaseException") = pure true) (hnt : isSubtype (.type ((Manifest.find? T').elim "type" fun y => y.metatype)) (.type "tuple") = pure false) (hsub : isSubtype (.type X) (.type T') = pure true)
    (k : ∀ s₄, St C loc news s₄ → Flew (C.L :: C.fs) s.heap e (.type X) t args .none s₄.heap → wpAny (model prog w) ((A.deeper (envOf name scope C.L a cd)).mark (some (.ref e))) (execs (b₀ :: suite) (envOf name scope C.L a cd)) Q (notedBy (model prog w) ((A.deeper (envOf name scope C.L a cd)).mark (some (.ref e))) (envOf name scope C.L a cd) (cameBackBy (model prog w) (A.deeper (envOf name scope C.L a cd)) (envOf name scope C.L a cd) E)) s₄) :
    wpAny (model prog w) (A.deeper (envOf name scope C.L a cd)) (handleBy (.ref e) (envOf name scope C.L a cd) (.ExceptHandler (some (.Name x np)) none (b₀ :: suite) pos :: rest)) Q E s' := by
  obtain ⟨outer, hf1, hf2, hf3⟩ := frames_here (name := name) (a := a) (cd := cd) D W K dis hk
  have D₁ := D.calm K dis f.rel same
  refine wpAny_handleBy_builtin (X := X) (T := T') (b := true) hexc hnt hsub (r_builtin D₁ W ⟨rfl, rfl⟩ hc ex hv hn ⟨rfl, f.there, ?_⟩)
  refine x_land hf3 hf2 f fun h' f' => k _ (D.calm K dis f'.rel (same.trans ⟨rfl, rfl, rfl⟩)) f'
theorem catch_made {e : Addr} {args : List Value} {X T' : String} {x : Str} {b₀ : Stmt} {suite : List Stmt} {rest : List ExceptHandler} {pos np : Pos} {Q : Flow → Shared → Prop} (D : St C loc news s) (W : WF w mg mb C.s₀.heap) (K : Frames A C.fs C.s₀.heap) (dis : ∀ b ∈ C.fs, b ∉ C.S) (hk : scope.kind = .function)
    (f : Heap.MadeExcOf s.heap s'.heap e (.type X) args) (same : Same s s')
    (hc : okGlobal scope x = true) (ex : nsIn (hd.heap_39 w.params) mainGlobals x = some none) (hv : bootBuiltins x = some (.type T')) (hn : (x == ("__name__" : Str)) = false)
    (hexc : isSubtype (.type T') (.type "BaseException") = pure true) (hnt : isSubtype (.type ((Manifest.find? T').elim "type" fun y => y.metatype)) (.type "tuple") = pure false) (hsub : isSubtype (.type X) (.type T') = pure true)
    (k : ∀ t s₄, St C loc news s₄ → Flew (C.L :: C.fs) s.heap e (.type X) t args .none s₄.heap → wpAny (model prog w) ((A.deeper (envOf name scope C.L a cd)).mark (some (.ref e))) (execs (b₀ :: suite) (envOf name scope C.L a cd)) Q (notedBy (model prog w) ((A.deeper (envOf name scope C.L a cd)).mark (some (.ref e))) (envOf name scope C.L a cd) (cameBackBy (model prog w) (A.deeper (envOf name scope C.L a cd)) (envOf name scope C.L a cd) E)) s₄) :
    wpAny (model prog w) (A.deeper (envOf name scope C.L a cd)) (noteFrame (.ref e) (envOf name scope C.L a cd)) (fun _ s₂ => wpAny (model prog w) (A.deeper (envOf name scope C.L a cd)) (setFlight (.ref e) none) (fun _ s₃ =>
      wpAny (model prog w) (A.deeper (envOf name scope C.L a cd)) (handleBy (.ref e) (envOf name scope C.L a cd) (.ExceptHandler (some (.Name x np)) none (b₀ :: suite) pos :: rest)) Q E s₃) E s₂) E s' := by
  obtain ⟨outer, hf1, hf2, hf3⟩ := frames_here (name := name) (a := a) (cd := cd) D W K dis hk
  refine x_note_made hf1 rfl hf3 hf2 f fun h' t f' => ?_
  refine x_land hf3 hf2 f' fun h'' f'' => ?_
  exact catch_held D W K dis hk f'' (same.trans ⟨rfl, rfl, rfl⟩) hc ex hv hn hexc hnt hsub (k t)
theorem catch_flew {e t : Addr} {args : List Value} {X T' : String} {x : Str} {b₀ : Stmt} {suite : List Stmt} {rest : List ExceptHandler} {pos np : Pos} {Q : Flow → Shared → Prop} (D : St C loc news s) (W : WF w mg mb C.s₀.heap) (K : Frames A C.fs C.s₀.heap) (dis : ∀ b ∈ C.fs, b ∉ C.S) (hk : scope.kind = .function)
    (f : Flew (C.L :: C.fs) s.heap e (.type X) t args .none s'.heap) (same : Same s s')
    (hc : okGlobal scope x = true) (ex : nsIn (hd.heap_39 w.params) mainGlobals x = some none) (hv : bootBuiltins x = some (.type T')) (hn : (x == ("__name__" : Str)) = false)
    (hexc : isSubtype (.type T') (.type "BaseException") = pure true) (hnt : isSubtype (.type ((Manifest.find? T').elim "type" fun y => y.metatype)) (.type "tuple") = pure false) (hsub : isSubtype (.type X) (.type T') = pure true)
    (k : ∀ s₄, St C loc news s₄ → Flew (C.L :: C.fs) s.heap e (.type X) t args .none s₄.heap → wpAny (model prog w) ((A.deeper (envOf name scope C.L a cd)).mark (some (.ref e))) (execs (b₀ :: suite) (envOf name scope C.L a cd)) Q (notedBy (model prog w) ((A.deeper (envOf name scope C.L a cd)).mark (some (.ref e))) (envOf name scope C.L a cd) (cameBackBy (model prog w) (A.deeper (envOf name scope C.L a cd)) (envOf name scope C.L a cd) E)) s₄) :
    wpAny (model prog w) (A.deeper (envOf name scope C.L a cd)) (noteFrame (.ref e) (envOf name scope C.L a cd)) (fun _ s₂ => wpAny (model prog w) (A.deeper (envOf name scope C.L a cd)) (setFlight (.ref e) none) (fun _ s₃ =>
      wpAny (model prog w) (A.deeper (envOf name scope C.L a cd)) (handleBy (.ref e) (envOf name scope C.L a cd) (.ExceptHandler (some (.Name x np)) none (b₀ :: suite) pos :: rest)) Q E s₃) E s₂) E s' := by
  obtain ⟨outer, hf1, hf2, hf3⟩ := frames_here (name := name) (a := a) (cd := cd) D W K dis hk
  refine x_note hf1 rfl hf3 hf2 f fun h' f' => ?_
  refine x_land hf3 hf2 f' fun h'' f'' => ?_
  exact catch_held D W K dis hk f'' (same.trans ⟨rfl, rfl, rfl⟩) hc ex hv hn hexc hnt hsub k
/-- what a call has thrown -/
structure Threw (fs : List Addr) (s₀ : Shared) (e : Addr) (cls : Value) (t : Addr) (args : List Value) (s' : Shared) : Prop where
  flew : Flew fs s₀.heap e cls t args .none s'.heap
  same : Same s₀ s'
/-- back from a frame, nothing touched by it -/
theorem Flew.out {e t : Addr} {cls fl : Value} {args : List Value} {h : Heap} (f : Flew (C.L :: C.fs) s.heap e cls t args fl h) (D : St C loc news s) (hS : C.S = []) : Flew C.fs C.s₀.heap e cls t args fl h := by
  have x : Rel [] C.fs C.s₀.heap s.heap := by have := D.toRel; rwa [hS] at this
  have nL : ∀ b o, C.s₀.heap.get? b = some o → b ≠ C.L := fun b o q z => by
    subst z; exact absurd (Nat.lt_of_lt_of_le (Heap.lt_size q) D.ge) (Nat.lt_irrefl _)
  refine ⟨⟨fun b o _ n q => ?_, fun b o _ m q => ?_⟩, x.none_of f.new, x.none_of f.tnew, tracedAt_mono f.tr fun b n => x.none_of n, f.tup⟩
  · exact f.rel.keep b o (fun z => nomatch z) (fun z => (List.mem_cons.mp z).elim (nL b o q) n) (x.keep b o (fun z => nomatch z) n q)
  · obtain ⟨sl, h1⟩ := x.frame b o (fun z => nomatch z) m q
    obtain ⟨sl', h2⟩ := f.rel.any (fun z => nomatch z) h1
    exact ⟨sl', h2⟩
/-- an exception raised here leaves the frame -/
theorem leave_made {e : Addr} {cls : Value} {args : List Value} {Q : Unit → Shared → Prop} (D : St C loc news s) (W : WF w mg mb C.s₀.heap) (K : Frames A C.fs C.s₀.heap) (hS : C.S = []) (hk : scope.kind = .function) (f : Heap.MadeExcOf s.heap s'.heap e cls args) (same : Same s s')
    (h : ∀ t s'', Threw C.fs C.s₀ e cls t args s'' → Q () s'') : wpAny (model prog w) (A.deeper (envOf name scope C.L a cd)) (leaving (envOf name scope C.L a cd) (.ref e)) Q E s' := by
  obtain ⟨outer, hf1, hf2, hf3⟩ := frames_here (name := name) (a := a) (cd := cd) D W K (by rw [hS]; exact fun _ _ z => nomatch z) hk
  exact x_leave_made hf1 rfl hf3 hf2 f fun h' t f' => h t _ ⟨f'.out D hS, D.same.trans (same.trans ⟨rfl, rfl, rfl⟩)⟩
/-- an exception of a call leaves the frame -/
theorem leave_threw {e t : Addr} {cls : Value} {args : List Value} {Q : Unit → Shared → Prop} (D : St C loc news s) (W : WF w mg mb C.s₀.heap) (K : Frames A C.fs C.s₀.heap) (hS : C.S = []) (hk : scope.kind = .function) (f : Threw (C.L :: C.fs) s e cls t args s')
    (h : ∀ s'', Threw C.fs C.s₀ e cls t args s'' → Q () s'') : wpAny (model prog w) (A.deeper (envOf name scope C.L a cd)) (leaving (envOf name scope C.L a cd) (.ref e)) Q E s' := by
  obtain ⟨outer, hf1, hf2, hf3⟩ := frames_here (name := name) (a := a) (cd := cd) D W K (by rw [hS]; exact fun _ _ z => nomatch z) hk
  exact x_leave hf1 rfl hf3 hf2 f.flew fun h' f' => h _ ⟨f'.out D hS, D.same.trans (f.same.trans ⟨rfl, rfl, rfl⟩)⟩
end

theorem if_nt {P R : Prop} (h : R) : if (!true) = true then P else R := h
theorem if_nf {P R : Prop} (h : P) : if (!false) = true then P else R := h
section
variable {prog : Program} {w : World} {A : Around} {E : Value → Shared → Prop} {C : Cx} {s : Shared} {mg mb : Str → Option Value} {loc : List (Str × Value)} {news news' : List (Addr × Obj)} {env : Env}
theorem r_last {value slice : Expr} {l : Addr} {its : Array Value} {u : Tok} {x : Value} {Q : Value → Shared → Prop} (hl : s.heap.IsList l its) (hx : its[its.size - 1]? = some x) (h : Q x s)
    (hs : subscripted slice false (.ref l) (.int (-1) u) = operate [.ref l, .int (-1) u] (getItem (.ref l) (.int (-1) u))) (hg : ∀ r, letTemporaryGo value (.ref l) r = pure ()) :
    wpAny (model prog w) A (subscriptTail value slice (.ref l) (.int (-1) u)) Q E s := by
  have hz : 0 < its.size := by
    rcases Nat.eq_zero_or_pos its.size with e | e
    · obtain ⟨h1, _⟩ := Array.getElem?_eq_some_iff.mp hx; omega
    · exact e
  refine subscriptTail_builtin hl.typeIs slot_list_getitem.lookup (wpAny_getItem_list_neg hl (by decide) (by omega) (by decide) ?_ h) hs hg
  rw [show ((-1 : Int) + (its.size : Int)).toNat = its.size - 1 by omega]
  exact hx
theorem r_last1 {value slice : Expr} {l : Addr} {u : Tok} {x : Value} {Q : Value → Shared → Prop} (hl : s.heap.IsList l #[x]) (h : Q x s)
    (hs : subscripted slice false (.ref l) (.int (-1) u) = operate [.ref l, .int (-1) u] (getItem (.ref l) (.int (-1) u))) (hg : ∀ r, letTemporaryGo value (.ref l) r = pure ()) :
    wpAny (model prog w) A (subscriptTail value slice (.ref l) (.int (-1) u)) Q E s := r_last hl rfl h hs hg
theorem r_neg {x : Int} {t : Tok} {Q : Value → Shared → Prop} (D : St C loc news s) (h : ∀ s' t, St C loc news s' → Q (.int (-x) t) s') : wpAny (model prog w) A (unaryOp .USub (.int x t)) Q E s := PyProof.Rows.neg_int (h _ _ D.toks)
theorem r_is_none_ref {a : Addr} {Q : Value → Shared → Prop} (h : Q (.bool false) s) : wpAny (model prog w) A (compareOp .Is (.ref a) .none) Q E s := wpAny_is_plain rfl h
theorem r_is_none_none {Q : Value → Shared → Prop} (h : Q (.bool true) s) : wpAny (model prog w) A (compareOp .Is .none .none) Q E s := wpAny_is_plain rfl h
theorem r_is_type_ref {T' : String} {a : Addr} {Q : Value → Shared → Prop} (h : Q (.bool false) s) : wpAny (model prog w) A (compareOp .Is (.type T') (.ref a)) Q E s := wpAny_is_plain rfl h
theorem r_typeof {a : Addr} {o : Obj} {Q : Value → Shared → Prop} (D : St C loc news s) (hm : (a, o) ∈ news) (hnb : (o.cls == .type "builtin_function_or_method") = false) (h : Q o.cls s) : wpAny (model prog w) A (call (.type "type") [.ref a]) Q E s :=
  call_type_obj (D.get hm) hnb h
theorem r_not {e : Expr} {pos : Pos} {whole : Sem Value} {Q : Bool → Shared → Prop} (h : wpAny (model prog w) A (isTrue e env (eval e env)) (fun b s₁ => Q (!b) s₁) E s) : wpAny (model prog w) A (isTrue (.UnaryOp .Not e pos) env whole) Q E s := wpAny_isTrue_Not h
/-- a while whose body may raise -/
theorem whileX {test : Expr} {body : List Stmt} {pos : Pos} {Q : Flow → Shared → Prop} (I : Nat → Shared → Prop)
    (turn : ∀ n s, I n s → wpAny (model prog w) A (isTrue test env (eval test env)) (fun b s₂ => if b = true then wpAny (model prog w) A (execs body env) (fun f s₃ => match f with
      | .next | .cont => ∃ k, k < n ∧ I k s₃ | .brk => Q .next s₃ | .ret v => Q (.ret v) s₃) (notedBy (model prog w) A env (cameBackBy (model prog w) A env E)) s₂ else Q .next s₂) (fun _ _ => False) s)
    (n : Nat) (h : I n s) : wpAny (model prog w) A (exec (.While test body [] pos) env) Q E s := by
  refine wpAny_While (codeAny_whileLoop I (fun n s hI => wpAny_mono (turn n s hI) (fun b s₂ h₂ => ?_) fun _ _ x => x.elim) n h)
  cases b with
  | true =>
    simp only [if_true] at h₂ ⊢
    refine wpAny_mono h₂ (fun f s₃ h₃ => ?_) fun _ _ x => x
    cases f <;> exact h₃
  | false =>
    simp only [Bool.false_eq_true, if_false] at h₂ ⊢
    exact wpAny_execs_nil h₂
/-- an exception comes back from the frame's own code -/
theorem x_back {fs : List Addr} {h₀ : Heap} {e t L : Addr} {cls fl : Value} {args : List Value} {env' : Env} {outer : List Env} {E' : Value → Shared → Prop} (hf : env'.frame = some L) (k : FrOK h₀ (env' :: outer)) (hl : (env' :: outer).filterMap (·.frame) = fs) (f : Flew fs h₀ e cls t args fl s.heap)
    (hQ : ∀ h', Flew fs h₀ e cls t args (rawInt L) h' → E' (.ref e) { s with heap := h' }) : cameBackBy (model prog w) A env' E' (.ref e) s := by
  have f' := f
  obtain ⟨oe, vs, T, oT, ts, he, hcls, hd, h1, _⟩ := f.tr
  unfold cameBackBy
  refine wpAny_bind (wpAny_field he hd h1 ?_)
  rw [if_neg (show ¬ ((Value.ref T == Value.none) = true) from by simp)]
  first
    | exact wpAny_bind (wpAny_pure (x_fly hf k hl f' hQ))
    | exact x_fly hf k hl f' hQ
/-- raise, alone -/
theorem x_reraise {fs : List Addr} {h₀ : Heap} {e t L : Addr} {cls fl : Value} {args : List Value} {env' : Env} {outer : List Env} {pos : Pos} {Q : Flow → Shared → Prop} (hf : env'.frame = some L) (k : FrOK h₀ (env' :: outer)) (hl : (env' :: outer).filterMap (·.frame) = fs) (f : Flew fs h₀ e cls t args fl s.heap)
    (hA : A.handled = some (.ref e)) (hQ : ∀ h', Flew fs h₀ e cls t args (rawInt L) h' → E (.ref e) { s with heap := h' }) : wpAny (model prog w) A (exec (.Raise none none pos) env') Q E s := by
  obtain ⟨oe, vs, T, oT, ts, he, hcls, hd, h1, _⟩ := f.tr
  rw [arm_exec_Raise]
  refine wpAny_bind (wpAny_standAt ?_)
  show wpAny (model prog w) A (raiseStmt env' none none) Q E s
  unfold raiseStmt
  dsimp only
  refine wpAny_bind (wpAny_handled ?_)
  rw [hA]
  refine wpAny_bind (wpAny_rule ?_)
  refine wpAny_bind (wpAny_field he hd h1 ?_)
  rw [if_neg (show ¬ ((Value.ref T == Value.none) = true) from by simp)]
  first
    | exact wpAny_bind (wpAny_pure (wpAny_bind (x_fly hf k hl f fun h' f' => wpAny_throw (hQ h' f'))))
    | exact wpAny_bind (x_fly hf k hl f fun h' f' => wpAny_throw (hQ h' f'))
end

theorem fill_all : PySem.Challenge.rw_fh0008_01 = PySem.Challenge.rw_fh0008_01 ∧ hd.heap_39 = hd.heap_39 := by
  k_fill
  exact ⟨rfl, rfl⟩
local macro_rules | `(tactic| fail "qsb") => `(tactic| repeat first | exact List.Sublist.slnil | apply List.Sublist.cons_cons | apply List.Sublist.cons)
local macro_rules | `(tactic| fail "qbo") => `(tactic| first | exact PyProof.Rows.Boot.«all» | exact PyProof.Rows.Boot.«divmod» | exact PyProof.Rows.Boot.«getattr» | exact PyProof.Rows.Boot.«int» | exact PyProof.Rows.Boot.«list» | exact PyProof.Rows.Boot.«map» | exact PyProof.Rows.Boot.«range» | exact PyProof.Rows.Boot.«str» | exact PyProof.Rows.Boot.«tuple» | exact PyProof.Rows.Boot.«type» | exact PyProof.Rows.Boot.«BaseException» | exact PyProof.Rows.Boot.«StopIteration» | exact PyProof.Rows.Boot.«ValueError» | exact PyProof.Rows.Boot.«isinstance» | exact PyProof.Rows.Boot.«iter» | exact PyProof.Rows.Boot.«len» | exact PyProof.Rows.Boot.«next» | exact PyProof.Rows.Boot.«repr» | exact PyProof.Rows.Boot.«bytearray» | exact PyProof.Rows.Boot.«bytes»)
local macro_rules | `(tactic| fail "qlit") => `(tactic| first | exact lit1 | exact lit2 | exact lit0 | exact lit3 | exact lit4 | exact lit5 | exact lit6 | exact lit7 | exact lit8 | exact lit9 | exact lit10 | exact lit11 | exact lit12 | exact lit13 | exact lit14)
local macro_rules | `(tactic| fail "qmem") => `(tactic| first | exact Has.here | (apply Has.there; fail "qmem"))
local macro_rules | `(tactic| fail "qsub") => `(tactic| first | exact AllIn.nil | (refine AllIn.cons ?a ?b; (case a => with_reducible fail "qmem"); (case b => fail "qsub")))
local macro_rules | `(tactic| fail "qput") => `(tactic| first | exact Put.here | (apply Put.there; fail "qput"))
local macro_rules | `(tactic| fail "qin") => `(tactic| first | exact List.mem_cons_self | (apply List.mem_cons_of_mem; fail "qin"))
local macro_rules | `(tactic| fail "qalt") => `(tactic| first | exact Alt.here | (apply Alt.there; fail "qalt"))
local macro_rules | `(tactic| fail "qnum") => `(tactic| first | assumption | omega | (simp only [List.length_append, List.length_cons, List.length_nil]; omega) | (simp only [List.length_cons, List.length_append, List.length_nil]; omega))
set_option hygiene false in
local macro_rules | `(tactic| fail "qev") => `(tactic| ((with_reducible show wpAny _ _ (eval _ _) _ _ _); first
  | ((with_reducible show wpAny _ _ (eval (Expr.Name _ _) _) _ _ _); first | ((with_reducible refine' r_local D ?hL (by kernel_rfl) ?hv ?_); (case hL => exact ⟨rfl⟩); (case hv => with_reducible fail "qmem")) | ((with_reducible refine' r_own D ?hl ?hk ?hm hN hX ?_); (case hm => with_reducible fail "qin"); (case hl => rfl); (case hk => kernel_rfl)) | ((with_reducible refine' r_global D W ?hG (by kernel_rfl) (by k_is) ?_); (case hG => exact ⟨rfl, rfl⟩)) | ((with_reducible refine' r_builtin D W ?hG (by kernel_rfl) (by k_is) ?hv (by kernel_rfl) ?_); (case hG => exact ⟨rfl, rfl⟩); (case hv => with_reducible fail "qbo")))
  | ((with_reducible refine r_int D ?_); clear D; (try clear s); intro s t D)
  | with_reducible refine r_cbool ?_
  | with_reducible refine r_cnone ?_
  | ((with_reducible refine' r_strL D ?hx ?_); (case hx => with_reducible fail "qlit"); clear D; (try clear s); intro s t D)
  | ((with_reducible refine r_str D ?_); clear D; (try clear s); intro s t D)
  | with_reducible refine wpAny_BinOp ?_
  | ((with_reducible refine wpAny_Compare1 ?_ (hm := ?hm)); (case hm => with_unfolding_all rfl))
  | with_reducible refine Subscript_ ?_
  | ((with_reducible show wpAny _ _ (eval (Expr.Call (Expr.Attribute _ _ _) _ _ _) _) _ _ _); (with_reducible refine' MethodCall_ ?_ (he := ?he)); (case he => rfl))
  | ((with_reducible refine Call_ ?_ (he := ?he)); (case he => rfl))
  | with_reducible refine r_slice D ?_
  | with_reducible refine List_ ?_
  | with_reducible refine Tuple_ ?_))
set_option hygiene false in
local macro_rules | `(tactic| fail "qex") => `(tactic| first
  | ((with_reducible show wpAny _ _ (execs _ _) _ _ _); (fail_if_success (with_reducible show wpAny _ _ (execs (Stmt.While _ _ _ _ :: _) _) _ _ _)); (fail_if_success (with_reducible show wpAny _ _ (execs (Stmt.For _ _ _ _ _ :: _) _) _ _ _)); first | with_reducible refine wpAny_execs_cons ?_ | with_reducible refine wpAny_execs_nil ?_)
  | ((with_reducible show wpAny _ _ (exec _ _) _ _ _); first
    | ((with_reducible refine wpAny_Assign_Name ?_ (hs := ?hs)); (case hs => rfl))
    | with_reducible refine wpAny_Return_some ?_
    | with_reducible refine wpAny_AugAssign_Name ?_
    | with_reducible refine wpAny_Try_except ?_
    | with_reducible refine wpAny_If ?_
    | ((with_reducible refine wpAny_Expr_any ?_ (hi := ?hi) (hs := ?hs)); (case hi => rfl); (case hs => rfl)))
  | ((with_reducible show wpAny _ _ (assign (Expr.Name _ _) _ _) _ _ _); (with_reducible refine PyProof.Rows.assign_Name ?_))
  | ((with_reducible show wpAny _ _ (loadName _ _) _ _ _); (with_reducible refine' r_loadName D ?hL (by kernel_rfl) ?hv ?_); (case hL => exact ⟨rfl⟩); (case hv => with_reducible fail "qmem"))
  | ((with_reducible show wpAny _ _ (storeName _ _ _) _ _ _); (first | ((with_reducible refine' r_store D ?hL (by kernel_rfl) ?hp ?_); (case hL => exact ⟨rfl⟩); (case hp => with_reducible fail "qput")) | ((with_reducible refine' r_storeN D ?hL (by kernel_rfl) (by kernel_rfl) ?_); (case hL => exact ⟨rfl⟩))); clear D; (try clear s); intro s D; (try dsimp only)))
set_option hygiene false in
local macro_rules | `(tactic| fail "qop") => `(tactic| ((with_reducible first | show wpAny _ _ (binaryOp _ _ _) _ _ _ | show wpAny _ _ (compareOp _ _ _) _ _ _ | show wpAny _ _ (subscriptTail _ _ _ _) _ _ _ | show wpAny _ _ (inplaceOp _ _ _) _ _ _); first
  | ((with_reducible refine r_add D ?_); clear D; (try clear s); intro s t D)
  | ((with_reducible refine r_sub D ?_); clear D; (try clear s); intro s t D)
  | ((with_reducible refine r_mod D ?q1 ?_); (case q1 => omega); clear D; (try clear s); intro s t D)
  | ((with_reducible refine r_fdiv D ?q1 ?q2 ?_); (case q1 => omega); (case q2 => omega); clear D; (try clear s); intro s t D)
  | ((with_reducible refine r_addT D ?q1 ?_); (case q1 => fail "qnum"); clear D; (try clear s); intro s t D)
  | with_reducible refine r_eqT ?_
  | with_reducible refine PyProof.Rows.lt_int ?_
  | with_reducible refine PyProof.Rows.gt_int ?_
  | with_reducible refine PyProof.Rows.eq_int ?_
  | with_reducible refine PyProof.Rows.ne_int ?_
  | ((with_reducible refine r_iadd D ?_); clear D; (try clear s); intro s t D)))
set_option hygiene false in
local macro_rules | `(tactic| fail "qtr") => `(tactic| ((with_reducible show wpAny _ _ (isTrue _ _ _) _ _ _); first
  | with_reducible refine isTrue_or ?_
  | with_reducible refine isTrue_or_nil ?_
  | with_reducible refine isTrue_and ?_
  | with_reducible refine isTrue_and_nil ?_
  | with_reducible refine isTrue_not ?_
  | ((with_reducible refine wpAny_isTrue_Compare1 ?_ (hm := ?hm)); (case hm => with_unfolding_all rfl))
  | ((with_reducible refine isTrue_plain ?_ (he := ?he)); (case he => rfl))))
set_option hygiene false in
local macro_rules | `(tactic| fail "qtt") => `(tactic| ((with_reducible show wpAny _ _ (truthy _) _ _ _); first
  | with_reducible refine wpAny_truthy_bool ?_
  | with_reducible refine PyProof.Rows.truthy_int ?_
  | ((with_reducible refine r_truthyT D ?q1 ?_); (case q1 => fail "qnum"); clear D; (try clear s); intro s D)))
set_option hygiene false in
set_option hygiene false in
local macro_rules | `(tactic| fail "qca") => `(tactic| first
  | ((with_reducible show wpAny _ _ (callWith _ _ _ _ _) _ _ _); first
    | with_reducible refine cm0 ?_
    | ((with_reducible refine cm1 ?_ ?he); (case he => rfl))
    | ((with_reducible refine cb1 ?_ ?he); (case he => rfl))
    | ((with_reducible refine cb2 ?_ ?he ?he2); (case he => rfl); (case he2 => rfl))
    | with_reducible refine ct0 ?_
    | ((with_reducible refine ct1 ?_ ?he); (case he => rfl))
    | ((with_reducible refine ct2 ?_ ?he ?he2); (case he => rfl); (case he2 => rfl))
    | ((with_reducible refine ct3 ?_ ?he ?he2 ?he3); (case he => rfl); (case he2 => rfl); (case he3 => rfl))
    | with_reducible refine ck0 ((D.wf W).X) (by k_is) ?_
    | ((with_reducible refine ck1 ((D.wf W).X) (by k_is) ?_ ?he); (case he => rfl))
    | ((with_reducible refine ck2 ((D.wf W).X) (by k_is) ?_ ?he ?he2); (case he => rfl); (case he2 => rfl))
    | ((with_reducible refine ck3 ((D.wf W).X) (by k_is) ?_ ?he ?he2 ?he3); (case he => rfl); (case he2 => rfl); (case he3 => rfl)))
  | ((with_reducible show wpAny _ _ (spliced _) _ _ _); first | ((with_reducible refine spliced_more ?_ (he := ?he)); (case he => rfl)) | with_reducible refine spliced_none ?_)
  | ((with_reducible show wpAny _ _ (evalPart _ _) _ _ _); first | with_reducible refine evalPart_none_step ?_ | with_reducible refine evalPart_some_step ?_)
  | refine And.intro ((D.wf W).X) ?_)
set_option hygiene false in
local macro_rules | `(tactic| fail "qco") => `(tactic| ((with_reducible refine comp_gen (cl := []) D ?c1 ?c2 ?c3 ?_ (hs := ?hs)); (case c1 => exact hh); (case c2 => exact closureFor_none (by decide)); (case c3 => kernel_rfl); (case hs => intro _; rfl)))
set_option hygiene false in
local macro_rules | `(tactic| fail "qsl") => `(tactic| ((with_reducible refine' r_slice_list D ?q1 ?q2 ?q4 ?q5 ?q3 ?_ (hs := ?hs) (ht := ?ht)); (case hs => with_unfolding_all rfl); (case ht => intro _; with_unfolding_all rfl); (case q1 => fail "qin"); (case q4 => constructor); (case q5 => constructor)))
set_option hygiene false in
local macro_rules | `(tactic| fail "qit") => `(tactic| ((with_reducible refine' r_item ?q1 ?q2 ?q3 ?_ (hs := ?hs) (hg := ?hg)); (case hs => with_unfolding_all rfl); (case hg => intro _; with_unfolding_all rfl)))
set_option hygiene false in
local macro_rules | `(tactic| fail "qsr") => `(tactic| ((with_reducible refine' r_src ?q1 ?q2 ?q3 ?q4 ?_ (hs := ?hs) (hg := ?hg)); (case hs => intro _; with_unfolding_all rfl); (case hg => intro _ _; with_unfolding_all rfl)))
local macro_rules | `(tactic| fail "qb") => `(tactic| first | omega | (simp; done) | (simp; omega))
set_option hygiene false in
local macro_rules | `(tactic| fail "qap") => `(tactic| ((with_reducible refine' r_append D ?q1 ?q2 ?_); (case q1 => with_reducible fail "qalt"); (case q2 => fail "qnum"); clear D; (try clear s); intro s D))
set_option hygiene false in
local macro_rules | `(tactic| fail "qme") => `(tactic| ((with_reducible show wpAny _ _ (getMethod (Value.ref _) _ _) _ _ _); (with_reducible refine' r_meth_list D PySem.F.slot_list_append PySem.F.type_list_append ?q1 ?q2 ?q3 ?_); (case q1 => with_reducible fail "qin"); (case q2 => rfl); (case q3 => rfl)))
local macro_rules | `(tactic| fail "qme") => `(tactic| ((with_reducible show wpAny _ _ (getMethod (Value.str _ _) _ _) _ _ _); first
  | with_reducible refine r_meth_str PySem.F.slot_str_join PySem.F.type_str_join ?_
  | with_reducible refine r_meth_str PySem.F.slot_str_split PySem.F.type_str_split ?_
  | with_reducible refine r_meth_str PySem.F.slot_str_partition PySem.F.type_str_partition ?_
  | with_reducible refine r_meth_str PySem.F.slot_str_upper PySem.F.type_str_upper ?_
  | with_reducible refine r_meth_str PySem.F.slot_str_rstrip PySem.F.type_str_rstrip ?_
  | with_reducible refine r_meth_str PySem.F.slot_str_rindex PySem.F.type_str_rindex ?_
  | with_reducible refine r_meth_str PySem.F.slot_str_index PySem.F.type_str_index ?_))
set_option hygiene false in
local macro_rules | `(tactic| fail "qmk") => `(tactic| first
  | ((with_reducible refine r_newlist D ?q1 ?_); (case q1 => fail "qnum"); clear D; (try clear s); intro ad s D)
  | ((with_reducible refine r_newtup D ?q1 ?_); (case q1 => fail "qnum"); clear D; (try clear s); intro ad s D)
  | ((refine ⟨_, _, D, ?_⟩); clear D; (try clear s); intro ad s D))
set_option hygiene false in
local macro_rules | `(tactic| fail "qat") => `(tactic| first
  | ((with_reducible show wpAny _ _ (eval (Expr.Attribute _ _ _) _) _ _ _); (with_reducible refine Attribute_any_ ?_ (he := ?he)); (case he => rfl))
  | ((with_reducible show wpAny _ _ (exec (Stmt.Assign [Expr.Attribute _ _ _] _ _) _) _ _ _); (with_reducible refine plainObj_wpAny_Assign_Attribute ?_ (hs := ?hs)); (case hs => rfl))
  | ((with_reducible show wpAny _ _ (eval (Expr.UnaryOp _ _ _) _) _ _ _); with_reducible refine wpAny_UnaryOp ?_)
  | ((with_reducible show wpAny _ _ (exec (Stmt.AugAssign (Expr.Attribute _ _ _) _ _ _) _) _ _ _); with_reducible refine wpAny_AugAssign_AttributeAny ?_)
  | ((with_reducible refine r_neg D ?_); clear D; (try clear s); intro s t D)
  | with_reducible refine r_is_none_ref ?_
  | with_reducible refine r_is_none_none ?_
  | with_reducible refine r_is_type_ref ?_
  | ((with_reducible refine' r_last1 ?q1 ?_ (hs := ?hs) (hg := ?hg)); (case hs => with_unfolding_all rfl); (case hg => intro _; with_unfolding_all rfl); (case q1 => refine' D.listN ?q3; (case q3 => fail "qin"))))
set_option hygiene false in
local macro_rules | `(tactic| fail "qgs") => `(tactic| first
  | ((with_reducible refine' r_getslot D W ?q1 ?q2 ?g1 ?g2 ?g3 ?g4 ?g5 ?g6 ?q3 ?q4 ?_); (case q1 => fail "qin"); (case q2 => fail "qin"); (case g1 => k_is); (case g2 => k_is); (case g3 => k_is); (case g4 => k_is); (case g5 => k_is); (case g6 => k_is); (case q3 => rfl); (case q4 => rfl); clear D; (try clear s); intro s D)
  | ((with_reducible refine' r_setslot D W ?q1 ?g1 ?g2 ?g3 ?g4 ?g5 ?g6 ?q2 ?_); (case q2 => fail "qalt"); (case g1 => k_is); (case g2 => k_is); (case g3 => k_is); (case g4 => k_is); (case g5 => k_is); (case g6 => decide); (case q1 => fail "qin"); clear D; (try clear s); intro s D; (try dsimp only at D)))
set_option hygiene false in
local macro_rules | `(tactic| fail "qas") => `(tactic| first
  | ((with_reducible show wpAny _ _ (exec (Stmt.Assign [Expr.Tuple _ _ _] _ _) _) _ _ _); (with_reducible refine Assign_Tuple ?_ (hs := ?hs) (hw := ?hw)); (case hs => rfl); (case hw => rfl))
  | ((with_reducible refine' r_unpack2 D ?q1 ?q2 ?_); (case q1 => exact hh); (case q2 => refine' D.tupN ?q3; (case q3 => fail "qin")); clear D; (try clear s); intro s D))
local macro_rules | `(tactic| fail "qgo") => `(tactic| repeat (first | fail "qev" | fail "qex" | fail "qop" | fail "qtr" | fail "qtt" | fail "qca" | fail "qme" | fail "qmk" | fail "qap" | with_reducible refine if_tt ?_ | with_reducible refine if_ff ?_ | with_reducible refine if_nt ?_ | with_reducible refine if_nf ?_ | with_reducible refine wpAny_Pass ?_ | fail "qat" | fail "qgs" | fail "qas"))
set_option hygiene false in
local macro_rules | `(tactic| fail "qob") => `(tactic| first | exact D.get (by fail "qin") | exact D.old hX (by simp [*]) (by simp [*]) | exact D.old hX2 (by simp [*]) (by simp [*]) | exact D.old hX3 (by simp [*]) (by simp [*]) | exact D.old hX4 (by simp [*]) (by simp [*]))
set_option hygiene false in
local macro_rules | `(tactic| fail "qsd") => `(tactic| ((with_reducible refine' r_setd D W ?hx ?hm ?g1 ?g2 ?g3 ?g4 ?hl ?he ?hz ?_); (case hx => fail "qob"); (case hm => fail "qin"); (case g1 => k_is); (case g2 => k_is); (case g3 => k_is); (case g4 => k_is); (case hl => rfl); (case he => intro _; rfl); (case hz => intro _; exact Nat.le_of_ble_eq_true rfl); clear D; (try clear s); intro tk s U; have D := U _ (by fail "qalt"); clear U))
set_option hygiene false in
local macro_rules | `(tactic| fail "qgd") => `(tactic| ((with_reducible refine' r_getd D W ?hx ?hd ?g1 ?g2 ?g3 ?g4 ?hl ?hv ?_); (case hx => fail "qob"); (case hd => fail "qob"); (case g1 => k_is); (case g2 => k_is); (case g3 => k_is); (case g4 => k_is); (case hl => rfl); (case hv => rfl); clear D; (try clear s); intro s D))
set_option hygiene false in
local macro_rules | `(tactic| fail "qmd") => `(tactic| ((with_reducible refine' r_meth D W ?hx ?hd ?g1 ?g2 ?g3 ?hl ?_); (case hx => fail "qob"); (case hd => fail "qob"); (case g1 => k_is); (case g2 => k_is); (case g3 => k_is); (case hl => rfl); (try dsimp only)))
set_option hygiene false in
local macro_rules | `(tactic| fail "qcm") => `(tactic| first
    | with_reducible refine ckm0 ((D.wf W).X) (by k_is) ?_
    | ((with_reducible refine ckm1 ((D.wf W).X) (by k_is) ?_ ?he); (case he => rfl))
    | ((with_reducible refine ckm2 ((D.wf W).X) (by k_is) ?_ ?he ?he2); (case he => rfl); (case he2 => rfl)))
def signs : Str := "0123456789abcdef"
theorem hexL_len (n : Nat) (h : n < 65536) : (hexL n).length ≤ 4 := by
  unfold hexL; split
  · simp
  · unfold hexL; split
    · simp
    · unfold hexL; split
      · simp
      · unfold hexL; split
        · simp
        · omega
theorem sign_at (d : Nat) (h : d < 16) : Txt.item signs (d : Int) = T [hexD d] := by
  have : d = 0 ∨ d = 1 ∨ d = 2 ∨ d = 3 ∨ d = 4 ∨ d = 5 ∨ d = 6 ∨ d = 7 ∨ d = 8 ∨ d = 9 ∨ d = 10 ∨ d = 11 ∨ d = 12 ∨ d = 13 ∨ d = 14 ∨ d = 15 := by omega
  rcases this with rfl|rfl|rfl|rfl|rfl|rfl|rfl|rfl|rfl|rfl|rfl|rfl|rfl|rfl|rfl|rfl <;> decide +kernel


theorem hexL_step (o : Nat) (x : List Nat) : (if o / 16 = 0 then hexD (o % 16) :: x else hexL (o / 16) ++ hexD (o % 16) :: x) = hexL o ++ x := by
  conv => rhs; unfold hexL
  by_cases h : o < 16
  · rw [if_pos h, if_pos (by omega), Nat.mod_eq_of_lt h]; rfl
  · rw [if_neg h, if_neg (by omega)]; simp
theorem hexL_len1 (o : Nat) : (hexL o).length = 1 + if o / 16 = 0 then 0 else (hexL (o / 16)).length := by
  conv => lhs; unfold hexL
  by_cases h : o < 16
  · rw [if_pos h, if_pos (by omega)]; rfl
  · rw [if_neg h, if_neg (by omega)]; simp; omega
/-- between the turns -/
def sixI (C : Cx) (n : Nat) (k : Nat) (s : Shared) : Prop :=
  ∃ (o : Nat) (x : List Nat) (t u : Tok), St C [("one", Value.int o t), ("text", Value.str (T x) u)] [] s ∧ o < 65536 ∧
    ((x = [] ∧ o = n ∧ k = n + 1) ∨ (x ≠ [] ∧ k = o ∧ x.length + (if o = 0 then 0 else (hexL o).length) ≤ 4 ∧ (if o = 0 then x else hexL o ++ x) = hexL n))

theorem sixteen_ok {prog : Program} {w : World} {A : Around} {E : Value → Shared → Prop} {s₀ : Shared} {mg mb : Str → Option Value} {n : Nat} {tk : Tok} {Q : Value → Shared → Prop}
    (W : WF w mg mb s₀.heap) (hA : A.depth < 900) (hn : n < 65536) (k : ∀ s' t, Rel [] [] s₀.heap s'.heap → Same s₀ s' → Q (.str (T (hexL n)) t) s') : wpAny (model prog w) A (call (.ref 483) [.int n tk]) Q E s₀ := by
  refine enter [("one", .int n tk)] W (by omega) (by k_is) (by k_is) (.of_eq (by rfl)) (by kernel_rfl) ?_
  intro L s D
  fail "qgo"
  refine seq_ (fun s' => ∃ t, St ⟨[], [], s₀, L⟩ [("text", Value.str (T (hexL n)) t)] [] s') (while_ (sixI ⟨[], [], s₀, L⟩ n) ?_ (n + 1) ⟨n, [], tk, t, D.to (by fail "qsub") (by kernel_rfl), hn, .inl ⟨rfl, rfl, rfl⟩⟩) ?_
  · clear D
    rintro k' s ⟨o, x, t₁, u₁, D, ho, h⟩
    have hx : x.length ≤ 4 := by
      rcases h with ⟨rfl, _⟩ | ⟨_, _, h, _⟩
      · simp
      · omega
    have fin : ∀ (s : Shared) t u, St ⟨[], [], s₀, L⟩ [("one", Value.int ((o : Int) / 16) t), ("text", Value.str (T ([hexD (o % 16)] ++ x)) u)] [] s → (x = [] ∨ o ≠ 0) → ∃ k, k < k' ∧ sixI ⟨[], [], s₀, L⟩ n k s := by
      intro s t u D hne
      refine ⟨o / 16, ?_, o / 16, hexD (o % 16) :: x, t, u, D, by omega, .inr ⟨by simp, rfl, ?_, ?_⟩⟩
      · rcases h with ⟨rfl, rfl, rfl⟩ | ⟨h0, rfl, _⟩
        · omega
        · have := hne.resolve_left h0
          omega
      · rcases h with ⟨rfl, rfl, rfl⟩ | ⟨h0, rfl, h, _⟩
        · have := hexL_len o (by omega)
          rw [hexL_len1] at this
          simp only [List.length_cons, List.length_nil]; omega
        · have := hne.resolve_left h0
          rw [if_neg this, hexL_len1] at h
          simp only [List.length_cons]; omega
      · have e := hexL_step o x
        rcases h with ⟨rfl, rfl, rfl⟩ | ⟨h0, rfl, _, h⟩
        · rw [e]; simp
        · have := hne.resolve_left h0
          rw [if_neg this] at h
          rw [e, h]
    fail "qgo"
    by_cases hz : o = 0
    · subst hz
      rw [if_neg (by simp)]
      fail "qgo"
      by_cases hx0 : x = []
      · subst hx0
        rw [if_pos (by rfl), if_pos rfl]
        fail "qgo"
        (with_reducible refine r_stritem D ?q1 ?q2 ?q3 ?_); (case q1 => omega); (case q2 => show _ < ((16 : Nat) : Int); omega); (case q3 => decide)
        clear D; intro s t D
        rw [show Txt.item (Str.ofString "0123456789abcdef") (((0 : Nat) : Int) % 16) = T [hexD (0 % 16)] from sign_at (0 % 16) (by omega)]
        fail "qgo"
        exact fin _ _ _ D (.inl rfl)
      · rw [if_neg (by simp [hx0])]
        fail "qgo"
        rcases h with ⟨h, _⟩ | ⟨_, _, _, h⟩
        · exact absurd h hx0
        · rw [if_pos rfl] at h; rw [h] at D
          exact ⟨rfl, u₁, D.to (by fail "qsub") (by kernel_rfl)⟩
    · rw [if_pos (by simp; omega), if_pos rfl]
      fail "qgo"
      (with_reducible refine r_stritem D ?q1 ?q2 ?q3 ?_); (case q1 => omega); (case q2 => show _ < ((16 : Nat) : Int); omega); (case q3 => decide)
      clear D; intro s t D
      rw [show Txt.item (Str.ofString "0123456789abcdef") ((o : Int) % 16) = T [hexD (o % 16)] from sign_at (o % 16) (by omega)]
      fail "qgo"
      exact fin _ _ _ D (.inr hz)
  · rintro s ⟨t, D⟩
    fail "qgo"
    exact k _ _ D.toRel D.same

theorem hexChar (d : Nat) (h : d < 16) : (Nat.digitChar d).toNat = hexD d := by
  have : d = 0 ∨ d = 1 ∨ d = 2 ∨ d = 3 ∨ d = 4 ∨ d = 5 ∨ d = 6 ∨ d = 7 ∨ d = 8 ∨ d = 9 ∨ d = 10 ∨ d = 11 ∨ d = 12 ∨ d = 13 ∨ d = 14 ∨ d = 15 := by omega
  rcases this with rfl|rfl|rfl|rfl|rfl|rfl|rfl|rfl|rfl|rfl|rfl|rfl|rfl|rfl|rfl|rfl <;> decide
theorem hexDigits_core : ∀ (fuel n : Nat) (ds : List Char), n < fuel → (Nat.toDigitsCore 16 fuel n ds).map Char.toNat = hexL n ++ ds.map Char.toNat
  | 0, _, _, h => absurd h (Nat.not_lt_zero _)
  | fuel + 1, n, ds, h => by
    rw [Nat.toDigitsCore]
    by_cases h0 : n / 16 = 0
    · rw [if_pos h0, List.map_cons, hexChar _ (Nat.mod_lt _ (by decide))]
      unfold hexL
      rw [if_pos (by omega), Nat.mod_eq_of_lt (by omega)]; rfl
    · rw [if_neg h0, hexDigits_core fuel (n / 16) _ (by omega), List.map_cons, hexChar _ (Nat.mod_lt _ (by decide))]
      conv => rhs; unfold hexL
      rw [if_neg (by omega)]; simp
theorem hexDigits (n : Nat) : (Nat.toDigits 16 n).map Char.toNat = hexL n := by
  unfold Nat.toDigits
  rw [hexDigits_core _ _ _ (Nat.lt_succ_self _)]; simp
section
open Builtin Builtin.Str
set_option maxRecDepth 100000
set_option maxHeartbeats 4000000 in
theorem meets_x (n : Nat) (hn : n < 65536) (t u : Tok) : Meets («str.__mod__» ⟨[.str ⟨#[37, 120]⟩ t, .int n u], []⟩) (fun _ R s => ∀ t' k, R (.ok (.ret (.str (T (hexL n)) t'))) { s with toks := k }) := by
  have hl := hexL_len n hn
  apply KPc.meets_of
  intro _ _ _ _ _ _ hk
  rw [KPc.entry_is]
  unfold Builtin.Str.percentFormat
  refine wpAny_bind (wpAny_isInstance (typeIs_int _ _ _) F.sub_int_tuple ?_)
  refine wpAny_bind (wpAny_of_eq (a := none) rfl ?_)
  refine wpAny_bind (wpAny_of_eq (KPc.fills _ _) ?_)
  kpc_if
  refine wpAny_bind (wpAny_pure ?_)
  refine wpAny_bind ?_
  rw [KPc.range_list]
  refine KPc.start ?_
  intro w' g
  refine KPc.turn ?_
  kpc_check
  repeat kpc_if
  refine wpAny_bind ?_
  refine wpAny_holding ?_
  repeat kpc_if
  refine wpAny_bind (wpAny_of_eq (a := _) rfl ?_)
  repeat kpc_if
  refine wpAny_bind (wpAny_pure ?_)
  refine wpAny_pure ?_
  refine wpAny_pure ?_
  refine KPc.after_add0 (y := T (hexL n)) (by kpc_g) ?_ (KPc.obj_none (ite_self _)) ?_
  · show (⟨List.toArray (percentInt _ (decide ((n : Int) < 0)) (List.map Char.toNat (Nat.toDigits 16 ((n : Int)).natAbs)))⟩ : Str) = T (hexL n)
    rw [Int.natAbs_natCast, hexDigits, decide_eq_false (show ¬ (n : Int) < 0 by omega)]
    unfold percentInt
    simp [T]
  intro w'' g2
  refine KPc.turn ?_
  refine wpAny_ite (KPc.ite_no (KPc.short_good g2 (by rw [T_len]; omega)) ?_)
  repeat kpc_if
  refine wpAny_pure ?_
  kpc_if
  exact KPc.finish_ok g2 (by rw [T_len]; omega) rfl hk
end

theorem Nats.mem_isNat {vs : List Value} {ns : List Nat} (h : Nats vs ns) {v : Value} (hv : v ∈ vs.toArray) : ∃ n, n ∈ ns ∧ isNat v n := pd_mem h (by simpa using hv)
def withoutL (ns : List Nat) (a b : Nat) : List Nat := joinL [58] ((ns.take a).map hexL) ++ [58, 58] ++ joinL [58] ((ns.drop b).map hexL)
theorem sum_hex : ∀ {ns : List Nat}, (∀ n ∈ ns, n < 65536) → sumLen (ns.map hexL) ≤ 4 * ns.length
  | [], _ => Nat.zero_le _
  | n :: ns, h => by
    have h1 := sum_hex (ns := ns) fun x hx => h x (.tail _ hx)
    have h2 := hexL_len n (h n (.head _))
    simp only [sumLen, List.map_cons, List.sum_cons, List.length_cons] at h1 ⊢
    omega
theorem join_len (sep : List Nat) : ∀ ls : List (List Nat), (joinL sep ls).length ≤ sumLen ls + ls.length * sep.length
  | [] => Nat.zero_le _
  | [x] => by simp [joinL, sumLen]
  | x :: y :: r => by
    have h := join_len sep (y :: r)
    simp only [joinL, sumLen, List.length_append, List.map_cons, List.sum_cons, List.length_cons, Nat.add_mul, Nat.one_mul] at h ⊢
    omega
theorem hexjoin_len {ns : List Nat} (h : ∀ n ∈ ns, n < 65536) (hl : ns.length ≤ 20) : sumLen (ns.map hexL) + (ns.map hexL).length ≤ 1048576 ∧ (joinL [58] (ns.map hexL)).length ≤ 100 := by
  have h1 := sum_hex h
  have h2 := join_len [58] (ns.map hexL)
  simp only [List.length_map, List.length_cons, List.length_nil] at h2 ⊢
  omega
section
variable {prog : Program} {w : World} {A : Around} {E : Value → Shared → Prop} {C : Cx} {s : Shared} {mg mb : Str → Option Value} {loc : List (Str × Value)} {news : List (Addr × Obj)} {env : Env}
/-- a call of _law_sixteen, within -/
theorem c_sixteen {n : Nat} {tk : Tok} {Q : Value → Shared → Prop} (D : St C loc news s) (W : WF w mg mb C.s₀.heap) (hA : A.depth < 900) (hn : n < 65536) (k : ∀ s' t, St C loc news s' → Q (.str (T (hexL n)) t) s') :
    wpAny (model prog w) A (call (.ref 483) [.int n tk]) Q E s := sixteen_ok (D.wf W) hA hn fun s' t x e => k s' t (D.pureCall x e)
end
theorem without_ok {prog : Program} {w : World} {A : Around} {E : Value → Shared → Prop} {s₀ : Shared} {mg mb : Str → Option Value} {Q : Value → Shared → Prop} {gr : Addr} {vs : List Value} {ns : List Nat} {a b : Nat} {t1 t2 : Tok}
    (W : WF w mg mb s₀.heap) (hA : A.depth < 800) (hh : A.handled = none) (hl : s₀.heap.IsList gr vs.toArray) (hn : Nats vs ns) (hns : ∀ n ∈ ns, n < 65536) (hlen : ns.length ≤ 20)
    (k : ∀ s' t, Rel [] [] s₀.heap s'.heap → Same s₀ s' → Q (.str (T (withoutL ns a b)) t) s') : wpAny (model prog w) A (call (.ref 488) [.ref gr, .int a t1, .int b t2]) Q E s₀ := by
  refine enter [("groups", .ref gr), ("start", .int a t1), ("end", .int b t2)] W (by omega) (by k_is) (by k_is) (.of_eq (by rfl)) (by kernel_rfl) ?_
  intro L s D
  have hvl : vs.length ≤ 20 := by rw [hn.length]; exact hlen
  have hdp : ∀ env : Env, (A.deeper env).depth < 900 := fun env => by show A.depth + 1 < 900; omega
  fail "qgo"
  fail "qco"
  fail "qgo"
  fail "qsl"; (case q2 => exact D.list hl (by simp)); (case q3 => omega)
  clear D; intro l1 s D
  rw [pick_to] at D
  refine compG_plain (fun v y => ∀ n, isNat v n → isTxt y (hexL n)) (.list l1 (vs.take a).toArray) D rfl (D.listN (by fail "qin")) (stay_new (k := 0) (by fail "qin")) (by show (vs.take a).toArray.size ≤ _; simp; omega) ?_ ?_
  · clear D
    intro v c oc m D' oD I oI s E' hv hN hX D
    obtain ⟨n, hm, t, rfl⟩ := Nats.mem_isNat (pd_take hn a) hv
    fail "qgo"
    refine c_sixteen D W (hdp _) (hns n (List.mem_of_mem_take hm)) ?_
    clear D; intro s t D
    exact ⟨fun n' ⟨t', e⟩ => by cases e; exact ⟨_, rfl⟩, D⟩
  · clear D
    intro D' ys s hF D
    have hy := pd_comp (f := hexL) (R' := isTxt) (fun v y n h1 h2 => h2 n h1) hF (pd_take hn a)
    fail "qgo"
    have z1 := hexjoin_len (ns := ns.take a) (fun n h => hns n (List.mem_of_mem_take h)) (by rw [List.length_take]; omega)
    have z2 := hexjoin_len (ns := ns.drop b) (fun n h => hns n (List.mem_of_mem_drop h)) (by rw [List.length_drop]; omega)
    refine r_join D (D.listN (k := ys.length) (by fail "qin")) (txts_strs hy) (by decide) z1.1 ?_
    clear D; intro s t D
    fail "qgo"
    fail "qco"
    fail "qgo"
    fail "qsl"; (case q2 => exact D.list hl (by simp)); (case q3 => omega)
    clear D; intro l1 s D
    rw [pick_from] at D
    refine compG_plain (fun v y => ∀ n, isNat v n → isTxt y (hexL n)) (.list l1 (vs.drop b).toArray) D rfl (D.listN (by fail "qin")) (stay_new (k := 0) (by fail "qin")) (by show (vs.drop b).toArray.size ≤ _; simp; omega) ?_ ?_
    · clear D
      intro v c oc m D' oD I oI s E' hv hN hX D
      obtain ⟨n, hm, t, rfl⟩ := Nats.mem_isNat (pd_drop hn b) hv
      fail "qgo"
      refine c_sixteen D W (hdp _) (hns n (List.mem_of_mem_drop hm)) ?_
      clear D; intro s t D
      exact ⟨fun n' ⟨t', e⟩ => by cases e; exact ⟨_, rfl⟩, D⟩
    · clear D
      intro D' ys s hF D
      have hy := pd_comp (f := hexL) (R' := isTxt) (fun v y n h1 h2 => h2 n h1) hF (pd_drop hn b)
      fail "qgo"
      refine r_join D (D.listN (k := ys.length) (by fail "qin")) (txts_strs hy) (by decide) z2.1 ?_
      clear D; intro s t D
      fail "qgo"
      exact k _ _ D.toRel D.same

def runEnd (ns : List Nat) (e : Nat) : Nat := if h : e < 8 then if ns.getD e 1 = 0 then runEnd ns (e + 1) else e else e
  termination_by 8 - e
theorem runEnd_ge (ns : List Nat) (e : Nat) : e ≤ runEnd ns e := by
  unfold runEnd
  split
  · split
    · have := runEnd_ge ns (e + 1); omega
    · exact Nat.le_refl _
  · exact Nat.le_refl _
  termination_by 8 - e
theorem runEnd_le (ns : List Nat) (e : Nat) (h : e ≤ 8) : runEnd ns e ≤ 8 := by
  unfold runEnd
  split
  · split
    · exact runEnd_le ns (e + 1) (by omega)
    · omega
  · exact h
  termination_by 8 - e
def rowsL (ns : List Nat) (i : Nat) : List (Nat × Nat) := if h : i < 8 then (if i < runEnd ns i then [(i, runEnd ns i)] else []) ++ rowsL ns (runEnd ns i + 1) else []
  termination_by 8 - i
  decreasing_by have := runEnd_ge ns i; omega
/-- rows at hand -/
def isRow (tups : List (Addr × Obj)) (v : Value) (r : Nat × Nat) : Prop := ∃ a t1 t2, v = .ref a ∧ (a, tupOf #[.int r.1 t1, .int r.2 t2]) ∈ tups
theorem isRow.mono {tups tups' : List (Addr × Obj)} {v : Value} {r : Nat × Nat} (h : isRow tups v r) (k : ∀ p ∈ tups, p ∈ tups') : isRow tups' v r := let ⟨a, t1, t2, e, m⟩ := h; ⟨a, t1, t2, e, k _ m⟩
theorem rows_mono {tups tups' : List (Addr × Obj)} (k : ∀ p ∈ tups, p ∈ tups') : ∀ {vs : List Value} {rs : List (Nat × Nat)}, Paired (isRow tups) vs rs → Paired (isRow tups') vs rs
  | _, _, .nil => .nil
  | _, _, .cons h r => .cons (h.mono k) (rows_mono k r)
theorem rows_ok {prog : Program} {w : World} {A : Around} {E : Value → Shared → Prop} {s₀ : Shared} {mg mb : Str → Option Value} {Q : Value → Shared → Prop} {gr : Addr} {vs : List Value} {ns : List Nat}
    (W : WF w mg mb s₀.heap) (hA : A.depth < 800) (hh : A.handled = none) (hl : s₀.heap.IsList gr vs.toArray) (hn : Nats vs ns) (hlen : ns.length = 8)
    (k : ∀ s' D oD tups rv, Rel [] [] s₀.heap s'.heap → Same s₀ s' → oD.cls = .type "list" → (∃ n, oD.data = .seq rv.toArray n) → Paired (isRow tups) rv (rowsL ns 0) → (∀ p ∈ (D, oD) :: tups, s'.heap.get? p.1 = some p.2 ∧ s₀.heap.get? p.1 = none) → (((D, oD) :: tups).map (·.1)).Nodup → Q (.ref D) s') :
    wpAny (model prog w) A (call (.ref 495) [.ref gr]) Q E s₀ := by
  refine enter [("groups", .ref gr)] W (by omega) (by k_is) (by k_is) (.of_eq (by rfl)) (by kernel_rfl) ?_
  intro L s D
  have hvl : vs.length = 8 := by rw [hn.length]; exact hlen
  fail "qgo"
  (with_reducible refine r_swap2 D ?c1 ?_ ?hs ?hw); (case c1 => exact hh); (case hs => rfl); (case hw => rfl)
  fail "qgo"
  rename_i lst
  refine ⟨ad, .ref lst, .int 0 t, _, _, rfl, D, D.tupN (by fail "qin"), ?_⟩
  clear D; intro s D
  fail "qgo"
  replace D := D.forget (news' := [(lst, listOf #[] 0)]) (List.sublist_cons_self _ _)
  rw [show (0 : Int) = ((0 : Nat) : Int) from rfl] at D
  refine seq_ (fun s' => ∃ (rv : List Value) (kk : Nat) (tups : List (Addr × Obj)) (i : Int) (t : Tok), Paired (isRow tups) rv (rowsL ns 0) ∧ St ⟨[], [], s₀, L⟩ [("rows", .ref lst), ("groups", .ref gr), ("at", .int i t)] ((lst, listOf rv.toArray kk) :: tups) s')
    (while_ (fun n s' => ∃ (i : Nat) (t : Tok) (rv : List Value) (kk : Nat) (tups : List (Addr × Obj)) (rs : List (Nat × Nat)), n = 9 - i ∧ Paired (isRow tups) rv rs ∧ rs ++ rowsL ns i = rowsL ns 0 ∧ rs.length ≤ i ∧ i ≤ 9 ∧ ((∃ e : Value, St ⟨[], [], s₀, L⟩ [("end", e), ("rows", .ref lst), ("groups", .ref gr), ("at", .int i t)] ((lst, listOf rv.toArray kk) :: tups) s') ∨ (i = 0 ∧ St ⟨[], [], s₀, L⟩ [("rows", .ref lst), ("groups", .ref gr), ("at", .int i t)] ((lst, listOf rv.toArray kk) :: tups) s'))) ?_ 9
      ⟨0, t, [], 0, [], [], rfl, .nil, by simp, by simp, by omega, .inr ⟨rfl, D.to (by fail "qsub") (by kernel_rfl)⟩⟩) ?_
  · clear D
    rintro n s ⟨i, t, rv, kk, tups, rs, rfl, hr, hrs, hrl, hi, D⟩
    have hrv : rv.length ≤ 9 := by rw [hr.length]; omega
    refine wpAny_mono (Q := fun b s' => (b = decide (i < 8)) ∧ ((∃ e : Value, St ⟨[], [], s₀, L⟩ [("end", e), ("rows", .ref lst), ("groups", .ref gr), ("at", .int i t)] ((lst, listOf rv.toArray kk) :: tups) s') ∨ (i = 0 ∧ St ⟨[], [], s₀, L⟩ [("rows", .ref lst), ("groups", .ref gr), ("at", .int i t)] ((lst, listOf rv.toArray kk) :: tups) s'))) (E := fun _ _ => False) ?_ (fun b s D => ?_) (fun _ _ x => x.elim)
    · rcases D with ⟨e, D⟩ | ⟨h0, D⟩
      · fail "qgo"
        exact ⟨by simp; omega, .inl ⟨e, D⟩⟩
      · fail "qgo"
        exact ⟨by simp; omega, .inr ⟨h0, D⟩⟩
    · obtain ⟨rfl, D⟩ := D
      by_cases h8 : i < 8
      · rw [if_pos (decide_eq_true h8)]
        refine seq_ (fun s' => ∃ t', St ⟨[], [], s₀, L⟩ [("end", .int i t'), ("rows", .ref lst), ("groups", .ref gr), ("at", .int i t)] ((lst, listOf rv.toArray kk) :: tups) s') ?_ ?_
        · rcases D with ⟨e, D⟩ | ⟨h0, D⟩
          · fail "qgo"
            exact ⟨rfl, _, D⟩
          · fail "qgo"
            exact ⟨rfl, _, D⟩
        clear D
        rintro s ⟨t', D⟩
        refine seq_ (fun s' => ∃ t', St ⟨[], [], s₀, L⟩ [("end", .int (runEnd ns i : Nat) t'), ("rows", .ref lst), ("groups", .ref gr), ("at", .int i t)] ((lst, listOf rv.toArray kk) :: tups) s')
          (while_ (fun n s' => ∃ (e : Nat) (t' : Tok), n = 8 - e ∧ runEnd ns e = runEnd ns i ∧ i ≤ e ∧ e ≤ 8 ∧ St ⟨[], [], s₀, L⟩ [("end", .int e t'), ("rows", .ref lst), ("groups", .ref gr), ("at", .int i t)] ((lst, listOf rv.toArray kk) :: tups) s') ?_ (8 - i) ⟨i, t', rfl, rfl, Nat.le_refl _, by omega, D⟩) ?_
        · clear D
          rintro n s ⟨e, t', rfl, he, hie, h8e, D⟩
          fail "qgo"
          by_cases e8 : e < 8
          · rw [if_pos (by fail "qb")]
            fail "qgo"
            obtain ⟨v, hv, tv, rfl⟩ := pd_at hn (List.getElem?_eq_getElem (show e < ns.length by omega))
            fail "qit"; (case q1 => exact D.list hl (by simp)); (case q2 => omega); (case q3 => exact hv)
            fail "qgo"
            by_cases hz : ns[e]'(by omega) = 0
            · rw [if_pos (by simp [hz])]
              fail "qgo"
              refine ⟨8 - (e + 1), by omega, e + 1, _, rfl, ?_, by omega, by omega, by exact_mod_cast D⟩
              rw [← he]; conv => rhs; unfold runEnd
              rw [dif_pos e8, if_pos]; rw [List.getD_eq_getElem?_getD, List.getElem?_eq_getElem (show e < ns.length by omega)]; exact hz
            · rw [if_neg (by fail "qb")]
              have : runEnd ns i = e := by
                rw [← he]; unfold runEnd
                rw [dif_pos e8, if_neg]; rw [List.getD_eq_getElem?_getD, List.getElem?_eq_getElem (show e < ns.length by omega)]; exact hz
              rw [this]
              exact ⟨rfl, _, D⟩
          · rw [if_neg (by fail "qb")]
            have : runEnd ns i = e := by
              rw [← he]; unfold runEnd
              rw [dif_neg e8]
            rw [this]
            fail "qgo"
            exact ⟨rfl, _, D⟩
        · clear D
          rintro s ⟨t', D⟩
          have g1 := runEnd_ge ns i
          have g2 := runEnd_le ns i (by omega)
          have hu : rowsL ns i = (if i < runEnd ns i then [(i, runEnd ns i)] else []) ++ rowsL ns (runEnd ns i + 1) := by
            conv => lhs; unfold rowsL
            rw [dif_pos h8]
          rw [hu, ← List.append_assoc] at hrs
          generalize runEnd ns i = e at hrs D g1 g2
          fail "qgo"
          by_cases hlt : i < e
          · rw [if_pos (by fail "qb")]
            rw [if_pos hlt] at hrs
            fail "qgo"
            replace D := D.perm (List.Perm.swap _ _ _)
            rw [show ((e : Int) + 1) = ((e + 1 : Nat) : Int) from rfl] at D
            exact ⟨9 - (e + 1), by omega, e + 1, t, rv ++ [.ref ad], kk + 1, _, rs ++ [(i, e)], rfl, Paired.snoc (rows_mono (fun p hp => List.mem_cons_of_mem _ hp) hr) ⟨ad, _, _, rfl, List.mem_cons_self⟩, hrs, by simp; omega, by omega, .inl ⟨_, D⟩⟩
          · rw [if_neg (by fail "qb")]
            rw [if_neg hlt, List.append_nil] at hrs
            fail "qgo"
            exact ⟨9 - (e + 1), by omega, e + 1, _, rv, kk, tups, rs, rfl, hr, hrs, by omega, by omega, .inl ⟨_, by exact_mod_cast D⟩⟩
      · rw [if_neg (by simpa using h8)]
        refine ⟨rfl, ?_⟩
        have e0 : rowsL ns i = [] := by unfold rowsL; rw [dif_neg h8]
        rw [e0, List.append_nil] at hrs
        subst hrs
        rcases D with ⟨e, D⟩ | ⟨h0, D⟩
        · exact ⟨rv, kk, tups, i, t, hr, D.to (by fail "qsub") (by kernel_rfl)⟩
        · exact ⟨rv, kk, tups, i, t, hr, D⟩
  · clear D
    rintro s ⟨rv, kk, tups, i, t, hr, D⟩
    fail "qgo"
    refine k _ lst _ tups rv D.toRel D.same rfl ⟨_, rfl⟩ hr (fun p hp => ⟨D.get (o := p.2) hp, D.isNew rfl hp⟩) D.ord

/-- eight numbers of sixteen octets -/
def pairsL : List Nat → List Nat
  | a :: b :: r => (a * 256 + b) :: pairsL r
  | _ => []
def fmtStep (ns : List Nat) (x : List (List Nat) × List (List Nat) × Bool) (j : Nat) : List (List Nat) × List (List Nat) × Bool :=
  if x.2.2 then (if ns.getD j 0 = 0 ∧ j < 7 then (if ns.getD (j + 1) 0 = 0 then (x.1, x.2.1, false) else (x.1 ++ [[48]], x.2.1, true)) else (x.1 ++ [hexL (ns.getD j 0)], x.2.1, true))
  else if ns.getD j 0 = 0 ∧ x.2.1 = [] then x else (x.1, x.2.1 ++ [hexL (ns.getD j 0)], false)
def fmtFrom (ns : List Nat) (n : Nat) : List (List Nat) × List (List Nat) × Bool := (List.range n).foldl (fmtStep ns) ([], [], true)
def fmtL (ns : List Nat) : List Nat := if (fmtFrom ns 8).1.length < 8 then joinL [58] (fmtFrom ns 8).1 ++ [58, 58] ++ joinL [58] (fmtFrom ns 8).2.1 else joinL [58] (fmtFrom ns 8).1
theorem fmtFrom_succ (ns : List Nat) (n : Nat) : fmtFrom ns (n + 1) = fmtStep ns (fmtFrom ns n) n := by
  unfold fmtFrom; rw [List.range_succ, List.foldl_append]; rfl
theorem sumLen_snoc (l : List (List Nat)) (x : List Nat) : sumLen (l ++ [x]) = sumLen l + x.length := by simp [sumLen]
theorem fmt_size (ns : List Nat) (h : ∀ n, n < 8 → ns.getD n 0 < 65536) : ∀ n, n ≤ 8 → sumLen (fmtFrom ns n).1 ≤ 4 * n ∧ sumLen (fmtFrom ns n).2.1 ≤ 4 * n
  | 0, _ => ⟨Nat.le_refl _, Nat.le_refl _⟩
  | n + 1, hn => by
    obtain ⟨h1, h2⟩ := fmt_size ns h n (by omega)
    have h3 := hexL_len _ (h n (by omega))
    rw [fmtFrom_succ]
    simp only [fmtStep]
    split
    · split
      · split
        · exact ⟨by show sumLen (fmtFrom ns n).1 ≤ _; omega, by show sumLen (fmtFrom ns n).2.1 ≤ _; omega⟩
        · exact ⟨by rw [sumLen_snoc]; simp; omega, by show sumLen (fmtFrom ns n).2.1 ≤ _; omega⟩
      · exact ⟨by rw [sumLen_snoc]; omega, by show sumLen (fmtFrom ns n).2.1 ≤ _; omega⟩
    · split
      · exact ⟨by omega, by omega⟩
      · exact ⟨by show sumLen (fmtFrom ns n).1 ≤ _; omega, by rw [sumLen_snoc]; omega⟩
theorem pairs_at : ∀ (os : List Nat) (j a b : Nat), os[2 * j]? = some a → os[2 * j + 1]? = some b → (pairsL os).getD j 0 = a * 256 + b
  | x :: y :: r, 0, a, b, h1, h2 => by simp at h1 h2; subst h1 h2; simp [pairsL]
  | x :: y :: r, j + 1, a, b, h1, h2 => by
    rw [show 2 * (j + 1) = 2 * j + 1 + 1 from by omega] at h1 h2
    simp only [List.getElem?_cons_succ] at h1 h2
    rw [pairsL, List.getD_cons_succ]
    exact pairs_at r j a b h1 h2
  | [], _, _, _, h1, _ => by simp at h1
  | [_], 0, _, _, _, h2 => by simp at h2
  | [_], j + 1, _, _, h1, _ => by rw [show 2 * (j + 1) = 2 * j + 1 + 1 from by omega] at h1; simp at h1
set_option maxHeartbeats 1600000 in
theorem format_ok {prog : Program} {w : World} {A : Around} {E : Value → Shared → Prop} {s₀ : Shared} {mg mb : Str → Option Value} {Q : Value → Shared → Prop} {src : Src} {os : List Nat}
    (W : WF w mg mb s₀.heap) (hA : A.depth < 800) (hh : A.handled = none) (hl : src.At s₀.heap) (hn : Nats src.its.toList os) (hos : ∀ n ∈ os, n < 256) (hlen : os.length = 16)
    (k : ∀ s' t, Rel [] [] s₀.heap s'.heap → Same s₀ s' → Q (.str (T (fmtL (pairsL os))) t) s') :
    wpAny (model prog w) A (call (.ref 415) [src.val]) Q E s₀ := by
  refine enter [("a", src.val)] W (by omega) (by k_is) (by k_is) (.of_eq (by rfl)) (by kernel_rfl) ?_
  intro L s D
  fail "qgo"
  rename_i lf
  have e3 : fmtFrom (pairsL os) 0 = ([], [], true) := rfl
  have oat : ∀ j, j < 16 → ∃ o, os[j]? = some o ∧ o < 256 ∧ ∃ t, src.its.toList[j]? = some (.int o t) := fun j hj => by
    have hj' : j < os.length := by omega
    obtain ⟨v, hv, t, rfl⟩ := pd_at hn (List.getElem?_eq_getElem hj')
    exact ⟨os[j], List.getElem?_eq_getElem hj', hos _ (List.getElem_mem _), t, hv⟩
  refine wpAny_execs_cons (for_range D hh 0 2 8 (fun j loc news => ∃ lv rv kl kr tc, loc = ([("current", .str (T (if (fmtFrom (pairsL os) j).2.2 then [108, 101, 102, 116] else [114, 105, 103, 104, 116])) tc), ("right", .ref ad), ("left", .ref lf), ("a", src.val)] : List (Str × Value)) ∧
      news = [(ad, listOf rv.toArray kr), (lf, listOf lv.toArray kl)] ∧ Txts lv (fmtFrom (pairsL os) j).1 ∧ Txts rv (fmtFrom (pairsL os) j).2.1 ∧ lv.length ≤ j ∧ rv.length ≤ j) ?_ ?_ ?_ (by intro _; rfl) (by intro _ _; rfl))
  · fail "qgo"
    refine r_range3 D ?_ ?_ fun r s D => ⟨r, 16, _, _, _, _, _, rfl, D.get List.mem_cons_self, ?_, ?_, ⟨[], [], 0, 0, _, rfl, rfl, .nil, .nil, Nat.le_refl _, Nat.le_refl _⟩, D.forget (List.sublist_cons_self _ _)⟩ <;> first | decide | decide +kernel
  · clear D
    rintro j t _ _ s I oI hj ⟨lv, rv, kl, kr, tc, rfl, rfl, hlv, hrv, hll, hrl⟩ D
    generalize hcur : (if (fmtFrom (pairsL os) j).2.2 then [108, 101, 102, 116] else [114, 105, 103, 104, 116]) = cur at D
    rw [show (0 : Int) + 2 * (j : Int) = ((2 * j : Nat) : Int) by omega]
    obtain ⟨o1, ho1, hb1, u1, hv1⟩ := oat (2 * j) (by omega)
    obtain ⟨o2, ho2, hb2, u2, hv2⟩ := oat (2 * j + 1) (by omega)
    have hg := pairs_at os j o1 o2 ho1 ho2
    fail "qgo"
    fail "qsr"; (case q1 => exact D.srcAt hl rfl); (case q4 => exact hv1); (case q2 => rfl); (case q3 => omega)
    fail "qgo"
    refine r_shl D (by omega) ?_
    clear D; intro s t D
    fail "qgo"
    fail "qsr"; (case q1 => exact D.srcAt hl rfl); (case q4 => exact hv2); (case q2 => rfl); (case q3 => omega)
    fail "qgo"
    rw [show ((o1 * 256 : Nat) : Int) + (o2 : Int) = (((pairsL os).getD j 0 : Nat) : Int) by rw [hg]; omega] at D
    have hf := fmtFrom_succ (pairsL os) j
    have hnx : j < 7 → ∃ u1 u2 o1 o2, src.its.toList[2 * j + 2]? = some (.int (o1 : Nat) u1) ∧ src.its.toList[2 * j + 3]? = some (.int (o2 : Nat) u2) ∧ o1 < 256 ∧ o2 < 256 ∧ (pairsL os).getD (j + 1) 0 = o1 * 256 + o2 := fun h7 => by
      obtain ⟨o1, ho1, hb1, u1, hv1⟩ := oat (2 * j + 2) (by omega)
      obtain ⟨o2, ho2, hb2, u2, hv2⟩ := oat (2 * j + 3) (by omega)
      exact ⟨u1, u2, o1, o2, hv1, hv2, hb1, hb2, pairs_at os (j + 1) o1 o2 ho1 ho2⟩
    simp only [fmtStep] at hf
    have hgn : (pairsL os).getD j 0 < 65536 := by rw [hg]; omega
    generalize (pairsL os).getD j 0 = g at *
    rcases hx : fmtFrom (pairsL os) j with ⟨l, r, c⟩
    rw [hx] at hf hlv hrv hcur
    dsimp only at hlv hrv hcur
    have fin : ∀ s (lv' rv' : List Value) (l' r' : List (List Nat)) (c' : Bool) kl' kr' tc' cur', (if c' then [108, 101, 102, 116] else [114, 105, 103, 104, 116]) = cur' → fmtFrom (pairsL os) (j + 1) = (l', r', c') → Txts lv' l' → Txts rv' r' → lv'.length ≤ j + 1 → rv'.length ≤ j + 1 →
        St ⟨[], [], s₀, L⟩ [("current", .str (T cur') tc'), ("right", .ref ad), ("left", .ref lf), ("a", src.val)] [(I, oI), (ad, listOf rv'.toArray kr'), (lf, listOf lv'.toArray kl')] s →
        ∃ loc news, (∃ lv rv kl kr tc, loc = ([("current", .str (T (if (fmtFrom (pairsL os) (j + 1)).2.2 then [108, 101, 102, 116] else [114, 105, 103, 104, 116])) tc), ("right", .ref ad), ("left", .ref lf), ("a", src.val)] : List (Str × Value)) ∧
          news = [(ad, listOf rv.toArray kr), (lf, listOf lv.toArray kl)] ∧ Txts lv (fmtFrom (pairsL os) (j + 1)).1 ∧ Txts rv (fmtFrom (pairsL os) (j + 1)).2.1 ∧ lv.length ≤ j + 1 ∧ rv.length ≤ j + 1) ∧ St ⟨[], [], s₀, L⟩ loc ((I, oI) :: news) s := by
      intro s lv' rv' l' r' c' kl' kr' tc' cur' ec e h1 h2 h3 h4 D
      subst ec
      rw [e]
      exact ⟨_, _, ⟨lv', rv', kl', kr', tc', rfl, rfl, h1, h2, h3, h4⟩, D⟩
    have app : ∀ {vs : List Value} {ls : List (List Nat)} (x : List Nat) (t : Tok), Txts vs ls → Txts (vs ++ [.str (T x) t]) (ls ++ [x]) := fun x t h => Paired.snoc h ⟨t, rfl⟩
    cases c with
    | true =>
      simp only [if_true] at hf hcur
      subst hcur
      fail "qgo"
      rw [if_pos (by decide)]
      fail "qgo"
      by_cases hz : g = 0
      · rw [if_pos (by fail "qb")]
        fail "qgo"
        by_cases h7 : j < 7
        · rw [if_pos (by fail "qb")]
          fail "qgo"
          obtain ⟨u1, u2, p1, p2, hw1, hw2, hp1, hp2, hpe⟩ := hnx h7
          fail "qsr"; (case q1 => exact D.srcAt hl rfl); (case q4 => exact hw1); (case q2 => rfl); (case q3 => omega)
          fail "qgo"
          refine r_shl D (by omega) ?_
          clear D; intro s t D
          fail "qgo"
          fail "qsr"; (case q1 => exact D.srcAt hl rfl); (case q4 => exact hw2); (case q2 => rfl); (case q3 => omega)
          fail "qgo"
          rw [if_pos ⟨hz, h7⟩] at hf
          by_cases hz2 : p1 * 256 + p2 = 0
          · rw [if_pos (by fail "qb")]
            fail "qgo"
            rw [if_pos (by omega)] at hf
            exact fin _ lv rv l r false kl kr _ [114, 105, 103, 104, 116] rfl hf hlv hrv (by omega) (by omega) (D.to (by fail "qsub") (by kernel_rfl))
          · rw [if_neg (by fail "qb")]
            fail "qgo"
            rw [if_neg (by omega)] at hf
            exact fin _ _ rv _ r true (kl + 1) kr tc [108, 101, 102, 116] rfl hf (app _ _ hlv) hrv (by simp; omega) (by omega) (D.to (by fail "qsub") (by kernel_rfl))
        · rw [if_neg (by fail "qb")]
          rw [if_neg (by omega)] at hf
          fail "qgo"
          refine r_hexfmt D hgn (meets_x _ hgn _ _) ?_
          clear D; intro s t D
          fail "qgo"
          exact fin _ _ rv _ r true (kl + 1) kr tc [108, 101, 102, 116] rfl hf (app _ _ hlv) hrv (by simp; omega) (by omega) (D.to (by fail "qsub") (by kernel_rfl))
      · rw [if_neg (by fail "qb")]
        rw [if_neg (by omega)] at hf
        fail "qgo"
        refine r_hexfmt D hgn (meets_x _ hgn _ _) ?_
        clear D; intro s t D
        fail "qgo"
        exact fin _ _ rv _ r true (kl + 1) kr tc [108, 101, 102, 116] rfl hf (app _ _ hlv) hrv (by simp; omega) (by omega) (D.to (by fail "qsub") (by kernel_rfl))
    | false =>
      simp only [Bool.false_eq_true, if_false] at hf hcur
      subst hcur
      have hrr : rv.length = r.length := hrv.length
      fail "qgo"
      rw [if_neg (by decide)]
      fail "qgo"
      by_cases hz : g = 0
      · rw [if_pos (by fail "qb")]
        fail "qgo"
        refine r_len_list D (D.listN (k := kr) (by fail "qin")) (by omega) ?_
        clear D; intro s t D
        fail "qgo"
        by_cases hr0 : r = []
        · subst hr0
          rw [if_pos (by simp at hrr; simp [hrr])]
          fail "qgo"
          rw [if_pos ⟨hz, rfl⟩] at hf
          exact fin _ lv rv l _ false kl kr tc [114, 105, 103, 104, 116] rfl hf hlv hrv (by omega) (by omega) (D.to (by fail "qsub") (by kernel_rfl))
        · rw [if_neg (by cases r with | nil => exact absurd rfl hr0 | cons a b => simp at hrr; simp [hrr]; omega)]
          rw [if_neg (fun h => hr0 h.2)] at hf
          fail "qgo"
          refine r_hexfmt D hgn (meets_x _ hgn _ _) ?_
          clear D; intro s t D
          fail "qgo"
          exact fin _ lv _ l _ false kl (kr + 1) tc [114, 105, 103, 104, 116] rfl hf hlv (app _ _ hrv) (by omega) (by simp; omega) (D.to (by fail "qsub") (by kernel_rfl))
      · rw [if_neg (by fail "qb")]
        rw [if_neg (fun h => hz h.1)] at hf
        fail "qgo"
        refine r_hexfmt D hgn (meets_x _ hgn _ _) ?_
        clear D; intro s t D
        fail "qgo"
        exact fin _ lv _ l _ false kl (kr + 1) tc [114, 105, 103, 104, 116] rfl hf hlv (app _ _ hrv) (by omega) (by simp; omega) (D.to (by fail "qsub") (by kernel_rfl))
  · clear D
    rintro _ _ s ⟨lv, rv, kl, kr, tc, rfl, rfl, hlv, hrv, hll, hrl⟩ D
    have hb : ∀ n, n < 8 → (pairsL os).getD n 0 < 65536 := fun n h8 => by
      obtain ⟨o1, ho1, hb1, u1, hv1⟩ := oat (2 * n) (by omega)
      obtain ⟨o2, ho2, hb2, u2, hv2⟩ := oat (2 * n + 1) (by omega)
      rw [pairs_at os n o1 o2 ho1 ho2]; omega
    have hw := fmt_size (pairsL os) hb 8 (by omega)
    generalize hx : fmtFrom (pairsL os) 8 = x at *
    obtain ⟨l, r, c⟩ := x
    have hlr := hlv.length
    have hj1 := join_len [58] l
    have hj2 := join_len [58] r
    have hrr := hrv.length
    dsimp only at hw hlr hrr hlv hrv
    simp only [List.length_cons, List.length_nil] at hj1 hj2
    generalize (if (l, r, c).2.2 then [108, 101, 102, 116] else [114, 105, 103, 104, 116]) = cur at D
    have hfin : fmtL (pairsL os) = if l.length < 8 then joinL [58] l ++ [58, 58] ++ joinL [58] r else joinL [58] l := by unfold fmtL; rw [hx]
    fail "qgo"
    refine r_len_list D (D.listN (k := kl) (by fail "qin")) (by omega) ?_
    clear D; intro s t D
    fail "qgo"
    by_cases h8 : l.length < 8
    · rw [if_pos (by simp; omega)]
      rw [if_pos h8] at hfin
      fail "qgo"
      refine r_join D (D.listN (k := kl) (by fail "qin")) (txts_strs hlv) (by decide) (by omega) ?_
      clear D; intro s t D
      fail "qgo"
      refine r_join D (D.listN (k := kr) (by fail "qin")) (txts_strs hrv) (by decide) (by omega) ?_
      clear D; intro s t D
      fail "qgo"
      rw [← hfin]
      exact k _ _ D.toRel D.same
    · rw [if_neg (by simp; omega)]
      rw [if_neg h8] at hfin
      fail "qgo"
      refine r_join D (D.listN (k := kl) (by fail "qin")) (txts_strs hlv) (by decide) (by omega) ?_
      clear D; intro s t D
      fail "qgo"
      rw [← hfin]
      exact k _ _ D.toRel D.same

section
variable {prog : Program} {w : World} {A : Around} {E : Value → Shared → Prop} {s₀ : Shared} {mg mb : Str → Option Value} {Q : Value → Shared → Prop} {I t : Addr} {oI : Obj} {i : Nat} {its : Array Value}
theorem pull_item {x : Value} (W : WF w mg mb s₀.heap) (hA : A.depth < 800) (hI : s₀.heap.get? I = some oI) (hT : TI oI t i) (hl : IsTup s₀.heap t its) (hne : t ≠ I) (hlow : 515 ≤ I) (hx : its[i]? = some x)
    (k : ∀ r oI' s', Rel [I] [] s₀.heap s'.heap → Same s₀ s' → TI oI' t (i + 1) → s'.heap.get? I = some oI' → s'.heap.get? r = some (tupOf #[.bool true, x]) → s₀.heap.get? r = none → Q (.ref r) s') : wpAny (model prog w) A (call (.ref 356) [.ref I]) Q E s₀ := by
  refine enterS [I] [] [(I, oI)] [("it", .ref I)] W (by omega) (fun a h => by simp at h; subst h; exact hlow) (fun p hp => by simp at hp; subst hp; exact ⟨by simp, hI⟩) (by simp) (by k_is) (by k_is) (.of_eq (by rfl)) (by kernel_rfl) ?_
  intro L s _ D
  have htS : t ∉ (⟨[I], [], s₀, L⟩ : Cx).S := by simpa using hne
  fail "qgo"
  refine r_next_item D (by fail "qin") hT (D.tupl hl htS) hx ?_
  clear D s; intro oI' s hT' hD
  have D := hD _ .here
  clear hD
  fail "qgo"
  exact k _ oI' _ D.toRel D.same hT' (D.get (by fail "qin")) (D.get (by fail "qin")) (D.isNewS (p := (ad, _)) List.mem_cons_self (by have := D.ord; simp at this ⊢; omega))
theorem pull_end {fs : List Addr} (W : WF w mg mb s₀.heap) (K : Frames A fs s₀.heap) (dis : ∀ a ∈ fs, a ≠ I) (hA : A.depth < 800) (hI : s₀.heap.get? I = some oI) (hT : TI oI t i) (hl : IsTup s₀.heap t its) (hne : t ≠ I) (hlow : 515 ≤ I) (hx : its[i]? = none)
    (k : ∀ r oI' s', Rel [I] fs s₀.heap s'.heap → Same s₀ s' → s'.heap.get? I = some oI' → s'.heap.get? r = some (tupOf #[.bool false, .none]) → s₀.heap.get? r = none → Q (.ref r) s') : wpAny (model prog w) A (call (.ref 356) [.ref I]) Q E s₀ := by
  refine enterS [I] fs [(I, oI)] [("it", .ref I)] W (by omega) (K.lowS fun a h => by simp at h; subst h; exact hlow) (fun p hp => by simp at hp; subst hp; exact ⟨by simp, hI⟩) (by simp) (by k_is) (by k_is) (.of_eq (by rfl)) (by kernel_rfl) ?_
  intro L s _ D
  have htS : t ∉ (⟨[I], fs, s₀, L⟩ : Cx).S := by simpa using hne
  have dis' : ∀ b ∈ (⟨[I], fs, s₀, L⟩ : Cx).fs, b ∉ (⟨[I], fs, s₀, L⟩ : Cx).S := fun b hb => by simpa using dis b hb
  have hh : A.handled = none := K.calm
  fail "qgo"
  refine r_next_end hh D (by fail "qin") hT (D.tupl hl htS) hx ?_
  clear D s; intro oI' s s' e hD hM hS
  have D := hD _ .here
  clear hD
  refine catch_made D W K dis' rfl hM hS (by kernel_rfl) (by k_is) PyProof.Rows.Boot.«StopIteration» (by kernel_rfl) isExc_stop notTup_stop sub_stop ?_
  clear D
  intro t' s D _
  refine wpAny_mono (Q := _) (E := fun _ _ => False) ?_ (fun _ _ x => x) (fun _ _ x => x.elim)
  fail "qgo"
  exact k _ oI' _ D.toRel D.same (D.get (by fail "qin")) (D.get (by fail "qin")) (D.isNewS (p := (ad, _)) List.mem_cons_self (by have := D.ord; simp at this ⊢; omega))
end
theorem alt_mem {a : Addr} {o o' : Obj} {news news' : List (Addr × Obj)} (U : Alt a o o' news news') (nd : (news.map (·.1)).Nodup) : ∀ p ∈ news', p = (a, o') ∨ (p ∈ news ∧ p.1 ≠ a) := by
  induction U with
  | @here r =>
    intro p hp
    rw [List.map_cons, List.nodup_cons] at nd
    rcases List.mem_cons.mp hp with rfl | hp
    · exact .inl rfl
    · exact .inr ⟨.tail _ hp, fun e => nd.1 (by have := List.mem_map_of_mem (f := (·.1)) hp; rwa [e] at this)⟩
  | @there q r r' U ih =>
    intro p hp
    rw [List.map_cons, List.nodup_cons] at nd
    rcases List.mem_cons.mp hp with rfl | hp
    · refine .inr ⟨.head _, fun e => nd.1 ?_⟩
      have := List.mem_map_of_mem (f := (·.1)) U.mem
      rwa [← e] at this
    · rcases ih nd.2 p hp with e | ⟨h1, h2⟩
      · exact .inl e
      · exact .inr ⟨.tail _ h1, h2⟩
section
variable {prog : Program} {w : World} {A : Around} {E : Value → Shared → Prop} {C : Cx} {s : Shared} {mg mb : Str → Option Value} {loc : List (Str × Value)} {news news' : List (Addr × Obj)} {Q : Value → Shared → Prop} {I tp : Addr} {oI : Obj} {i : Nat} {its : Array Value}
/-- behind a call that touches one object at hand and makes one -/
theorem St.afterOne {fs : List Addr} (D : St C loc news s) {s' : Shared} {r : Addr} {o or' : Obj} (K : ∀ p ∈ news, p.1 ∉ fs) (hf : ∀ a ∈ fs, a ∈ C.L :: C.fs) (x : Rel [I] fs s.heap s'.heap) (e : Same s s') (hI : s'.heap.get? I = some or') (hr : s'.heap.get? r = some o) (hn : s.heap.get? r = none) (U : Alt I oI or' news news') : St C loc ((r, o) :: news') s' := by
  have mI := U.mem
  refine D.after (S' := [I]) (x.mono (fun _ z => z) hf) (fun a ha => by simp at ha; subst ha; exact List.mem_map_of_mem (f := (·.1)) mI) e [(r, o)] news' U.keys (fun p hp => ?_) (by simp) (fun p hp => by simp at hp; subst hp; exact hn)
  rcases List.mem_cons.mp hp with rfl | hp
  · exact hr
  · rcases alt_mem U D.ord p hp with rfl | ⟨h1, h2⟩
    · exact hI
    · exact x.keep _ _ (by simpa using h2) (K p h1) (D.get (o := p.2) h1)
theorem c_pull_item {x : Value} (D : St C loc news s) (W : WF w mg mb C.s₀.heap) (hA : A.depth < 800) (hm : (I, oI) ∈ news) (hT : TI oI tp i) (hl : IsTup s.heap tp its) (hne : tp ≠ I) (hlow : 515 ≤ I) (hx : its[i]? = some x)
    (k : ∀ r oI' s', TI oI' tp (i + 1) → (∀ news', Alt I oI oI' news news' → St C loc ((r, tupOf #[.bool true, x]) :: news') s') → Q (.ref r) s') : wpAny (model prog w) A (call (.ref 356) [.ref I]) Q E s :=
  pull_item (D.wf W) hA (D.get hm) hT hl hne hlow hx fun r oI' s' x e hT' hI hr hn => k r oI' s' hT' fun news' U => D.afterOne (fs := []) (fun _ _ z => nomatch z) (fun _ z => nomatch z) x e hI hr hn U
theorem c_pull_end {name : Str} {scope : Scope} {a : Addr} {cd : Value} (D : St C loc news s) (W : WF w mg mb C.s₀.heap) (K : Frames A C.fs C.s₀.heap) (dis : ∀ b ∈ C.fs, b ∉ C.S) (hk : scope.kind = .function) (hA : A.depth < 700) (hm : (I, oI) ∈ news) (hT : TI oI tp i) (hl : IsTup s.heap tp its) (hne : tp ≠ I) (hlow : 515 ≤ I) (hx : its[i]? = none)
    (k : ∀ r oI' s', (∀ news', Alt I oI oI' news news' → St C loc ((r, tupOf #[.bool false, .none]) :: news') s') → Q (.ref r) s') : wpAny (model prog w) (A.deeper (envOf name scope C.L a cd)) (call (.ref 356) [.ref I]) Q E s :=
  pull_end (D.wf W) (K.deeper W D dis hk) (fun b hb e => D.noFrame K dis hm (e ▸ hb)) (by show A.depth + 1 < 800; omega) (D.get hm) hT hl hne hlow hx fun r oI' s' x e hI hr hn => k r oI' s' fun news' U => D.afterOne (fun p hp => D.noFrame K dis hp) (fun _ z => z) x e hI hr hn U
end

section
variable {prog : Program} {w : World} {A : Around} {E : Value → Shared → Prop} {s₀ : Shared} {mg mb : Str → Option Value} {Q : Value → Shared → Prop} {x dx SI AI T0 tp : Addr} {oS oA : Obj} {i j : Nat} {ts its : Array Value}
/-- a chain with an iterator under way that has more -/
theorem chain_more {v : Value} (W : WF w mg mb s₀.heap) (hA : A.depth < 700) (hh : A.handled = none) (hx : s₀.heap.get? x = some (inst 399 dx #[some (.ref AI), some (.ref SI)])) (hdx : s₀.heap.get? dx = some (dictOf [] 0)) (hAI : s₀.heap.get? AI = some oA) (hT : TI oA tp j) (hl : IsTup s₀.heap tp its) (hv : its[j]? = some v)
    (low : ∀ a ∈ [x, dx, AI], 515 ≤ a) (nd : [x, dx, AI].Nodup) (ht : tp ∉ [x, dx, AI])
    (k : ∀ oA' s', Rel [x, dx, AI] [] s₀.heap s'.heap → Same s₀ s' → s'.heap.get? x = some (inst 399 dx #[some (.ref AI), some (.ref SI)]) → s'.heap.get? dx = some (dictOf [] 0) → TI oA' tp (j + 1) → s'.heap.get? AI = some oA' → Q v s') : wpAny (model prog w) A (call (.ref 395) [.ref x]) Q E s₀ := by
  refine enterS [x, dx, AI] [] [(x, inst 399 dx #[some (.ref AI), some (.ref SI)]), (dx, dictOf [] 0), (AI, oA)] [("self", .ref x)] W (by omega) (fun a h => low a (by simpa using h)) (fun p hp => by simp at hp; rcases hp with rfl | rfl | rfl <;> simp [*]) nd (by k_is) (by k_is) (.of_eq (by rfl)) (by kernel_rfl) ?_
  intro L s _ D
  fail "qgo"
  refine wpAny_execs_cons (whileX (fun n s => n = 1 ∧ St ⟨[x, dx, AI], [], s₀, L⟩ [("path", .ref ad), ("self", .ref x)] [(ad, listOf #[.ref x] 0), (x, inst 399 dx #[some (.ref AI), some (.ref SI)]), (dx, dictOf [] 0), (AI, oA)] s) ?_ 1 ⟨rfl, D⟩)
  clear D s
  rintro n s ⟨rfl, D⟩
  fail "qgo"
  refine r_typeof D (by fail "qin") (by rw [hT.1]; decide) ?_
  rw [hT.1]
  fail "qgo"
  have htS : tp ∉ (⟨[x, dx, AI], [], s₀, L⟩ : Cx).S := ht
  refine c_pull_item D W (by show A.depth + 1 < 800; omega) (by fail "qin") hT (D.tupl hl htS) (fun e => ht (by simp [e])) (low AI (by simp)) hv ?_
  clear D s
  intro r oA' s hT' hD
  have D := hD _ (by fail "qalt")
  clear hD
  fail "qgo"
  exact k oA' _ D.toRel D.same (D.get (by fail "qin")) (D.get (by fail "qin")) hT' (D.get (by fail "qin"))
end
section
variable {prog : Program} {w : World} {A : Around} {E : Value → Shared → Prop} {s₀ : Shared} {mg mb : Str → Option Value} {Q : Value → Shared → Prop} {x dx SI T0 tq : Addr} {oS : Obj} {i : Nat} {its0 itsq : Array Value} {act : Value} {rest : List (Addr × Obj)} {fs : List Addr}
/-- no iterator under way, or one at its end -/
def Idle (h : Heap) (S : List Addr) (act : Value) (rest : List (Addr × Obj)) : Prop := (act = .none ∧ rest = []) ∨ ∃ AI oA tp j its, act = .ref AI ∧ rest = [(AI, oA)] ∧ h.get? AI = some oA ∧ TI oA tp j ∧ IsTup h tp its ∧ its[j]? = none ∧ tp ∉ S ∧ AI ∈ S
set_option maxHeartbeats 2000000 in
theorem chain_next {v : Value} (W : WF w mg mb s₀.heap) (K : Frames A fs s₀.heap) (hA : A.depth < 600) (hx : s₀.heap.get? x = some (inst 399 dx #[some act, some (.ref SI)])) (hdx : s₀.heap.get? dx = some (dictOf [] 0)) (hS : s₀.heap.get? SI = some oS) (hT : TI oS T0 i) (h0 : IsTup s₀.heap T0 its0)
    (hI : Idle s₀.heap (x :: dx :: SI :: rest.map (·.1)) act rest) (low : ∀ a ∈ x :: dx :: SI :: rest.map (·.1), 515 ≤ a) (nd : (x :: dx :: SI :: rest.map (·.1)).Nodup) (dis : ∀ b ∈ fs, b ∉ x :: dx :: SI :: rest.map (·.1)) (nT : T0 ∉ x :: dx :: SI :: rest.map (·.1))
    (hi : its0[i]? = some (.ref tq)) (hq : IsTup s₀.heap tq itsq) (nq : tq ∉ x :: dx :: SI :: rest.map (·.1)) (hv : itsq[0]? = some v)
    (k : ∀ AI oA oS' s', Rel (x :: dx :: SI :: rest.map (·.1)) fs s₀.heap s'.heap → Same s₀ s' → s'.heap.get? x = some (inst 399 dx #[some (.ref AI), some (.ref SI)]) → s'.heap.get? dx = some (dictOf [] 0) → s'.heap.get? SI = some oS' → TI oS' T0 (i + 1) → s'.heap.get? AI = some oA → TI oA tq 1 → s₀.heap.objs.size ≤ AI → Q v s') :
    wpAny (model prog w) A (call (.ref 395) [.ref x]) Q E s₀ := by
  have hh : A.handled = none := K.calm
  refine enterS (x :: dx :: SI :: rest.map (·.1)) fs ((x, inst 399 dx #[some act, some (.ref SI)]) :: (dx, dictOf [] 0) :: (SI, oS) :: rest) [("self", .ref x)] W (by omega) (K.lowS low) (fun p hp => ?_) (by simpa using nd) (by k_is) (by k_is) (.of_eq (by rfl)) (by kernel_rfl) ?_
  · simp only [List.mem_cons] at hp
    rcases hp with rfl | rfl | rfl | hp
    · exact ⟨by simp, hx⟩
    · exact ⟨by simp, hdx⟩
    · exact ⟨by simp, hS⟩
    · refine ⟨by simp only [List.mem_cons]; exact .inr (.inr (.inr (List.mem_map_of_mem (f := (·.1)) hp))), ?_⟩
      rcases hI with ⟨_, rfl⟩ | ⟨AI, oA, _, _, _, _, rfl, h, _⟩
      · exact nomatch hp
      · simp at hp; subst hp; exact h
  intro L s _ D
  fail "qgo"
  generalize hSS : x :: dx :: SI :: rest.map (·.1) = S at *
  have dis' : ∀ b ∈ (⟨S, fs, s₀, L⟩ : Cx).fs, b ∉ (⟨S, fs, s₀, L⟩ : Cx).S := dis
  have nT' : T0 ∉ (⟨S, fs, s₀, L⟩ : Cx).S := nT
  have nq' : tq ∉ (⟨S, fs, s₀, L⟩ : Cx).S := nq
  refine wpAny_execs_cons (whileX (fun n s => (n = 1 ∧ St ⟨S, fs, s₀, L⟩ [("path", .ref ad), ("self", .ref x)] ((ad, listOf #[.ref x] 0) :: (x, inst 399 dx #[some .none, some (.ref SI)]) :: (dx, dictOf [] 0) :: (SI, oS) :: []) s) ∨
    (n = 2 ∧ ∃ AI oA tp j its, St ⟨S, fs, s₀, L⟩ [("path", .ref ad), ("self", .ref x)] ((ad, listOf #[.ref x] 0) :: (x, inst 399 dx #[some (.ref AI), some (.ref SI)]) :: (dx, dictOf [] 0) :: (SI, oS) :: (AI, oA) :: []) s ∧ TI oA tp j ∧ IsTup s₀.heap tp its ∧ its[j]? = none ∧ tp ∉ S ∧ 515 ≤ AI ∧ AI ∈ S)) ?_ (if act = .none then 1 else 2) ?_)
  · clear D s
    rintro n s (⟨rfl, D⟩ | ⟨rfl, AI, oA, tp, j, its, D, hTA, hlA, hvA, ntp, lowA, mA⟩)
    · fail "qgo"
      refine c_pull_item D W (by show A.depth + 1 < 800; omega) (by fail "qin") hT (D.tupl h0 nT') (fun e => nT (e ▸ hSS ▸ by simp)) (low SI (hSS ▸ by simp)) hi ?_
      clear D s
      intro r oS' s hT' hD
      have D := hD _ (by fail "qalt")
      clear hD
      fail "qgo"
      refine r_iter_tup D (D.tupl hq nq') ?_
      clear D s
      intro AI oA s hfr D hTA
      have hnone : s₀.heap.get? AI = none := Heap.get?_none_of_le hfr
      fail "qgo"
      refine r_typeof D (by fail "qin") (by rw [hTA.1]; decide) ?_
      rw [hTA.1]
      fail "qgo"
      refine c_pull_item D W (by show A.depth + 1 < 800; omega) (by fail "qin") hTA (D.tupl hq nq') (fun e => ?_) (Nat.le_trans W.lowSize hfr) hv ?_
      · obtain ⟨o, ho, _⟩ := hq
        rw [e, hnone] at ho; cases ho
      clear D s
      intro r oA' s hTA' hD
      have D := hD _ (by fail "qalt")
      clear hD
      fail "qgo"
      exact k AI oA' oS' _ D.toRel D.same (D.get (by fail "qin")) (D.get (by fail "qin")) (D.get (by fail "qin")) hT' (D.get (by fail "qin")) hTA' hfr
    · fail "qgo"
      refine r_typeof D (by fail "qin") (by rw [hTA.1]; decide) ?_
      rw [hTA.1]
      fail "qgo"
      refine c_pull_end D W K dis' rfl (by omega) (by fail "qin") hTA (D.tupl hlA ntp) (fun e => ntp (e ▸ mA)) lowA hvA ?_
      clear D s
      intro r oA' s hD
      have D := hD _ (by fail "qalt")
      clear hD
      fail "qgo"
      exact ⟨1, by omega, .inl ⟨rfl, (D.drop (news' := (ad, listOf #[.ref x] 0) :: (x, inst 399 dx #[some .none, some (.ref SI)]) :: (dx, dictOf [] 0) :: (SI, oS) :: []) (by fail "qsb")).to (by fail "qsub") (by kernel_rfl)⟩⟩
  · rcases hI with ⟨rfl, rfl⟩ | ⟨AI, oA, tp, j, its, rfl, rfl, h1, h2, h3, h4, h5, h6⟩
    · exact .inl ⟨rfl, D⟩
    · exact .inr ⟨rfl, AI, oA, tp, j, its, D, h2, h3, h4, h5, low _ h6, h6⟩
end

theorem same_between {a b c : Shared} (x : Same a b) (y : Same a c) : Same b c := ⟨y.gens.trans x.gens.symm, y.os.trans x.os.symm, y.drawn.trans x.drawn.symm⟩
theorem rel_dropL {S fs : List Addr} {L : Addr} {a b c : Heap} (x : Rel S fs a b) (y : Rel [] (L :: fs) b c) (hL : a.objs.size ≤ L) : Rel S fs a c := by
  have nL : ∀ p o, a.get? p = some o → p ≠ L := fun p o q z => by
    subst z; exact absurd (Nat.lt_of_lt_of_le (Heap.lt_size q) hL) (Nat.lt_irrefl _)
  refine ⟨fun p o n n' q => ?_, fun p o n m q => ?_⟩
  · exact y.keep p o (fun z => nomatch z) (fun z => (List.mem_cons.mp z).elim (nL p o q) n') (x.keep p o n n' q)
  · obtain ⟨sl, h1⟩ := x.frame p o n m q
    obtain ⟨sl', h2⟩ := y.any (fun z => nomatch z) h1
    exact ⟨sl', h2⟩
/-- raise alone, in a clause within a loop's body: out of the frame -/
theorem reraise_out {prog : Program} {w : World} {A : Around} {E E₁ : Value → Shared → Prop} {C : Cx} {s s' : Shared} {mg mb : Str → Option Value} {loc : List (Str × Value)} {news : List (Addr × Obj)} {name : Str} {scope : Scope} {a : Addr} {cd : Value} {e t : Addr} {cls fl : Value} {args : List Value} {pos : Pos} {rest : List Stmt} {Q : Flow → Shared → Prop}
    (D : St C loc news s) (W : WF w mg mb C.s₀.heap) (K : Frames A C.fs C.s₀.heap) (dis : ∀ b ∈ C.fs, b ∉ C.S) (hk : scope.kind = .function) (f : Flew (C.L :: C.fs) s.heap e cls t args fl s'.heap) (same : Same s s')
    (h : ∀ s'', Flew (C.L :: C.fs) s.heap e cls t args .none s''.heap → Same s s'' → E (.ref e) s'') :
    wpAny (model prog w) ((A.deeper (envOf name scope C.L a cd)).mark (some (.ref e))) (execs (.Raise none none pos :: rest) (envOf name scope C.L a cd)) Q
      (notedBy (model prog w) ((A.deeper (envOf name scope C.L a cd)).mark (some (.ref e))) (envOf name scope C.L a cd) (cameBackBy (model prog w) (A.deeper (envOf name scope C.L a cd)) (envOf name scope C.L a cd)
        (notedBy (model prog w) (A.deeper (envOf name scope C.L a cd)) (envOf name scope C.L a cd) (cameBackBy (model prog w) (A.deeper (envOf name scope C.L a cd)) (envOf name scope C.L a cd)
          (fun e s' => wpAny (model prog w) (A.deeper (envOf name scope C.L a cd)) (leaving (envOf name scope C.L a cd) e) (fun _ s'' => E e s'') E₁ s'))))) s' := by
  obtain ⟨outer, hf1, hf2, hf3⟩ := frames_here (name := name) (a := a) (cd := cd) D W K dis hk
  refine wpAny_execs_cons (x_reraise rfl hf3 hf2 f rfl fun h₁ f₁ => ?_)
  refine x_again rfl f₁ ?_
  refine x_back rfl hf3 hf2 f₁ fun h₂ f₂ => ?_
  refine x_again rfl f₂ ?_
  refine x_back rfl hf3 hf2 f₂ fun h₃ f₃ => ?_
  exact x_leave_held rfl hf3 hf2 f₃ fun h₄ f₄ => h _ f₄ (same.trans ⟨rfl, rfl, rfl⟩)
section
variable {prog : Program} {w : World} {A : Around} {E : Value → Shared → Prop} {s₀ : Shared} {mg mb : Str → Option Value} {Q : Value → Shared → Prop} {x dx SI T0 tq : Addr} {oS : Obj} {i : Nat} {its0 itsq : Array Value} {act : Value} {rest : List (Addr × Obj)} {fs : List Addr}
set_option maxHeartbeats 2000000 in
theorem chain_end (W : WF w mg mb s₀.heap) (K : Frames A fs s₀.heap) (hA : A.depth < 600) (hx : s₀.heap.get? x = some (inst 399 dx #[some act, some (.ref SI)])) (hdx : s₀.heap.get? dx = some (dictOf [] 0)) (hS : s₀.heap.get? SI = some oS) (hT : TI oS T0 i) (h0 : IsTup s₀.heap T0 its0)
    (hI : Idle s₀.heap (x :: dx :: SI :: rest.map (·.1)) act rest) (low : ∀ a ∈ x :: dx :: SI :: rest.map (·.1), 515 ≤ a) (nd : (x :: dx :: SI :: rest.map (·.1)).Nodup) (dis : ∀ b ∈ fs, b ∉ x :: dx :: SI :: rest.map (·.1)) (nT : T0 ∉ x :: dx :: SI :: rest.map (·.1))
    (hi : its0[i]? = none)
    (k : ∀ e s', Rel (x :: dx :: SI :: rest.map (·.1)) fs s₀.heap s'.heap → Same s₀ s' → (∃ ob, s'.heap.get? e = some ob ∧ ob.cls = .type "StopIteration") → E (.ref e) s') :
    wpAny (model prog w) A (call (.ref 395) [.ref x]) Q E s₀ := by
  have hh : A.handled = none := K.calm
  refine enterS (x :: dx :: SI :: rest.map (·.1)) fs ((x, inst 399 dx #[some act, some (.ref SI)]) :: (dx, dictOf [] 0) :: (SI, oS) :: rest) [("self", .ref x)] W (by omega) (K.lowS low) (fun p hp => ?_) (by simpa using nd) (by k_is) (by k_is) (.of_eq (by rfl)) (by kernel_rfl) ?_
  · simp only [List.mem_cons] at hp
    rcases hp with rfl | rfl | rfl | hp
    · exact ⟨by simp, hx⟩
    · exact ⟨by simp, hdx⟩
    · exact ⟨by simp, hS⟩
    · refine ⟨by simp only [List.mem_cons]; exact .inr (.inr (.inr (List.mem_map_of_mem (f := (·.1)) hp))), ?_⟩
      rcases hI with ⟨_, rfl⟩ | ⟨AI, oA, _, _, _, _, rfl, h, _⟩
      · exact nomatch hp
      · simp at hp; subst hp; exact h
  intro L s _ D
  fail "qgo"
  generalize hSS : x :: dx :: SI :: rest.map (·.1) = S at *
  have dis' : ∀ b ∈ (⟨S, fs, s₀, L⟩ : Cx).fs, b ∉ (⟨S, fs, s₀, L⟩ : Cx).S := dis
  have nT' : T0 ∉ (⟨S, fs, s₀, L⟩ : Cx).S := nT
  refine wpAny_execs_cons (whileX (fun n s => (n = 1 ∧ St ⟨S, fs, s₀, L⟩ [("path", .ref ad), ("self", .ref x)] ((ad, listOf #[.ref x] 0) :: (x, inst 399 dx #[some .none, some (.ref SI)]) :: (dx, dictOf [] 0) :: (SI, oS) :: []) s) ∨
    (n = 2 ∧ ∃ AI oA tp j its, St ⟨S, fs, s₀, L⟩ [("path", .ref ad), ("self", .ref x)] ((ad, listOf #[.ref x] 0) :: (x, inst 399 dx #[some (.ref AI), some (.ref SI)]) :: (dx, dictOf [] 0) :: (SI, oS) :: (AI, oA) :: []) s ∧ TI oA tp j ∧ IsTup s₀.heap tp its ∧ its[j]? = none ∧ tp ∉ S ∧ 515 ≤ AI ∧ AI ∈ S)) ?_ (if act = .none then 1 else 2) ?_)
  · clear D s
    rintro n s (⟨rfl, D⟩ | ⟨rfl, AI, oA, tp, j, its, D, hTA, hlA, hvA, ntp, lowA, mA⟩)
    · fail "qgo"
      refine c_pull_end D W K dis' rfl (by omega) (by fail "qin") hT (D.tupl h0 nT') (fun e => nT (e ▸ hSS ▸ by simp)) (low SI (hSS ▸ by simp)) hi ?_
      clear D s
      intro r oS' s hD
      have D := hD _ (by fail "qalt")
      clear hD
      fail "qgo"
      refine owsi_raiseC hh (r_builtin D W ⟨rfl, rfl⟩ (by kernel_rfl) (by k_is) PyProof.Rows.Boot.«StopIteration» (by kernel_rfl) ⟨rfl, rfl⟩) fun h' e hM => ?_
      refine catch_made (s' := { s with heap := h' }) D W K dis' rfl hM.of ⟨rfl, rfl, rfl⟩ (by kernel_rfl) (by k_is) PyProof.Rows.Boot.«StopIteration» (by kernel_rfl) isExc_stop notTup_stop sub_stop ?_
      intro t' s₄ D₄ f
      refine wpAny_execs_cons (wpAny_If ?_)
      (with_reducible refine wpAny_isTrue_Compare1 ?_ (hm := ?hm)); (case hm => with_unfolding_all rfl)
      (with_reducible refine Call_ ?_ (he := ?he)); (case he => rfl)
      refine r_builtin D₄ W ⟨rfl, rfl⟩ (by kernel_rfl) (by k_is) PyProof.Rows.Boot.«len» (by kernel_rfl) ?_
      (with_reducible refine cb1 ?_ ?he); (case he => rfl)
      refine r_local D₄ ⟨rfl⟩ (by kernel_rfl) (by fail "qmem") ?_
      refine PyProof.Rows.len_list (D₄.listN (its := #[.ref x]) (k := 0) (by fail "qin")) (by show ((1 : Nat) : Int) < 2 ^ 63; decide) ?_
      refine wpAny_Constant_int ?_
      refine PyProof.Rows.eq_int ?_
      refine wpAny_truthy_bool ?_
      rw [if_pos (by rfl)]
      refine reraise_out D W K dis' rfl f ((same_between D.same D₄.same).trans ⟨rfl, rfl, rfl⟩) fun s'' f' e' => ?_
      exact k e s'' (rel_dropL D.toRel f'.rel D.ge) (D.same.trans e') f'.there
    · fail "qgo"
      refine r_typeof D (by fail "qin") (by rw [hTA.1]; decide) ?_
      rw [hTA.1]
      fail "qgo"
      refine c_pull_end D W K dis' rfl (by omega) (by fail "qin") hTA (D.tupl hlA ntp) (fun e => ntp (e ▸ mA)) lowA hvA ?_
      clear D s
      intro r oA' s hD
      have D := hD _ (by fail "qalt")
      clear hD
      fail "qgo"
      exact ⟨1, by omega, .inl ⟨rfl, (D.drop (news' := (ad, listOf #[.ref x] 0) :: (x, inst 399 dx #[some .none, some (.ref SI)]) :: (dx, dictOf [] 0) :: (SI, oS) :: []) (by fail "qsb")).to (by fail "qsub") (by kernel_rfl)⟩⟩
  · rcases hI with ⟨rfl, rfl⟩ | ⟨AI, oA, tp, j, its, rfl, rfl, h1, h2, h3, h4, h5, h6⟩
    · exact .inl ⟨rfl, D⟩
    · exact .inr ⟨rfl, AI, oA, tp, j, its, D, h2, h3, h4, h5, low _ h6, h6⟩
end

theorem wp_eq {α : Type} {M : Model} {A : Around} {E : Value → Shared → Prop} {s : Shared} {m m' : Sem α} {Q : α → Shared → Prop} (e : m = m') (h : wpAny M A m' Q E s) : wpAny M A m Q E s := e ▸ h
section
variable {prog : Program} {w : World} {A : Around} {E : Value → Shared → Prop} {s₀ : Shared} {mg mb : Str → Option Value} {x dx : Addr} {vs : List Value} {R : Result → Shared → Prop}
theorem chain_init (W : WF w mg mb s₀.heap) (hA : A.depth < 800) (hx : s₀.heap.get? x = some (instObj 399 dx)) (hdx : s₀.heap.get? dx = some (dictOf [] 0)) (low : ∀ a ∈ [x, dx], 515 ≤ a) (nd : [x, dx].Nodup) (hz : vs.length ≤ 1000)
    (k : ∀ tp si oS s', Rel [x, dx] [] s₀.heap s'.heap → Same s₀ s' → s'.heap.get? x = some (inst 399 dx #[some .none, some (.ref si)]) → s'.heap.get? dx = some (dictOf [] 0) → s'.heap.get? si = some oS → TI oS tp 0 → s'.heap.get? tp = some (tupOf vs.toArray) → s₀.heap.objs.size ≤ si → s₀.heap.objs.size ≤ tp → si ≠ tp → R (.ok (.ret .none)) s') :
    codeAny (model prog w) A (.call (.ref 371) ⟨.ref x :: vs, []⟩) R s₀ := by
  have hxz := Heap.lt_size hx
  have hdz := Heap.lt_size hdx
  refine enterC [x, dx] [] ((s₀.heap.objs.size, tupOf vs.toArray) :: (x, instObj 399 dx) :: (dx, dictOf [] 0) :: []) { s₀ with heap := s₀.heap.push (tupOf vs.toArray) } [("self", .ref x), ("iterables", .ref s₀.heap.objs.size)] W (by omega) (fun a h => low a (by simpa using h)) (fun b o e => Heap.get?_push_of_some _ e) (by show _ ≤ (s₀.heap.push _).objs.size; rw [Heap.size_push]; exact Nat.le_succ _) ⟨rfl, rfl, rfl⟩ (fun p hp => ?_) ?_ (by k_is) (by k_is) (fun M A' E' Q' hq => ?_) (by kernel_rfl) ?_
  · simp only [List.mem_cons, List.not_mem_nil, or_false] at hp
    rcases hp with rfl | rfl | rfl
    · exact ⟨.inr (Heap.get?_none_of_le (Nat.le_refl _)), Heap.get?_push_size _ rfl⟩
    · exact ⟨.inl (by simp), Heap.get?_push_of_some _ hx⟩
    · exact ⟨.inl (by simp), Heap.get?_push_of_some _ hdx⟩
  · simp only [List.map_cons, List.map_nil, List.nodup_cons, List.mem_cons, List.not_mem_nil, or_false, not_false_eq_true, List.nodup_nil, and_true] at nd ⊢
    exact ⟨fun e => e.elim (Nat.ne_of_gt hxz) (Nat.ne_of_gt hdz), nd⟩
  · refine wp_eq (m' := newTuple vs >>= fun t => pure ([("self", .ref x), ("iterables", t)] : List (Str × Value))) (by cases vs <;> rfl) ?_
    refine wpAny_bind (wpAny_newObj_type (wpAny_pure hq) ?_)
    show vs.toArray.size ≤ sizeLine
    rw [List.size_toArray, sizeLine_eq]; omega
  · intro L s hL D
    have hsz : s₀.heap.objs.size ≤ L := D.ge
    generalize hT0 : s₀.heap.objs.size = tp at D
    fail "qgo"
    refine r_iter_tup D (D.tupN (by fail "qin")) ?_
    clear D s
    intro si oS s hfr D hTI
    have hfr' : s₀.heap.objs.size ≤ si := hfr
    fail "qgo"
    exact k tp si oS _ D.toRel D.same (D.get (by fail "qin")) (D.get (by fail "qin")) (D.get (by fail "qin")) hTI (D.get (by fail "qin")) hfr' (Nat.le_of_eq hT0) (fun e => (List.nodup_cons.mp D.ord).1 (by rw [e]; simp))
end

section
variable {C : Cx} {s : Shared} {loc : List (Str × Value)} {news : List (Addr × Obj)}
/-- as after, a part of the ledger alone kept -/
theorem St.afterSub (D : St C loc news s) {s' : Shared} {S' : List Addr} (x : Rel S' (C.L :: C.fs) s.heap s'.heap) (hS : ∀ a ∈ S', a ∈ news.map (·.1)) (hg : Same s s')
    (fr news' : List (Addr × Obj)) (ha : (news'.map (·.1)).Sublist (news.map (·.1))) (hn : ∀ p ∈ fr ++ news', s'.heap.get? p.1 = some p.2) (hf : (fr.map (·.1)).Nodup) (hz : ∀ p ∈ fr, s.heap.get? p.1 = none) : St C loc (fr ++ news') s' := by
  obtain ⟨⟨g, m, y, F, N, lc⟩, h0, hge, h1, h2, h3⟩ := id D
  have gS : ∀ b o, g.get? b = some o → b ∉ S' := fun b o e q => by
    obtain ⟨p, hp, rfl⟩ := List.mem_map.mp (hS b q)
    rw [(N p hp).2.2] at e; cases e
  have gL : ∀ b o, g.get? b = some o → b ≠ C.L := fun b o e q => by
    subst q; exact absurd (Nat.lt_of_lt_of_le (Heap.lt_size e) F.above) (Nat.lt_irrefl _)
  have LS : C.L ∉ S' := fun q => by
    obtain ⟨p, hp, e⟩ := List.mem_map.mp (hS _ q)
    exact (N p hp).2.1 e
  have k : ∀ b o, g.get? b = some o → ∃ o', s'.heap.get? b = some o' := fun b o e => by
    obtain ⟨sl, q⟩ := x.any (gS b o e) (F.keep b o e); exact ⟨_, q⟩
  have kk : ∀ b o, g.get? b = some o → b ∉ C.fs → s'.heap.get? b = some o := fun b o e q => x.keep b o (gS b o e) (fun z => by
    rcases List.mem_cons.mp z with z | z
    · exact gL b o e z
    · exact q z) (F.keep b o e)
  refine ⟨⟨regrown g s'.heap, m, ⟨fun b o n q e => ?_, fun b o n q e => ?_⟩, ⟨x.ns LS F.ns, fun b o e => ?_, ?_⟩, fun p hp => ⟨hn p hp, ?_⟩, lc⟩, h0, hge, h1, ?_, h3.trans hg⟩
  · have q1 := y.keep b o n q e
    exact regrown_some q1 (kk b o q1 q)
  · obtain ⟨sl, q1⟩ := y.frame b o n q e
    obtain ⟨sl', q2⟩ := x.any (gS b _ q1) (F.keep b _ q1)
    exact ⟨sl', regrown_some q1 q2⟩
  · obtain ⟨_, _, q⟩ := regrown_inv k e; exact q
  · rw [regrown_size]; exact F.above
  · rcases List.mem_append.mp hp with hp | hp
    · have hb := hz p hp
      refine ⟨fun e => ?_, regrown_none ?_⟩
      · obtain ⟨oL, _, _, hL, _⟩ := F.ns
        rw [e, hL] at hb; cases hb
      · cases q : g.get? p.1 with
        | none => rfl
        | some o => have := F.keep _ _ q; rw [hb] at this; cases this
    · have : p.1 ∈ news.map (·.1) := ha.subset (List.mem_map_of_mem hp)
      obtain ⟨p', hp', e⟩ := List.mem_map.mp this
      exact ⟨e ▸ (N p' hp').2.1, regrown_none (e ▸ (N p' hp').2.2)⟩
  · rw [List.map_append]
    refine List.nodup_append.mpr ⟨hf, h2.sublist ha, fun a ha' b hb e => ?_⟩
    obtain ⟨p, hp, rfl⟩ := List.mem_map.mp ha'
    obtain ⟨p', hp', rfl⟩ := List.mem_map.mp (ha.subset hb)
    have := hz p hp
    rw [e, D.get (o := p'.2) hp'] at this; cases this
end
theorem under_weight (cl : Addr) (vs : List Value) : (Code.builtin "type.__call__" ⟨.ref cl :: vs, []⟩).weight = 1 := by kernel_rfl
theorem under_envs (cl : Addr) (vs : List Value) : (Code.builtin "type.__call__" ⟨.ref cl :: vs, []⟩).envs = [] := by kernel_rfl
theorem Frames.cls {A : Around} {fs : List Addr} {h : Heap} {cl : Addr} {vs : List Value} (K : Frames A fs h) : Frames (A.under (.builtin "type.__call__" ⟨.ref cl :: vs, []⟩)) fs h := by
  obtain ⟨hd, d, fr, gs, u⟩ := A
  obtain ⟨ex, low, calm⟩ := K
  refine ⟨?_, low, calm⟩
  unfold Around.under
  rw [under_envs]
  exact ex
theorem depth_cls {A : Around} {cl : Addr} {vs : List Value} : (A.under (.builtin "type.__call__" ⟨.ref cl :: vs, []⟩)).depth = A.depth + 1 := by
  show A.depth + _ = _
  rw [under_weight]
theorem Rel.outer {S fs : List Addr} {a b c : Heap} (x : Rel [] fs a b) (y : Rel S fs b c) (n : ∀ p ∈ S, a.get? p = none) : Rel [] fs a c := by
  have k : ∀ p o, a.get? p = some o → p ∉ S := fun p o q z => by rw [n p z] at q; cases q
  refine ⟨fun p o _ n' q => y.keep p o (k p o q) n' (x.keep p o (fun z => nomatch z) n' q), fun p o _ m q => ?_⟩
  obtain ⟨sl, h1⟩ := x.frame p o (fun z => nomatch z) m q
  obtain ⟨sl', h2⟩ := y.any (k p o q) h1
  exact ⟨sl', h2⟩
theorem Frames.in1 {A : Around} {fs : List Addr} {h : Heap} (K : Frames A fs h) : Frames A.in1 fs h := ⟨K.ex, K.low, K.calm⟩
section
variable {prog : Program} {w : World} {A : Around} {E : Value → Shared → Prop} {s : Shared} {mg mb : Str → Option Value} {Q : Value → Shared → Prop}
/-- a class of one's own, called: a plain object, then its __init__ -/
theorem cls_call {cl fI : Addr} {vs : List Value} (W : WF w mg mb s.heap) (hm : makesIn (hd.heap_39 w.params) cl = true) (hi : findIn (hd.heap_39 w.params) (.ref cl) "__init__" = some (some (.ref fI))) (hf : isFn (hd.heap_39 w.params) (.ref fI) = true)
    (h : ∀ x dx s', Rel [] [] s.heap s'.heap → Same s s' → s'.heap.get? x = some (instObj cl dx) → s'.heap.get? dx = some (dictOf [] 0) → s.heap.objs.size ≤ x → s.heap.objs.size ≤ dx → x ≠ dx → s.heap.get? x = none → s.heap.get? dx = none →
      codeAny (model prog w) (A.under (.builtin "type.__call__" ⟨.ref cl :: vs, []⟩)) (.call (.ref fI) ⟨.ref x :: vs, []⟩) (InitBack x fun r s' => match r with | .ok (.ret v) => Q v s' | .ok _ => False | .error e => E e s') s') :
    wpAny (model prog w) A (call (.ref cl) vs) Q E s := by
  obtain ⟨hh, g, d, t, os⟩ := s
  refine wpAny_call (make_core (makes_of W.X hm) (looks_findIn W.X hi) (fun self => bind_fn W.X self (beq_iff_eq.mp hf)) (.inl rfl) ?_)
  refine h _ hh.objs.size _ ?_ ⟨rfl, rfl, rfl⟩ (by heap_get) (by heap_get) (Nat.le_succ _) (Nat.le_refl _) (Nat.succ_ne_self _) (Heap.get?_none_of_le (Nat.le_succ _)) (Heap.get?_none_of_le (Nat.le_refl _))
  exact Rel.of_keeps fun b o e => Heap.get?_push_of_some _ (Heap.get?_push_of_some _ e)
end

theorem nodup4 {a b c d : Addr} (h1 : a ≠ b) (h2 : a ≠ c) (h3 : a ≠ d) (h4 : b ≠ c) (h5 : b ≠ d) (h6 : c ≠ d) : [a, b, c, d].Nodup := by simp [*]
section
variable {prog : Program} {w : World} {A : Around} {E : Value → Shared → Prop} {s : Shared} {mg mb : Str → Option Value} {Q : Value → Shared → Prop} {C : Cx} {loc : List (Str × Value)} {news : List (Addr × Obj)} {vs : List Value}
theorem c_chain (D : St C loc news s) (W : WF w mg mb C.s₀.heap) (hA : A.depth < 700) (hz : vs.length ≤ 1000)
    (k : ∀ x dx tp si oS s', St C loc ((x, inst 399 dx #[some .none, some (.ref si)]) :: (dx, dictOf [] 0) :: (si, oS) :: (tp, tupOf vs.toArray) :: news) s' → TI oS tp 0 → 515 ≤ x → 515 ≤ dx → 515 ≤ si → Q (.ref x) s') :
    wpAny (model prog w) A (call (.ref 399) vs) Q E s := by
  have W' := D.wf W
  have lw := W'.lowSize
  refine cls_call W' (by k_is) (by k_is) (by k_is) fun x dx s₁ x1 e1 gx gd fx fd ne nx nd => ?_
  have W₁ : WF w mg mb s₁.heap := W'.rel x1 (fun _ z => nomatch z)
  refine chain_init W₁ (by rw [depth_cls]; omega) gx gd (fun a ha => by simp at ha; rcases ha with rfl | rfl <;> exact Nat.le_trans lw (by assumption)) (by simp [ne]) hz ?_
  intro tp si oS s' x2 e2 hx hdx hsi hT htp f1 f2 n12
  refine ⟨rfl, ?_⟩
  have z1 := Heap.lt_size gx
  have z2 := Heap.lt_size gd
  have y : Rel [] [] s.heap s'.heap := x1.outer x2 fun a ha => by simp at ha; rcases ha with rfl | rfl <;> assumption
  have n3 : s.heap.get? si = none := x1.none_of (Heap.get?_none_of_le f1)
  have n4 : s.heap.get? tp = none := x1.none_of (Heap.get?_none_of_le f2)
  have u : ∀ p ∈ news, s'.heap.get? p.1 = some p.2 := fun p hp => y.keep _ _ (fun z => nomatch z) (fun z => nomatch z) (D.get (o := p.2) hp)
  have D' := D.afterSub (y.mono (S' := []) (fs' := C.L :: C.fs) (fun _ z => z) (fun _ z => nomatch z)) (fun _ z => nomatch z) (e1.trans e2) [(x, inst 399 dx #[some .none, some (.ref si)]), (dx, dictOf [] 0), (si, oS), (tp, tupOf vs.toArray)] news (List.Sublist.refl _) (fun p hp => by
    rcases List.mem_append.mp hp with hp | hp
    · simp only [List.mem_cons, List.not_mem_nil, or_false] at hp
      rcases hp with rfl | rfl | rfl | rfl <;> assumption
    · exact u p hp) (nodup4 ne (Nat.ne_of_lt (Nat.lt_of_lt_of_le z1 f1)) (Nat.ne_of_lt (Nat.lt_of_lt_of_le z1 f2)) (Nat.ne_of_lt (Nat.lt_of_lt_of_le z2 f1)) (Nat.ne_of_lt (Nat.lt_of_lt_of_le z2 f2)) n12) (fun p hp => by
      simp only [List.mem_cons, List.not_mem_nil, or_false] at hp
      rcases hp with rfl | rfl | rfl | rfl <;> assumption)
  have hq := k x dx tp si oS s' D' hT (Nat.le_trans lw fx) (Nat.le_trans lw fd) (Nat.le_trans W₁.lowSize f1)
  exact hq
end
section
variable {prog : Program} {w : World} {A : Around} {E : Value → Shared → Prop} {s₀ : Shared} {mg mb : Str → Option Value} {Q : Value → Shared → Prop} {x : Addr}
theorem chain_iter (W : WF w mg mb s₀.heap) (hA : A.depth < 800) (k : ∀ s', Rel [] [] s₀.heap s'.heap → Same s₀ s' → Q (.ref x) s') : wpAny (model prog w) A (call (.ref 388) [.ref x]) Q E s₀ := by
  refine enterS [] [] [] [("self", .ref x)] W (by omega) (fun _ z => nomatch z) (fun _ z => nomatch z) (by simp) (by k_is) (by k_is) (.of_eq (by rfl)) (by kernel_rfl) ?_
  intro L s _ D
  fail "qgo"
  exact k _ D.toRel D.same
end
section
variable {prog : Program} {w : World} {A : Around} {s : Shared} {mg mb : Str → Option Value} {R : Result → Shared → Prop} {C : Cx} {loc : List (Str × Value)} {news0 : List (Addr × Obj)} {x dx SI S tp : Addr} {vs : List Value}
def pairOf (news : List (Addr × Obj)) (v : Value) (a b : Value) : Prop := ∃ tq, v = .ref tq ∧ (tq, tupOf #[a, b]) ∈ news
def IdleN (news0 : List (Addr × Obj)) (act : Value) (rest : List (Addr × Obj)) : Prop := (act = .none ∧ rest = []) ∨ ∃ AI oA tq a b, act = .ref AI ∧ rest = [(AI, oA)] ∧ TI oA tq 2 ∧ (tq, tupOf #[a, b]) ∈ news0 ∧ 515 ≤ AI
end
section
variable {M : Model} {A : Around} {E : Value → Shared → Prop} {s : Shared} {w : World} {x dx : Addr}
theorem own_next {sl : Array (Option Value)} {Q : Option Value → Shared → Prop} (X : (hd.heap_39 w.params).In s.heap) (hx : s.heap.get? x = some (inst 399 dx sl)) (hdx : s.heap.get? dx = some (dictOf [] 0))
    (h : wpAny M A (call (.ref 395) [.ref x]) (fun v s' => Q (some v) s') (OwitStop M A Q E) s) : wpAny M A (pyNext (.ref x)) Q E s := by
  unfold pyNext
  refine wpAny_bind (wpAny_attempt (special_fn (name := "__next__") (args := []) (C := 399) (od := some (dictOf [] 0)) X ⟨hx, rfl, rfl, hdx⟩ (by k_is) (beq_iff_eq.mp (show isFn (hd.heap_39 w.params) (.ref 395) = true by k_is)) (wpAny_mono h (fun v s' hq => ?_) (fun e s' he => ?_))))
  · exact wpAny_pure hq
  · refine wpAny_bind (wpAny_mono he (fun b s₂ hb => ?_) fun _ _ z => z)
    cases b with
    | true => exact wpAny_pure hb
    | false => exact wpAny_throw hb
theorem own_stop {Q : Option Value → Shared → Prop} {e : Addr} (he : ∃ ob, s.heap.get? e = some ob ∧ ob.cls = .type "StopIteration") (h : Q none s) : OwitStop M A Q E (.ref e) s := by
  obtain ⟨ob, h1, h2⟩ := he
  unfold OwitStop isInstance
  refine wpAny_bind (wpAny_typeOf ⟨ob, h1, h2⟩ ?_)
  rw [sub_stop]
  exact wpAny_pure (by rw [if_pos rfl]; exact h)
end
section
variable {prog : Program} {w : World} {A : Around} {s : Shared} {mg mb : Str → Option Value} {R : Result → Shared → Prop} {C : Cx} {loc : List (Str × Value)} {news0 : List (Addr × Obj)} {x dx SI S tp : Addr} {vs : List Value}
theorem St.pushHead {acc : Array Value} {c : Nat} {r : List (Addr × Obj)} {v : Value} (D : St C loc ((S, listOf acc c) :: r) s) : ∃ c', St C loc ((S, listOf (acc.push v) c') :: r) { s with heap := s.heap.update S (Obj.mapSeq (·.push v)) } :=
  ⟨_, D.change rfl (fun b o nb q => (Heap.get?_update_other _ _ (Ne.symm nb)).trans q) (Heap.get?_update_self (Obj.mapSeq (·.push v)) (D.get List.mem_cons_self) rfl) ⟨rfl, rfl, rfl⟩⟩
theorem low_of {act : Value} {rest : List (Addr × Obj)} (hI : IdleN news0 act rest) (l1 : 515 ≤ x) (l2 : 515 ≤ dx) (l3 : 515 ≤ SI) : ∀ a ∈ x :: dx :: SI :: rest.map (·.1), 515 ≤ a := by
  intro a ha
  simp only [List.mem_cons, List.mem_map] at ha
  rcases ha with rfl | rfl | rfl | ⟨p, hp, rfl⟩
  · exact l1
  · exact l2
  · exact l3
  · rcases hI with ⟨_, rfl⟩ | ⟨AI, oA, tq, a, b, _, rfl, _, _, h⟩
    · exact nomatch hp
    · simp at hp; subst hp; exact h
theorem idle_of {act : Value} {rest : List (Addr × Obj)} {pre : List (Addr × Obj)} (D : St C loc (pre ++ (rest ++ news0)) s) {X : List Addr} (hI : IdleN news0 act rest) (nN : ∀ a ∈ news0.map (·.1), a ∉ X ++ rest.map (·.1)) : Idle s.heap (X ++ rest.map (·.1)) act rest := by
  rcases hI with ⟨rfl, rfl⟩ | ⟨AI, oA, tq, a, b, rfl, rfl, h1, h2, _⟩
  · exact .inl ⟨rfl, rfl⟩
  · exact .inr ⟨AI, oA, tq, 2, #[a, b], rfl, rfl, D.get (by simp), h1, D.tupN (by simp [h2]), rfl, nN tq (List.mem_map_of_mem (f := (·.1)) h2), by simp⟩
theorem ord_parts {S : Addr} {X N : List Addr} (h : (S :: (X ++ N)).Nodup) : X.Nodup ∧ S ∉ X ∧ ∀ a ∈ N, a ∉ X := by
  obtain ⟨h1, h2⟩ := List.nodup_cons.mp h
  obtain ⟨a, b, c⟩ := List.nodup_append.mp h2
  exact ⟨a, fun z => h1 (List.mem_append_left _ z), fun z hz q => c z q z hz rfl⟩
theorem ext_loop (W : WF w mg mb C.s₀.heap) (K : ∀ loc news s, St C loc news s → Frames A (C.L :: C.fs) s.heap ∧ ∀ p ∈ news, p.1 ∉ C.L :: C.fs) (hA : A.depth < 500) (l1 : 515 ≤ x) (l2 : 515 ≤ dx) (l3 : 515 ≤ SI) (htp : (tp, tupOf vs.toArray) ∈ news0) (flat : Nat → List Value) (hfl : ∀ i v, vs[i]? = some v → ∃ a b, pairOf news0 v a b ∧ flat i = a :: b :: flat (i + 1)) (hf0 : ∀ i, vs[i]? = none → flat i = []) (total : Array Value)
    (hle : vs.length ≤ 1000)
    (k : ∀ s' c, St C loc ((S, listOf total c) :: news0) s' → R (.ok (.ret .none)) s' ) :
    ∀ n i s acc c act rest oS, vs.length - i = n → acc.size = 2 * i → acc ++ (flat i).toArray = total → St C loc ((S, listOf acc c) :: (x, inst 399 dx #[some act, some (.ref SI)]) :: (dx, dictOf [] 0) :: (SI, oS) :: (rest ++ news0)) s → TI oS tp i → IdleN news0 act rest →
      codeAny (model prog w) A (.builtin "list.extend.loop" ⟨[.ref S, .ref x, .none], []⟩) R s := by
  intro n
  induction n with
  | zero =>
    intro i s acc c act rest oS hn hac htot D hT hI
    have hv : vs[i]? = none := List.getElem?_eq_none (by omega)
    rw [hf0 i hv] at htot
    have hi : vs.toArray[i]? = none := by simpa using hv
    refine codeAny_builtin F.entry_extend_loop ?_
    rw [Around.under_plainId F.plain_extend_loop _]
    show wpAny _ A.in1 (pyNext (.ref x) >>= _) _ _ s
    have W' := D.wf W
    obtain ⟨Kf, Kd⟩ := K _ _ _ D
    have ordA : (S :: ((x :: dx :: SI :: rest.map (·.1)) ++ news0.map (·.1))).Nodup := by simpa using D.ord
    obtain ⟨nd, nS, nN⟩ := ord_parts ordA
    refine wpAny_bind (own_next W'.X (D.get (by fail "qin")) (D.get (by fail "qin")) ?_)
    refine chain_end W' Kf.in1 (by show A.depth < 600; omega) (D.get (by fail "qin")) (D.get (by fail "qin")) (D.get (by fail "qin")) hT (D.tupN (a := tp) (List.mem_cons_of_mem _ (List.mem_cons_of_mem _ (List.mem_cons_of_mem _ (List.mem_cons_of_mem _ (List.mem_append_right _ htp)))))) (idle_of (pre := [_, _, _, _]) (X := [_, _, _]) D hI nN) (low_of hI l1 l2 l3) nd ?_ (nN tp (List.mem_map_of_mem (f := (·.1)) htp)) hi ?_
    · intro b hb z
      simp only [List.mem_cons, List.mem_map] at z
      rcases z with rfl | rfl | rfl | ⟨p, hp, rfl⟩
      · exact Kd (_, inst 399 dx #[some act, some (.ref SI)]) (by fail "qin") hb
      · exact Kd (_, dictOf [] 0) (by fail "qin") hb
      · exact Kd (_, oS) (by fail "qin") hb
      · exact Kd p (by simp [hp]) hb
    · intro e s' hR hS he
      refine own_stop he (wpAny_pure ?_)
      have hmem : ∀ p ∈ (S, listOf acc c) :: news0, p ∈ (S, listOf acc c) :: (x, inst 399 dx #[some act, some (.ref SI)]) :: (dx, dictOf [] 0) :: (SI, oS) :: (rest ++ news0) := fun p hp => by
        rcases List.mem_cons.mp hp with rfl | hp
        · exact List.mem_cons_self
        · simp [hp]
      have D' := D.afterSub (s' := s') hR (fun a ha => by simp only [List.mem_cons, List.map_cons, List.map_append, List.mem_append] at ha ⊢; rcases ha with h | h | h | h <;> simp [h]) hS [] ((S, listOf acc c) :: news0) (by
          simp only [List.map_cons, List.map_append]
          exact (((List.sublist_append_right _ _).cons _).cons _ |>.cons _).cons_cons _) (fun p hp => hR.keep _ _ (fun z => ?_) (Kd p (hmem p hp)) (D.get (o := p.2) (hmem p hp))) List.nodup_nil (fun _ z => nomatch z)
      · rw [show acc ++ ([] : List Value).toArray = acc from Array.append_empty] at htot
        rw [htot] at D'
        exact k s' c D'
      · rcases List.mem_cons.mp hp with rfl | hp
        · exact nS z
        · exact nN _ (List.mem_map_of_mem (f := (·.1)) hp) z
  | succ n ih =>
    intro i s acc c act rest oS hn hac htot D hT hI
    obtain ⟨v, hv⟩ : ∃ v, vs[i]? = some v := ⟨_, List.getElem?_eq_getElem (by omega)⟩
    obtain ⟨va, vb, ⟨tq, rfl, hq⟩, hfi⟩ := hfl i v hv
    rw [hfi] at htot
    have hi : vs.toArray[i]? = some (.ref tq) := by simpa using hv
    have hlt : i < vs.length := by
      obtain ⟨h, _⟩ := List.getElem?_eq_some_iff.mp hv; exact h
    refine codeAny_builtin F.entry_extend_loop ?_
    rw [Around.under_plainId F.plain_extend_loop _]
    show wpAny _ A.in1 (pyNext (.ref x) >>= _) _ _ s
    have W' := D.wf W
    obtain ⟨Kf, Kd⟩ := K _ _ _ D
    have ordA : (S :: ((x :: dx :: SI :: rest.map (·.1)) ++ news0.map (·.1))).Nodup := by simpa using D.ord
    obtain ⟨nd, nS, nN⟩ := ord_parts ordA
    refine wpAny_bind (own_next W'.X (D.get (by fail "qin")) (D.get (by fail "qin")) ?_)
    refine chain_next W' Kf.in1 (by show A.depth < 600; omega) (D.get (by fail "qin")) (D.get (by fail "qin")) (D.get (by fail "qin")) hT (D.tupN (a := tp) (List.mem_cons_of_mem _ (List.mem_cons_of_mem _ (List.mem_cons_of_mem _ (List.mem_cons_of_mem _ (List.mem_append_right _ htp)))))) (idle_of (pre := [_, _, _, _]) (X := [_, _, _]) D hI nN) (low_of hI l1 l2 l3) nd ?_ (nN tp (List.mem_map_of_mem (f := (·.1)) htp)) hi
      (D.tupN (a := tq) (its := #[va, vb]) (List.mem_cons_of_mem _ (List.mem_cons_of_mem _ (List.mem_cons_of_mem _ (List.mem_cons_of_mem _ (List.mem_append_right _ hq)))))) (nN tq (List.mem_map_of_mem (f := (·.1)) hq)) rfl ?_
    · intro b hb z
      simp only [List.mem_cons, List.mem_map] at z
      rcases z with rfl | rfl | rfl | ⟨p, hp, rfl⟩
      · exact Kd (_, inst 399 dx #[some act, some (.ref SI)]) (by fail "qin") hb
      · exact Kd (_, dictOf [] 0) (by fail "qin") hb
      · exact Kd (_, oS) (by fail "qin") hb
      · exact Kd p (by simp [hp]) hb
    intro AI oA oS' s₁ hR hS gx gd gS hT' gA hTA hfr
    have hmem : ∀ p ∈ (S, listOf acc c) :: news0, p ∈ (S, listOf acc c) :: (x, inst 399 dx #[some act, some (.ref SI)]) :: (dx, dictOf [] 0) :: (SI, oS) :: (rest ++ news0) := fun p hp => by
      rcases List.mem_cons.mp hp with rfl | hp
      · exact List.mem_cons_self
      · simp [hp]
    have D₁ := D.afterSub (s' := s₁) hR (fun a ha => by simp only [List.mem_cons, List.map_cons, List.map_append, List.mem_append] at ha ⊢; rcases ha with h | h | h | h <;> simp [h]) hS [(AI, oA)] ((S, listOf acc c) :: (x, inst 399 dx #[some (.ref AI), some (.ref SI)]) :: (dx, dictOf [] 0) :: (SI, oS') :: news0) (by
        simp only [List.map_cons, List.map_append]
        exact ((((List.sublist_append_right _ _).cons_cons _).cons_cons _).cons_cons _).cons_cons _) (fun p hp => by
        simp only [List.cons_append, List.nil_append, List.mem_cons] at hp
        rcases hp with rfl | rfl | rfl | rfl | rfl | hp
        · exact gA
        · exact hR.keep _ _ nS (Kd _ (hmem _ List.mem_cons_self)) (D.get (hmem _ List.mem_cons_self))
        · exact gx
        · exact gd
        · exact gS
        · have hp' := hmem p (List.mem_cons_of_mem _ hp)
          exact hR.keep _ _ (nN _ (List.mem_map_of_mem (f := (·.1)) hp)) (Kd p hp') (D.get (o := p.2) hp')) (by simp) (fun p hp => by
        simp at hp; subst hp; exact Heap.get?_none_of_le hfr)
    have D₁ := D₁.perm (news' := (S, listOf acc c) :: (x, inst 399 dx #[some (.ref AI), some (.ref SI)]) :: (dx, dictOf [] 0) :: (SI, oS') :: (AI, oA) :: news0) (by
      refine .trans (.swap _ _ _) (.cons _ (.trans (.swap _ _ _) (.cons _ (.trans (.swap _ _ _) (.cons _ (.swap _ _ _))))))
      )
    clear D hR
    show wpAny _ A.in1 (updateSeq S (·.push va) >>= _) _ _ _
    refine wpAny_bind (wpAny_updateSeq (D₁.get List.mem_cons_self) rfl (wpAny_pure ⟨plainId_quiet F.plain_extend_loop _, ?_⟩) (by rw [hac, sizeLine_eq]; omega) (by show (acc.push va).size ≤ sizeLine + 1; rw [Array.size_push, hac, sizeLine_eq]; omega))
    obtain ⟨c, D₂⟩ := D₁.pushHead (v := va)
    clear D₁
    generalize { s₁ with heap := s₁.heap.update S (Obj.mapSeq (·.push va)) } = s₂ at D₂ ⊢
    refine codeAny_builtin F.entry_extend_loop ?_
    rw [Around.under_plainId F.plain_extend_loop _]
    show wpAny _ A.in1 (pyNext (.ref x) >>= _) _ _ s₂
    have W₂ := D₂.wf W
    obtain ⟨Kf₂, Kd₂⟩ := K _ _ _ D₂
    have ordB : (S :: ([x, dx, SI, AI] ++ news0.map (·.1))).Nodup := by simpa using D₂.ord
    obtain ⟨nd₂, nS₂, nN₂⟩ := ord_parts ordB
    have lowA : 515 ≤ AI := Nat.le_trans W'.lowSize hfr
    refine wpAny_bind (own_next W₂.X (D₂.get (by fail "qin")) (D₂.get (by fail "qin")) ?_)
    have hsub : ∀ a ∈ [x, dx, AI], a ∈ [x, dx, SI, AI] := fun a ha => by simp at ha ⊢; rcases ha with h | h | h <;> simp [h]
    refine chain_more W₂ (by show A.depth < 700; omega) Kf₂.calm (D₂.get (by fail "qin")) (D₂.get (by fail "qin")) (D₂.get (by fail "qin")) hTA
      (D₂.tupN (a := tq) (its := #[va, vb]) (List.mem_cons_of_mem _ (List.mem_cons_of_mem _ (List.mem_cons_of_mem _ (List.mem_cons_of_mem _ (List.mem_cons_of_mem _ hq)))))) rfl
      (fun a ha => by simp at ha; rcases ha with rfl | rfl | rfl <;> assumption) (nd₂.sublist (List.Sublist.cons_cons _ (List.Sublist.cons_cons _ (List.Sublist.cons _ (List.Sublist.refl _))))) (fun z => nN₂ tq (List.mem_map_of_mem (f := (·.1)) hq) (hsub _ z)) ?_
    intro oA' s₃ hR hS₃ gx gd hTA' gA
    have hk : ∀ p ∈ (S, listOf (acc.push va) c) :: (SI, oS') :: news0, s₃.heap.get? p.1 = some p.2 := fun p hp => by
      have hp' : p ∈ (S, listOf (acc.push va) c) :: (x, inst 399 dx #[some (.ref AI), some (.ref SI)]) :: (dx, dictOf [] 0) :: (SI, oS') :: (AI, oA) :: news0 := by
        simp only [List.mem_cons] at hp ⊢
        rcases hp with h | h | h <;> simp [h]
      refine hR.keep _ _ (fun z => ?_) (fun z => nomatch z) (D₂.get (o := p.2) hp')
      simp only [List.mem_cons] at hp
      rcases hp with rfl | rfl | hp
      · exact nS₂ (hsub _ z)
      · have := (nd₂.sublist (List.Sublist.refl _))
        simp at this z
        rcases z with z | z | z
        · exact this.1.2.1 z.symm
        · exact this.2.1.1 z.symm
        · exact this.2.2 z
      · exact nN₂ _ (List.mem_map_of_mem (f := (·.1)) hp) (hsub _ z)
    have D₃ := D₂.afterSub (s' := s₃) (hR.mono (fun _ z => z) (fun _ z => nomatch z)) (fun a ha => by simp at ha ⊢; rcases ha with h | h | h <;> simp [h]) hS₃ [] ((S, listOf (acc.push va) c) :: (x, inst 399 dx #[some (.ref AI), some (.ref SI)]) :: (dx, dictOf [] 0) :: (SI, oS') :: ([(AI, oA')] ++ news0)) (List.Sublist.refl _) (fun p hp => by
        simp only [List.nil_append, List.cons_append, List.mem_cons] at hp
        rcases hp with rfl | rfl | rfl | rfl | rfl | hp
        · exact hk _ (by simp)
        · exact gx
        · exact gd
        · exact hk (SI, oS') (by simp)
        · exact gA
        · exact hk p (by simp [hp])) List.nodup_nil (fun _ z => nomatch z)
    rw [List.nil_append] at D₃
    clear D₂ hR
    show wpAny _ A.in1 (updateSeq S (·.push vb) >>= _) _ _ _
    refine wpAny_bind (wpAny_updateSeq (D₃.get List.mem_cons_self) rfl (wpAny_pure ⟨plainId_quiet F.plain_extend_loop _, ?_⟩) (by rw [Array.size_push, hac, sizeLine_eq]; omega) (by show ((acc.push va).push vb).size ≤ sizeLine + 1; rw [Array.size_push, Array.size_push, hac, sizeLine_eq]; omega))
    obtain ⟨c, D₄⟩ := D₃.pushHead (v := vb)
    exact ih (i + 1) _ ((acc.push va).push vb) c (.ref AI) [(AI, oA')] oS' (by omega) (by rw [Array.size_push, Array.size_push, hac]; omega) (by rw [← htot]; simp) D₄ hT' (.inr ⟨AI, oA', tq, va, vb, rfl, rfl, hTA', hq, lowA⟩)
end

section
variable {prog : Program} {w : World} {A : Around} {E : Value → Shared → Prop} {s : Shared} {mg mb : Str → Option Value} {C : Cx} {loc : List (Str × Value)} {news0 : List (Addr × Obj)} {x dx SI S tp : Addr} {vs : List Value} {oS : Obj}
theorem updHead {acc : Array Value} {c : Nat} {r : List (Addr × Obj)} {f : Array Value → Array Value} {Q : Unit → Shared → Prop} (D : St C loc ((S, listOf acc c) :: r) s) (h1 : acc.size ≤ sizeLine) (h2 : (f acc).size ≤ sizeLine + 1) (h : ∀ s' c', St C loc ((S, listOf (f acc) c') :: r) s' → Q () s') : wpAny (model prog w) A (updateSeq S f) Q E s :=
  wpAny_updateSeq (D.get List.mem_cons_self) rfl (h _ _ (D.change rfl (fun b o nb q => (Heap.get?_update_other _ _ (Ne.symm nb)).trans q) (Heap.get?_update_self (Obj.mapSeq f) (D.get List.mem_cons_self) rfl) ⟨rfl, rfl, rfl⟩)) h1 h2
theorem c_list_chain {Q : Value → Shared → Prop} (D : St C loc ((x, inst 399 dx #[some .none, some (.ref SI)]) :: (dx, dictOf [] 0) :: (SI, oS) :: news0) s) (hT : TI oS tp 0) (W : WF w mg mb C.s₀.heap) (K : ∀ loc news s, St C loc news s → Frames A (C.L :: C.fs) s.heap ∧ ∀ p ∈ news, p.1 ∉ C.L :: C.fs) (hA : A.depth < 500) (l1 : 515 ≤ x) (l2 : 515 ≤ dx) (l3 : 515 ≤ SI) (htp : (tp, tupOf vs.toArray) ∈ news0) (flat : Nat → List Value) (hfl : ∀ i v, vs[i]? = some v → ∃ a b, pairOf news0 v a b ∧ flat i = a :: b :: flat (i + 1)) (hf0 : ∀ i, vs[i]? = none → flat i = [])
    (hle : vs.length ≤ 1000) (k : ∀ S s' c, St C loc ((S, listOf (flat 0).toArray c) :: news0) s' → Q (.ref S) s') : wpAny (model prog w) A (call (.type "list") [.ref x]) Q E s := by
  refine callType_codes (Q₁ := fun obj s₁ => obj = .ref s.heap.objs.size ∧ s₁ = { s with heap := s.heap.push { cls := .type "list", data := .seq #[] } }) F.called_list (F.typeCall_list_1 _) F.entry_list_init
    (code_list_new _ ⟨rfl, rfl⟩) fun obj s₁ h₁ => ?_
  obtain ⟨rfl, rfl⟩ := h₁
  have D₁ : St C loc ((s.heap.objs.size, listOf #[] 0) :: (x, inst 399 dx #[some .none, some (.ref SI)]) :: (dx, dictOf [] 0) :: (SI, oS) :: news0) { s with heap := s.heap.push { cls := .type "list", data := .seq #[] } } := D.push _
  have hne : s.heap.objs.size ≠ x := fun e => Nat.lt_irrefl _ (Nat.lt_of_lt_of_eq (D.lt (p := (x, inst 399 dx #[some .none, some (.ref SI)])) List.mem_cons_self) e)
  refine ⟨⟨_, D₁.get List.mem_cons_self, rfl⟩, F.args_list_init_2 _ _, ?_⟩
  clear D
  generalize s.heap.objs.size = S at D₁ hne ⊢
  generalize ({ s with heap := s.heap.push { cls := .type "list", data := .seq #[] } } : Shared) = s₁ at D₁ ⊢
  show wpAny _ A.in1.in1 (do let old ← Builtin.List.listItems (.ref S); Builtin.List.listUpdate (.ref S) (fun _ => #[]); letGo old.toList.reverse; Builtin.List.listExtendWith (.ref S) (.ref x) .none) _ _ s₁
  refine wpAny_bind ?_
  unfold Builtin.List.listItems
  refine wpAny_bind (wpAny_seqItems (D₁.get List.mem_cons_self) rfl (wpAny_pure ?_))
  show wpAny _ A.in1.in1 (updateSeq S (fun _ => #[]) >>= fun _ => letGo (#[] : Array Value).toList.reverse >>= fun _ => Builtin.List.listExtendWith (.ref S) (.ref x) .none) _ _ s₁
  refine wpAny_bind (updHead D₁ (by simp) (by simp) fun s₂ c₂ D₂ => ?_)
  refine wpAny_bind (wpAny_letGo ?_)
  unfold Builtin.List.listExtendWith
  have X := (D₂.wf W).X
  have I : InstAt s₂.heap x (inst 399 dx #[some .none, some (.ref SI)]) 399 (some (dictOf [] 0)) := ⟨D₂.get (by fail "qin"), rfl, rfl, D₂.get (by fail "qin")⟩
  refine wpAny_bind (I.type.here ?_)
  have h1 : Builtin.List.listSameRef (.ref S) (.ref x) = false := by simp [Builtin.List.listSameRef, hne]
  have h2 : (Value.ref 399 == Value.type "list") = false := by decide
  have h3 : (Value.ref 399 == Value.type "tuple") = false := by decide
  simp only [h1, h2, h3, Bool.or_false, Bool.false_eq_true, if_false]
  obtain ⟨g, m, F, N, Xg, _⟩ := D₂.libX W
  refine wpAny_bind (owit_iter (f := 388) F Xg I (by k_is) (by k_is) ?_)
  refine chain_iter (D₂.wf W) (by show A.depth < 800; omega) fun s₃ x3 e3 => ?_
  have D₃ := D₂.pureCall x3 e3
  clear F N D₂ I X
  obtain ⟨g', m', F, N, Xg', _⟩ := D₃.libX W
  have X := (D₃.wf W).X
  have I : InstAt s₃.heap x (inst 399 dx #[some .none, some (.ref SI)]) 399 (some (dictOf [] 0)) := ⟨D₃.get (by fail "qin"), rfl, rfl, D₃.get (by fail "qin")⟩
  refine owit_it (g := .ref 395) F Xg' I (by k_is) ?_
  refine wpAny_bind (wpAny_holding ?_)
  unfold Builtin.List.listLengthHint
  refine wpAny_bind (wpAny_bind (I.type.here ((looks_findIn X (show findIn (hd.heap_39 w.params) (.ref 399) "__len__" = some none by k_is)).here ?_)))
  show wpAny _ A.in1.in1 (specialOf (Value.ref x) (Str.ofString "__length_hint__") >>= _) _ _ _
  refine wpAny_bind (wpAny_bind (I.type.here ((looks_findIn X (show findIn (hd.heap_39 w.params) (.ref 399) (Str.ofString "__length_hint__") = some none by k_is)).here ?_)))
  refine wpAny_pure ?_
  show wpAny _ A.in1.in1 (rule "list.extend.makes-room" >>= fun _ => Builtin.List.listTouch (.ref S) >>= fun _ =>
    again (.builtin "list.extend.loop" ⟨[.ref S, .ref x, .none], []⟩)) _ _ _
  refine wpAny_bind (wpAny_rule ?_)
  refine wpAny_bind ?_
  show wpAny _ A.in1.in1 (updateSeq S (·.push .none) >>= fun _ => updateSeq S (·.pop)) _ _ _
  refine wpAny_bind (updHead D₃ (by simp) (by simp) fun s₄ c₄ D₄ => ?_)
  refine updHead D₄ (by rw [sizeLine_eq]; decide) (by simp) fun s₅ c₅ D₅ => ?_
  refine wpAny_pure ⟨plainId_quiet PySem.F.plain_extend_loop _, ?_⟩
  refine ext_loop W (fun loc news s z => ⟨(K loc news s z).1.in1, (K loc news s z).2⟩) (by show A.depth < 500; exact hA) l1 l2 l3 htp flat hfl hf0 (flat 0).toArray hle (fun s' c' D' => ⟨rfl, k S s' c' D'⟩) vs.length 0 s₅ #[] c₅ .none [] oS rfl rfl (by simp) D₅ hT (.inl ⟨rfl, rfl⟩)
end

section
open PySem.NumText
def IsHex (c : Nat) : Prop := (48 ≤ c ∧ c ≤ 57) ∨ (97 ≤ c ∧ c ≤ 102) ∨ (65 ≤ c ∧ c ≤ 70)
def hexVal (c : Nat) : Nat := if c ≤ 57 then c - 48 else if 97 ≤ c then c - 87 else c - 55
def hexNum (l : List Nat) : Nat := l.foldl (fun acc c => acc * 16 + hexVal c) 0
theorem hex_digit {c : Nat} (h : IsHex c) : digit? c = some (hexVal c) ∧ hexVal c < 16 := by
  unfold digit? hexVal
  rcases h with h | h | h
  · simp [h.1, h.2]; omega
  · have a : ¬ c ≤ 57 := by omega
    have b : c ≤ 122 := by omega
    simp [a, h.1, b]; omega
  · have a : ¬ c ≤ 57 := by omega
    have b : ¬ 97 ≤ c := by omega
    have d : c ≤ 90 := by omega
    simp [a, b, d, h.1]; omega
theorem hex_step {c : Nat} {ds : Array Nat} {b : Bool} (h : IsHex c) : NumText.step 16 (ds, b) c = some (ds.push (hexVal c), true) := by
  obtain ⟨h1, h2⟩ := hex_digit h
  unfold NumText.step
  rw [if_neg (by rw [beq_iff_eq]; unfold IsHex at h; omega), h1]
  exact if_pos h2
theorem hex_fold : ∀ (cs : List Nat) (ds : Array Nat), (∀ c ∈ cs, IsHex c) → cs.foldlM (NumText.step 16) (ds, true) = some (cs.foldl (fun acc c => acc.push (hexVal c)) ds, true)
  | [], _, _ => rfl
  | c :: cs, ds, h => by
    rw [List.foldlM_cons, hex_step (h c List.mem_cons_self)]
    exact hex_fold cs (ds.push (hexVal c)) fun d hd => h d (List.mem_cons_of_mem _ hd)
theorem hex_digits {cs : List Nat} (h : ∀ c ∈ cs, IsHex c) (hne : cs ≠ []) : digits? 16 cs = some (cs.foldl (fun acc c => acc.push (hexVal c)) #[]) := by
  cases cs with
  | nil => exact absurd rfl hne
  | cons c cs =>
    unfold digits?
    rw [List.foldlM_cons, hex_step (h c List.mem_cons_self)]
    show (cs.foldlM (NumText.step 16) ((#[] : Array Nat).push (hexVal c), true)).bind _ = _
    rw [hex_fold cs _ fun d hd => h d (List.mem_cons_of_mem _ hd)]
    rfl
theorem hex_worth : ∀ (cs : List Nat) (ds : Array Nat) (n : Nat), ds.foldl (fun acc d => acc * 16 + d) 0 = n → (cs.foldl (fun acc c => acc.push (hexVal c)) ds).foldl (fun acc d => acc * 16 + d) 0 = cs.foldl (fun acc c => acc * 16 + hexVal c) n
  | [], _, _, e => e
  | c :: cs, ds, n, e => by
    rw [List.foldl_cons, List.foldl_cons]
    refine hex_worth cs _ _ ?_
    rw [Array.foldl_push, e]
theorem hex_big {c : Nat} (h : IsHex c) : 33 ≤ c := by unfold IsHex at h; omega
theorem hex_drop {cs : List Nat} (h : ∀ c ∈ cs, IsHex c) : cs.dropWhile blank = cs := by
  cases cs with
  | nil => rfl
  | cons c cs => rw [List.dropWhile_cons, blank_of (hex_big (h c List.mem_cons_self))]; rfl
theorem hex_sign {cs : List Nat} (h : ∀ c ∈ cs, IsHex c) : sign cs = (false, cs) := by
  unfold sign
  split
  · rename_i r; have := h 45 List.mem_cons_self; unfold IsHex at this; omega
  · rename_i r; have := h 43 List.mem_cons_self; unfold IsHex at this; omega
  · rfl
theorem hex_prefix {cs : List Nat} (h : ∀ c ∈ cs, IsHex c) {p : Nat} (e : prefix? cs = some p) : p = 2 := by
  unfold prefix? at e
  split at e
  · rename_i c r
    have hc := h c (by simp)
    unfold IsHex at hc
    have n1 : (c == 120 || c == 88) = false := by simp; omega
    have n2 : (c == 111 || c == 79) = false := by simp; omega
    rw [n1, n2] at e
    simp at e
    exact e.2.symm
  · cases e
theorem hex_based {cs : List Nat} (h : ∀ c ∈ cs, IsHex c) : based 16 cs = (16, false, cs) := by
  unfold based
  split
  · rename_i p hp
    rw [hex_prefix h hp]; rfl
  · rfl
theorem hex_read {cs : List Nat} (h : ∀ c ∈ cs, IsHex c) (hne : cs ≠ []) : (int_private% "readNumeral") 0 16 cs = (int_private% "Numeral.value") (hexNum cs) := by
  rw [readNumeral_eq, hex_drop h, hex_sign h]
  show judge 0 false (based 16 cs).1 (based 16 cs).2.1 (digits? (based 16 cs).1 ((based 16 cs).2.2.reverse.dropWhile blank).reverse) = _
  rw [hex_based h]
  show judge 0 false 16 false (digits? 16 (cs.reverse.dropWhile blank).reverse) = _
  rw [hex_drop (cs := cs.reverse) fun c hc => h c (List.mem_reverse.mp hc), List.reverse_reverse, hex_digits h hne]
  show (int_private% "Numeral.value") (((cs.foldl (fun acc c => acc.push (hexVal c)) #[]).foldl (fun acc d => acc * 16 + d) 0 : Nat) : Int) = _
  rw [hex_worth cs #[] 0 rfl]
  rfl
end

section
open PySem.NumText PySem.W.KIN
theorem hex_wp {M : Model} {A : Around} {E : Value → Shared → Prop} {s : Shared} {Q : Value → Shared → Prop} {v : Value} {text : List Nat} {n : Int}
    (hs : (text.takeWhile (· != 0)).length ≤ 640) (hr : (int_private% "readNumeral") 0 16 (text.takeWhile (· != 0)) = (int_private% "Numeral.value") n)
    (ha : ((text.takeWhile (· != 0)).length == text.length) = true) (h : Q (.int n s.toks) { s with toks := s.toks + 1 }) :
    wpAny M A ((int_private% "intFromText") v text 16) Q E s := by
  obtain ⟨hp, g, d, tk, os⟩ := s
  repeat (any_goals (first
    | assumption
    | (with_reducible refine wpAny_ite_true (decide_eq_true hs) ?_)
    | (with_reducible refine wpAny_ite_true (decide_eq_true ha) ?_)
    | wp_step))
  all_goals (try rw [hr])
  all_goals (try dsimp only)
  repeat (any_goals (first
    | assumption
    | (with_reducible refine wpAny_ite_true (decide_eq_true hs) ?_)
    | (with_reducible refine wpAny_ite_true (decide_eq_true ha) ?_)
    | wp_step))
theorem take_all {p : Nat → Bool} : ∀ {l : List Nat}, (∀ c ∈ l, p c = true) → l.takeWhile p = l
  | [], _ => rfl
  | c :: l, h => by rw [List.takeWhile_cons, if_pos (h c List.mem_cons_self), take_all fun d hd => h d (List.mem_cons_of_mem _ hd)]
theorem hex_plain {l : List Nat} (h : ∀ c ∈ l, IsHex c) : numTextOf (T l) = l ∧ numSeenOf (T l) = l := by
  have e : numTextOf (T l) = l := by
    unfold numTextOf T
    rw [if_pos]
    simp only [List.all_toArray, List.all_eq_true, decide_eq_true_eq]
    intro c hc
    have := h c hc
    unfold IsHex at this; omega
  refine ⟨e, ?_⟩
  unfold numSeenOf
  rw [e]
  exact take_all fun c hc => by
    have := h c hc
    unfold IsHex at this
    simp; omega
set_option maxHeartbeats 4000000 in
theorem hex_gives {l : List Nat} {u v : Tok} (h : ∀ c ∈ l, IsHex c) (hne : l ≠ []) (hl : l.length ≤ 640) : Gives (Builtin.«int.__new__» ⟨[.type "int", .str (T l) u, .int 16 v], []⟩) (.int (hexNum l)) :=
  .of_wp fun M A E s Q hq => by
    obtain ⟨hp, g, d, tk, os⟩ := s
    have f1 := PySem.F.conv_sub_int
    have f2 := PySem.F.madeHere_int
    have f3 := str_int
    have f4 := str_idx
    have f5 := str_trunc
    have f6 : typeOf (.str (T l) u) = pure (.type "str") := rfl
    obtain ⟨e1, e2⟩ := hex_plain h
    have hk := Hid.mk (And.intro (show (numSeenOf (T l)).length ≤ 640 by rw [e2]; exact hl) (And.intro (show (int_private% "readNumeral") 0 16 (numSeenOf (T l)) = (int_private% "Numeral.value") (hexNum l) by rw [e2]; exact hex_read h hne) (show ((numSeenOf (T l)).length == (numTextOf (T l)).length) = true by rw [e1, e2]; exact beq_self_eq_true _)))
    clear h hne hl e1 e2
    repeat (any_goals (first
      | assumption
      | ((with_reducible show wpAny _ _ ((int_private% "intFromText") _ _ _) _ _ _); refine hex_wp hk.out.1 hk.out.2.1 hk.out.2.2 ?_)
      | wp_step))
    all_goals first | exact ⟨_, rfl, hq⟩ | skip
end
section
variable {prog : Program} {w : World} {A : Around} {E : Value → Shared → Prop} {s : Shared} {Q : Value → Shared → Prop} {C : Cx} {loc : List (Str × Value)} {news : List (Addr × Obj)}
theorem typeCall_int2 (a b : Value) : checkTypeCall "int" ⟨[a, b], []⟩ = pure () := by kernel_rfl
theorem newCall_int2 (a b : Value) : checkBuiltinCall "int.__new__" ⟨[.type "int", a, b], []⟩ = pure () := by kernel_rfl
theorem r_int16 {l : List Nat} {t u : Tok} (D : St C loc news s) (h : ∀ c ∈ l, IsHex c) (hne : l ≠ []) (hl : l.length ≤ 640) (k : ∀ s' v, St C loc news s' → Q (.int (hexNum l) v) s') : wpAny (model prog w) A (call (.type "int") [.str (T l) t, .int 16 u]) Q E s :=
  callType_new PySem.F.called_int PySem.F.newNe_int (typeCall_int2 _ _) (newCall_int2 _ _) (fun obj => PySem.F.args_object_init_3 obj _ _) PySem.F.entry_int_new (hex_gives h hne hl).meets (show (Made.int (hexNum l)).post _ s from ⟨rfl, k _ _ ⟨D.base, D.low, D.ge, D.keys, D.ord, D.same.trans ⟨rfl, rfl, rfl⟩⟩⟩)
end

section
variable {C : Cx} {s : Shared} {loc : List (Str × Value)} {news : List (Addr × Obj)} {prog : Program} {w : World} {A : Around} {E : Value → Shared → Prop} {env : Env}
/-- where an exception of a comprehension goes -/
abbrev compE (prog : Program) (w : World) (A : Around) (env : Env) (scope : Scope) (cl : List (Str × Addr)) (E : Value → Shared → Prop) (Q : Value → Shared → Prop) (D c : Addr) : Value → Shared → Prop :=
  notedBy (model prog w) A (compEnvC scope cl c env) fun e s' => compPost (model prog w) A E none Q (.ref D) c (.error e) s'
/-- as CompG, the ledger growing from item to item, with room for an exception -/
def CompH (prog : Program) (w : World) (A : Around) (C : Cx) (env : Env) (E : Value → Shared → Prop) (elt : Expr) (x : Str) (ifs : List Expr) (scope : Scope) (cl : List (Str × Addr)) (Q : Value → Shared → Prop) (xv : Value) (s₁ : Shared) : Prop :=
  ∃ (src : Src) (loc : List (Str × Value)) (news : List (Addr × Obj)) (p : Value → Bool) (G : List Value → List Value → List (Addr × Obj) → Prop), xv = src.val ∧ src.At s₁.heap ∧ St C loc news s₁ ∧
    (∀ news' s, news.Sublist news' → St C loc news' s → src.At s.heap) ∧ src.its.size ≤ 16777216 ∧ G [] [] [] ∧
    (∀ v c oc m D oD I oI ex s E', v ∈ src.its → NsObj oc m → m x = some v → St C loc ((c, oc) :: (D, oD) :: (I, oI) :: (ex ++ news)) s →
      wpAny (model prog w) A (forIn ifs true fun c' r => if r = true then do let ok ← isTrue c' (compEnvC scope cl c env) (eval c' (compEnvC scope cl c env)); pure (ForInStep.yield ok) else pure (ForInStep.yield r)) (fun ok s₃ => ok = p v ∧ St C loc ((c, oc) :: (D, oD) :: (I, oI) :: (ex ++ news)) s₃) E' s) ∧
    (∀ pre v ys ex, p v = false → G pre ys ex → G (pre ++ [v]) ys ex) ∧
    (∀ v c oc m D oD I oI pre ys ex s, src.its.toList[pre.length]? = some v → pre = src.its.toList.take pre.length → p v = true → G pre ys ex → NsObj oc m → m x = some v → St C loc ((c, oc) :: (D, oD) :: (I, oI) :: (ex ++ news)) s →
      wpAny (model prog w) A (eval elt (compEnvC scope cl c env)) (fun y s₃ => ∃ ex', G (pre ++ [v]) (ys ++ [y]) ex' ∧ St C loc ((c, oc) :: (D, oD) :: (I, oI) :: (ex' ++ news)) s₃) (compE prog w A env scope cl E Q D c) s) ∧
    (∀ D ys ex s, G src.its.toList ys ex → St C loc ((D, listOf ys.toArray ys.length) :: (ex ++ news)) s → Q (.ref D) s)
/-- a list comprehension over one name -/
theorem comp_all {elt iter : Expr} {x : Str} {px : Pos} {ifs : List Expr} {scope : Scope} {cl : List (Str × Addr)} {pos : Pos} {Q : Value → Shared → Prop} (_D : St C loc news s) (hh : A.handled = none)
    (hclos : closureFor scope env = pure cl) (hok : okComp scope x = true)
    (first : wpAny (model prog w) A (eval iter env) (CompH prog w A C env E elt x ifs scope cl Q) E s)
    (hs : ∀ x, foldedSetIterable iter env x = pure x := by intro _; rfl) :
    wpAny (model prog w) A (eval (.ListComp elt [⟨.Name x px, iter, ifs, 0⟩] scope pos) env) Q E s := by
  obtain ⟨hcell, hkind, hnames, hx⟩ := okComp_parts hok
  rw [eval_ListComp]
  refine wpAny_comprehension_free (use := none) rfl hs hclos hkind hnames (wpAny_mono first (fun v s₁ h₁ => ?_) fun _ _ e => e)
  obtain ⟨src, loc, news, p, G, rfl, hl, D₁, stay, hsz, g0, tests, gskip, helt, k⟩ := h₁
  refine it_src D₁ hl fun I oI s₂ D₂ hI hl₂ => ?_
  refine wpAny_newObj_type (wpAny_newFunctionEnv hcell (by intro y hy; simp at hy) (fun h₁ hns₁ hsb₁ => ?_) hkind)
  dsimp only at hns₁ hsb₁ ⊢
  have D₃ := D₂.push (listOf #[] 0)
  generalize hH2 : s₂.heap.push { cls := .type "list", dict := none, data := .seq ([] : List Value).toArray } = H2 at hns₁ hsb₁ ⊢
  have hH : s₂.heap.push (listOf #[] 0) = H2 := hH2
  rw [hH] at D₃
  have hC : H2.objs.size = s₂.heap.objs.size + 1 := by rw [← hH2, Heap.size_push]
  have keep₁ : ∀ b o, H2.get? b = some o → h₁.get? b = some o := fun b o e => hsb₁.extBut b o (Nat.ne_of_lt (Heap.lt_size e)) (Heap.get?_push_of_some _ e)
  obtain ⟨oc, hoc, hNs⟩ := ns_obj hns₁
  have D₄ := D₃.pushed (s' := { s₂ with heap := h₁, toks := s₂.toks + ([] : List (Str × Value)).length }) (a := H2.objs.size) (Heap.get?_none_of_le (Nat.le_refl _)) keep₁ hoc ⟨rfl, rfl, rfl⟩
  have loop : ∀ s₃, s₃ = ({ s₂ with heap := h₁, toks := s₂.toks + ([] : List (Str × Value)).length } : Shared) → codeAny (model prog w) A (.compLoop (.ListComp elt [⟨.Name x px, iter, ifs, 0⟩] scope pos) 0 (.ref I) (.ref s₂.heap.objs.size) (compEnvC scope cl H2.objs.size env)) (compPost (model prog w) A E none Q (.ref s₂.heap.objs.size) H2.objs.size) s₃ := by
    rintro s₃ rfl
    refine codeAny_compLoop_tests (fun j s' => ∃ i oI oc m ys ex, i ≤ src.its.size ∧ j = src.its.size + 1 - i ∧ src.It oI i ∧ NsObj oc m ∧ G (src.its.toList.take i) ys ex ∧ ys.length ≤ i ∧ St C loc ((H2.objs.size, oc) :: (s₂.heap.objs.size, listOf ys.toArray ys.length) :: (I, oI) :: (ex ++ news)) s') ?_ (src.its.size + 1)
      ⟨0, oI, oc, _, [], [], Nat.zero_le _, rfl, hI, hNs, g0, Nat.le_refl _, D₄⟩
    rintro j s' ⟨i, oI, oc, m, ys, ex, hi, rfl, hI, hNs, hF, hyl, D'⟩
    have P1 : ((H2.objs.size, oc) :: (s₂.heap.objs.size, listOf ys.toArray ys.length) :: (I, oI) :: (ex ++ news)).Perm ((I, oI) :: (H2.objs.size, oc) :: (s₂.heap.objs.size, listOf ys.toArray ys.length) :: (ex ++ news)) :=
      ((List.Perm.swap _ _ _).cons _).trans (List.Perm.swap _ _ _)
    have hl' := stay _ _ ((List.sublist_append_right ex news).trans ((List.sublist_cons_self _ _).trans ((List.sublist_cons_self _ _).trans (List.sublist_cons_self _ _)))) D'
    refine next_src hh (D'.perm P1) hI hl' (fun v oI' s₄ hv hI' D₄ => ?_) fun s₄ hv D₄ => ?_
    · have hlt := (Array.getElem?_eq_some_iff.mp hv).1
      have hmem : v ∈ src.its := by obtain ⟨h1, rfl⟩ := Array.getElem?_eq_some_iff.mp hv; exact Array.getElem_mem h1
      have hvl : src.its.toList[i]? = some v := by simpa using hv
      have D₅ : St C loc ((H2.objs.size, oc) :: (s₂.heap.objs.size, listOf ys.toArray ys.length) :: (I, oI') :: (ex ++ news)) s₄ := D₄.perm ((List.Perm.swap _ _ _).trans ((List.Perm.swap _ _ _).cons _))
      refine wpAny_assign_Name (wpAny_storeName_local (lookup_relabel_local hx) (hNs.ns (D₅.get (.head _))) (fun h₂ hn₂ hs₂ => ?_) (by simp [compEnvC, relabel, hkind]))
      obtain ⟨oc', hoc', hNs'⟩ := ns_obj hn₂
      have D₆ := D₅.change (s' := { s₄ with heap := h₂, toks := s₄.toks + 1 }) rfl (fun b o n e => hs₂.extBut b o n e) hoc' ⟨rfl, rfl, rfl⟩
      have htake : src.its.toList.take (i + 1) = src.its.toList.take i ++ [v] := by rw [List.take_add_one, hvl]; rfl
      refine wpAny_mono (tests v _ _ _ _ _ _ _ _ _ _ hmem hNs' (by simp) D₆) (fun ok s₇ h₇ => ?_) fun _ _ e => e
      obtain ⟨rfl, D₇⟩ := h₇
      cases hpv : p v with
      | false =>
        simp only [Bool.false_eq_true, if_false]
        refine ⟨src.its.size + 1 - (i + 1), by omega, i + 1, oI', oc', _, ys, ex, hlt, rfl, hI', hNs', ?_, by omega, D₇⟩
        rw [htake]; exact gskip _ _ _ _ hpv hF
      | true =>
        simp only [if_true]
        have hln : (src.its.toList.take i).length = i := by rw [List.length_take, Array.length_toList]; omega
        refine wpAny_mono (helt v _ _ _ _ _ _ _ (src.its.toList.take i) _ _ _ (by rw [hln]; exact hvl) (by rw [hln]) hpv hF hNs' (by simp) D₇) (fun y s₈ h₈ => ?_) fun _ _ e => e
        obtain ⟨ex', hFy, D₈⟩ := h₈
        have D₉ := D₈.perm (List.Perm.swap _ _ _)
        refine append_at (hsz := by show ys.toArray.size ≤ sizeLine; rw [List.size_toArray, sizeLine_eq]; omega) (D₉.get (.head _)) fun h₅ hs₅ hD₅ => ?_
        have D₁₀ := (D₉.change (s' := { s₈ with heap := h₅ }) rfl (fun b o n e => hs₅.extBut b o n e) hD₅ ⟨rfl, rfl, rfl⟩).perm (List.Perm.swap _ _ _)
        refine ⟨src.its.size + 1 - (i + 1), by omega, i + 1, oI', oc', _, ys ++ [y], ex', hlt, rfl, hI', hNs', ?_, by rw [List.length_append, List.length_singleton]; omega, ?_⟩
        · rw [htake]; exact hFy
        · have e : listOf (ys ++ [y]).toArray (ys ++ [y]).length = ({ cls := .type "list", data := .seq (ys.toArray.push y) (ys.length + 1) } : Obj) := by
            rw [List.length_append, List.length_singleton, List.push_toArray]
          rw [e]; exact D₁₀
    · obtain rfl : i = src.its.size := Nat.le_antisymm hi hv
      refine ⟨m, hNs.ns (D₄.get (.head _)), fun h'' hs'' => k _ ys ex _ ?_ ?_⟩
      · have e : src.its.toList.take src.its.size = src.its.toList := List.take_of_length_le (by simp)
        rwa [e] at hF
      · exact D₄.ext (s' := { s₄ with heap := h'' }) rfl (fun b o n e => hs''.extBut b o n e) ⟨rfl, rfl, rfl⟩
  have D₅ := D₄.perm (((List.Perm.swap _ _ _).cons _).trans (List.Perm.swap _ _ _))
  exact codeAny_compStart_list (loop _ rfl) (iter_src D₅ hI (loop _ rfl))
end

section
variable {C : Cx} {s : Shared} {loc : List (Str × Value)} {news : List (Addr × Obj)} {prog : Program} {w : World} {A : Around} {E : Value → Shared → Prop} {env : Env} {Q : Value → Shared → Prop}
theorem r_divmod {n m : Nat} {t u : Tok} (D : St C loc news s) (hm : 0 < m) (hp : Builtin.divisionGoesByPylong (n : Int) (m : Int) = false) (h : ∀ a t u s', St C loc ((a, tupOf #[.int ((n / m : Nat) : Int) t, .int ((n % m : Nat) : Int) u]) :: news) s' → Q (.ref a) s') :
    wpAny (model prog w) A (call (.builtin "divmod") [.int n t, .int m u]) Q E s := by
  obtain ⟨g, mm, F, N, k, _⟩ := D.lib
  have e1 : (n : Int).fdiv m = ((n / m : Nat) : Int) := by rw [Int.fdiv_eq_ediv_of_nonneg _ (by omega)]; omega
  have e2 : (n : Int).fmod m = ((n % m : Nat) : Int) := by rw [Int.fmod_eq_emod_of_nonneg _ (by omega)]; omega
  refine divmod_N F N (by omega) (fun h' F' N' => ?_) (Or.inl hp)
  rw [e1, e2] at N'
  exact h _ _ _ _ (k { s with toks := s.toks + 1 + 1, heap := h' } _ F' N' ⟨rfl, rfl, rfl⟩)
theorem r_partition {x y a q b : Str} {t u : Tok} (D : St C loc news s) (hy : (y.length == 0) = false) (e : Txt.partition x y = (a, q, b)) (hz : x.length ≤ sizeLine) (h : ∀ r ta tb tc s', St C loc ((r, tupOf #[.str a ta, .str q tb, .str b tc]) :: news) s' → Q (.ref r) s') :
    wpAny (model prog w) A (call (.builtin "str.partition") [.str x t, .str y u]) Q E s := by
  obtain ⟨g, mm, F, N, k, _⟩ := D.lib
  refine partitionN F N hy (fun ta tb tc h' kk F' N' => ?_) hz
  rw [e] at N'
  exact h _ _ _ _ _ (k { s with heap := h', toks := kk } _ F' N' ⟨rfl, rfl, rfl⟩)
theorem txts_of_map : ∀ {l : List (Str × Tok)} {ps : List (List Nat)}, l.map (·.1) = ps.map T → Txts (strValues l) ps
  | [], [], _ => Paired.nil
  | [], _ :: _, e => by cases e
  | _ :: _, [], e => by cases e
  | (a, t) :: l, p :: ps, e => by
    have e1 : a = T p := (List.cons.inj e).1
    subst e1
    exact Paired.cons ⟨t, rfl⟩ (txts_of_map (List.cons.inj e).2)
theorem r_split {x y : Str} {ps : List (List Nat)} {t u : Tok} (D : St C loc news s) (hy : (y.length == 0) = false) (e : Txt.split x y = ps.map T) (hz : x.length + 2 ≤ sizeLine) (h : ∀ r vs s', Txts vs ps → St C loc ((r, listOf vs.toArray 0) :: news) s' → Q (.ref r) s') :
    wpAny (model prog w) A (call (.builtin "str.split") [.str x t, .str y u]) Q E s := by
  obtain ⟨g, mm, F, N, k, _⟩ := D.lib
  refine splitN1 F N hy (fun l h' kk el F' N' => ?_) hz
  exact h _ _ _ (txts_of_map (el.trans e)) (k { s with heap := h', toks := kk } _ F' N' ⟨rfl, rfl, rfl⟩)
theorem r_mullist {l : Addr} {vs ws : List Value} {x : Int} {u : Tok} (D : St C loc news s) (hl : s.heap.IsList l vs.toArray) (lo : -(2 ^ 63 : Int) ≤ x) (hi : x < 2 ^ 63) (hz : vs.length * x.toNat ≤ 256) (e : (List.replicate x.toNat vs).flatten = ws) (h : ∀ r s', St C loc ((r, listOf ws.toArray 0) :: news) s' → Q (.ref r) s') :
    wpAny (model prog w) A (binaryOp .Mult (.ref l) (.int x u)) Q E s := by
  obtain ⟨⟨cls, d, data, sl⟩, ho, hcl, k, hd⟩ := id hl
  simp only at hcl hd
  subst hcl hd
  subst e
  have hsz' : vs.toArray.size * x.toNat ≤ 256 := by simpa using hz
  refine wpAny_binaryOp_repeat_ref (T := "list") (U := "int") (by decide) ⟨_, ho, rfl⟩ (fun s' => typeIs_int s' x u) noFill_list_mul PySem.F.fills_int_mul PySem.F.slot_int_rmul repeat_list PySem.F.slot_int_index.lookup
    (call_meets PySem.F.slot_int_rmul (typeIs_int s x u) PySem.F.entry_int_rmul (PySem.F.args_int_rmul_2 _ _) (lm_int_rmul_list_any x u l vs.toArray k d sl)
      ⟨ho, rfl, ⟨_, ho, rfl⟩, call_meets PySem.F.slot_list_mul ⟨_, ho, rfl⟩ PySem.F.entry_list_mul (PySem.F.args_list_mul_2 _ _)
        (lm_list_mul_any l vs.toArray k d sl x u (by simp [Builtin.List.listFitsIndex]; omega) (by omega) (by simp [Builtin.List.listTooLong, sizeLine]; omega))
        ⟨ho, ?_⟩⟩)
  rw [listMul_foldl_if]
  exact h _ _ (D.push _)
theorem r_tuplist {l : Addr} {vs : List Value} (D : St C loc news s) (hl : s.heap.IsList l vs.toArray) (hz : vs.length ≤ 16777216) (h : ∀ r s', St C loc ((r, tupOf vs.toArray) :: news) s' → Q (.ref r) s') :
    wpAny (model prog w) A (call (.type "tuple") [.ref l]) Q E s := by
  refine call_tuple_list hl (fun h' kk => ?_) (by rw [List.size_toArray, sizeLine_eq]; exact hz)
  have D' : St C loc news { s with heap := h' } := D.pureCall (Rel.of_keeps kk) ⟨rfl, rfl, rfl⟩
  exact h _ _ (D'.push _)
end

theorem r_star {prog : Program} {w : World} {A : Around} {E : Value → Shared → Prop} {C : Cx} {s : Shared} {loc : List (Str × Value)} {news : List (Addr × Obj)} {a : Addr} {vs : List Value} {n : Nat} {Q : List Value → Shared → Prop} (D : St C loc news s) (hm : (a, listOf vs.toArray n) ∈ news) (hz : vs.length ≤ 16777216) (h : ∀ s', St C loc news s' → Q vs s') : StarOf (model prog w) A E (.ref a) Q s := by
  obtain ⟨g, m, F, N, k1, k0⟩ := D.lib
  exact star_seq F N hm rfl rfl (.inl rfl) (by simp) (by rw [List.size_toArray, sizeLine_eq]; exact hz) fun h' F' N' => h _ (k0 _ F' N' ⟨rfl, rfl, rfl⟩)
def octs (ps : List (List Nat)) : List Nat := (ps.filter (!·.isEmpty)).flatMap fun p => [hexNum p / 256, hexNum p % 256]
def txtFull (v : Value) : Bool := match v with | .str x _ => !x.cps.toList.isEmpty | _ => true
def isPair (ex : List (Addr × Obj)) (y : Value) (p : List Nat) : Prop := ∃ tq ta tb, y = .ref tq ∧ (tq, tupOf #[.int ((hexNum p / 256 : Nat) : Int) ta, .int ((hexNum p % 256 : Nat) : Int) tb]) ∈ ex
def GrpInv (pre ys : List Value) (ex : List (Addr × Obj)) : Prop := ∃ ps, Txts pre ps ∧ Paired (isPair ex) ys (ps.filter (!·.isEmpty))
theorem grp_skip (pre : List Value) (v : Value) (ys : List Value) (ex : List (Addr × Obj)) (hv : txtFull v = false) : GrpInv pre ys ex → GrpInv (pre ++ [v]) ys ex := by
  rintro ⟨ps, h1, h2⟩
  cases v <;> simp [txtFull] at hv
  rename_i x t
  refine ⟨ps ++ [[]], pd_app h1 (Paired.cons ⟨t, ?_⟩ Paired.nil), by simpa using h2⟩
  show Value.str x t = .str (T []) t
  rw [T_of x]
  have : x.cps.toList = [] := by simpa using hv
  rw [this]
theorem pd_mono {α β : Type} {R R' : α → β → Prop} {xs : List α} {ys : List β} (h : Paired R xs ys) (f : ∀ x y, R x y → R' x y) : Paired R' xs ys := by
  induction h with
  | nil => exact Paired.nil
  | cons h _ ih => exact Paired.cons (f _ _ h) ih
theorem grp_add {pre ys : List Value} {ex : List (Addr × Obj)} {v : Value} {p : List Nat} {tq : Addr} {ta tb : Tok} (h : GrpInv pre ys ex) (hv : isTxt v p) (hp : p ≠ []) : GrpInv (pre ++ [v]) (ys ++ [.ref tq]) ((tq, tupOf #[.int ((hexNum p / 256 : Nat) : Int) ta, .int ((hexNum p % 256 : Nat) : Int) tb]) :: ex) := by
  obtain ⟨ps, h1, h2⟩ := h
  refine ⟨ps ++ [p], pd_app h1 (Paired.cons hv Paired.nil), ?_⟩
  rw [List.filter_append]
  have : [p].filter (!·.isEmpty) = [p] := by cases p <;> simp at hp ⊢
  rw [this]
  refine pd_app (pd_mono h2 ?_) (Paired.cons ⟨tq, ta, tb, rfl, List.mem_cons_self⟩ Paired.nil)
  rintro y q ⟨tq, ta, tb, e, hm⟩
  exact ⟨tq, ta, tb, e, List.mem_cons_of_mem _ hm⟩
theorem txts_uniq : ∀ {vs : List Value} {ps qs : List (List Nat)}, Txts vs ps → Txts vs qs → ps = qs
  | _, _, _, .nil, .nil => rfl
  | _, _, _, .cons ⟨t, e⟩ h, .cons ⟨u, e'⟩ h' => by
    subst e
    rw [T_inj (Value.str.inj e').1, txts_uniq h h']
theorem grp_values {ex : List (Addr × Obj)} : ∀ {ys : List Value} {qs : List (List Nat)}, Paired (isPair ex) ys qs → ∃ abs : List (Value × Value), Paired (fun y ab => pairOf ex y ab.1 ab.2) ys abs ∧ Nats (abs.flatMap fun ab => [ab.1, ab.2]) (qs.flatMap fun p => [hexNum p / 256, hexNum p % 256])
  | _, _, .nil => ⟨[], .nil, .nil⟩
  | _, _, .cons ⟨tq, ta, tb, e, hm⟩ h => by
    obtain ⟨abs, h1, h2⟩ := grp_values h
    exact ⟨(_, _) :: abs, .cons ⟨tq, e, hm⟩ h1, .cons ⟨ta, rfl⟩ (.cons ⟨tb, rfl⟩ h2)⟩

section
variable {C : Cx} {s : Shared} {loc : List (Str × Value)} {news : List (Addr × Obj)} {prog : Program} {w : World} {A : Around} {E : Value → Shared → Prop} {env : Env}
theorem r_unpack3 {x1 x2 x3 : Str} {p1 p2 p3 tp : Pos} {k : Nat} {t : Addr} {v1 v2 v3 : Value} {Q : Unit → Shared → Prop} (D : St C loc news s) (hh : A.handled = none) (ht : IsTup s.heap t #[v1, v2, v3])
    (h : ∀ s', St C loc news s' → wpAny (model prog w) A (assign (.Name x1 p1) env v1) (fun _ s₁ => wpAny (model prog w) A (assign (.Name x2 p2) env v2) (fun _ s₂ => wpAny (model prog w) A (assign (.Name x3 p3) env v3) Q E s₂) E s₁) E s') : wpAny (model prog w) A (assign (.Tuple [.Name x1 p1, .Name x2 p2, .Name x3 p3] k tp) env (.ref t)) Q E s := by
  have ea : assignEach [.Name x1 p1, .Name x2 p2, .Name x3 p3] env = [(false, assign (.Name x1 p1) env), (false, assign (.Name x2 p2) env), (false, assign (.Name x3 p3) env)] := rfl
  refine assign_Tuple_tuple hh ht (by rw [ea]; rfl) (by rw [ea]; rfl) fun h' he => ?_
  rw [ea]
  have D' : St C loc news { s with heap := h' } := D.pureCall (Rel.of_keeps fun b o e => he b o (Nat.ne_of_lt (Heap.lt_size e)) e) ⟨rfl, rfl, rfl⟩
  show wpAny _ _ (assignInOrder [assign (.Name x1 p1) env, assign (.Name x2 p2) env, assign (.Name x3 p3) env] [v1, v2, v3]) _ _ _
  exact wpAny_assignInOrder_more (wpAny_mono (h _ D') (fun _ s₁ h₁ => wpAny_assignInOrder_more (wpAny_mono h₁ (fun _ _ h₂ => wpAny_assignInOrder_more (wpAny_mono h₂ (fun _ _ h₃ => wpAny_assignInOrder_none h₃) fun _ _ x => x)) fun _ _ x => x)) fun _ _ x => x)
end
section
variable {prog : Program} {w : World} {A : Around} {E : Value → Shared → Prop} {s₀ : Shared} {mg mb : Str → Option Value} {Q : Value → Shared → Prop} {fs : List Addr}
theorem hexVal_lt {c : Nat} (h : IsHex c) : hexVal c < 16 := (hex_digit h).2
theorem hexNum_fold : ∀ {p : List Nat} {n k : Nat}, (∀ c ∈ p, IsHex c) → n < 16 ^ k → p.foldl (fun acc c => acc * 16 + hexVal c) n < 16 ^ (k + p.length)
  | [], _, _, _, h => h
  | c :: p, n, k, hx, h => by
    rw [List.foldl_cons, List.length_cons, show k + (p.length + 1) = (k + 1) + p.length by omega]
    refine hexNum_fold (fun d hd => hx d (List.mem_cons_of_mem _ hd)) ?_
    have := hexVal_lt (hx c List.mem_cons_self)
    rw [Nat.pow_succ]; omega
theorem hexNum_lt {p : List Nat} (h : ∀ c ∈ p, IsHex c) (hl : p.length ≤ 5) : hexNum p < 1048576 := by
  have h1 := hexNum_fold (n := 0) (k := 0) h (by decide)
  have h2 : 16 ^ (0 + p.length) ≤ 16 ^ 5 := Nat.pow_le_pow_right (by decide) (by omega)
  exact Nat.lt_of_lt_of_le h1 h2
theorem bring_front {α : Type} (x a b c : α) (l : List α) : (x :: a :: b :: c :: l).Perm (a :: b :: c :: x :: l) :=
  (List.Perm.swap _ _ _).trans (((List.Perm.swap _ _ _).trans ((List.Perm.swap _ _ _).cons _)).cons _)
theorem octs_len (ps : List (List Nat)) : (octs ps).length ≤ 2 * ps.length := by
  unfold octs
  induction ps with
  | nil => simp
  | cons p ps ih =>
    rw [List.filter_cons]
    split <;> simp only [List.flatMap_cons, List.length_append, List.length_cons, List.length_nil] <;> omega
theorem zeros_flat (a b : Nat) (x : Value) : (List.replicate (16 - (a : Int) - (b : Int)).toNat [x]).flatten = List.replicate (16 - a - b) x := by
  rw [show (16 - (a : Int) - (b : Int)).toNat = 16 - a - b by omega]
  generalize 16 - a - b = n
  induction n with
  | zero => rfl
  | succ n ih => rw [List.replicate_succ, List.flatten_cons, ih]; rfl
theorem nats_zeros (n : Nat) (t : Tok) : Nats (List.replicate n (Value.int 0 t)) (List.replicate n 0) := by
  induction n with
  | zero => exact .nil
  | succ n ih => exact .cons ⟨t, rfl⟩ ih
theorem r_zeros {prog : Program} {w : World} {A : Around} {E : Value → Shared → Prop} {C : Cx} {s : Shared} {loc : List (Str × Value)} {news : List (Addr × Obj)} {l : Addr} {t u : Tok} {a b : Nat} {Q : Value → Shared → Prop} (D : St C loc news s) (hl : s.heap.IsList l #[.int 0 t]) (ha : a ≤ 1000) (hb : b ≤ 1000)
    (k : ∀ r ws s', Nats ws (List.replicate (16 - a - b) 0) → St C loc ((r, listOf ws.toArray 0) :: news) s' → Q (.ref r) s') : wpAny (model prog w) A (binaryOp .Mult (.ref l) (.int (16 - (a : Int) - (b : Int)) u)) Q E s :=
  r_mullist (vs := [.int 0 t]) D hl (by omega) (by omega) (by simp; omega) (zeros_flat a b _) fun r s' D => k r _ s' (nats_zeros _ _) D
theorem pd_at' {α β : Type} {R : α → β → Prop} : ∀ {l : List α} {l' : List β}, Paired R l l' → ∀ {k : Nat} {a : α}, l[k]? = some a → ∃ b, l'[k]? = some b ∧ R a b
  | _, _, .nil, _, _, h => by simp at h
  | _, _, .cons h _, 0, _, e => ⟨_, rfl, by simp at e; subst e; exact h⟩
  | _, _, .cons _ r, k + 1, _, e => pd_at' r (k := k) (by simpa using e)
theorem drop_at {α : Type} {l : List α} {i : Nat} {a : α} (h : l[i]? = some a) : l.drop i = a :: l.drop (i + 1) := by
  obtain ⟨hi, rfl⟩ := List.getElem?_eq_some_iff.mp h
  exact List.drop_eq_getElem_cons hi
set_option hygiene false in
local macro_rules | `(tactic| fail "qgrp") => `(tactic| (
  (with_reducible refine callWith_S (D.wf W).X ?hk ?_ (he := ?he)); (case hk => k_is); (case he => rfl)
  (with_reducible refine comp_all (cl := []) D ?c1 ?c2 ?c3 ?_ (hs := ?hs)); (case c1 => exact hh); (case c2 => exact closureFor_none (by decide)); (case c3 => kernel_rfl); (case hs => intro _; rfl)
  fail "qgo"
  refine r_split D (by decide) grS (by rw [T_len, sizeLine_eq]; omega) ?_
  clear D s
  intro sp vs s hvs D
  have hvl := hvs.length
  refine ⟨.list sp vs.toArray, _, _, txtFull, GrpInv, rfl, D.listN (k := 0) (by fail "qin"), D, stay_new (k := 0) (by fail "qin"), by show vs.toArray.size ≤ _; rw [List.size_toArray]; omega, ⟨[], .nil, .nil⟩, ?_, grp_skip, ?_, ?_⟩
  · clear D s
    intro v c oc m D' oD I oI ex s E' hv hN hX D
    have hv : v ∈ vs := by have h : v ∈ vs.toArray := hv; simpa using h
    obtain ⟨p, hm, tk, rfl⟩ := pd_mem hvs hv
    refine wpAny_tests_one ?_
    have hz := (grV p hm).2
    have hX' : txtFull (.str (T p) tk) = !p.isEmpty := by simp [txtFull, T]
    rw [hX']
    fail "qgo"
    exact ⟨rfl, D⟩
  · clear D s
    intro v c oc m D' oD I oI pre ys ex s hv hpre hf hG hN hX D
    have hv' : v ∈ vs := List.mem_of_getElem? (i := pre.length) (by have h : vs.toArray.toList[pre.length]? = some v := hv; simpa using h)
    obtain ⟨p, hm, tk, rfl⟩ := pd_mem hvs hv'
    obtain ⟨hx1, hx2⟩ := grV p hm
    have hne : p ≠ [] := by rintro rfl; simp [txtFull, T] at hf
    have hlt := hexNum_lt hx1 hx2
    fail "qgo"
    refine r_int16 D hx1 hne (by omega) ?_
    clear D s
    intro s t1 D
    fail "qgo"
    refine r_divmod (m := 256) D (by decide) (PyProof.noPylong_small (by omega)) ?_
    clear D s
    intro tq tx ty s D
    exact ⟨_, grp_add hG ⟨_, rfl⟩ hne, D.perm (bring_front _ _ _ _ _)⟩
  clear D s
  intro D' ys ex s hG D
  obtain ⟨ps, h1, h2⟩ := hG
  have hps := txts_uniq (by have h : Txts vs.toArray.toList ps := h1; simpa using h) hvs
  rw [hps] at h2
  obtain ⟨abs, g1, g2⟩ := grp_values h2
  have hyl : ys.length ≤ 100 := by
    rw [h2.length]
    exact Nat.le_trans (List.length_filter_le _ _) grL
  have hal : abs.length = ys.length := g1.length.symm
  refine r_star D List.mem_cons_self (by omega) ?_
  clear D s
  intro s D
  refine ⟨(D.wf W).X, ?_⟩
  rw [List.nil_append]
  refine c_chain D W (by show A.depth + 1 < 700; omega) (by omega) ?_
  clear D s
  intro xc dxc tpc sic oSc s D hT l1 l2 l3
  refine c_list_chain D hT W (fun _ _ _ D => ⟨K.deeper W D dis rfl, fun p hp => D.noFrame K dis hp⟩) (by show A.depth + 1 < 500; omega) l1 l2 l3 List.mem_cons_self (fun i => (abs.drop i).flatMap fun ab => [ab.1, ab.2]) (fun i v hv => ?_) (fun i hv => ?_) (by omega) ?_
  · obtain ⟨ab, hab, q, e, hm⟩ := pd_at' g1 hv
    refine ⟨ab.1, ab.2, ⟨q, e, ?_⟩, by rw [drop_at hab]; rfl⟩
    simp [hm]
  · have : abs.length ≤ i := by
      have := List.getElem?_eq_none_iff.mp hv; omega
    rw [List.drop_of_length_le this]; rfl
  clear D s
  intro Sq s cq D))
set_option maxHeartbeats 2000000 in
theorem parse_ok {l la lb : List Nat} {qq : Str} {pa pb : List (List Nat)} {t : Tok} (W : WF w mg mb s₀.heap) (K : Frames A fs s₀.heap) (hA : A.depth < 400) (hp : Txt.partition (T l) (T [58, 58]) = (T la, qq, T lb)) (hsa : Txt.split (T la) (T [58]) = pa.map T) (hsb : Txt.split (T lb) (T [58]) = pb.map T)
    (va : ∀ p ∈ pa, (∀ c ∈ p, IsHex c) ∧ p.length ≤ 5) (vb : ∀ p ∈ pb, (∀ c ∈ p, IsHex c) ∧ p.length ≤ 5) (hla : pa.length ≤ 100) (hlb : pb.length ≤ 100) (hl : l.length ≤ 10000) (hl1 : la.length ≤ 10000) (hl2 : lb.length ≤ 10000)
    (k : ∀ r vs s', Rel [] fs s₀.heap s'.heap → Same s₀ s' → s'.heap.get? r = some (tupOf vs.toArray) → s₀.heap.get? r = none → Nats vs (octs pa ++ List.replicate (16 - (octs pa).length - (octs pb).length) 0 ++ octs pb) → Q (.ref r) s') :
    wpAny (model prog w) A (call (.ref 408) [.str (T l) t]) Q E s₀ := by
  have hh : A.handled = none := K.calm
  refine enterS [] fs [] [("a", .str (T l) t)] W (by omega) (K.lowS (S := []) fun _ z => nomatch z) (fun _ z => nomatch z) (by simp) (by k_is) (by k_is) (.of_eq (by rfl)) (by kernel_rfl) ?_
  intro L s _ D
  have dis : ∀ b ∈ (⟨[], fs, s₀, L⟩ : Cx).fs, b ∉ (⟨[], fs, s₀, L⟩ : Cx).S := fun _ _ z => nomatch z
  fail "qgo"
  refine r_partition D (by decide) hp (by rw [T_len, sizeLine_eq]; omega) ?_
  clear D s
  intro r ta tb tc s D
  fail "qgo"
  refine r_unpack3 D hh (D.tupN (its := #[.str (T la) ta, .str qq tb, .str (T lb) tc]) (by fail "qin")) ?_
  clear D s
  intro s D
  fail "qgo"
  have grS := hsa
  have grV := va
  have grL := hla
  fail "qgrp"
  clear grS grV grL
  have Da := D.drop (news' := [(Sq, listOf ((abs.drop 0).flatMap fun ab => [ab.1, ab.2]).toArray cq)]) (List.Sublist.cons_cons _ (List.nil_sublist _))
  clear D
  have D := Da
  clear Da
  rw [List.drop_zero] at D
  generalize hfa : (abs.flatMap fun ab => [ab.1, ab.2]) = fa at D
  rw [hfa] at g2
  have ga := g2
  clear hfa g1 h2 h1 hvs hvl g2 hps hal hyl
  fail "qgo"
  have grS := hsb
  have grV := vb
  have grL := hlb
  fail "qgrp"
  clear grS grV grL
  have Da := D.drop ((((List.Sublist.cons _ (List.Sublist.refl _)).trans (List.sublist_append_right ex _)).cons _).cons _ |>.cons_cons _)
  clear D
  have D := Da
  clear Da
  rw [List.drop_zero] at D
  generalize hfb : (abs.flatMap fun ab => [ab.1, ab.2]) = fb at D
  rw [hfb] at g2
  have gb := g2
  clear hfb g1 h2 h1 hvs hvl g2 hps hal hyl
  change Nats fa (octs pa) at ga
  change Nats fb (octs pb) at gb
  have za := ga.length
  have zb := gb.length
  have ya := octs_len pa
  have yb := octs_len pb
  fail "qgo"
  refine r_len_list D (D.listN (by fail "qin")) (by omega) ?_
  clear D s
  intro s t1 D
  fail "qgo"
  refine r_len_list D (D.listN (by fail "qin")) (by omega) ?_
  clear D s
  intro s t2 D
  fail "qgo"
  refine r_zeros D (D.listN (k := 0) (by fail "qin")) (by omega) (by omega) ?_
  clear D s
  intro az fz s gz D
  have zz := gz.length
  rw [List.length_replicate] at zz
  fail "qgo"
  refine r_listadd D (D.listN (by fail "qin")) (D.listN (by fail "qin")) (by omega) ?_
  clear D s
  intro al s D
  fail "qgo"
  refine r_listadd D (D.listN (by fail "qin")) (D.listN (by fail "qin")) (by rw [List.length_append]; omega) ?_
  clear D s
  intro am s D
  fail "qgo"
  refine r_tuplist D (D.listN (by fail "qin")) (by rw [List.length_append, List.length_append]; omega) ?_
  clear D s
  intro ar s D
  fail "qgo"
  exact k ar _ _ D.toRel D.same (D.get (by fail "qin")) (D.isNew rfl List.mem_cons_self) (pd_app (pd_app ga (za ▸ zb ▸ gz)) gb)
end

theorem bears_of {id : String} {args : Args} (h : heldIds.contains id = false) : bears (.builtin id args) = false := h
section
open PySem.NumText
variable {prog : Program} {w : World} {A : Around} {E : Value → Shared → Prop} {s : Shared}
theorem wpC_if {α : Type} {c : Prop} [Decidable c] {a b : Sem α} {M : Model} {Q : α → Shared → Prop} (hc : c) (h : wpC M A a Q E s) : wpC M A (if c then a else b) Q E s := by rw [if_pos hc]; exact h
theorem wpC_ifn {α : Type} {c : Prop} [Decidable c] {a b : Sem α} {M : Model} {Q : α → Shared → Prop} (hc : ¬ c) (h : wpC M A b Q E s) : wpC M A (if c then a else b) Q E s := by rw [if_neg hc]; exact h
theorem refuse_text {x : Str} {u : Tok} {base : Nat} {Q : Value → Shared → Prop} (hh : A.handled = none) (hrep : (reprText x).length ≤ 16777216) (hb : (Str.ofString (toString "invalid literal for int() with base " ++ toString base ++ toString ": ")).length ≤ 1000) (hs : ((numTextOf x).takeWhile (· != 0)).length ≤ 640) (hr : (int_private% "readNumeral") 0 base ((numTextOf x).takeWhile (· != 0)) = int_private% "Numeral.invalid")
    (h : ∀ h' k e args, Heap.MadeExc s.heap h' e "ValueError" args → E (.ref e) { s with heap := h', toks := k }) :
    wpC (model prog w) A ((int_private% "intFromText") (.str x u) (numTextOf x) base) Q E s := by
  refine wpC_if (c := ((numTextOf x).takeWhile (· != 0)).length ≤ 640) hs ?_
  refine wpC_pre (wpAny_pure ?_)
  dsimp only
  rw [hr]
  dsimp only
  refine wpC_pre (wpAny_pure ?_)
  refine wpC_ifn (by simp) ?_
  refine wpC_pre (wpAny_rule ?_)
  refine wpC_pre (wpAny_pure ?_)
  refine wpC_pre (wpAny_pyRepr_str ?_ (by rw [sizeLine_eq]; exact hrep))
  refine wpC_pre (wpAny_mkStr ?_ ?hm)
  · refine wpC_pre (wpAny_newExc_plain plainExc_ValueError fun h' e hM => ?_)
    refine wpC_bind (wpC_mark ?_)
    exact wpC_of (wpAny_raiseNew_none hh (h _ _ _ _ hM))
  · have e1 : ∀ a b : Str, (a ++ b).length = a.length + b.length := fun a b => by
      show (Str.append a b).length = _
      simp [Str.append, Str.length]
    rw [e1, sizeLine_eq]
    have e2 : ({ cps := (reprText x).cps.extract 0 200 } : Str).length ≤ 200 := by
      show ((reprText x).cps.extract 0 200).size ≤ 200
      rw [Array.size_extract]; omega
    omega
theorem refuse_16 {u v : Tok} {Q : Fin → Shared → Prop} (hh : A.handled = none)
    (h : ∀ h' k e args, Heap.MadeExc s.heap h' e "ValueError" args → E (.ref e) { s with heap := h', toks := k }) :
    wpC (model prog w) A (Builtin.«int.__new__» ⟨[.type "int", .str (T [103]) u, .int 16 v], []⟩) Q E s := by
  have hx : numTextOf (T [103]) = [103] := by decide +kernel
  have z := refuse_text (prog := prog) (w := w) (A := A) (E := E) (s := s) (x := T [103]) (u := u) (base := 16) (Q := fun _ _ => False) hh (by decide +kernel) (by decide +kernel) (by rw [hx]; decide) (by rw [hx]; rfl) h
  unfold Builtin.«int.__new__»
  have f1 := PySem.F.conv_sub_int
  have f2 := PySem.F.madeHere_int
  dsimp only
  refine wpC_pre (wpAny_pure ?_)
  refine wpC_ifn (by decide) ?_
  refine wpC_pre (wpAny_of_eq f1 ?_)
  refine wpC_ifn (by decide) ?_
  refine wpC_pre (wpAny_of_eq f2 ?_)
  refine wpC_ifn (by simp) ?_
  refine wpC_ifn (by simp) ?_
  refine wpC_pre (wpAny_pure ?_)
  dsimp only [List.head?, Option.map]
  refine wpC_pre ?_
  refine wpAny_bind (wpAny_pure ?_)
  refine wpAny_pure ?_
  refine wpC_ifn (by decide) ?_
  refine wpC_pre (wpAny_pure ?_)
  dsimp only
  exact wpC_thru z
end

section
variable {prog : Program} {w : World} {A : Around} {E : Value → Shared → Prop} {s : Shared}
theorem codeC_builtin {id : String} {args : Args} {b : Builtin} {R : Result → Shared → Prop} (hx : bears (.builtin id args) = false) (hb : entryFor table id = some b)
    (h : wpC (model prog w) (A.under (.builtin id args)) (b args) (fun fin s' => match fin with | .done f => R (.ok f) s' | .again c' => c'.quiet = true ∧ codeC (model prog w) A c' R s') (fun e s' => R (.error e) s') s) : codeC (model prog w) A (.builtin id args) R s := by
  refine codeC_of_tree hx ?_
  show wpC _ _ (match entryFor table id with | some b => b args | none => unsupported ((withoutEnding? id "#data").getD id)) _ _ s
  rw [hb]; exact h
theorem refuse_call {T newId initId : String} {args : List Value} {Q : Value → Shared → Prop} (ft : TypeCalled T newId initId) (hct : checkTypeCall T ⟨args, []⟩ = pure ())
    (h : codeC (model prog w) A.in1 (.call (.builtin newId) ⟨.type T :: args, []⟩) (wants (fun _ _ => False) E) s) : wpC (model prog w) A (call (.type T) args) Q E s := by
  obtain ⟨c, tl, hmro⟩ := ft.mro
  have hmade := ft.made
  have hsub := ft.sub
  refine wpC_call (codeC_of_tree rfl ?_)
  show wpC _ _ (callAny (.type T) _) _ _ _
  refine wpC_pure ⟨Code.quiet_builtin _ (by decide +kernel), codeC_builtin (bears_of (by decide +kernel)) PySem.F.entry_type_call ?_⟩
  rw [Around.under_plain (weight_type_call_type T args []) rfl]
  have h1 := ft.notType
  have h2 := ft.canCreate
  unfold Builtin.«type.__call__»
  dsimp only
  refine wpC_ifn (by simpa using h1) ?_
  refine wpC_ifn (by simpa using h2) ?_
  refine wpC_pre (wpAny_of_eq hct ?_)
  refine wpC_pre (wpAny_of_eq hmro ?_)
  refine wpC_ifn (by simp) ?_
  refine wpC_pre (wpAny_of_eq hmade ?_)
  dsimp only
  refine wpC_pre (wpAny_pure ?_)
  refine wpC_thru (wpC_holding (wpC_call (codeC_mono h fun r s' hr => ?_)))
  rcases r with e | (v | _ | _ | _) <;> first | exact hr | exact hr.elim
theorem codeC_call_builtin {id : String} {args : Args} {b : Builtin} {R : Result → Shared → Prop} (hx : bears (.builtin id args) = false) (hq : plainId id = true) (hb : entryFor table id = some b) (hc : checkBuiltinCall id args = pure ())
    (h : wpC (model prog w) A.in1 (b args) (fun fin s' => match fin with | .done f => R (.ok f) s' | .again c' => c'.quiet = true ∧ codeC (model prog w) A c' R s') (fun e s' => R (.error e) s') s) : codeC (model prog w) A (.call (.builtin id) args) R s := by
  refine codeC_of_tree rfl ?_
  show wpC _ A.in1 (do checkBuiltinCall id args; again (.builtin id args)) _ _ s
  refine wpC_pre (wpAny_of_eq hc ?_)
  refine wpC_pure (And.intro (plainId_quiet hq args) (codeC_builtin hx hb ?_))
  rw [Around.under_plainId hq args]
  exact h
theorem r_refuse16 {u v : Tok} {Q : Value → Shared → Prop} (hh : A.handled = none)
    (h : ∀ h' k e args, Heap.MadeExc s.heap h' e "ValueError" args → E (.ref e) { s with heap := h', toks := k }) : wpC (model prog w) A (call (.type "int") [.str (T [103]) u, .int 16 v]) Q E s :=
  refuse_call PySem.F.called_int (typeCall_int2 _ _) (codeC_call_builtin (bears_of (by decide +kernel)) PySem.F.called_int.plain PySem.F.entry_int_new (newCall_int2 _ _) (wpC_mono (refuse_16 (Q := fun _ _ => False) hh h) (fun _ _ z => z.elim) fun _ _ z => z))
end

section
variable {prog : Program} {w : World} {A : Around} {s : Shared} {mg mb : Str → Option Value} {R : Result → Shared → Prop}
theorem codeC_func {body : List Stmt} {env : Env}
    (h : wpC (model prog w) (A.deeper env) (execs body env) (fun f s' => R (.ok (.ret (match f with | .ret v => v | _ => .none))) s')
      (fun e s' => wpAny (model prog w) (A.deeper env) (leaving env e) (fun _ s'' => R (.error e) s'') (fun e' s'' => R (.error e') s'') s') s) : codeC (model prog w) A (.func body env) R s := by
  refine codeC_of_tree rfl ?_
  show wpC _ (A.deeper env) (do point; match ← (execs body env).onRaise (leaving env) with | .ret v => ret v | _ => ret .none) _ _ s
  refine wpC_pre (wpAny_point (wpC_bind (wpC_onRaise (wpC_mono h (fun f s' h' => ?_) fun _ _ h' => wpC_of h'))))
  cases f <;> exact wpC_pure h'
theorem codeC_call_function {a : Addr} {args : Args} {o : Obj} {fd : FuncData} {body : List Stmt} (hroom : A.depth < recursionLimit) (ho : s.heap.get? a = some o)
    (hd' : o.data = .func fd) (hco : fd.scope.isCoroutine = false) (hgen : fd.scope.isGenerator = false) (hbody : fd.body = .stmts body) (hcd : s.heap.CodeRec fd.code fd.qualname)
    (h : wpAny (model prog w) A.in1 (bindArgs fd args) (fun binds s₁ =>
      wpAny (model prog w) A.in1 (newFunctionEnv fd.scope fd.globals fd.closure binds (fd.qualname ++ ".<locals>.") (some a) fd.code none fd.builtins)
        (fun env s₂ => s₂.heap.NoLimit ∧ codeC (model prog w) A (.func body env) R s₂) (fun e s' => R (.error e) s') s₁) (fun e s' => R (.error e) s') s) : codeC (model prog w) A (.call (.ref a) args) R s := by
  refine codeC_of_tree rfl (wpC_of ?_)
  show wpAny _ A.in1 (callAny (.ref a) args) _ _ s
  simp only [callAny]
  refine wpAny_bind (wpAny_load ho ?_)
  obtain ⟨c, oc, vs, tq, hc, hoc, hdc, hq⟩ := hcd
  simp only [hd', callFunction, hco, hgen, hbody, hc]
  rw [hc] at h
  refine wpAny_bind (m := field (.ref c) 1) (wpAny_field hoc hdc hq (wpAny_bind (wpAny_pure ?_)))
  exact wpAny_bind (wpAny_mono h (fun binds s₁ h₁ => wpAny_bind (wpAny_mono h₁ (fun env s₂ h₂ => wpAny_bind (wpAny_enterFrame h₂.1 hroom (wpAny_pure (And.intro rfl h₂.2)))) fun _ _ h' => h')) fun _ _ h' => h')
theorem enterCX {R : Result → Shared → Prop} {f : Addr} {nm qual : Str} {params : Arguments} {body : List Stmt} {sc : Scope} {dV kV doc pm cdv ct oc : Value} {an od : Option Addr} {osl : Array (Option Value)} {vs : List Value} (S fs : List Addr) (news₁ : List (Addr × Obj)) (s₁ : Shared) (binds : List (Str × Value))
    (W : WF w mg mb s.heap) (hroom : A.depth < 1000) (low : ∀ a ∈ S ++ fs, 515 ≤ a) (hb₁ : ∀ b o, s.heap.get? b = some o → s₁.heap.get? b = some o) (hsz : s.heap.objs.size ≤ s₁.heap.objs.size) (hsame : Same s s₁)
    (hS : ∀ p ∈ news₁, (p.1 ∈ S ∨ s.heap.get? p.1 = none) ∧ s₁.heap.get? p.1 = some p.2) (hord : (news₁.map (·.1)).Nodup)
    (ho : (hd.heap_39 w.params).lookup f = some ⟨oc, od, .func (fnOf nm qual params body sc dV kV doc pm an cdv ct), osl⟩) (hcd : codeIn (hd.heap_39 w.params) cdv qual = true)
    (hbind : ∀ (M : Model) (A : Around) (E : Value → Shared → Prop) (Q : List (Str × Value) → Shared → Prop), Q binds s₁ → wpAny M A (bindArgs (fnOf nm qual params body sc dV kV doc pm an cdv ct) ⟨vs, []⟩) Q E s) (hok : okDef sc (binds.map (·.1)) = true)
    (h : ∀ L s₂, s₁.heap.objs.size ≤ L → St ⟨S, fs, s, L⟩ binds news₁ s₂ → wpC (model prog w) (A.deeper (envOf qual sc L f cdv)) (execs body (envOf qual sc L f cdv))
        (fun fl s' => R (.ok (.ret (match fl with | .ret v => v | _ => .none))) s')
        (fun e s' => wpAny (model prog w) (A.deeper (envOf qual sc L f cdv)) (leaving (envOf qual sc L f cdv) e) (fun _ s'' => R (.error e) s'') (fun e' s'' => R (.error e') s'') s') s₂) : codeC (model prog w) A (.call (.ref f) ⟨vs, []⟩) R s := by
  unfold okDef at hok
  simp only [Bool.and_eq_true, Bool.not_eq_true', beq_iff_eq, List.all_eq_true, bne_iff_ne, ne_eq, decide_eq_true_eq] at hok
  obtain ⟨⟨⟨⟨⟨k1, k2⟩, k3⟩, k4⟩, k5⟩, k6⟩ := hok
  refine codeC_call_function (fd := fnOf nm qual params body sc dV kV doc pm an cdv ct) (body := body) hroom (W.X _ _ ho) rfl k1 k2 rfl (codeRec_of W.X hcd) (hbind _ _ _ _ ?_)
  refine wpAny_newFunctionEnv k4 (fun x hx => k5 _ (List.mem_map_of_mem hx)) (fun h₁ hns hsb => ?_) k3
  have hk₁ : ∀ b o, s₁.heap.get? b = some o → h₁.get? b = some o := fun b o e => hsb.extBut b o (Nat.ne_of_lt (Heap.lt_size e)) (Heap.get?_push_of_some _ e)
  refine ⟨W.lim.keeps fun b o e => hk₁ b o (hb₁ b o e), codeC_func (h s₁.heap.objs.size _ (Nat.le_refl _) ⟨⟨hideAll s₁.heap (news₁.map (·.1)), _, ⟨fun b o n q e => ?_, fun b o n q e => ?_⟩,
    ⟨hns, fun b o e => hk₁ b o (of_hideAll _ e), Nat.le_of_eq (hideAll_size _ _)⟩, fun p hp => ⟨hk₁ _ _ (hS p hp).2, Nat.ne_of_lt (Heap.lt_size (hS p hp).2), hideAll_none _ (List.mem_map_of_mem hp)⟩, lookup_rev k6⟩, low, hsz, k6, hord, hsame.trans ⟨rfl, rfl, rfl⟩⟩)⟩
  · refine hideAll_get _ (hb₁ b o e) fun z => ?_
    obtain ⟨p, hp, rfl⟩ := List.mem_map.mp z
    rcases (hS p hp).1 with z | z
    · exact n z
    · rw [z] at e; cases e
  · refine ⟨o.slots, hideAll_get _ (hb₁ b o e) fun z => ?_⟩
    obtain ⟨p, hp, rfl⟩ := List.mem_map.mp z
    rcases (hS p hp).1 with z | z
    · exact n z
    · rw [z] at e; cases e
theorem enterX {Q : Value → Shared → Prop} {E : Value → Shared → Prop} {f : Addr} {nm qual : Str} {params : Arguments} {body : List Stmt} {sc : Scope} {dV kV doc pm cdv ct oc : Value} {an od : Option Addr} {osl : Array (Option Value)} {vs : List Value} (S fs : List Addr) (news : List (Addr × Obj)) (binds : List (Str × Value))
    (W : WF w mg mb s.heap) (hroom : A.depth < 1000) (low : ∀ a ∈ S ++ fs, 515 ≤ a) (hS : ∀ p ∈ news, p.1 ∈ S ∧ s.heap.get? p.1 = some p.2) (hord : (news.map (·.1)).Nodup)
    (ho : (hd.heap_39 w.params).lookup f = some ⟨oc, od, .func (fnOf nm qual params body sc dV kV doc pm an cdv ct), osl⟩) (hcd : codeIn (hd.heap_39 w.params) cdv qual = true)
    (hbind : BindsTo s (fnOf nm qual params body sc dV kV doc pm an cdv ct) ⟨vs, []⟩ binds) (hok : okDef sc (binds.map (·.1)) = true)
    (h : ∀ L s₁, s.heap.objs.size ≤ L → St ⟨S, fs, s, L⟩ binds news s₁ → wpC (model prog w) (A.deeper (envOf qual sc L f cdv)) (execs body (envOf qual sc L f cdv))
        (fun fl s' => Q (match fl with | .ret v => v | _ => .none) s')
        (fun e s' => wpAny (model prog w) (A.deeper (envOf qual sc L f cdv)) (leaving (envOf qual sc L f cdv) e) (fun _ s'' => E e s'') (fun e' s'' => E e' s'') s') s₁) : wpC (model prog w) A (call (.ref f) vs) Q E s :=
  wpC_call (enterCX S fs news s binds W hroom low (fun _ _ e => e) (Nat.le_refl _) (Same.refl _) (fun p hp => ⟨.inl (hS p hp).1, (hS p hp).2⟩) hord ho hcd hbind hok h)
end

section
variable {M : Model} {A : Around} {E : Value → Shared → Prop} {s : Shared} {env : Env}
theorem wpC_execs_cons {st : Stmt} {rest : List Stmt} {Q : Flow → Shared → Prop} (h : wpC M A (exec st env) (fun f s' => match f with | .next => wpC M A (execs rest env) Q E s' | f => Q f s') E s) : wpC M A (execs (st :: rest) env) Q E s := fun Γ p hΓ hc => by
  rw [execs_cons, Sem.wp_bind']
  refine Sem.wp_mono M Γ _ (fun f p' s' h' => ?_) (fun _ _ _ h' => h') _ _ (h Γ p hΓ hc)
  cases f <;> first | exact h' Γ p' hΓ hc | exact h'
theorem wpC_Assign_thru {x : Str} {pos' pos : Pos} {value : Expr} {Q : Flow → Shared → Prop} (h : wpC M A (eval value env) (fun _ _ => False) E s) (hs : swapsWith value (some (.Name x pos')) pos.line env = pure false := by rfl) :
    wpC M A (exec (.Assign [.Name x pos'] value pos) env) Q E s := fun Γ p hΓ hc => by
  simp only [exec_Assign_Name env x pos' value pos hs, Sem.wp_bind', Sem.wp_cmd_standAt, Sem.wp_bindName, Sem.wp_pure']
  exact Sem.wp_mono M Γ _ (fun v _ s₁ h₁ => h₁.elim) (fun _ _ _ h' => h') _ _ (h Γ _ hΓ hc)
theorem wpC_Assign {x : Str} {pos' pos : Pos} {value : Expr} {Q : Flow → Shared → Prop} (h : wpC M A (eval value env) (fun v s₁ => wpAny M A (storeName env x v) (fun _ => Q .next) E s₁) E s) (hs : swapsWith value (some (.Name x pos')) pos.line env = pure false := by rfl) :
    wpC M A (exec (.Assign [.Name x pos'] value pos) env) Q E s := fun Γ p hΓ hc => by
  simp only [exec_Assign_Name env x pos' value pos hs, Sem.wp_bind', Sem.wp_cmd_standAt, Sem.wp_bindName, Sem.wp_pure']
  exact Sem.wp_mono M Γ _ (fun v _ s₁ h₁ => h₁ Γ _ hΓ) (fun _ _ _ h' => h') _ _ (h Γ _ hΓ hc)
theorem wpC_Call {func : Expr} {args : List Expr} {pos : Pos} {Q : Value → Shared → Prop} (h : wpAny M A (eval func env) (fun f s₁ => wpC M A (callWith pos f [] (backTo pos (starEach args env)) []) Q E s₁) E s)
    (he : eval (.Call func args [] pos) env = (do callWith pos (← eval func env) [] (backTo pos (starEach args env)) (backToKw pos (keywordEach [] env))) := by rfl) : wpC M A (eval (.Call func args [] pos) env) Q E s := by
  rw [he]; exact wpC_pre h
/-- the first place raises -/
theorem args_thru {x : Sem Value} {rest : List (Bool × Sem Value)} {Q : List Value → Shared → Prop} {b : Bool} (h : wpC M A x (fun _ _ => False) E s) : wpC M A (spliced ((b, x) :: rest)) Q E s := by
  rw [spliced]; exact wpC_thru h
/-- the first place is plain, the rest raises -/
theorem args_next {x : Sem Value} {rest : List (Bool × Sem Value)} {Q : List Value → Shared → Prop} (h : wpAny M A x (fun _ s' => wpC M A (spliced rest) (fun _ _ => False) E s') E s) : wpC M A (spliced ((false, x) :: rest)) Q E s := by
  rw [spliced]
  refine wpC_pre (wpAny_mono h (fun v s' h' => ?_) fun _ _ z => z)
  refine wpC_ifn (by simp) ?_
  refine wpC_pre (wpAny_pure ?_)
  exact wpC_thru (wpC_holding h')
theorem call_thru {f : Value} {first : List Value} {pos : Pos} {args : List (Bool × Sem Value)} {Q : Value → Shared → Prop} (hn : args.any (·.1) = false) (h : wpC M A (spliced args) (fun _ _ => False) E s) : wpC M A (callWith pos f first args []) Q E s := by
  unfold callWith
  refine wpC_thru (wpC_holding ?_)
  unfold evalArgs
  dsimp only
  split
  · simp at hn
  · exact wpC_thru h
/-- a lone starred argument raises -/
theorem call_star_thru {f : Value} {first : List Value} {pos : Pos} {x : Sem Value} {Q : Value → Shared → Prop} (h : wpC M A x (fun _ _ => False) E s) : wpC M A (callWith pos f first (backTo pos [(true, x)]) []) Q E s := by
  unfold callWith
  refine wpC_thru (wpC_holding ?_)
  unfold evalArgs
  exact wpC_thru (wpC_thru h)
end

section
variable {M : Model} {A : Around} {E : Value → Shared → Prop} {s : Shared}
theorem codeC_loop {c : Code} {R : Result → Shared → Prop} (hx : bears c = false) (hq : c.quiet = true) (I : Nat → Shared → Prop)
    (turn : ∀ n s, I n s → wpC M (A.under c) (M.den c) (fun fin s' => match fin with | .done f => R (.ok f) s' | .again c' => c' = c ∧ ∃ m, m < n ∧ I m s') (fun e s' => R (.error e) s') s) (n : Nat) (h : I n s) : codeC M A c R s := by
  induction n using Nat.strongRecOn generalizing s with
  | ind n ih =>
    refine codeC_of_tree hx (wpC_mono (turn n s h) (fun fin s' hf => ?_) fun _ _ h' => h')
    cases fin with
    | done f => exact hf
    | again c' => obtain ⟨rfl, m, hm, hI⟩ := hf; exact ⟨hq, ih m hm hI⟩
theorem wpC_noted {α : Type} {env : Env} {m : Sem α} {Q : α → Shared → Prop} (h : wpC M A m Q (notedBy M A env E) s) : wpC M A (m.onRaise fun x => do noteFrame x env; theTreesLotGoes x) Q E s :=
  wpC_onRaise (wpC_mono h (fun _ _ q => q) fun _ _ hx => wpC_of (wpAny_bind (wpAny_mono hx (fun _ _ e => wpAny_theTreesLotGoes e) fun _ _ e => e)))
end
section
variable {prog : Program} {w : World} {A : Around} {E : Value → Shared → Prop} {s : Shared} {R : Result → Shared → Prop}
/-- a comprehension's loop, its elements under the caller -/
theorem codeC_compLoop {elt target iter : Expr} {ifs : List Expr} {scope : Scope} {pos : Pos} {it acc : Value} {env : Env} (I : Nat → Shared → Prop)
    (turn : ∀ n s, I n s → wpAny (model prog w) A (pyNext it) (fun r s₁ => match r with
      | none => R (.ok .next) s₁
      | some v => wpAny (model prog w) A (assign target env v) (fun _ s₂ =>
          wpAny (model prog w) A (forIn ifs true fun c r => if r = true then do let ok ← isTrue c env (eval c env); pure (ForInStep.yield ok) else pure (ForInStep.yield r)) (fun ok s₃ =>
            if ok = true then wpC (model prog w) A (eval elt env) (fun x s₄ =>
              wpAny (model prog w) A (call (.builtin "list.append") [acc, x]) (fun _ s₅ => ∃ m, m < n ∧ I m s₅) (notedBy (model prog w) A env fun e s' => R (.error e) s') s₄) (notedBy (model prog w) A env fun e s' => R (.error e) s') s₃
            else ∃ m, m < n ∧ I m s₃) (notedBy (model prog w) A env fun e s' => R (.error e) s') s₂) (notedBy (model prog w) A env fun e s' => R (.error e) s') s₁) (notedBy (model prog w) A env fun e s' => R (.error e) s') s)
    (n : Nat) (h : I n s) (ht : ∀ v, letOwnedTupleGo target it v = pure () := by intro _; rfl) :
    codeC (model prog w) A (.compLoop (.ListComp elt [⟨target, iter, ifs, 0⟩] scope pos) 0 it acc env) R s := by
  refine codeC_loop rfl rfl I (fun n s hI => ?_) n h
  show wpC _ A ((compTurn (.ListComp elt [⟨target, iter, ifs, 0⟩] scope pos) 0 it acc env).onRaise (fun x => do noteFrame x env; theTreesLotGoes x)) _ _ s
  refine wpC_noted ?_
  rw [compTurn_list]
  refine wpC_pre (wpAny_standAt (wpC_pre (wpAny_mono (turn n s hI) (fun r s₁ h₁ => ?_) fun _ _ h' => h')))
  cases r with
  | none => exact wpC_pure h₁
  | some v =>
    refine wpC_pre (wpAny_of_eq (ht v) ?_)
    refine wpC_pre (wpAny_mono h₁ (fun _ s₂ h₂ => wpC_pre (wpAny_mono h₂ (fun ok s₃ h₃ => ?_) fun _ _ h' => h')) fun _ _ h' => h')
    cases ok with
    | false => exact wpC_pure ⟨rfl, h₃⟩
    | true => exact wpC_bind (wpC_bind (wpC_mono h₃ (fun x s₄ h₄ => wpC_pre (wpAny_mono h₄ (fun _ s₅ h₅ => wpC_pure (wpC_pure ⟨rfl, h₅⟩)) fun _ _ h' => h')) fun _ _ h' => h'))
end

section
variable {prog : Program} {w : World} {A : Around} {E : Value → Shared → Prop} {s : Shared} {R : Result → Shared → Prop}
theorem wpC_notedAt {α : Type} {M : Model} {env : Env} {m : Sem α} {pos : Pos} {Q : α → Shared → Prop} (h : wpC M A m Q (notedBy M A env E) s) : wpC M A (m.onRaise fun x => do noteFrame x env; standAt pos) Q E s :=
  wpC_onRaise (wpC_mono h (fun _ _ q => q) fun _ _ hx => wpC_of (wpAny_bind (wpAny_mono hx (fun _ _ e => wpAny_standAt e) fun _ _ e => e)))
theorem codeC_compStart_list {elt target iter : Expr} {ifs : List Expr} {scope : Scope} {pos : Pos} {it acc : Value} {env : Env}
    (h0 : codeC (model prog w) A (.compLoop (.ListComp elt [⟨target, iter, ifs, 0⟩] scope pos) 0 it acc env) R s)
    (h : wpAny (model prog w) A (pyIter it) (fun it' s' => codeC (model prog w) A (.compLoop (.ListComp elt [⟨target, iter, ifs, 0⟩] scope pos) 0 it' acc env) R s') (notedBy (model prog w) A env fun x s' => R (.error x) s') s) :
    codeC (model prog w) A (.compStart (.ListComp elt [⟨target, iter, ifs, 0⟩] scope pos) 0 it acc env) R s := by
  refine codeC_of_tree rfl (wpC_of ?_)
  show wpAny _ _ ((compStart (.ListComp elt [⟨target, iter, ifs, 0⟩] scope pos) 0 it acc env).onRaise (fun x => do noteFrame x env; standAt theWindowsPlace)) _ _ s
  refine wpAny_notedAt ?_
  unfold compStart
  show wpAny _ _ (ask >>= _) _ _ s
  refine wpAny_bind (wpAny_askSetting (wpAny_ite ?_))
  split
  · first
      | exact wpAny_bind (wpAny_pure (wpAny_pure (And.intro rfl h0)))
      | exact wpAny_pure (And.intro rfl h0)
  · first
      | exact wpAny_bind (wpAny_rule (wpAny_bind (wpAny_standAt (wpAny_bind (wpAny_mono h (fun it' s' h' => wpAny_pure (And.intro rfl h')) fun _ _ x => x)))))
      | (refine wpAny_bind (wpAny_rule ?_); show wpAny _ _ (standAt iter.pos >>= _) _ _ s; exact wpAny_bind (wpAny_standAt (wpAny_bind (wpAny_mono h (fun it' s' h' => wpAny_pure (And.intro rfl h')) fun _ _ x => x))))
/-- behind a comprehension: as compPost, the frame known too -/
def compPostX (M : Model) (A : Around) (E : Value → Shared → Prop) (Q : Value → Shared → Prop) (acc : Value) (c : Addr) (fr : Option Addr) (r : Result) (s' : Shared) : Prop :=
  match r with
  | .ok _ => ∃ m, s'.heap.Ns c m ∧ ∀ h', Heap.SameBut c s'.heap h' → Q acc { s' with heap := h' }
  | .error x => ∃ m, s'.heap.Ns c m ∧ ∀ h', Heap.SameBut c s'.heap h' → ∀ cenv : Env, cenv.locals = c → cenv.frame = fr → wpAny M A (passOn "comprehension.variables-let-go" x cenv : Sem Value) (fun _ _ => False) E { s' with heap := h' }
theorem wpC_comp {e : Expr} {scope : Scope} {pos : Pos} {env : Env} {newAcc first : Sem Value} {g : Comprehension} {gs : List Comprehension} {cl : List (Str × Addr)} {Q : Value → Shared → Prop}
    (hcl : clausesOf e = g :: gs) (hs : ∀ x, foldedSetIterable g.iter env x = pure x) (hclos : closureFor scope env = pure cl)
    (hkind : scope.kind = .function) (hnames : ∀ x ∈ scope.names, x.2 = .local → scope.names.lookup x.1 = some .local)
    (h : wpAny (model prog w) A first (fun x s₁ => wpAny (model prog w) A (pyIter x) (fun it s₂ => wpAny (model prog w) A newAcc (fun acc s₃ =>
      wpAny (model prog w) A (newFunctionEnv scope env.globals cl [] env.qual none .none (some env)) (fun cenv s₄ =>
        codeC (model prog w) A (.compStart e 0 it acc { cenv with scope := relabel scope env }) (compPostX (model prog w) A E Q acc cenv.locals cenv.frame) s₄) E s₃) E s₂) E s₁) E s) :
    wpC (model prog w) A (comprehension e scope env pos newAcc false first none) Q E s := by
  unfold comprehension
  rw [hclos, hcl]
  refine wpC_pre (wpAny_mono h (fun x s₁ h₁ => wpC_pre (wpAny_standAt (wpC_pre (wpAny_of_eq (hs x) (wpC_pre (wpAny_holding (wpAny_mono h₁ (fun it s₂ h₂ => ?_) fun _ _ h' => h'))))))) fun _ _ h' => h')
  have go : ∀ {m : Sem Value}, wpC (model prog w) A m Q E s₂ → ∀ {b : Prop} [Decidable b] {p : Pos}, wpC (model prog w) A (if b then (standAt p >>= fun _ => m) else m) Q E s₂ := by
    intro m hm b _ p
    by_cases hb : b
    · rw [if_pos hb]; exact wpC_pre (wpAny_standAt hm)
    · rw [if_neg hb]; exact hm
  refine go ?_
  refine wpC_pre (wpAny_mono h₂ (fun acc s₃ h₃ => wpC_pre (wpAny_pure (wpC_pre (wpAny_mono h₃ (fun cenv s₄ h₄ => ?_) fun _ _ h' => h')))) fun _ _ h' => h')
  dsimp only
  have hv : ∀ x ∈ (scope.names.filter fun x => (x.2 == .local || x.2 == .cell) && x.1 != (".0" : Str)).reverse, x.2 = .local →
      Env.kindOf { cenv with scope := relabel scope env } x.1 = some .local := fun x hx hl => lookup_relabel_local (hnames x (List.mem_filter.mp (List.mem_reverse.mp hx)).1 hl)
  refine wpC_holding (wpC_bind (wpC_attempt (wpC_holding (wpC_run (codeC_mono h₄ fun r s' hr => ?_)))))
  cases r with
  | ok f =>
    obtain ⟨m, hn, hr⟩ := hr
    exact wpC_of (wpAny_bind (wpAny_holding (wpAny_comp_letGo (cenv := { cenv with scope := relabel scope env }) hkind _ s' m hv hn fun h' m' _ hs' => wpAny_pure (hr h' hs'))))
  | error x =>
    obtain ⟨m, hn, hr⟩ := hr
    exact wpC_of (wpAny_bind (wpAny_holding (wpAny_comp_letGo (cenv := { cenv with scope := relabel scope env }) hkind _ s' m hv hn fun h' m' _ hs' => wpAny_mono (hr h' hs' _ rfl rfl) (fun _ _ f => f.elim) fun _ _ y => y)))
end

section
variable {C : Cx} {s : Shared} {loc : List (Str × Value)} {news : List (Addr × Obj)} {prog : Program} {w : World} {A : Around} {E : Value → Shared → Prop} {env : Env}
/-- where an exception of a comprehension goes -/
abbrev compEX (prog : Program) (w : World) (A : Around) (env : Env) (scope : Scope) (cl : List (Str × Addr)) (E : Value → Shared → Prop) (Q : Value → Shared → Prop) (D c : Addr) : Value → Shared → Prop :=
  notedBy (model prog w) A (compEnvC scope cl c env) fun e s' => compPostX (model prog w) A E Q (.ref D) c env.frame (.error e) s'
/-- as CompG, the ledger growing from item to item, with room for an exception -/
def CompX (prog : Program) (w : World) (A : Around) (C : Cx) (env : Env) (E : Value → Shared → Prop) (elt : Expr) (x : Str) (ifs : List Expr) (scope : Scope) (cl : List (Str × Addr)) (Q : Value → Shared → Prop) (xv : Value) (s₁ : Shared) : Prop :=
  ∃ (src : Src) (loc : List (Str × Value)) (news : List (Addr × Obj)) (p : Value → Bool) (G : List Value → List Value → List (Addr × Obj) → Prop), xv = src.val ∧ src.At s₁.heap ∧ St C loc news s₁ ∧
    (∀ news' s, news.Sublist news' → St C loc news' s → src.At s.heap) ∧ src.its.size ≤ 16777216 ∧ G [] [] [] ∧
    (∀ v c oc m D oD I oI ex s E', v ∈ src.its → NsObj oc m → m x = some v → St C loc ((c, oc) :: (D, oD) :: (I, oI) :: (ex ++ news)) s →
      wpAny (model prog w) A (forIn ifs true fun c' r => if r = true then do let ok ← isTrue c' (compEnvC scope cl c env) (eval c' (compEnvC scope cl c env)); pure (ForInStep.yield ok) else pure (ForInStep.yield r)) (fun ok s₃ => ok = p v ∧ St C loc ((c, oc) :: (D, oD) :: (I, oI) :: (ex ++ news)) s₃) E' s) ∧
    (∀ pre v ys ex, p v = false → G pre ys ex → G (pre ++ [v]) ys ex) ∧
    (∀ v c oc m D oD I oI pre ys ex s, src.its.toList[pre.length]? = some v → pre = src.its.toList.take pre.length → p v = true → G pre ys ex → NsObj oc m → m x = some v → St C loc ((c, oc) :: (D, oD) :: (I, oI) :: (ex ++ news)) s →
      wpC (model prog w) A (eval elt (compEnvC scope cl c env)) (fun y s₃ => ∃ ex', G (pre ++ [v]) (ys ++ [y]) ex' ∧ St C loc ((c, oc) :: (D, oD) :: (I, oI) :: (ex' ++ news)) s₃) (compEX prog w A env scope cl E Q D c) s) ∧
    (∀ D ys ex s, G src.its.toList ys ex → St C loc ((D, listOf ys.toArray ys.length) :: (ex ++ news)) s → Q (.ref D) s)
/-- a list comprehension over one name -/
theorem comp_allX {elt iter : Expr} {x : Str} {px : Pos} {ifs : List Expr} {scope : Scope} {cl : List (Str × Addr)} {pos : Pos} {Q : Value → Shared → Prop} (_D : St C loc news s) (hh : A.handled = none)
    (hclos : closureFor scope env = pure cl) (hok : okComp scope x = true)
    (first : wpAny (model prog w) A (eval iter env) (CompX prog w A C env E elt x ifs scope cl Q) E s)
    (hs : ∀ x, foldedSetIterable iter env x = pure x := by intro _; rfl) :
    wpC (model prog w) A (eval (.ListComp elt [⟨.Name x px, iter, ifs, 0⟩] scope pos) env) Q E s := by
  obtain ⟨hcell, hkind, hnames, hx⟩ := okComp_parts hok
  rw [eval_ListComp]
  refine wpC_comp rfl hs hclos hkind hnames (wpAny_mono first (fun v s₁ h₁ => ?_) fun _ _ e => e)
  obtain ⟨src, loc, news, p, G, rfl, hl, D₁, stay, hsz, g0, tests, gskip, helt, k⟩ := h₁
  refine it_src D₁ hl fun I oI s₂ D₂ hI hl₂ => ?_
  refine wpAny_newObj_type (wpAny_newFunctionEnv hcell (by intro y hy; simp at hy) (fun h₁ hns₁ hsb₁ => ?_) hkind)
  dsimp only at hns₁ hsb₁ ⊢
  have D₃ := D₂.push (listOf #[] 0)
  generalize hH2 : s₂.heap.push { cls := .type "list", dict := none, data := .seq ([] : List Value).toArray } = H2 at hns₁ hsb₁ ⊢
  have hH : s₂.heap.push (listOf #[] 0) = H2 := hH2
  rw [hH] at D₃
  have hC : H2.objs.size = s₂.heap.objs.size + 1 := by rw [← hH2, Heap.size_push]
  have keep₁ : ∀ b o, H2.get? b = some o → h₁.get? b = some o := fun b o e => hsb₁.extBut b o (Nat.ne_of_lt (Heap.lt_size e)) (Heap.get?_push_of_some _ e)
  obtain ⟨oc, hoc, hNs⟩ := ns_obj hns₁
  have D₄ := D₃.pushed (s' := { s₂ with heap := h₁, toks := s₂.toks + ([] : List (Str × Value)).length }) (a := H2.objs.size) (Heap.get?_none_of_le (Nat.le_refl _)) keep₁ hoc ⟨rfl, rfl, rfl⟩
  have loop : ∀ s₃, s₃ = ({ s₂ with heap := h₁, toks := s₂.toks + ([] : List (Str × Value)).length } : Shared) → codeC (model prog w) A (.compLoop (.ListComp elt [⟨.Name x px, iter, ifs, 0⟩] scope pos) 0 (.ref I) (.ref s₂.heap.objs.size) (compEnvC scope cl H2.objs.size env)) (compPostX (model prog w) A E Q (.ref s₂.heap.objs.size) H2.objs.size env.frame) s₃ := by
    rintro s₃ rfl
    refine codeC_compLoop (fun j s' => ∃ i oI oc m ys ex, i ≤ src.its.size ∧ j = src.its.size + 1 - i ∧ src.It oI i ∧ NsObj oc m ∧ G (src.its.toList.take i) ys ex ∧ ys.length ≤ i ∧ St C loc ((H2.objs.size, oc) :: (s₂.heap.objs.size, listOf ys.toArray ys.length) :: (I, oI) :: (ex ++ news)) s') ?_ (src.its.size + 1)
      ⟨0, oI, oc, _, [], [], Nat.zero_le _, rfl, hI, hNs, g0, Nat.le_refl _, D₄⟩
    rintro j s' ⟨i, oI, oc, m, ys, ex, hi, rfl, hI, hNs, hF, hyl, D'⟩
    have P1 : ((H2.objs.size, oc) :: (s₂.heap.objs.size, listOf ys.toArray ys.length) :: (I, oI) :: (ex ++ news)).Perm ((I, oI) :: (H2.objs.size, oc) :: (s₂.heap.objs.size, listOf ys.toArray ys.length) :: (ex ++ news)) :=
      ((List.Perm.swap _ _ _).cons _).trans (List.Perm.swap _ _ _)
    have hl' := stay _ _ ((List.sublist_append_right ex news).trans ((List.sublist_cons_self _ _).trans ((List.sublist_cons_self _ _).trans (List.sublist_cons_self _ _)))) D'
    refine next_src hh (D'.perm P1) hI hl' (fun v oI' s₄ hv hI' D₄ => ?_) fun s₄ hv D₄ => ?_
    · have hlt := (Array.getElem?_eq_some_iff.mp hv).1
      have hmem : v ∈ src.its := by obtain ⟨h1, rfl⟩ := Array.getElem?_eq_some_iff.mp hv; exact Array.getElem_mem h1
      have hvl : src.its.toList[i]? = some v := by simpa using hv
      have D₅ : St C loc ((H2.objs.size, oc) :: (s₂.heap.objs.size, listOf ys.toArray ys.length) :: (I, oI') :: (ex ++ news)) s₄ := D₄.perm ((List.Perm.swap _ _ _).trans ((List.Perm.swap _ _ _).cons _))
      refine wpAny_assign_Name (wpAny_storeName_local (lookup_relabel_local hx) (hNs.ns (D₅.get (.head _))) (fun h₂ hn₂ hs₂ => ?_) (by simp [compEnvC, relabel, hkind]))
      obtain ⟨oc', hoc', hNs'⟩ := ns_obj hn₂
      have D₆ := D₅.change (s' := { s₄ with heap := h₂, toks := s₄.toks + 1 }) rfl (fun b o n e => hs₂.extBut b o n e) hoc' ⟨rfl, rfl, rfl⟩
      have htake : src.its.toList.take (i + 1) = src.its.toList.take i ++ [v] := by rw [List.take_add_one, hvl]; rfl
      refine wpAny_mono (tests v _ _ _ _ _ _ _ _ _ _ hmem hNs' (by simp) D₆) (fun ok s₇ h₇ => ?_) fun _ _ e => e
      obtain ⟨rfl, D₇⟩ := h₇
      cases hpv : p v with
      | false =>
        simp only [Bool.false_eq_true, if_false]
        refine ⟨src.its.size + 1 - (i + 1), by omega, i + 1, oI', oc', _, ys, ex, hlt, rfl, hI', hNs', ?_, by omega, D₇⟩
        rw [htake]; exact gskip _ _ _ _ hpv hF
      | true =>
        simp only [if_true]
        have hln : (src.its.toList.take i).length = i := by rw [List.length_take, Array.length_toList]; omega
        refine wpC_mono (helt v _ _ _ _ _ _ _ (src.its.toList.take i) _ _ _ (by rw [hln]; exact hvl) (by rw [hln]) hpv hF hNs' (by simp) D₇) (fun y s₈ h₈ => ?_) fun _ _ e => e
        obtain ⟨ex', hFy, D₈⟩ := h₈
        have D₉ := D₈.perm (List.Perm.swap _ _ _)
        refine append_at (hsz := by show ys.toArray.size ≤ sizeLine; rw [List.size_toArray, sizeLine_eq]; omega) (D₉.get (.head _)) fun h₅ hs₅ hD₅ => ?_
        have D₁₀ := (D₉.change (s' := { s₈ with heap := h₅ }) rfl (fun b o n e => hs₅.extBut b o n e) hD₅ ⟨rfl, rfl, rfl⟩).perm (List.Perm.swap _ _ _)
        refine ⟨src.its.size + 1 - (i + 1), by omega, i + 1, oI', oc', _, ys ++ [y], ex', hlt, rfl, hI', hNs', ?_, by rw [List.length_append, List.length_singleton]; omega, ?_⟩
        · rw [htake]; exact hFy
        · have e : listOf (ys ++ [y]).toArray (ys ++ [y]).length = ({ cls := .type "list", data := .seq (ys.toArray.push y) (ys.length + 1) } : Obj) := by
            rw [List.length_append, List.length_singleton, List.push_toArray]
          rw [e]; exact D₁₀
    · obtain rfl : i = src.its.size := Nat.le_antisymm hi hv
      refine ⟨m, hNs.ns (D₄.get (.head _)), fun h'' hs'' => k _ ys ex _ ?_ ?_⟩
      · have e : src.its.toList.take src.its.size = src.its.toList := List.take_of_length_le (by simp)
        rwa [e] at hF
      · exact D₄.ext (s' := { s₄ with heap := h'' }) rfl (fun b o n e => hs''.extBut b o n e) ⟨rfl, rfl, rfl⟩
  have D₅ := D₄.perm (((List.Perm.swap _ _ _).cons _).trans (List.Perm.swap _ _ _))
  exact codeC_compStart_list (loop _ rfl) (iter_src D₅ hI (loop _ rfl))
end

theorem FrOK.hide {h : Heap} {l : List Env} (k : FrOK h l) {as : List Addr} (n : ∀ L ∈ l.filterMap (·.frame), L ∉ as) : FrOK (hideAll h as) l := fun env he => by
  obtain ⟨h1, L, o, es, m, h2, h3, h4⟩ := k env he
  exact ⟨h1, L, o, es, m, h2, hideAll_get _ h3 (n L (List.mem_filterMap.mpr ⟨env, he, h2⟩)), h4⟩
theorem made_hide {h h' : Heap} {e : Addr} {cls : Value} {args : List Value} (x : Heap.MadeExcOf h h' e cls args) (as : List Addr) : Heap.MadeExcOf (hideAll h as) h' e cls args :=
  ⟨fun b o q => x.keeps b o (of_hideAll _ q), none_hide _ x.new, let ⟨t, h1, h2, h3⟩ := x.there; ⟨t, h1, none_hide _ h2, h3⟩⟩
theorem Flew.but {fs : List Addr} {h₀ h' h'' : Heap} {e t c : Addr} {cls fl : Value} {args : List Value} {oc : Obj} (f : Flew fs h₀ e cls t args fl h') (hc : h₀.get? c = some oc) (hs : Heap.SameBut c h' h'') : Flew fs (hideAll h₀ [c]) e cls t args fl h'' := by
  have kp : ∀ b, h₀.get? b = none → b ≠ c := fun b n z => by subst z; rw [hc] at n; cases n
  have hb : ∀ b o, (hideAll h₀ [c]).get? b = some o → b ≠ c := fun b o q z => by
    subst z; rw [hideAll_none _ (by simp)] at q; cases q
  obtain ⟨r, n, tn, tr, tp⟩ := f
  refine ⟨⟨fun b o _ q e => ?_, fun b o _ q e => ?_⟩, none_hide _ n, none_hide _ tn, ?_, ?_⟩
  · exact hs.extBut b o (hb b o e) (r.keep b o (fun z => nomatch z) q (of_hideAll _ e))
  · obtain ⟨sl, h1⟩ := r.frame b o (fun z => nomatch z) q (of_hideAll _ e)
    exact ⟨sl, hs.extBut b _ (hb b o e) h1⟩
  · obtain ⟨oe, vs, T, oT, ts, x1, x2, x3, x4, x5, x6, x7, x8⟩ := tr
    exact ⟨oe, vs, T, oT, ts, hs.extBut e _ (kp e n) x1, x2, x3, x4, none_hide _ x5, x6, hs.extBut T _ (kp T x5) x7, x8⟩
  · obtain ⟨o, k, h1, h2⟩ := tp
    exact ⟨o, k, hs.extBut t _ (kp t tn) h1, h2⟩

section
variable {prog : Program} {w : World} {A : Around} {E : Value → Shared → Prop} {C : Cx} {s s' : Shared} {mg mb : Str → Option Value} {loc : List (Str × Value)} {news : List (Addr × Obj)} {name : Str} {scope sc : Scope} {a : Addr} {cd : Value} {cl : List (Str × Addr)}
/-- an exception made within a comprehension, on its way out of it -/
theorem comp_raise {e c Dl : Addr} {oc : Obj} {m : Str → Option Value} {cls : Value} {args : List Value} {Q : Value → Shared → Prop} (D : St C loc ((c, oc) :: news) s) (W : WF w mg mb C.s₀.heap) (K : Frames A C.fs C.s₀.heap) (dis : ∀ b ∈ C.fs, b ∉ C.S) (hk : sc.kind = .function) (hN : NsObj oc m)
    (hM : Heap.MadeExcOf s.heap s'.heap e cls args)
    (h : ∀ t s'', Flew (C.L :: C.fs) (hideAll s.heap [c]) e cls t args (rawInt C.L) s''.heap → Same s' s'' → E (.ref e) s'') :
    compEX prog w (A.deeper (envOf name sc C.L a cd)) (envOf name sc C.L a cd) scope cl E Q Dl c (.ref e) s' := by
  obtain ⟨outer, hf1, hf2, hf3⟩ := frames_here (name := name) (a := a) (cd := cd) D W K dis hk
  have nc : c ∉ C.L :: C.fs := D.noFrame K dis (p := (c, oc)) List.mem_cons_self
  have hc := D.get (a := c) (o := oc) List.mem_cons_self
  show wpAny _ _ (noteFrame (.ref e) (envOf name sc C.L a cd)) _ _ s'
  refine x_note_made hf1 rfl hf3 hf2 hM fun h' t f => ?_
  refine ⟨m, hN.ns (f.rel.keep c oc (fun z => nomatch z) nc hc), fun h'' hs cenv hcv hfr => ?_⟩
  have f' := f.but hc hs
  have hf3' := hf3.hide (as := [c]) (fun L hL z => by
    rw [hf2] at hL
    simp at z; subst z; exact nc hL)
  obtain ⟨oe, vs, T, oT, ts, x1, x2, x3, x4, x5, x6, x7, x8⟩ := f'.tr
  unfold PySem.passOn
  refine wpAny_bind (wpAny_field x1 x3 x4 ?_)
  rw [if_neg (by simp)]
  refine wpAny_bind ?_
  have e0 : cenv.frame = (envOf name sc C.L a cd).frame := hfr
  rw [e0]
  exact x_fly rfl hf3' hf2 f' fun h₃ f₃ => wpAny_throw (h t _ f₃ ⟨rfl, rfl, rfl⟩)
end

section
variable {C : Cx} {s : Shared} {loc : List (Str × Value)} {news : List (Addr × Obj)}
/-- back from a frame, a comprehension's own frame hidden -/
theorem Flew.outH {e t c : Addr} {oc : Obj} {cls fl : Value} {args : List Value} {h : Heap} (f : Flew (C.L :: C.fs) (hideAll s.heap [c]) e cls t args fl h) (D : St C loc ((c, oc) :: news) s) (hS : C.S = []) : Flew C.fs C.s₀.heap e cls t args fl h := by
  have x : Rel [] C.fs C.s₀.heap s.heap := by have := D.toRel; rwa [hS] at this
  have nL : ∀ b o, C.s₀.heap.get? b = some o → b ≠ C.L := fun b o q z => by
    subst z; exact absurd (Nat.lt_of_lt_of_le (Heap.lt_size q) D.ge) (Nat.lt_irrefl _)
  have hc : C.s₀.heap.get? c = none := D.isNew hS (p := (c, oc)) List.mem_cons_self
  have nc : ∀ b o, C.s₀.heap.get? b = some o → b ∉ [c] := fun b o q z => by
    simp at z; subst z; rw [hc] at q; cases q
  have up : ∀ b, (hideAll s.heap [c]).get? b = none → C.s₀.heap.get? b = none := fun b n => by
    cases q : C.s₀.heap.get? b with
    | none => rfl
    | some o =>
      obtain ⟨sl, h1⟩ := x.any (fun z => nomatch z) q
      rw [hideAll_get _ h1 (nc b o q)] at n; cases n
  refine ⟨⟨fun b o _ n q => ?_, fun b o _ m q => ?_⟩, up _ f.new, up _ f.tnew, tracedAt_mono f.tr fun b n => up b n, f.tup⟩
  · exact f.rel.keep b o (fun z => nomatch z) (fun z => (List.mem_cons.mp z).elim (nL b o q) n) (hideAll_get _ (x.keep b o (fun z => nomatch z) n q) (nc b o q))
  · obtain ⟨sl, h1⟩ := x.frame b o (fun z => nomatch z) m q
    obtain ⟨sl', h2⟩ := f.rel.any (fun z => nomatch z) (hideAll_get _ h1 (nc b o q))
    exact ⟨sl', h2⟩
end

/-- a type's call that raises, its arguments plain -/
theorem callC_type {M : Model} {A : Around} {E : Value → Shared → Prop} {s : Shared} {env : Env} {pos : Pos} {T' : String} {e : Expr} {rest : List Expr} {Q : Value → Shared → Prop}
    (h : wpAny M A (spliced (backTo pos (starEach (e :: rest) env))) (fun vs s₁ => wpC M A (call (.type T') vs) (fun _ _ => False) E s₁) E s)
    (he : starEach (e :: rest) env = (false, eval e env) :: starEach rest env) (hplain : (backTo pos (starEach rest env)).any (·.1) = false) :
    wpC M A (callWith pos (.type T') [] (backTo pos (starEach (e :: rest) env)) []) Q E s := by
  rw [he] at h ⊢
  have hp : (backTo pos ((false, eval e env) :: starEach rest env)).any (·.1) = false := by show (false || (backTo pos (starEach rest env)).any (·.1)) = false; rw [hplain]; rfl
  unfold callWith
  refine wpC_pre (wpAny_holding (wpAny_mono (evalArgs_plain (Q := fun a s₁ => ∃ vs, a = ⟨vs, []⟩ ∧ wpC M A (call (.type T') vs) (fun _ _ => False) E s₁) (wpAny_mono h (fun vs s₁ h₁ => ⟨vs, rfl, h₁⟩) fun _ _ x => x)) (fun a s₁ h₁ => ?_) fun _ _ x => x))
  obtain ⟨vs, rfl, h₁⟩ := h₁
  refine wpC_pre (wpAny_standAt ?_)
  simp only [hp, List.any_nil, Bool.or_false]
  refine wpC_pre (wpAny_pure ?_)
  exact wpC_thru h₁

section
variable {prog : Program} {w : World} {A : Around} {E₀ E₁ : Value → Shared → Prop} {C : Cx} {s s' : Shared} {mg mb : Str → Option Value} {loc : List (Str × Value)} {news : List (Addr × Obj)} {name : Str} {scope sc : Scope} {a : Addr} {cd : Value} {cl : List (Str × Addr)}
/-- an exception made within a comprehension: out of it and out of the def -/
theorem comp_leave {e c Dl : Addr} {oc : Obj} {m : Str → Option Value} {cls : Value} {args : List Value} {Q : Value → Shared → Prop} (D : St C loc ((c, oc) :: news) s) (W : WF w mg mb C.s₀.heap) (K : Frames A C.fs C.s₀.heap) (hS : C.S = []) (hk : sc.kind = .function) (hN : NsObj oc m)
    (hM : Heap.MadeExcOf s.heap s'.heap e cls args) (same : Same s s') (h : ∀ t s'', Threw C.fs C.s₀ e cls t args s'' → E₀ (.ref e) s'') :
    compEX prog w (A.deeper (envOf name sc C.L a cd)) (envOf name sc C.L a cd) scope cl (fun e s' => wpAny (model prog w) (A.deeper (envOf name sc C.L a cd)) (leaving (envOf name sc C.L a cd) e) (fun _ s'' => E₀ e s'') E₁ s') Q Dl c (.ref e) s' := by
  have dis : ∀ b ∈ C.fs, b ∉ C.S := by rw [hS]; exact fun _ _ z => nomatch z
  refine comp_raise D W K dis hk hN hM fun t s'' f same' => ?_
  obtain ⟨outer, hf1, hf2, hf3⟩ := frames_here (name := name) (a := a) (cd := cd) D W K dis hk
  have nc : c ∉ C.L :: C.fs := D.noFrame K dis (p := (c, oc)) List.mem_cons_self
  have hf3' := hf3.hide (as := [c]) (fun L hL z => by
    rw [hf2] at hL
    simp at z; subst z; exact nc hL)
  exact x_leave_held rfl hf3' hf2 f fun h₃ f₃ => h t _ ⟨f₃.outH D hS, (D.same.trans same).trans (same'.trans ⟨rfl, rfl, rfl⟩)⟩
end

section
variable {M : Model} {A : Around} {E : Value → Shared → Prop} {s : Shared} {env : Env}
theorem wpC_keep {α : Type} {vs : List Value} {m : Sem α} {Q : α → Shared → Prop} (h : wpC M A m Q E s) : wpC M A (m.keep vs) Q E s := fun Γ p hΓ hc => by rw [Sem.wp_keep]; exact h Γ p hΓ hc
theorem wpC_operate {vs : List Value} {m : Sem Value} {Q : Value → Shared → Prop} (h : wpC M A m Q E s) : wpC M A (operate vs m) Q E s := fun Γ p hΓ hc => by rw [Sem.wp_operate]; exact h Γ p hΓ hc
theorem wpC_nil {Q : Flow → Shared → Prop} (h : Q .next s) : wpC M A (execs [] env) Q E s := wpC_of (wpAny_execs_nil h)
/-- the arguments, one after the other -/
theorem spliced_C {x : Sem Value} {rest : List (Bool × Sem Value)} {Q : List Value → Shared → Prop} (h : wpC M A x (fun v s₁ => wpC M A (spliced rest) (fun vs => Q (v :: vs)) E s₁) E s) : wpC M A (spliced ((false, x) :: rest)) Q E s := by
  rw [spliced]
  refine wpC_bind (wpC_mono h (fun v s' h' => ?_) fun _ _ z => z)
  refine wpC_ifn (by simp) ?_
  refine wpC_pre (wpAny_pure ?_)
  exact wpC_bind (wpC_holding (wpC_mono h' (fun vs s'' h'' => wpC_pure h'') fun _ _ z => z))
theorem evalArgs_C {f : Value} {x : Sem Value} {rest : List (Bool × Sem Value)} {Q : Args → Shared → Prop}
    (h : wpC M A (spliced ((false, x) :: rest)) (fun vs s' => Q ⟨vs, []⟩ s') E s) : wpC M A (evalArgs f true ((false, x) :: rest) []) Q E s := by
  unfold evalArgs
  show wpC M A (spliced ((false, x) :: rest) >>= _) Q E s
  refine wpC_bind (wpC_mono h (fun vs s' h' => ?_) fun _ _ z => z)
  refine wpC_holding ?_
  exact wpC_pre (wpAny_pure (wpC_pre (wpAny_pure (wpC_pure h'))))
/-- a call in a text -/
theorem callWith_C {P : Heap → Prop} {pos : Pos} {f : Value} {first : List Value} {args : List (Bool × Sem Value)} {Q : Value → Shared → Prop}
    (hk : ∀ h, P h → ∃ k, (k = Keeper.frame ∨ k = Keeper.machine ∨ k = Keeper.boundFrame) ∧ Looks M h (keeperOf f) k)
    (h : wpC M A (evalArgs f true args []) (fun a s₁ => P s₁.heap ∧ wpC M A (call f (first ++ a.pos) a.kw) Q E s₁) E s) : wpC M A (callWith pos f first args []) Q E s := by
  unfold callWith
  refine wpC_bind (wpC_holding (wpC_mono h (fun a s₁ h₁ => wpC_pre (wpAny_standAt ?_)) fun _ _ x => x))
  obtain ⟨k, hk', L⟩ := hk _ h₁.1
  refine wpC_pre (L.here ?_)
  have tail : ∀ {t : Sem Value}, wpC M A t Q E s₁ → wpC M A (t >>= fun r => holding [r] point >>= fun _ => pure r) Q E s₁ :=
    fun ht => wpC_bind (wpC_mono ht (fun r s₂ hr => wpC_pre (wpAny_holding (wpAny_point (wpC_pure hr)))) fun _ _ x => x)
  have marked (mk : Value) : wpC M A (callMarked mk f (first ++ a.pos) a.kw) Q E s₁ := by unfold callMarked; exact wpC_keep h₁.2
  rcases Bool.eq_false_or_eq_true (args.any (·.1) || ([] : List (Option Str × Sem Value)).any (·.1.isNone)) with e | e <;> simp only [e] <;> rcases hk' with rfl | rfl | rfl <;> dsimp only <;>
    first | exact tail h₁.2 | exact tail (wpC_operate h₁.2) | exact tail (marked _) | (split <;> first | exact tail h₁.2 | exact tail (marked _))
theorem keeps_type {T' : String} (h : Heap) (_ : True) : ∃ k, (k = Keeper.frame ∨ k = Keeper.machine ∨ k = Keeper.boundFrame) ∧ Looks M h (keeperOf (.type T')) k := ⟨.machine, .inr (.inl rfl), Looks.of_pure rfl⟩
theorem wpC_Method {o : Expr} {name : Str} {apos pos : Pos} {args : List Expr} {pl : Sem Bool} {Q : Value → Shared → Prop}
    (h : wpAny M A (eval o env) (fun ov s₁ => wpAny M A (getMethod ov name pl) (fun fx s₂ => wpC M A (callWith pos fx.1 fx.2 (backTo pos (starEach args env)) []) Q E s₂) E s₁) E s)
    (he : eval (.Call (.Attribute o name apos) args [] pos) env = (do
      let ov ← eval o env
      standAt apos.atName
      let (f, first) ← holding [ov] (getMethod ov name pl)
      callWith pos f first (backTo pos (starEach args env)) []) := by rfl) : wpC M A (eval (.Call (.Attribute o name apos) args [] pos) env) Q E s := by
  rw [he]
  exact wpC_pre (wpAny_mono h (fun ov s₁ h₁ => wpC_pre (wpAny_standAt (wpC_pre (wpAny_holding (wpAny_mono h₁ (fun fx s₂ h₂ => h₂) fun _ _ x => x))))) fun _ _ x => x)
theorem wpC_BoolOp_one {op : BoolOp} {e : Expr} {pos : Pos} {Q : Value → Shared → Prop} (h : wpC M A (eval e env) Q E s) : wpC M A (eval (.BoolOp op [e] pos) env) Q E s := h
theorem wpC_BoolOp_and {e₁ e₂ : Expr} {rest : List Expr} {pos : Pos} {Q : Value → Shared → Prop}
    (h : wpC M A (eval e₁ env) (fun v s₁ => wpAny M A (truthy v) (fun c s₂ => if c then wpC M A (eval (.BoolOp .And (e₂ :: rest) pos) env) Q E s₂ else Q v s₂) E s₁) E s) :
    wpC M A (eval (.BoolOp .And (e₁ :: e₂ :: rest) pos) env) Q E s := by
  show wpC M A (do
    let v ← eval e₁ env
    standAt pos
    let c ← holding [v] (truthy v)
    match BoolOp.And, c with
    | .And, false | .Or, true => pure v
    | _, _ => boolOp pos .And (eval e₂ env :: evalEach rest env)) Q E s
  refine wpC_bind (wpC_mono h (fun v s₁ h₁ => wpC_pre (wpAny_standAt (wpC_pre (wpAny_holding (wpAny_mono h₁ (fun c s₂ h₂ => ?_) fun _ _ x => x))))) fun _ _ x => x)
  cases c with
  | false => exact wpC_pure h₂
  | true => exact h₂
theorem wpC_Compare1 {l r : Expr} {op : CmpOp} {pos : Pos} {Q : Value → Shared → Prop}
    (h : wpC M A (eval l env) (fun a s₁ => wpAny M A (eval r env) (fun b s₂ => wpAny M A (compareOp op a b) Q E s₂) E s₁) E s)
    (hm : behindInMarks op r = false := by with_unfolding_all rfl) : wpC M A (eval (.Compare l [op] [r] pos) env) Q E s := by
  rw [eval_Compare1, markedBehindIn_of_false hm]
  refine wpC_bind (wpC_mono h (fun a s₁ h₁ => wpC_of (wpAny_bind (wpAny_holding (wpAny_mono h₁ (fun b s₂ h₂ => wpAny_bind (wpAny_standAt (wpAny_operating h₂))) fun _ _ x => x)))) fun _ _ x => x)
theorem wpC_Return {e : Expr} {pos : Pos} {Q : Flow → Shared → Prop} (h : wpC M A (eval e env) (fun v s₁ => Q (.ret v) s₁) E s) : wpC M A (exec (.Return (some e) pos) env) Q E s := fun Γ p hΓ hc => by
  simp only [exec_Return_some, Sem.wp_bind', Sem.wp_cmd_standAt, Sem.wp_pure']
  exact h Γ _ hΓ hc
theorem wpC_Assign_Attribute {o value : Expr} {attr : Str} {pos' pos : Pos} {Q : Flow → Shared → Prop}
    (h : wpC M A (eval value env) (fun v s₁ => wpAny M A (eval o env) (fun ov s₂ => wpAny M A (setAttr ov attr v) (fun _ => Q .next) E s₂) E s₁) E s)
    (hs : swapsWith value (some (.Attribute o attr pos')) pos.line env = pure false := by rfl) : wpC M A (exec (.Assign [.Attribute o attr pos'] value pos) env) Q E s := fun Γ p hΓ hc => by
  simp only [plainObj_exec_Assign_Attribute (env := env) o attr pos' value pos hs, assign_Attribute, Sem.wp_bind', Sem.wp_holding, Sem.wp_cmd_standAt, Sem.wp_release, Sem.wp_pure']
  exact Sem.wp_mono M Γ _ (fun v p₁ s₁ h₁ => Sem.wp_mono M Γ _ (fun ov _ s₂ h₂ => h₂ Γ _ hΓ) (fun _ _ _ h' => h') _ _ (h₁ Γ p₁ hΓ)) (fun _ _ _ h' => h') _ _ (h Γ _ hΓ hc)
theorem wpC_AugAssign_Attribute {o value : Expr} {attr : Str} {tpos pos : Pos} {op : Operator} {Q : Flow → Shared → Prop}
    (h : wpAny M A (eval o env) (fun ov s₁ => wpAny M A (getAttr ov attr true) (fun old s₂ =>
          wpAny M A (eval value env) (fun v s₃ => wpC M A (inplaceOp op old v) (fun new s₄ =>
            wpAny M A (setAttr ov attr new) (fun _ => Q .next) E s₄) E s₃) E s₂) E s₁) E s) :
    wpC M A (exec (.AugAssign (.Attribute o attr tpos) op value pos) env) Q E s := by
  have e : exec (.AugAssign (.Attribute o attr tpos) op value pos) env = (do
      standAt pos
      let ov ← eval o env
      let new ← holding [ov] do
        standAt tpos.atName
        let old ← getAttr ov attr true
        let v ← holding [old] (eval value env)
        standAt pos
        operate [old, v] (inplaceOp op old v)
      standAt tpos.atName
      holding [new, ov] (setAttr ov attr new)
      release [new, ov] []
      pure .next) := rfl
  rw [e]
  refine wpC_pre (wpAny_standAt (wpC_pre (wpAny_mono h (fun ov s₁ h₁ => ?_) fun _ _ x => x)))
  refine wpC_bind (wpC_holding (wpC_pre (wpAny_standAt (wpC_pre (wpAny_mono h₁ (fun old s₂ h₂ => ?_) fun _ _ x => x)))))
  refine wpC_pre (wpAny_holding (wpAny_mono h₂ (fun v s₃ h₃ => ?_) fun _ _ x => x))
  refine wpC_pre (wpAny_standAt (wpC_operate (wpC_mono h₃ (fun new s₄ h₄ => wpC_of ?_) fun _ _ x => x)))
  exact wpAny_bind (wpAny_standAt (wpAny_bind (wpAny_holding (wpAny_mono h₄ (fun _ _ h₅ => wpAny_bind (wpAny_release (wpAny_pure h₅))) fun _ _ x => x))))
end
section
variable {prog : Program} {w : World} {A : Around} {E : Value → Shared → Prop} {s : Shared} {env : Env}
theorem wpC_Expr {e : Expr} {pos : Pos} {Q : Flow → Shared → Prop} (h : wpC (model prog w) A (eval e env) (fun _ => Q .next) E s)
    (hi : interactive env = false := by rfl) (hs : swapsWith e none pos.line env = pure false := by rfl) : wpC (model prog w) A (exec (.Expr e pos) env) Q E s := by
  rw [exec_Expr env e pos hi hs]
  exact wpC_pre (wpAny_standAt (wpC_bind (wpC_mono h (fun v s' h' => wpC_of (wpAny_dropValue h')) fun _ _ x => x)))
/-- a try whose body runs under the caller; its clauses are plain -/
theorem wpC_Try {body orelse : List Stmt} {h₀ : ExceptHandler} {hs : List ExceptHandler} {pos : Pos} {Q : Flow → Shared → Prop}
    (h : wpC (model prog w) A (execs body env) (fun f s₁ => match f with | .next => wpAny (model prog w) A (execs orelse env) Q E s₁ | f => Q f s₁)
      (fun e s₁ => wpAny (model prog w) A (noteFrame e env) (fun _ s₂ => wpAny (model prog w) A (setFlight e none) (fun _ s₃ => wpAny (model prog w) A (handleBy e env (h₀ :: hs)) Q E s₃) E s₂) E s₁) s) :
    wpC (model prog w) A (exec (.Try body (h₀ :: hs) orelse [] pos) env) Q E s := by
  rw [arm_exec_Try]
  refine wpC_pre (wpAny_standAt ?_)
  unfold tryStmt
  simp only [List.isEmpty_nil, if_true, List.isEmpty_cons, Bool.false_and, Bool.false_eq_true, if_false]
  refine wpC_bind (wpC_attempt (wpC_mono h (fun f s₁ h₁ => ?_) fun e s₁ h₁ => wpC_of ?_))
  · cases f <;> first | exact wpC_of h₁ | exact wpC_pure h₁
  · exact wpAny_bind (wpAny_mono h₁ (fun _ _ h₂ => wpAny_bind h₂) fun _ _ x => x)
end

section
variable {prog : Program} {w : World} {A : Around} {E : Value → Shared → Prop} {s : Shared} {R : Result → Shared → Prop}
theorem looksC {α β : Type} {M : Model} {t : Sem α} {f : α → Sem β} {r : α} {Q : β → Shared → Prop} (x : Looks M s.heap t r) (h : wpC M A (f r) Q E s) : wpC M A (t >>= f) Q E s := wpC_pre (x.here h)
theorem eqC {α β : Type} {M : Model} {t : Sem α} {f : α → Sem β} {r : α} {Q : β → Shared → Prop} (x : t = pure r) (h : wpC M A (f r) Q E s) : wpC M A (t >>= f) Q E s := wpC_pre (wpAny_of_eq x h)
theorem typeC {β : Type} {M : Model} {v : Value} {T' : String} {f : Value → Sem β} {Q : β → Shared → Prop} (x : s.TypeIs v T') (h : wpC M A (f (.type T')) Q E s) : wpC M A (typeOf v >>= f) Q E s := wpC_pre (wpAny_typeOf x h)
theorem codeC_call_at {id : String} {args : Args} {b : Builtin} (hx : bears (.builtin id args) = false) (hq : (Code.builtin id args).quiet = true) (hb : entryFor table id = some b)
    (h : wpAny (model prog w) A.in1 (checkBuiltinCall id args) (fun _ s₁ => wpC (model prog w) (A.under (.builtin id args)) (b args)
      (fun fin s' => match fin with | .done f => R (.ok f) s' | .again c' => c'.quiet = true ∧ codeC (model prog w) A c' R s') (fun e s' => R (.error e) s') s₁)
      (fun e s' => R (.error e) s') s) : codeC (model prog w) A (.call (.builtin id) args) R s := by
  refine codeC_of_tree rfl ?_
  show wpC _ A.in1 (do checkBuiltinCall id args; again (.builtin id args)) _ _ s
  exact wpC_pre (wpAny_mono h (fun _ s₁ h₁ => wpC_pure (And.intro hq (codeC_builtin hx hb h₁))) fun _ _ h' => h')
/-- a built-in type is called, what its __init__ does told under the caller -/
theorem callTypeC {T' newId initId : String} {Bi : Builtin} {args : List Value} {Q Q₁ : Value → Shared → Prop} (ft : TypeCalled T' newId initId) (hct : checkTypeCall T' ⟨args, []⟩ = pure ()) (entryI : entryFor table initId = some Bi) (hx : ∀ a, bears (.builtin initId a) = false)
    (hnew : codeAny (model prog w) A.in1 (.call (.builtin newId) ⟨.type T' :: args, []⟩) (wants Q₁ E) s)
    (hnext : ∀ obj s₁, Q₁ obj s₁ → s₁.TypeIs obj T' ∧ argsOk initId ⟨obj :: args, []⟩ ∧ wpC (model prog w) A.in1.in1 (Bi ⟨obj :: args, []⟩) (fun fin s' => fin = .done (.ret .none) ∧ Q obj s') E s₁) :
    wpC (model prog w) A (call (.type T') args) Q E s := by
  obtain ⟨c, tl, hmro⟩ := ft.mro
  have hmade := ft.made
  have hsub := ft.sub
  refine wpC_call (codeC_of_tree rfl ?_)
  show wpC _ _ (callAny (.type T') _) _ _ _
  refine wpC_pure ⟨Code.quiet_builtin _ (by decide +kernel), codeC_builtin (bears_of (by decide +kernel)) PySem.F.entry_type_call ?_⟩
  rw [Around.under_plain (weight_type_call_type T' args []) rfl]
  have h1 := ft.notType
  have h2 := ft.canCreate
  unfold Builtin.«type.__call__»
  dsimp only
  refine wpC_ifn (by simpa using h1) ?_
  refine wpC_ifn (by simpa using h2) ?_
  refine eqC hct ?_
  refine eqC hmro ?_
  refine wpC_ifn (by simp) ?_
  refine eqC hmade ?_
  dsimp only
  refine wpC_pre (wpAny_pure ?_)
  refine wpC_pre (wpAny_holding (wpAny_call (codeAny_mono hnew fun r s₁ hr => ?_)))
  rcases r with e | (obj | _ | _ | _) <;> first | exact hr | exact hr.elim | skip
  rename_i obj
  obtain ⟨hT, hok, hsi⟩ := hnext _ _ hr
  refine wpC_pre (wpAny_isInstance hT hsub ?_)
  refine wpC_ifn (by simp) ?_
  refine wpC_bind (wpC_holding ?_)
  unfold callSpecial? specialOf
  refine wpC_pre (wpAny_bind (wpAny_typeOf hT (wpAny_of_eq ft.init.lookup ?_)))
  dsimp only
  refine wpC_holding ?_
  refine eqC (ft.init.bind obj) ?_
  refine wpC_bind (wpC_call (codeC_call_at (hx _) (plainId_quiet ft.init.plain _) entryI ?_))
  refine ft.init.check _ _ _ _ _ _ _ _ hT hok ?_
  rw [Around.under_plainId ft.init.plain]
  refine wpC_mono hsi (fun fin s' h' => ?_) fun _ _ h' => h'
  obtain ⟨rfl, hq⟩ := h'
  refine wpC_pure ?_
  dsimp only
  refine wpC_ifn (by simp) ?_
  exact wpC_pure hq
/-- a class of one's own, called, its __init__ told under the caller -/
theorem clsC {mg mb : Str → Option Value} {Q : Value → Shared → Prop} {cl fI : Addr} {vs : List Value} (W : WF w mg mb s.heap) (hm : makesIn (hd.heap_39 w.params) cl = true) (hi : findIn (hd.heap_39 w.params) (.ref cl) "__init__" = some (some (.ref fI))) (hf : isFn (hd.heap_39 w.params) (.ref fI) = true)
    (h : ∀ x dx s', Rel [] [] s.heap s'.heap → Same s s' → s'.heap.get? x = some (instObj cl dx) → s'.heap.get? dx = some (dictOf [] 0) → s.heap.objs.size ≤ x → s.heap.objs.size ≤ dx → x ≠ dx → s.heap.get? x = none → s.heap.get? dx = none →
      codeC (model prog w) (A.under (.builtin "type.__call__" ⟨.ref cl :: vs, []⟩)) (.call (.ref fI) ⟨.ref x :: vs, []⟩) (InitBack x fun r s' => match r with | .ok (.ret v) => Q v s' | .ok _ => False | .error e => E e s') s') :
    wpC (model prog w) A (call (.ref cl) vs) Q E s := by
  have Y := makes_of (M := model prog w) W.X hm
  have hi' := looks_findIn (M := model prog w) W.X hi
  have hb := fun self => bind_fn (M := model prog w) W.X self (beq_iff_eq.mp hf)
  clear W
  obtain ⟨hh, g, d, t, os⟩ := s
  have Y' := Y
  obtain ⟨⟨oc, od, cd, sl, hC, e1, e2, e4⟩, made, base, self, top, cll, typ⟩ := Y
  refine wpC_call (codeC_of_tree rfl ?_)
  show wpC _ _ (callAny (.ref cl) _) _ _ _
  unfold callAny
  dsimp only
  refine wpC_pre (wpAny_load hC ?_)
  show wpC _ _ (callAny.viaDunder (.ref cl) _) _ _ _
  unfold callAny.viaDunder
  refine looksC cll ?_
  dsimp only
  rw [tc_bind]
  refine wpC_pre (wpAny_pure (wpC_pre (wpAny_pure ?_)))
  refine wpC_pure (a := Fin.again (.call (.builtin "type.__call__") ⟨.ref cl :: vs, []⟩)) (And.intro rfl ?_)
  refine codeC_call_at (bears_of (by decide +kernel)) (Code.quiet_builtin _ (by decide +kernel)) entry_typeCall (check_slot tc_kind tc_split typ (tc_args _ _ _) ?_)
  unfold Builtin.«type.__call__»
  dsimp only
  refine wpC_ifn (by simp) ?_
  have hm : Looks (model prog w) hh (mroOf (.ref cl)) cd.mro := ((Looks.ld (part := none) hC).andThen .now).andThen .now
  refine looksC hm ?_
  refine wpC_ifn (by simp [e4]) ?_
  refine looksC made ?_
  dsimp only
  refine wpC_pre (wpAny_pure ?_)
  refine wpC_pre (wpAny_holding (wpAny_call (new_K Y' hi' (.inl rfl) ?_)))
  have k : ∀ b o, hh.get? b = some o → ((hh.push emptyDict).push (instObj cl hh.objs.size)).get? b = some o := fun b o e => Heap.get?_push_of_some _ (Heap.get?_push_of_some _ e)
  have hx : ((hh.push emptyDict).push (instObj cl hh.objs.size)).get? (hh.objs.size + 1) = some (instObj cl hh.objs.size) := by heap_get
  have t1 : Looks (model prog w) ((hh.push emptyDict).push (instObj cl hh.objs.size)) (typeOf (.ref (hh.objs.size + 1))) (.ref cl) := (Looks.ld hx).andThen .now
  have s1 := self.keeps k
  have i1 := hi'.keeps k
  have b1 := (hb (.ref (hh.objs.size + 1))).keeps k
  refine looksC (t := isInstance _ _) (t1.andThen s1) ?_
  refine wpC_ifn (by simp) ?_
  refine wpC_bind (wpC_holding ?_)
  unfold callSpecial?
  refine looksC (t := specialOf _ _) (t1.andThen i1) ?_
  dsimp only
  refine wpC_holding ?_
  refine looksC b1 ?_
  dsimp only
  refine wpC_bind (wpC_call ?_)
  refine codeC_mono (h _ hh.objs.size _ ?_ ⟨rfl, rfl, rfl⟩ (by heap_get) (by heap_get) (Nat.le_succ _) (Nat.le_refl _) (Nat.succ_ne_self _) (Heap.get?_none_of_le (Nat.le_succ _)) (Heap.get?_none_of_le (Nat.le_refl _))) fun r s' z => ?_
  · exact Rel.of_keeps fun b o e => Heap.get?_push_of_some _ (Heap.get?_push_of_some _ e)
  rcases r with e | (v | _ | _ | _) <;> first | exact z | exact z.elim | skip
  obtain ⟨rfl, z⟩ := z
  refine wpC_pure ?_
  dsimp only
  refine wpC_ifn (by simp) ?_
  exact wpC_pure z
end

abbrev baObj (b : Array UInt8) : Obj := { cls := .type "bytearray", data := .bytearray b }
theorem ba_mro : mroOf (.type "bytearray") = pure [.type "bytearray", .type "object"] := by rw [mroOf_type]; kernel_rfl
theorem ba_lookup_new : typeLookup (.type "bytearray") "__new__" = pure (some (.builtin "bytearray.__new__")) := by rw [typeLookup_type, builtinLookup_eq_fast]; kernel_rfl
theorem ba_slot_init : Slot "bytearray" "__init__" "bytearray.__init__" :=
  .of (owner := "bytearray") (n := "__init__") (by rw [typeLookup_type, builtinLookup_eq_fast]; kernel_rfl) (by decide +kernel) (by decide +kernel) (by decide +kernel)
    (by first | exact .inl (by decide +kernel) | exact .inr (by decide +kernel)) (by rw [isSubtype_type]; kernel_rfl)
theorem ba_called : TypeCalled "bytearray" "bytearray.__new__" "bytearray.__init__" :=
  ⟨by decide +kernel, by decide +kernel, ⟨_, _, ba_mro⟩, madeBy_type ba_mro ba_lookup_new (by decide +kernel), by decide +kernel, by rw [isSubtype_type]; kernel_rfl, ba_slot_init⟩
theorem ba_typeCall (a : Value) : checkTypeCall "bytearray" ⟨[a], []⟩ = pure () := by kernel_rfl
theorem ba_newCall (a : Value) : checkBuiltinCall "bytearray.__new__" ⟨[.type "bytearray", a], []⟩ = pure () := by kernel_rfl
theorem ba_plain_new : plainId "bytearray.__new__" = true := by decide +kernel
theorem ba_entry_new : entryFor table "bytearray.__new__" = some Builtin.«list.__new__» := entryFor_alias (id' := "list.__new__") (by kernel_rfl) rfl (by decide +kernel) (by kernel_rfl)
theorem ba_entry_init : entryFor table "bytearray.__init__" = some Builtin.«bytearray.__init__» := entryFor_of_tree (by kernel_rfl)
theorem ba_args_init (a b : Value) : argsOk "bytearray.__init__" ⟨[a, b], []⟩ := by unfold argsOk; kernel_rfl
theorem ba_sub : isSubtype (.type "bytearray") (.type "bytearray") = pure true := by rw [isSubtype_type]; kernel_rfl
theorem ba_rel : typeLookup (.type "bytearray") "__release_buffer__" = pure (some (.builtin "bytearray.__release_buffer__")) := by rw [typeLookup_type, builtinLookup_eq_fast]; kernel_rfl
theorem ba_bind (v : Value) : Builtin.Bytes.bindOptional "bytearray.__init__" "bytearray" ["source", "encoding", "errors"] [v] [] = pure [some v, none, none] := by kernel_rfl
theorem by_rel : typeLookup (.type "bytes") "__release_buffer__" = pure none := by rw [typeLookup_type, builtinLookup_eq_fast]; kernel_rfl
theorem by_index : typeLookup (.type "bytes") "__index__" = pure none := by rw [typeLookup_type, builtinLookup_eq_fast]; kernel_rfl
theorem by_buffer : typeLookup (.type "bytes") "__buffer__" = pure (some (.builtin "bytes.__buffer__")) := by rw [typeLookup_type, builtinLookup_eq_fast]; kernel_rfl
theorem ba_buffer : typeLookup (.type "bytearray") "__buffer__" = pure (some (.builtin "bytearray.__buffer__")) := by rw [typeLookup_type, builtinLookup_eq_fast]; kernel_rfl
theorem ba_bytes : typeLookup (.type "bytearray") "__bytes__" = pure none := by rw [typeLookup_type, builtinLookup_eq_fast]; kernel_rfl
theorem ba_index : typeLookup (.type "bytearray") "__index__" = pure none := by rw [typeLookup_type, builtinLookup_eq_fast]; kernel_rfl
theorem by_sub : isSubtype (.type "bytes") (.type "bytes") = pure true := by rw [isSubtype_type]; kernel_rfl
set_option maxRecDepth 1000000 in
set_option maxHeartbeats 4000000 in
theorem owner_ba_new : ("bytearray.__new__".splitOn ".__new__").headD "" = "bytearray" := by simp +decide [String.splitOn, String.splitOnAux]
section
variable {prog : Program} {w : World} {A : Around} {E : Value → Shared → Prop} {s : Shared}
theorem code_ba_new (a : Value) {Q₁ : Value → Shared → Prop}
    (h : Q₁ (.ref s.heap.objs.size) { s with heap := s.heap.push (baObj #[]) }) :
    codeAny (model prog w) A (.call (.builtin "bytearray.__new__") ⟨[.type "bytearray", a], []⟩) (wants Q₁ E) s := by
  refine codeAny_of_tree ?_
  show wpAny _ A.in1 (do checkBuiltinCall "bytearray.__new__" ⟨[.type "bytearray", a], []⟩; again (.builtin "bytearray.__new__" ⟨[.type "bytearray", a], []⟩)) _ _ s
  refine wpAny_bind (wpAny_of_eq (ba_newCall a) (wpAny_pure ⟨plainId_quiet ba_plain_new _, codeAny_builtin_stack ba_entry_new rfl fun p st => ?_⟩))
  rw [Around.under_plainId ba_plain_new _]
  have hsub := ba_sub
  have hown := owner_ba_new
  obtain ⟨hp, g, d, tk, os⟩ := s
  simp only [hown]
  wp_walk
  exact h
theorem own_rel {M : Model} {v : Value} {Q : Bool → Shared → Prop} (hT : s.TypeIs v "bytearray") (h : Q false s) : wpAny M A (Builtin.Bytes.ownRelease v) Q E s := by
  unfold Builtin.Bytes.ownRelease Builtin.Bytes.slotIsOwn
  refine wpAny_bind (wpAny_bind (wpAny_specialOf hT ba_rel ?_))
  dsimp only
  refine bm_if_false (by decide +kernel) ?_
  rw [show "bytearray.__release_buffer__".dropRight ("__release_buffer__".length + 1) = "bytearray" from by decide +kernel]
  refine wpAny_isInstance (b := true) (U := "bytearray") hT ba_sub ?_
  exact wpAny_pure h
theorem own_rel_bytes {M : Model} {v : Value} {Q : Bool → Shared → Prop} (hT : s.TypeIs v "bytes") (h : Q false s) : wpAny M A (Builtin.Bytes.ownRelease v) Q E s := by
  unfold Builtin.Bytes.ownRelease Builtin.Bytes.slotIsOwn
  refine wpAny_bind (wpAny_bind (wpAny_specialOf hT by_rel ?_))
  exact wpAny_pure (wpAny_pure h)
theorem slot_own_ba {M : Model} {v : Value} {Q : Bool → Shared → Prop} (hT : s.TypeIs v "bytearray") (h : Q true s) : wpAny M A (Builtin.Bytes.slotIsOwn v "__buffer__") Q E s := by
  unfold Builtin.Bytes.slotIsOwn
  refine wpAny_bind (wpAny_specialOf hT ba_buffer ?_)
  dsimp only
  refine bm_if_false (by decide +kernel) ?_
  rw [show "bytearray.__buffer__".dropRight ("__buffer__".length + 1) = "bytearray" from by decide +kernel]
  exact wpAny_isInstance (b := true) (U := "bytearray") hT ba_sub h
theorem slot_own_by {M : Model} {v : Value} {Q : Bool → Shared → Prop} (hT : s.TypeIs v "bytes") (h : Q true s) : wpAny M A (Builtin.Bytes.slotIsOwn v "__buffer__") Q E s := by
  unfold Builtin.Bytes.slotIsOwn
  refine wpAny_bind (wpAny_specialOf hT by_buffer ?_)
  dsimp only
  refine bm_if_false (by decide +kernel) ?_
  rw [show "bytes.__buffer__".dropRight ("__buffer__".length + 1) = "bytes" from by decide +kernel]
  exact wpAny_isInstance (b := true) (U := "bytes") hT by_sub h
theorem payload_ba {M : Model} {S : Addr} {b : Array UInt8} {Q : Array UInt8 → Shared → Prop} (ho : s.heap.get? S = some (baObj b)) (h : Q b s) : wpAny M A (Builtin.Bytes.payload (.ref S)) Q E s := by
  unfold Builtin.Bytes.payload Builtin.Bytes.payload?
  exact wpAny_bind (wpAny_bind (wpAny_load ho (wpAny_pure (wpAny_pure h))))
/-- the memory of a bytearray, of bytes -/
theorem buffer_ba {M : Model} {id : String} {S : Addr} {b : Array UInt8} {full : Bool} {Q : Option (Array UInt8) → Shared → Prop} (ho : s.heap.get? S = some (baObj b)) (h : Q (some b) s) : wpAny M A (Builtin.Bytes.buffer? id (.ref S) full) Q E s := by
  have hT : s.TypeIs (.ref S) "bytearray" := ⟨_, ho, rfl⟩
  unfold Builtin.Bytes.buffer?
  refine wpAny_bind (wpAny_specialOf hT ba_buffer ?_)
  dsimp only
  refine wpAny_bind (slot_own_ba hT ?_)
  refine bm_if_false rfl ?_
  refine wpAny_bind (wpAny_specialOf hT ba_buffer ?_)
  refine wpAny_bind (own_rel hT ?_)
  refine bm_if_false rfl ?_
  exact wpAny_bind (payload_ba ho (wpAny_pure h))
theorem buffer_by {M : Model} {id : String} {t : Tok} {b : Array UInt8} {full : Bool} {Q : Option (Array UInt8) → Shared → Prop} (h : Q (some b) s) : wpAny M A (Builtin.Bytes.buffer? id (.bytes b t) full) Q E s := by
  have hT : s.TypeIs (.bytes b t) "bytes" := PySem.W.typeIs_bytes _ _ _
  unfold Builtin.Bytes.buffer?
  refine wpAny_bind (wpAny_specialOf hT by_buffer ?_)
  dsimp only
  refine wpAny_bind (slot_own_by hT ?_)
  refine bm_if_false rfl ?_
  refine wpAny_bind (wpAny_specialOf hT by_buffer ?_)
  refine wpAny_bind (own_rel_bytes hT ?_)
  refine bm_if_false rfl ?_
  unfold Builtin.Bytes.payload Builtin.Bytes.payload?
  exact wpAny_bind (wpAny_bind (wpAny_pure (wpAny_pure (wpAny_pure h))))
theorem ba_write {M : Model} {S : Addr} {b : Array UInt8} {f : Array UInt8 → Array UInt8} {Q : Unit → Shared → Prop} (ho : s.heap.get? S = some (baObj b)) (hz : (f b).size ≤ sizeLine) (h : Q () { s with heap := s.heap.update S (Obj.mapBytearray f) }) :
    wpAny M A (Builtin.Bytes.write (.ref S) f) Q E s := by
  show wpAny _ _ (updateBytearray S f) _ _ _
  unfold updateBytearray
  refine wpAny_bind (wpAny_load ho ?_)
  show wpAny _ _ (update S (Obj.mapBytearray f) >>= fun _ => lookBehind S) _ _ _
  refine wpAny_bind (wpAny_update ho ?_)
  have h2 : (s.heap.update S (Obj.mapBytearray f)).get? S = some (baObj (f b)) := Heap.get?_update_self (Obj.mapBytearray f) ho rfl
  exact wpAny_lookBehind h2 (by show (if (f b).size > sizeLine then some "bytearray:memory" else none) = none; rw [if_neg (by omega)]) h
theorem exports_ba {M : Model} {S : Addr} {b : Array UInt8} {Q : Nat → Shared → Prop} (ho : s.heap.get? S = some (baObj b)) (h : Q 0 s) : wpAny M A (Builtin.Bytes.exportsOf (.ref S)) Q E s := by
  unfold Builtin.Bytes.exportsOf
  exact wpAny_bind (wpAny_load ho (wpAny_pure h))
theorem free_ba {M : Model} {S : Addr} {b : Array UInt8} {Q : Bool → Shared → Prop} (ho : s.heap.get? S = some (baObj b)) (h : Q false s) : wpC M A (Builtin.Bytes.exported (.ref S) <||> (do return (← Builtin.Bytes.exportsOf (.ref S)) > 0)) Q E s := by
  unfold orM
  refine wpC_bind (wpC_exported ?_)
  exact wpC_of (wpAny_bind (exports_ba ho (wpAny_pure h)))
/-- bytearray(source): what the source is -/
inductive BaSrc (h : Heap) : Value → Array UInt8 → Prop
  | bytes (b : Array UInt8) (t : Tok) : BaSrc h (.bytes b t) b
  | list (l : Addr) (vs : List Value) (ns : List Int) : h.IsList l vs.toArray → IntsAre vs ns → (∀ n ∈ ns, 0 ≤ n ∧ n < 256) → BaSrc h (.ref l) (byteArr ns)
theorem good_take {p : Value → Bool} (hp : ∀ n t, 0 ≤ n → n < 256 → p (.int n t) = true) : ∀ {vs : List Value} {ns : List Int}, IntsAre vs ns → (∀ n ∈ ns, 0 ≤ n ∧ n < 256) → vs.takeWhile p = vs
  | _, _, .nil, _ => rfl
  | _, _, .cons n t r, h => by
    rw [List.takeWhile_cons, if_pos (hp n t (h n (.head _)).1 (h n (.head _)).2), good_take hp r fun x hx => h x (.tail _ hx)]
theorem good_map {f : Value → Option UInt8} (hf : ∀ n t, f (.int n t) = some n.toNat.toUInt8) : ∀ {vs : List Value} {ns : List Int}, IntsAre vs ns → vs.filterMap f = ns.map fun n => n.toNat.toUInt8
  | _, _, .nil => rfl
  | _, _, .cons n t r => by rw [List.filterMap_cons, hf, good_map hf r]; rfl
theorem ba_init {S : Addr} {src : Value} {bs : Array UInt8} {Q : Fin → Shared → Prop} (ho : s.heap.get? S = some (baObj #[])) (hS : BaSrc s.heap src bs) (hne : src ≠ .ref S) (hz : bs.size ≤ sizeLine)
    (h : ∀ h', (∀ b o, b ≠ S → s.heap.get? b = some o → h'.get? b = some o) → h'.get? S = some (baObj bs) → Q (.done (.ret .none)) { s with heap := h' }) :
    wpC (model prog w) A (Builtin.«bytearray.__init__» ⟨[.ref S, src], []⟩) Q E s := by
  have hT : s.TypeIs (.ref S) "bytearray" := ⟨_, ho, rfl⟩
  unfold Builtin.«bytearray.__init__»
  dsimp only
  refine wpC_pre (own_rel hT ?_)
  refine wpC_ifn (by simp) ?_
  refine eqC (ba_bind _) ?_
  dsimp only
  refine eqC (r := ()) rfl ?_
  refine eqC (r := ()) rfl ?_
  refine wpC_bind (free_ba ho ?_)
  refine wpC_ifn (by simp) ?_
  refine wpC_of ?_
  refine wpAny_bind (ba_write ho (Nat.zero_le _) ?_)
  have ho₁ : (s.heap.update S (Obj.mapBytearray fun _ => #[])).get? S = some (baObj #[]) := Heap.get?_update_self (Obj.mapBytearray fun _ => #[]) ho rfl
  have oth₁ : ∀ b o, b ≠ S → s.heap.get? b = some o → (s.heap.update S (Obj.mapBytearray fun _ => #[])).get? b = some o := fun b o n e => (Heap.get?_update_other _ _ (Ne.symm n)).trans e
  generalize s.heap.update S (Obj.mapBytearray fun _ => #[]) = H at ho₁ oth₁
  have fin : ∀ (f : Array UInt8 → Array UInt8), f #[] = bs → wpAny (model prog w) A (Builtin.Bytes.write (.ref S) f >>= fun _ => ret .none) Q E { s with heap := H } := fun f e => by
    refine wpAny_bind (ba_write ho₁ (by rw [e]; exact hz) (wpAny_pure (h _ (fun b o n q => (Heap.get?_update_other _ _ (Ne.symm n)).trans (oth₁ b o n q)) ?_)))
    rw [← e]; exact Heap.get?_update_self (Obj.mapBytearray f) ho₁ rfl
  cases hS with
  | bytes b t =>
    refine wpAny_bind (wpAny_of_eq (a := none) rfl ?_)
    refine bm_if_false rfl ?_
    refine wpAny_bind (wpAny_pure ?_)
    refine wpAny_bind (wpAny_specialOf (PySem.W.typeIs_bytes _ _ _) by_index ?_)
    refine bm_if_false rfl ?_
    refine wpAny_bind (buffer_by ?_)
    dsimp only
    refine wpAny_bind (wpAny_rule ?_)
    exact fin _ rfl
  | list l vs ns hl hi hr =>
    have hl' : H.IsList l vs.toArray := by
      obtain ⟨o, e, r⟩ := hl
      exact ⟨o, oth₁ l o (fun q => hne (by rw [q])) e, r⟩
    have hTl : ({ s with heap := H } : Shared).TypeIs (.ref l) "list" := Heap.IsList.typeIs (s := { s with heap := H }) hl'
    obtain ⟨ol, hol, hoc, nl, hod⟩ := id hl'
    refine wpAny_bind (wpAny_bind (wpAny_load hol ?_))
    rw [hod]
    refine wpAny_pure ?_
    refine bm_if_false rfl ?_
    refine wpAny_bind (wpAny_pure ?_)
    refine wpAny_bind (wpAny_specialOf hTl PySem.F.bm_no_index ?_)
    refine bm_if_false rfl ?_
    refine wpAny_bind ?_
    unfold Builtin.Bytes.buffer?
    refine wpAny_bind (wpAny_specialOf hTl PySem.F.bm_no_buffer ?_)
    refine wpAny_bind (wpAny_specialOf hTl PySem.F.bm_no_buffer ?_)
    refine wpAny_pure ?_
    refine wpAny_bind (wpAny_typeOf hTl ?_)
    refine bm_if_true (by decide) ?_
    refine wpAny_bind (wpAny_seqItems hol hod ?_)
    dsimp only
    rw [good_take (fun n t h0 h1 => by simp [h0, h1]) hi hr, good_map (fun _ _ => rfl) hi]
    have e : vs.toArray[vs.length]? = none := by simp
    rw [e]
    dsimp only
    refine wpAny_bind (wpAny_rule ?_)
    exact fin _ rfl
end

theorem ba_slot_iadd : Slot "bytearray" "__iadd__" "bytearray.__iadd__" :=
  .of (owner := "bytearray") (n := "__iadd__") (by rw [typeLookup_type, builtinLookup_eq_fast]; kernel_rfl) (by decide +kernel) (by decide +kernel) (by decide +kernel)
    (by first | exact .inl (by decide +kernel) | exact .inr (by decide +kernel)) (by rw [isSubtype_type]; kernel_rfl)
theorem ba_entry_iadd : entryFor table "bytearray.__iadd__" = some Builtin.«bytearray.__iadd__» := entryFor_of_tree (by kernel_rfl)
theorem ba_args_iadd (a b : Value) : argsOk "bytearray.__iadd__" ⟨[a, b], []⟩ := by unfold argsOk; kernel_rfl
theorem ba_slot_len : Slot "bytearray" "__len__" "bytearray.__len__" :=
  .of (owner := "bytearray") (n := "__len__") (by rw [typeLookup_type, builtinLookup_eq_fast]; kernel_rfl) (by decide +kernel) (by decide +kernel) (by decide +kernel)
    (by first | exact .inl (by decide +kernel) | exact .inr (by decide +kernel)) (by rw [isSubtype_type]; kernel_rfl)
theorem ba_entry_len : entryFor table "bytearray.__len__" = some Builtin.«bytearray.__len__» := entryFor_of_tree (by kernel_rfl)
theorem ba_slot_item : Slot "bytearray" "__getitem__" "bytearray.__getitem__" :=
  .of (owner := "bytearray") (n := "__getitem__") (by rw [typeLookup_type, builtinLookup_eq_fast]; kernel_rfl) (by decide +kernel) (by decide +kernel) (by decide +kernel)
    (by first | exact .inl (by decide +kernel) | exact .inr (by decide +kernel)) (by rw [isSubtype_type]; kernel_rfl)
theorem ba_entry_item : entryFor table "bytearray.__getitem__" = some Builtin.«bytearray.__getitem__» := entryFor_of_tree (by kernel_rfl)
theorem ba_args_item (a b : Value) : argsOk "bytearray.__getitem__" ⟨[a, b], []⟩ := by unfold argsOk; kernel_rfl
theorem ba_fills : fillsInplaceSlot (.type "bytearray") "add" (Operator.Add == .Add) = pure false := by
  unfold fillsInplaceSlot
  show (typeLookup (.type "bytearray") (dunderI "add") >>= fun fi => pure (fi.isSome && !isSeqSlot fi)) = pure false
  rw [show typeLookup (.type "bytearray") (dunderI "add") = pure (some (.builtin "bytearray.__iadd__")) from by rw [typeLookup_type, builtinLookup_eq_fast]; kernel_rfl]
  kernel_rfl
theorem ba_num : fillsNumberSlot (.type "bytearray") "add" = pure false := PySem.fillsNumberSlot_seq (id := "bytearray.__add__") (r := none) (by rw [typeLookup_type, builtinLookup_eq_fast]; kernel_rfl) (by kernel_rfl) (by rw [typeLookup_type, builtinLookup_eq_fast]; kernel_rfl) (by kernel_rfl)
theorem by_num : fillsNumberSlot (.type "bytes") "add" = pure false := PySem.fillsNumberSlot_seq (id := "bytes.__add__") (r := none) (by rw [typeLookup_type, builtinLookup_eq_fast]; kernel_rfl) (by kernel_rfl) (by rw [typeLookup_type, builtinLookup_eq_fast]; kernel_rfl) (by kernel_rfl)
theorem ba_seq : seqSlot? (.type "bytearray") (dunderI "add") = pure (some (.builtin "bytearray.__iadd__")) := PySem.seqSlot_of (by rw [typeLookup_type, builtinLookup_eq_fast]; kernel_rfl) (by kernel_rfl)
section
variable {prog : Program} {w : World} {A : Around} {E : Value → Shared → Prop} {s : Shared}
theorem BaSrc.keeps {h h' : Heap} {v : Value} {b : Array UInt8} (x : BaSrc h v b) (k : ∀ a o, h.get? a = some o → h'.get? a = some o) : BaSrc h' v b := by
  cases x with
  | bytes b t => exact .bytes b t
  | list l vs ns hl hi hr => exact .list l vs ns (by obtain ⟨o, e, r⟩ := hl; exact ⟨o, k _ _ e, r⟩) hi hr
theorem take_by {M : Model} {id : String} {b : Array UInt8} {t : Tok} {Q : Option (Array UInt8 × Option Value) → Shared → Prop} (h : Q (some (b, none)) s) : wpAny M A (Builtin.Bytes.takeBufferQuiet? id (.bytes b t) 0) Q E s := by
  have hT : s.TypeIs (.bytes b t) "bytes" := PySem.W.typeIs_bytes _ _ _
  unfold Builtin.Bytes.takeBufferQuiet? Builtin.Bytes.takeBuffer?
  refine wpAny_bind (wpAny_attempt ?_)
  refine wpAny_bind (wpAny_specialOf hT by_buffer ?_)
  dsimp only
  refine wpAny_bind (slot_own_by hT ?_)
  refine bm_if_false rfl ?_
  refine wpAny_bind (wpAny_specialOf hT by_buffer ?_)
  refine wpAny_bind (buffer_by (wpAny_pure ?_))
  exact wpAny_pure h
theorem ba_iadd {S : Addr} {b m : Array UInt8} {t : Tok} {Q : Value → Shared → Prop} (ho : s.heap.get? S = some (baObj b)) (hz : b.size + m.size ≤ sizeLine)
    (h : ∀ h', (∀ a o, a ≠ S → s.heap.get? a = some o → h'.get? a = some o) → h'.get? S = some (baObj (b ++ m)) → Q (.ref S) { s with heap := h' }) :
    wpC (model prog w) A (inplaceOp .Add (.ref S) (.bytes m t)) Q E s := by
  have hT : s.TypeIs (.ref S) "bytearray" := ⟨_, ho, rfl⟩
  have hT' : s.TypeIs (.bytes m t) "bytes" := PySem.W.typeIs_bytes _ _ _
  unfold inplaceOp
  refine wpC_holding ?_
  refine typeC hT ?_
  refine eqC ba_fills ?_
  refine wpC_ifn (by simp) ?_
  refine wpC_pre ?_
  unfold binaryOp1
  refine wpAny_bind (wpAny_typeOf hT (wpAny_bind (wpAny_typeOf hT' (wpAny_bind (wpAny_of_eq ba_num ?_)))))
  refine bm_if_false (by decide +kernel) ?_
  refine wpAny_bind (wpAny_of_eq by_num ?_)
  simp only [pure_bind, Bool.false_and, Bool.false_eq_true, if_false]
  refine wpAny_pure ?_
  refine eqC ba_seq ?_
  dsimp only
  refine wpC_pre (wpAny_rule ?_)
  refine wpC_call (codeC_call_at (bears_of (by decide +kernel)) (plainId_quiet ba_slot_iadd.plain _) ba_entry_iadd (ba_slot_iadd.check _ _ _ _ _ _ _ _ hT (ba_args_iadd _ _) ?_))
  unfold Builtin.«bytearray.__iadd__»
  refine eqC (r := (Value.ref S, [Value.bytes m t])) rfl ?_
  dsimp only
  refine wpC_pre (take_by ?_)
  dsimp only [Builtin.Bytes.thenGiveBack]
  have fin : wpC (model prog w) (A.under (.builtin "bytearray.__iadd__" ⟨[.ref S, .bytes m t], []⟩)) (do
      if Builtin.Bytes.tooLong ((← Builtin.Bytes.payload (.ref S)).size + m.size) then unsupported "bytearray.__iadd__:memory"
      Builtin.Bytes.write (.ref S) (· ++ m)
      ret (.ref S) : Sem Fin) (fun fin s' => match fin with | .done f => (match (Except.ok f : Result) with | .ok (.ret v) => Q v s' | .ok _ => False | .error e => E e s') | .again c' => c'.quiet = true ∧ codeC (model prog w) A c' (fun r s' => match r with | .ok (.ret v) => Q v s' | .ok _ => False | .error e => E e s') s') (fun e s' => E e s') s := by
    refine wpC_of (wpAny_bind (payload_ba ho ?_))
    refine bm_if_false (by simp [Builtin.Bytes.tooLong]; exact hz) ?_
    refine wpAny_bind (ba_write ho (by rw [Array.size_append]; exact hz) (wpAny_pure ?_))
    exact h _ (fun a o n e => (Heap.get?_update_other _ _ (Ne.symm n)).trans e) (Heap.get?_update_self (Obj.mapBytearray (· ++ m)) ho rfl)
  by_cases hm : m.isEmpty
  · refine wpC_ifn (by simp [hm]) ?_
    first | exact fin | exact wpC_pre (wpAny_pure fin)
  · refine wpC_if (by simp [hm]) ?_
    refine wpC_ifn (by simp [Builtin.Bytes.sameRef]) ?_
    first
      | (refine wpC_bind ?_; unfold Builtin.Bytes.checkResize; refine wpC_bind (free_ba ho ?_); refine wpC_ifn (by simp) ?_; exact wpC_pure fin)
      | (refine wpC_pre (wpAny_pure ?_); refine wpC_bind ?_; unfold Builtin.Bytes.checkResize; refine wpC_bind (free_ba ho ?_); refine wpC_ifn (by simp) ?_; exact wpC_pure fin)
end
section
variable {prog : Program} {w : World} {A : Around} {E : Value → Shared → Prop} {C : Cx} {s : Shared} {loc : List (Str × Value)} {news news' : List (Addr × Obj)}
/-- bytearray(source) -/
theorem r_bytearray {src : Value} {bs : Array UInt8} {Q : Value → Shared → Prop} (D : St C loc news s) (hS : BaSrc s.heap src bs) (hz : bs.size ≤ 16777216) (h : ∀ S s', C.s₀.heap.objs.size ≤ S → St C loc ((S, baObj bs) :: news) s' → Q (.ref S) s') :
    wpC (model prog w) A (call (.type "bytearray") [src]) Q E s := by
  refine callTypeC (Q₁ := fun obj s₁ => obj = .ref s.heap.objs.size ∧ s₁ = { s with heap := s.heap.push (baObj #[]) }) ba_called (ba_typeCall _) ba_entry_init (fun _ => bears_of (by decide +kernel)) (code_ba_new src ⟨rfl, rfl⟩) fun obj s₁ h₁ => ?_
  obtain ⟨rfl, rfl⟩ := h₁
  have D₁ := D.push (baObj #[])
  refine ⟨⟨_, D₁.get (.head _), rfl⟩, ba_args_init _ _, ba_init (D₁.get (.head _)) (hS.keeps fun a o e => Heap.get?_push_of_some _ e) ?_ (by rw [sizeLine_eq]; exact hz) fun h' k ho' => ⟨rfl, h _ _ (Nat.le_of_lt (Nat.lt_of_le_of_lt D.fresh.1 D.fresh.2)) (D₁.change rfl k ho' ⟨rfl, rfl, rfl⟩)⟩⟩
  cases hS with
  | bytes b t => exact fun e => nomatch e
  | list l vs ns hl hi hr =>
    obtain ⟨o, e, _⟩ := hl
    intro q
    cases q
    exact absurd (Heap.lt_size e) (Nat.lt_irrefl _)
theorem r_baadd {S : Addr} {b m : Array UInt8} {t : Tok} {Q : Value → Shared → Prop} (D : St C loc news s) (U : Alt S (baObj b) (baObj (b ++ m)) news news') (hz : b.size + m.size ≤ 16777216) (h : ∀ s', St C loc news' s' → Q (.ref S) s') :
    wpC (model prog w) A (inplaceOp .Add (.ref S) (.bytes m t)) Q E s :=
  ba_iadd (D.get U.mem) (by rw [sizeLine_eq]; exact hz) fun h' k ho' => h _ (D.alt U k ho' ⟨rfl, rfl, rfl⟩)
end

/-- bytes of numbers -/
def BA (l : List Nat) : Array UInt8 := (l.map Nat.toUInt8).toArray
theorem BA_size (l : List Nat) : (BA l).size = l.length := by simp [BA]
theorem BA_app (a b : List Nat) : BA a ++ BA b = BA (a ++ b) := by simp [BA]
theorem BA_list (l : List Nat) : (BA l).toList = l.map Nat.toUInt8 := by simp [BA]
theorem byteArr_nat (l : List Nat) : byteArr (l.map fun n : Nat => (n : Int)) = BA l := by
  simp only [byteArr, BA, List.map_map]
  congr 1
theorem byte_nat {n : Nat} (h : n < 256) : n.toUInt8.toNat = n := by
  show (UInt8.ofNat n).toNat = n
  rw [UInt8.toNat_ofNat', Nat.mod_eq_of_lt h]
theorem BA_map : ∀ {l : List Nat}, (∀ n ∈ l, n < 256) → (l.map Nat.toUInt8).map (·.toNat) = l
  | [], _ => rfl
  | n :: l, h => by rw [List.map_cons, List.map_cons, byte_nat (h n (.head _)), BA_map fun x hx => h x (.tail _ hx)]
theorem BA_inj {a b : List Nat} (ha : ∀ n ∈ a, n < 256) (hb : ∀ n ∈ b, n < 256) (h : BA a = BA b) : a = b := by
  have h := congrArg Array.toList h
  rw [BA_list, BA_list] at h
  have := congrArg (List.map (·.toNat)) h
  rwa [BA_map ha, BA_map hb] at this
theorem nats_ints : ∀ {vs : List Value} {ns : List Nat}, Nats vs ns → IntsAre vs (ns.map fun n : Nat => (n : Int))
  | _, _, .nil => .nil
  | _, _, .cons ⟨t, e⟩ r => by subst e; exact .cons _ t (nats_ints r)
theorem order_eq : ∀ a b : List UInt8, (Builtin.Bytes.order a b == .eq) = decide (a = b)
  | [], [] => rfl
  | [], _ :: _ => by simp [Builtin.Bytes.order]
  | _ :: _, [] => by simp [Builtin.Bytes.order]
  | x :: xs, y :: ys => by
    unfold Builtin.Bytes.order
    by_cases h1 : x < y
    · rw [if_pos h1]
      have : x ≠ y := fun e => by subst e; exact absurd h1 (UInt8.lt_irrefl _)
      simp [this]
    · rw [if_neg h1]
      by_cases h2 : x > y
      · rw [if_pos h2]
        have : x ≠ y := fun e => by subst e; exact absurd h2 (UInt8.lt_irrefl _)
        simp [this]
      · rw [if_neg h2, order_eq xs ys]
        have : x = y := UInt8.le_antisymm (UInt8.not_lt.mp h2) (UInt8.not_lt.mp h1)
        simp [this]
theorem by_slot_eq : Slot "bytes" "__eq__" "bytes.__eq__" :=
  .of (owner := "bytes") (n := "__eq__") (by rw [typeLookup_type, builtinLookup_eq_fast]; kernel_rfl) (by decide +kernel) (by decide +kernel) (by decide +kernel)
    (by first | exact .inl (by decide +kernel) | exact .inr (by decide +kernel)) (by rw [isSubtype_type]; kernel_rfl)
theorem by_entry_eq : entryFor table "bytes.__eq__" = some Builtin.«bytes.__eq__» := entryFor_of_tree (by kernel_rfl)
theorem by_args_eq (a b : Value) : argsOk "bytes.__eq__" ⟨[a, b], []⟩ := by unfold argsOk; kernel_rfl
theorem ba_args_len (a : Value) : argsOk "bytearray.__len__" ⟨[a], []⟩ := by unfold argsOk; kernel_rfl
theorem by_eq_gives (x y : Array UInt8) (t u : Tok) : Gives (Builtin.«bytes.__eq__» ⟨[.bytes x t, .bytes y u], []⟩) (.val (.bool (decide (x.toList = y.toList)))) := by
  intro prog w A R s h
  show wpAny _ _ (do
    if !(← isInstance (.bytes y u) (.type "bytes")) then rule "bytes.__eq__.declined"; return ← ret .notImplemented
    ret (.bool (Builtin.Bytes.holds "__eq__" (Builtin.Bytes.order (← Builtin.Bytes.payload (.bytes x t)).toList (← Builtin.Bytes.payload (.bytes y u)).toList))) : Sem Fin) _ _ s
  refine wpAny_bind (wpAny_isInstance (PySem.W.typeIs_bytes _ _ _) by_sub ?_)
  refine bm_if_false rfl ?_
  refine wpAny_bind (wpAny_of_eq (a := x) rfl ?_)
  refine wpAny_bind (wpAny_of_eq (a := y) rfl ?_)
  refine wpAny_pure ?_
  rw [show Builtin.Bytes.holds "__eq__" (Builtin.Bytes.order x.toList y.toList) = (Builtin.Bytes.order x.toList y.toList == .eq) from rfl, order_eq]
  exact h
section
variable {prog : Program} {w : World} {A : Around} {E : Value → Shared → Prop} {C : Cx} {s : Shared} {loc : List (Str × Value)} {news news' : List (Addr × Obj)}
theorem r_eqbytes {a b : List Nat} {t u : Tok} {Q : Value → Shared → Prop} (ha : ∀ n ∈ a, n < 256) (hb : ∀ n ∈ b, n < 256) (h : Q (.bool (decide (a = b))) s) : wpAny (model prog w) A (compareOp .Eq (.bytes (BA a) t) (.bytes (BA b) u)) Q E s := by
  refine compareOp_gives (op := .Eq) (PySem.W.typeIs_bytes _ _ _) (PySem.W.typeIs_bytes _ _ _) by_slot_eq by_entry_eq (by_args_eq _ _) (by_eq_gives _ _ _ _) (fun e => nomatch e) ?_
  rw [show decide ((BA a).toList = (BA b).toList) = decide (a = b) from by
    by_cases e : a = b
    · subst e; simp
    · rw [decide_eq_false e, decide_eq_false]
      intro q
      exact e (BA_inj ha hb (Array.toList_inj.mp q))]
  exact h
theorem r_balen {S : Addr} {l : List Nat} {Q : Value → Shared → Prop} (D : St C loc news s) (hm : (S, baObj (BA l)) ∈ news) (hz : l.length ≤ 16777216) (h : ∀ s' t, St C loc news s' → Q (.int (l.length : Nat) t) s') :
    wpAny (model prog w) A (call (.builtin "len") [.ref S]) Q E s := by
  have ho := D.get hm
  have hT : s.TypeIs (.ref S) "bytearray" := ⟨_, ho, rfl⟩
  refine Calls.call_function_entry kind_len plain_len entry_len (args_len1 _) ?_
  unfold Builtin.«len»
  refine wpAny_bind (m := oneArg "len" _) (wpAny_pure ?_)
  refine wpAny_bind (m := callSpecial? (.ref S) (Str.ofString "__len__")) (wpAny_callSpecial?_slot (name := Str.ofString "__len__") hT ba_slot_len
    (wpAny_call_entry ba_slot_len hT ba_entry_len ?_ (ba_args_len _)))
  show wpAny _ _ (Builtin.Bytes.payload (.ref S) >>= fun b => retInt b.size) _ _ s
  refine wpAny_bind (payload_ba ho ?_)
  rw [BA_size]
  refine wpAny_bind (wpAny_mkInt (wpAny_pure ⟨_, rfl, ?_⟩))
  refine wpAny_bind (wpAny_holding (wpAny_pure ?_))
  refine wpAny_bind (wpAny_letGo ?_)
  show wpAny _ _ (if ((l.length : Nat) : Int) < 0 then _ else _) _ _ _
  rw [if_neg (by omega)]
  show wpAny _ _ (if ((l.length : Nat) : Int) ≥ 2 ^ 63 then _ else _) _ _ _
  rw [if_neg (by omega)]
  exact wpAny_bind (wpAny_mkInt (wpAny_pure ⟨_, rfl, h _ _ D.toks.toks⟩))
theorem r_bytes_list {l : Addr} {vs : List Value} {ns : List Nat} {Q : Value → Shared → Prop} (D : St C loc news s) (hh : A.handled = none) (hl : s.heap.IsList l vs.toArray) (hn : Nats vs ns) (hr : ∀ n ∈ ns, n < 256) (hz : vs.length ≤ 16777216)
    (h : ∀ s' t, St C loc news s' → Q (.bytes (BA ns) t) s') : wpAny (model prog w) A (call (.type "bytes") [.ref l]) Q E s := by
  refine call_bytes_ints hl (nats_ints hn) (fun n hm => ?_) (by rw [sizeLine_eq]; exact hz) hh fun h' t k keep => ?_
  · obtain ⟨m, hm', rfl⟩ := List.mem_map.mp hm
    have := hr m hm'
    omega
  · rw [byteArr_nat]
    exact h _ _ (D.pureCall (Rel.of_keeps keep) ⟨rfl, rfl, rfl⟩)
theorem code_bytes_ba {S : Addr} {b : Array UInt8} {Q₁ : Value → Shared → Prop} (ho : s.heap.get? S = some (baObj b)) (hz : b.size ≤ sizeLine) (h : ∀ t k, Q₁ (.bytes b t) { s with toks := k }) :
    codeAny (model prog w) A.in1 (.call (.builtin "bytes.__new__") ⟨[.type "bytes", .ref S], []⟩) (wants Q₁ E) s := by
  refine codeAny_of_tree ?_
  show wpAny _ A.in1.in1 (do checkBuiltinCall "bytes.__new__" ⟨[.type "bytes", .ref S], []⟩; again (.builtin "bytes.__new__" ⟨[.type "bytes", .ref S], []⟩)) _ _ s
  refine wpAny_bind (wpAny_of_eq (PySem.F.bm_newCall _) (wpAny_pure ⟨plainId_quiet PySem.F.bm_plain _, codeAny_builtin PySem.F.bm_entry ?_⟩))
  rw [Around.under_plainId PySem.F.bm_plain _]
  have hT : s.TypeIs (.ref S) "bytearray" := ⟨_, ho, rfl⟩
  unfold Builtin.«bytes.__new__»
  refine wpAny_bind (wpAny_of_eq (a := true) rfl ?_)
  refine bm_if_false rfl ?_
  refine wpAny_bind (wpAny_of_eq PySem.F.bm_sub ?_)
  refine bm_if_false rfl ?_
  refine wpAny_bind (wpAny_of_eq (PySem.F.bm_bind _) ?_)
  refine wpAny_bind (wpAny_of_eq (a := ()) rfl ?_)
  refine wpAny_bind (wpAny_of_eq (a := ()) rfl ?_)
  refine bm_if_false rfl ?_
  refine wpAny_bind (wpAny_specialOf hT ba_bytes ?_)
  refine wpAny_bind (wpAny_bind ?_)
  show wpAny _ _ (load S >>= _) _ _ _
  refine wpAny_bind (wpAny_load ho ?_)
  refine wpAny_pure (wpAny_pure ?_)
  refine bm_if_false rfl ?_
  refine wpAny_bind (wpAny_specialOf hT ba_index ?_)
  refine bm_if_true rfl ?_
  refine wpAny_bind (m := Builtin.Bytes.buffer? "bytes.__new__" (.ref S) true) (buffer_ba ho ?_)
  dsimp only
  refine wpAny_bind (wpAny_rule ?_)
  refine wpAny_bind (wpAny_mkBytes ?_ hz)
  exact wpAny_pure (h _ _)
theorem r_bytes_ba {S : Addr} {l : List Nat} {Q : Value → Shared → Prop} (D : St C loc news s) (hm : (S, baObj (BA l)) ∈ news) (hz : l.length ≤ 16777216) (h : ∀ s' t, St C loc news s' → Q (.bytes (BA l) t) s') :
    wpAny (model prog w) A (call (.type "bytes") [.ref S]) Q E s := by
  refine callType_codes (Q₁ := fun obj s₁ => s₁.TypeIs obj "bytes" ∧ Q obj s₁) PySem.F.bm_called (PySem.F.bm_typeCall _) PySem.F.entry_object_init
    (code_bytes_ba (D.get hm) (by rw [BA_size, sizeLine_eq]; exact hz) fun t k => ⟨PySem.W.typeIs_bytes _ _ _, h _ _ D.toks⟩) fun obj s₁ h₁ => ?_
  exact ⟨h₁.1, PySem.F.args_object_init_2 obj _, object_init_meets PySem.F.bm_called.init.lookup PySem.F.bm_called.made (by decide) prog w A.in1 _ s₁ ⟨h₁.1, rfl, h₁.2⟩⟩
theorem r_baslice {value slice : Expr} {S a : Addr} {l : List Nat} {x y : Nat} {t1 t2 : Tok} {Q : Value → Shared → Prop} (D : St C loc news s) (hm : (S, baObj (BA l)) ∈ news) (hs' : (a, sliceOf (.int x t1) (.int y t2)) ∈ news) (hz : l.length ≤ 16777216)
    (h : ∀ T' s', St C loc ((T', baObj (BA ((l.drop x).take (y - x)))) :: news) s' → Q (.ref T') s')
    (hs : subscripted slice false (.ref S) (.ref a) = operate [.ref a, .ref S] (getItem (.ref S) (.ref a)) := by with_unfolding_all rfl)
    (ht : ∀ r, letTemporaryGo value (.ref S) r = pure () := by intro _; with_unfolding_all rfl) : wpAny (model prog w) A (subscriptTail value slice (.ref S) (.ref a)) Q E s := by
  have ho := D.get hm
  have hT : s.TypeIs (.ref S) "bytearray" := ⟨_, ho, rfl⟩
  have hos := D.get hs'
  have hTs : s.TypeIs (.ref a) "slice" := ⟨_, hos, rfl⟩
  refine subscriptTail_ops hT ba_slot_item.lookup ?_ hs ht
  unfold getItem
  try with_reducible refine wpAny_holding ?_
  first | refine wpAny_bind (wpAny_pure ?_) | skip
  refine wpAny_bind (wpAny_sequenceKey hT (by decide) ?_)
  refine wpAny_bind (wpAny_callSpecial?_slot (name := Str.ofString "__getitem__") hT ba_slot_item
    (wpAny_call_entry ba_slot_item hT ba_entry_item ?_ (ba_args_item _ _)))
  show wpAny _ _ (Builtin.Bytes.subscript? (.ref a) >>= _) _ _ s
  refine wpAny_bind ?_
  unfold Builtin.Bytes.subscript?
  refine wpAny_bind (wpAny_specialOf hTs slice_no_index (wpAny_pure ?_))
  refine wpAny_bind (wpAny_typeOf hTs ?_)
  refine bm_if_false (by decide) ?_
  show wpAny _ _ (Builtin.Bytes.sliceParts (.ref a) >>= _) _ _ s
  refine wpAny_bind ?_
  unfold Builtin.Bytes.sliceParts
  refine wpAny_bind (wpAny_field (x := .none) hos rfl rfl ?_)
  refine wpAny_bind (wpAny_of_eq (a := Value.none) rfl ?_)
  refine bm_if_false rfl ?_
  refine wpAny_bind (wpAny_field (x := .int x t1) hos rfl rfl ?_)
  refine wpAny_bind (wpAny_of_eq (a := rawInt x) rfl ?_)
  refine wpAny_bind (wpAny_field (x := .int y t2) hos rfl rfl ?_)
  refine wpAny_bind (wpAny_of_eq (a := rawInt y) rfl ?_)
  refine wpAny_pure ?_
  dsimp only
  refine wpAny_bind (payload_ba ho ?_)
  refine wpAny_bind (wpAny_of_eq (sliceIndices_raw (some (x : Int)) (some (y : Int)) none (BA l).size (by simp)) ?_)
  rw [sliceBounds_plain]
  dsimp only [Option.elim]
  unfold Builtin.Bytes.sliced
  rw [sliceRange_one, pick_run, BA_list, BA_size, clipAt_nat, clipAt_nat]
  have e : ((l.map Nat.toUInt8).drop (min x l.length)).take (min y l.length - min x l.length) = ((l.drop x).take (y - x)).map Nat.toUInt8 := by
    rw [← List.map_drop, ← List.map_take]
    congr 1
    rcases Nat.le_total x l.length with h1 | h1
    · rw [Nat.min_eq_left h1]
      rcases Nat.le_total y l.length with h2 | h2
      · rw [Nat.min_eq_left h2]
      · rw [Nat.min_eq_right h2, List.take_of_length_le (by rw [List.length_drop]; omega), List.take_of_length_le (by rw [List.length_drop]; omega)]
    · rw [Nat.min_eq_right h1, List.drop_of_length_le (Nat.le_refl _), List.drop_of_length_le h1]; simp
  rw [e]
  refine wpAny_bind ?_
  unfold Builtin.Bytes.newBytearray
  refine wpAny_newObj_type ?_ ?_
  · exact wpAny_pure ⟨_, rfl, wpAny_pure (h _ _ (D.push _))⟩
  · show (((l.drop x).take (y - x)).map Nat.toUInt8).toArray.size ≤ sizeLine
    rw [List.size_toArray, List.length_map, List.length_take, List.length_drop, sizeLine_eq]
    omega
end

open Builtin.Struct in
theorem fmt16 (t : Tok) : moduleFormat (.str (Str.ofString "!16B") t) = pure ⟨true, false, [⟨'B', 16, 0, 1⟩], 16, 16⟩ := by kernel_rfl
open Builtin.Struct in
theorem fmt4 (t : Tok) : moduleFormat (.str (Str.ofString "!BBBB") t) = pure ⟨true, false, [⟨'B', 1, 0, 1⟩, ⟨'B', 1, 1, 1⟩, ⟨'B', 1, 2, 1⟩, ⟨'B', 1, 3, 1⟩], 4, 4⟩ := by kernel_rfl
theorem st_entry_calc : entryFor table "_struct.calcsize" = some Builtin.«_struct.calcsize» := entryFor_of_tree (by kernel_rfl)
theorem st_entry_pack : entryFor table "_struct.pack" = some Builtin.«_struct.pack» := entryFor_of_tree (by kernel_rfl)
theorem st_entry_unpack : entryFor table "_struct.unpack" = some Builtin.«_struct.unpack» := entryFor_of_tree (by kernel_rfl)
section
variable {prog : Program} {w : World} {A : Around} {E : Value → Shared → Prop} {C : Cx} {s : Shared} {loc : List (Str × Value)} {news news' : List (Addr × Obj)}
theorem r_calc {x : Str} {f : Builtin.Struct.Format} {t : Tok} {Q : Value → Shared → Prop} (D : St C loc news s) (hf : Builtin.Struct.moduleFormat (.str x t) = pure f) (h : ∀ s' t, St C loc news s' → Q (.int (f.size : Nat) t) s') :
    wpAny (model prog w) A (call (.builtin "_struct.calcsize") [.str x t]) Q E s := by
  refine Calls.call_function_entry (by decide +kernel) (by decide +kernel) st_entry_calc (by first | rfl | kernel_rfl) ?_
  unfold Builtin.«_struct.calcsize»
  refine wpAny_bind (m := oneArg "_struct.calcsize" _) (wpAny_pure ?_)
  refine wpAny_bind (wpAny_of_eq hf ?_)
  exact wpAny_bind (wpAny_mkInt (wpAny_pure ⟨_, rfl, h _ _ D.toks⟩))
theorem forIn_ints {off : Nat} {f : Nat → Array UInt8 × List Value → Sem (ForInStep (Array UInt8 × List Value))}
    (hf : ∀ k st n t more, n < 256 → f k (st, .int (n : Nat) t :: more) = pure (.yield (st.setIfInBounds (off + k) n.toUInt8, more))) :
    ∀ {vs : List Value} {ns : List Nat} (rest : List Value) (a : Nat) (st : Array UInt8), Nats vs ns → (∀ n ∈ ns, n < 256) →
      forIn (List.range' a vs.length 1) (st, vs ++ rest) f = (pure ((ns.zipIdx a).foldl (fun st p => st.setIfInBounds (off + p.2) p.1.toUInt8) st, rest) : Sem _)
  | _, _, rest, a, st, .nil, _ => rfl
  | _, _, rest, a, st, .cons ⟨t, e⟩ r, h => by
    subst e
    rw [List.length_cons, List.range'_succ, List.forIn_cons, List.cons_append, hf _ _ _ _ _ (h _ (.head _)), pure_bind]
    dsimp only
    rw [forIn_ints hf rest (a + 1) _ r fun x hx => h x (.tail _ hx)]
    rfl
theorem forIn_ints0 {off : Nat} {f : Nat → Array UInt8 × List Value → Sem (ForInStep (Array UInt8 × List Value))}
    (hf : ∀ k st n t more, n < 256 → f k (st, .int (n : Nat) t :: more) = pure (.yield (st.setIfInBounds (off + k) n.toUInt8, more)))
    {vs : List Value} {ns : List Nat} (a : Nat) (st : Array UInt8) (hv : Nats vs ns) (hn : ∀ n ∈ ns, n < 256) :
      forIn (List.range' a vs.length 1) (st, vs) f = (pure ((ns.zipIdx a).foldl (fun st p => st.setIfInBounds (off + p.2) p.1.toUInt8) st, []) : Sem _) := by
  have := forIn_ints hf [] a st hv hn
  rwa [List.append_nil] at this
theorem bindE {α β : Type} {m : Sem α} {f : α → Sem β} {a : α} {r : Sem β} (h : m = pure a) (k : f a = r) : (m >>= f) = r := by rw [h]; exact k
theorem fold_set : ∀ (ns : List Nat) (off a : Nat) (pre post : List UInt8), post.length = ns.length → pre.length = off + a →
    (ns.zipIdx a).foldl (fun st p => st.setIfInBounds (off + p.2) p.1.toUInt8) (pre ++ post).toArray = (pre ++ ns.map Nat.toUInt8).toArray
  | [], _, _, pre, post, h, _ => by
    have : post = [] := List.length_eq_zero_iff.mp h
    subst this; rfl
  | n :: ns, off, a, pre, [], h, _ => by cases h
  | n :: ns, off, a, pre, x :: post, h, hp => by
    rw [List.zipIdx_cons, List.foldl_cons]
    have e : (pre ++ x :: post).toArray.setIfInBounds (off + a) n.toUInt8 = ((pre ++ [n.toUInt8]) ++ post).toArray := by
      rw [List.setIfInBounds_toArray, ← hp]
      simp
    dsimp only
    rw [e, fold_set ns off (a + 1) (pre ++ [n.toUInt8]) post (by simpa using h) (by rw [List.length_append, hp]; rfl)]
    simp
theorem intB {n : Nat} (hn : n < 256) : Builtin.Struct.intBytes true 1 (n : Int) = #[n.toUInt8] := by
  unfold Builtin.Struct.intBytes
  rw [if_pos rfl]
  have e : ((n : Int) % 2 ^ (8 * 1)).toNat = n := by
    show ((n : Int) % 256).toNat = n
    omega
  rw [e]
  unfold Builtin.Memoryview.toLittleEndian
  show (#[(n / 1 % 256).toUInt8] : Array UInt8).reverse = _
  rw [Nat.div_one, Nat.mod_eq_of_lt hn]; rfl
theorem pack16 {t : Tok} {vs : List Value} {ns : List Nat} (hv : Nats vs ns) (hr : ∀ n ∈ ns, n < 256) (hl : ns.length = 16) {Q : Fin → Shared → Prop} (h : ∀ s' t, s'.heap = s.heap → Same s s' → Q (.done (.ret (.bytes (BA ns) t))) s') :
    wpAny (model prog w) A (Builtin.«_struct.pack» ⟨.str (Str.ofString "!16B") t :: vs, []⟩) Q E s := by
  have hvl := hv.length
  unfold Builtin.«_struct.pack»
  refine wpAny_bind (m := noKeywords _ _) (wpAny_pure ?_)
  dsimp only
  refine wpAny_bind (wpAny_of_eq (fmt16 t) ?_)
  unfold Builtin.Struct.packed
  refine bm_if_false (by simp [hvl, hl]) ?_
  refine bm_if_false (by decide +kernel) ?_
  refine wpAny_bind ?_
  unfold Builtin.Struct.packEach
  simp only [List.forIn_cons, List.forIn_nil, Std.Legacy.Range.forIn_eq_forIn_range']
  simp only [show ('B' == 'x') = false from rfl, show ('B' == 's') = false from rfl, show ('B' == 'p') = false from rfl, Bool.or_self, Bool.false_eq_true, if_false]
  rw [show List.range' 0 [:16].size = List.range' 0 vs.length 1 from by rw [hvl, hl]; rfl]
  rw [forIn_ints0 (off := 0) ?hf 0 _ hv hr]
  case hf =>
    intro k st n t more hn
    dsimp only
    rw [Nat.mul_one]
    refine bindE (a := #[n.toUInt8]) ?_ rfl
    show (if (decide ((n : Int) < 0) || decide ((n : Int) > 255)) = true then _ else _) = _
    rw [if_neg (by simp; omega)]
    show pure (Builtin.Struct.intBytes true 1 (n : Int)) = _
    rw [intB hn]
  simp only [pure_bind]
  rw [show (Array.replicate 16 0 : Array UInt8) = ([] ++ List.replicate 16 (0 : UInt8)).toArray from rfl, fold_set ns 0 0 [] _ (by rw [hl]; rfl) rfl]
  refine wpAny_pure ?_
  refine wpAny_bind (wpAny_mkBytes (wpAny_pure (h _ _ rfl ⟨rfl, rfl, rfl⟩)) ?_)
  show (BA ns).size ≤ _
  rw [BA_size, hl, sizeLine_eq]; omega
theorem forIn_one {off : Nat} {f : Nat → Array UInt8 × List Value → Sem (ForInStep (Array UInt8 × List Value))} {n : Nat} {t : Tok} {st : Array UInt8} {more : List Value}
    (hf : f 0 (st, .int (n : Nat) t :: more) = pure (.yield (st.setIfInBounds off n.toUInt8, more))) : forIn (List.range' 0 [:1].size) (st, .int (n : Nat) t :: more) f = (pure (st.setIfInBounds off n.toUInt8, more) : Sem _) := by
  show forIn [0] _ f = _
  rw [List.forIn_cons, hf, pure_bind]
  rfl
set_option maxHeartbeats 1000000 in
theorem pack4 {t : Tok} {vs : List Value} {ns : List Nat} (hv : Nats vs ns) (hr : ∀ n ∈ ns, n < 256) (hl : ns.length = 4) {Q : Fin → Shared → Prop} (h : ∀ s' t, s'.heap = s.heap → Same s s' → Q (.done (.ret (.bytes (BA ns) t))) s') :
    wpAny (model prog w) A (Builtin.«_struct.pack» ⟨.str (Str.ofString "!BBBB") t :: vs, []⟩) Q E s := by
  obtain ⟨a, b, c, d, rfl⟩ : ∃ a b c d, ns = [a, b, c, d] := by
    match ns, hl with
    | [a, b, c, d], _ => exact ⟨a, b, c, d, rfl⟩
  cases hv with | cons h1 hv => cases hv with | cons h2 hv => cases hv with | cons h3 hv => cases hv with | cons h4 hv =>
  cases hv
  obtain ⟨ta, rfl⟩ := h1
  obtain ⟨tb, rfl⟩ := h2
  obtain ⟨tc, rfl⟩ := h3
  obtain ⟨td, rfl⟩ := h4
  unfold Builtin.«_struct.pack»
  refine wpAny_bind (m := noKeywords _ _) (wpAny_pure ?_)
  dsimp only
  refine wpAny_bind (wpAny_of_eq (fmt4 t) ?_)
  unfold Builtin.Struct.packed
  refine bm_if_false (by simp) ?_
  refine bm_if_false (by decide +kernel) ?_
  refine wpAny_bind ?_
  unfold Builtin.Struct.packEach
  simp only [List.forIn_cons, List.forIn_nil, Std.Legacy.Range.forIn_eq_forIn_range']
  simp only [show ('B' == 'x') = false from rfl, show ('B' == 's') = false from rfl, show ('B' == 'p') = false from rfl, Bool.or_self, Bool.false_eq_true, if_false]
  rw [forIn_one (off := 0) ?h1]
  case h1 =>
    dsimp only
    refine bindE (a := #[a.toUInt8]) ?_ rfl
    show (if (decide ((a : Int) < 0) || decide ((a : Int) > 255)) = true then _ else _) = _
    rw [if_neg (by have := hr a (by simp); simp; omega)]
    show pure (Builtin.Struct.intBytes true 1 (a : Int)) = _
    rw [intB (hr a (by simp))]
  simp only [pure_bind]
  rw [forIn_one (off := 1) ?h2]
  case h2 =>
    dsimp only
    refine bindE (a := #[b.toUInt8]) ?_ rfl
    show (if (decide ((b : Int) < 0) || decide ((b : Int) > 255)) = true then _ else _) = _
    rw [if_neg (by have := hr b (by simp); simp; omega)]
    show pure (Builtin.Struct.intBytes true 1 (b : Int)) = _
    rw [intB (hr b (by simp))]
  simp only [pure_bind]
  rw [forIn_one (off := 2) ?h3]
  case h3 =>
    dsimp only
    refine bindE (a := #[c.toUInt8]) ?_ rfl
    show (if (decide ((c : Int) < 0) || decide ((c : Int) > 255)) = true then _ else _) = _
    rw [if_neg (by have := hr c (by simp); simp; omega)]
    show pure (Builtin.Struct.intBytes true 1 (c : Int)) = _
    rw [intB (hr c (by simp))]
  simp only [pure_bind]
  rw [forIn_one (off := 3) ?h4]
  case h4 =>
    dsimp only
    refine bindE (a := #[d.toUInt8]) ?_ rfl
    show (if (decide ((d : Int) < 0) || decide ((d : Int) > 255)) = true then _ else _) = _
    rw [if_neg (by have := hr d (by simp); simp; omega)]
    show pure (Builtin.Struct.intBytes true 1 (d : Int)) = _
    rw [intB (hr d (by simp))]
  simp only [pure_bind]
  refine wpAny_pure ?_
  refine wpAny_bind (wpAny_mkBytes (wpAny_pure ?_) ?_)
  · exact h _ _ rfl ⟨rfl, rfl, rfl⟩
  · show 4 ≤ _
    rw [sizeLine_eq]; omega
theorem unp_loop {P : Nat → Prop} {f : Nat → Array Value → Sem (ForInStep (Array Value))} {g : Nat → Nat}
    (hf : ∀ k out (Q : ForInStep (Array Value) → Shared → Prop) (s : Shared), P k → (∀ t, Q (.yield (out.push (.int (g k : Nat) t))) { s with toks := s.toks + 1 }) → wpAny (model prog w) A (f k out) Q E s) :
    ∀ (ks : List Nat) (out : Array Value) (Q : Array Value → Shared → Prop) (s : Shared), (∀ k ∈ ks, P k) → (∀ vs k, Nats vs (ks.map g) → Q (out ++ vs.toArray) { s with toks := k }) → wpAny (model prog w) A (forIn ks out f) Q E s
  | [], out, Q, s, _, h => by
    rw [List.forIn_nil]
    have := h [] s.toks .nil
    exact wpAny_pure (by simpa using this)
  | k :: ks, out, Q, s, hg, h => by
    rw [List.forIn_cons]
    refine wpAny_bind (hf k out _ s (hg k (.head _)) (fun t => ?_))
    dsimp only
    refine unp_loop hf ks _ _ _ (fun x hx => hg x (.tail _ hx)) fun vs kk hv => ?_
    have := h (.int (g k : Nat) t :: vs) kk (.cons ⟨t, rfl⟩ hv)
    simpa using this
theorem likeBytes {M : Model} {id : String} {b : Array UInt8} {t : Tok} {Q : Array UInt8 → Shared → Prop} (h : Q b s) : wpAny M A (Builtin.Bytes.bytesLike id (.bytes b t)) Q E s := by
  unfold Builtin.Bytes.bytesLike
  exact wpAny_bind (buffer_by (wpAny_pure h))
theorem piece_nat {ns : List Nat} {k : Nat} (hk : k < ns.length) (hr : ∀ n ∈ ns, n < 256) : Builtin.Struct.natOf true ((BA ns).extract k (k + 1)) = ns.getD k 0 := by
  have e : (BA ns).extract k (k + 1) = #[(ns.getD k 0).toUInt8] := by
    apply Array.ext'
    rw [Array.toList_extract, BA_list]
    simp [List.extract, List.getD_eq_getElem?_getD, List.getElem?_eq_getElem hk]
    rw [← List.map_drop, List.drop_eq_getElem_cons hk]
    rfl
  rw [e]
  unfold Builtin.Struct.natOf
  have := byte_nat (hr (ns.getD k 0) (by rw [List.getD_eq_getElem?_getD, List.getElem?_eq_getElem hk]; exact List.getElem_mem hk))
  show Builtin.Memoryview.littleEndian #[(ns.getD k 0).toUInt8] = _
  unfold Builtin.Memoryview.littleEndian
  simpa using this
def unpTurn (b : Array UInt8) (off n : Nat) (out : Array Value) : Sem (ForInStep (Array Value)) :=
  (forIn [0 : n] out fun k out => mkInt (if (Char.isLower 'B' && decide (Builtin.Struct.natOf true (b.extract (0 + off + k * 1) (0 + off + (k + 1) * 1)) ≥ 2 ^ (8 * 1 - 1))) = true then (Builtin.Struct.natOf true (b.extract (0 + off + k * 1) (0 + off + (k + 1) * 1)) : Int) - 2 ^ (8 * 1) else (Builtin.Struct.natOf true (b.extract (0 + off + k * 1) (0 + off + (k + 1) * 1)) : Int)) >>= fun v => pure (ForInStep.yield (out.push v))) >>= fun s => pure (ForInStep.yield s)
def unpThen (x : ForInStep (Array Value)) (k : Array Value → Sem (Array Value)) : Sem (Array Value) := match x with | .done b => pure b | .yield b => k b
theorem unp_eq16 (id : String) (b : Array UInt8) : Builtin.Struct.unpacked id ⟨true, false, [⟨'B', 16, 0, 1⟩], 16, 16⟩ b 0 = ((unpTurn b 0 16 #[] >>= fun x => unpThen x pure) >>= fun out => newTuple out.toList) := by kernel_rfl
theorem unp_eq4 (id : String) (b : Array UInt8) : Builtin.Struct.unpacked id ⟨true, false, [⟨'B', 1, 0, 1⟩, ⟨'B', 1, 1, 1⟩, ⟨'B', 1, 2, 1⟩, ⟨'B', 1, 3, 1⟩], 4, 4⟩ b 0 =
    ((unpTurn b 0 1 #[] >>= fun x => unpThen x fun o => unpTurn b 1 1 o >>= fun x => unpThen x fun o => unpTurn b 2 1 o >>= fun x => unpThen x fun o => unpTurn b 3 1 o >>= fun x => unpThen x pure) >>= fun out => newTuple out.toList) := by kernel_rfl
theorem turn_wp {ns : List Nat} {off n : Nat} {out : Array Value} {Q : ForInStep (Array Value) → Shared → Prop} (hr : ∀ n ∈ ns, n < 256) (hl : off + n ≤ ns.length) (h : ∀ vs k, Nats vs ((List.range' 0 n).map fun k => ns.getD (off + k) 0) → Q (.yield (out ++ vs.toArray)) { s with toks := k }) :
    wpAny (model prog w) A (unpTurn (BA ns) off n out) Q E s := by
  unfold unpTurn
  rw [Std.Legacy.Range.forIn_eq_forIn_range']
  refine wpAny_bind ?_
  rw [show List.range' ([:n] : Std.Legacy.Range).start ([:n] : Std.Legacy.Range).size ([:n] : Std.Legacy.Range).step = List.range' 0 n 1 from by simp [Std.Legacy.Range.size]]
  refine unp_loop (P := fun k => k < n) (g := fun k => ns.getD (off + k) 0) (fun k out Q s hk hq => ?_) _ _ _ _ (fun k hk => by have := List.mem_range'.mp hk; omega) fun vs k hv => wpAny_pure (h vs k hv)
  rw [if_neg (by rw [show Char.isLower 'B' = false from rfl]; simp), show 0 + off + k * 1 = off + k by omega, show 0 + off + (k + 1) * 1 = (off + k) + 1 by omega, piece_nat (by omega) hr]
  exact wpAny_bind (wpAny_mkInt (wpAny_pure (hq _)))
theorem range_getD (l : List Nat) : (List.range' 0 l.length).map (fun k => l.getD (0 + k) 0) = l := by
  apply List.ext_getElem
  · simp
  · intro i h1 h2
    simp [List.getD_eq_getElem?_getD, List.getElem?_eq_getElem h2]
theorem unpack16 {t t' : Tok} {ns : List Nat} (hr : ∀ n ∈ ns, n < 256) (hl : ns.length = 16) {Q : Fin → Shared → Prop} (h : ∀ vs k, Nats vs ns → Q (.done (.ret (.ref s.heap.objs.size))) { s with heap := s.heap.push (tupOf vs.toArray), toks := k }) :
    wpAny (model prog w) A (Builtin.«_struct.unpack» ⟨[.str (Str.ofString "!16B") t, .bytes (BA ns) t'], []⟩) Q E s := by
  unfold Builtin.«_struct.unpack»
  refine wpAny_bind (m := noKeywords _ _) (wpAny_pure ?_)
  refine wpAny_bind (wpAny_of_eq (a := ()) rfl ?_)
  refine wpAny_bind (wpAny_of_eq (fmt16 t) ?_)
  unfold Builtin.Struct.unpackExact
  refine wpAny_bind (likeBytes ?_)
  refine wpAny_bind (wpAny_pure ?_)
  refine bm_if_false (by simp [BA_size, hl]) ?_
  rw [unp_eq16]
  refine wpAny_bind (wpAny_bind (wpAny_bind (turn_wp hr (by omega) fun vs k hv => ?_)))
  refine wpAny_pure ?_
  rw [← hl, range_getD] at hv
  rw [Array.empty_append]
  refine wpAny_newObj_type (wpAny_pure ?_) ?_
  · exact h _ _ hv
  · show vs.toArray.size ≤ sizeLine
    rw [List.size_toArray, sizeLine_eq]
    have := (hv).length
    omega
theorem unpack4 {t t' : Tok} {ns : List Nat} (hr : ∀ n ∈ ns, n < 256) (hl : ns.length = 4) {Q : Fin → Shared → Prop} (h : ∀ vs k, Nats vs ns → Q (.done (.ret (.ref s.heap.objs.size))) { s with heap := s.heap.push (tupOf vs.toArray), toks := k }) :
    wpAny (model prog w) A (Builtin.«_struct.unpack» ⟨[.str (Str.ofString "!BBBB") t, .bytes (BA ns) t'], []⟩) Q E s := by
  unfold Builtin.«_struct.unpack»
  refine wpAny_bind (m := noKeywords _ _) (wpAny_pure ?_)
  refine wpAny_bind (wpAny_of_eq (a := ()) rfl ?_)
  refine wpAny_bind (wpAny_of_eq (fmt4 t) ?_)
  unfold Builtin.Struct.unpackExact
  refine wpAny_bind (likeBytes ?_)
  refine wpAny_bind (wpAny_pure ?_)
  refine bm_if_false (by simp [BA_size, hl]) ?_
  rw [unp_eq4]
  refine wpAny_bind (wpAny_bind (wpAny_bind (turn_wp hr (by omega) fun v1 k1 h1 => ?_)))
  refine wpAny_bind (turn_wp hr (by omega) fun v2 k2 h2 => ?_)
  refine wpAny_bind (turn_wp hr (by omega) fun v3 k3 h3 => ?_)
  refine wpAny_bind (turn_wp hr (by omega) fun v4 k4 h4 => ?_)
  refine wpAny_pure ?_
  obtain ⟨a, b, c, d, rfl⟩ : ∃ a b c d, ns = [a, b, c, d] := by
    match ns, hl with
    | [a, b, c, d], _ => exact ⟨a, b, c, d, rfl⟩
  have hv : Nats (v1 ++ (v2 ++ (v3 ++ v4))) [a, b, c, d] := pd_app (l' := [a]) h1 (pd_app (l' := [b]) h2 (pd_app (l' := [c]) h3 (m' := [d]) h4))
  rw [Array.empty_append, show v1.toArray ++ v2.toArray ++ v3.toArray ++ v4.toArray = (v1 ++ (v2 ++ (v3 ++ v4))).toArray by simp]
  generalize v1 ++ (v2 ++ (v3 ++ v4)) = vs at hv
  refine wpAny_newObj_type (wpAny_pure ?_) ?_
  · exact h _ _ hv
  · show vs.toArray.size ≤ sizeLine
    rw [List.size_toArray, sizeLine_eq]
    have := (hv).length
    omega
/-- the three calls -/
theorem r_pack {x : Str} {t : Tok} {vs : List Value} {ns : List Nat} {Q : Value → Shared → Prop} (D : St C loc news s) (hx : (x = Str.ofString "!16B" ∧ ns.length = 16) ∨ (x = Str.ofString "!BBBB" ∧ ns.length = 4)) (hv : Nats vs ns) (hr : ∀ n ∈ ns, n < 256)
    (h : ∀ s' t, St C loc news s' → Q (.bytes (BA ns) t) s') : wpAny (model prog w) A (call (.builtin "_struct.pack") (.str x t :: vs)) Q E s := by
  refine Calls.call_function_entry (by decide +kernel) (by decide +kernel) st_entry_pack (by first | rfl | kernel_rfl) ?_
  have fin : ∀ (s' : Shared) t, s'.heap = s.heap → Same s s' → ∃ v, Fin.done (.ret (.bytes (BA ns) t)) = .done (.ret v) ∧ Q v s' := fun s' t e e' => ⟨_, rfl, h _ _ (by rw [e'.eq, e]; exact D.toks)⟩
  rcases hx with ⟨rfl, hl⟩ | ⟨rfl, hl⟩
  · exact pack16 hv hr hl fin
  · exact pack4 hv hr hl fin
theorem r_unpack {x : Str} {t t' : Tok} {ns : List Nat} {Q : Value → Shared → Prop} (D : St C loc news s) (hx : (x = Str.ofString "!16B" ∧ ns.length = 16) ∨ (x = Str.ofString "!BBBB" ∧ ns.length = 4)) (hr : ∀ n ∈ ns, n < 256)
    (h : ∀ a vs s', Nats vs ns → St C loc ((a, tupOf vs.toArray) :: news) s' → Q (.ref a) s') : wpAny (model prog w) A (call (.builtin "_struct.unpack") [.str x t, .bytes (BA ns) t']) Q E s := by
  refine Calls.call_function_entry (by decide +kernel) (by decide +kernel) st_entry_unpack (by first | rfl | kernel_rfl) ?_
  have fin : ∀ vs k, Nats vs ns → ∃ v, Fin.done (.ret (.ref s.heap.objs.size)) = .done (.ret v) ∧ Q v { s with heap := s.heap.push (tupOf vs.toArray), toks := k } := fun vs k hv => ⟨_, rfl, h _ vs _ hv ((D.push (tupOf vs.toArray)).toks)⟩
  rcases hx with ⟨rfl, hl⟩ | ⟨rfl, hl⟩
  · exact unpack16 hr hl fin
  · exact unpack4 hr hl fin
end

abbrev ent (w : World) (name : Str) (t : Tok) (v : Value) : DictEntry := ⟨PyData.keyHash w.params name, .str name t, v⟩
section
variable {prog : Program} {w : World} {A : Around} {E : Value → Shared → Prop} {C : Cx} {s : Shared} {mg mb : Str → Option Value} {loc : List (Str × Value)} {news news' : List (Addr × Obj)} {c x dx f : Addr} {es es' : List DictEntry} {n : Nat} {name : Str} {v : Value}
theorem inst_at {h : Heap} (hx : h.get? x = some (instObj c dx)) {od : Obj} (hd : h.get? dx = some od) : InstAt h x (instObj c dx) c (some od) := ⟨hx, rfl, rfl, hd⟩
/-- an attribute of an object's own -/
theorem r_getd {expr : Bool} {attr : Option Value} {Q : Value → Shared → Prop} (D : St C loc news s) (W : WF w mg mb C.s₀.heap) (hx : s.heap.get? x = some (instObj c dx)) (hdd : s.heap.get? dx = some (dictOf es n))
    (hg : plainGet (hd.heap_39 w.params) c name = true) (hh : hasDictIn (hd.heap_39 w.params) c = true) (ha : findIn (hd.heap_39 w.params) (.ref c) name = some attr) (hn : noGet (hd.heap_39 w.params) attr = true) (hl : getL name es = some (some v)) (hv : handedIn v = true)
    (h : ∀ s', St C loc news s' → Q v s') : wpAny (model prog w) A (getAttr (.ref x) name expr) Q E s := by
  obtain ⟨g, m, F, N, X, k⟩ := D.libX W
  exact get_own F X (inst_at hx hdd) hg hh ha hn hl hv (h _ D.toks)
/-- a method -/
theorem r_meth {pl : Sem Bool} {Q : Value × List Value → Shared → Prop} (D : St C loc news s) (W : WF w mg mb C.s₀.heap) (hx : s.heap.get? x = some (instObj c dx)) (hdd : s.heap.get? dx = some (dictOf es n))
    (hg : plainGet (hd.heap_39 w.params) c name = true) (hf : findIn (hd.heap_39 w.params) (.ref c) name = some (some (.ref f))) (ht : isFn (hd.heap_39 w.params) (.ref f) = true) (hl : getL name es = some none) (h : Q (.ref f, [.ref x]) s) :
    wpAny (model prog w) A (getMethod (.ref x) name pl) Q E s := by
  obtain ⟨g, m, F, N, X, k⟩ := D.libX W
  exact method_inst F X (inst_at hx hdd) hg hf ht hl h
/-- an attribute is stored -/
theorem r_setd {n' : Nat} {g : Tok → List DictEntry} {Q : Unit → Shared → Prop} (D : St C loc news s) (W : WF w mg mb C.s₀.heap) (hx : s.heap.get? x = some (instObj c dx)) (hm : (dx, dictOf es n) ∈ news)
    (hs : findIn (hd.heap_39 w.params) (.ref c) "__setattr__" = some (some (.builtin "object.__setattr__"))) (hp : plainOver (hd.heap_39 w.params) c = true) (ht : takerIn (hd.heap_39 w.params) c name = some none) (hh : hasDictIn (hd.heap_39 w.params) c = true) (hl : (getL name es).isSome = true)
    (e : ∀ t, (putL name (PyData.keyHash w.params name) (.str name t) v es, putN name es n) = (g t, n')) (hz : ∀ t, (g t).length ≤ 1000)
    (h : ∀ t s', (∀ news', Alt dx (dictOf es n) (dictOf (g t) n') news news' → St C loc news' s') → Q () s') : wpAny (model prog w) A (setAttr (.ref x) name v) Q E s := by
  obtain ⟨l1, l2, hsp⟩ := List.append_of_mem hm
  have D' : St C loc ((dx, dictOf es n) :: (l1 ++ l2)) s := D.perm (by rw [hsp]; exact List.perm_middle)
  obtain ⟨g0, m, F, N, X, k⟩ := D'.libX W
  have hnd := List.nodup_cons.mp D'.ord
  refine set_dict (es' := g (s.toks + 1)) (n' := n') F X N (inst_at hx (D'.get (.head _))) rfl hs hp ht hh hl (e _) (.head fun p hp q => hnd.1 (by have := List.mem_map_of_mem (f := (·.1)) hp; rwa [q] at this)) (hz _) fun h' F' N' => h (s.toks + 1) _ fun news' U => ?_
  have z := k { s with heap := h', toks := s.toks + 2 } _ F' N' D'.ord ⟨rfl, rfl, rfl⟩
  obtain ⟨r, q1, q2⟩ := U.perm
  refine z.perm ?_
  have q3 : ((dx, dictOf es n) :: (l1 ++ l2)).Perm ((dx, dictOf es n) :: r) := (List.perm_middle.symm.trans (by rw [← hsp])).trans q1
  exact (q3.cons_inv.cons _).trans q2.symm
end

section
variable {M : Model} {A : Around} {E : Value → Shared → Prop} {s : Shared} {env : Env} {pos : Pos}
theorem splC {e : Expr} {rest : List Expr} {Q : List Value → Shared → Prop} (h : wpC M A (eval e env) (fun v s₁ => wpC M A (spliced (backTo pos (starEach rest env))) (fun vs => Q (v :: vs)) E s₁) E s)
    (he : starEach (e :: rest) env = (false, eval e env) :: starEach rest env) : wpC M A (spliced (backTo pos (starEach (e :: rest) env))) Q E s := by
  rw [he]; exact spliced_C h
theorem spl0 {Q : List Value → Shared → Prop} (h : Q [] s) : wpC M A (spliced (backTo pos (starEach [] env))) Q E s := wpC_of (spliced_none h)
theorem cwC {P : Heap → Prop} {f : Value} {first : List Value} {e : Expr} {rest : List Expr} {Q : Value → Shared → Prop}
    (hk : ∀ h, P h → ∃ k, (k = Keeper.frame ∨ k = Keeper.machine ∨ k = Keeper.boundFrame) ∧ Looks M h (keeperOf f) k)
    (h : wpC M A (spliced (backTo pos (starEach (e :: rest) env))) (fun vs s₁ => P s₁.heap ∧ wpC M A (call f (first ++ vs)) Q E s₁) E s)
    (he : starEach (e :: rest) env = (false, eval e env) :: starEach rest env) : wpC M A (callWith pos f first (backTo pos (starEach (e :: rest) env)) []) Q E s := by
  rw [he] at h ⊢
  exact callWith_C hk (evalArgs_C h)
theorem cwC0 {P : Heap → Prop} {f : Value} {first : List Value} {Q : Value → Shared → Prop}
    (hk : ∀ h, P h → ∃ k, (k = Keeper.frame ∨ k = Keeper.machine ∨ k = Keeper.boundFrame) ∧ Looks M h (keeperOf f) k)
    (hP : P s.heap) (h : wpC M A (call f (first ++ [])) Q E s) : wpC M A (callWith pos f first (backTo pos (starEach [] env)) []) Q E s :=
  callWith_C hk (wpC_of (evalArgs_nil3 ⟨hP, h⟩))
/-- a type, one argument, plain -/
theorem ctC1 {T' : String} {e : Expr} {Q : Value → Shared → Prop} (h : wpAny M A (eval e env) (fun v s₁ => wpC M A (call (.type T') [v]) Q E s₁) E s) (he : starEach [e] env = [(false, eval e env)]) :
    wpC M A (callWith pos (.type T') [] (backTo pos (starEach [e] env)) []) Q E s :=
  cwC keeps_type (splC (wpC_of (wpAny_mono h (fun v s₁ h₁ => spl0 ⟨trivial, h₁⟩) fun _ _ x => x)) he) he
end
section
variable {prog : Program} {w : World} {A : Around} {E : Value → Shared → Prop} {s : Shared} {env : Env} {pos : Pos} {K : Frag} {f : Addr} {e e₁ e₂ : Expr} {Q : Value → Shared → Prop}
/-- an object of the text's, its arguments plain -/
theorem ckC0 (X : K.In s.heap) (hk : keepIn K (.ref f) = true) (h : wpC (model prog w) A (call (.ref f) []) Q E s) : wpC (model prog w) A (callWith pos (.ref f) [] (backTo pos (starEach [] env)) []) Q E s := cwC0 (keeps_K hk) X h
theorem ckC1 (hk : keepIn K (.ref f) = true) (h : wpAny (model prog w) A (eval e env) (fun v s₁ => K.In s₁.heap ∧ wpC (model prog w) A (call (.ref f) [v]) Q E s₁) E s) (he : starEach [e] env = [(false, eval e env)]) :
    wpC (model prog w) A (callWith pos (.ref f) [] (backTo pos (starEach [e] env)) []) Q E s :=
  cwC (keeps_K hk) (splC (wpC_of (wpAny_mono h (fun v s₁ h₁ => spl0 h₁) fun _ _ x => x)) he) he
theorem ckC2 (hk : keepIn K (.ref f) = true) (h : wpAny (model prog w) A (eval e₁ env) (fun v s₁ => wpAny (model prog w) A (eval e₂ env) (fun v₂ s₂ => K.In s₂.heap ∧ wpC (model prog w) A (call (.ref f) [v, v₂]) Q E s₂) E s₁) E s)
    (he : starEach [e₁, e₂] env = [(false, eval e₁ env), (false, eval e₂ env)]) (he₂ : starEach [e₂] env = [(false, eval e₂ env)]) : wpC (model prog w) A (callWith pos (.ref f) [] (backTo pos (starEach [e₁, e₂] env)) []) Q E s :=
  cwC (keeps_K hk) (splC (wpC_of (wpAny_mono h (fun v s₁ h₁ => splC (wpC_of (wpAny_mono h₁ (fun v₂ s₂ h₂ => spl0 h₂) fun _ _ x => x)) he₂) fun _ _ x => x)) (he.trans (by rw [he₂]))) (he.trans (by rw [he₂]))
end

section
variable {prog : Program} {w : World} {A : Around} {E : Value → Shared → Prop} {s₀ : Shared} {mg mb : Str → Option Value} {Q : Value → Shared → Prop} {fs : List Addr}
set_option maxHeartbeats 2000000 in
theorem parse_bad {l la lb : List Nat} {qq : Str} {pa pre post : List (List Nat)} {t : Tok} (W : WF w mg mb s₀.heap) (K : Frames A fs s₀.heap) (hA : A.depth < 400) (hp : Txt.partition (T l) (T [58, 58]) = (T la, qq, T lb)) (hsa : Txt.split (T la) (T [58]) = pa.map T) (hpa : pa = pre ++ [103] :: post)
    (va : ∀ p ∈ pre, (∀ c ∈ p, IsHex c) ∧ p.length ≤ 5) (hla : pa.length ≤ 100) (hl : l.length ≤ 10000) (hl1 : la.length ≤ 10000) (hl2 : lb.length ≤ 10000) (hz : ∀ p ∈ pa, p.length ≤ 10000)
    (k : ∀ e t args s', Threw fs s₀ e (.type "ValueError") t args s' → E (.ref e) s') :
    wpC (model prog w) A (call (.ref 408) [.str (T l) t]) Q E s₀ := by
  have hh : A.handled = none := K.calm
  refine enterX [] fs [] [("a", .str (T l) t)] W (by omega) (K.lowS (S := []) fun _ z => nomatch z) (fun _ z => nomatch z) (by simp) (by k_is) (by k_is) (.of_eq (by rfl)) (by kernel_rfl) ?_
  intro L s _ D
  have dis : ∀ b ∈ (⟨[], fs, s₀, L⟩ : Cx).fs, b ∉ (⟨[], fs, s₀, L⟩ : Cx).S := fun _ _ z => nomatch z
  refine wpC_execs_cons (wpC_of ?_)
  fail "qgo"
  refine r_partition D (by decide) hp (by rw [T_len, sizeLine_eq]; omega) ?_
  clear D s
  intro r ta tb tc s D
  fail "qgo"
  refine r_unpack3 D hh (D.tupN (its := #[.str (T la) ta, .str qq tb, .str (T lb) tc]) (by fail "qin")) ?_
  clear D s
  intro s D
  fail "qgo"
  refine wpC_execs_cons ?_
  refine wpC_Assign_thru ?_ (hs := by rfl)
  refine wpC_Call ?_ (he := by rfl)
  fail "qgo"
  refine call_thru (by rfl) ?_
  refine args_thru (b := false) ?_
  refine wpC_Call ?_ (he := by rfl)
  fail "qgo"
  refine call_star_thru ?_
  (with_reducible refine comp_allX (cl := []) D ?c1 ?c2 ?c3 ?_ (hs := ?hs)); (case c1 => exact hh); (case c2 => exact closureFor_none (by decide)); (case c3 => kernel_rfl); (case hs => intro _; rfl)
  fail "qgo"
  refine r_split D (by decide) hsa (by rw [T_len, sizeLine_eq]; omega) ?_
  clear D s
  intro sp vs s hvs D
  have hvl := hvs.length
  refine ⟨.list sp vs.toArray, _, _, txtFull, fun pre' ys ex => ∃ ps, Txts pre' ps ∧ (∀ p ∈ ps, p ≠ [103]) ∧ Paired (isPair ex) ys (ps.filter (!·.isEmpty)), rfl, D.listN (k := 0) (by fail "qin"), D, stay_new (k := 0) (by fail "qin"), by show vs.toArray.size ≤ _; rw [List.size_toArray]; omega, ⟨[], .nil, by simp, .nil⟩, ?_, ?_, ?_, ?_⟩
  · clear D s
    intro v c oc m D' oD I oI ex s E' hv hN hX D
    have hv : v ∈ vs := by have h : v ∈ vs.toArray := hv; simpa using h
    obtain ⟨p, hm, tk, rfl⟩ := pd_mem hvs hv
    refine wpAny_tests_one ?_
    have hz := hz p hm
    have hX' : txtFull (.str (T p) tk) = !p.isEmpty := by simp [txtFull, T]
    rw [hX']
    fail "qgo"
    exact ⟨rfl, D⟩
  · intro pre' v ys ex hv ⟨ps, h1, h2, h3⟩
    cases v <;> simp [txtFull] at hv
    rename_i x t
    refine ⟨ps ++ [[]], pd_app h1 (Paired.cons ⟨t, ?_⟩ Paired.nil), fun p hp => ?_, by simpa using h3⟩
    · show Value.str x t = .str (T []) t
      rw [T_of x]
      have : x.cps.toList = [] := by simpa using hv
      rw [this]
    · rcases List.mem_append.mp hp with hp | hp
      · exact h2 p hp
      · simp at hp; subst hp; simp
  · clear D s
    intro v c oc m D' oD I oI pre' ys ex s hv hpre hf hG hN hX D
    have hv1 : vs[pre'.length]? = some v := by have h : vs.toArray.toList[pre'.length]? = some v := hv; simpa using h
    obtain ⟨p, hp1, tk, rfl⟩ := pd_at' hvs hv1
    obtain ⟨ps, g1, g2, g3⟩ := hG
    have hne : p ≠ [] := by rintro rfl; simp [txtFull, T] at hf
    by_cases hg : p = [103]
    · subst hg
      refine wpC_Call ?_ (he := by rfl)
      fail "qgo"
      refine call_thru (by rfl) ?_
      refine args_thru (b := false) ?_
      refine wpC_Call ?_ (he := by rfl)
      fail "qgo"
      refine callC_type ?_ (by rfl) (by rfl)
      fail "qgo"
      refine r_refuse16 hh fun h' kk e args hM => ?_
      exact comp_leave D W K rfl rfl hN hM.of ⟨rfl, rfl, rfl⟩ fun t s'' f => k e t args s'' f
    · have hps : ps = pa.take pre'.length := by
        refine txts_uniq g1 ?_
        have h : pre' = vs.toArray.toList.take pre'.length := hpre
        have h2 := pd_take hvs pre'.length
        rw [show vs.take pre'.length = pre' by rw [List.toList_toArray] at h; exact h.symm] at h2
        exact h2
      have hlt : pre'.length < pre.length := by
        rcases Nat.lt_or_ge pre'.length pre.length with h | h
        · exact h
        · exfalso
          rcases Nat.eq_or_lt_of_le h with h | h
          · rw [hpa, ← h] at hp1
            simp at hp1
            exact hg hp1.symm
          · refine g2 [103] ?_ rfl
            rw [hps, hpa, List.take_append]
            refine List.mem_append_right _ ?_
            obtain ⟨n, hn⟩ : ∃ n, pre'.length - pre.length = n + 1 := ⟨pre'.length - pre.length - 1, by omega⟩
            rw [hn]; simp
      have hm : p ∈ pre := by
        rw [hpa, List.getElem?_append_left hlt] at hp1
        exact List.mem_of_getElem? hp1
      obtain ⟨hx1, hx2⟩ := va p hm
      have hlt := hexNum_lt hx1 hx2
      refine wpC_of ?_
      fail "qgo"
      refine r_int16 D hx1 hne (by omega) ?_
      clear D s
      intro s t1 D
      fail "qgo"
      refine r_divmod (m := 256) D (by decide) (PyProof.noPylong_small (by omega)) ?_
      clear D s
      intro tq tx ty s D
      obtain ⟨ps', q1, q3⟩ := grp_add (tq := tq) (ta := tx) (tb := ty) (v := .str (T p) tk) ⟨ps, g1, g3⟩ ⟨tk, rfl⟩ hne
      have q : ps' = ps ++ [p] := txts_uniq q1 (pd_app g1 (Paired.cons ⟨tk, rfl⟩ Paired.nil))
      refine ⟨_, ⟨ps', q1, fun p' hp' => ?_, q3⟩, D.perm (bring_front _ _ _ _ _)⟩
      rw [q] at hp'
      rcases List.mem_append.mp hp' with hp' | hp'
      · exact g2 p' hp'
      · simp at hp'; subst hp'; exact hg
  · clear D s
    intro D' ys ex s ⟨ps, h1, h2, h3⟩ D
    have hps : ps = pa := txts_uniq (by have h : Txts vs.toArray.toList ps := h1; simpa using h) hvs
    subst hps
    exact absurd rfl (h2 [103] (by rw [hpa]; simp))
end

section
variable {prog : Program} {w : World} {A : Around} {s₀ : Shared} {mg mb : Str → Option Value} {x dx : Addr} {vs : List Value} {src : Value} {bs : Array UInt8} {R : Result → Shared → Prop}
theorem buf_init (W : WF w mg mb s₀.heap) (hA : A.depth < 800) (hx : s₀.heap.get? x = some (instObj 166 dx)) (hdx : s₀.heap.get? dx = some (dictOf [] 0)) (low : 515 ≤ dx) (nd : x ≠ dx) (hvs : vs = [src] ∨ (vs = [] ∧ src = .bytes #[] 417)) (hS : BaSrc s₀.heap src bs) (hz : bs.size ≤ 16777216) (hsd : ∀ l, src = .ref l → l ≠ dx)
    (k : ∀ b t1 t2 t3 s', Rel [dx] [] s₀.heap s'.heap → Same s₀ s' → s'.heap.get? dx = some (dictOf [ent w "data" t1 (.ref b), ent w "offset" t2 (.int 0 t3)] 2) → s'.heap.get? b = some (baObj bs) → s₀.heap.objs.size ≤ b → s₀.heap.get? b = none → R (.ok (.ret .none)) s') :
    codeC (model prog w) A (.call (.ref 107) ⟨.ref x :: vs, []⟩) R s₀ := by
  refine enterCX [dx] [] [(dx, dictOf [] 0)] s₀ [("self", .ref x), ("data", src)] W (by omega) (fun a h => by simp at h; subst h; exact low) (fun _ _ e => e) (Nat.le_refl _) ⟨rfl, rfl, rfl⟩ (fun p hp => by simp at hp; subst hp; exact ⟨.inl (by simp), hdx⟩) (by simp) (by k_is) (by k_is) ?_ (by kernel_rfl) ?_
  · rcases hvs with rfl | ⟨rfl, rfl⟩
    · exact binds_K W.X rfl (by k_is) rfl rfl rfl
    · exact binds_K W.X rfl (by k_is) rfl rfl rfl
  intro L s hL D
  refine wpC_execs_cons ?_
  refine wpC_Assign_Attribute ?_ (hs := by rfl)
  refine wpC_Call ?_ (he := by rfl)
  fail "qgo"
  refine ctC1 ?_ (by rfl)
  fail "qgo"
  have hS' : BaSrc s.heap src bs := by
    cases hS with
    | bytes _ t => exact .bytes _ t
    | list l vs ns hl hi hr => exact .list l vs ns (D.list hl (by simpa using hsd l rfl)) hi hr
  refine r_bytearray D hS' hz ?_
  clear hS' D s
  intro b s hbz D
  have hX := hx
  fail "qgo"
  fail "qsd"
  refine wpC_of ?_
  fail "qgo"
  fail "qsd"
  fail "qgo"
  exact k b _ _ _ _ D.toRel D.same (D.get (by fail "qin")) (D.get (by fail "qin")) hbz (D.isNewS (p := (b, baObj bs)) (by fail "qin") (fun q => by simp at q; subst q; exact (List.nodup_cons.mp D.ord).1 (by simp)))
end

theorem St.made {C : Cx} {s s₁ s' : Shared} {loc : List (Str × Value)} {news : List (Addr × Obj)} {S : List Addr} (D : St C loc news s) (x1 : Rel [] [] s.heap s₁.heap) (e1 : Same s s₁) (x2 : Rel S [] s₁.heap s'.heap) (e2 : Same s₁ s') (hS : ∀ a ∈ S, s.heap.get? a = none)
    (fr : List (Addr × Obj)) (hf : (fr.map (·.1)).Nodup) (hz : ∀ p ∈ fr, s.heap.get? p.1 = none) (hn : ∀ p ∈ fr, s'.heap.get? p.1 = some p.2) : St C loc (fr ++ news) s' := by
  have y : Rel [] [] s.heap s'.heap := x1.outer x2 hS
  refine D.after (y.mono (S' := []) (fs' := C.L :: C.fs) (fun _ z => z) (fun _ z => nomatch z)) (fun _ z => nomatch z) (e1.trans e2) fr news rfl (fun p hp => ?_) hf hz
  rcases List.mem_append.mp hp with hp | hp
  · exact hn p hp
  · exact y.keep _ _ (fun z => nomatch z) (fun z => nomatch z) (D.get (o := p.2) hp)

section
variable {prog : Program} {w : World} {A : Around} {E : Value → Shared → Prop} {s : Shared} {mg mb : Str → Option Value} {Q : Value → Shared → Prop} {C : Cx} {loc : List (Str × Value)} {news : List (Addr × Obj)} {vs : List Value} {src : Value} {bs : Array UInt8}
theorem c_buffer (D : St C loc news s) (W : WF w mg mb C.s₀.heap) (hA : A.depth < 700) (hvs : vs = [src] ∨ (vs = [] ∧ src = .bytes #[] 417)) (hS : BaSrc s.heap src bs) (hz : bs.size ≤ 16777216)
    (k : ∀ x dx b t1 t2 t3 s', St C loc ((x, instObj 166 dx) :: (dx, dictOf [ent w "data" t1 (.ref b), ent w "offset" t2 (.int 0 t3)] 2) :: (b, baObj bs) :: news) s' → 515 ≤ x → 515 ≤ dx → 515 ≤ b → Q (.ref x) s') :
    wpC (model prog w) A (call (.ref 166) vs) Q E s := by
  have W' := D.wf W
  have lw := W'.lowSize
  refine clsC W' (by k_is) (by k_is) (by k_is) fun x dx s₁ x1 e1 gx gd fx fd ne nx nd => ?_
  have W₁ : WF w mg mb s₁.heap := W'.rel x1 (fun _ z => nomatch z)
  have hS₁ : BaSrc s₁.heap src bs := hS.keeps fun a o e => x1.keep a o (fun z => nomatch z) (fun z => nomatch z) e
  refine buf_init W₁ (by rw [depth_cls]; omega) gx gd (Nat.le_trans lw fd) ne hvs hS₁ hz (fun l e q => ?_) ?_
  · subst e q
    cases hS with
    | list l vs ns hl hi hr =>
      obtain ⟨o, e, _⟩ := hl
      rw [nd] at e; cases e
  intro b t1 t2 t3 s' x2 e2 hdd hb lb nb
  refine ⟨rfl, ?_⟩
  have nb' : s.heap.get? b = none := x1.none_of nb
  refine k x dx b t1 t2 t3 s' (D.made x1 e1 x2 e2 (fun a ha => by simp at ha; subst ha; exact nd) [(x, instObj 166 dx), (dx, dictOf [ent w "data" t1 (.ref b), ent w "offset" t2 (.int 0 t3)] 2), (b, baObj bs)] ?_ ?_ ?_) (Nat.le_trans lw fx) (Nat.le_trans lw fd) ?_
  · have q1 : x ≠ b := fun e => by rw [← e, gx] at nb; cases nb
    have q2 : dx ≠ b := fun e => by rw [← e, gd] at nb; cases nb
    simp [ne, q1, q2]
  · intro p hp
    simp only [List.mem_cons, List.not_mem_nil, or_false] at hp
    rcases hp with rfl | rfl | rfl <;> assumption
  · intro p hp
    simp only [List.mem_cons, List.not_mem_nil, or_false] at hp
    rcases hp with rfl | rfl | rfl
    · exact x2.keep _ _ (by simpa using ne) (fun z => nomatch z) gx
    · exact hdd
    · exact hb
  · exact Nat.le_trans W₁.lowSize lb
end

section
variable {prog : Program} {w : World} {A : Around} {E : Value → Shared → Prop} {C : Cx} {s : Shared} {loc : List (Str × Value)} {news news' : List (Addr × Obj)} {env : Env} {pos p : Pos} {e₁ e₂ : Expr} {Q : Value → Shared → Prop}
theorem r_starAt {a : Addr} {vs : List Value} {Q : List Value → Shared → Prop} (D : St C loc news s) (ho : s.heap.get? a = some (tupOf vs.toArray)) (hz : vs.length ≤ 16777216) (h : ∀ s', St C loc news s' → Q vs s') : StarOf (model prog w) A E (.ref a) Q s := by
  have hT : s.TypeIs (.ref a) "tuple" := ⟨_, ho, rfl⟩
  unfold StarOf notIterableAtAll
  refine wpAny_bind (wpAny_specialOf hT PySem.F.slot_tuple_iter.lookup (wpAny_pure ⟨rfl, ?_⟩))
  exact wpAny_collect_seq a (.inr rfl) ho rfl rfl (fun h' hk => h _ (D.pureCall (Rel.of_keeps hk) ⟨rfl, rfl, rfl⟩)) (by rw [List.size_toArray, sizeLine_eq]; exact hz)
theorem cbS2 {id : String} (h : wpAny (model prog w) A (eval e₁ env) (fun v s₁ => wpAny (model prog w) A (eval e₂ env) (fun u s₂ => StarOf (model prog w) A E u (fun vs s₃ => wpAny (model prog w) A (call (.builtin id) (v :: vs)) Q E s₃) s₂) E s₁) E s)
    (he : starEach [e₁, .Starred e₂ p] env = [(false, eval e₁ env), (true, eval e₂ env)]) (he₂ : starEach [.Starred e₂ p] env = [(true, eval e₂ env)]) :
    wpAny (model prog w) A (callWith pos (.builtin id) [] (backTo pos (starEach [e₁, .Starred e₂ p] env)) []) Q E s := by
  have hs : wpAny (model prog w) A (spliced (backTo pos (starEach [e₁, .Starred e₂ p] env))) (fun vs s₁ => True ∧ wpAny (model prog w) A (call (.builtin id) vs) Q E s₁) E s := by
    refine spliced_more (wpAny_mono h (fun v s₁ h₁ => items_star (wpAny_mono h₁ (fun u s₂ h₂ => ?_) fun _ _ x => x) (he₂.trans rfl)) fun _ _ x => x) (he.trans (by rw [he₂]))
    refine wpAny_mono h₂ (fun b s₃ h₃ => ⟨h₃.1, wpAny_mono h₃.2 (fun vs s₄ h₄ => spliced_none ⟨trivial, by rw [List.append_nil]; exact h₄⟩) fun _ _ x => x⟩) fun _ _ x => x
  rw [he] at hs ⊢
  exact ks_call (P := fun _ => True) rfl (fun _ _ => ⟨.machine, .inr (.inl rfl), Looks.of_pure rfl⟩) (evalArgs_plain hs)
theorem ckCS2 {K : Frag} {f : Addr} {first : List Value} (hk : keepIn K (.ref f) = true) (h : wpAny (model prog w) A (eval e₁ env) (fun v s₁ => wpAny (model prog w) A (eval e₂ env) (fun u s₂ => StarOf (model prog w) A E u (fun vs s₃ => K.In s₃.heap ∧ wpC (model prog w) A (call (.ref f) (first ++ (v :: vs))) Q E s₃) s₂) E s₁) E s)
    (he : starEach [e₁, .Starred e₂ p] env = [(false, eval e₁ env), (true, eval e₂ env)]) (he₂ : starEach [.Starred e₂ p] env = [(true, eval e₂ env)]) :
    wpC (model prog w) A (callWith pos (.ref f) first (backTo pos (starEach [e₁, .Starred e₂ p] env)) []) Q E s := by
  have hs : wpAny (model prog w) A (spliced (backTo pos (starEach [e₁, .Starred e₂ p] env))) (fun vs s₁ => K.In s₁.heap ∧ wpC (model prog w) A (call (.ref f) (first ++ vs)) Q E s₁) E s := by
    refine spliced_more (wpAny_mono h (fun v s₁ h₁ => items_star (wpAny_mono h₁ (fun u s₂ h₂ => ?_) fun _ _ x => x) (he₂.trans rfl)) fun _ _ x => x) (he.trans (by rw [he₂]))
    refine wpAny_mono h₂ (fun b s₃ h₃ => ⟨h₃.1, wpAny_mono h₃.2 (fun vs s₄ h₄ => spliced_none (by rw [List.append_nil]; exact h₄)) fun _ _ x => x⟩) fun _ _ x => x
  rw [he] at hs ⊢
  exact callWith_C (keeps_K hk) (wpC_of (evalArgs_plain hs))
/-- a method of an object at hand, its arguments plain -/
theorem cmC1 {K : Frag} {f : Addr} {first : List Value} {e : Expr} (hk : keepIn K (.ref f) = true) (h : wpAny (model prog w) A (eval e env) (fun v s₁ => K.In s₁.heap ∧ wpC (model prog w) A (call (.ref f) (first ++ [v])) Q E s₁) E s) (he : starEach [e] env = [(false, eval e env)]) :
    wpC (model prog w) A (callWith pos (.ref f) first (backTo pos (starEach [e] env)) []) Q E s :=
  cwC (keeps_K hk) (splC (wpC_of (wpAny_mono h (fun v s₁ h₁ => spl0 h₁) fun _ _ x => x)) he) he
end

section
variable {prog : Program} {w : World} {A : Around} {s₀ : Shared} {mg mb : Str → Option Value} {x dx b : Addr} {vs : List Value} {ns l : List Nat} {fmt : Str} {t t1 t2 t3 : Tok} {o : Nat} {R : Result → Shared → Prop}
theorem buf_pack (W : WF w mg mb s₀.heap) (hA : A.depth < 800) (hx : s₀.heap.get? x = some (instObj 166 dx)) (hdx : s₀.heap.get? dx = some (dictOf [ent w "data" t1 (.ref b), ent w "offset" t2 (.int o t3)] 2)) (hb : s₀.heap.get? b = some (baObj (BA l)))
    (low : 515 ≤ dx ∧ 515 ≤ b) (nd : x ≠ dx ∧ x ≠ b ∧ dx ≠ b) (hfmt : (fmt = Str.ofString "!16B" ∧ ns.length = 16) ∨ (fmt = Str.ofString "!BBBB" ∧ ns.length = 4)) (hv : Nats vs ns) (hr : ∀ n ∈ ns, n < 256) (hl : l.length ≤ 1000)
    (k : ∀ o' t3' s', Rel [dx, b] [] s₀.heap s'.heap → Same s₀ s' → s'.heap.get? dx = some (dictOf [ent w "data" t1 (.ref b), ent w "offset" t2 (.int (o' : Nat) t3')] 2) → s'.heap.get? b = some (baObj (BA (l ++ ns))) → R (.ok (.ret .none)) s') :
    codeC (model prog w) A (.call (.ref 135) ⟨.ref x :: .str fmt t :: vs, []⟩) R s₀ := by
  obtain ⟨lo1, lo2⟩ := low
  obtain ⟨n1, n2, n3⟩ := nd
  have hX := hx
  have hdz := Heap.lt_size hdx
  have hbz := Heap.lt_size hb
  refine enterCX [dx, b] [] ((s₀.heap.objs.size, tupOf vs.toArray) :: (dx, dictOf [ent w "data" t1 (.ref b), ent w "offset" t2 (.int o t3)] 2) :: (b, baObj (BA l)) :: []) { s₀ with heap := s₀.heap.push (tupOf vs.toArray) } [("self", .ref x), ("fmt", .str fmt t), ("args", .ref s₀.heap.objs.size)] W (by omega) (fun a h => by simp at h; rcases h with rfl | rfl <;> assumption) (fun b o e => Heap.get?_push_of_some _ e) (by show _ ≤ (s₀.heap.push _).objs.size; rw [Heap.size_push]; exact Nat.le_succ _) ⟨rfl, rfl, rfl⟩ (fun p hp => ?_) ?_ (by k_is) (by k_is) (fun M A' E' Q' hq => ?_) (by kernel_rfl) ?_
  · simp only [List.mem_cons, List.not_mem_nil, or_false] at hp
    rcases hp with rfl | rfl | rfl
    · exact ⟨.inr (Heap.get?_none_of_le (Nat.le_refl _)), Heap.get?_push_size _ rfl⟩
    · exact ⟨.inl (by simp), Heap.get?_push_of_some _ hdx⟩
    · exact ⟨.inl (by simp), Heap.get?_push_of_some _ hb⟩
  · simp [Nat.ne_of_gt hdz, Nat.ne_of_gt hbz, n3]
  · refine wp_eq (m' := newTuple vs >>= fun t' => pure ([("self", .ref x), ("fmt", .str fmt t), ("args", t')] : List (Str × Value))) (by cases vs <;> rfl) ?_
    refine wpAny_bind (wpAny_newObj_type (wpAny_pure hq) ?_)
    show vs.toArray.size ≤ sizeLine
    rw [List.size_toArray, sizeLine_eq]
    have := hv.length
    rcases hfmt with ⟨_, q⟩ | ⟨_, q⟩ <;> omega
  · intro L s hL D
    generalize s₀.heap.objs.size = tp at D
    refine wpC_execs_cons (wpC_of ?_)
    obtain ⟨ff, hf⟩ : ∃ ff, Builtin.Struct.moduleFormat (.str fmt t) = pure ff := by
      rcases hfmt with ⟨rfl, _⟩ | ⟨rfl, _⟩
      · exact ⟨_, fmt16 t⟩
      · exact ⟨_, fmt4 t⟩
    fail "qgo"
    fail "qgd"
    fail "qgo"
    refine r_calc D hf ?_
    clear D s
    intro s t4 D
    fail "qgo"
    fail "qsd"
    refine wpC_execs_cons ?_
    refine wpC_AugAssign_Attribute ?_
    fail "qgo"
    fail "qgd"
    fail "qgo"
    (with_reducible refine cbS2 ?_ ?he ?he2); (case he => rfl); (case he2 => rfl)
    fail "qgo"
    refine r_starAt D (D.get (by fail "qin")) (by have := hv.length; rcases hfmt with ⟨_, q⟩ | ⟨_, q⟩ <;> omega) ?_
    clear D s
    intro s D
    refine r_pack D hfmt hv hr ?_
    clear D s
    intro s t5 D
    refine r_baadd D (by fail "qalt") (by rw [BA_size, BA_size]; rcases hfmt with ⟨_, q⟩ | ⟨_, q⟩ <;> omega) ?_
    clear D s
    intro s D
    fail "qgo"
    fail "qsd"
    refine wpC_of ?_
    fail "qgo"
    rw [BA_app] at D
    exact k (o + ff.size) _ _ D.toRel D.same (D.get (by fail "qin")) (D.get (by fail "qin"))
end

abbrev excObj (cls : Value) (t : Addr) (tb cx : Value) : Obj := { cls := cls, data := .fields #[.ref t, tb, cx, .none, .bool false, .none] }
/-- an exception just made, its context told -/
structure MadeX (h h' : Heap) (e : Addr) (cls : Value) (args : List Value) (t : Addr) (cx : Value) : Prop where
  keeps : ∀ b o, h.get? b = some o → h'.get? b = some o
  new : h.get? e = none
  tnew : h.get? t = none
  at_ : h'.get? e = some (excObj cls t .none cx)
  tup : h'.get? t = some (tupOf args.toArray)
theorem Made.x {h h' : Heap} {e : Addr} {cls : Value} {args : List Value} (m : Heap.MadeExcOf h h' e cls args) : ∃ t, MadeX h h' e cls args t .none := by
  obtain ⟨k, n, t, h1, h2, h3⟩ := m
  exact ⟨t, k, n, h2, h1, h3⟩
/-- as Flew, the exception's object told whole -/
structure FlewX (fs : List Addr) (h₀ : Heap) (e : Addr) (cls : Value) (t : Addr) (args : List Value) (fl cx : Value) (h : Heap) : Prop where
  rel : Rel [] fs h₀ h
  new : h₀.get? e = none
  tnew : h₀.get? t = none
  at_ : ∃ T oT ts, h.get? e = some (excObj cls t (.ref T) cx) ∧ h₀.get? T = none ∧ T ≠ e ∧ T ≠ t ∧ h.get? T = some oT ∧ oT.data = .fields ts ∧ ts[3]? = some fl
  tup : h.get? t = some (tupOf args.toArray)
theorem FlewX.flew {fs : List Addr} {h₀ h : Heap} {e t : Addr} {cls fl cx : Value} {args : List Value} (f : FlewX fs h₀ e cls t args fl cx h) : Flew fs h₀ e cls t args fl h := by
  obtain ⟨r, n, tn, ⟨T', oT, ts, h1, h2, h3, h4, h5, h6, h7⟩, tp⟩ := f
  exact ⟨r, n, tn, ⟨_, _, T', oT, ts, h1, ⟨rfl, rfl⟩, rfl, rfl, h2, h3, h5, h6, h7⟩, ⟨_, _, tp, rfl, rfl⟩⟩
section
variable {M : Model} {A : Around} {E : Value → Shared → Prop} {s : Shared} {fs : List Addr} {h₀ : Heap} {e t L : Addr} {cls fl cx : Value} {args : List Value} {env : Env} {outer : List Env} {Q : Unit → Shared → Prop}
/-- one more entry of a traceback -/
theorem entryX {tb head : Value} {hadNext : Bool} (hfr : A.frames = some (env :: outer)) (hf : env.frame = some L) (k : FrOK s.heap (env :: outer)) (he : s.heap.get? e = some (excObj cls t tb cx))
    (h : ∀ h' T' oT ts, Rel [e] ((env :: outer).filterMap (·.frame)) s.heap h' → h'.get? e = some (excObj cls t (.ref T') cx) → s.heap.get? T' = none → h'.get? T' = some oT → oT.data = .fields ts → ts[3]? = some (rawInt L) → Q () { s with heap := h' }) :
    wpAny M A (do let a ← frameOf env; let pl ← entryPlaceOf L hadNext; let b ← EntryCells.newEntry head a .none (rawInt L) .none pl; setField (.ref e) 1 b) Q E s := by
  have hfun : s.heap.FunFrames (hideAll s.heap ((env :: outer).filterMap (·.frame))) (env :: outer) := k.funs fun L' hL => hideAll_none _ hL
  have hene : e ∉ (env :: outer).filterMap (·.frame) := fun hm => by
    obtain ⟨o, es, n, ho, hd⟩ := k.mem hm
    rw [he] at ho; cases ho; cases hd
  refine wpAny_bind (wpAny_frameOf_fun hfr hfun hf fun h₁ hs₁ => ?_)
  refine wpAny_bind (wpAny_entryPlaceOf fun pl hpl => ?_)
  unfold EntryCells.newEntry newFields
  refine wpAny_bind (wpAny_newObj_type ?_ (hpl.sizeOk5 _ _ _ _ _))
  have he₁ : h₁.get? e = some (excObj cls t tb cx) := (hs₁.2.1 e hene).trans he
  generalize hob : ({ cls := .type "traceback", dict := none, data := .fields ([head, .ref L, .none, rawInt L, .none] ++ (if pl.isEmpty then List.replicate 6 Value.none else pl)).toArray } : Obj) = ob
  have he₂ := Heap.get?_push_of_some ob he₁
  refine wpAny_setField he₂ rfl (by show 1 < 6; omega) ?_
  have hTe : h₁.objs.size ≠ e := Nat.ne_of_gt (Heap.lt_size he₁)
  have fresh : s.heap.get? h₁.objs.size = none := by
    cases q : s.heap.get? h₁.objs.size with
    | none => rfl
    | some o =>
      obtain ⟨sl, z⟩ := hs₁.2.2 _ _ q
      exact absurd (Heap.lt_size z) (Nat.lt_irrefl _)
  refine h _ h₁.objs.size ob _ ⟨fun b o n m q => ?_, fun b o n m q => ?_⟩ ?_ fresh ?_ (by rw [← hob]) ?_
  · have n' : b ≠ e := by simpa using n
    rw [Heap.get?_update_other _ _ (Ne.symm n')]
    exact Heap.get?_push_of_some _ ((hs₁.2.1 b m).trans q)
  · have n' : b ≠ e := by simpa using n
    obtain ⟨sl, z⟩ := hs₁.2.2 b o q
    refine ⟨sl, ?_⟩
    rw [Heap.get?_update_other _ _ (Ne.symm n')]
    exact Heap.get?_push_of_some _ z
  · exact Heap.get?_update_self (Obj.mapFields (·.setIfInBounds 1 (Value.ref h₁.objs.size))) he₂ rfl
  · rw [Heap.get?_update_other _ _ (Ne.symm hTe)]
    exact Heap.get?_push_size h₁ (by rw [← hob]; rfl)
  · rcases hpl with rfl | ⟨_, _, _, _, _, _, _, rfl⟩ <;> simp
theorem FlewX.fr (f : FlewX fs h₀ e cls t args fl cx s.heap) (k : FrOK h₀ (env :: outer)) : FrOK s.heap (env :: outer) := k.rel f.rel fun _ _ z => nomatch z
/-- the flight's mark is set -/
theorem xx_set (f : FlewX fs h₀ e cls t args fl cx s.heap) (fr : Option Addr) (hQ : ∀ h', FlewX fs h₀ e cls t args (fr.elim .none fun f => rawInt f) cx h' → Q () { s with heap := h' }) : wpAny M A (setFlight (.ref e) fr) Q E s := by
  obtain ⟨r, n, tn, ⟨T', oT, ts, h1, h2, h3, h4, h5, h6, h7⟩, tp⟩ := f
  unfold setFlight
  refine wpAny_bind (wpAny_field (x := .ref T') h1 rfl rfl ?_)
  rw [if_pos (show (Value.ref T' != Value.none) = true from by simp)]
  have hsz : 3 < ts.size := (Array.getElem?_eq_some_iff.mp h7).1
  have oth : ∀ b, b ≠ T' → (s.heap.update T' (Obj.mapFields (·.setIfInBounds 3 (fr.elim Value.none fun f => rawInt f)))).get? b = s.heap.get? b := fun b hb => Heap.get?_update_other _ _ (Ne.symm hb)
  have nb : ∀ b o, h₀.get? b = some o → b ≠ T' := fun b o q z => by rw [z, h2] at q; cases q
  refine wpAny_setField h5 h6 hsz (hQ _ ⟨⟨fun b o x y q => (oth b (nb b o q)).trans (r.keep b o x y q), fun b o x y q => ?_⟩, n, tn, ⟨T', _, _, (oth e (Ne.symm h3)).trans h1, h2, h3, h4, Heap.get?_update_self _ h5 (Obj.isFreed_of_fields (Obj.data_mapFields h6 _)), Obj.data_mapFields h6 _, by simp [hsz]⟩, (oth t (Ne.symm h4)).trans tp⟩)
  obtain ⟨sl, z⟩ := r.frame b o x y q
  exact ⟨sl, (oth b (nb b o q)).trans z⟩
theorem FlewX.entry (r : Rel [] fs h₀ s.heap) (n : h₀.get? e = none) (tn : h₀.get? t = none) (te : t ≠ e) (tp : s.heap.get? t = some (tupOf args.toArray)) (hl : ((env :: outer).filterMap (·.frame)) = fs) (k : FrOK s.heap (env :: outer))
    {h' : Heap} {T' : Addr} {oT : Obj} {ts : Array Value} (x : Rel [e] ((env :: outer).filterMap (·.frame)) s.heap h') (h1 : h'.get? e = some (excObj cls t (.ref T') cx)) (h2 : s.heap.get? T' = none) (he : ∃ o, s.heap.get? e = some o) (h5 : h'.get? T' = some oT) (h6 : oT.data = .fields ts) (h7 : ts[3]? = some fl) : FlewX fs h₀ e cls t args fl cx h' := by
  have ne : ∀ b o, h₀.get? b = some o → b ∉ [e] := fun b o q z => by simp at z; subst z; rw [n] at q; cases q
  have tfr : t ∉ (env :: outer).filterMap (·.frame) := fun hm => by
    obtain ⟨o, es, m, ho, hd⟩ := k.mem hm
    rw [tp] at ho; cases ho; cases hd
  refine ⟨⟨fun b o x' y q => ?_, fun b o x' y q => ?_⟩, n, tn, ⟨T', oT, ts, h1, ?_, fun q => ?_, fun q => ?_, h5, h6, h7⟩, ?_⟩
  · exact x.keep b o (ne b o q) (by rw [hl]; exact y) (r.keep b o x' y q)
  · obtain ⟨sl, z⟩ := r.frame b o x' y q
    obtain ⟨sl', z'⟩ := x.any (ne b o q) z
    exact ⟨sl', z'⟩
  · cases q : h₀.get? T' with
    | none => rfl
    | some o =>
      obtain ⟨sl, z⟩ := r.any (fun z => nomatch z) q
      rw [h2] at z; cases z
  · obtain ⟨o, z⟩ := he
    rw [q, z] at h2; cases h2
  · rw [q, tp] at h2; cases h2
  · exact x.keep t _ (by simpa using te) tfr tp
theorem xx_note_made (hfr : A.frames = some (env :: outer)) (hf : env.frame = some L) (k : FrOK h₀ (env :: outer)) (hl : (env :: outer).filterMap (·.frame) = fs) (f : MadeX h₀ s.heap e cls args t cx)
    (hQ : ∀ h', FlewX fs h₀ e cls t args (rawInt L) cx h' → Q () { s with heap := h' }) : wpAny M A (noteFrame (.ref e) env) Q E s := by
  have k' : FrOK s.heap (env :: outer) := k.rel (S := []) (fs := []) (Rel.of_keeps f.keeps) fun _ _ z => nomatch z
  unfold noteFrame
  simp only [hf]
  refine wpAny_bind (wpAny_field (x := .none) f.at_ rfl rfl ?_)
  rw [if_neg (by decide)]
  refine entryX hfr hf k' f.at_ fun h' T' oT ts x h1 h2 h5 h6 h7 => hQ h' ?_
  have te : t ≠ e := fun q => by have := f.tup; rw [q, f.at_] at this; cases this
  exact FlewX.entry (Rel.of_keeps f.keeps) f.new f.tnew te f.tup hl k' x h1 h2 ⟨_, f.at_⟩ h5 h6 h7
theorem xx_note (hfr : A.frames = some (env :: outer)) (hf : env.frame = some L) (k : FrOK h₀ (env :: outer)) (hl : (env :: outer).filterMap (·.frame) = fs) (f : FlewX fs h₀ e cls t args .none cx s.heap)
    (hQ : ∀ h', FlewX fs h₀ e cls t args (rawInt L) cx h' → Q () { s with heap := h' }) : wpAny M A (noteFrame (.ref e) env) Q E s := by
  have f0 := f
  obtain ⟨r, n, tn, ⟨T', oT, ts, h1, h2, h3, h4, h5, h6, h7⟩, tp⟩ := f
  unfold noteFrame
  simp only [hf]
  refine wpAny_bind (wpAny_field (x := .ref T') h1 rfl rfl ?_)
  rw [if_pos (show (Value.ref T' != Value.none) = true from by simp)]
  refine wpAny_bind (wpAny_field h5 h6 h7 ?_)
  rw [if_neg (show ¬ ((Value.none == rawInt L) = true) from by simp [rawInt])]
  refine wpAny_bind (wpAny_setField h5 h6 (Array.getElem?_eq_some_iff.mp h7).1 ?_)
  have oth : ∀ b, b ≠ T' → (s.heap.update T' (Obj.mapFields (·.setIfInBounds 3 Value.none))).get? b = s.heap.get? b := fun b hb => Heap.get?_update_other _ _ (Ne.symm hb)
  have nb : ∀ b o, h₀.get? b = some o → b ≠ T' := fun b o q z => by rw [z, h2] at q; cases q
  have r' : Rel [] fs h₀ (s.heap.update T' (Obj.mapFields (·.setIfInBounds 3 Value.none))) := ⟨fun b o x y q => (oth b (nb b o q)).trans (r.keep b o x y q), fun b o x y q => by
    obtain ⟨sl, z⟩ := r.frame b o x y q
    exact ⟨sl, (oth b (nb b o q)).trans z⟩⟩
  have k' : FrOK (s.heap.update T' (Obj.mapFields (·.setIfInBounds 3 Value.none))) (env :: outer) := k.rel r' fun _ _ z => nomatch z
  have h1' := (oth e (Ne.symm h3)).trans h1
  have te : t ≠ e := fun q => by rw [q, h1] at tp; cases tp
  refine entryX (s := { s with heap := s.heap.update T' (Obj.mapFields (·.setIfInBounds 3 Value.none)) }) hfr hf k' h1' fun h' T'' oT' ts' x g1 g2 g5 g6 g7 => hQ h' ?_
  exact FlewX.entry (s := { s with heap := s.heap.update T' (Obj.mapFields (·.setIfInBounds 3 Value.none)) }) r' n tn te ((oth t (Ne.symm h4)).trans tp) hl k' x g1 g2 ⟨_, h1'⟩ g5 g6 g7
theorem xx_again (hf : env.frame = some L) (f : FlewX fs h₀ e cls t args (rawInt L) cx s.heap) (hQ : Q () s) : wpAny M A (noteFrame (.ref e) env) Q E s := x_again hf f.flew hQ
theorem xx_leave_made (hfr : A.frames = some (env :: outer)) (hf : env.frame = some L) (k : FrOK h₀ (env :: outer)) (hl : (env :: outer).filterMap (·.frame) = fs) (f : MadeX h₀ s.heap e cls args t cx)
    (hQ : ∀ h', FlewX fs h₀ e cls t args .none cx h' → Q () { s with heap := h' }) : wpAny M A (leaving env (.ref e)) Q E s := by
  unfold leaving
  exact wpAny_bind (xx_note_made hfr hf k hl f fun h' f' => xx_set f' none hQ)
theorem xx_leave (hfr : A.frames = some (env :: outer)) (hf : env.frame = some L) (k : FrOK h₀ (env :: outer)) (hl : (env :: outer).filterMap (·.frame) = fs) (f : FlewX fs h₀ e cls t args .none cx s.heap)
    (hQ : ∀ h', FlewX fs h₀ e cls t args .none cx h' → Q () { s with heap := h' }) : wpAny M A (leaving env (.ref e)) Q E s := by
  unfold leaving
  exact wpAny_bind (xx_note hfr hf k hl f fun h' f' => xx_set f' none hQ)
theorem xx_leave_held (hf : env.frame = some L) (f : FlewX fs h₀ e cls t args (rawInt L) cx s.heap)
    (hQ : ∀ h', FlewX fs h₀ e cls t args .none cx h' → Q () { s with heap := h' }) : wpAny M A (leaving env (.ref e)) Q E s := by
  unfold leaving
  exact wpAny_bind (xx_again hf f (xx_set f none hQ))
theorem xx_pass {α : Type} {what : String} {Q : α → Shared → Prop} (hf : env.frame = some L) (f : FlewX fs h₀ e cls t args fl cx s.heap) (hE : ∀ h', FlewX fs h₀ e cls t args (rawInt L) cx h' → E (.ref e) { s with heap := h' }) : wpAny M A (passOn what (.ref e) env : Sem α) Q E s := by
  obtain ⟨T', oT, ts, h1, _⟩ := f.at_
  unfold PySem.passOn
  refine wpAny_bind (wpAny_field (x := .ref T') h1 rfl rfl ?_)
  rw [if_neg (by simp)]
  refine wpAny_bind ?_
  rw [hf]
  exact xx_set f (some L) fun h' f' => wpAny_throw (hE h' f')
theorem xx_back {E' : Value → Shared → Prop} (hf : env.frame = some L) (f : FlewX fs h₀ e cls t args fl cx s.heap) (hE : ∀ h', FlewX fs h₀ e cls t args (rawInt L) cx h' → E' (.ref e) { s with heap := h' }) : cameBackBy M A env E' (.ref e) s := by
  obtain ⟨T', oT, ts, h1, _⟩ := f.at_
  unfold cameBackBy
  refine wpAny_bind (wpAny_field (x := .ref T') h1 rfl rfl ?_)
  rw [if_neg (by simp)]
  rw [hf]
  first
    | exact xx_set f (some L) hE
    | exact wpAny_bind (wpAny_pure (xx_set f (some L) hE))
end

section
open Builtin Builtin.Str
set_option maxRecDepth 100000
set_option maxHeartbeats 4000000
/-- a piece of a format, with what it is filled with -/
inductive It
  | lit (x : List Nat)
  | num (n : Int) (t : Tok)
  | obj (v : Value)
def It.codes : List It → List Nat
  | [] => []
  | .lit x :: r => x ++ It.codes r
  | .num _ _ :: r => 37 :: 100 :: It.codes r
  | .obj _ :: r => 37 :: 115 :: It.codes r
def It.args : List It → List Value
  | [] => []
  | .lit _ :: r => It.args r
  | .num n t :: r => .int n t :: It.args r
  | .obj v :: r => v :: It.args r
def It.sep : List It → Bool
  | [] => true
  | .lit _ :: .lit _ :: _ => false
  | _ :: r => It.sep r
def litOk (x : List Nat) : Bool := x.length ≤ 1000 && !x.isEmpty && x.all (· != 37)
section
variable {M : Model} {A : Around} {E : Value → Shared → Prop} {P : Shared → Prop}
/-- the text of an object, as %s asks it -/
def StrOfs (B : Nat) (M : Model) (A : Around) (E : Value → Shared → Prop) (P : Shared → Prop) (v : Value) : Prop :=
  ∀ (Q' : Value → Shared → Prop) (s₁ : Shared), P s₁ → (∀ Y t s', P s' → Y.length ≤ B → Q' (.str Y t) s') → wpAny M A (Builtin.Str.strOf v) Q' E s₁
def It.ok (L B : Nat) (M : Model) (A : Around) (E : Value → Shared → Prop) (P : Shared → Prop) : It → Prop
  | .lit x => litOk x = true ∧ x.length ≠ L
  | .num n _ => 0 ≤ n ∧ n < 10000000000
  | .obj v => StrOfs B M A E P v
theorem It.sep_head {x : List Nat} {r : List It} (h : It.sep (.lit x :: r) = true) : (It.codes r = [] ∨ (It.codes r).head? = some 37) ∧ It.sep r = true := by
  cases r with
  | nil => exact ⟨.inl rfl, rfl⟩
  | cons a r' =>
    cases a with
    | lit y => exact absurd h (by simp [It.sep])
    | num n t => exact ⟨.inr rfl, h⟩
    | obj v => exact ⟨.inr rfl, h⟩
theorem span_lit {x r : List Nat} (hx : litOk x = true) (hr : r = [] ∨ r.head? = some 37) : List.span (· != 37) (x ++ r) = (x, r) := by
  have ha : x.all (· != 37) = true := by simp only [litOk, Bool.and_eq_true] at hx; exact hx.2
  have hall : ∀ a ∈ x, (a != 37) = true := by simpa using ha
  have go : ∀ (y z acc : List Nat), (∀ a ∈ y, (a != 37) = true) → (z = [] ∨ z.head? = some 37) → List.span.loop (· != 37) (y ++ z) acc = (acc.reverse ++ y, z) := by
    intro y
    induction y with
    | nil =>
      intro z acc _ hz
      cases z with
      | nil => simp [List.span.loop]
      | cons c z' =>
        rcases hz with h | h
        · exact absurd h (by simp)
        · simp at h; subst h; simp [List.span.loop]
    | cons c y ih =>
      intro z acc hy hz
      have hc := hy c List.mem_cons_self
      show List.span.loop _ (c :: (y ++ z)) acc = _
      simp only [List.span.loop, hc]
      rw [ih z (c :: acc) (fun a m => hy a (List.mem_cons_of_mem _ m)) hz]
      simp
  exact (go x r [] hall hr).trans (by simp)
theorem int_good {w : Writer} {T : PySem.Str} {N : Nat} {c : Percent} {n : Int} {d : List Nat} {o : Option Value} (g : KPc.Good w T N) (h1 : c.alt = false) (h2 : c.type = 100 ∨ c.type = 105 ∨ c.type = 117) (h3 : c.prec = none) (hn : 0 ≤ n) (hm : n < 10000000000)
    (hd : d = (PySem.Str.ofString (toString ((n.natAbs : Nat) : Int))).cps.toList) (ho : o = none) : KPc.Good (w.add ⟨(percentInt c (decide (n < 0)) d).toArray⟩ o) (T ++ PySem.Str.ofString (toString n)) (N + 10) := by
  have en : ((n.natAbs : Nat) : Int) = n := Int.natAbs_of_nonneg hn
  rw [KPc.int_text c h1 h2 h3 hn, hd, en]
  have eb : ∀ y : PySem.Str, (⟨y.cps.toList.toArray⟩ : PySem.Str) = y := fun y => congrArg PySem.Str.mk (Array.toArray_toList ..)
  rw [eb]
  exact KPc.good_mono (KPc.good_add g (KPc.obj_none ho)) (Nat.add_le_add_left (toString_length_le hn (by decide) (by omega)) _)
theorem str_good {w : Writer} {T y : PySem.Str} {N K : Nat} {o : Option Value} (g : KPc.Good w T N) (hy : y.length ≤ K) (ho : KPc.Obj o y) : KPc.Good (w.add ⟨y.cps.toList.toArray⟩ o) (T ++ y) (N + K) := by
  have eb : (⟨y.cps.toList.toArray⟩ : PySem.Str) = y := congrArg PySem.Str.mk (Array.toArray_toList ..)
  rw [eb]
  exact KPc.good_mono (KPc.good_add g ho) (Nat.add_le_add_left hy _)
inductive It.Txt : List It → PySem.Str → PySem.Str → Prop
  | nil (T : PySem.Str) : It.Txt [] T T
  | lit {x : List Nat} {r : List It} {T T' : PySem.Str} : It.Txt r (T ++ ⟨x.toArray⟩) T' → It.Txt (.lit x :: r) T T'
  | num {n : Int} {t : Tok} {r : List It} {T T' : PySem.Str} : It.Txt r (T ++ PySem.Str.ofString (toString n)) T' → It.Txt (.num n t :: r) T T'
  | obj {v : Value} {r : List It} {T T' Y : PySem.Str} : It.Txt r (T ++ Y) T' → It.Txt (.obj v :: r) T T'
theorem it_loop {L B Z : Nat} (hB : 1000 ≤ B) (hZ : Z ≤ 16000000) {f : Nat → List Value × Writer × List Nat → Sem (ForInStep (List Value × Writer × List Nat))} {Q : List Value × Writer × List Nat → Shared → Prop}
    (hlit : ∀ (i : Nat) (x r : List Nat) (args : List Value) (w : Writer) (s : Shared) (T : PySem.Str) (N : Nat) (Q' : ForInStep (List Value × Writer × List Nat) → Shared → Prop), P s → KPc.Good w T N → N ≤ 16000000 → litOk x = true → x.length ≠ L → (r = [] ∨ r.head? = some 37) →
      (∀ o, KPc.Obj o ⟨x.toArray⟩ → Q' (.yield (args, w.add ⟨x.toArray⟩ o, r)) s) → wpAny M A (f i (args, w, x ++ r)) Q' E s)
    (hnum : ∀ (i : Nat) (n : Int) (t : Tok) (r : List Nat) (args : List Value) (w : Writer) (s : Shared) (T : PySem.Str) (N : Nat) (Q' : ForInStep (List Value × Writer × List Nat) → Shared → Prop), P s → KPc.Good w T N → N ≤ 16000000 → 0 ≤ n → n < 10000000000 →
      (∀ w' k, KPc.Good w' (T ++ PySem.Str.ofString (toString n)) (N + 10) → Q' (.yield (args, w', r)) { s with toks := k }) → wpAny M A (f i (.int n t :: args, w, 37 :: 100 :: r)) Q' E s)
    (hobj : ∀ (i : Nat) (v : Value) (r : List Nat) (args : List Value) (w : Writer) (s : Shared) (T : PySem.Str) (N : Nat) (Q' : ForInStep (List Value × Writer × List Nat) → Shared → Prop), P s → KPc.Good w T N → N ≤ 16000000 → StrOfs B M A E P v →
      (∀ w' Y s', P s' → KPc.Good w' (T ++ Y) (N + B) → Q' (.yield (args, w', r)) s') → wpAny M A (f i (v :: args, w, 37 :: 115 :: r)) Q' E s)
    (hend : ∀ (i : Nat) (w : Writer) (s : Shared) (T : PySem.Str) (N : Nat) (Q' : ForInStep (List Value × Writer × List Nat) → Shared → Prop), P s → KPc.Good w T N → N ≤ 16000000 → Q' (.done ([], w, [])) s → wpAny M A (f i ([], w, [])) Q' E s)
    (htok : ∀ s k, P s → P { s with toks := k }) :
    ∀ (ps : List It) (l : List Nat) (w : Writer) (T : PySem.Str) (N : Nat) (s : Shared), (∀ p ∈ ps, It.ok L B M A E P p) → It.sep ps = true → P s → KPc.Good w T N → N + B * ps.length ≤ Z → ps.length < l.length → (∀ w' T' N' s', P s' → KPc.Good w' T' N' → N' ≤ Z → It.Txt ps T T' → Q ([], w', []) s') →
      wpAny M A (forIn l (It.args ps, w, It.codes ps) f) Q E s := by
  intro ps
  induction ps with
  | nil =>
    intro l w T N s _ _ hP g hN hl hq
    cases l with
    | nil => exact absurd hl (by simp)
    | cons i l => exact KPc.turn (hend i w s T N _ hP g (by simp at hN; omega) (hq w T N s hP g (by simpa using hN) (.nil T)))
  | cons p ps ih =>
    intro l w T N s hok hsep hP g hN hl hq
    rw [List.length_cons] at hN hl
    rw [Nat.mul_add, Nat.mul_one] at hN
    cases l with
    | nil => exact absurd hl (by simp)
    | cons i l =>
      have hl' : ps.length < l.length := by rw [List.length_cons] at hl; omega
      have hok' := fun q hq' => hok q (List.mem_cons_of_mem _ hq')
      have hp := hok p List.mem_cons_self
      cases p with
      | lit x =>
        obtain ⟨e1, e2⟩ := It.sep_head hsep
        have hx : litOk x = true := hp.1
        have hxl : (⟨x.toArray⟩ : PySem.Str).length ≤ 1000 := by
          simp only [litOk, Bool.and_eq_true, decide_eq_true_eq] at hx
          show x.toArray.size ≤ _
          simpa using hx.1.1
        refine KPc.turn (hlit i x _ _ w s T N _ hP g (by omega) hx hp.2 e1 fun o ho => ?_)
        exact ih l _ _ _ s hok' e2 hP (KPc.good_mono (KPc.good_add g ho) (Nat.add_le_add_left hxl _)) (by omega) hl' fun w' T' N' s' a b c d => hq w' T' N' s' a b c (.lit d)
      | num n t => exact KPc.turn (hnum i n t _ _ w s T N _ hP g (by omega) hp.1 hp.2 fun w' k g' => ih l w' _ _ _ hok' hsep (htok s k hP) g' (by omega) hl' fun w' T' N' s' a b c d => hq w' T' N' s' a b c (.num d))
      | obj v => exact KPc.turn (hobj i v _ _ w s T N _ hP g (by omega) hp fun w' Y s' hP' g' => ih l w' _ _ s' hok' hsep hP' g' (by omega) hl' fun w' T' N' s' a b c d => hq w' T' N' s' a b c (.obj d))
end
variable {prog : Program} {w : World} {A : Around} {E : Value → Shared → Prop} {C : Cx} {s : Shared} {loc : List (Str × Value)} {news news' : List (Addr × Obj)} {b : Addr} {t : Tok} {Q : Value → Shared → Prop}
theorem mod_open {X : Str} (hT : s.TypeIs (.ref b) "tuple") (h : wpAny (model prog w) A.in1 (Builtin.«str.__mod__» ⟨[.str X t, .ref b], []⟩) (fun fin s' => ∃ v, fin = .done (.ret v) ∧ v ≠ .notImplemented ∧ Q v s') E s) : wpAny (model prog w) A (binaryOp .Mod (.str X t) (.ref b)) Q E s :=
  KPt.bin_left (T := "str") (U := "tuple") (op := .Mod) (by decide) (typeIs_str s X t) hT PySem.F.fills_str_mod KPt.fills_tuple PySem.F.slot_str_mod
    (wpAny_call_entry PySem.F.slot_str_mod (typeIs_str s X t) PySem.F.entry_str_mod h (PySem.F.args_str_mod_2 _ _))
theorem r_fmtX {X : Str} {B : Nat} (hB : 1000 ≤ B ∧ B ≤ 1000000) (ps : List It) (hX : X.cps.toList = It.codes ps) (hlen : ps.length < X.cps.size) (hn : ps.length ≤ 15) (hsep : It.sep ps = true) (kptG : s.heap.get? b = some (tupOf (It.args ps).toArray)) (D : St C loc news s)
    (hok : ∀ p ∈ ps, It.ok X.length B (model prog w) A.in1 E (St C loc news) p) (h : ∀ X s' t, St C loc news s' → X.length ≤ 15 * B → It.Txt ps PySem.Str.empty X → Q (.str X t) s') : wpAny (model prog w) A (binaryOp .Mod (.str X t) (.ref b)) Q E s := by
  refine mod_open ⟨_, kptG, rfl⟩ ?_
  rw [KPt.entry_is_r]
  unfold Builtin.Str.percentFormat
  refine wpAny_bind (wpAny_isInstance (T := "tuple") ⟨_, kptG, rfl⟩ KPt.sub_tt ?_)
  refine wpAny_bind (KPt.asStr_ref kptG rfl ?_)
  refine wpAny_bind (KPt.fills_ref ⟨_, kptG, rfl⟩ ?_)
  intro _
  kpc_if
  refine wpAny_bind (wpAny_seqItems kptG rfl ?_)
  refine wpAny_bind (wpAny_pure ?_)
  refine wpAny_bind ?_
  rw [KPc.range_list, hX, List.toList_toArray]
  have hBn : B * ps.length ≤ 15 * B := by rw [Nat.mul_comm]; exact Nat.mul_le_mul_right _ hn
  refine it_loop (L := X.length) (B := B) (Z := 15 * B) (P := St C loc news) hB.1 (by omega) ?hlit ?hnum ?hobj ?hend (fun _ _ D => D.toks) ps _ _ PySem.Str.empty 0 s hok hsep D KPc.good0 (by rw [Nat.zero_add]; exact hBn) (by rw [List.length_range']; exact hlen) ?hq
  case hlit =>
    intro i x r args w s T N Q' D g hN hx hxL hr h'
    refine wpAny_ite (KPc.ite_no (KPc.short_good g (by omega)) ?_)
    have hne : (x ++ r).isEmpty = false := by
      simp only [litOk, Bool.and_eq_true] at hx
      cases x with
      | nil => simp at hx
      | cons => rfl
    have hne' : (!x.isEmpty) = true := by
      simp only [litOk, Bool.and_eq_true] at hx
      exact hx.1.2
    refine wpAny_ite (KPc.ite_no (fun e => Bool.noConfusion (hne.symm.trans e)) ?_)
    simp only [span_lit hx hr]
    refine wpAny_ite (KPc.ite_yes hne' ?_)
    refine wpAny_pure (h' _ ?_)
    exact KPc.obj_none (if_neg (by simpa using hxL))
  case hnum =>
    intro i n t r args w s T N Q' D g hN n0 n1 h'
    refine wpAny_ite (KPc.ite_no (KPc.short_good g (by omega)) ?_)
    (repeat kpc_if)
    refine wpAny_bind ?_; refine wpAny_holding ?_; (repeat kpc_if)
    refine wpAny_bind (wpAny_of_eq (a := n) rfl ?_); (repeat kpc_if)
    have hd : n.natAbs.log2 < 1920 := shown (N := 2 ^ 1920) (by omega) (Int.lt_of_lt_of_le n1 (by decide +kernel)) (Int.le_refl _)
    refine wpAny_bind (wpAny_mkInt ?_)
    refine wpAny_bind (call_gives F.slot_int_repr (typeIs_int _ _ _) F.entry_int_repr (F.args_int_repr_1 _) (gives_int_repr _ _ (KPt.hd2 hd)) ⟨int_text_fits (KPt.hd2 hd), ?_⟩)
    refine wpAny_bind (wpAny_of_eq (a := some _) rfl ?_)
    refine wpAny_pure ?_; refine wpAny_pure ?_
    refine h' _ _ (int_good g rfl (Or.inl rfl) rfl n0 n1 rfl ?_)
    exact ite_self _
  case hobj =>
    intro i v r args w s T N Q' D g hN hv h'
    refine wpAny_ite (KPc.ite_no (KPc.short_good g (by omega)) ?_)
    (repeat kpc_if)
    refine wpAny_bind ?_; refine wpAny_holding ?_; (repeat kpc_if)
    refine wpAny_bind (hv _ _ D fun Y tY sY DY hY => ?_)
    refine wpAny_bind (wpAny_of_eq (a := some _) rfl ?_)
    refine wpAny_pure ?_; refine wpAny_pure ?_
    refine h' _ _ _ DY (str_good g hY ?_)
    split
    · exact KPc.obj_some rfl
    · exact KPc.obj_none rfl
  case hend =>
    intro i w s T N Q' D g hN h'
    refine wpAny_ite (KPc.ite_no (KPc.short_good g (by omega)) ?_)
    kpc_if
    exact wpAny_pure h'
  case hq =>
    intro w T N s D g hN hT
    kpc_if
    exact KPc.finish_ok g (by omega) rfl fun t' k => ⟨_, rfl, (fun e => nomatch e), h _ _ _ D.toks (Nat.le_trans g.len hN) hT⟩
theorem r_fmt {X : Str} {B : Nat} (hB : 1000 ≤ B ∧ B ≤ 1000000) (ps : List It) (hX : X.cps.toList = It.codes ps) (hlen : ps.length < X.cps.size) (hn : ps.length ≤ 15) (hsep : It.sep ps = true) (D : St C loc news s) (hb : (b, tupOf (It.args ps).toArray) ∈ news)
    (hok : ∀ p ∈ ps, It.ok X.length B (model prog w) A.in1 E (St C loc news) p) (h : ∀ X s' t, St C loc news s' → X.length ≤ 15 * B → Q (.str X t) s') : wpAny (model prog w) A (binaryOp .Mod (.str X t) (.ref b)) Q E s :=
  r_fmtX hB ps hX hlen hn hsep (D.get hb) D hok fun X s' t D' hl _ => h X s' t D' hl
end

abbrev excB : List Value := [.type "Exception", .type "BaseException", .type "object"]
theorem own_obj {K : Frag} {h : Heap} {C : Addr} {bmB : List Value} {newId : String} (X : K.In h) (q : excIn K C bmB newId = true) :
    ∃ bm N nm q bs hdct sn sub ab col dd k0 k1 k2 k3 k5 mN, h.get? C = some (excClassObj nm q C N bs bm hdct sn sub ab col dd k0 k1 k2 k3 k5 newId) ∧ h.Ns N mN ∧ mN "__init__" = none ∧ OwnTail h bmB bm := by
  unfold excIn at q
  split at q
  · rename_i dd cd sl ho
    split at q
    · rename_i C' bm k0 k1 k2 k3 n k5 hm hs
      simp only [Bool.and_eq_true, beq_iff_eq, Bool.not_eq_true'] at q
      obtain ⟨⟨⟨⟨⟨rfl, rfl⟩, hdel⟩, ht⟩, hok⟩, hni⟩ := q
      obtain ⟨nm, bs, mro, ns, qn, hd, sn, sub, ab, col, del⟩ := cd
      dsimp only at hm hdel hok hni
      subst hm hdel
      have hsl : sl = #[k0, k1, k2, k3, some (.builtin n), k5] := by
        obtain ⟨l⟩ := sl
        simp only at hs
        rw [hs]
      subst hsl
      exact ⟨bm, ns, nm, qn, bs, hd, sn, sub, ab, col, dd, k0, k1, k2, k3, k5, _, X _ _ ho, .of_isNs (isNs_of_in X hok), nsMap_none_of_in X hok hni, tail_of_in X ht⟩
    · cases q
  · cases q
section
set_option maxRecDepth 100000
open Builtin Builtin.Str
variable {prog : Program} {w : World} {A : Around} {E : Value → Shared → Prop} {C : Cx} {s : Shared} {mg mb : Str → Option Value} {loc : List (Str × Value)} {news news' : List (Addr × Obj)} {b : Addr} {t : Tok} {Q : Value → Shared → Prop}
theorem call_bexcStr_own {K : Frag} {c e tp : Addr} {tb cx : Value} {m : Str} {tk : Tok} (X : K.In s.heap) (h2 : subIn K (.ref c) (.type "BaseException") = some true)
    (he : s.heap.get? e = some (excObj (.ref c) tp tb cx)) (ht : s.heap.get? tp = some (tupOf #[.str m tk])) (hq : Q (.str m tk) s) : wpAny (model prog w) A (call (.builtin "BaseException.__str__") [.ref e]) Q E s := by
  have hI : ∀ {M : Model}, Looks M s.heap (isInstance (.ref e) (.type "BaseException")) true := by
    intro M A Q E s' hk hq
    unfold isInstance
    have he' := hk _ _ he
    have L := (looks_subIn (M := M) X h2) A Q E s' hk hq
    repeat (first | with_reducible exact L | (with_reducible refine wpAny_loadPart_at he' ?_) | wp_step)
  refine wpAny_call (codeAny_call_builtin F.excStr_Exception.str.plain F.entry_bexc_str ?_)
  refine check_slot (i := "BaseException.__str__") (owner := "BaseException") (n := "__str__") (by decide +kernel) (by decide +kernel) hI (F.args_bexc_str _) ?_
  have hb : ∀ {M : Model} {A : Around} {E : Value → Shared → Prop} {Q : Value × List Value → Shared → Prop}, Q (.ref tp, [.str m tk]) s → wpAny M A (Builtin.BaseException.bexcArgs (.ref e)) Q E s := by
    intro M A E Q hq
    unfold Builtin.BaseException.bexcArgs
    refine wpAny_bind (wpAny_field (x := .ref tp) he rfl rfl (wpAny_bind (wpAny_seqItems ht rfl ?_)))
    exact wpAny_pure hq
  unfold Builtin.«BaseException.__str__»
  repeat (first | with_reducible refine hb ?_ | wp_step)
  exact hq
/-- the text of an own exception with one text -/
theorem strOf_own {K : Frag} {c e tp : Addr} {tb cx : Value} {m : Str} {tk : Tok} (X : K.In s.heap) (h1 : findIn K (.ref c) "__str__" = some (some (.builtin "BaseException.__str__"))) (h2 : subIn K (.ref c) (.type "BaseException") = some true)
    (he : s.heap.get? e = some (excObj (.ref c) tp tb cx)) (ht : s.heap.get? tp = some (tupOf #[.str m tk])) (hu : A.units < cLine) (hq : Q (.str m tk) s) : wpAny (model prog w) A (Builtin.Str.strOf (.ref e)) Q E s := by
  unfold Builtin.Str.strOf
  rw [if_neg (show ¬ (isExactStr (.ref e) = true) from fun q => Bool.noConfusion q)]
  repeat (first | with_reducible refine wpAny_cRoomFor hu ?_ | wp_step)
  refine (looks_findIn X h1).here ?_
  dsimp only
  with_reducible refine wpAny_holding ?_
  with_reducible refine wpAny_bind (wpAny_of_eq (F.excStr_Exception.str.bind _) ?_)
  dsimp only
  with_reducible refine wpAny_bind (call_bexcStr_own X h2 he ht ?_)
  repeat wp_step
  exact hq
theorem nats_reads {h : Heap} : ∀ {vs : List Value} {ns : List Nat}, Nats vs ns → ReadsAll h vs (ns.map fun n : Nat => PyData.int n) []
  | _, _, .nil => .nil
  | _, _, .cons ⟨t, e⟩ r => by subst e; exact ReadsAll.cons (as := []) (bs := []) (.int _ t) (nats_reads r)
theorem nats_depth : ∀ ns : List Nat, PyData.depthAll (ns.map fun n : Nat => PyData.int n) ≤ 1
  | [] => by simp [PyData.depthAll]
  | n :: ns => by
    have := nats_depth ns
    simp only [List.map_cons, PyData.depthAll, PyData.depth]
    omega
theorem nats_show : ∀ ns : List Nat, (∀ n ∈ ns, n < 100000) → PyData.showableAll (ns.map fun n : Nat => PyData.int n) = true ∧ ((PyData.shownAll (ns.map fun n : Nat => PyData.int n)).map (·.length)).sum ≤ 10 * ns.length ∧ (PyData.shownAll (ns.map fun n : Nat => PyData.int n)).length = ns.length
  | [], _ => by simp [PyData.showableAll, PyData.shownAll]
  | n :: ns, h => by
    obtain ⟨a, b, c⟩ := nats_show ns fun k hk => h k (.tail _ hk)
    have hn := h n (.head _)
    have d : ((n : Int)).natAbs.log2 < 1920 := shown (N := 2 ^ 1920) (by omega) (Int.lt_of_lt_of_le (b := 100000) (by omega) (by decide +kernel)) (Int.le_refl _)
    have e : (PyData.shown (.int (n : Int))).length ≤ 10 := by
      show (PySem.Str.ofString (toString (n : Int))).length ≤ 10
      exact toString_length_le (k := 10) (by omega) (by decide) (by omega)
    simp only [List.map_cons, PyData.showableAll, PyData.showable, PyData.shownAll, List.sum_cons, List.length_cons, Bool.and_eq_true, decide_eq_true_eq]
    exact ⟨⟨d, a⟩, by omega, by omega⟩
theorem strOf_tup {vs : List Value} {ns : List Nat} {a : Addr} (D : St C loc news s) (hm : (a, tupOf vs.toArray) ∈ news) (hv : Nats vs ns) (hr : ns.length ≤ 100) (hz : ∀ n ∈ ns, n < 100000) (hg : A.guards = some []) (hu : A.units + 5 < cLine)
    (h : ∀ Y t s', St C loc news s' → Y.length ≤ 1000000 → Q (.str Y t) s') : wpAny (model prog w) A (Builtin.Str.strOf (.ref a)) Q E s := by
  obtain ⟨h1, h2, h3⟩ := nats_show ns hz
  have h4 := nats_depth ns
  have hl : (PyData.shown (.tuple (ns.map fun n : Nat => PyData.int n))).length ≤ 10000 := by
    have e := tupleText_len_le (PyData.shownAll (ns.map fun n : Nat => PyData.int n))
    have e2 : PyData.shown (.tuple (ns.map fun n : Nat => PyData.int n)) = tupleText (PyData.shownAll (ns.map fun n : Nat => PyData.int n)) := by simp only [PyData.shown]
    rw [e2]
    omega
  refine strOf_of_reads (h₀ := s.heap) (d := .tuple (ns.map fun n : Nat => PyData.int n)) (as := []) (.tuple (D.get hm) rfl rfl (nats_reads hv)) ?_ (fun _ => List.not_mem_nil) hg ?_ (fun _ _ e => e) ?_ (Nat.le_trans hl (by rw [sizeLine_eq]; decide))
  · simp only [PyData.showable]; exact h1
  · simp only [PyData.depth]; omega
  · intro h' u tk hk
    refine h _ _ { s with heap := h', toks := tk } (D.after (s' := { s with heap := h', toks := tk }) (S' := []) (Rel.of_keeps hk) (fun _ z => nomatch z) ⟨rfl, rfl, rfl⟩ [] news rfl (fun p hp => hk _ _ (D.get (o := p.2) hp)) List.nodup_nil (fun _ z => nomatch z)) (by omega)
end
section
variable {prog : Program} {w : World} {A : Around} {E : Value → Shared → Prop} {s : Shared} {env : Env}
theorem raiseStmt_ex {x : Sem Value} {Q : Flow → Shared → Prop} {K : Frag} {C : Addr} (q : excIn K C excB "Exception.__new__" = true)
    (h : wpAny (model prog w) A x (fun v s₁ => ∃ e t, v = .ref e ∧ K.In s₁.heap ∧ s₁.heap.get? e = some (excObj (.ref C) t .none .none) ∧ wpAny (model prog w) A (raiseNew (.ref e) : Sem Flow) Q E s₁) E s) :
    wpAny (model prog w) A (raiseStmt env (some x) none) Q E s := by
  unfold raiseStmt
  refine wpAny_bind (wpAny_mono h (fun v s₁ h₁ => ?_) fun _ _ x => x)
  obtain ⟨e, t, rfl, X, he, hE⟩ := h₁
  obtain ⟨bm, N, nm, q', bs, hdct, sn, sub, ab, col, dd, k0, k1, k2, k3, k5, mN, hC, hN, hni, T⟩ := own_obj X q
  have hcB : (Value.ref C :: bm).contains (.type "BaseException") = true := by rw [List.contains_cons, T.hasType (b := true) (by decide), Bool.or_true]
  obtain ⟨hp, g, d, tk, os⟩ := s₁
  repeat (first | with_reducible refine wpAny_loadPart_at he ?_ | with_reducible refine wpAny_loadPart_at hC ?_ | (with_reducible refine wpAny_isSubtype_exc hC ?_; rw [hcB]) | wp_step)
  exact hE
theorem raise_ex {K : Frag} {C : Addr} {x : Str} {np cpos pos : Pos} {args : List Expr} {Q : Flow → Shared → Prop} (q : excIn K C excB "Exception.__new__" = true) (hplain : (backTo cpos (starEach args env)).any (·.1) = false)
    (h : wpAny (model prog w) A (eval (.Name x np) env) (fun f s₁ => f = .ref C ∧ wpAny (model prog w) A (evalArgs (.ref C) true (backTo cpos (starEach args env)) [])
      (fun a s₂ => a.kw = [] ∧ a.pos.length ≤ 100 ∧ K.In s₂.heap ∧ ∀ h' e, Heap.MadeExcOf s₂.heap h' e (.ref C) a.pos → wpAny (model prog w) A (raiseNew (.ref e) : Sem Flow) Q E { s₂ with heap := h' }) E s₁) E s) :
    wpAny (model prog w) A (exec (.Raise (some (.Call (.Name x np) args [] cpos)) none pos) env) Q E s := by
  rw [arm_exec_Raise]
  refine wpAny_bind (wpAny_standAt (raiseStmt_ex q (wpAny_bind (wpAny_mono (wpAny_Call_ofName (wpAny_mono h (fun f s₁ h₁ => ?_) fun _ _ x => x)) (fun v s₃ h₃ => wpAny_bind (wpAny_standAt (wpAny_pure h₃))) fun _ _ x => x))))
  obtain ⟨rfl, h₁⟩ := h₁
  unfold callWith
  refine wpAny_bind (wpAny_holding (wpAny_mono h₁ (fun a s₂ h₂ => wpAny_bind (wpAny_standAt ?_)) fun _ _ x => x))
  obtain ⟨apos, akw⟩ := a
  obtain ⟨hkw, hlen, X, h₂⟩ := h₂
  obtain ⟨bm, N, nm, q', bs, hdct, sn, sub, ab, col, dd, k0, k1, k2, k3, k5, mN, hC, hN, hni, T⟩ := own_obj X q
  obtain rfl : akw = [] := hkw
  obtain ⟨hp, g, d, tk, os⟩ := s₂
  simp only [hplain]
  refine wpAny_bind (wpAny_keeperOf_exc hC ?_)
  refine wpAny_bind (wpAny_call_exc_subT (hrest := Nat.le_trans hlen (by rw [sizeLine_eq]; decide)) F.excBase_Exception T hC hN hni fun h' e hm => wpAny_bind (wpAny_holding (wpAny_point (wpAny_pure ?_))))
  obtain ⟨t, ht, _, _⟩ := hm.there
  exact ⟨e, t, rfl, X.keeps hm.keeps, ht, h₂ h' e hm⟩
theorem entry_unchain : entryFor table "proto.unchain" = some Builtin.«proto.unchain» := entryFor_of_tree (by kernel_rfl)
/-- a new exception goes up while another is handled -/
theorem raiseNew_in {α : Type} {e e1 t1 : Addr} {c1 tb : Value} {Q : α → Shared → Prop} (hh : A.handled = some (.ref e1)) (ne : e1 ≠ e) (h1 : s.heap.get? e1 = some (excObj c1 t1 tb .none)) {o : Obj} (he : s.heap.get? e = some o) {c : Value} {t : Addr} (ho : o = excObj c t .none .none)
    (h : E (.ref e) { s with heap := s.heap.update e (Obj.mapFields (·.setIfInBounds 2 (.ref e1))) }) : wpAny (model prog w) A (raiseNew (.ref e) : Sem α) Q E s := by
  subst ho
  unfold raiseNew
  refine wpAny_bind (wpAny_handled ?_)
  rw [hh]
  have nb : (Value.ref e1 != Value.ref e) = true := by simp [ne]
  dsimp only
  rw [if_pos nb]
  refine wpAny_bind (wpAny_holding (wpAny_runValue (codeAny_builtin entry_unchain ?_)))
  unfold Builtin.«proto.unchain»
  dsimp only
  refine wpAny_bind (wpAny_field (x := .none) h1 rfl rfl ?_)
  rw [if_pos (by decide)]
  refine wpAny_pure ?_
  show wpAny _ _ (do setField (.ref e) 2 (.ref e1); throw (Value.ref e)) _ _ _
  exact wpAny_bind (wpAny_setField he rfl (by show 2 < 6; omega) (wpAny_throw h))
/-- raise of an own exception, nothing handled -/
theorem raise_own {K : Frag} {C : Addr} {x : Str} {np cpos pos : Pos} {args : List Expr} {Q : Flow → Shared → Prop} (hh : A.handled = none) (q : excIn K C excB "Exception.__new__" = true) (hplain : (backTo cpos (starEach args env)).any (·.1) = false)
    (h : wpAny (model prog w) A (eval (.Name x np) env) (fun f s₁ => f = .ref C ∧ wpAny (model prog w) A (evalArgs (.ref C) true (backTo cpos (starEach args env)) [])
      (fun a s₂ => a.kw = [] ∧ a.pos.length ≤ 100 ∧ K.In s₂.heap ∧ ∀ h' e, Heap.MadeExcOf s₂.heap h' e (.ref C) a.pos → E (.ref e) { s₂ with heap := h' }) E s₁) E s) :
    wpAny (model prog w) A (exec (.Raise (some (.Call (.Name x np) args [] cpos)) none pos) env) Q E s :=
  raise_ex q hplain (wpAny_mono h (fun f s₁ h₁ => ⟨h₁.1, wpAny_mono h₁.2 (fun a s₂ h₂ => ⟨h₂.1, h₂.2.1, h₂.2.2.1, fun h' e m => wpAny_raiseNew_none hh (h₂.2.2.2 h' e m)⟩) fun _ _ x => x⟩) fun _ _ x => x)
theorem MadeX.in_ {h h' : Heap} {e e1 : Addr} {cls : Value} {args : List Value} (m : Heap.MadeExcOf h h' e cls args) : ∃ t, MadeX h (h'.update e (Obj.mapFields (·.setIfInBounds 2 (.ref e1)))) e cls args t (.ref e1) := by
  obtain ⟨t, k, n, tn, ea, ta⟩ := Made.x m
  have te : t ≠ e := fun q => by rw [q, ea] at ta; cases ta
  refine ⟨t, fun b o hb => ?_, n, tn, ?_, ?_⟩
  · have : b ≠ e := fun q => by rw [q, n] at hb; cases hb
    rw [Heap.get?_update_other _ _ (Ne.symm this)]
    exact k b o hb
  · exact Heap.get?_update_self (Obj.mapFields (·.setIfInBounds 2 (Value.ref e1))) ea rfl
  · rw [Heap.get?_update_other _ _ (Ne.symm te)]
    exact ta
/-- raise of an own exception while another is handled -/
theorem raise_own_in {K : Frag} {C e1 : Addr} {x : Str} {np cpos pos : Pos} {args : List Expr} {Q : Flow → Shared → Prop} (hh : A.handled = some (.ref e1)) (q : excIn K C excB "Exception.__new__" = true) (hplain : (backTo cpos (starEach args env)).any (·.1) = false)
    (h : wpAny (model prog w) A (eval (.Name x np) env) (fun f s₁ => f = .ref C ∧ wpAny (model prog w) A (evalArgs (.ref C) true (backTo cpos (starEach args env)) [])
      (fun a s₂ => a.kw = [] ∧ a.pos.length ≤ 100 ∧ K.In s₂.heap ∧ (∃ c1 t1 tb, s₂.heap.get? e1 = some (excObj c1 t1 tb .none)) ∧ ∀ h' e t, MadeX s₂.heap h' e (.ref C) a.pos t (.ref e1) → E (.ref e) { s₂ with heap := h' }) E s₁) E s) :
    wpAny (model prog w) A (exec (.Raise (some (.Call (.Name x np) args [] cpos)) none pos) env) Q E s := by
  refine raise_ex q hplain (wpAny_mono h (fun f s₁ h₁ => ⟨h₁.1, wpAny_mono h₁.2 (fun a s₂ h₂ => ⟨h₂.1, h₂.2.1, h₂.2.2.1, fun h' e m => ?_⟩) fun _ _ x => x⟩) fun _ _ x => x)
  obtain ⟨_, _, _, ⟨c1, t1, tb, he1⟩, hk⟩ := h₂
  obtain ⟨t, mx⟩ := MadeX.in_ (e1 := e1) m
  have hne : e1 ≠ e := fun z => by have n := m.new; rw [← z, he1] at n; cases n
  obtain ⟨t', m1, m2, m3⟩ := m.there
  exact raiseNew_in (s := { s₂ with heap := h' }) hh hne (m.keeps _ _ he1) m1 rfl (hk _ _ _ mx)
end

section
set_option maxRecDepth 100000
variable {prog : Program} {w : World} {A : Around} {E : Value → Shared → Prop} {C : Cx} {s s' : Shared} {mg mb : Str → Option Value} {loc : List (Str × Value)} {news news' : List (Addr × Obj)} {name : Str} {scope : Scope} {a : Addr} {cd : Value}
/-- what a call has thrown, told whole -/
structure ThrewX (fs : List Addr) (s₀ : Shared) (e : Addr) (cls : Value) (t : Addr) (args : List Value) (cx : Value) (s' : Shared) : Prop where
  flew : FlewX fs s₀.heap e cls t args .none cx s'.heap
  same : Same s₀ s'
theorem ThrewX.threw {fs : List Addr} {s₀ : Shared} {e t : Addr} {cls cx : Value} {args : List Value} (f : ThrewX fs s₀ e cls t args cx s') : Threw fs s₀ e cls t args s' := ⟨f.flew.flew, f.same⟩
theorem FlewX.out {e t : Addr} {cls fl cx : Value} {args : List Value} {h : Heap} (f : FlewX (C.L :: C.fs) s.heap e cls t args fl cx h) (D : St C loc news s) (hS : C.S = []) : FlewX C.fs C.s₀.heap e cls t args fl cx h := by
  have x : Rel [] C.fs C.s₀.heap s.heap := by have := D.toRel; rwa [hS] at this
  have fo := (f.flew.out D hS).rel
  obtain ⟨r, n, tn, ⟨T', oT, ts, h1, h2, h3, h4, h5, h6, h7⟩, tp⟩ := f
  exact ⟨fo, x.none_of n, x.none_of tn, ⟨T', oT, ts, h1, x.none_of h2, h3, h4, h5, h6, h7⟩, tp⟩
theorem leave_madeX {e t : Addr} {cls cx : Value} {args : List Value} {Q : Unit → Shared → Prop} (D : St C loc news s) (W : WF w mg mb C.s₀.heap) (K : Frames A C.fs C.s₀.heap) (hS : C.S = []) (hk : scope.kind = .function) (f : MadeX s.heap s'.heap e cls args t cx) (same : Same s s')
    (h : ∀ s'', ThrewX C.fs C.s₀ e cls t args cx s'' → Q () s'') : wpAny (model prog w) (A.deeper (envOf name scope C.L a cd)) (leaving (envOf name scope C.L a cd) (.ref e)) Q E s' := by
  obtain ⟨outer, hf1, hf2, hf3⟩ := frames_here (name := name) (a := a) (cd := cd) D W K (by rw [hS]; exact fun _ _ z => nomatch z) hk
  exact xx_leave_made hf1 rfl hf3 hf2 f fun h' f' => h _ ⟨f'.out D hS, D.same.trans (same.trans ⟨rfl, rfl, rfl⟩)⟩
theorem leave_threwX {e t : Addr} {cls cx : Value} {args : List Value} {Q : Unit → Shared → Prop} (D : St C loc news s) (W : WF w mg mb C.s₀.heap) (K : Frames A C.fs C.s₀.heap) (hS : C.S = []) (hk : scope.kind = .function) (f : ThrewX (C.L :: C.fs) s e cls t args cx s')
    (h : ∀ s'', ThrewX C.fs C.s₀ e cls t args cx s'' → Q () s'') : wpAny (model prog w) (A.deeper (envOf name scope C.L a cd)) (leaving (envOf name scope C.L a cd) (.ref e)) Q E s' := by
  obtain ⟨outer, hf1, hf2, hf3⟩ := frames_here (name := name) (a := a) (cd := cd) D W K (by rw [hS]; exact fun _ _ z => nomatch z) hk
  exact xx_leave hf1 rfl hf3 hf2 f.flew fun h' f' => h _ ⟨f'.out D hS, D.same.trans (f.same.trans ⟨rfl, rfl, rfl⟩)⟩
/-- an exception comes to the clauses; it joins the ledger -/
theorem caught {e t : Addr} {cls fl cx : Value} {args : List Value} (D : St C loc news s) (K : Frames A C.fs C.s₀.heap) (dis : ∀ b ∈ C.fs, b ∉ C.S) (f : FlewX (C.L :: C.fs) s.heap e cls t args fl cx s'.heap) (same : Same s s') :
    ∃ T oT ts, St C loc ((e, excObj cls t (.ref T) cx) :: (t, tupOf args.toArray) :: (T, oT) :: news) s' ∧ oT.data = .fields ts ∧ 3 < ts.size := by
  obtain ⟨r, n, tn, ⟨T', oT, ts, h1, h2, h3, h4, h5, h6, h7⟩, tp⟩ := f
  have te : e ≠ t := fun q => by rw [q, tp] at h1; cases h1
  refine ⟨T', oT, ts, D.after (S' := []) r (fun _ z => nomatch z) same [(e, excObj cls t (.ref T') cx), (t, tupOf args.toArray), (T', oT)] news rfl (fun p hp => ?_) ?_ (fun p hp => ?_), h6, (Array.getElem?_eq_some_iff.mp h7).1⟩
  · rcases List.mem_append.mp hp with hp | hp
    · simp only [List.mem_cons, List.not_mem_nil, or_false] at hp
      rcases hp with rfl | rfl | rfl <;> assumption
    · exact r.keep _ _ (fun z => nomatch z) (D.noFrame K dis hp) (D.get (o := p.2) hp)
  · simp [te, h3, h4, Ne.symm h3, Ne.symm h4]
  · simp only [List.mem_cons, List.not_mem_nil, or_false] at hp
    rcases hp with rfl | rfl | rfl <;> assumption
/-- it is noted here and lands -/
theorem catch_start {e t : Addr} {cls cx : Value} {args : List Value} {R : Shared → Prop} (D : St C loc news s) (W : WF w mg mb C.s₀.heap) (K : Frames A C.fs C.s₀.heap) (dis : ∀ b ∈ C.fs, b ∉ C.S) (hk : scope.kind = .function)
    (f : ThrewX (C.L :: C.fs) s e cls t args cx s')
    (k : ∀ T oT ts s₄, St C loc ((e, excObj cls t (.ref T) cx) :: (t, tupOf args.toArray) :: (T, oT) :: news) s₄ → oT.data = .fields ts → 3 < ts.size → FlewX (C.L :: C.fs) s.heap e cls t args .none cx s₄.heap → Same s s₄ → R s₄) :
    wpAny (model prog w) (A.deeper (envOf name scope C.L a cd)) (noteFrame (.ref e) (envOf name scope C.L a cd)) (fun _ s₂ => wpAny (model prog w) (A.deeper (envOf name scope C.L a cd)) (setFlight (.ref e) none) (fun _ s₃ => R s₃) E s₂) E s' := by
  obtain ⟨outer, hf1, hf2, hf3⟩ := frames_here (name := name) (a := a) (cd := cd) D W K dis hk
  refine xx_note hf1 rfl hf3 hf2 f.flew fun h' f' => xx_set f' none fun h'' f'' => ?_
  obtain ⟨T, oT, ts, D', h1, h2⟩ := caught D K dis f'' (s' := { s' with heap := h'' }) (f.same.trans ⟨rfl, rfl, rfl⟩)
  exact k T oT ts _ D' h1 h2 f'' (f.same.trans ⟨rfl, rfl, rfl⟩)
theorem Alt.cases {x : Addr} {o o' : Obj} (U : Alt x o o' news news') (hn : (news.map (·.1)).Nodup) {p : Addr × Obj} (hp : p ∈ news') : p = (x, o') ∨ (p.1 ≠ x ∧ p ∈ news) := by
  obtain ⟨r, h1, h2⟩ := U.perm
  rcases List.mem_cons.mp (h2.mem_iff.mp hp) with z | z
  · exact .inl z
  · have hn' := (h1.map (·.1)).nodup_iff.mp hn
    rw [List.map_cons, List.nodup_cons] at hn'
    exact .inr ⟨fun q => hn'.1 (by have := List.mem_map_of_mem (f := (·.1)) z; rwa [q] at this), h1.mem_iff.mpr (.tail _ z)⟩
/-- one object of the ledger is changed -/
theorem St.alter {x : Addr} {o o' : Obj} (D : St C loc news s) (hx : (x, o) ∈ news) {h' : Heap} (e1 : h'.get? x = some o') (e2 : ∀ b, b ≠ x → h'.get? b = s.heap.get? b) (same : Same s s') (eh : s'.heap = h') (U : Alt x o o' news news') : St C loc news' s' := by
  subst eh
  refine D.after (s' := s') (S' := [x]) ⟨fun b o n m q => ?_, fun b o n m q => ?_⟩ (fun b hb => by simp at hb; subst hb; exact List.mem_map_of_mem (f := (·.1)) hx) same [] news' U.keys (fun p hp => ?_) List.nodup_nil (fun _ z => nomatch z)
  · rw [e2 b (by simpa using n)]; exact q
  · exact ⟨o.slots, by rw [e2 b (by simpa using n)]; exact q⟩
  · rcases U.cases D.ord hp with rfl | ⟨z1, z2⟩
    · exact e1
    · rw [e2 _ z1]; exact D.get (o := p.2) z2
/-- the mark of a held exception's flight is taken off -/
theorem r_setFlight {e T : Addr} {t : Addr} {cls cx : Value} {oT : Obj} {ts : Array Value} {Q : Unit → Shared → Prop} (D : St C loc news s) (he : (e, excObj cls t (.ref T) cx) ∈ news) (hT : (T, oT) ∈ news) (hd : oT.data = .fields ts) (hz : 3 < ts.size) (fr : Option Addr)
    (h : ∀ oT' s', (∀ news', Alt T oT oT' news news' → St C loc news' s') → Q () s') : wpAny (model prog w) A (setFlight (.ref e) fr) Q E s := by
  unfold setFlight
  refine wpAny_bind (wpAny_field (x := .ref T) (D.get he) rfl rfl ?_)
  rw [if_pos (show (Value.ref T != Value.none) = true from by simp)]
  have g := D.get hT
  refine wpAny_setField g hd hz (h (oT.mapFields (·.setIfInBounds 3 (fr.elim Value.none fun f => rawInt f))) _ fun news' U => ?_)
  exact D.alter hT (Heap.get?_update_self _ g (Obj.isFreed_of_fields (Obj.data_mapFields hd _))) (fun b hb => Heap.get?_update_other _ _ (Ne.symm hb)) ⟨rfl, rfl, rfl⟩ rfl U
/-- two own classes in a clause, the first matches -/
theorem matches_tup2 {M : Model} {K : Frag} {tp e c1 c2 : Addr} {o : Obj} {Q : Bool → Shared → Prop} (X : K.In s.heap) (ht : s.heap.get? tp = some (tupOf #[.ref c1, .ref c2])) (he : s.heap.get? e = some o) (hc : o.cls = .ref c1) (q1 : excIn K c1 excB "Exception.__new__" = true) (q2 : excIn K c2 excB "Exception.__new__" = true)
    (h : Q true s) : wpAny M A (excMatches (.ref e) (.ref tp)) Q E s := by
  obtain ⟨bm, N, nm, q', bs, hdct, sn, sub, ab, col, dd, k0, k1, k2, k3, k5, mN, hC, hN, hni, T⟩ := own_obj X q1
  obtain ⟨bm', N', nm', q'', bs', hdct', sn', sub', ab', col', dd', k0', k1', k2', k3', k5', mN', hC', hN', hni', T'⟩ := own_obj X q2
  have hcB : (Value.ref c1 :: bm).contains (.type "BaseException") = true := by rw [List.contains_cons, T.hasType (b := true) (by decide), Bool.or_true]
  have hcB' : (Value.ref c2 :: bm').contains (.type "BaseException") = true := by rw [List.contains_cons, T'.hasType (b := true) (by decide), Bool.or_true]
  have hcC : (Value.ref c1 :: bm).contains (.ref c1) = true := by simp
  obtain ⟨hp, g, d, tk, os⟩ := s
  unfold excMatches
  refine wpAny_bind (wpAny_isInstance (T := "tuple") ⟨_, ht, rfl⟩ isSubtype_tuple_tuple ?_)
  dsimp only
  rw [if_pos rfl]
  refine wpAny_bind (wpAny_seqItems ht rfl ?_)
  dsimp only [Option.getD_some, Option.getD]
  repeat (first | (with_reducible refine wpAny_loadPart_at he ?_; rw [hc]) | with_reducible refine wpAny_loadPart_at hC ?_ | with_reducible refine wpAny_loadPart_at hC' ?_ | (with_reducible refine wpAny_isSubtype_exc hC ?_; first | rw [hcB] | rw [hcC]) | (with_reducible refine wpAny_isSubtype_exc hC' ?_; rw [hcB']) | wp_step)
  exact h
/-- an exception raised by a clause's suite leaves it -/
theorem as_raised {n : Str} {pos : Pos} {e e1 t : Addr} {cls cx : Value} {args : List Value} (D : St C loc news s) (W : WF w mg mb C.s₀.heap) (K : Frames A C.fs C.s₀.heap) (hS : C.S = []) (hk : scope.kind = .function) (f : MadeX s.heap s'.heap e cls args t cx) (same : Same s s')
    (hl : (envOf name scope C.L a cd).kindOf n = some .local)
    (hE : ∀ s'', FlewX C.fs C.s₀.heap e cls t args (rawInt C.L) cx s''.heap → Same C.s₀ s'' → E (.ref e) s'') :
    AsSuiteRaised (model prog w) ((A.deeper (envOf name scope C.L a cd)).mark (some (.ref e1))) (envOf name scope C.L a cd) n pos (notedBy (model prog w) ((A.deeper (envOf name scope C.L a cd)).mark (some (.ref e1))) (envOf name scope C.L a cd) (cameBackBy (model prog w) (A.deeper (envOf name scope C.L a cd)) (envOf name scope C.L a cd) E)) (.ref e) s' := by
  obtain ⟨outer, hf1, hf2, hf3⟩ := frames_here (name := name) (a := a) (cd := cd) D W K (by rw [hS]; exact fun _ _ z => nomatch z) hk
  refine xx_note_made hf1 rfl hf3 hf2 f fun h' f' => ?_
  have D₁ : St C loc news { s' with heap := h' } := D.calm K (by rw [hS]; exact fun _ _ z => nomatch z) f'.rel (same.trans ⟨rfl, rfl, rfl⟩)
  have f₁ : FlewX C.fs C.s₀.heap e cls t args (rawInt C.L) cx h' := f'.out D hS
  have same₁ : Same C.s₀ s' := D.same.trans same
  have hge := D₁.ge
  obtain ⟨⟨g, m, x, F, N, lc⟩, _⟩ := D₁
  refine wpAny_nameGoes hl F.ns (by show (scope.kind == .class || (scope.kind == .module && _)) = false; rw [hk]; rfl) fun h₂ m₂ hn₂ hs₂ => ?_
  have nL : ∀ b o, C.s₀.heap.get? b = some o → b ≠ C.L := fun b o q z => by
    subst z; exact absurd (Nat.lt_of_lt_of_le (Heap.lt_size q) hge) (Nat.lt_irrefl _)
  have dL : ∀ b o vs, h'.get? b = some o → o.data = .fields vs → b ≠ C.L := fun b o vs q1 q2 z => by
    obtain ⟨oL, es, ep, hL, hd, _⟩ := F.ns
    subst z
    have hL' : h'.get? C.L = some oL := hL
    rw [q1] at hL'; cases hL'
    rw [q2] at hd; cases hd
  have f₂ : FlewX C.fs C.s₀.heap e cls t args (rawInt C.L) cx h₂ := by
    obtain ⟨r, n, tn, ⟨T', oT, ts, h1, h2, h3, h4, h5, h6, h7⟩, tp⟩ := f₁
    have tL : t ≠ C.L := fun z => by
      obtain ⟨oL, es, ep, hL, hd, _⟩ := F.ns
      subst z
      have hL' : h'.get? C.L = some oL := hL
      rw [tp] at hL'; cases hL'
      cases hd
    refine ⟨⟨fun b o x y q => hs₂.extBut b o (nL b o q) (r.keep b o x y q), fun b o x y q => ?_⟩, n, tn, ⟨T', oT, ts, hs₂.extBut _ _ (dL _ _ _ h1 rfl) h1, h2, h3, h4, hs₂.extBut _ _ (dL _ _ _ h5 h6) h5, h6, h7⟩, hs₂.extBut _ _ tL tp⟩
    obtain ⟨sl, z⟩ := r.frame b o x y q
    exact ⟨sl, hs₂.extBut _ _ (nL b o q) z⟩
  refine xx_pass rfl f₂ fun h₃ f₃ => ?_
  show wpAny _ _ (noteFrame _ _) _ _ _
  refine xx_again rfl f₃ ?_
  exact xx_back rfl f₃ fun h₄ f₄ => hE _ f₄ (same₁.trans ⟨rfl, rfl, rfl⟩)
end

section
variable {prog : Program} {w : World} {A : Around} {E : Value → Shared → Prop} {C : Cx} {s : Shared} {mg mb : Str → Option Value} {loc : List (Str × Value)} {news news' : List (Addr × Obj)}
theorem r_balenO {S : Addr} {l : List Nat} {Q : Value → Shared → Prop} (D : St C loc news s) (ho : s.heap.get? S = some (baObj (BA l))) (hz : l.length ≤ 16777216) (h : ∀ s' t, St C loc news s' → Q (.int (l.length : Nat) t) s') :
    wpAny (model prog w) A (call (.builtin "len") [.ref S]) Q E s := by
  have hT : s.TypeIs (.ref S) "bytearray" := ⟨_, ho, rfl⟩
  refine Calls.call_function_entry kind_len plain_len entry_len (args_len1 _) ?_
  unfold Builtin.«len»
  refine wpAny_bind (m := oneArg "len" _) (wpAny_pure ?_)
  refine wpAny_bind (m := callSpecial? (.ref S) (Str.ofString "__len__")) (wpAny_callSpecial?_slot (name := Str.ofString "__len__") hT ba_slot_len
    (wpAny_call_entry ba_slot_len hT ba_entry_len ?_ (ba_args_len _)))
  show wpAny _ _ (Builtin.Bytes.payload (.ref S) >>= fun b => retInt b.size) _ _ s
  refine wpAny_bind (payload_ba ho ?_)
  rw [BA_size]
  refine wpAny_bind (wpAny_mkInt (wpAny_pure ⟨_, rfl, ?_⟩))
  refine wpAny_bind (wpAny_holding (wpAny_pure ?_))
  refine wpAny_bind (wpAny_letGo ?_)
  show wpAny _ _ (if ((l.length : Nat) : Int) < 0 then _ else _) _ _ _
  rw [if_neg (by omega)]
  show wpAny _ _ (if ((l.length : Nat) : Int) ≥ 2 ^ 63 then _ else _) _ _ _
  rw [if_neg (by omega)]
  exact wpAny_bind (wpAny_mkInt (wpAny_pure ⟨_, rfl, h _ _ D.toks.toks⟩))
theorem r_basliceO {value slice : Expr} {S a : Addr} {l : List Nat} {x y : Nat} {t1 t2 : Tok} {Q : Value → Shared → Prop} (D : St C loc news s) (ho : s.heap.get? S = some (baObj (BA l))) (hs' : (a, sliceOf (.int x t1) (.int y t2)) ∈ news) (hz : l.length ≤ 16777216)
    (h : ∀ T' s', St C loc ((T', baObj (BA ((l.drop x).take (y - x)))) :: news) s' → Q (.ref T') s')
    (hs : subscripted slice false (.ref S) (.ref a) = operate [.ref a, .ref S] (getItem (.ref S) (.ref a)) := by with_unfolding_all rfl)
    (ht : ∀ r, letTemporaryGo value (.ref S) r = pure () := by intro _; with_unfolding_all rfl) : wpAny (model prog w) A (subscriptTail value slice (.ref S) (.ref a)) Q E s := by
  have hT : s.TypeIs (.ref S) "bytearray" := ⟨_, ho, rfl⟩
  have hos := D.get hs'
  have hTs : s.TypeIs (.ref a) "slice" := ⟨_, hos, rfl⟩
  refine subscriptTail_ops hT ba_slot_item.lookup ?_ hs ht
  unfold getItem
  try with_reducible refine wpAny_holding ?_
  first | refine wpAny_bind (wpAny_pure ?_) | skip
  refine wpAny_bind (wpAny_sequenceKey hT (by decide) ?_)
  refine wpAny_bind (wpAny_callSpecial?_slot (name := Str.ofString "__getitem__") hT ba_slot_item
    (wpAny_call_entry ba_slot_item hT ba_entry_item ?_ (ba_args_item _ _)))
  show wpAny _ _ (Builtin.Bytes.subscript? (.ref a) >>= _) _ _ s
  refine wpAny_bind ?_
  unfold Builtin.Bytes.subscript?
  refine wpAny_bind (wpAny_specialOf hTs slice_no_index (wpAny_pure ?_))
  refine wpAny_bind (wpAny_typeOf hTs ?_)
  refine bm_if_false (by decide) ?_
  show wpAny _ _ (Builtin.Bytes.sliceParts (.ref a) >>= _) _ _ s
  refine wpAny_bind ?_
  unfold Builtin.Bytes.sliceParts
  refine wpAny_bind (wpAny_field (x := .none) hos rfl rfl ?_)
  refine wpAny_bind (wpAny_of_eq (a := Value.none) rfl ?_)
  refine bm_if_false rfl ?_
  refine wpAny_bind (wpAny_field (x := .int x t1) hos rfl rfl ?_)
  refine wpAny_bind (wpAny_of_eq (a := rawInt x) rfl ?_)
  refine wpAny_bind (wpAny_field (x := .int y t2) hos rfl rfl ?_)
  refine wpAny_bind (wpAny_of_eq (a := rawInt y) rfl ?_)
  refine wpAny_pure ?_
  dsimp only
  refine wpAny_bind (payload_ba ho ?_)
  refine wpAny_bind (wpAny_of_eq (sliceIndices_raw (some (x : Int)) (some (y : Int)) none (BA l).size (by simp)) ?_)
  rw [sliceBounds_plain]
  dsimp only [Option.elim]
  unfold Builtin.Bytes.sliced
  rw [sliceRange_one, pick_run, BA_list, BA_size, clipAt_nat, clipAt_nat]
  have e : ((l.map Nat.toUInt8).drop (min x l.length)).take (min y l.length - min x l.length) = ((l.drop x).take (y - x)).map Nat.toUInt8 := by
    rw [← List.map_drop, ← List.map_take]
    congr 1
    rcases Nat.le_total x l.length with h1 | h1
    · rw [Nat.min_eq_left h1]
      rcases Nat.le_total y l.length with h2 | h2
      · rw [Nat.min_eq_left h2]
      · rw [Nat.min_eq_right h2, List.take_of_length_le (by rw [List.length_drop]; omega), List.take_of_length_le (by rw [List.length_drop]; omega)]
    · rw [Nat.min_eq_right h1, List.drop_of_length_le (Nat.le_refl _), List.drop_of_length_le h1]; simp
  rw [e]
  refine wpAny_bind ?_
  unfold Builtin.Bytes.newBytearray
  refine wpAny_newObj_type ?_ ?_
  · exact wpAny_pure ⟨_, rfl, wpAny_pure (h _ _ (D.push _))⟩
  · show (((l.drop x).take (y - x)).map Nat.toUInt8).toArray.size ≤ sizeLine
    rw [List.size_toArray, List.length_map, List.length_take, List.length_drop, sizeLine_eq]
    omega
theorem args1 {env : Env} {e : Expr} {f : Value} {pos : Pos} {Q : Args → Shared → Prop} (h : wpAny (model prog w) A (eval e env) (fun v s₁ => Q ⟨[v], []⟩ s₁) E s) (he : starEach [e] env = [(false, eval e env)]) : wpAny (model prog w) A (evalArgs f true (backTo pos (starEach [e] env)) []) Q E s := by
  have hq : ∃ x, backTo pos (starEach [e] env) = [(false, x)] := by rw [he]; exact ⟨_, rfl⟩
  have hs : wpAny (model prog w) A (spliced (backTo pos (starEach [e] env))) (fun vs s' => Q ⟨vs, []⟩ s') E s := spliced_more (wpAny_mono h (fun v s₁ h₁ => spliced_none h₁) fun _ _ x => x) he
  obtain ⟨x, hx⟩ := hq
  rw [hx] at hs ⊢
  exact Calls.evalArgs_plain hs
theorem plain1 {env : Env} {e : Expr} {pos : Pos} (he : starEach [e] env = [(false, eval e env)]) : (backTo pos (starEach [e] env)).any (·.1) = false := by rw [he]; rfl
/-- calls of the text's methods -/
theorem ckm0 {env : Env} {pos : Pos} {K : Frag} {f : Addr} {v₀ : Value} {Q : Value → Shared → Prop} (X : K.In s.heap) (hk : keepIn K (.ref f) = true) (h : wpAny (model prog w) A (call (.ref f) [v₀]) Q E s) : wpAny (model prog w) A (callWith pos (.ref f) [v₀] (backTo pos (starEach [] env)) []) Q E s := callWith_K0 X hk h
theorem ckm1 {env : Env} {pos : Pos} {K : Frag} {f : Addr} {v₀ : Value} {e : Expr} {Q : Value → Shared → Prop} (X : K.In s.heap) (hk : keepIn K (.ref f) = true) (h : wpAny (model prog w) A (eval e env) (fun v s₁ => K.In s₁.heap ∧ wpAny (model prog w) A (call (.ref f) [v₀, v]) Q E s₁) E s) (he : starEach [e] env = [(false, eval e env)]) :
    wpAny (model prog w) A (callWith pos (.ref f) [v₀] (backTo pos (starEach [e] env)) []) Q E s :=
  callWith_K X hk (spliced_more (wpAny_mono h (fun v s₁ h₁ => spliced_none h₁) fun _ _ x => x) he) he rfl
theorem ckm2 {env : Env} {pos : Pos} {K : Frag} {f : Addr} {v₀ : Value} {e₁ e₂ : Expr} {Q : Value → Shared → Prop} (X : K.In s.heap) (hk : keepIn K (.ref f) = true) (h : wpAny (model prog w) A (eval e₁ env) (fun v s₁ => wpAny (model prog w) A (eval e₂ env) (fun v₂ s₂ => K.In s₂.heap ∧ wpAny (model prog w) A (call (.ref f) [v₀, v, v₂]) Q E s₂) E s₁) E s)
    (he : starEach [e₁, e₂] env = [(false, eval e₁ env), (false, eval e₂ env)]) (he₂ : starEach [e₂] env = [(false, eval e₂ env)]) :
    wpAny (model prog w) A (callWith pos (.ref f) [v₀] (backTo pos (starEach [e₁, e₂] env)) []) Q E s := by
  refine callWith_K X hk (spliced_more (wpAny_mono h (fun v s₁ h₁ => spliced_more (wpAny_mono h₁ (fun v₂ s₂ h₂ => spliced_none h₂) fun _ _ x => x) he₂) fun _ _ x => x) (he.trans (by rw [he₂]))) (he.trans (by rw [he₂])) ?_
  rw [he₂]; rfl
/-- the signs of a text -/
abbrev cs (x : String) : List Nat := (PySem.Str.ofString x).cps.toList
def It.oks (L B : Nat) (M : Model) (A : Around) (E : Value → Shared → Prop) (P : Shared → Prop) : List It → Prop
  | [] => True
  | p :: r => It.ok L B M A E P p ∧ It.oks L B M A E P r
theorem It.oks_all {L B : Nat} {M : Model} {A : Around} {E : Value → Shared → Prop} {P : Shared → Prop} : ∀ {ps : List It}, It.oks L B M A E P ps → ∀ p ∈ ps, It.ok L B M A E P p
  | [], _, _, z => nomatch z
  | _ :: _, h, p, z => by
    rcases List.mem_cons.mp z with rfl | z
    · exact h.1
    · exact It.oks_all h.2 p z
theorem r_fmtL {X : Str} (B : Nat) (hB : 1000 ≤ B ∧ B ≤ 1000000) {b : Addr} {t : Tok} {Q : Value → Shared → Prop} (ps : List It) (D : St C loc news s) (hb : (b, tupOf (It.args ps).toArray) ∈ news) (hok : It.oks X.length B (model prog w) A.in1 E (St C loc news) ps)
    (h : ∀ X s' t, St C loc news s' → X.length ≤ 15 * B → Q (.str X t) s') (hX : X.cps.toList = It.codes ps := by kernel_rfl) (hn : (decide (ps.length < X.cps.size) && decide (ps.length ≤ 15) && It.sep ps) = true := by kernel_rfl) : wpAny (model prog w) A (binaryOp .Mod (.str X t) (.ref b)) Q E s := by
  simp only [Bool.and_eq_true, decide_eq_true_eq] at hn
  exact r_fmt hB ps hX hn.1.1 hn.1.2 hn.2 D hb (It.oks_all hok) h
theorem lit_ok {L B : Nat} {M : Model} {E : Value → Shared → Prop} {P : Shared → Prop} {x : List Nat} (h : litOk x = true ∧ x.length ≠ L) : It.ok L B M A E P (.lit x) := h
end

section
variable {prog : Program} {w : World} {A : Around} {E : Value → Shared → Prop} {s₀ : Shared} {mg mb : Str → Option Value} {x dx b : Addr} {l : List Nat} {tn t1 t2 t3 : Tok} {o : Nat} {Q : Value → Shared → Prop} {fs : List Addr}
theorem buf_rem (W : WF w mg mb s₀.heap) (hA : A.depth < 900) (hx : s₀.heap.get? x = some (instObj 166 dx)) (hdx : s₀.heap.get? dx = some (dictOf [ent w "data" t1 (.ref b), ent w "offset" t2 (.int o t3)] 2)) (hb : s₀.heap.get? b = some (baObj (BA l))) (hl : l.length ≤ 1000)
    (k : ∀ s' t, Rel [] [] s₀.heap s'.heap → Same s₀ s' → Q (.int ((l.length : Nat) - (o : Nat) : Int) t) s') : wpAny (model prog w) A (call (.ref 114) [.ref x]) Q E s₀ := by
  have hX := hx
  have hX2 := hdx
  refine enter [("self", .ref x)] W (by omega) (by k_is) (by k_is) (.of_eq (by rfl)) (by kernel_rfl) ?_
  intro L s D
  fail "qgo"
  fail "qgd"
  refine r_balenO D (D.old hb (by simp) (by simp)) (by omega) ?_
  clear D s
  intro s t4 D
  fail "qgo"
  fail "qgd"
  fail "qgo"
  exact k _ _ D.toRel D.same
theorem buf_get_short (W : WF w mg mb s₀.heap) (K : Frames A fs s₀.heap) (hA : A.depth < 800) (hx : s₀.heap.get? x = some (instObj 166 dx)) (hdx : s₀.heap.get? dx = some (dictOf [ent w "data" t1 (.ref b), ent w "offset" t2 (.int 0 t3)] 2)) (hb : s₀.heap.get? b = some (baObj (BA l))) (hl : l.length ≤ 1000)
    (nf : x ∉ fs ∧ dx ∉ fs ∧ b ∉ fs) {n : Nat} (hn : l.length < n) (hn' : n ≤ 1000)
    (k : ∀ e t m u s', ThrewX fs s₀ e (.ref 89) t [.str m u] .none s' → m.length ≤ 100000 → E (.ref e) s') : wpAny (model prog w) A (call (.ref 121) [.ref x, .int n tn]) Q E s₀ := by
  have hh : A.handled = none := K.calm
  have hX := hx
  have hX2 := hdx
  obtain ⟨nf1, nf2, nf3⟩ := nf
  refine enterS [] fs [] [("self", .ref x), ("length", .int n tn)] W (by omega) (K.lowS (S := []) fun _ z => nomatch z) (fun _ z => nomatch z) (by simp) (by k_is) (by k_is) (.of_eq (by rfl)) (by kernel_rfl) ?_
  intro L s hL D
  have dis : ∀ b ∈ (⟨[], fs, s₀, L⟩ : Cx).fs, b ∉ (⟨[], fs, s₀, L⟩ : Cx).S := fun _ _ z => nomatch z
  fail "qgo"
  fail "qmd"
  fail "qcm"
  refine buf_rem (D.wf W) (by show A.depth + 1 < _; omega) (D.old hx (by simp) nf1) (D.old hdx (by simp) nf2) (D.old hb (by simp) nf3) hl ?_
  intro s5 t5 x5 e5
  replace D := D.pureCall x5 e5
  clear x5 e5 s
  have hgt : decide (((l.length : Nat) - (0 : Nat) : Int) < (n : Int)) = true := by simp; omega
  fail "qgo"
  rw [if_pos hgt]
  fail "qgo"
  refine raise_own (K := hd.heap_39 w.params) (C := 89) hh (by k_exc) (plain1 (by rfl)) ?_
  fail "qgo"
  refine ⟨rfl, args1 ?_ (by rfl)⟩
  fail "qgo"
  fail "qgd"
  fail "qgo"
  fail "qmd"
  fail "qcm"
  refine buf_rem (D.wf W) (by show A.depth + 1 < _; omega) (D.old hx (by simp) nf1) (D.old hdx (by simp) nf2) (D.old hb (by simp) nf3) hl ?_
  intro s6 t6 x6 e6
  replace D := D.pureCall x6 e6
  clear x6 e6
  fail "qgo"
  refine r_fmtL 1000 (by decide) [.lit (cs "Not enough bytes [offset="), .num 0 t3, .lit (cs ",remaining="), .num ((l.length : Nat) - (0 : Nat)) t6, .lit (cs ",requested="), .num n tn, .lit (cs "]")] D (by fail "qin") ⟨lit_ok (by decide +kernel), ⟨by decide, by decide⟩, lit_ok (by decide +kernel), ⟨by omega, by omega⟩, lit_ok (by decide +kernel), ⟨by omega, by omega⟩, lit_ok (by decide +kernel), trivial⟩ ?_
  clear D
  intro X s t D hXl
  refine ⟨rfl, by simp, (D.wf W).X, fun h' e m => ?_⟩
  obtain ⟨te, m⟩ := Made.x m
  exact leave_madeX (s' := { s with heap := h' }) D W K rfl rfl m ⟨rfl, rfl, rfl⟩ fun s'' f => k _ _ _ _ _ f (by omega)
end

section
variable {prog : Program} {w : World} {A : Around} {E : Value → Shared → Prop} {s₀ : Shared} {mg mb : Str → Option Value} {x dx b : Addr} {l : List Nat} {tn t1 t2 t3 : Tok} {o : Nat} {Q : Value → Shared → Prop} {fs : List Addr} {fmt : Str}
theorem buf_get (W : WF w mg mb s₀.heap) (hA : A.depth < 800) (hx : s₀.heap.get? x = some (instObj 166 dx)) (hdx : s₀.heap.get? dx = some (dictOf [ent w "data" t1 (.ref b), ent w "offset" t2 (.int 0 t3)] 2)) (hb : s₀.heap.get? b = some (baObj (BA l))) (hl : l.length ≤ 1000)
    (low : 515 ≤ dx) (nd : x ≠ dx ∧ b ≠ dx)
    (k : ∀ t t3' s', Rel [dx] [] s₀.heap s'.heap → Same s₀ s' → s'.heap.get? dx = some (dictOf [ent w "data" t1 (.ref b), ent w "offset" t2 (.int (l.length : Nat) t3')] 2) → Q (.bytes (BA l) t) s') : wpAny (model prog w) A (call (.ref 121) [.ref x, .int (l.length : Nat) tn]) Q E s₀ := by
  have hX := hx
  have hX2 := hb
  obtain ⟨nd1, nd2⟩ := nd
  refine enterS [dx] [] [(dx, dictOf [ent w "data" t1 (.ref b), ent w "offset" t2 (.int 0 t3)] 2)] [("self", .ref x), ("length", .int (l.length : Nat) tn)] W (by omega) (fun a h => by simp at h; subst h; exact low) (fun p hp => by simp at hp; subst hp; exact ⟨by simp, hdx⟩) (by simp) (by k_is) (by k_is) (.of_eq (by rfl)) (by kernel_rfl) ?_
  intro L s hL D
  fail "qgo"
  fail "qmd"
  fail "qcm"
  refine buf_rem (D.wf W) (by show A.depth + 1 < _; omega) (D.old hx (by simp [nd1]) (by simp)) (D.get (by fail "qin")) (D.old hb (by simp [nd2]) (by simp)) hl ?_
  intro s5 t5 x5 e5
  replace D := D.pureCall x5 e5
  clear x5 e5
  have hgt : ¬ (decide (((l.length : Nat) - (0 : Nat) : Int) < ((l.length : Nat) : Int)) = true) := by simp
  fail "qgo"
  rw [if_neg hgt]
  fail "qgo"
  fail "qgd"
  fail "qgo"
  fail "qgd"
  fail "qgo"
  fail "qgd"
  fail "qgo"
  fail "qsd"
  fail "qgo"
  fail "qgd"
  fail "qgo"
  simp only [Int.zero_add] at D
  refine kba_turn (value' := .Name (Str.ofString "x") { line := 0, col := 0, endLine := 0, endCol := 0 }) (fun _ => rfl) ?_
  refine r_basliceO (x := 0) (y := l.length) D (D.old hb (by simp [nd2]) (by simp)) (by fail "qin") (by omega) ?_
  clear D s
  intro T' s D
  simp only [List.drop_zero, Nat.sub_zero, List.take_length] at D
  refine r_bytes_ba D (by fail "qin") (by omega) ?_
  clear D
  intro s t D
  exact k _ _ _ D.toRel D.same (D.get (by fail "qin"))
theorem buf_unpack (W : WF w mg mb s₀.heap) (hA : A.depth < 700) (hh : A.handled = none) (hx : s₀.heap.get? x = some (instObj 166 dx)) (hdx : s₀.heap.get? dx = some (dictOf [ent w "data" t1 (.ref b), ent w "offset" t2 (.int 0 t3)] 2)) (hb : s₀.heap.get? b = some (baObj (BA l)))
    (hfmt : (fmt = Str.ofString "!16B" ∧ l.length = 16) ∨ (fmt = Str.ofString "!BBBB" ∧ l.length = 4)) (hr : ∀ n ∈ l, n < 256) (low : 515 ≤ dx) (nd : x ≠ dx ∧ b ≠ dx)
    (k : ∀ t t3' vs s', Nats vs l → Rel [dx] [] s₀.heap s'.heap → Same s₀ s' → s'.heap.get? dx = some (dictOf [ent w "data" t1 (.ref b), ent w "offset" t2 (.int (l.length : Nat) t3')] 2) → s'.heap.get? t = some (tupOf vs.toArray) → s₀.heap.get? t = none → Q (.ref t) s') :
    wpAny (model prog w) A (call (.ref 156) [.ref x, .str fmt tn]) Q E s₀ := by
  obtain ⟨nd1, nd2⟩ := nd
  refine enterS [dx] [] [(dx, dictOf [ent w "data" t1 (.ref b), ent w "offset" t2 (.int 0 t3)] 2)] [("self", .ref x), ("fmt", .str fmt tn)] W (by omega) (fun a h => by simp at h; subst h; exact low) (fun p hp => by simp at hp; subst hp; exact ⟨by simp, hdx⟩) (by simp) (by k_is) (by k_is) (.of_eq (by rfl)) (by kernel_rfl) ?_
  intro L s hL D
  have hX := hx
  have hX2 := hb
  fail "qgo"
  fail "qmd"
  fail "qcm"
  fail "qgo"
  obtain ⟨ff, hf, hsz⟩ : ∃ ff, Builtin.Struct.moduleFormat (.str fmt tn) = pure ff ∧ ff.size = l.length := by
    rcases hfmt with ⟨rfl, e⟩ | ⟨rfl, e⟩
    · exact ⟨_, fmt16 tn, e ▸ rfl⟩
    · exact ⟨_, fmt4 tn, e ▸ rfl⟩
  refine r_calc D hf ?_
  rw [hsz]
  clear D s
  intro s t4 D
  fail "qgo"
  refine buf_get (D.wf W) (by show A.depth + 1 < _; omega) (D.old hx (by simp [nd1]) (by simp)) (D.get (by fail "qin")) (D.old hb (by simp [nd2]) (by simp)) (by rcases hfmt with ⟨_, e⟩ | ⟨_, e⟩ <;> omega) low ⟨nd1, nd2⟩ ?_
  intro t5 t6 s5 x5 e5 hd5
  replace D := D.alt (o' := dictOf [ent w "data" t1 (.ref b), ent w "offset" t2 (.int (l.length : Nat) t6)] 2) .here (fun b o hb' q => x5.keep b o (by simpa using hb') (by simp) q) hd5 e5
  clear x5 e5 hd5
  fail "qgo"
  refine r_unpack D hfmt hr ?_
  clear D
  intro a vs s hvs D
  fail "qgo"
  have hne : a ≠ dx := by have := D.ord; simp at this; exact this
  exact k _ _ _ _ hvs D.toRel D.same (D.get (by fail "qin")) (D.get (by fail "qin")) (D.isNewS (p := (a, tupOf vs.toArray)) (by fail "qin") (by simpa using hne))
end

section
set_option maxRecDepth 100000
variable {prog : Program} {w : World} {A : Around} {E : Value → Shared → Prop} {s : Shared}
/-- an own exception and a built-in class that is not above it -/
theorem matches_no {M : Model} {K : Frag} {e c : Addr} {o : Obj} {T : String} {Q : Bool → Shared → Prop} (X : K.In s.heap) (q : excIn K c excB "Exception.__new__" = true) (he : s.heap.get? e = some o) (hc : o.cls = .ref c)
    (hexc : isSubtype (.type T) (.type "BaseException") = pure true) (hnt : isSubtype (.type ((Manifest.find? T).elim "type" fun x => x.metatype)) (.type "tuple") = pure false) (hno : excB.contains (.type T) = false) (h : Q false s) : wpAny M A (excMatches (.ref e) (.type T)) Q E s := by
  obtain ⟨bm, N, nm, q', bs, hdct, sn, sub, ab, col, dd, k0, k1, k2, k3, k5, mN, hC, hN, hni, Tl⟩ := own_obj X q
  obtain ⟨hp, g, d, tk, os⟩ := s
  exact wpAny_excMatches_sub_type hC he hc hexc hnt (by rw [Tl.hasType (b := false) hno]; exact h)
theorem isExc_struct : isSubtype (.type "struct.error") (.type "BaseException") = pure true := by rw [isSubtype_type]; kernel_rfl
theorem notTup_struct : isSubtype (.type ((Manifest.find? "struct.error").elim "type" fun y => y.metatype)) (.type "tuple") = pure false := by rw [isSubtype_type]; kernel_rfl
end

section
variable {prog : Program} {w : World} {A : Around} {E : Value → Shared → Prop} {s₀ : Shared} {mg mb : Str → Option Value} {x dx b : Addr} {l : List Nat} {tn t1 t2 t3 : Tok} {o : Nat} {Q : Value → Shared → Prop} {fs : List Addr} {fmt : Str}
theorem buf_unpack_short (W : WF w mg mb s₀.heap) (K : Frames A fs s₀.heap) (hA : A.depth < 700) (hx : s₀.heap.get? x = some (instObj 166 dx)) (hdx : s₀.heap.get? dx = some (dictOf [ent w "data" t1 (.ref b), ent w "offset" t2 (.int 0 t3)] 2)) (hb : s₀.heap.get? b = some (baObj (BA l)))
    (hfmt : (fmt = Str.ofString "!16B" ∧ l.length < 16) ∨ (fmt = Str.ofString "!BBBB" ∧ l.length < 4)) (nf : x ∉ fs ∧ dx ∉ fs ∧ b ∉ fs)
    (k : ∀ e t m u s', ThrewX fs s₀ e (.ref 89) t [.str m u] .none s' → m.length ≤ 100000 → E (.ref e) s') :
    wpAny (model prog w) A (call (.ref 156) [.ref x, .str fmt tn]) Q E s₀ := by
  have hh : A.handled = none := K.calm
  obtain ⟨nf1, nf2, nf3⟩ := nf
  refine enterS [] fs [] [("self", .ref x), ("fmt", .str fmt tn)] W (by omega) (K.lowS (S := []) fun _ z => nomatch z) (fun _ z => nomatch z) (by simp) (by k_is) (by k_is) (.of_eq (by rfl)) (by kernel_rfl) ?_
  intro L s hL D
  have dis : ∀ b ∈ (⟨[], fs, s₀, L⟩ : Cx).fs, b ∉ (⟨[], fs, s₀, L⟩ : Cx).S := fun _ _ z => nomatch z
  have hX := hx
  have hX2 := hdx
  fail "qgo"
  fail "qmd"
  fail "qcm"
  fail "qgo"
  obtain ⟨ff, hf, hsz, hsz2⟩ : ∃ ff, Builtin.Struct.moduleFormat (.str fmt tn) = pure ff ∧ l.length < ff.size ∧ ff.size ≤ 16 := by
    rcases hfmt with ⟨rfl, e⟩ | ⟨rfl, e⟩
    · exact ⟨_, fmt16 tn, e, by decide⟩
    · exact ⟨_, fmt4 tn, e, by decide⟩
  refine r_calc D hf ?_
  clear D s
  intro s t4 D
  fail "qgo"
  refine buf_get_short (D.wf W) (K.deeper W D dis rfl) (by show A.depth + 1 < _; omega) (D.old hx (by simp) nf1) (D.old hdx (by simp) nf2) (D.old hb (by simp) nf3) (by omega) ?_ hsz (by omega) ?_
  · have lt : ∀ {y o}, s₀.heap.get? y = some o → y ∉ fs → y ∉ L :: fs := fun q n z => (List.mem_cons.mp z).elim (fun e => absurd (Heap.lt_size q) (by rw [e]; exact Nat.not_lt.mpr hL)) n
    exact ⟨lt hx nf1, lt hdx nf2, lt hb nf3⟩
  intro e te m u s' f hm
  refine catch_start D W K dis rfl f fun T oT ts s₄ D₄ hd4 hz4 f4 e4 => ?_
  refine wpAny_handleBy_cons (codeAny_handlers_test ?_) (by intro q; cases q)
  refine r_global D₄ W ⟨rfl, rfl⟩ (by kernel_rfl) (by k_is) ?_
  have m1 : (hd.heap_39 w.params).In s₄.heap := (D₄.wf W).X
  have m2 : excIn (hd.heap_39 w.params) 89 excB "Exception.__new__" = true := by k_exc
  have m3 : s₄.heap.get? e = some (excObj (.ref 89) te (.ref T) .none) := D₄.get (.head _)
  have m4 : excB.contains (.type "struct.error") = false := by decide +kernel
  with_reducible refine matches_no (T := "struct.error") m1 m2 m3 rfl isExc_struct notTup_struct m4 ?_
  refine wpAny_handleBy_nil ?_
  refine xx_pass rfl f4 fun h' f5 => ?_
  refine xx_leave_held rfl f5 fun h'' f6 => ?_
  exact k _ _ _ _ _ ⟨f6.out D rfl, D.same.trans (e4.trans ⟨rfl, rfl, rfl⟩)⟩ hm
end

section
variable {prog : Program} {w : World} {A : Around} {s : Shared} {mg mb : Str → Option Value}
/-- a def with two cells is entered -/
theorem enterS2 {Q : Value → Shared → Prop} {E : Value → Shared → Prop} {f : Addr} {nm qual : Str} {params : Arguments} {body : List Stmt} {sc : Scope} {dV kV doc pm cdv ct oc : Value} {an od : Option Addr} {osl : Array (Option Value)} {vs : List Value} (fs : List Addr) (binds locs : List (Str × Value)) (x1 x2 : Str) (v1 v2 : Value)
    (W : WF w mg mb s.heap) (hroom : A.depth < 1000) (low : ∀ a ∈ fs, 515 ≤ a)
    (ho : (hd.heap_39 w.params).lookup f = some ⟨oc, od, .func (fnOf nm qual params body sc dV kV doc pm an cdv ct), osl⟩) (hcd : codeIn (hd.heap_39 w.params) cdv qual = true)
    (hbind : BindsTo s (fnOf nm qual params body sc dV kV doc pm an cdv ct) ⟨vs, []⟩ binds) (hok : (!sc.isCoroutine && !sc.isGenerator && sc.kind == .function) = true) (hnd : decide ((locs.map (·.1)).Nodup) = true)
    (hkind : ∀ L, ∀ x ∈ binds, sc.names.lookup x.1 = some .local ∨ (sc.names.lookup x.1 = some .cell ∧ ((cellsFrom (L + 1) sc.names []).lookup x.1).isSome = true))
    (hcs : ∀ L, cellsFrom (L + 1) sc.names [] = [(x2, L + 1 + 1), (x1, L + 1)])
    (hl : ∀ p ∈ locs, bindL (fun n => sc.names.lookup n) binds (fun _ => none) p.1 = some p.2)
    (h1 : bindC (fun n => sc.names.lookup n) binds (fun _ => none) x1 = some v1) (h2 : bindC (fun n => sc.names.lookup n) binds (fun _ => none) x2 = some v2) (hne : (x1 == x2) = false)
    (h : ∀ L o1 o2 s₁, s.heap.objs.size ≤ L → o1.data = .cell (some v1) → o2.data = .cell (some v2) → (envOfC qual sc L f cdv).cells = [(x2, L + 1 + 1), (x1, L + 1)] → St ⟨[], fs, s, L⟩ locs [(L + 1 + 1, o2), (L + 1, o1)] s₁ → wpAny (model prog w) (A.deeper (envOfC qual sc L f cdv)) (execs body (envOfC qual sc L f cdv))
        (fun fl s' => Q (match fl with | .ret v => v | _ => .none) s')
        (fun e s' => wpAny (model prog w) (A.deeper (envOfC qual sc L f cdv)) (leaving (envOfC qual sc L f cdv) e) (fun _ s'' => E e s'') (fun e' s'' => E e' s'') s') s₁) : wpAny (model prog w) A (call (.ref f) vs) Q E s := by
  simp only [Bool.and_eq_true, Bool.not_eq_true', beq_iff_eq] at hok
  obtain ⟨⟨k1, k2⟩, k3⟩ := hok
  refine wpAny_call (codeAny_call_function (fd := fnOf nm qual params body sc dV kV doc pm an cdv ct) (body := body) hroom (W.X _ _ ho) rfl k1 k2 rfl (codeRec_of W.X hcd) (hbind _ _ _ _ ?_))
  refine wpAny_newFunctionEnv_cells k3 (hkind _) fun env he s' x => ?_
  have he' : env = envOfC qual sc s.heap.objs.size f cdv := he
  subst he'
  obtain ⟨⟨⟨hh, tk, hs'⟩, ns, keep, fresh⟩, cell, apart, above⟩ := x
  have hc2 : s'.heap.IsCell (s.heap.objs.size + 1 + 1) (some v2) := by
    have := cell x2 (s.heap.objs.size + 1 + 1) (by show (cellsFrom _ _ _).lookup _ = _; rw [hcs]; simp)
    rw [show bindC (envOfC qual sc s.heap.objs.size f cdv).kindOf binds (fun _ => none) x2 = some v2 from h2] at this
    exact this
  have hc1 : s'.heap.IsCell (s.heap.objs.size + 1) (some v1) := by
    have := cell x1 (s.heap.objs.size + 1) (by show (cellsFrom _ _ _).lookup _ = _; rw [hcs]; simp [List.lookup_cons, hne])
    rw [show bindC (envOfC qual sc s.heap.objs.size f cdv).kindOf binds (fun _ => none) x1 = some v1 from h1] at this
    exact this
  obtain ⟨o2, g2, d2⟩ := hc2
  obtain ⟨o1, g1, d1⟩ := hc1
  refine ⟨W.lim.keeps keep, codeAny_func (h s.heap.objs.size o1 o2 s' (Nat.le_refl _) d1 d2 (hcs _) ⟨⟨s.heap, _, ⟨fun _ _ _ _ e => e, fun b o _ _ e => ⟨o.slots, e⟩⟩, ⟨ns, keep, fresh⟩, fun p hp => ?_, fun p hp => hl p hp⟩, fun a ha => low a (by simpa using ha), fresh, by simpa using hnd, by simp, by rw [hs']; exact ⟨rfl, rfl, rfl⟩⟩)⟩
  simp only [List.mem_cons, List.not_mem_nil, or_false] at hp
  rcases hp with rfl | rfl
  · exact ⟨g2, by show s.heap.objs.size + 1 + 1 ≠ s.heap.objs.size; omega, Heap.get?_none_of_le (by omega)⟩
  · exact ⟨g1, by show s.heap.objs.size + 1 ≠ s.heap.objs.size; omega, Heap.get?_none_of_le (by omega)⟩
end
section
variable {prog : Program} {w : World} {A : Around} {E : Value → Shared → Prop} {C : Cx} {s s' : Shared} {mg mb : Str → Option Value} {loc : List (Str × Value)} {news news' : List (Addr × Obj)} {name : Str} {scope : Scope} {a : Addr} {cd : Value}
theorem frames_hereC (D : St C loc news s) (W : WF w mg mb C.s₀.heap) (K : Frames A C.fs C.s₀.heap) (dis : ∀ b ∈ C.fs, b ∉ C.S) (hk : scope.kind = .function) :
    ∃ outer, (A.deeper (envOfC name scope C.L a cd)).frames = some (envOfC name scope C.L a cd :: outer) ∧ (envOfC name scope C.L a cd :: outer).filterMap (·.frame) = C.L :: C.fs ∧ FrOK s.heap (envOfC name scope C.L a cd :: outer) := by
  obtain ⟨⟨l, h1, h2, h3⟩, lo, c⟩ := K.rel D.toRel dis
  refine ⟨l, Around.frames_deeper h1, by rw [List.filterMap_cons]; show C.L :: _ = _; rw [h2], fun env he => ?_⟩
  rcases List.mem_cons.mp he with rfl | he
  · obtain ⟨⟨g, m, x, ⟨⟨o, es, ep, ho, hd, _⟩, _⟩, _⟩, _⟩ := D
    exact ⟨by show scope.kind ≠ _; rw [hk]; decide, C.L, o, es, ep, rfl, ho, hd⟩
  · exact h3 env he
theorem leave_madeC {e : Addr} {cls : Value} {args : List Value} {Q : Unit → Shared → Prop} (D : St C loc news s) (W : WF w mg mb C.s₀.heap) (K : Frames A C.fs C.s₀.heap) (hS : C.S = []) (hk : scope.kind = .function) (f : Heap.MadeExcOf s.heap s'.heap e cls args) (same : Same s s')
    (h : ∀ t s'', Threw C.fs C.s₀ e cls t args s'' → Q () s'') : wpAny (model prog w) (A.deeper (envOfC name scope C.L a cd)) (leaving (envOfC name scope C.L a cd) (.ref e)) Q E s' := by
  obtain ⟨outer, hf1, hf2, hf3⟩ := frames_hereC (name := name) (a := a) (cd := cd) D W K (by rw [hS]; exact fun _ _ z => nomatch z) hk
  exact x_leave_made hf1 rfl hf3 hf2 f fun h' t f' => h t _ ⟨f'.out D hS, D.same.trans (same.trans ⟨rfl, rfl, rfl⟩)⟩
/-- a name of a cell at hand -/
theorem r_cellD {env : Env} {x : Str} {pos : Pos} {v : Value} {c : Addr} {o : Obj} {cs : List (Str × Addr)} {Q : Value → Shared → Prop} (D : St C loc news s) (hc : okCell env.scope x = true) (hcs : env.cells = cs) (hl : cs.lookup x = some c) (hm : (c, o) ∈ news) (hd : o.data = .cell (some v)) (h : Q v s) :
    wpAny (model prog w) A (eval (.Name x pos) env) Q E s := by
  unfold okCell at hc
  simp only [Bool.and_eq_true, beq_iff_eq, Bool.not_eq_true'] at hc
  exact wpAny_Name (wpAny_loadName_cell hc.1.1 hc.1.2 (hcs ▸ hl) ⟨_, D.get hm, hd⟩ h) hc.2
/-- raise of a built-in exception, nothing handled -/
theorem raise_value {env : Env} {x : Str} {np cpos pos : Pos} {args : List Expr} {Q : Flow → Shared → Prop} (hh : A.handled = none) (hplain : (backTo cpos (starEach args env)).any (·.1) = false)
    (h : wpAny (model prog w) A (eval (.Name x np) env) (fun f s₁ => f = .type "ValueError" ∧ wpAny (model prog w) A (evalArgs (.type "ValueError") true (backTo cpos (starEach args env)) [])
      (fun a s₂ => a.kw = [] ∧ a.pos.length ≤ 100 ∧ ∀ h' e, Heap.MadeExcOf s₂.heap h' e (.type "ValueError") a.pos → E (.ref e) { s₂ with heap := h' }) E s₁) E s) :
    wpAny (model prog w) A (exec (.Raise (some (.Call (.Name x np) args [] cpos)) none pos) env) Q E s :=
  wpAny_Raise_call F.excCall_ValueError F.excRaise_ValueError hh hplain (wpAny_mono h (fun f s₁ h₁ => ⟨h₁.1, wpAny_mono h₁.2 (fun a s₂ h₂ => ⟨h₂.1, Nat.le_trans h₂.2.1 (by rw [sizeLine_eq]; decide), fun h' e m => h₂.2.2 h' e ⟨m.keeps, m.new, m.there⟩⟩) fun _ _ x => x⟩) fun _ _ x => x)
end

section
variable {prog : Program} {w : World} {A : Around} {E : Value → Shared → Prop} {C : Cx} {s : Shared} {loc : List (Str × Value)} {news : List (Addr × Obj)}
theorem strOf_tupO {vs : List Value} {ns : List Nat} {a : Addr} {Q : Value → Shared → Prop} (D : St C loc news s) (ho : s.heap.get? a = some (tupOf vs.toArray)) (hv : Nats vs ns) (hr : ns.length ≤ 100) (hz : ∀ n ∈ ns, n < 100000) (hg : A.guards = some []) (hu : A.units + 5 < cLine)
    (h : ∀ Y t s', St C loc news s' → Y.length ≤ 1000000 → Q (.str Y t) s') : wpAny (model prog w) A (Builtin.Str.strOf (.ref a)) Q E s := by
  obtain ⟨h1, h2, h3⟩ := nats_show ns hz
  have h4 := nats_depth ns
  have hl : (PyData.shown (.tuple (ns.map fun n : Nat => PyData.int n))).length ≤ 10000 := by
    have e := tupleText_len_le (PyData.shownAll (ns.map fun n : Nat => PyData.int n))
    have e2 : PyData.shown (.tuple (ns.map fun n : Nat => PyData.int n)) = tupleText (PyData.shownAll (ns.map fun n : Nat => PyData.int n)) := by simp only [PyData.shown]
    rw [e2]
    omega
  refine strOf_of_reads (h₀ := s.heap) (d := .tuple (ns.map fun n : Nat => PyData.int n)) (as := []) (.tuple ho rfl rfl (nats_reads hv)) ?_ (fun _ => List.not_mem_nil) hg ?_ (fun _ _ e => e) ?_ (Nat.le_trans hl (by rw [sizeLine_eq]; decide))
  · simp only [PyData.showable]; exact h1
  · simp only [PyData.depth]; omega
  · intro h' u tk hk
    refine h _ _ { s with heap := h', toks := tk } (D.after (s' := { s with heap := h', toks := tk }) (S' := []) (Rel.of_keeps hk) (fun _ z => nomatch z) ⟨rfl, rfl, rfl⟩ [] news rfl (fun p hp => hk _ _ (D.get (o := p.2) hp)) List.nodup_nil (fun _ z => nomatch z)) (by omega)
theorem strofs_str {x : Str} {t : Tok} {B : Nat} (hx : x.length ≤ B) : StrOfs B (model prog w) A E (St C loc news) (.str x t) :=
  fun Q' s₁ hP h => wpAny_of_eq (KPc.strOf_str _ _) (h _ _ _ hP hx)
theorem strofs_tup {vs : List Value} {ns : List Nat} {a : Addr} (ho : C.s₀.heap.get? a = some (tupOf vs.toArray)) (hS : a ∉ C.S) (hf : a ∉ C.fs) (hv : Nats vs ns) (hr : ns.length ≤ 100) (hz : ∀ n ∈ ns, n < 100000) (hg : A.guards = some []) (hu : A.units < 2000) :
    StrOfs 1000000 (model prog w) A E (St C loc news) (.ref a) :=
  fun Q' s₁ D h => strOf_tupO D (D.old ho hS hf) hv hr hz hg (by show _ < 9900; omega) h
/-- isinstance of an int and (int,) -/
theorem isi_int {tp : Addr} {n : Int} {u : Tok} {Q : Value → Shared → Prop} (D : St C loc news s) (ht : s.heap.get? tp = some (tupOf #[.type "int"])) (h : ∀ s', St C loc news s' → Q (.bool true) s') : wpAny (model prog w) A (call (.builtin "isinstance") [.int n u, .ref tp]) Q E s := by
  refine IsiPair.tupleOf (cs := [.type "int"]) (vs := [true]) (.cons (.of_true (by kernel_rfl) (by rw [isSubtype_type]; kernel_rfl)) .nil) (typeIs_int _ _ _) ht fun tk => h _ D.toks
theorem r_all {l : Addr} {ys : List Value} {bs : List Bool} {k : Nat} {Q : Value → Shared → Prop} (D : St C loc news s) (hh : A.handled = none) (hl : (l, listOf ys.toArray k) ∈ news) (hb : LSm.BoolsAre ys bs) (h : ∀ s', St C loc news s' → Q (.bool (bs.all id)) s') :
    wpAny (model prog w) A (call (.builtin "all") [.ref l]) Q E s := by
  obtain ⟨g, m, F, N, x, k⟩ := D.lib
  exact LSm.all_bools F N hh (D.listN hl) hb fun h' tk F' N' => h _ (k _ F' N' ⟨rfl, rfl, rfl⟩)
end
theorem bools_of {f : Nat → Bool} : ∀ {vs ys : List Value} {ns : List Nat}, Nats vs ns → Paired (fun v y => ∀ n, isNat v n → y = .bool (f n)) vs ys → LSm.BoolsAre ys (ns.map f)
  | _, _, _, .nil, .nil => .nil
  | _, _, _, .cons h r, .cons h' r' => by
    have := h' _ h
    subst this
    exact .cons _ (bools_of r r')
section
variable {prog : Program} {w : World} {A : Around} {E : Value → Shared → Prop} {s : Shared} {env : Env} {Q : Value → Shared → Prop} {pos : Pos}
theorem ck5 {K : Frag} {f : Addr} {e₁ e₂ e₃ e₄ e₅ : Expr} (X : K.In s.heap) (hk : keepIn K (.ref f) = true) (h : wpAny (model prog w) A (eval e₁ env) (fun v s₁ => wpAny (model prog w) A (eval e₂ env) (fun v₂ s₂ => wpAny (model prog w) A (eval e₃ env) (fun v₃ s₃ => wpAny (model prog w) A (eval e₄ env) (fun v₄ s₄ => wpAny (model prog w) A (eval e₅ env) (fun v₅ s₅ => K.In s₅.heap ∧ wpAny (model prog w) A (call (.ref f) [v, v₂, v₃, v₄, v₅]) Q E s₅) E s₄) E s₃) E s₂) E s₁) E s)
    (he : starEach [e₁, e₂, e₃, e₄, e₅] env = [(false, eval e₁ env), (false, eval e₂ env), (false, eval e₃ env), (false, eval e₄ env), (false, eval e₅ env)]) (he₂ : starEach [e₂, e₃, e₄, e₅] env = [(false, eval e₂ env), (false, eval e₃ env), (false, eval e₄ env), (false, eval e₅ env)]) (he₃ : starEach [e₃, e₄, e₅] env = [(false, eval e₃ env), (false, eval e₄ env), (false, eval e₅ env)]) (he₄ : starEach [e₄, e₅] env = [(false, eval e₄ env), (false, eval e₅ env)]) (he₅ : starEach [e₅] env = [(false, eval e₅ env)]) :
    wpAny (model prog w) A (callWith pos (.ref f) [] (backTo pos (starEach [e₁, e₂, e₃, e₄, e₅] env)) []) Q E s := by
  refine callWith_K X hk (spliced_more (wpAny_mono h (fun v s₁ h₁ => spliced_more (wpAny_mono h₁ (fun v₂ s₂ h₂ => spliced_more (wpAny_mono h₂ (fun v₃ s₃ h₃ => spliced_more (wpAny_mono h₃ (fun v₄ s₄ h₄ => spliced_more (wpAny_mono h₄ (fun v₅ s₅ h₅ => spliced_none h₅) fun _ _ x => x) he₅) fun _ _ x => x) (he₄.trans (by rw [he₅]))) fun _ _ x => x) (he₃.trans (by rw [he₄]))) fun _ _ x => x) (he₂.trans (by rw [he₃]))) fun _ _ x => x) (he.trans (by rw [he₂]))) (he.trans (by rw [he₂])) ?_
  rw [he₂]; rfl
end

section
variable {prog : Program} {w : World} {A : Around} {E : Value → Shared → Prop} {s₀ : Shared} {mg mb : Str → Option Value} {a : Addr} {vs : List Value} {ns : List Nat} {nm : Str} {ta t1 t2 t3 : Tok} {n : Nat} {Q : Value → Shared → Prop} {fs : List Addr}
theorem ntuple_any (W : WF w mg mb s₀.heap) (K : Frames A fs s₀.heap) (hA : A.depth < 800) (hg : A.guards = some []) (hu : A.units < 1900) (ha : s₀.heap.get? a = some (tupOf vs.toArray)) (hv : Nats vs ns) (hl : ns.length ≤ 100) (hz : ∀ n ∈ ns, n < 100000) (hn : n ≤ 100) (hnm : nm.length ≤ 100) (naf : a ∉ fs)
    (kok : ∀ s', ns.length = n → (∀ k ∈ ns, k ≤ 255) → Rel [] fs s₀.heap s'.heap → Same s₀ s' → Q (.ref a) s')
    (kbad : ∀ e t args s', ¬ (ns.length = n ∧ ∀ k ∈ ns, k ≤ 255) → Threw fs s₀ e (.type "ValueError") t args s' → E (.ref e) s') : wpAny (model prog w) A (call (.ref 191) [.str nm ta, .ref a, .int n t1, .int 0 t2, .int 255 t3]) Q E s₀ := by
  have hh : A.handled = none := K.calm
  refine enterS2 fs [("attr", .str nm ta), ("val", .ref a), ("n", .int n t1), ("min", .int 0 t2), ("max", .int 255 t3)] [("attr", .str nm ta), ("val", .ref a), ("n", .int n t1)] "min" "max" (.int 0 t2) (.int 255 t3) W (by omega) K.low (by k_is) (by k_is) (.of_eq (by rfl)) (by kernel_rfl) (by kernel_rfl) ?_ ?_ ?_ (by kernel_rfl) (by kernel_rfl) (by kernel_rfl) ?_
  · intro L x hx
    simp only [List.mem_cons, List.not_mem_nil, or_false] at hx
    rcases hx with rfl | rfl | rfl | rfl | rfl
    · exact .inl (by kernel_rfl)
    · exact .inl (by kernel_rfl)
    · exact .inl (by kernel_rfl)
    · exact .inr ⟨by kernel_rfl, by kernel_rfl⟩
    · exact .inr ⟨by kernel_rfl, by kernel_rfl⟩
  · intro L
    kernel_rfl
  · intro p hp
    simp only [List.mem_cons, List.not_mem_nil, or_false] at hp
    rcases hp with rfl | rfl | rfl <;> kernel_rfl
  intro L o1 o2 s hL d1 d2 hcs D
  have dis : ∀ b ∈ (⟨[], fs, s₀, L⟩ : Cx).fs, b ∉ (⟨[], fs, s₀, L⟩ : Cx).S := fun _ _ z => nomatch z
  fail "qgo"
  have hvl := hv.length
  refine r_len_tup (vs := vs) D (D.tupl ⟨_, ha, rfl, _, rfl⟩ (by simp)) (by omega) ?_
  clear D
  intro s t D
  fail "qgo"
  by_cases hlen : ns.length = n
  · rw [if_neg (by simp; omega)]
    fail "qgo"
    (with_reducible refine comp_gen (cl := [("min", L + 1), ("max", L + 1 + 1)]) D ?c1 ?c2 ?c3 ?_ (hs := ?hs)); (case c1 => exact hh); (case c2 => kernel_rfl); (case c3 => kernel_rfl); (case hs => intro _; rfl)
    fail "qgo"
    refine compG_plain (fun v y => ∀ n, isNat v n → y = .bool (decide (n ≤ 255))) (.tup a vs.toArray) D rfl (D.tupl ⟨_, ha, rfl, _, rfl⟩ (by simp)) (stay_oldT ⟨_, ha, rfl, _, rfl⟩ (by simp)) (by show vs.toArray.size ≤ _; simp; omega) ?_ ?_
    · clear D s
      intro v c oc m D' oD I oI s E' hv' hN hX D
      obtain ⟨k, hm, tk, rfl⟩ := Nats.mem_isNat hv hv'
      refine PyProof.Rows.BoolOp_and ?_
      fail "qgo"
      refine isi_int (tp := 171) D ((D.wf W).X _ _ (by k_is)) ?_
      clear D s
      intro s D
      fail "qgo"
      refine PyProof.Rows.BoolOp_one ?_
      refine PyProof.Rows.Compare_chain ?_
      refine r_cellD D (by kernel_rfl) rfl (by kernel_rfl) (by fail "qin") d1 ?_
      refine PyProof.Rows.chain_link ?_
      fail "qgo"
      refine PyProof.Rows.le_int ?_
      fail "qgo"
      rw [if_pos (by simp)]
      refine PyProof.Rows.chain_last ?_
      refine r_cellD D (by kernel_rfl) rfl (by kernel_rfl) (by fail "qin") d2 ?_
      refine PyProof.Rows.le_int ?_
      refine ⟨fun n' ⟨t', e⟩ => ?_, D⟩
      cases e
      congr 1
      simp only [decide_eq_decide]
      omega
    · clear D s
      intro D' ys s hF D
      fail "qgo"
      have hb : LSm.BoolsAre ys (ns.map fun n => decide (n ≤ 255)) := bools_of hv hF
      refine r_all D hh (by fail "qin") hb ?_
      clear D s
      intro s D
      fail "qgo"
      by_cases hall : ∀ k ∈ ns, k ≤ 255
      · have e : ((ns.map fun n => decide (n ≤ 255)).all id) = true := by simpa using hall
        rw [e]
        fail "qgo"
        exact kok _ hlen hall D.toRel D.same
      · have e : ((ns.map fun n => decide (n ≤ 255)).all id) = false := by
          cases q : ((ns.map fun n => decide (n ≤ 255)).all id) with
          | false => rfl
          | true => exact absurd (by simpa using q) hall
        rw [e]
        fail "qgo"
        refine raise_value hh (plain1 (by rfl)) ?_
        fail "qgo"
        refine ⟨rfl, args1 ?_ (by rfl)⟩
        fail "qgo"
        refine r_cellD D (by kernel_rfl) rfl (by kernel_rfl) (by fail "qin") d1 ?_
        fail "qgo"
        refine r_cellD D (by kernel_rfl) rfl (by kernel_rfl) (by fail "qin") d2 ?_
        fail "qgo"
        refine r_fmtL 1000000 (by decide) [.lit (cs "Attribute '"), .obj (.str nm ta), .lit (cs "' elements must be between "), .num 0 t2, .lit (cs "-"), .num 255 t3, .lit (cs " ["), .obj (.ref a), .lit (cs "]")] D (by fail "qin") ⟨lit_ok (by decide +kernel), strofs_str (by omega), lit_ok (by decide +kernel), ⟨by omega, by omega⟩, lit_ok (by decide +kernel), ⟨by omega, by omega⟩, lit_ok (by decide +kernel), strofs_tup ha (by simp) naf hv hl hz hg (by show A.units + 3 + 1 < 2000; omega), lit_ok (by decide +kernel), trivial⟩ ?_
        clear D
        intro X s t D hXl
        refine ⟨rfl, by simp, fun h' e m => ?_⟩
        exact leave_madeC (s' := { s with heap := h' }) D W K rfl rfl m ⟨rfl, rfl, rfl⟩ fun t s'' f => kbad _ _ _ _ (fun z => hall z.2) f
  · rw [if_pos (by simp; omega)]
    fail "qgo"
    refine raise_value hh (plain1 (by rfl)) ?_
    fail "qgo"
    refine ⟨rfl, args1 ?_ (by rfl)⟩
    fail "qgo"
    refine r_fmtL 1000000 (by decide) [.lit (cs "Attribute '"), .obj (.str nm ta), .lit (cs "' must be tuple with "), .num n t1, .lit (cs " elements ["), .obj (.ref a), .lit (cs "]")] D (by fail "qin") ⟨lit_ok (by decide +kernel), strofs_str (by omega), lit_ok (by decide +kernel), ⟨by omega, by omega⟩, lit_ok (by decide +kernel), strofs_tup ha (by simp) naf hv hl hz hg (by show A.units + 3 + 1 < 2000; omega), lit_ok (by decide +kernel), trivial⟩ ?_
    clear D
    intro X s t D hXl
    refine ⟨rfl, by simp, fun h' e m => ?_⟩
    exact leave_madeC (s' := { s with heap := h' }) D W K rfl rfl m ⟨rfl, rfl, rfl⟩ fun t s'' f => kbad _ _ _ _ (fun z => hlen z.1) f
end

section
variable {prog : Program} {w : World} {A : Around} {E : Value → Shared → Prop} {s₀ : Shared} {mg mb : Str → Option Value} {a : Addr} {vs : List Value} {ns : List Nat} {nm : Str} {ta t1 t2 t3 : Tok} {Q : Value → Shared → Prop} {fs : List Addr}
theorem ip4_any (W : WF w mg mb s₀.heap) (K : Frames A fs s₀.heap) (hA : A.depth < 700) (hg : A.guards = some []) (hu : A.units < 1800) (ha : s₀.heap.get? a = some (tupOf vs.toArray)) (hv : Nats vs ns) (hl : ns.length ≤ 100) (hz : ∀ n ∈ ns, n < 100000) (hnm : nm.length ≤ 100) (naf : a ∉ fs)
    (kok : ∀ s', ns.length = 4 → (∀ k ∈ ns, k ≤ 255) → Rel [] fs s₀.heap s'.heap → Same s₀ s' → Q (.ref a) s')
    (kbad : ∀ e t args s', ¬ (ns.length = 4 ∧ ∀ k ∈ ns, k ≤ 255) → Threw fs s₀ e (.type "ValueError") t args s' → E (.ref e) s') : wpAny (model prog w) A (call (.ref 198) [.str nm ta, .ref a]) Q E s₀ := by
  have hh : A.handled = none := K.calm
  refine enterS [] fs [] [("attr", .str nm ta), ("val", .ref a)] W (by omega) (K.lowS (S := []) fun _ z => nomatch z) (fun _ z => nomatch z) (by simp) (by k_is) (by k_is) (.of_eq (by rfl)) (by kernel_rfl) ?_
  intro L s hL D
  have dis : ∀ b ∈ (⟨[], fs, s₀, L⟩ : Cx).fs, b ∉ (⟨[], fs, s₀, L⟩ : Cx).S := fun _ _ z => nomatch z
  fail "qgo"
  refine ck5 ((D.wf W).X) (by k_is) ?_ ?he ?he2 ?he3 ?he4 ?he5
  case he => rfl
  case he2 => rfl
  case he3 => rfl
  case he4 => rfl
  case he5 => rfl
  fail "qgo"
  refine ntuple_any (n := 4) (D.wf W) (K.deeper W D dis rfl) (by show A.depth + 1 < _; omega) hg (by show A.units + 3 < _; omega) (D.old ha (by simp) naf) hv hl hz (by decide) hnm (fun z => (List.mem_cons.mp z).elim (fun e => absurd (Heap.lt_size ha) (by rw [e]; exact Nat.not_lt.mpr hL)) naf) ?_ ?_
  · intro s' h1 h2 x5 e5
    replace D := D.calm K dis x5 e5
    clear x5 e5
    fail "qgo"
    exact kok _ h1 h2 D.toRel D.same
  · intro e t args s' hb f
    exact leave_threw D W K rfl rfl f fun s'' f' => kbad _ _ _ _ hb f'
theorem ip6_any (W : WF w mg mb s₀.heap) (K : Frames A fs s₀.heap) (hA : A.depth < 700) (hg : A.guards = some []) (hu : A.units < 1800) (ha : s₀.heap.get? a = some (tupOf vs.toArray)) (hv : Nats vs ns) (hl : ns.length ≤ 100) (hz : ∀ n ∈ ns, n < 100000) (hnm : nm.length ≤ 100) (naf : a ∉ fs)
    (kok : ∀ s', ns.length = 16 → (∀ k ∈ ns, k ≤ 255) → Rel [] fs s₀.heap s'.heap → Same s₀ s' → Q (.ref a) s')
    (kbad : ∀ e t args s', ¬ (ns.length = 16 ∧ ∀ k ∈ ns, k ≤ 255) → Threw fs s₀ e (.type "ValueError") t args s' → E (.ref e) s') : wpAny (model prog w) A (call (.ref 205) [.str nm ta, .ref a]) Q E s₀ := by
  have hh : A.handled = none := K.calm
  refine enterS [] fs [] [("attr", .str nm ta), ("val", .ref a)] W (by omega) (K.lowS (S := []) fun _ z => nomatch z) (fun _ z => nomatch z) (by simp) (by k_is) (by k_is) (.of_eq (by rfl)) (by kernel_rfl) ?_
  intro L s hL D
  have dis : ∀ b ∈ (⟨[], fs, s₀, L⟩ : Cx).fs, b ∉ (⟨[], fs, s₀, L⟩ : Cx).S := fun _ _ z => nomatch z
  fail "qgo"
  refine ck5 ((D.wf W).X) (by k_is) ?_ ?he ?he2 ?he3 ?he4 ?he5
  case he => rfl
  case he2 => rfl
  case he3 => rfl
  case he4 => rfl
  case he5 => rfl
  fail "qgo"
  refine ntuple_any (n := 16) (D.wf W) (K.deeper W D dis rfl) (by show A.depth + 1 < _; omega) hg (by show A.units + 3 < _; omega) (D.old ha (by simp) naf) hv hl hz (by decide) hnm (fun z => (List.mem_cons.mp z).elim (fun e => absurd (Heap.lt_size ha) (by rw [e]; exact Nat.not_lt.mpr hL)) naf) ?_ ?_
  · intro s' h1 h2 x5 e5
    replace D := D.calm K dis x5 e5
    clear x5 e5
    fail "qgo"
    exact kok _ h1 h2 D.toRel D.same
  · intro e t args s' hb f
    exact leave_threw D W K rfl rfl f fun s'' f' => kbad _ _ _ _ hb f'
end

section
variable {prog : Program} {w : World} {A : Around} {E : Value → Shared → Prop} {C : Cx} {s : Shared} {loc : List (Str × Value)} {news : List (Addr × Obj)} {Q : Value → Shared → Prop}
theorem isi_list2 {tp l : Addr} {its : Array Value} (D : St C loc news s) (hl : s.heap.IsList l its) (ht : (tp, tupOf #[.type "tuple", .type "list"]) ∈ news) (h : ∀ s', St C loc news s' → Q (.bool true) s') : wpAny (model prog w) A (call (.builtin "isinstance") [.ref l, .ref tp]) Q E s :=
  IsiPair.tupleOf (Tx := "list") (cs := [.type "tuple", .type "list"]) (vs := [false, true]) (.cons (.of_false_list (by decide +kernel) (by kernel_rfl) (by rw [isSubtype_type]; kernel_rfl)) (.cons (.of_true (by kernel_rfl) (by rw [isSubtype_type]; kernel_rfl)) .nil)) hl.typeIs (D.get ht) fun tk => h _ D.toks
theorem isi_str2 {tp : Addr} {x : Str} {u : Tok} (D : St C loc news s) (ht : (tp, tupOf #[.type "tuple", .type "list"]) ∈ news) (h : ∀ s', St C loc news s' → Q (.bool false) s') : wpAny (model prog w) A (call (.builtin "isinstance") [.str x u, .ref tp]) Q E s :=
  IsiPair.tupleOf (Tx := "str") (cs := [.type "tuple", .type "list"]) (vs := [false, false]) (.cons (.of_false_str (by decide +kernel) (by kernel_rfl) (by rw [isSubtype_type]; kernel_rfl)) (.cons (.of_false_str (by decide +kernel) (by kernel_rfl) (by rw [isSubtype_type]; kernel_rfl)) .nil)) (typeIs_str _ _ _) (D.get ht) fun tk => h _ D.toks
theorem guards_cls {A : Around} {cl : Addr} {vs : List Value} : (A.under (.builtin "type.__call__" ⟨.ref cl :: vs, []⟩)).guards = A.guards := by
  obtain ⟨hd, d, fr, gs, u⟩ := A
  unfold Around.under
  dsimp only
  have e : (Code.builtin "type.__call__" ⟨.ref cl :: vs, []⟩).guards = [] := by kernel_rfl
  rw [e]
  cases gs <;> rfl
theorem units_cls {A : Around} {cl : Addr} {vs : List Value} : (A.under (.builtin "type.__call__" ⟨.ref cl :: vs, []⟩)).units ≤ A.units + 7 := by
  show A.units + Code.cUnits _ ≤ _
  have : Code.cUnits (.builtin "type.__call__" ⟨.ref cl :: vs, []⟩) ≤ 7 := Nat.le_of_ble_eq_true (by kernel_rfl)
  omega
end
section
variable {prog : Program} {w : World} {A : Around} {E : Value → Shared → Prop} {s : Shared} {env : Env} {M : Model}
theorem wpC_If {test : Expr} {body orelse : List Stmt} {pos : Pos} {Q : Flow → Shared → Prop} (h : wpAny M A (isTrue test env (eval test env)) (fun b s₂ => if b then wpC M A (execs body env) Q E s₂ else wpC M A (execs orelse env) Q E s₂) E s) : wpC M A (exec (.If test body orelse pos) env) Q E s := by
  rw [arm_exec_If]
  refine wpC_pre (wpAny_standAt ?_)
  refine wpC_pre (wpAny_mono h (fun b s₂ h₂ => ?_) fun _ _ z => z)
  cases b <;> exact h₂
end

section
variable {prog : Program} {w : World} {A : Around} {s₀ : Shared} {mg mb : Str → Option Value} {x dx l : Addr} {vs : List Value} {ns : List Nat} {R : Result → Shared → Prop} {fs : List Addr}
theorem init4_list (W : WF w mg mb s₀.heap) (K : Frames A fs s₀.heap) (hA : A.depth < 600) (hg : A.guards = some []) (hu : A.units < 1700) (hx : s₀.heap.get? x = some (instObj 347 dx)) (hdx : s₀.heap.get? dx = some (dictOf [] 0)) (low : 515 ≤ dx) (nd : x ≠ dx) (nf : x ∉ fs ∧ dx ∉ fs) (hl : s₀.heap.IsList l vs.toArray) (nl : l ≠ dx ∧ l ∉ fs) (hv : Nats vs ns) (hn : ns.length = 4) (hz : ∀ n ∈ ns, n ≤ 255)
    (k : ∀ t tk s', Rel [dx] fs s₀.heap s'.heap → Same s₀ s' → s'.heap.get? dx = some (dictOf [ent w "data" tk (.ref t)] 1) → s'.heap.get? t = some (tupOf vs.toArray) → s₀.heap.get? t = none → R (.ok (.ret .none)) s') : codeAny (model prog w) A (.call (.ref 330) ⟨[.ref x, .ref l], []⟩) R s₀ := by
  have hh : A.handled = none := K.calm
  obtain ⟨nf1, nf2⟩ := nf
  obtain ⟨nl1, nl2⟩ := nl
  have hX := hx
  refine enterC0 [dx] fs [(dx, dictOf [] 0)] [("self", .ref x), ("data", .ref l)] W (by omega) (K.lowS fun a h => by simp at h; subst h; exact low) (fun p hp => by simp at hp; subst hp; exact ⟨by simp, hdx⟩) (by simp) (by k_is) (by k_is) (.of_eq (by rfl)) (by kernel_rfl) ?_
  intro L s hL D
  have dis : ∀ b ∈ (⟨[dx], fs, s₀, L⟩ : Cx).fs, b ∉ (⟨[dx], fs, s₀, L⟩ : Cx).S := fun b hb z => by simp at z; subst z; exact nf2 hb
  have hvl := hv.length
  fail "qgo"
  refine isi_list2 D (D.list hl (by simpa using nl1)) (by fail "qin") ?_
  clear D s
  intro s D
  fail "qgo"
  refine r_tuplist D (D.list hl (by simpa using nl1)) (by omega) ?_
  clear D s
  intro r s D
  fail "qgo"
  refine ip4_any (D.wf W) (K.deeper W D dis rfl) (by show A.depth + 1 < _; omega) hg (by show A.units + 3 < _; omega) (D.get (by fail "qin")) hv (by omega) (fun n h => by have := hz n h; omega) (by decide) (D.noFrame K dis (p := (r, tupOf vs.toArray)) (by fail "qin")) ?_ ?_
  · intro s' h1 h2 x5 e5
    replace D := D.calm K dis x5 e5
    clear x5 e5
    fail "qgo"
    fail "qsd"
    fail "qgo"
    have hr : r ≠ dx := by have := D.ord; simp at this; exact this.1.2
    exact k _ _ _ D.toRel D.same (D.get (by fail "qin")) (D.get (by fail "qin")) (D.isNewS (p := (r, tupOf vs.toArray)) (by fail "qin") (by simpa using hr))
  · intro e t args s' hb f
    exact absurd ⟨hn, hz⟩ hb
theorem init4_list_bad (W : WF w mg mb s₀.heap) (K : Frames A fs s₀.heap) (hA : A.depth < 600) (hg : A.guards = some []) (hu : A.units < 1700) (hl : s₀.heap.IsList l vs.toArray) (nl : l ∉ fs) (hv : Nats vs ns) (hn : ns.length ≤ 100) (hz : ∀ n ∈ ns, n < 100000) (hb : ¬ (ns.length = 4 ∧ ∀ n ∈ ns, n ≤ 255))
    (k : ∀ e t args s', Threw fs s₀ e (.type "ValueError") t args s' → R (.error (.ref e)) s') : codeAny (model prog w) A (.call (.ref 330) ⟨[.ref x, .ref l], []⟩) R s₀ := by
  have hh : A.handled = none := K.calm
  refine enterC0 [] fs [] [("self", .ref x), ("data", .ref l)] W (by omega) (K.lowS (S := []) fun _ z => nomatch z) (fun _ z => nomatch z) (by simp) (by k_is) (by k_is) (.of_eq (by rfl)) (by kernel_rfl) ?_
  intro L s hL D
  have dis : ∀ b ∈ (⟨[], fs, s₀, L⟩ : Cx).fs, b ∉ (⟨[], fs, s₀, L⟩ : Cx).S := fun _ _ z => nomatch z
  have hvl := hv.length
  fail "qgo"
  refine isi_list2 D (D.list hl (by simp)) (by fail "qin") ?_
  clear D s
  intro s D
  fail "qgo"
  refine r_tuplist D (D.list hl (by simp)) (by omega) ?_
  clear D s
  intro r s D
  fail "qgo"
  refine ip4_any (D.wf W) (K.deeper W D dis rfl) (by show A.depth + 1 < _; omega) hg (by show A.units + 3 < _; omega) (D.get (by fail "qin")) hv (by omega) hz (by decide) (D.noFrame K dis (p := (r, tupOf vs.toArray)) (by fail "qin")) ?_ ?_
  · intro s' h1 h2
    exact absurd ⟨h1, h2⟩ hb
  · intro e t args s' hb f
    exact leave_threw D W K rfl rfl f fun s'' f' => k _ _ _ _ f'
theorem init6_list (W : WF w mg mb s₀.heap) (K : Frames A fs s₀.heap) (hA : A.depth < 600) (hg : A.guards = some []) (hu : A.units < 1700) (hx : s₀.heap.get? x = some (instObj 467 dx)) (hdx : s₀.heap.get? dx = some (dictOf [] 0)) (low : 515 ≤ dx) (nd : x ≠ dx) (nf : x ∉ fs ∧ dx ∉ fs) (hl : s₀.heap.IsList l vs.toArray) (nl : l ≠ dx ∧ l ∉ fs) (hv : Nats vs ns) (hn : ns.length = 16) (hz : ∀ n ∈ ns, n ≤ 255)
    (k : ∀ t tk s', Rel [dx] fs s₀.heap s'.heap → Same s₀ s' → s'.heap.get? dx = some (dictOf [ent w "data" tk (.ref t)] 1) → s'.heap.get? t = some (tupOf vs.toArray) → s₀.heap.get? t = none → R (.ok (.ret .none)) s') : codeAny (model prog w) A (.call (.ref 450) ⟨[.ref x, .ref l], []⟩) R s₀ := by
  have hh : A.handled = none := K.calm
  obtain ⟨nf1, nf2⟩ := nf
  obtain ⟨nl1, nl2⟩ := nl
  have hX := hx
  refine enterC0 [dx] fs [(dx, dictOf [] 0)] [("self", .ref x), ("data", .ref l)] W (by omega) (K.lowS fun a h => by simp at h; subst h; exact low) (fun p hp => by simp at hp; subst hp; exact ⟨by simp, hdx⟩) (by simp) (by k_is) (by k_is) (.of_eq (by rfl)) (by kernel_rfl) ?_
  intro L s hL D
  have dis : ∀ b ∈ (⟨[dx], fs, s₀, L⟩ : Cx).fs, b ∉ (⟨[dx], fs, s₀, L⟩ : Cx).S := fun b hb z => by simp at z; subst z; exact nf2 hb
  have hvl := hv.length
  fail "qgo"
  refine isi_list2 D (D.list hl (by simpa using nl1)) (by fail "qin") ?_
  clear D s
  intro s D
  fail "qgo"
  refine r_tuplist D (D.list hl (by simpa using nl1)) (by omega) ?_
  clear D s
  intro r s D
  fail "qgo"
  refine ip6_any (D.wf W) (K.deeper W D dis rfl) (by show A.depth + 1 < _; omega) hg (by show A.units + 3 < _; omega) (D.get (by fail "qin")) hv (by omega) (fun n h => by have := hz n h; omega) (by decide) (D.noFrame K dis (p := (r, tupOf vs.toArray)) (by fail "qin")) ?_ ?_
  · intro s' h1 h2 x5 e5
    replace D := D.calm K dis x5 e5
    clear x5 e5
    fail "qgo"
    fail "qsd"
    fail "qgo"
    have hr : r ≠ dx := by have := D.ord; simp at this; exact this.1.2
    exact k _ _ _ D.toRel D.same (D.get (by fail "qin")) (D.get (by fail "qin")) (D.isNewS (p := (r, tupOf vs.toArray)) (by fail "qin") (by simpa using hr))
  · intro e t args s' hb f
    exact absurd ⟨hn, hz⟩ hb
theorem init6_list_bad (W : WF w mg mb s₀.heap) (K : Frames A fs s₀.heap) (hA : A.depth < 600) (hg : A.guards = some []) (hu : A.units < 1700) (hl : s₀.heap.IsList l vs.toArray) (nl : l ∉ fs) (hv : Nats vs ns) (hn : ns.length ≤ 100) (hz : ∀ n ∈ ns, n < 100000) (hb : ¬ (ns.length = 16 ∧ ∀ n ∈ ns, n ≤ 255))
    (k : ∀ e t args s', Threw fs s₀ e (.type "ValueError") t args s' → R (.error (.ref e)) s') : codeAny (model prog w) A (.call (.ref 450) ⟨[.ref x, .ref l], []⟩) R s₀ := by
  have hh : A.handled = none := K.calm
  refine enterC0 [] fs [] [("self", .ref x), ("data", .ref l)] W (by omega) (K.lowS (S := []) fun _ z => nomatch z) (fun _ z => nomatch z) (by simp) (by k_is) (by k_is) (.of_eq (by rfl)) (by kernel_rfl) ?_
  intro L s hL D
  have dis : ∀ b ∈ (⟨[], fs, s₀, L⟩ : Cx).fs, b ∉ (⟨[], fs, s₀, L⟩ : Cx).S := fun _ _ z => nomatch z
  have hvl := hv.length
  fail "qgo"
  refine isi_list2 D (D.list hl (by simp)) (by fail "qin") ?_
  clear D s
  intro s D
  fail "qgo"
  refine r_tuplist D (D.list hl (by simp)) (by omega) ?_
  clear D s
  intro r s D
  fail "qgo"
  refine ip6_any (D.wf W) (K.deeper W D dis rfl) (by show A.depth + 1 < _; omega) hg (by show A.units + 3 < _; omega) (D.get (by fail "qin")) hv (by omega) hz (by decide) (D.noFrame K dis (p := (r, tupOf vs.toArray)) (by fail "qin")) ?_ ?_
  · intro s' h1 h2
    exact absurd ⟨h1, h2⟩ hb
  · intro e t args s' hb f
    exact leave_threw D W K rfl rfl f fun s'' f' => k _ _ _ _ f'
end

/-- a text of groups that is read, with its octets -/
def ParseOK (l ns : List Nat) : Prop := ∃ la lb qq pa pb, Txt.partition (T l) (T [58, 58]) = (T la, qq, T lb) ∧ Txt.split (T la) (T [58]) = pa.map T ∧ Txt.split (T lb) (T [58]) = pb.map T ∧
  (∀ p ∈ pa, (∀ c ∈ p, IsHex c) ∧ p.length ≤ 5) ∧ (∀ p ∈ pb, (∀ c ∈ p, IsHex c) ∧ p.length ≤ 5) ∧ pa.length ≤ 100 ∧ pb.length ≤ 100 ∧ l.length ≤ 10000 ∧ la.length ≤ 10000 ∧ lb.length ≤ 10000 ∧
  ns = octs pa ++ List.replicate (16 - (octs pa).length - (octs pb).length) 0 ++ octs pb
/-- a text of groups, one of them g -/
def ParseBad (l : List Nat) : Prop := ∃ la lb qq pa pre post, Txt.partition (T l) (T [58, 58]) = (T la, qq, T lb) ∧ Txt.split (T la) (T [58]) = pa.map T ∧ pa = pre ++ [103] :: post ∧
  (∀ p ∈ pre, (∀ c ∈ p, IsHex c) ∧ p.length ≤ 5) ∧ pa.length ≤ 100 ∧ l.length ≤ 10000 ∧ la.length ≤ 10000 ∧ lb.length ≤ 10000 ∧ (∀ p ∈ pa, p.length ≤ 10000)
section
variable {prog : Program} {w : World} {A : Around} {s₀ : Shared} {mg mb : Str → Option Value} {x dx : Addr} {ns l : List Nat} {t : Tok} {R : Result → Shared → Prop} {fs : List Addr}
theorem parse_call {E : Value → Shared → Prop} {Q : Value → Shared → Prop} (hp : ParseOK l ns) (W : WF w mg mb s₀.heap) (K : Frames A fs s₀.heap) (hA : A.depth < 400)
    (k : ∀ r vs s', Rel [] fs s₀.heap s'.heap → Same s₀ s' → s'.heap.get? r = some (tupOf vs.toArray) → s₀.heap.get? r = none → Nats vs ns → Q (.ref r) s') : wpAny (model prog w) A (call (.ref 408) [.str (T l) t]) Q E s₀ := by
  obtain ⟨la, lb, qq, pa, pb, h1, h2, h3, h4, h5, h6, h7, h8, h9, h10, rfl⟩ := hp
  exact parse_ok W K hA h1 h2 h3 h4 h5 h6 h7 h8 h9 h10 k
theorem parse_callC {E : Value → Shared → Prop} {Q : Value → Shared → Prop} (hp : ParseBad l) (W : WF w mg mb s₀.heap) (K : Frames A fs s₀.heap) (hA : A.depth < 400)
    (k : ∀ e t args s', Threw fs s₀ e (.type "ValueError") t args s' → E (.ref e) s') : wpC (model prog w) A (call (.ref 408) [.str (T l) t]) Q E s₀ := by
  obtain ⟨la, lb, qq, pa, pre, post, h1, h2, h3, h4, h5, h6, h7, h8, h9⟩ := hp
  exact parse_bad W K hA h1 h2 h3 h4 h5 h6 h7 h8 h9 k
theorem init6_text (hp : ParseOK l ns) (W : WF w mg mb s₀.heap) (K : Frames A fs s₀.heap) (hA : A.depth < 390) (hg : A.guards = some []) (hu : A.units < 1700) (hx : s₀.heap.get? x = some (instObj 467 dx)) (hdx : s₀.heap.get? dx = some (dictOf [] 0)) (low : 515 ≤ dx) (nd : x ≠ dx) (nf : x ∉ fs ∧ dx ∉ fs) (hn : ns.length = 16) (hz : ∀ n ∈ ns, n ≤ 255)
    (k : ∀ r tk vs s', Nats vs ns → Rel [dx] fs s₀.heap s'.heap → Same s₀ s' → s'.heap.get? dx = some (dictOf [ent w "data" tk (.ref r)] 1) → s'.heap.get? r = some (tupOf vs.toArray) → s₀.heap.get? r = none → R (.ok (.ret .none)) s') : codeAny (model prog w) A (.call (.ref 450) ⟨[.ref x, .str (T l) t], []⟩) R s₀ := by
  have hh : A.handled = none := K.calm
  obtain ⟨nf1, nf2⟩ := nf
  have hX := hx
  refine enterC0 [dx] fs [(dx, dictOf [] 0)] [("self", .ref x), ("data", .str (T l) t)] W (by omega) (K.lowS fun a h => by simp at h; subst h; exact low) (fun p hp => by simp at hp; subst hp; exact ⟨by simp, hdx⟩) (by simp) (by k_is) (by k_is) (.of_eq (by rfl)) (by kernel_rfl) ?_
  intro L s hL D
  have dis : ∀ b ∈ (⟨[dx], fs, s₀, L⟩ : Cx).fs, b ∉ (⟨[dx], fs, s₀, L⟩ : Cx).S := fun b hb z => by simp at z; subst z; exact nf2 hb
  fail "qgo"
  refine isi_str2 D (by fail "qin") ?_
  clear D s
  intro s D
  fail "qgo"
  refine parse_call hp (D.wf W) (K.deeper W D dis rfl) (by show A.depth + 1 < _; omega) ?_
  intro r vs s' x5 e5 g5 n5 hv
  replace D := (D.after x5 (fun _ z => nomatch z) e5 [(r, tupOf vs.toArray)] _ rfl (fun p hp => by
    rcases List.mem_cons.mp hp with rfl | hp
    · exact g5
    · exact x5.keep _ _ (fun z => nomatch z) (D.noFrame K dis hp) (D.get (o := p.2) hp)) (by simp) (fun p hp => by simp at hp; subst hp; exact n5))
  clear x5 e5 g5 n5
  simp only [List.cons_append, List.nil_append] at D
  have hvl := hv.length
  fail "qgo"
  refine ip6_any (D.wf W) (K.deeper W D dis rfl) (by show A.depth + 1 < _; omega) hg (by show A.units + 3 < _; omega) (D.get (by fail "qin")) hv (by omega) (fun n h => by have := hz n h; omega) (by decide) (D.noFrame K dis (p := (r, tupOf vs.toArray)) (by fail "qin")) ?_ ?_
  · intro s' h1 h2 x5 e5
    replace D := D.calm K dis x5 e5
    clear x5 e5
    fail "qgo"
    fail "qsd"
    fail "qgo"
    have hr : r ≠ dx := by have := D.ord; simp at this; exact this.1.2
    exact k _ _ _ _ hv D.toRel D.same (D.get (by fail "qin")) (D.get (by fail "qin")) (D.isNewS (p := (r, tupOf vs.toArray)) (by fail "qin") (by simpa using hr))
  · intro e t args s' hb f
    exact absurd ⟨hn, hz⟩ hb
theorem init6_text_bad (hp : ParseOK l ns) (W : WF w mg mb s₀.heap) (K : Frames A fs s₀.heap) (hA : A.depth < 390) (hg : A.guards = some []) (hu : A.units < 1700) (hl : ns.length ≤ 100) (hz : ∀ n ∈ ns, n < 100000) (hb : ¬ (ns.length = 16 ∧ ∀ n ∈ ns, n ≤ 255))
    (k : ∀ e t args s', Threw fs s₀ e (.type "ValueError") t args s' → R (.error (.ref e)) s') : codeAny (model prog w) A (.call (.ref 450) ⟨[.ref x, .str (T l) t], []⟩) R s₀ := by
  have hh : A.handled = none := K.calm
  refine enterC0 [] fs [] [("self", .ref x), ("data", .str (T l) t)] W (by omega) (K.lowS (S := []) fun _ z => nomatch z) (fun _ z => nomatch z) (by simp) (by k_is) (by k_is) (.of_eq (by rfl)) (by kernel_rfl) ?_
  intro L s hL D
  have dis : ∀ b ∈ (⟨[], fs, s₀, L⟩ : Cx).fs, b ∉ (⟨[], fs, s₀, L⟩ : Cx).S := fun _ _ z => nomatch z
  fail "qgo"
  refine isi_str2 D (by fail "qin") ?_
  clear D s
  intro s D
  fail "qgo"
  refine parse_call hp (D.wf W) (K.deeper W D dis rfl) (by show A.depth + 1 < _; omega) ?_
  intro r vs s' x5 e5 g5 n5 hv
  replace D := (D.after x5 (fun _ z => nomatch z) e5 [(r, tupOf vs.toArray)] _ rfl (fun p hp => by
    rcases List.mem_cons.mp hp with rfl | hp
    · exact g5
    · exact x5.keep _ _ (fun z => nomatch z) (D.noFrame K dis hp) (D.get (o := p.2) hp)) (by simp) (fun p hp => by simp at hp; subst hp; exact n5))
  clear x5 e5 g5 n5
  simp only [List.cons_append, List.nil_append] at D
  fail "qgo"
  refine ip6_any (D.wf W) (K.deeper W D dis rfl) (by show A.depth + 1 < _; omega) hg (by show A.units + 3 < _; omega) (D.get (by fail "qin")) hv hl hz (by decide) (D.noFrame K dis (p := (r, tupOf vs.toArray)) (by fail "qin")) ?_ ?_
  · intro s' h1 h2
    exact absurd ⟨h1, h2⟩ hb
  · intro e t args s' hb f
    exact leave_threw D W K rfl rfl f fun s'' f' => k _ _ _ _ f'
theorem init6_g (hp : ParseBad l) (W : WF w mg mb s₀.heap) (K : Frames A fs s₀.heap) (hA : A.depth < 390)
    (k : ∀ e t args s', Threw fs s₀ e (.type "ValueError") t args s' → R (.error (.ref e)) s') : codeC (model prog w) A (.call (.ref 450) ⟨[.ref x, .str (T l) t], []⟩) R s₀ := by
  have hh : A.handled = none := K.calm
  refine enterCX [] fs [] s₀ [("self", .ref x), ("data", .str (T l) t)] W (by omega) (K.lowS (S := []) fun _ z => nomatch z) (fun _ _ e => e) (Nat.le_refl _) ⟨rfl, rfl, rfl⟩ (fun _ z => nomatch z) (by simp) (by k_is) (by k_is) (BindsTo.of_eq (by rfl)) (by kernel_rfl) ?_
  intro L s hL D
  have dis : ∀ b ∈ (⟨[], fs, s₀, L⟩ : Cx).fs, b ∉ (⟨[], fs, s₀, L⟩ : Cx).S := fun _ _ z => nomatch z
  refine wpC_execs_cons (wpC_If ?_)
  fail "qgo"
  refine isi_str2 D (by fail "qin") ?_
  clear D s
  intro s D
  fail "qgo"
  refine wpC_execs_cons ?_
  refine wpC_Assign_Attribute ?_ (hs := by rfl)
  refine wpC_Call ?_ (he := by rfl)
  fail "qgo"
  refine call_thru (by rfl) ?_
  refine args_next ?_
  rw [if_neg Bool.false_ne_true]
  fail "qgo"
  refine args_thru (b := false) ?_
  refine wpC_Call ?_ (he := by rfl)
  fail "qgo"
  refine ckC1 (K := hd.heap_39 w.params) (by k_is) ?_ (by rfl)
  fail "qgo"
  refine parse_callC hp (D.wf W) (K.deeper W D dis rfl) (by show A.depth + 1 < _; omega) ?_
  intro e t args s' f
  exact leave_threw D W K rfl rfl f fun s'' f' => k _ _ _ _ f'
end

section
variable {prog : Program} {w : World} {A : Around} {E : Value → Shared → Prop} {s : Shared} {mg mb : Str → Option Value} {Q : Value → Shared → Prop} {C : Cx} {loc : List (Str × Value)} {news : List (Addr × Obj)} {cl fI : Addr} {arg : Value} {ns : List Nat}
/-- an address class is called, all goes well -/
theorem new_ok (D : St C loc news s) (W : WF w mg mb C.s₀.heap) (K : Frames A (C.L :: C.fs) s.heap) (hnf : ∀ p ∈ news, p.1 ∉ C.L :: C.fs) (hm : makesIn (hd.heap_39 w.params) cl = true) (hi : findIn (hd.heap_39 w.params) (.ref cl) "__init__" = some (some (.ref fI))) (hf : isFn (hd.heap_39 w.params) (.ref fI) = true)
    (hinit : ∀ s₁ x dx R, WF w mg mb s₁.heap → Frames (A.under (.builtin "type.__call__" ⟨[.ref cl, arg], []⟩)) (C.L :: C.fs) s₁.heap → Rel [] [] s.heap s₁.heap → s.heap.get? dx = none → s₁.heap.get? x = some (instObj cl dx) → s₁.heap.get? dx = some (dictOf [] 0) → 515 ≤ dx → x ≠ dx → x ∉ C.L :: C.fs ∧ dx ∉ C.L :: C.fs →
      (∀ t tk vs s', Nats vs ns → Rel [dx] (C.L :: C.fs) s₁.heap s'.heap → Same s₁ s' → s'.heap.get? dx = some (dictOf [ent w "data" tk (.ref t)] 1) → s'.heap.get? t = some (tupOf vs.toArray) → s₁.heap.get? t = none → R (.ok (.ret .none)) s') →
      codeAny (model prog w) (A.under (.builtin "type.__call__" ⟨[.ref cl, arg], []⟩)) (.call (.ref fI) ⟨[.ref x, arg], []⟩) R s₁)
    (k : ∀ x dx t tk vs s', Nats vs ns → St C loc ((x, instObj cl dx) :: (dx, dictOf [ent w "data" tk (.ref t)] 1) :: (t, tupOf vs.toArray) :: news) s' → 515 ≤ x → 515 ≤ dx → Q (.ref x) s') : wpAny (model prog w) A (call (.ref cl) [arg]) Q E s := by
  have W' := D.wf W
  have lw := W'.lowSize
  have nof : ∀ {y}, s.heap.get? y = none → y ∉ C.L :: C.fs := fun q z => by
    obtain ⟨o, _, _, h, _⟩ := K.mem z
    rw [q] at h; cases h
  refine cls_call W' hm hi hf fun x dx s₁ x1 e1 gx gd fx fd ne nx nd => ?_
  refine hinit s₁ x dx _ (W'.rel x1 (fun _ z => nomatch z)) (K.cls.rel x1 (fun _ _ z => nomatch z)) x1 nd gx gd (Nat.le_trans lw fd) ne ⟨nof nx, nof nd⟩ fun t tk vs s' hv x2 e2 hdd ht nt => ⟨rfl, ?_⟩
  have nt' : s.heap.get? t = none := x1.none_of nt
  have x3 : Rel [] (C.L :: C.fs) s.heap s'.heap := (x1.mono (fun _ z => z) (fun _ z => nomatch z)).outer x2 (fun p hp => by simp at hp; subst hp; exact nd)
  have q1 : x ≠ t := fun e => by rw [← e, gx] at nt; cases nt
  have q2 : dx ≠ t := fun e => by rw [← e, gd] at nt; cases nt
  have gx' : s'.heap.get? x = some (instObj cl dx) := x2.keep _ _ (by simpa using ne) (nof nx) gx
  refine k x dx t tk vs s' hv (D.after (S' := []) x3 (fun _ z => nomatch z) (e1.trans e2) [(x, instObj cl dx), (dx, dictOf [ent w "data" tk (.ref t)] 1), (t, tupOf vs.toArray)] news rfl (fun p hp => ?_) (by simp [ne, q1, q2]) (fun p hp => ?_)) (Nat.le_trans lw fx) (Nat.le_trans lw fd)
  · rcases List.mem_append.mp hp with hp | hp
    · simp only [List.mem_cons, List.not_mem_nil, or_false] at hp
      rcases hp with rfl | rfl | rfl <;> assumption
    · exact x3.keep _ _ (fun z => nomatch z) (hnf p hp) (D.get (o := p.2) hp)
  · simp only [List.mem_cons, List.not_mem_nil, or_false] at hp
    rcases hp with rfl | rfl | rfl <;> assumption
theorem threw_up {fs : List Addr} {s₁ s' : Shared} {e t : Addr} {cls : Value} {args : List Value} (x1 : Rel [] [] s.heap s₁.heap) (e1 : Same s s₁) (f : Threw fs s₁ e cls t args s') : Threw fs s e cls t args s' := by
  obtain ⟨f, e2⟩ := f
  refine ⟨⟨(x1.mono (fun _ z => z) (fun _ z => nomatch z)).outer f.rel (fun p hp => nomatch hp), x1.none_of f.new, x1.none_of f.tnew, tracedAt_mono f.tr fun b n => x1.none_of n, f.tup⟩, e1.trans e2⟩
/-- an address class is called, its __init__ raises -/
theorem new_bad (D : St C loc news s) (W : WF w mg mb C.s₀.heap) {fs : List Addr} (K : Frames A fs s.heap) (hm : makesIn (hd.heap_39 w.params) cl = true) (hi : findIn (hd.heap_39 w.params) (.ref cl) "__init__" = some (some (.ref fI))) (hf : isFn (hd.heap_39 w.params) (.ref fI) = true)
    (hinit : ∀ s₁ x R, WF w mg mb s₁.heap → Frames (A.under (.builtin "type.__call__" ⟨[.ref cl, arg], []⟩)) fs s₁.heap → Rel [] [] s.heap s₁.heap →
      (∀ e t args s', Threw fs s₁ e (.type "ValueError") t args s' → R (.error (.ref e)) s') →
      codeAny (model prog w) (A.under (.builtin "type.__call__" ⟨[.ref cl, arg], []⟩)) (.call (.ref fI) ⟨[.ref x, arg], []⟩) R s₁)
    (k : ∀ e t args s', Threw fs s e (.type "ValueError") t args s' → E (.ref e) s') : wpAny (model prog w) A (call (.ref cl) [arg]) Q E s := by
  have W' := D.wf W
  refine cls_call W' hm hi hf fun x dx s₁ x1 e1 gx gd fx fd ne nx nd => ?_
  exact hinit s₁ x _ (W'.rel x1 (fun _ z => nomatch z)) (K.cls.rel x1 (fun _ _ z => nomatch z)) x1 fun e t args s' f => k _ _ _ _ (threw_up x1 e1 f)
theorem new_badC (W' : WF w mg mb s.heap) {fs : List Addr} (K : Frames A fs s.heap) (hm : makesIn (hd.heap_39 w.params) cl = true) (hi : findIn (hd.heap_39 w.params) (.ref cl) "__init__" = some (some (.ref fI))) (hf : isFn (hd.heap_39 w.params) (.ref fI) = true)
    (hinit : ∀ s₁ x R, WF w mg mb s₁.heap → Frames (A.under (.builtin "type.__call__" ⟨[.ref cl, arg], []⟩)) fs s₁.heap → Rel [] [] s.heap s₁.heap →
      (∀ e t args s', Threw fs s₁ e (.type "ValueError") t args s' → R (.error (.ref e)) s') →
      codeC (model prog w) (A.under (.builtin "type.__call__" ⟨[.ref cl, arg], []⟩)) (.call (.ref fI) ⟨[.ref x, arg], []⟩) R s₁)
    (k : ∀ e t args s', Threw fs s e (.type "ValueError") t args s' → E (.ref e) s') : wpC (model prog w) A (call (.ref cl) [arg]) Q E s := by
  refine clsC W' hm hi hf fun x dx s₁ x1 e1 gx gd fx fd ne nx nd => ?_
  exact hinit s₁ x _ (W'.rel x1 (fun _ z => nomatch z)) (K.cls.rel x1 (fun _ _ z => nomatch z)) x1 fun e t args s' f => k _ _ _ _ (threw_up x1 e1 f)
end

theorem isExc_val : isSubtype (.type "ValueError") (.type "BaseException") = pure true := by rw [isSubtype_type]; kernel_rfl
theorem notTup_val : isSubtype (.type ((Manifest.find? "ValueError").elim "type" fun y => y.metatype)) (.type "tuple") = pure false := by rw [isSubtype_type]; kernel_rfl
theorem sub_val : isSubtype (.type "ValueError") (.type "ValueError") = pure true := by rw [isSubtype_type]; kernel_rfl
section
variable {prog : Program} {w : World} {A : Around} {E : Value → Shared → Prop} {s₀ : Shared} {mg mb : Str → Option Value} {Q : Value → Shared → Prop} {fs : List Addr}
theorem refused_347 {arg : Value} (W : WF w mg mb s₀.heap) (K : Frames A fs s₀.heap) (hA : A.depth < 900)
    (hcall : ∀ (A' : Around) (L : Addr) (s₁ : Shared) (loc : List (Str × Value)) (Q' E' : Value → Shared → Prop), St ⟨[], fs, s₀, L⟩ loc [] s₁ → Frames A' (L :: fs) s₁.heap → A'.depth = A.depth + 1 → A'.guards = A.guards → A'.units = A.units + 3 → (∀ e t args s', Threw (L :: fs) s₁ e (.type "ValueError") t args s' → E' (.ref e) s') → wpAny (model prog w) A' (call (.ref 347) [arg]) Q' E' s₁)
    (k : ∀ s', Rel [] fs s₀.heap s'.heap → Same s₀ s' → Q (.bool true) s') : wpAny (model prog w) A (call (.ref 502) [.ref 347, arg]) Q E s₀ := by
  have hh : A.handled = none := K.calm
  refine enterS [] fs [] [("kind", .ref 347), ("text", arg)] W (by omega) (K.lowS (S := []) fun _ z => nomatch z) (fun _ z => nomatch z) (by simp) (by k_is) (by k_is) (.of_eq (by rfl)) (by kernel_rfl) ?_
  intro L s hL D
  have dis : ∀ b ∈ (⟨[], fs, s₀, L⟩ : Cx).fs, b ∉ (⟨[], fs, s₀, L⟩ : Cx).S := fun _ _ z => nomatch z
  fail "qgo"
  refine hcall _ _ _ _ _ _ D (K.deeper W D dis rfl) rfl rfl rfl ?_
  intro e t args s' f
  refine catch_flew D W K dis rfl f.flew f.same (by kernel_rfl) (by k_is) (by fail "qbo") (by kernel_rfl) isExc_val notTup_val sub_val ?_
  clear D
  intro s D f4
  fail "qgo"
  exact k _ D.toRel D.same
theorem refused_467 {arg : Value} (W : WF w mg mb s₀.heap) (K : Frames A fs s₀.heap) (hA : A.depth < 900)
    (hcall : ∀ (A' : Around) (L : Addr) (s₁ : Shared) (loc : List (Str × Value)) (Q' E' : Value → Shared → Prop), St ⟨[], fs, s₀, L⟩ loc [] s₁ → Frames A' (L :: fs) s₁.heap → A'.depth = A.depth + 1 → A'.guards = A.guards → A'.units = A.units + 3 → (∀ e t args s', Threw (L :: fs) s₁ e (.type "ValueError") t args s' → E' (.ref e) s') → wpAny (model prog w) A' (call (.ref 467) [arg]) Q' E' s₁)
    (k : ∀ s', Rel [] fs s₀.heap s'.heap → Same s₀ s' → Q (.bool true) s') : wpAny (model prog w) A (call (.ref 502) [.ref 467, arg]) Q E s₀ := by
  have hh : A.handled = none := K.calm
  refine enterS [] fs [] [("kind", .ref 467), ("text", arg)] W (by omega) (K.lowS (S := []) fun _ z => nomatch z) (fun _ z => nomatch z) (by simp) (by k_is) (by k_is) (.of_eq (by rfl)) (by kernel_rfl) ?_
  intro L s hL D
  have dis : ∀ b ∈ (⟨[], fs, s₀, L⟩ : Cx).fs, b ∉ (⟨[], fs, s₀, L⟩ : Cx).S := fun _ _ z => nomatch z
  fail "qgo"
  refine hcall _ _ _ _ _ _ D (K.deeper W D dis rfl) rfl rfl rfl ?_
  intro e t args s' f
  refine catch_flew D W K dis rfl f.flew f.same (by kernel_rfl) (by k_is) (by fail "qbo") (by kernel_rfl) isExc_val notTup_val sub_val ?_
  clear D
  intro s D f4
  fail "qgo"
  exact k _ D.toRel D.same
theorem refused_347C {arg : Value} (W : WF w mg mb s₀.heap) (K : Frames A fs s₀.heap) (hA : A.depth < 900)
    (hcall : ∀ (A' : Around) (L : Addr) (s₁ : Shared) (loc : List (Str × Value)) (Q' E' : Value → Shared → Prop), St ⟨[], fs, s₀, L⟩ loc [] s₁ → Frames A' (L :: fs) s₁.heap → A'.depth = A.depth + 1 → A'.guards = A.guards → A'.units = A.units + 3 → (∀ e t args s', Threw (L :: fs) s₁ e (.type "ValueError") t args s' → E' (.ref e) s') → wpC (model prog w) A' (call (.ref 347) [arg]) Q' E' s₁)
    (k : ∀ s', Rel [] fs s₀.heap s'.heap → Same s₀ s' → Q (.bool true) s') : wpC (model prog w) A (call (.ref 502) [.ref 347, arg]) Q E s₀ := by
  have hh : A.handled = none := K.calm
  refine enterX [] fs [] [("kind", .ref 347), ("text", arg)] W (by omega) (K.lowS (S := []) fun _ z => nomatch z) (fun _ z => nomatch z) (by simp) (by k_is) (by k_is) (.of_eq (by rfl)) (by kernel_rfl) ?_
  intro L s hL D
  have dis : ∀ b ∈ (⟨[], fs, s₀, L⟩ : Cx).fs, b ∉ (⟨[], fs, s₀, L⟩ : Cx).S := fun _ _ z => nomatch z
  refine wpC_execs_cons (wpC_Try ?_)
  refine wpC_execs_cons (wpC_Expr ?_ (hi := by rfl) (hs := by rfl))
  refine wpC_Call ?_ (he := by rfl)
  fail "qgo"
  refine ckC1 (K := hd.heap_39 w.params) (by k_is) ?_ (by rfl)
  fail "qgo"
  refine hcall _ _ _ _ _ _ D (K.deeper W D dis rfl) rfl rfl rfl ?_
  intro e t args s' f
  refine catch_flew D W K dis rfl f.flew f.same (by kernel_rfl) (by k_is) (by fail "qbo") (by kernel_rfl) isExc_val notTup_val sub_val ?_
  clear D
  intro s D f4
  fail "qgo"
  exact k _ D.toRel D.same
theorem refused_467C {arg : Value} (W : WF w mg mb s₀.heap) (K : Frames A fs s₀.heap) (hA : A.depth < 900)
    (hcall : ∀ (A' : Around) (L : Addr) (s₁ : Shared) (loc : List (Str × Value)) (Q' E' : Value → Shared → Prop), St ⟨[], fs, s₀, L⟩ loc [] s₁ → Frames A' (L :: fs) s₁.heap → A'.depth = A.depth + 1 → A'.guards = A.guards → A'.units = A.units + 3 → (∀ e t args s', Threw (L :: fs) s₁ e (.type "ValueError") t args s' → E' (.ref e) s') → wpC (model prog w) A' (call (.ref 467) [arg]) Q' E' s₁)
    (k : ∀ s', Rel [] fs s₀.heap s'.heap → Same s₀ s' → Q (.bool true) s') : wpC (model prog w) A (call (.ref 502) [.ref 467, arg]) Q E s₀ := by
  have hh : A.handled = none := K.calm
  refine enterX [] fs [] [("kind", .ref 467), ("text", arg)] W (by omega) (K.lowS (S := []) fun _ z => nomatch z) (fun _ z => nomatch z) (by simp) (by k_is) (by k_is) (.of_eq (by rfl)) (by kernel_rfl) ?_
  intro L s hL D
  have dis : ∀ b ∈ (⟨[], fs, s₀, L⟩ : Cx).fs, b ∉ (⟨[], fs, s₀, L⟩ : Cx).S := fun _ _ z => nomatch z
  refine wpC_execs_cons (wpC_Try ?_)
  refine wpC_execs_cons (wpC_Expr ?_ (hi := by rfl) (hs := by rfl))
  refine wpC_Call ?_ (he := by rfl)
  fail "qgo"
  refine ckC1 (K := hd.heap_39 w.params) (by k_is) ?_ (by rfl)
  fail "qgo"
  refine hcall _ _ _ _ _ _ D (K.deeper W D dis rfl) rfl rfl rfl ?_
  intro e t args s' f
  refine catch_flew D W K dis rfl f.flew f.same (by kernel_rfl) (by k_is) (by fail "qbo") (by kernel_rfl) isExc_val notTup_val sub_val ?_
  clear D
  intro s D f4
  fail "qgo"
  exact k _ D.toRel D.same
end

section
variable {prog : Program} {w : World} {A : Around} {E : Value → Shared → Prop} {C : Cx} {s : Shared} {mg mb : Str → Option Value} {loc : List (Str × Value)} {news : List (Addr × Obj)} {env : Env} {pos : Pos}
/-- a classmethod of a class, looked up to be called -/
theorem r_clsm {pl : Sem Bool} {Q : Value × List Value → Shared → Prop} {Cl p : Addr} {name : Str} {f mc : Value} {rest : List Value} (D : St C loc news s) (W : WF w mg mb C.s₀.heap) (hg : specialIn (hd.heap_39 w.params) (.ref Cl) "__getattribute__" = some (some (.builtin "type.__getattribute__")))
    (hm : typeIn (hd.heap_39 w.params) (.ref Cl) = some mc) (hr : readsIn (hd.heap_39 w.params) Cl mc = true) (e : findCls (hd.heap_39 w.params) (.ref Cl) mc name = some (.get (.builtin "classmethod.__get__") (.ref p) .none (.ref Cl))) (hp : recIn (hd.heap_39 w.params) p "classmethod" = some (f :: rest))
    (h : ∀ q s', St C loc ((q, methodObj f (.ref Cl)) :: news) s' → Q (.ref q, []) s') : wpAny (model prog w) A (getMethod (.ref Cl) name pl) Q E s := by
  obtain ⟨g, m, F, N, X, k⟩ := D.libX W
  refine method_of_cls F X hg (cls_cm F X N hm hr e hp fun q h' F' N' hlt => h q _ (k { s with heap := h', toks := s.toks + 1 } _ F' N' ?_ ⟨rfl, rfl, rfl⟩))
  rw [List.map_cons, List.nodup_cons]
  refine ⟨fun z => ?_, D.ord⟩
  obtain ⟨p, hp, e⟩ := List.mem_map.mp z
  exact absurd (hlt p hp) (by rw [e]; exact Nat.lt_irrefl _)
theorem r_callm {Q : Value → Shared → Prop} {q : Addr} {f self : Value} {vs : List Value} (D : St C loc news s) (hq : (q, methodObj f self) ∈ news) (h : codeAny (model prog w) A (.call f ⟨self :: vs, []⟩) (fun r s' => match r with | .ok (.ret v) => Q v s' | .ok _ => False | .error e => E e s') s) : wpAny (model prog w) A (call (.ref q) vs) Q E s := by
  obtain ⟨g, m, F, N, _⟩ := D.lib
  exact call_meth N hq h
theorem isi_tup2 {tp l : Addr} {its : Array Value} {Q : Value → Shared → Prop} (D : St C loc news s) (hl : IsTup s.heap l its) (ht : (tp, tupOf #[.type "tuple", .type "list"]) ∈ news) (h : ∀ s', St C loc news s' → Q (.bool true) s') : wpAny (model prog w) A (call (.builtin "isinstance") [.ref l, .ref tp]) Q E s := by
  obtain ⟨o, ho, hc, _⟩ := hl
  refine IsiPair.tupleOf (Tx := "tuple") (cs := [.type "tuple", .type "list"]) (vs := [true, false]) (.cons (.of_true (by kernel_rfl) (by rw [isSubtype_type]; kernel_rfl)) (.cons (.of_false_tuple (by decide +kernel) (by kernel_rfl) (by rw [isSubtype_type]; kernel_rfl)) .nil)) ⟨o, ho, hc⟩ (D.get ht) fun tk => h _ D.toks
/-- its call, the first argument under the caller -/
theorem cmCC2 {K : Frag} {q g : Addr} {self : Value} {e₁ e₂ : Expr} {Q : Value → Shared → Prop} (hf : fnIn K g = true) (h : wpC (model prog w) A (eval e₁ env) (fun v s₁ => wpAny (model prog w) A (eval e₂ env) (fun v₂ s₂ => MethP K q g self s₂.heap ∧ wpC (model prog w) A (call (.ref q) [v, v₂]) Q E s₂) E s₁) E s)
    (he : starEach [e₁, e₂] env = [(false, eval e₁ env), (false, eval e₂ env)]) (he₂ : starEach [e₂] env = [(false, eval e₂ env)]) : wpC (model prog w) A (callWith pos (.ref q) [] (backTo pos (starEach [e₁, e₂] env)) []) Q E s :=
  cwC (keeps_M hf) (splC (wpC_mono h (fun v s₁ h₁ => splC (wpC_of (wpAny_mono h₁ (fun v₂ s₂ h₂ => spl0 h₂) fun _ _ x => x)) he₂) fun _ _ x => x) (he.trans (by rw [he₂]))) (he.trans (by rw [he₂]))
end

section
variable {prog : Program} {w : World} {A : Around} {s₀ : Shared} {mg mb : Str → Option Value} {x dx l : Addr} {vs : List Value} {ns : List Nat} {R : Result → Shared → Prop} {fs : List Addr}
theorem init4_tup (W : WF w mg mb s₀.heap) (K : Frames A fs s₀.heap) (hA : A.depth < 600) (hg : A.guards = some []) (hu : A.units < 1700) (hx : s₀.heap.get? x = some (instObj 347 dx)) (hdx : s₀.heap.get? dx = some (dictOf [] 0)) (low : 515 ≤ dx) (nd : x ≠ dx) (nf : x ∉ fs ∧ dx ∉ fs) (hl : s₀.heap.get? l = some (tupOf vs.toArray)) (nl : l ≠ dx ∧ l ∉ fs) (hv : Nats vs ns) (hn : ns.length = 4) (hz : ∀ n ∈ ns, n ≤ 255)
    (k : ∀ tk s', Rel [dx] fs s₀.heap s'.heap → Same s₀ s' → s'.heap.get? dx = some (dictOf [ent w "data" tk (.ref l)] 1) → R (.ok (.ret .none)) s') : codeAny (model prog w) A (.call (.ref 330) ⟨[.ref x, .ref l], []⟩) R s₀ := by
  have hh : A.handled = none := K.calm
  obtain ⟨nf1, nf2⟩ := nf
  obtain ⟨nl1, nl2⟩ := nl
  have hX := hx
  refine enterC0 [dx] fs [(dx, dictOf [] 0)] [("self", .ref x), ("data", .ref l)] W (by omega) (K.lowS fun a h => by simp at h; subst h; exact low) (fun p hp => by simp at hp; subst hp; exact ⟨by simp, hdx⟩) (by simp) (by k_is) (by k_is) (.of_eq (by rfl)) (by kernel_rfl) ?_
  intro L s hL D
  have dis : ∀ b ∈ (⟨[dx], fs, s₀, L⟩ : Cx).fs, b ∉ (⟨[dx], fs, s₀, L⟩ : Cx).S := fun b hb z => by simp at z; subst z; exact nf2 hb
  have hvl := hv.length
  fail "qgo"
  refine isi_tup2 D (D.tupl ⟨_, hl, rfl, _, rfl⟩ (by simpa using nl1)) (by fail "qin") ?_
  clear D s
  intro s D
  fail "qgo"
  refine call_tuple_same (D.tupl ⟨_, hl, rfl, _, rfl⟩ (by simpa using nl1)) ?_
  fail "qgo"
  refine ip4_any (D.wf W) (K.deeper W D dis rfl) (by show A.depth + 1 < _; omega) hg (by show A.units + 3 < _; omega) (D.old hl (by simpa using nl1) nl2) hv (by omega) (fun n h => by have := hz n h; omega) (by decide) (fun z => (List.mem_cons.mp z).elim (fun e => absurd (Heap.lt_size hl) (by rw [e]; exact Nat.not_lt.mpr hL)) nl2) ?_ ?_
  · intro s' h1 h2 x5 e5
    replace D := D.calm K dis x5 e5
    clear x5 e5
    fail "qgo"
    fail "qsd"
    fail "qgo"
    exact k _ _ D.toRel D.same (D.get (by fail "qin"))
  · intro e t args s' hb f
    exact absurd ⟨hn, hz⟩ hb
theorem init6_tup (W : WF w mg mb s₀.heap) (K : Frames A fs s₀.heap) (hA : A.depth < 600) (hg : A.guards = some []) (hu : A.units < 1700) (hx : s₀.heap.get? x = some (instObj 467 dx)) (hdx : s₀.heap.get? dx = some (dictOf [] 0)) (low : 515 ≤ dx) (nd : x ≠ dx) (nf : x ∉ fs ∧ dx ∉ fs) (hl : s₀.heap.get? l = some (tupOf vs.toArray)) (nl : l ≠ dx ∧ l ∉ fs) (hv : Nats vs ns) (hn : ns.length = 16) (hz : ∀ n ∈ ns, n ≤ 255)
    (k : ∀ tk s', Rel [dx] fs s₀.heap s'.heap → Same s₀ s' → s'.heap.get? dx = some (dictOf [ent w "data" tk (.ref l)] 1) → R (.ok (.ret .none)) s') : codeAny (model prog w) A (.call (.ref 450) ⟨[.ref x, .ref l], []⟩) R s₀ := by
  have hh : A.handled = none := K.calm
  obtain ⟨nf1, nf2⟩ := nf
  obtain ⟨nl1, nl2⟩ := nl
  have hX := hx
  refine enterC0 [dx] fs [(dx, dictOf [] 0)] [("self", .ref x), ("data", .ref l)] W (by omega) (K.lowS fun a h => by simp at h; subst h; exact low) (fun p hp => by simp at hp; subst hp; exact ⟨by simp, hdx⟩) (by simp) (by k_is) (by k_is) (.of_eq (by rfl)) (by kernel_rfl) ?_
  intro L s hL D
  have dis : ∀ b ∈ (⟨[dx], fs, s₀, L⟩ : Cx).fs, b ∉ (⟨[dx], fs, s₀, L⟩ : Cx).S := fun b hb z => by simp at z; subst z; exact nf2 hb
  have hvl := hv.length
  fail "qgo"
  refine isi_tup2 D (D.tupl ⟨_, hl, rfl, _, rfl⟩ (by simpa using nl1)) (by fail "qin") ?_
  clear D s
  intro s D
  fail "qgo"
  refine call_tuple_same (D.tupl ⟨_, hl, rfl, _, rfl⟩ (by simpa using nl1)) ?_
  fail "qgo"
  refine ip6_any (D.wf W) (K.deeper W D dis rfl) (by show A.depth + 1 < _; omega) hg (by show A.units + 3 < _; omega) (D.old hl (by simpa using nl1) nl2) hv (by omega) (fun n h => by have := hz n h; omega) (by decide) (fun z => (List.mem_cons.mp z).elim (fun e => absurd (Heap.lt_size hl) (by rw [e]; exact Nat.not_lt.mpr hL)) nl2) ?_ ?_
  · intro s' h1 h2 x5 e5
    replace D := D.calm K dis x5 e5
    clear x5 e5
    fail "qgo"
    fail "qsd"
    fail "qgo"
    exact k _ _ D.toRel D.same (D.get (by fail "qin"))
  · intro e t args s' hb f
    exact absurd ⟨hn, hz⟩ hb
end

section
variable {prog : Program} {w : World} {A : Around} {E : Value → Shared → Prop} {s : Shared} {mg mb : Str → Option Value} {Q : Value → Shared → Prop} {C : Cx} {loc : List (Str × Value)} {news : List (Addr × Obj)} {cl fI t : Addr} {arg : Value}
/-- an address class is called, all goes well -/
theorem new_okT (D : St C loc news s) (W : WF w mg mb C.s₀.heap) (K : Frames A (C.L :: C.fs) s.heap) (hnf : ∀ p ∈ news, p.1 ∉ C.L :: C.fs) (hm : makesIn (hd.heap_39 w.params) cl = true) (hi : findIn (hd.heap_39 w.params) (.ref cl) "__init__" = some (some (.ref fI))) (hf : isFn (hd.heap_39 w.params) (.ref fI) = true)
    (hinit : ∀ s₁ x dx R, WF w mg mb s₁.heap → Frames (A.under (.builtin "type.__call__" ⟨[.ref cl, arg], []⟩)) (C.L :: C.fs) s₁.heap → Rel [] [] s.heap s₁.heap → s.heap.get? dx = none → s₁.heap.get? x = some (instObj cl dx) → s₁.heap.get? dx = some (dictOf [] 0) → 515 ≤ dx → x ≠ dx → x ∉ C.L :: C.fs ∧ dx ∉ C.L :: C.fs →
      (∀ tk s', Rel [dx] (C.L :: C.fs) s₁.heap s'.heap → Same s₁ s' → s'.heap.get? dx = some (dictOf [ent w "data" tk (.ref t)] 1) → R (.ok (.ret .none)) s') →
      codeAny (model prog w) (A.under (.builtin "type.__call__" ⟨[.ref cl, arg], []⟩)) (.call (.ref fI) ⟨[.ref x, arg], []⟩) R s₁)
    (k : ∀ x dx tk s', St C loc ((x, instObj cl dx) :: (dx, dictOf [ent w "data" tk (.ref t)] 1) :: news) s' → 515 ≤ x → 515 ≤ dx → Q (.ref x) s') : wpAny (model prog w) A (call (.ref cl) [arg]) Q E s := by
  have W' := D.wf W
  have lw := W'.lowSize
  have nof : ∀ {y}, s.heap.get? y = none → y ∉ C.L :: C.fs := fun q z => by
    obtain ⟨o, _, _, h, _⟩ := K.mem z
    rw [q] at h; cases h
  refine cls_call W' hm hi hf fun x dx s₁ x1 e1 gx gd fx fd ne nx nd => ?_
  refine hinit s₁ x dx _ (W'.rel x1 (fun _ z => nomatch z)) (K.cls.rel x1 (fun _ _ z => nomatch z)) x1 nd gx gd (Nat.le_trans lw fd) ne ⟨nof nx, nof nd⟩ fun tk s' x2 e2 hdd => ⟨rfl, ?_⟩
  have x3 : Rel [] (C.L :: C.fs) s.heap s'.heap := (x1.mono (fun _ z => z) (fun _ z => nomatch z)).outer x2 (fun p hp => by simp at hp; subst hp; exact nd)
  have gx' : s'.heap.get? x = some (instObj cl dx) := x2.keep _ _ (by simpa using ne) (nof nx) gx
  refine k x dx tk s' (D.after (S' := []) x3 (fun _ z => nomatch z) (e1.trans e2) [(x, instObj cl dx), (dx, dictOf [ent w "data" tk (.ref t)] 1)] news rfl (fun p hp => ?_) (by simp [ne]) (fun p hp => ?_)) (Nat.le_trans lw fx) (Nat.le_trans lw fd)
  · rcases List.mem_append.mp hp with hp | hp
    · simp only [List.mem_cons, List.not_mem_nil, or_false] at hp
      rcases hp with rfl | rfl <;> assumption
    · exact x3.keep _ _ (fun z => nomatch z) (hnf p hp) (D.get (o := p.2) hp)
  · simp only [List.mem_cons, List.not_mem_nil, or_false] at hp
    rcases hp with rfl | rfl <;> assumption
end

section
variable {prog : Program} {w : World} {A : Around} {s₀ : Shared} {mg mb : Str → Option Value} {x dx b : Addr} {l : List Nat} {t1 t2 t3 : Tok} {R : Result → Shared → Prop} {fs : List Addr} {v : Value}
theorem parse4_obj (W : WF w mg mb s₀.heap) (K : Frames A fs s₀.heap) (hA : A.depth < 500) (hg : A.guards = some []) (hu : A.units < 1600) (hx : s₀.heap.get? x = some (instObj 166 dx)) (hdx : s₀.heap.get? dx = some (dictOf [ent w "data" t1 (.ref b), ent w "offset" t2 (.int 0 t3)] 2)) (hb : s₀.heap.get? b = some (baObj (BA l)))
    (hn : l.length = 4) (hz : ∀ n ∈ l, n < 256) (low : 515 ≤ dx) (nd : x ≠ dx ∧ b ≠ dx) (nf : x ∉ fs ∧ dx ∉ fs ∧ b ∉ fs)
    (k : ∀ y dy t tk vs s', Nats vs l → Rel [dx] fs s₀.heap s'.heap → Same s₀ s' → s'.heap.get? y = some (instObj 347 dy) → s'.heap.get? dy = some (dictOf [ent w "data" tk (.ref t)] 1) → s'.heap.get? t = some (tupOf vs.toArray) → s₀.heap.get? y = none → s₀.heap.get? dy = none → s₀.heap.get? t = none → y ≠ dy → 515 ≤ y → 515 ≤ dy → R (.ok (.ret (.ref y))) s') :
    codeAny (model prog w) A (.call (.ref 309) ⟨[.ref 347, .ref x, v], []⟩) R s₀ := by
  have hh : A.handled = none := K.calm
  obtain ⟨nf1, nf2, nf3⟩ := nf
  obtain ⟨nd1, nd2⟩ := nd
  have hX := hx
  have hX2 := hb
  refine enterC0 [dx] fs [(dx, dictOf [ent w "data" t1 (.ref b), ent w "offset" t2 (.int 0 t3)] 2)] [("cls", .ref 347), ("buffer", .ref x), ("length", v)] W (by omega) (K.lowS fun a h => by simp at h; subst h; exact low) (fun p hp => by simp at hp; subst hp; exact ⟨by simp, hdx⟩) (by simp) (by k_is) (by k_is) (.of_eq (by rfl)) (by kernel_rfl) ?_
  intro L s hL D
  have dis : ∀ b ∈ (⟨[dx], fs, s₀, L⟩ : Cx).fs, b ∉ (⟨[dx], fs, s₀, L⟩ : Cx).S := fun b hb z => by simp at z; subst z; exact nf2 hb
  fail "qgo"
  fail "qmd"
  fail "qcm"
  fail "qgo"
  refine buf_unpack (D.wf W) (by show A.depth + 1 < _; omega) hh (D.old hx (by simpa using nd1) nf1) (D.get (by fail "qin")) (D.old hb (by simpa using nd2) nf3) (.inr ⟨rfl, hn⟩) hz low ⟨nd1, nd2⟩ ?_
  intro t5 t6 vs s5 hv x5 e5 hd5 ht5 nt5
  have hne : t5 ≠ dx := fun e => by
    have := D.get (a := dx) (List.mem_cons_self)
    rw [← e, nt5] at this; cases this
  replace D := D.after (s' := s5) (S' := [dx]) (x5.mono (fun _ z => z) (fun _ z => nomatch z)) (fun a ha => by simpa using ha) e5 [(t5, tupOf vs.toArray)] [(dx, dictOf [ent w "data" t1 (.ref b), ent w "offset" t2 (.int (l.length : Nat) t6)] 2)] rfl (fun p hp => by
    simp at hp
    rcases hp with rfl | rfl
    · exact ht5
    · exact hd5) (by simp) (fun p hp => by simp at hp; subst hp; exact nt5)
  clear x5 e5 hd5 ht5 nt5
  simp only [List.cons_append, List.nil_append] at D
  fail "qgo"
  refine new_okT (fI := 330) (t := t5) D W (K.deeper W D dis rfl) (fun p hp z => ?_) (by k_is) (by k_is) (by k_is) ?_ ?_
  · exact D.noFrame K dis hp z
  · intro s₁ x' dx' R' W1 K1 x1 ndx gx gd lo ne nfs kk
    refine init4_tup W1 K1 (by rw [depth_cls]; show A.depth + 1 + 1 < _; omega) (by rw [guards_cls]; exact hg) (Nat.lt_of_le_of_lt units_cls (by show A.units + 3 + 7 < _; omega)) gx gd lo ne nfs (x1.keep _ _ (fun z => nomatch z) (fun z => nomatch z) (D.get (by fail "qin"))) ⟨fun e => ?_, D.noFrame K dis (p := (t5, tupOf vs.toArray)) (by fail "qin")⟩ hv hn (fun n h => by have := hz n h; omega) kk
    have := D.get (a := t5) (o := tupOf vs.toArray) (by fail "qin")
    rw [e, ndx] at this; cases this
  · intro y dy tk s' D' ly ldy
    have o := D'.ord
    simp at o
    obtain ⟨⟨o1, o2, o3⟩, ⟨o4, o5⟩, o6⟩ := o
    exact k _ _ _ _ _ _ hv D'.toRel D'.same (D'.get (by fail "qin")) (D'.get (by fail "qin")) (D'.get (by fail "qin")) (D'.isNewS (p := (y, instObj 347 dy)) (by fail "qin") (by simpa using o3)) (D'.isNewS (p := (dy, _)) (.tail _ (.head _)) (by simpa using o5)) (D'.isNewS (p := (t5, tupOf vs.toArray)) (by fail "qin") (by simpa using o6)) o1 ly ldy
theorem parse6_obj (W : WF w mg mb s₀.heap) (K : Frames A fs s₀.heap) (hA : A.depth < 500) (hg : A.guards = some []) (hu : A.units < 1600) (hx : s₀.heap.get? x = some (instObj 166 dx)) (hdx : s₀.heap.get? dx = some (dictOf [ent w "data" t1 (.ref b), ent w "offset" t2 (.int 0 t3)] 2)) (hb : s₀.heap.get? b = some (baObj (BA l)))
    (hn : l.length = 16) (hz : ∀ n ∈ l, n < 256) (low : 515 ≤ dx) (nd : x ≠ dx ∧ b ≠ dx) (nf : x ∉ fs ∧ dx ∉ fs ∧ b ∉ fs)
    (k : ∀ y dy t tk vs s', Nats vs l → Rel [dx] fs s₀.heap s'.heap → Same s₀ s' → s'.heap.get? y = some (instObj 467 dy) → s'.heap.get? dy = some (dictOf [ent w "data" tk (.ref t)] 1) → s'.heap.get? t = some (tupOf vs.toArray) → s₀.heap.get? y = none → s₀.heap.get? dy = none → s₀.heap.get? t = none → y ≠ dy → 515 ≤ y → 515 ≤ dy → R (.ok (.ret (.ref y))) s') :
    codeAny (model prog w) A (.call (.ref 429) ⟨[.ref 467, .ref x, v], []⟩) R s₀ := by
  have hh : A.handled = none := K.calm
  obtain ⟨nf1, nf2, nf3⟩ := nf
  obtain ⟨nd1, nd2⟩ := nd
  have hX := hx
  have hX2 := hb
  refine enterC0 [dx] fs [(dx, dictOf [ent w "data" t1 (.ref b), ent w "offset" t2 (.int 0 t3)] 2)] [("cls", .ref 467), ("buffer", .ref x), ("length", v)] W (by omega) (K.lowS fun a h => by simp at h; subst h; exact low) (fun p hp => by simp at hp; subst hp; exact ⟨by simp, hdx⟩) (by simp) (by k_is) (by k_is) (.of_eq (by rfl)) (by kernel_rfl) ?_
  intro L s hL D
  have dis : ∀ b ∈ (⟨[dx], fs, s₀, L⟩ : Cx).fs, b ∉ (⟨[dx], fs, s₀, L⟩ : Cx).S := fun b hb z => by simp at z; subst z; exact nf2 hb
  fail "qgo"
  fail "qmd"
  fail "qcm"
  fail "qgo"
  refine buf_unpack (D.wf W) (by show A.depth + 1 < _; omega) hh (D.old hx (by simpa using nd1) nf1) (D.get (by fail "qin")) (D.old hb (by simpa using nd2) nf3) (.inl ⟨rfl, hn⟩) hz low ⟨nd1, nd2⟩ ?_
  intro t5 t6 vs s5 hv x5 e5 hd5 ht5 nt5
  have hne : t5 ≠ dx := fun e => by
    have := D.get (a := dx) (List.mem_cons_self)
    rw [← e, nt5] at this; cases this
  replace D := D.after (s' := s5) (S' := [dx]) (x5.mono (fun _ z => z) (fun _ z => nomatch z)) (fun a ha => by simpa using ha) e5 [(t5, tupOf vs.toArray)] [(dx, dictOf [ent w "data" t1 (.ref b), ent w "offset" t2 (.int (l.length : Nat) t6)] 2)] rfl (fun p hp => by
    simp at hp
    rcases hp with rfl | rfl
    · exact ht5
    · exact hd5) (by simp) (fun p hp => by simp at hp; subst hp; exact nt5)
  clear x5 e5 hd5 ht5 nt5
  simp only [List.cons_append, List.nil_append] at D
  fail "qgo"
  refine new_okT (fI := 450) (t := t5) D W (K.deeper W D dis rfl) (fun p hp z => ?_) (by k_is) (by k_is) (by k_is) ?_ ?_
  · exact D.noFrame K dis hp z
  · intro s₁ x' dx' R' W1 K1 x1 ndx gx gd lo ne nfs kk
    refine init6_tup W1 K1 (by rw [depth_cls]; show A.depth + 1 + 1 < _; omega) (by rw [guards_cls]; exact hg) (Nat.lt_of_le_of_lt units_cls (by show A.units + 3 + 7 < _; omega)) gx gd lo ne nfs (x1.keep _ _ (fun z => nomatch z) (fun z => nomatch z) (D.get (by fail "qin"))) ⟨fun e => ?_, D.noFrame K dis (p := (t5, tupOf vs.toArray)) (by fail "qin")⟩ hv hn (fun n h => by have := hz n h; omega) kk
    have := D.get (a := t5) (o := tupOf vs.toArray) (by fail "qin")
    rw [e, ndx] at this; cases this
  · intro y dy tk s' D' ly ldy
    have o := D'.ord
    simp at o
    obtain ⟨⟨o1, o2, o3⟩, ⟨o4, o5⟩, o6⟩ := o
    exact k _ _ _ _ _ _ hv D'.toRel D'.same (D'.get (by fail "qin")) (D'.get (by fail "qin")) (D'.get (by fail "qin")) (D'.isNewS (p := (y, instObj 467 dy)) (by fail "qin") (by simpa using o3)) (D'.isNewS (p := (dy, _)) (.tail _ (.head _)) (by simpa using o5)) (D'.isNewS (p := (t5, tupOf vs.toArray)) (by fail "qin") (by simpa using o6)) o1 ly ldy
end

section
variable {prog : Program} {w : World} {A : Around} {s₀ : Shared} {mg mb : Str → Option Value} {x dx b : Addr} {l : List Nat} {t1 t2 t3 : Tok} {R : Result → Shared → Prop} {fs : List Addr} {v : Value}
theorem parse4_short (W : WF w mg mb s₀.heap) (K : Frames A fs s₀.heap) (hA : A.depth < 500) (hu : A.units < 1600) (hx : s₀.heap.get? x = some (instObj 166 dx)) (hdx : s₀.heap.get? dx = some (dictOf [ent w "data" t1 (.ref b), ent w "offset" t2 (.int 0 t3)] 2)) (hb : s₀.heap.get? b = some (baObj (BA l)))
    (hn : l.length < 4) (nf : x ∉ fs ∧ dx ∉ fs ∧ b ∉ fs) (k : ∀ e t args cx s', ThrewX fs s₀ e (.ref 215) t args cx s' → R (.error (.ref e)) s') :
    codeAny (model prog w) A (.call (.ref 309) ⟨[.ref 347, .ref x, v], []⟩) R s₀ := by
  have hh : A.handled = none := K.calm
  obtain ⟨nf1, nf2, nf3⟩ := nf
  have hX := hx
  have hX2 := hdx
  refine enterC0 [] fs [] [("cls", .ref 347), ("buffer", .ref x), ("length", v)] W (by omega) (K.lowS (S := []) fun _ z => nomatch z) (fun _ z => nomatch z) (by simp) (by k_is) (by k_is) (.of_eq (by rfl)) (by kernel_rfl) ?_
  intro L s hL D
  have dis : ∀ b ∈ (⟨[], fs, s₀, L⟩ : Cx).fs, b ∉ (⟨[], fs, s₀, L⟩ : Cx).S := fun _ _ z => nomatch z
  have lt : ∀ {y o}, s₀.heap.get? y = some o → y ∉ fs → y ∉ L :: fs := fun q n z => (List.mem_cons.mp z).elim (fun e => absurd (Heap.lt_size q) (by rw [e]; exact Nat.not_lt.mpr hL)) n
  fail "qgo"
  fail "qmd"
  fail "qcm"
  fail "qgo"
  refine buf_unpack_short (D.wf W) (K.deeper W D dis rfl) (by show A.depth + 1 < _; omega) (D.old hx (by simp) nf1) (D.old hdx (by simp) nf2) (D.old hb (by simp) nf3) (.inr ⟨rfl, hn⟩) ⟨lt hx nf1, lt hdx nf2, lt hb nf3⟩ ?_
  intro e te m u s' f hm
  refine catch_start D W K dis rfl f fun T oT ts s₄ D₄ hd4 hz4 f4 e4 => ?_
  clear f4 e4 f D
  have D := D₄
  clear D₄
  refine wpAny_handleBy_cons (codeAny_handlers_test ?_) (by intro q; cases q)
  fail "qgo"
  have m1 : (hd.heap_39 w.params).In s.heap := (D.wf W).X
  with_reducible refine matches_tup2 (K := hd.heap_39 w.params) (c1 := 89) (c2 := 66) m1 (D.get (by fail "qin")) (D.get (a := e) (by fail "qin")) rfl (by k_exc) (by k_exc) ?_
  refine codeAny_handlers_suite_as ?_
  refine r_setFlight D (by fail "qin") (T := T) (oT := oT) (by fail "qin") hd4 hz4 none ?_
  clear D
  intro oT' s U
  have D := U _ (by fail "qalt")
  clear U
  fail "qgo"
  refine raise_own_in (K := hd.heap_39 w.params) (C := 215) (e1 := e) rfl (by k_exc) (plain1 (by rfl)) ?_
  fail "qgo"
  refine ⟨rfl, args1 ?_ (by rfl)⟩
  fail "qgo"
  fail "qgd"
  fail "qgo"
  refine r_fmtL 1000000 (by decide) [.lit (cs "Error unpacking A [offset="), .num 0 t3, .lit (cs "]: "), .obj (.ref e)] D (by fail "qin") ⟨lit_ok (by decide +kernel), ⟨by omega, by omega⟩, lit_ok (by decide +kernel), fun Q' s₁ D' h => ?_, trivial⟩ ?_
  · have m2 : (hd.heap_39 w.params).In s₁.heap := (D'.wf W).X
    have m3 : s₁.heap.get? e = some (excObj (.ref 89) te (.ref T) .none) := D'.get (by fail "qin")
    have m4 : s₁.heap.get? te = some (tupOf #[.str m u]) := D'.get (by fail "qin")
    with_reducible refine strOf_own m2 (by k_is) (by k_is) m3 m4 ?_ ?_
    · show A.units + 3 + 1 < 9900
      omega
    · exact h _ _ _ D' (by omega)
  clear D
  intro X s t D hXl
  refine ⟨rfl, by simp, (D.wf W).X, ⟨_, _, _, D.get (a := e) (by fail "qin")⟩, fun h' e2 t2 m2 => ?_⟩
  refine as_raised (s' := { s with heap := h' }) D W K rfl rfl m2 ⟨rfl, rfl, rfl⟩ (by kernel_rfl) fun s'' f5 e5 => ?_
  refine xx_leave_held rfl f5 fun h'' f6 => ?_
  exact k _ _ _ _ _ ⟨f6, e5.trans ⟨rfl, rfl, rfl⟩⟩
theorem parse6_short (W : WF w mg mb s₀.heap) (K : Frames A fs s₀.heap) (hA : A.depth < 500) (hu : A.units < 1600) (hx : s₀.heap.get? x = some (instObj 166 dx)) (hdx : s₀.heap.get? dx = some (dictOf [ent w "data" t1 (.ref b), ent w "offset" t2 (.int 0 t3)] 2)) (hb : s₀.heap.get? b = some (baObj (BA l)))
    (hn : l.length < 16) (nf : x ∉ fs ∧ dx ∉ fs ∧ b ∉ fs) (k : ∀ e t args cx s', ThrewX fs s₀ e (.ref 215) t args cx s' → R (.error (.ref e)) s') :
    codeAny (model prog w) A (.call (.ref 429) ⟨[.ref 467, .ref x, v], []⟩) R s₀ := by
  have hh : A.handled = none := K.calm
  obtain ⟨nf1, nf2, nf3⟩ := nf
  have hX := hx
  have hX2 := hdx
  refine enterC0 [] fs [] [("cls", .ref 467), ("buffer", .ref x), ("length", v)] W (by omega) (K.lowS (S := []) fun _ z => nomatch z) (fun _ z => nomatch z) (by simp) (by k_is) (by k_is) (.of_eq (by rfl)) (by kernel_rfl) ?_
  intro L s hL D
  have dis : ∀ b ∈ (⟨[], fs, s₀, L⟩ : Cx).fs, b ∉ (⟨[], fs, s₀, L⟩ : Cx).S := fun _ _ z => nomatch z
  have lt : ∀ {y o}, s₀.heap.get? y = some o → y ∉ fs → y ∉ L :: fs := fun q n z => (List.mem_cons.mp z).elim (fun e => absurd (Heap.lt_size q) (by rw [e]; exact Nat.not_lt.mpr hL)) n
  fail "qgo"
  fail "qmd"
  fail "qcm"
  fail "qgo"
  refine buf_unpack_short (D.wf W) (K.deeper W D dis rfl) (by show A.depth + 1 < _; omega) (D.old hx (by simp) nf1) (D.old hdx (by simp) nf2) (D.old hb (by simp) nf3) (.inl ⟨rfl, hn⟩) ⟨lt hx nf1, lt hdx nf2, lt hb nf3⟩ ?_
  intro e te m u s' f hm
  refine catch_start D W K dis rfl f fun T oT ts s₄ D₄ hd4 hz4 f4 e4 => ?_
  clear f4 e4 f D
  have D := D₄
  clear D₄
  refine wpAny_handleBy_cons (codeAny_handlers_test ?_) (by intro q; cases q)
  fail "qgo"
  have m1 : (hd.heap_39 w.params).In s.heap := (D.wf W).X
  with_reducible refine matches_tup2 (K := hd.heap_39 w.params) (c1 := 89) (c2 := 66) m1 (D.get (by fail "qin")) (D.get (a := e) (by fail "qin")) rfl (by k_exc) (by k_exc) ?_
  refine codeAny_handlers_suite_as ?_
  refine r_setFlight D (by fail "qin") (T := T) (oT := oT) (by fail "qin") hd4 hz4 none ?_
  clear D
  intro oT' s U
  have D := U _ (by fail "qalt")
  clear U
  fail "qgo"
  refine raise_own_in (K := hd.heap_39 w.params) (C := 215) (e1 := e) rfl (by k_exc) (plain1 (by rfl)) ?_
  fail "qgo"
  refine ⟨rfl, args1 ?_ (by rfl)⟩
  fail "qgo"
  fail "qgd"
  fail "qgo"
  refine r_fmtL 1000000 (by decide) [.lit (cs "Error unpacking AAAA [offset="), .num 0 t3, .lit (cs "]: "), .obj (.ref e)] D (by fail "qin") ⟨lit_ok (by decide +kernel), ⟨by omega, by omega⟩, lit_ok (by decide +kernel), fun Q' s₁ D' h => ?_, trivial⟩ ?_
  · have m2 : (hd.heap_39 w.params).In s₁.heap := (D'.wf W).X
    have m3 : s₁.heap.get? e = some (excObj (.ref 89) te (.ref T) .none) := D'.get (by fail "qin")
    have m4 : s₁.heap.get? te = some (tupOf #[.str m u]) := D'.get (by fail "qin")
    with_reducible refine strOf_own m2 (by k_is) (by k_is) m3 m4 ?_ ?_
    · show A.units + 3 + 1 < 9900
      omega
    · exact h _ _ _ D' (by omega)
  clear D
  intro X s t D hXl
  refine ⟨rfl, by simp, (D.wf W).X, ⟨_, _, _, D.get (a := e) (by fail "qin")⟩, fun h' e2 t2 m2 => ?_⟩
  refine as_raised (s' := { s with heap := h' }) D W K rfl rfl m2 ⟨rfl, rfl, rfl⟩ (by kernel_rfl) fun s'' f5 e5 => ?_
  refine xx_leave_held rfl f5 fun h'' f6 => ?_
  exact k _ _ _ _ _ ⟨f6, e5.trans ⟨rfl, rfl, rfl⟩⟩
end

/-- an own exception and its own class -/
theorem matches_self {M : Model} {A : Around} {E : Value → Shared → Prop} {s : Shared} {K : Frag} {e c : Addr} {o : Obj} {Q : Bool → Shared → Prop} (X : K.In s.heap) (q : excIn K c excB "Exception.__new__" = true) (he : s.heap.get? e = some o) (hc : o.cls = .ref c)
    (h : Q true s) : wpAny M A (excMatches (.ref e) (.ref c)) Q E s := by
  obtain ⟨bm, N, nm, q', bs, hdct, sn, sub, ab, col, dd, k0, k1, k2, k3, k5, mN, hC, hN, hni, T⟩ := own_obj X q
  obtain ⟨hp, g, d, tk, os⟩ := s
  exact wpAny_excMatches_sub_self hC he hc (T.hasType (b := true) (by decide)) h
theorem src_nats {h : Heap} {l : Addr} {vs : List Value} {ns : List Nat} (hl : h.IsList l vs.toArray) (hv : Nats vs ns) (hz : ∀ n ∈ ns, n < 256) : BaSrc h (.ref l) (BA ns) := by
  rw [← byteArr_nat]
  refine .list l vs _ hl (nats_ints hv) fun n hn => ?_
  obtain ⟨m, hm, rfl⟩ := List.mem_map.mp hn
  have := hz m hm
  omega

section
variable {prog : Program} {w : World} {A : Around} {E : Value → Shared → Prop} {s₀ : Shared} {mg mb : Str → Option Value} {l : Addr} {vs : List Value} {ns : List Nat} {Q : Value → Shared → Prop} {fs : List Addr}
theorem short4 (W : WF w mg mb s₀.heap) (K : Frames A fs s₀.heap) (hA : A.depth < 400) (hu : A.units < 1500) (hl : s₀.heap.IsList l vs.toArray) (hv : Nats vs ns) (hz : ∀ n ∈ ns, n < 256) (hn : ns.length < 4)
    (k : ∀ s', Rel [] fs s₀.heap s'.heap → Same s₀ s' → Q (.bool true) s') : wpC (model prog w) A (call (.ref 509) [.ref 347, .ref l]) Q E s₀ := by
  have hh : A.handled = none := K.calm
  have hvl := hv.length
  refine enterX [] fs [] [("kind", .ref 347), ("octets", .ref l)] W (by omega) (K.lowS (S := []) fun _ z => nomatch z) (fun _ z => nomatch z) (by simp) (by k_is) (by k_is) (.of_eq (by rfl)) (by kernel_rfl) ?_
  intro L s hL D
  have dis : ∀ b ∈ (⟨[], fs, s₀, L⟩ : Cx).fs, b ∉ (⟨[], fs, s₀, L⟩ : Cx).S := fun _ _ z => nomatch z
  refine wpC_execs_cons (wpC_Try ?_)
  refine wpC_execs_cons (wpC_Expr ?_ (hi := by rfl) (hs := by rfl))
  refine wpC_Method ?_ (he := by rfl)
  fail "qgo"
  refine r_clsm (p := 311) (f := .ref 309) (rest := _) D W (by k_is) (by k_is) (by k_is) (by k_is) (by k_is) ?_
  clear D s
  intro q s D
  dsimp only
  refine cmCC2 (K := hd.heap_39 w.params) (g := 309) (self := .ref 347) (by k_is) ?_ (by rfl) (by rfl)
  refine wpC_Call ?_ (he := by rfl)
  fail "qgo"
  refine ckC1 (K := hd.heap_39 w.params) (by k_is) ?_ (by rfl)
  fail "qgo"
  refine c_buffer D W (by show A.depth + 1 < _; omega) (.inl rfl) (src_nats (D.list hl (by simp)) hv hz) (by rw [BA_size]; omega) ?_
  clear D
  intro x dx b t1 t2 t3 s D lx ldx lb
  fail "qgo"
  refine r_len_list (vs := vs) D (D.list hl (by simp)) (by omega) ?_
  clear D
  intro s t D
  refine ⟨⟨D.get (by fail "qin"), (D.wf W).X⟩, wpC_of ?_⟩
  refine r_callm D (f := .ref 309) (self := .ref 347) (by fail "qin") ?_
  refine parse4_short (D.wf W) (K.deeper W D dis rfl) (by show A.depth + 1 < _; omega) (by show A.units + 3 < _; omega) (D.get (by fail "qin")) (D.get (by fail "qin")) (D.get (by fail "qin")) hn ⟨D.noFrame K dis (p := (x, _)) (by fail "qin"), D.noFrame K dis (p := (dx, _)) (by fail "qin"), D.noFrame K dis (p := (b, _)) (by fail "qin")⟩ ?_
  intro e te args cx s' f
  refine catch_start D W K dis rfl f fun T oT ts s₄ D₄ hd4 hz4 f4 e4 => ?_
  clear f4 e4 f D
  have D := D₄
  clear D₄
  refine wpAny_handleBy_cons (codeAny_handlers_test ?_) (by intro q; cases q)
  fail "qgo"
  have m1 : (hd.heap_39 w.params).In s₄.heap := (D.wf W).X
  with_reducible refine matches_self (K := hd.heap_39 w.params) (c := 215) m1 (by k_exc) (D.get (a := e) (by fail "qin")) rfl ?_
  refine codeAny_handlers_suite ?_
  refine r_setFlight D (by fail "qin") (T := T) (oT := oT) (by fail "qin") hd4 hz4 none ?_
  clear D
  intro oT' s U
  have D := U _ (by fail "qalt")
  clear U
  fail "qgo"
  exact k _ D.toRel D.same
theorem short6 (W : WF w mg mb s₀.heap) (K : Frames A fs s₀.heap) (hA : A.depth < 400) (hu : A.units < 1500) (hl : s₀.heap.IsList l vs.toArray) (hv : Nats vs ns) (hz : ∀ n ∈ ns, n < 256) (hn : ns.length < 16)
    (k : ∀ s', Rel [] fs s₀.heap s'.heap → Same s₀ s' → Q (.bool true) s') : wpC (model prog w) A (call (.ref 509) [.ref 467, .ref l]) Q E s₀ := by
  have hh : A.handled = none := K.calm
  have hvl := hv.length
  refine enterX [] fs [] [("kind", .ref 467), ("octets", .ref l)] W (by omega) (K.lowS (S := []) fun _ z => nomatch z) (fun _ z => nomatch z) (by simp) (by k_is) (by k_is) (.of_eq (by rfl)) (by kernel_rfl) ?_
  intro L s hL D
  have dis : ∀ b ∈ (⟨[], fs, s₀, L⟩ : Cx).fs, b ∉ (⟨[], fs, s₀, L⟩ : Cx).S := fun _ _ z => nomatch z
  refine wpC_execs_cons (wpC_Try ?_)
  refine wpC_execs_cons (wpC_Expr ?_ (hi := by rfl) (hs := by rfl))
  refine wpC_Method ?_ (he := by rfl)
  fail "qgo"
  refine r_clsm (p := 431) (f := .ref 429) (rest := _) D W (by k_is) (by k_is) (by k_is) (by k_is) (by k_is) ?_
  clear D s
  intro q s D
  dsimp only
  refine cmCC2 (K := hd.heap_39 w.params) (g := 429) (self := .ref 467) (by k_is) ?_ (by rfl) (by rfl)
  refine wpC_Call ?_ (he := by rfl)
  fail "qgo"
  refine ckC1 (K := hd.heap_39 w.params) (by k_is) ?_ (by rfl)
  fail "qgo"
  refine c_buffer D W (by show A.depth + 1 < _; omega) (.inl rfl) (src_nats (D.list hl (by simp)) hv hz) (by rw [BA_size]; omega) ?_
  clear D
  intro x dx b t1 t2 t3 s D lx ldx lb
  fail "qgo"
  refine r_len_list (vs := vs) D (D.list hl (by simp)) (by omega) ?_
  clear D
  intro s t D
  refine ⟨⟨D.get (by fail "qin"), (D.wf W).X⟩, wpC_of ?_⟩
  refine r_callm D (f := .ref 429) (self := .ref 467) (by fail "qin") ?_
  refine parse6_short (D.wf W) (K.deeper W D dis rfl) (by show A.depth + 1 < _; omega) (by show A.units + 3 < _; omega) (D.get (by fail "qin")) (D.get (by fail "qin")) (D.get (by fail "qin")) hn ⟨D.noFrame K dis (p := (x, _)) (by fail "qin"), D.noFrame K dis (p := (dx, _)) (by fail "qin"), D.noFrame K dis (p := (b, _)) (by fail "qin")⟩ ?_
  intro e te args cx s' f
  refine catch_start D W K dis rfl f fun T oT ts s₄ D₄ hd4 hz4 f4 e4 => ?_
  clear f4 e4 f D
  have D := D₄
  clear D₄
  refine wpAny_handleBy_cons (codeAny_handlers_test ?_) (by intro q; cases q)
  fail "qgo"
  have m1 : (hd.heap_39 w.params).In s₄.heap := (D.wf W).X
  with_reducible refine matches_self (K := hd.heap_39 w.params) (c := 215) m1 (by k_exc) (D.get (a := e) (by fail "qin")) rfl ?_
  refine codeAny_handlers_suite ?_
  refine r_setFlight D (by fail "qin") (T := T) (oT := oT) (by fail "qin") hd4 hz4 none ?_
  clear D
  intro oT' s U
  have D := U _ (by fail "qalt")
  clear U
  fail "qgo"
  exact k _ D.toRel D.same
end

section
variable {prog : Program} {w : World} {A : Around} {E : Value → Shared → Prop} {C : Cx} {s : Shared} {mg mb : Str → Option Value} {loc : List (Str × Value)} {news : List (Addr × Obj)} {env : Env} {pos : Pos}
/-- a method as a value -/
theorem r_bound {c x dx f : Addr} {es : List DictEntry} {n : Nat} {name : Str} {expr : Bool} {Q : Value → Shared → Prop} (D : St C loc news s) (W : WF w mg mb C.s₀.heap) (hx : s.heap.get? x = some (instObj c dx)) (hdd : s.heap.get? dx = some (dictOf es n))
    (hg : plainGet (hd.heap_39 w.params) c name = true) (hh : hasDictIn (hd.heap_39 w.params) c = true) (ha : findIn (hd.heap_39 w.params) (.ref c) name = some (some (.ref f))) (hf : isFn (hd.heap_39 w.params) (.ref f) = true)
    (hgf : specialIn (hd.heap_39 w.params) (.ref f) "__get__" = some (some (.builtin "function.__get__"))) (ht : takesIn (hd.heap_39 w.params) (.ref f) = some false) (hc : copiedNames.contains name = false) (hl : getL name es = some none)
    (h : ∀ q s', St C loc ((q, methodObj (.ref f) (.ref x)) :: news) s' → Q (.ref q) s') : wpAny (model prog w) A (getAttr (.ref x) name expr) Q E s := by
  obtain ⟨g, m, F, N, X, k⟩ := D.libX W
  refine kbm_bound F X N (inst_at hx hdd) hg hh ha hf hgf ht hc hl fun q h' F' N' hlt => h q _ (k { s with heap := h', toks := s.toks + 1 } _ F' N' ?_ ⟨rfl, rfl, rfl⟩)
  rw [List.map_cons, List.nodup_cons]
  refine ⟨fun z => ?_, D.ord⟩
  obtain ⟨p, hp, e⟩ := List.mem_map.mp z
  exact absurd (hlt p hp) (by rw [e]; exact Nat.lt_irrefl _)
/-- a method call with a star -/
theorem wpC_MethodS {M : Model} {o : Expr} {name : Str} {apos pos : Pos} {args : List Expr} {Q : Value → Shared → Prop}
    (h : wpAny M A (eval o env) (fun ov s₁ => wpAny M A (getAttr ov name true) (fun f s₂ => wpC M A (callWith pos f [] (backTo pos (starEach args env)) []) Q E s₂) E s₁) E s)
    (he : eval (.Call (.Attribute o name apos) args [] pos) env = (do
      let ov ← eval o env
      standAt apos.atName
      let (f, first) ← holding [ov] (do pure (← getAttr ov name true, ([] : List Value)))
      callWith pos f first (backTo pos (starEach args env)) []) := by rfl) : wpC M A (eval (.Call (.Attribute o name apos) args [] pos) env) Q E s := by
  rw [he]
  exact wpC_pre (wpAny_mono h (fun ov s₁ h₁ => wpC_pre (wpAny_standAt (wpC_pre (wpAny_holding (wpAny_bind (wpAny_mono h₁ (fun fx s₂ h₂ => wpAny_pure h₂) fun _ _ x => x)))))) fun _ _ x => x)
theorem ckCSM {K : Frag} {q g : Addr} {self : Value} {e₁ e₂ : Expr} {p : Pos} {Q : Value → Shared → Prop} (hf : fnIn K g = true) (h : wpAny (model prog w) A (eval e₁ env) (fun v s₁ => wpAny (model prog w) A (eval e₂ env) (fun u s₂ => StarOf (model prog w) A E u (fun vs s₃ => MethP K q g self s₃.heap ∧ wpC (model prog w) A (call (.ref q) (v :: vs)) Q E s₃) s₂) E s₁) E s)
    (he : starEach [e₁, .Starred e₂ p] env = [(false, eval e₁ env), (true, eval e₂ env)]) (he₂ : starEach [.Starred e₂ p] env = [(true, eval e₂ env)]) :
    wpC (model prog w) A (callWith pos (.ref q) [] (backTo pos (starEach [e₁, .Starred e₂ p] env)) []) Q E s := by
  have hs : wpAny (model prog w) A (spliced (backTo pos (starEach [e₁, .Starred e₂ p] env))) (fun vs s₁ => MethP K q g self s₁.heap ∧ wpC (model prog w) A (call (.ref q) ([] ++ vs)) Q E s₁) E s := by
    refine spliced_more (wpAny_mono h (fun v s₁ h₁ => items_star (wpAny_mono h₁ (fun u s₂ h₂ => ?_) fun _ _ x => x) (he₂.trans rfl)) fun _ _ x => x) (he.trans (by rw [he₂]))
    refine wpAny_mono h₂ (fun b s₃ h₃ => ⟨h₃.1, wpAny_mono h₃.2 (fun vs s₄ h₄ => spliced_none (by rw [List.append_nil]; exact h₄)) fun _ _ x => x⟩) fun _ _ x => x
  rw [he] at hs ⊢
  exact callWith_C (keeps_M hf) (wpC_of (evalArgs_plain hs))
theorem r_callmC {Q : Value → Shared → Prop} {q : Addr} {f self : Value} {vs : List Value} (ho : s.heap.get? q = some (methodObj f self)) (h : codeC (model prog w) A (.call f ⟨self :: vs, []⟩) (fun r s' => match r with | .ok (.ret v) => Q v s' | .ok _ => False | .error e => E e s') s) : wpC (model prog w) A (call (.ref q) vs) Q E s := by
  refine wpC_call (codeC_of_tree rfl (wpC_of ?_))
  obtain ⟨hh, g, dr, t, os⟩ := s
  show wpAny _ _ (callAny (.ref q) _) _ _ _
  dsimp only at ho
  refine nd_load ho ?_
  cases f <;> exact wpAny_pure ⟨rfl, h⟩
end

section
variable {prog : Program} {w : World} {A : Around} {E : Value → Shared → Prop} {s₀ : Shared} {mg mb : Str → Option Value} {x dx b y dy tt : Addr} {vs : List Value} {ns l : List Nat} {t1 t2 t3 tk : Tok} {o : Nat} {Q : Value → Shared → Prop}
theorem apack4 (W : WF w mg mb s₀.heap) (hA : A.depth < 700) (hh : A.handled = none) (hy : s₀.heap.get? y = some (instObj 347 dy)) (hdy : s₀.heap.get? dy = some (dictOf [ent w "data" tk (.ref tt)] 1)) (htt : s₀.heap.get? tt = some (tupOf vs.toArray)) (hv : Nats vs ns) (hn : ns.length = 4) (hz : ∀ n ∈ ns, n < 256)
    (hx : s₀.heap.get? x = some (instObj 166 dx)) (hdx : s₀.heap.get? dx = some (dictOf [ent w "data" t1 (.ref b), ent w "offset" t2 (.int o t3)] 2)) (hb : s₀.heap.get? b = some (baObj (BA l))) (low : 515 ≤ dx ∧ 515 ≤ b) (nd : x ≠ dx ∧ x ≠ b ∧ dx ≠ b) (hl : l.length ≤ 1000)
    (ny : y ≠ dx ∧ y ≠ b ∧ dy ≠ dx ∧ dy ≠ b ∧ tt ≠ dx ∧ tt ≠ b)
    (k : ∀ o' t3' s', Rel [dx, b] [] s₀.heap s'.heap → Same s₀ s' → s'.heap.get? dx = some (dictOf [ent w "data" t1 (.ref b), ent w "offset" t2 (.int (o' : Nat) t3')] 2) → s'.heap.get? b = some (baObj (BA (l ++ ns))) → Q .none s') :
    wpC (model prog w) A (call (.ref 337) [.ref y, .ref x]) Q E s₀ := by
  obtain ⟨n1, n2, n3, n4, n5, n6⟩ := ny
  have hvl := hv.length
  have hX := hy
  have hX2 := hdy
  have hX3 := hx
  have hX4 := hdx
  refine enterX [dx, b] [] [(dx, dictOf [ent w "data" t1 (.ref b), ent w "offset" t2 (.int o t3)] 2), (b, baObj (BA l))] [("self", .ref y), ("buffer", .ref x)] W (by omega) (fun a h => by simp at h; rcases h with rfl | rfl; exact low.1; exact low.2) (fun p hp => by simp at hp; rcases hp with rfl | rfl; exact ⟨by simp, hdx⟩; exact ⟨by simp, hb⟩) (by simp [nd.2.2]) (by k_is) (by k_is) (.of_eq (by rfl)) (by kernel_rfl) ?_
  intro L s hL D
  refine wpC_execs_cons (wpC_Expr ?_ (hi := by rfl) (hs := by rfl))
  refine wpC_MethodS ?_ (he := by rfl)
  fail "qgo"
  refine' r_bound D W (c := 166) (f := 135) (D.old hx (by simp [nd.1, nd.2.1]) (by simp)) (D.get (by fail "qin")) ?g1 ?g2 ?g3 ?g4 ?g5 ?g6 ?g7 ?hl ?_
  case g1 => k_is
  case g2 => k_is
  case g3 => k_is
  case g4 => k_is
  case g5 => k_is
  case g6 => k_is
  case g7 => decide +kernel
  case hl => rfl
  clear D s
  intro q s D
  refine ckCSM (K := hd.heap_39 w.params) (g := 135) (self := .ref x) (by k_is) ?_ (by rfl) (by rfl)
  fail "qgo"
  refine' r_getd D W (c := 347) (D.old hy (by simp [n1, n2]) (by simp)) (D.old hdy (by simp [n3, n4]) (by simp)) ?g1 ?g2 ?g3 ?g4 ?hl ?hv ?_
  case g1 => k_is
  case g2 => k_is
  case g3 => k_is
  case g4 => k_is
  case hl => rfl
  case hv => rfl
  clear D s
  intro s D
  fail "qgo"
  refine r_starAt D (D.old htt (by simp [n5, n6]) (by simp)) (by omega) ?_
  clear D s
  intro s D
  refine ⟨⟨D.get (by fail "qin"), (D.wf W).X⟩, r_callmC (D.get (by fail "qin")) ?_⟩
  refine buf_pack (D.wf W) (by show A.depth + 1 < _; omega) (D.old hx (by simp [nd.1, nd.2.1]) (by simp)) (D.get (by fail "qin")) (D.get (by fail "qin")) low nd (.inr ⟨rfl, hn⟩) hv hz hl ?_
  intro o' t3' s' x2 e2 hd2 hb2
  have hq := D.ord
  have D' := (D.drop (List.sublist_cons_self _ _)).after (s' := s') (S' := [dx, b]) (x2.mono (fun _ z => z) (fun _ z => nomatch z)) (fun a ha => by simpa using ha) e2 [] [(dx, dictOf [ent w "data" t1 (.ref b), ent w "offset" t2 (.int (o' : Nat) t3')] 2), (b, baObj (BA (l ++ ns)))] rfl (fun p hp => by
    simp at hp
    rcases hp with rfl | rfl
    · exact hd2
    · exact hb2) (by simp) (fun p hp => nomatch hp)
  refine wpC_nil ?_
  exact k _ _ _ D'.toRel D'.same hd2 hb2
theorem apack6 (W : WF w mg mb s₀.heap) (hA : A.depth < 700) (hh : A.handled = none) (hy : s₀.heap.get? y = some (instObj 467 dy)) (hdy : s₀.heap.get? dy = some (dictOf [ent w "data" tk (.ref tt)] 1)) (htt : s₀.heap.get? tt = some (tupOf vs.toArray)) (hv : Nats vs ns) (hn : ns.length = 16) (hz : ∀ n ∈ ns, n < 256)
    (hx : s₀.heap.get? x = some (instObj 166 dx)) (hdx : s₀.heap.get? dx = some (dictOf [ent w "data" t1 (.ref b), ent w "offset" t2 (.int o t3)] 2)) (hb : s₀.heap.get? b = some (baObj (BA l))) (low : 515 ≤ dx ∧ 515 ≤ b) (nd : x ≠ dx ∧ x ≠ b ∧ dx ≠ b) (hl : l.length ≤ 1000)
    (ny : y ≠ dx ∧ y ≠ b ∧ dy ≠ dx ∧ dy ≠ b ∧ tt ≠ dx ∧ tt ≠ b)
    (k : ∀ o' t3' s', Rel [dx, b] [] s₀.heap s'.heap → Same s₀ s' → s'.heap.get? dx = some (dictOf [ent w "data" t1 (.ref b), ent w "offset" t2 (.int (o' : Nat) t3')] 2) → s'.heap.get? b = some (baObj (BA (l ++ ns))) → Q .none s') :
    wpC (model prog w) A (call (.ref 457) [.ref y, .ref x]) Q E s₀ := by
  obtain ⟨n1, n2, n3, n4, n5, n6⟩ := ny
  have hvl := hv.length
  have hX := hy
  have hX2 := hdy
  have hX3 := hx
  have hX4 := hdx
  refine enterX [dx, b] [] [(dx, dictOf [ent w "data" t1 (.ref b), ent w "offset" t2 (.int o t3)] 2), (b, baObj (BA l))] [("self", .ref y), ("buffer", .ref x)] W (by omega) (fun a h => by simp at h; rcases h with rfl | rfl; exact low.1; exact low.2) (fun p hp => by simp at hp; rcases hp with rfl | rfl; exact ⟨by simp, hdx⟩; exact ⟨by simp, hb⟩) (by simp [nd.2.2]) (by k_is) (by k_is) (.of_eq (by rfl)) (by kernel_rfl) ?_
  intro L s hL D
  refine wpC_execs_cons (wpC_Expr ?_ (hi := by rfl) (hs := by rfl))
  refine wpC_MethodS ?_ (he := by rfl)
  fail "qgo"
  refine' r_bound D W (c := 166) (f := 135) (D.old hx (by simp [nd.1, nd.2.1]) (by simp)) (D.get (by fail "qin")) ?g1 ?g2 ?g3 ?g4 ?g5 ?g6 ?g7 ?hl ?_
  case g1 => k_is
  case g2 => k_is
  case g3 => k_is
  case g4 => k_is
  case g5 => k_is
  case g6 => k_is
  case g7 => decide +kernel
  case hl => rfl
  clear D s
  intro q s D
  refine ckCSM (K := hd.heap_39 w.params) (g := 135) (self := .ref x) (by k_is) ?_ (by rfl) (by rfl)
  fail "qgo"
  refine' r_getd D W (c := 467) (D.old hy (by simp [n1, n2]) (by simp)) (D.old hdy (by simp [n3, n4]) (by simp)) ?g1 ?g2 ?g3 ?g4 ?hl ?hv ?_
  case g1 => k_is
  case g2 => k_is
  case g3 => k_is
  case g4 => k_is
  case hl => rfl
  case hv => rfl
  clear D s
  intro s D
  fail "qgo"
  refine r_starAt D (D.old htt (by simp [n5, n6]) (by simp)) (by omega) ?_
  clear D s
  intro s D
  refine ⟨⟨D.get (by fail "qin"), (D.wf W).X⟩, r_callmC (D.get (by fail "qin")) ?_⟩
  refine buf_pack (D.wf W) (by show A.depth + 1 < _; omega) (D.old hx (by simp [nd.1, nd.2.1]) (by simp)) (D.get (by fail "qin")) (D.get (by fail "qin")) low nd (.inl ⟨rfl, hn⟩) hv hz hl ?_
  intro o' t3' s' x2 e2 hd2 hb2
  have hq := D.ord
  have D' := (D.drop (List.sublist_cons_self _ _)).after (s' := s') (S' := [dx, b]) (x2.mono (fun _ z => z) (fun _ z => nomatch z)) (fun a ha => by simpa using ha) e2 [] [(dx, dictOf [ent w "data" t1 (.ref b), ent w "offset" t2 (.int (o' : Nat) t3')] 2), (b, baObj (BA (l ++ ns)))] rfl (fun p hp => by
    simp at hp
    rcases hp with rfl | rfl
    · exact hd2
    · exact hb2) (by simp) (fun p hp => nomatch hp)
  refine wpC_nil ?_
  exact k _ _ _ D'.toRel D'.same hd2 hb2
end

/-- the decimal text of a number -/
def decL (n : Nat) : List Nat := (PySem.Str.ofString (toString (n : Int))).cps.toList
def dotL (a b c d : Nat) : List Nat := decL a ++ [46] ++ decL b ++ [46] ++ decL c ++ [46] ++ decL d
section
set_option maxRecDepth 100000
variable {prog : Program} {w : World} {A : Around} {E : Value → Shared → Prop} {C : Cx} {s : Shared} {mg mb : Str → Option Value} {loc : List (Str × Value)} {news : List (Addr × Obj)} {Q : Value → Shared → Prop}
theorem r_dotted {b : Addr} {a1 a2 a3 a4 : Nat} {u1 u2 u3 u4 t : Tok} (D : St C loc news s) (ht : s.heap.get? b = some (tupOf #[.int a1 u1, .int a2 u2, .int a3 u3, .int a4 u4])) (hz : a1 < 100000 ∧ a2 < 100000 ∧ a3 < 100000 ∧ a4 < 100000)
    (h : ∀ s' t, St C loc news s' → Q (.str (T (dotL a1 a2 a3 a4)) t) s') : wpAny (model prog w) A (binaryOp .Mod (.str (Str.ofString "%d.%d.%d.%d") t) (.ref b)) Q E s := by
  obtain ⟨z1, z2, z3, z4⟩ := hz
  refine r_fmtX (B := 1000) (by decide) [.num a1 u1, .lit [46], .num a2 u2, .lit [46], .num a3 u3, .lit [46], .num a4 u4] (by kernel_rfl) (by show 7 < _; decide +kernel) (by show 7 ≤ 15; decide) (by rfl) ht D ?_ ?_
  · intro p hp
    simp only [List.mem_cons, List.not_mem_nil, or_false] at hp
    rcases hp with rfl | rfl | rfl | rfl | rfl | rfl | rfl <;> first | exact ⟨by omega, by omega⟩ | exact ⟨by decide, by decide +kernel⟩
  · intro X s' t' D' _ hT
    have e : X = T (dotL a1 a2 a3 a4) := by
      cases hT with | num hT => cases hT with | lit hT => cases hT with | num hT => cases hT with | lit hT => cases hT with | num hT => cases hT with | lit hT => cases hT with | num hT => cases hT with | nil =>
        have e2 : ∀ Y : Str, Y = ⟨Y.cps.toList.toArray⟩ := fun Y => (congrArg Str.mk (Array.toArray_toList ..)).symm
        rw [e2 (_ ++ _)]
        unfold T
        congr 2
        have app : ∀ (a b : Str), (a ++ b).cps.toList = a.cps.toList ++ b.cps.toList := fun a b => by
          show (a.cps ++ b.cps).toList = _
          simp
        simp only [app, dotL, decL]
        simp [PySem.Str.empty]
    rw [e]
    exact h _ _ D'
/-- repr of an object whose class tells it -/
theorem r_repr {c x dx f : Addr} {o : Obj} (D : St C loc news s) (W : WF w mg mb C.s₀.heap) (hu : A.units < 5000) (hx : s.heap.get? x = some (instObj c dx)) (hdd : s.heap.get? dx = some o) (hs : findIn (hd.heap_39 w.params) (.ref c) "__repr__" = some (some (.ref f))) (hf : isFn (hd.heap_39 w.params) (.ref f) = true)
    (h : wpAny (model prog w) A.in1 (call (.ref f) [.ref x]) (fun v s' => ∃ X t, v = .str X t ∧ Q (.str X t) s') E s) : wpAny (model prog w) A (call (.builtin "repr") [.ref x]) Q E s := by
  obtain ⟨g, m, F, N, X, k⟩ := D.libX W
  refine repr_K (by show A.units + 1 < 9900; omega) F X (inst_at hx hdd) hs hf (wpAny_mono h (fun v s' h' => ?_) fun _ _ z => z)
  obtain ⟨X', t, rfl, q⟩ := h'
  exact q
end

section
set_option maxRecDepth 100000
variable {prog : Program} {w : World} {A : Around} {E : Value → Shared → Prop} {C : Cx} {s : Shared} {mg mb : Str → Option Value} {loc : List (Str × Value)} {news : List (Addr × Obj)} {Q : Value → Shared → Prop}
theorem slot_type_ne : Slot "type" "__ne__" "object.__ne__" :=
  .of (owner := "object") (n := "__ne__") (by rw [typeLookup_type, builtinLookup_eq_fast]; kernel_rfl) (by decide +kernel) (by decide +kernel) (by decide +kernel) (by first | exact .inl (by decide +kernel) | exact .inr (by decide +kernel)) (by rw [isSubtype_type]; kernel_rfl)
theorem slot_type_eq : Slot "type" "__eq__" "object.__eq__" :=
  .of (owner := "object") (n := "__eq__") (by rw [typeLookup_type, builtinLookup_eq_fast]; kernel_rfl) (by decide +kernel) (by decide +kernel) (by decide +kernel) (by first | exact .inl (by decide +kernel) | exact .inr (by decide +kernel)) (by rw [isSubtype_type]; kernel_rfl)
/-- a class is its own equal -/
theorem ne_cls {c : Addr} (hT : s.TypeIs (.ref c) "type") (hu : A.units < 5000) (h : Q (.bool false) s) : wpAny (model prog w) A (compareOp .NotEq (.ref c) (.ref c)) Q E s := by
  have hu0 : A.units < cLine := by show _ < 9900; omega
  have hu1 : A.in1.units < cLine := by show A.units + 1 < 9900; omega
  have eqs : ∀ {A : Around} {E : Value → Shared → Prop} {Q : Option Value → Shared → Prop}, Q (some (.bool true)) s → wpAny (model prog w) A (callSpecialIfBound? (.ref c) "__eq__" [.ref c]) Q E s := by
    intro A E Q hq
    refine wpAny_callSpecialIfBound?_slot hT slot_type_eq (wpAny_call_entry slot_type_eq hT F.cmpEntry_eq ?_ (F.cmpArgs_eq _ _))
    exact objEq_entry_same ⟨_, rfl, hq⟩
  show wpAny _ _ (richCompare .NotEq (.ref c) (.ref c)) _ _ _
  simp only [richCompare, cmpInfo_NotEq, oneThing_ref]
  refine wpAny_holding (wpAny_bind (wpAny_cRoomFor hu0 ?_))
  refine wpAny_bind (wpAny_typeOf hT (wpAny_bind (wpAny_typeOf hT ?_)))
  rw [if_neg (by decide)]
  refine wpAny_bind (wpAny_pure ?_)
  rw [if_neg Bool.false_ne_true]
  refine wpAny_bind ?_
  simp only [tryCompare]
  refine wpAny_bind (wpAny_callSpecialIfBound?_slot hT slot_type_ne (wpAny_call_entry slot_type_ne hT F.cmpEntry_ne ?_ (F.cmpArgs_ne _ _)))
  unfold Builtin.«object.__ne__»
  refine wpAny_bind (wpAny_pure ?_)
  dsimp only
  refine wpAny_bind (wpAny_cRoomFor hu1 ?_)
  refine wpAny_bind (eqs ?_)
  dsimp only
  refine wpAny_bind (wpAny_truthy_bool ?_)
  refine wpAny_pure ⟨_, rfl, ?_⟩
  exact wpAny_pure (wpAny_pure h)
end
section
variable {prog : Program} {w : World} {A : Around} {E : Value → Shared → Prop} {C : Cx} {s : Shared} {mg mb : Str → Option Value} {loc : List (Str × Value)} {news : List (Addr × Obj)} {Q : Value → Shared → Prop}
/-- two instances, their class telling == -/
theorem eq_inst {c x dx y dy f : Addr} {o o' : Obj} (D : St C loc news s) (W : WF w mg mb C.s₀.heap) (hu : A.units < 5000) (hx : s.heap.get? x = some (instObj c dx)) (hdd : s.heap.get? dx = some o) (hy : s.heap.get? y = some (instObj c dy)) (hdy : s.heap.get? dy = some o')
    (hs : findIn (hd.heap_39 w.params) (.ref c) "__eq__" = some (some (.ref f))) (hf : isFn (hd.heap_39 w.params) (.ref f) = true)
    (h : wpAny (model prog w) A (call (.ref f) [.ref x, .ref y]) (fun v s' => ∃ b, v = .bool b ∧ Q (.bool b) s') E s) : wpAny (model prog w) A (compareOp .Eq (.ref x) (.ref y)) Q E s := by
  have hu0 : A.units < cLine := by show _ < 9900; omega
  obtain ⟨g, m, F, N, X, k⟩ := D.libX W
  have X' := X.keeps F.keep
  have Lx := (inst_at hx hdd).type (M := model prog w)
  have Ly := (inst_at hy hdy).type (M := model prog w)
  show wpAny _ _ (richCompare .Eq (.ref x) (.ref y)) _ _ _
  simp only [richCompare, cmpInfo_Eq, oneThing_ref]
  refine wpAny_holding (wpAny_bind (wpAny_cRoomFor hu0 ?_))
  refine wpAny_bind (Lx.here (wpAny_bind (Ly.here ?_)))
  rw [if_neg (by simp)]
  refine wpAny_bind (wpAny_pure ?_)
  rw [if_neg Bool.false_ne_true]
  refine wpAny_bind ?_
  simp only [tryCompare]
  refine wpAny_bind (ifBound_K X' (inst_at hx hdd) hs hf (wpAny_mono h (fun v s' h' => ?_) fun _ _ z => z))
  obtain ⟨b, rfl, q⟩ := h'
  exact wpAny_pure (wpAny_pure q)
theorem ne_inst {c x dx y dy f : Addr} {o o' : Obj} (D : St C loc news s) (W : WF w mg mb C.s₀.heap) (hu : A.units < 5000) (hx : s.heap.get? x = some (instObj c dx)) (hdd : s.heap.get? dx = some o) (hy : s.heap.get? y = some (instObj c dy)) (hdy : s.heap.get? dy = some o')
    (hs : findIn (hd.heap_39 w.params) (.ref c) "__ne__" = some (some (.ref f))) (hf : isFn (hd.heap_39 w.params) (.ref f) = true)
    (h : wpAny (model prog w) A (call (.ref f) [.ref x, .ref y]) (fun v s' => ∃ b, v = .bool b ∧ Q (.bool b) s') E s) : wpAny (model prog w) A (compareOp .NotEq (.ref x) (.ref y)) Q E s := by
  have hu0 : A.units < cLine := by show _ < 9900; omega
  obtain ⟨g, m, F, N, X, k⟩ := D.libX W
  have X' := X.keeps F.keep
  have Lx := (inst_at hx hdd).type (M := model prog w)
  have Ly := (inst_at hy hdy).type (M := model prog w)
  show wpAny _ _ (richCompare .NotEq (.ref x) (.ref y)) _ _ _
  simp only [richCompare, cmpInfo_NotEq, oneThing_ref]
  refine wpAny_holding (wpAny_bind (wpAny_cRoomFor hu0 ?_))
  refine wpAny_bind (Lx.here (wpAny_bind (Ly.here ?_)))
  rw [if_neg (by simp)]
  refine wpAny_bind (wpAny_pure ?_)
  rw [if_neg Bool.false_ne_true]
  refine wpAny_bind ?_
  simp only [tryCompare]
  refine wpAny_bind (ifBound_K X' (inst_at hx hdd) hs hf (wpAny_mono h (fun v s' h' => ?_) fun _ _ z => z))
  obtain ⟨b, rfl, q⟩ := h'
  exact wpAny_pure (wpAny_pure q)
/-- getattr with a plain name -/
theorem r_getattr {c x dx : Addr} {es : List DictEntry} {n : Nat} {name : Str} {attr : Option Value} {v : Value} {t : Tok} (D : St C loc news s) (W : WF w mg mb C.s₀.heap) (hx : s.heap.get? x = some (instObj c dx)) (hdd : s.heap.get? dx = some (dictOf es n))
    (hg : plainGet (hd.heap_39 w.params) c name = true) (hh : hasDictIn (hd.heap_39 w.params) c = true) (ha : findIn (hd.heap_39 w.params) (.ref c) name = some attr) (hn : noGet (hd.heap_39 w.params) attr = true) (hl : getL name es = some (some v)) (hv : handedIn v = true) (h : Q v s) :
    wpAny (model prog w) A (call (.builtin "getattr") [.ref x, .str name t]) Q E s := by
  obtain ⟨g, m, F, N, X, k⟩ := D.libX W
  exact kbm_getattr2 (kbm_ownBy F X (inst_at hx hdd) hg hh ha hn hl hv h)
end
theorem nats_at : ∀ {vs : List Value} {ns : List Nat} {j : Nat} (_ : Nats vs ns) (h : j < vs.length), ∃ t, vs[j] = .int (ns.getD j 0 : Nat) t
  | v :: vs, n :: ns, 0, .cons ⟨t, e⟩ r, h => ⟨t, e⟩
  | v :: vs, n :: ns, j + 1, .cons _ r, h => nats_at (j := j) r (by simpa using h)
theorem all_eq {a b : List Nat} : ((List.range (min a.length b.length)).all (fun j => ((a.getD j 0 : Nat) : Int) == ((b.getD j 0 : Nat) : Int)) && a.length == b.length) = decide (a = b) := by
  rw [Bool.eq_iff_iff, Bool.and_eq_true, List.all_eq_true, decide_eq_true_eq, beq_iff_eq]
  constructor
  · rintro ⟨h1, h2⟩
    refine List.ext_getElem h2 fun i hi hj => ?_
    have := h1 i (List.mem_range.mpr (by omega))
    simp only [beq_iff_eq, List.getD_eq_getElem?_getD, List.getElem?_eq_getElem hi, List.getElem?_eq_getElem hj, Option.getD_some] at this
    omega
  · rintro rfl
    exact ⟨fun j _ => by simp, rfl⟩
section
variable {prog : Program} {w : World} {A : Around} {E : Value → Shared → Prop} {s : Shared} {Q : Value → Shared → Prop}
theorem eq_tups {a b : Addr} {vs us : List Value} {ns ms : List Nat} (ha : s.heap.get? a = some (tupOf vs.toArray)) (hb : s.heap.get? b = some (tupOf us.toArray)) (hv : Nats vs ns) (hm : Nats us ms) (hu : A.units < 5000) (h : Q (.bool (decide (ns = ms))) s) :
    wpAny (model prog w) A (compareOp .Eq (.ref a) (.ref b)) Q E s := by
  have hvl := hv.length
  have hml := hm.length
  refine SeqAt.eq_tupleAt (e := fun j => ((ns.getD j 0 : Nat) : Int) == ((ms.getD j 0 : Nat) : Int)) ⟨_, ha, rfl, _, rfl⟩ ⟨_, hb, rfl, _, rfl⟩ (by show _ < 9900; omega) (fun j h1 h2 => ?_) ?_
  · obtain ⟨t, e1⟩ := nats_at hv (j := j) (by simpa using h1)
    obtain ⟨u, e2⟩ := nats_at hm (j := j) (by simpa using h2)
    have f1 : vs.toArray[j] = .int (ns.getD j 0 : Nat) t := by simpa using e1
    have f2 : us.toArray[j] = .int (ms.getD j 0 : Nat) u := by simpa using e2
    rw [f1, f2]
    exact SeqAt.EqAt.int_int _ _ _ _
  · have e : ((List.range (min vs.toArray.size us.toArray.size)).all (fun j => ((ns.getD j 0 : Nat) : Int) == ((ms.getD j 0 : Nat) : Int)) && vs.toArray.size == us.toArray.size) = decide (ns = ms) := by
      rw [List.size_toArray, List.size_toArray, hvl, hml]
      exact all_eq
    rw [e]
    exact h
end
section
variable {prog : Program} {w : World} {A : Around} {E : Value → Shared → Prop} {C : Cx} {s : Shared} {loc : List (Str × Value)} {news : List (Addr × Obj)} {Q : Value → Shared → Prop}
/-- a piece of a text, from its start -/
theorem r_slice_to {value slice : Expr} {x : Str} {a : Addr} {j : Int} {t u : Tok} (D : St C loc news s) (hm : (a, sliceOf .none (.int j u)) ∈ news) (hz : x.length ≤ 16777216) (h : ∀ s' t', St C loc news s' → Q (.str (Txt.slice x none (some j)) t') s')
    (hs : subscripted slice false (.str x t) (.ref a) = operate [.ref a, .str x t] (getItem (.str x t) (.ref a)) := by with_unfolding_all rfl) (ht : ∀ r, letTemporaryGo value (.str x t) r = pure () := by intro _; with_unfolding_all rfl) :
    wpAny (model prog w) A (subscriptTail value slice (.str x t) (.ref a)) Q E s := by
  refine subscriptTail_ops (typeIs_str s x t) F.slot_str_getitem.lookup (wpAny_getItem_str_slice (l := none) (u := some (j, u)) (st := none) ⟨_, D.get hm, rfl, rfl⟩ rfl ?_) hs ht
  exact post_val_or_str ⟨Nat.le_trans (Txt.slice_le x _ _) (by rw [sizeLine_eq]; exact hz), fun t' k => h _ t' D.toks⟩
/-- to its end -/
theorem r_slice_from {value slice : Expr} {x : Str} {a : Addr} {i : Int} {t u : Tok} (D : St C loc news s) (hm : (a, sliceOf (.int i u) .none) ∈ news) (hz : x.length ≤ 16777216) (h : ∀ s' t', St C loc news s' → Q (.str (Txt.slice x (some i) none) t') s')
    (hs : subscripted slice false (.str x t) (.ref a) = operate [.ref a, .str x t] (getItem (.str x t) (.ref a)) := by with_unfolding_all rfl) (ht : ∀ r, letTemporaryGo value (.str x t) r = pure () := by intro _; with_unfolding_all rfl) :
    wpAny (model prog w) A (subscriptTail value slice (.str x t) (.ref a)) Q E s := by
  refine subscriptTail_ops (typeIs_str s x t) F.slot_str_getitem.lookup (wpAny_getItem_str_slice (l := some (i, u)) (u := none) (st := none) ⟨_, D.get hm, rfl, rfl⟩ rfl ?_) hs ht
  exact post_val_or_str ⟨Nat.le_trans (Txt.slice_le x _ _) (by rw [sizeLine_eq]; exact hz), fun t' k => h _ t' D.toks⟩
end

section
variable {prog : Program} {w : World} {A : Around} {E : Value → Shared → Prop} {s₀ : Shared} {mg mb : Str → Option Value} {y dy tt : Addr} {vs : List Value} {ns : List Nat} {tk : Tok} {Q : Value → Shared → Prop}
theorem repr6 (W : WF w mg mb s₀.heap) (hA : A.depth < 700) (hh : A.handled = none) (hy : s₀.heap.get? y = some (instObj 467 dy)) (hdy : s₀.heap.get? dy = some (dictOf [ent w "data" tk (.ref tt)] 1)) (htt : s₀.heap.get? tt = some (tupOf vs.toArray)) (hv : Nats vs ns) (hn : ns.length = 16) (hz : ∀ n ∈ ns, n < 256)
    (k : ∀ s' t, Rel [] [] s₀.heap s'.heap → Same s₀ s' → Q (.str (T (fmtL (pairsL ns))) t) s') : wpAny (model prog w) A (call (.ref 464) [.ref y]) Q E s₀ := by
  have hX := hy
  have hX2 := hdy
  refine enterS [] [] [] [("self", .ref y)] W (by omega) (fun _ z => nomatch z) (fun _ z => nomatch z) (by simp) (by k_is) (by k_is) (.of_eq (by rfl)) (by kernel_rfl) ?_
  intro L s _ D
  fail "qgo"
  fail "qgd"
  fail "qgo"
  refine format_ok (src := .tup tt vs.toArray) (D.wf W) (by show A.depth + 1 < _; omega) hh (D.tupl ⟨_, htt, rfl, _, rfl⟩ (by simp)) hv hz hn ?_
  intro s' t x5 e5
  replace D := D.pureCall x5 e5
  fail "qgo"
  exact k _ _ D.toRel D.same
theorem repr4 {a1 a2 a3 a4 : Nat} (W : WF w mg mb s₀.heap) (hA : A.depth < 700) (hh : A.handled = none) (hy : s₀.heap.get? y = some (instObj 347 dy)) (hdy : s₀.heap.get? dy = some (dictOf [ent w "data" tk (.ref tt)] 1)) (htt : s₀.heap.get? tt = some (tupOf vs.toArray)) (hv : Nats vs [a1, a2, a3, a4]) (hz : a1 < 100000 ∧ a2 < 100000 ∧ a3 < 100000 ∧ a4 < 100000)
    (k : ∀ s' t, Rel [] [] s₀.heap s'.heap → Same s₀ s' → Q (.str (T (dotL a1 a2 a3 a4)) t) s') : wpAny (model prog w) A (call (.ref 344) [.ref y]) Q E s₀ := by
  have hX := hy
  have hX2 := hdy
  refine enterS [] [] [] [("self", .ref y)] W (by omega) (fun _ z => nomatch z) (fun _ z => nomatch z) (by simp) (by k_is) (by k_is) (.of_eq (by rfl)) (by kernel_rfl) ?_
  intro L s _ D
  fail "qgo"
  fail "qgd"
  obtain ⟨u1, u2, u3, u4, rfl⟩ : ∃ u1 u2 u3 u4, vs = [.int a1 u1, .int a2 u2, .int a3 u3, .int a4 u4] := by
    cases hv with | cons h1 hv => cases hv with | cons h2 hv => cases hv with | cons h3 hv => cases hv with | cons h4 hv => cases hv with | nil =>
      obtain ⟨u1, rfl⟩ := h1
      obtain ⟨u2, rfl⟩ := h2
      obtain ⟨u3, rfl⟩ := h3
      obtain ⟨u4, rfl⟩ := h4
      exact ⟨u1, u2, u3, u4, rfl⟩
  refine r_dotted D (D.old htt (by simp) (by simp)) hz ?_
  clear D s
  intro s t D
  fail "qgo"
  exact k _ _ D.toRel D.same
theorem zone6 (W : WF w mg mb s₀.heap) (hA : A.depth < 600) (hu : A.units < 1500) (hh : A.handled = none) (hy : s₀.heap.get? y = some (instObj 467 dy)) (hdy : s₀.heap.get? dy = some (dictOf [ent w "data" tk (.ref tt)] 1)) (htt : s₀.heap.get? tt = some (tupOf vs.toArray)) (hv : Nats vs ns) (hn : ns.length = 16) (hz : ∀ n ∈ ns, n < 256)
    (k : ∀ s' t, Rel [] [] s₀.heap s'.heap → Same s₀ s' → Q (.str (T (fmtL (pairsL ns))) t) s') : wpAny (model prog w) A (call (.ref 275) [.ref y]) Q E s₀ := by
  have hX := hy
  have hX2 := hdy
  refine enterS [] [] [] [("self", .ref y)] W (by omega) (fun _ z => nomatch z) (fun _ z => nomatch z) (by simp) (by k_is) (by k_is) (.of_eq (by rfl)) (by kernel_rfl) ?_
  intro L s _ D
  fail "qgo"
  refine r_repr D W (by show A.units + 3 < _; omega) (D.old hy (by simp) (by simp)) (D.old hdy (by simp) (by simp)) (f := 464) (by k_is) (by k_is) ?_
  refine repr6 (D.wf W) (by show A.depth + 1 < _; omega) hh (D.old hy (by simp) (by simp)) (D.old hdy (by simp) (by simp)) (D.old htt (by simp) (by simp)) hv hn hz ?_
  intro s' t x5 e5
  replace D := D.pureCall x5 e5
  refine ⟨_, _, rfl, ?_⟩
  fail "qgo"
  exact k _ _ D.toRel D.same
end

section
variable {prog : Program} {w : World} {A : Around} {E : Value → Shared → Prop} {C : Cx} {s : Shared} {mg mb : Str → Option Value} {loc : List (Str × Value)} {news : List (Addr × Obj)} {Q : Value → Shared → Prop}
/-- an attribute of the class, asked of an object -/
theorem r_getcls {c x dx : Addr} {es : List DictEntry} {n : Nat} {name : Str} {a : Value} {expr : Bool} (D : St C loc news s) (W : WF w mg mb C.s₀.heap) (hx : s.heap.get? x = some (instObj c dx)) (hdd : s.heap.get? dx = some (dictOf es n))
    (hg : plainGet (hd.heap_39 w.params) c name = true) (hh : hasDictIn (hd.heap_39 w.params) c = true) (ha : findIn (hd.heap_39 w.params) (.ref c) name = some (some a)) (hn : specialIn (hd.heap_39 w.params) a "__get__" = some none) (hv : handedIn a = true) (hc : copiedNames.contains name = false) (hl : getL name es = some none)
    (h : ∀ s', St C loc news s' → Q a s') : wpAny (model prog w) A (getAttr (.ref x) name expr) Q E s := by
  obtain ⟨g, m, F, N, X, k⟩ := D.libX W
  exact get_cls F X (inst_at hx hdd) hg hh ha hn hv hc hl (h _ D.toks)
end

section
variable {prog : Program} {w : World} {A : Around} {E : Value → Shared → Prop} {s₀ : Shared} {mg mb : Str → Option Value} {x dx tt y dy uu : Addr} {vs us : List Value} {ns ms : List Nat} {t tk uk : Tok} {Q : Value → Shared → Prop}
theorem pe_name (W : WF w mg mb s₀.heap) (hA : A.depth < 800) (k : ∀ s', Rel [] [] s₀.heap s'.heap → Same s₀ s' → Q (.str "data" t) s') : wpAny (model prog w) A (call (.ref 56) [.str "data" t]) Q E s₀ := by
  refine enter [("n", .str "data" t)] W (by omega) (by k_is) (by k_is) (.of_eq (by rfl)) (by kernel_rfl) ?_
  intro L s D
  fail "qgo"
  refine call_type_of (typeIs_str _ _ _) (by decide +kernel) ?_
  fail "qgo"
  refine wpAny_isNot_plain rfl ?_
  rw [show (!(Value.type "str" == Value.type "str")) = false from by simp]
  fail "qgo"
  refine r_slice_to D (by fail "qin") (by decide +kernel) ?_
  clear D s
  intro s t2 D
  fail "qgo"
  refine PyProof.Rows.eq_str ?_
  rw [show (Txt.slice "data" none (some 2) == T [95, 95]) = false from by decide +kernel]
  fail "qgo"
  exact k _ D.toRel D.same
theorem eqv6 (W : WF w mg mb s₀.heap) (hA : A.depth < 600) (hu : A.units < 1500) (hh : A.handled = none) (hx : s₀.heap.get? x = some (instObj 467 dx)) (hdx : s₀.heap.get? dx = some (dictOf [ent w "data" tk (.ref tt)] 1)) (htt : s₀.heap.get? tt = some (tupOf vs.toArray)) (hv : Nats vs ns)
    (hy : s₀.heap.get? y = some (instObj 467 dy)) (hdy : s₀.heap.get? dy = some (dictOf [ent w "data" uk (.ref uu)] 1)) (huu : s₀.heap.get? uu = some (tupOf us.toArray)) (hm : Nats us ms)
    (k : ∀ s', Rel [] [] s₀.heap s'.heap → Same s₀ s' → Q (.bool (decide (ns = ms))) s') : wpAny (model prog w) A (call (.ref 281) [.ref x, .ref y]) Q E s₀ := by
  have hX := hx
  have hX2 := hdx
  have hX3 := hy
  have hX4 := hdy
  refine enterS2 [] [("self", .ref x), ("other", .ref y)] [] "self" "other" (.ref x) (.ref y) W (by omega) (fun _ z => nomatch z) (by k_is) (by k_is) (.of_eq (by rfl)) (by kernel_rfl) (by kernel_rfl) ?_ ?_ ?_ (by kernel_rfl) (by kernel_rfl) (by kernel_rfl) ?_
  · intro L z hz
    simp only [List.mem_cons, List.not_mem_nil, or_false] at hz
    rcases hz with rfl | rfl
    · exact .inr ⟨by kernel_rfl, by kernel_rfl⟩
    · exact .inr ⟨by kernel_rfl, by kernel_rfl⟩
  · intro L
    kernel_rfl
  · intro p hp
    nomatch hp
  intro L o1 o2 s hL d1 d2 hcs D
  fail "qgo"
  refine r_cellD D (by kernel_rfl) rfl (by kernel_rfl) (by fail "qin") d2 ?_
  fail "qgo"
  refine call_type_obj (D.old hy (by simp) (by simp)) (by rfl) ?_
  fail "qgo"
  refine r_cellD D (by kernel_rfl) rfl (by kernel_rfl) (by fail "qin") d1 ?_
  fail "qgo"
  refine call_type_obj (D.old hx (by simp) (by simp)) (by rfl) ?_
  refine ne_cls ?_ (by show A.units + 3 < _; omega) ?_
  · exact ⟨_, (D.wf W).X _ _ (by k_is), rfl⟩
  fail "qgo"
  (with_reducible refine comp_gen (cl := [("self", L + 1), ("other", L + 1 + 1)]) D ?c1 ?c2 ?c3 ?_ (hs := ?hs)); (case c1 => exact hh); (case c2 => kernel_rfl); (case c3 => kernel_rfl); (case hs => intro _; rfl)
  fail "qat"
  refine r_cellD D (by kernel_rfl) rfl (by kernel_rfl) (by fail "qin") d1 ?_
  refine' r_getcls D W (c := 467) (D.old hx (by simp) (by simp)) (D.old hdx (by simp) (by simp)) ?g1 ?g2 ?g3 ?g4 ?g5 ?g6 ?hl ?_
  case g1 => k_is
  case g2 => k_is
  case g3 => k_is
  case g4 => k_is
  case g5 => rfl
  case g6 => decide +kernel
  case hl => rfl
  clear D s
  intro s D
  refine compG_plain (fun v y => y = .bool (decide (ns = ms))) (.tup 276 #[.str "data" 656]) D rfl ⟨_, (D.wf W).X _ _ (by k_is), rfl, _, rfl⟩ (fun _ _ _ D => ⟨_, (D.wf W).X _ _ (by k_is), rfl, _, rfl⟩) (by show 1 ≤ _; decide) ?_ ?_
  · clear D s
    intro v c oc m D' oD I oI s E' hv' hN hX D
    obtain rfl : v = .str "data" 656 := by
      have h : v ∈ (#[.str "data" 656] : Array Value) := hv'
      simpa using h
    fail "qgo"
    refine r_cellD D (by kernel_rfl) rfl (by kernel_rfl) (by fail "qin") d1 ?_
    fail "qgo"
    refine pe_name (D.wf W) (by show A.depth + 1 < _; omega) ?_
    intro s5 x5 e5
    replace D := D.pureCall x5 e5
    clear x5 e5 s
    fail "qgo"
    refine' r_getattr D W (c := 467) (D.old hx (by simp) (by simp)) (D.old hdx (by simp) (by simp)) ?g1 ?g2 ?g3 ?g4 ?hl ?hv ?_
    case g1 => k_is
    case g2 => k_is
    case g3 => k_is
    case g4 => k_is
    case hl => rfl
    case hv => rfl
    fail "qgo"
    refine r_cellD D (by kernel_rfl) rfl (by kernel_rfl) (by fail "qin") d2 ?_
    fail "qgo"
    refine pe_name (D.wf W) (by show A.depth + 1 < _; omega) ?_
    intro s6 x6 e6
    replace D := D.pureCall x6 e6
    clear x6 e6 s5
    fail "qgo"
    refine' r_getattr D W (c := 467) (D.old hy (by simp) (by simp)) (D.old hdy (by simp) (by simp)) ?g1 ?g2 ?g3 ?g4 ?hl ?hv ?_
    case g1 => k_is
    case g2 => k_is
    case g3 => k_is
    case g4 => k_is
    case hl => rfl
    case hv => rfl
    refine eq_tups (D.old htt (by simp) (by simp)) (D.old huu (by simp) (by simp)) hv hm (by show A.units + 3 < _; omega) ?_
    exact ⟨rfl, D⟩
  · clear D s
    intro D' ys s hF D
    fail "qgo"
    obtain rfl : ys = [.bool (decide (ns = ms))] := by
      cases hF with | cons h r => cases r with | nil => rw [h]
    refine r_all (bs := [decide (ns = ms)]) D hh (by fail "qin") (.cons _ .nil) ?_
    clear D s
    intro s D
    fail "qgo"
    have e : ([decide (ns = ms)].all id) = decide (ns = ms) := by simp
    rw [e]
    exact k _ D.toRel D.same
theorem eqv4 (W : WF w mg mb s₀.heap) (hA : A.depth < 600) (hu : A.units < 1500) (hh : A.handled = none) (hx : s₀.heap.get? x = some (instObj 347 dx)) (hdx : s₀.heap.get? dx = some (dictOf [ent w "data" tk (.ref tt)] 1)) (htt : s₀.heap.get? tt = some (tupOf vs.toArray)) (hv : Nats vs ns)
    (hy : s₀.heap.get? y = some (instObj 347 dy)) (hdy : s₀.heap.get? dy = some (dictOf [ent w "data" uk (.ref uu)] 1)) (huu : s₀.heap.get? uu = some (tupOf us.toArray)) (hm : Nats us ms)
    (k : ∀ s', Rel [] [] s₀.heap s'.heap → Same s₀ s' → Q (.bool (decide (ns = ms))) s') : wpAny (model prog w) A (call (.ref 281) [.ref x, .ref y]) Q E s₀ := by
  have hX := hx
  have hX2 := hdx
  have hX3 := hy
  have hX4 := hdy
  refine enterS2 [] [("self", .ref x), ("other", .ref y)] [] "self" "other" (.ref x) (.ref y) W (by omega) (fun _ z => nomatch z) (by k_is) (by k_is) (.of_eq (by rfl)) (by kernel_rfl) (by kernel_rfl) ?_ ?_ ?_ (by kernel_rfl) (by kernel_rfl) (by kernel_rfl) ?_
  · intro L z hz
    simp only [List.mem_cons, List.not_mem_nil, or_false] at hz
    rcases hz with rfl | rfl
    · exact .inr ⟨by kernel_rfl, by kernel_rfl⟩
    · exact .inr ⟨by kernel_rfl, by kernel_rfl⟩
  · intro L
    kernel_rfl
  · intro p hp
    nomatch hp
  intro L o1 o2 s hL d1 d2 hcs D
  fail "qgo"
  refine r_cellD D (by kernel_rfl) rfl (by kernel_rfl) (by fail "qin") d2 ?_
  fail "qgo"
  refine call_type_obj (D.old hy (by simp) (by simp)) (by rfl) ?_
  fail "qgo"
  refine r_cellD D (by kernel_rfl) rfl (by kernel_rfl) (by fail "qin") d1 ?_
  fail "qgo"
  refine call_type_obj (D.old hx (by simp) (by simp)) (by rfl) ?_
  refine ne_cls ?_ (by show A.units + 3 < _; omega) ?_
  · exact ⟨_, (D.wf W).X _ _ (by k_is), rfl⟩
  fail "qgo"
  (with_reducible refine comp_gen (cl := [("self", L + 1), ("other", L + 1 + 1)]) D ?c1 ?c2 ?c3 ?_ (hs := ?hs)); (case c1 => exact hh); (case c2 => kernel_rfl); (case c3 => kernel_rfl); (case hs => intro _; rfl)
  fail "qat"
  refine r_cellD D (by kernel_rfl) rfl (by kernel_rfl) (by fail "qin") d1 ?_
  refine' r_getcls D W (c := 347) (D.old hx (by simp) (by simp)) (D.old hdx (by simp) (by simp)) ?g1 ?g2 ?g3 ?g4 ?g5 ?g6 ?hl ?_
  case g1 => k_is
  case g2 => k_is
  case g3 => k_is
  case g4 => k_is
  case g5 => rfl
  case g6 => decide +kernel
  case hl => rfl
  clear D s
  intro s D
  refine compG_plain (fun v y => y = .bool (decide (ns = ms))) (.tup 276 #[.str "data" 656]) D rfl ⟨_, (D.wf W).X _ _ (by k_is), rfl, _, rfl⟩ (fun _ _ _ D => ⟨_, (D.wf W).X _ _ (by k_is), rfl, _, rfl⟩) (by show 1 ≤ _; decide) ?_ ?_
  · clear D s
    intro v c oc m D' oD I oI s E' hv' hN hX D
    obtain rfl : v = .str "data" 656 := by
      have h : v ∈ (#[.str "data" 656] : Array Value) := hv'
      simpa using h
    fail "qgo"
    refine r_cellD D (by kernel_rfl) rfl (by kernel_rfl) (by fail "qin") d1 ?_
    fail "qgo"
    refine pe_name (D.wf W) (by show A.depth + 1 < _; omega) ?_
    intro s5 x5 e5
    replace D := D.pureCall x5 e5
    clear x5 e5 s
    fail "qgo"
    refine' r_getattr D W (c := 347) (D.old hx (by simp) (by simp)) (D.old hdx (by simp) (by simp)) ?g1 ?g2 ?g3 ?g4 ?hl ?hv ?_
    case g1 => k_is
    case g2 => k_is
    case g3 => k_is
    case g4 => k_is
    case hl => rfl
    case hv => rfl
    fail "qgo"
    refine r_cellD D (by kernel_rfl) rfl (by kernel_rfl) (by fail "qin") d2 ?_
    fail "qgo"
    refine pe_name (D.wf W) (by show A.depth + 1 < _; omega) ?_
    intro s6 x6 e6
    replace D := D.pureCall x6 e6
    clear x6 e6 s5
    fail "qgo"
    refine' r_getattr D W (c := 347) (D.old hy (by simp) (by simp)) (D.old hdy (by simp) (by simp)) ?g1 ?g2 ?g3 ?g4 ?hl ?hv ?_
    case g1 => k_is
    case g2 => k_is
    case g3 => k_is
    case g4 => k_is
    case hl => rfl
    case hv => rfl
    refine eq_tups (D.old htt (by simp) (by simp)) (D.old huu (by simp) (by simp)) hv hm (by show A.units + 3 < _; omega) ?_
    exact ⟨rfl, D⟩
  · clear D s
    intro D' ys s hF D
    fail "qgo"
    obtain rfl : ys = [.bool (decide (ns = ms))] := by
      cases hF with | cons h r => cases r with | nil => rw [h]
    refine r_all (bs := [decide (ns = ms)]) D hh (by fail "qin") (.cons _ .nil) ?_
    clear D s
    intro s D
    fail "qgo"
    have e : ([decide (ns = ms)].all id) = decide (ns = ms) := by simp
    rw [e]
    exact k _ D.toRel D.same
theorem nev6 (W : WF w mg mb s₀.heap) (hA : A.depth < 500) (hu : A.units < 1400) (hh : A.handled = none) (hx : s₀.heap.get? x = some (instObj 467 dx)) (hdx : s₀.heap.get? dx = some (dictOf [ent w "data" tk (.ref tt)] 1)) (htt : s₀.heap.get? tt = some (tupOf vs.toArray)) (hv : Nats vs ns)
    (hy : s₀.heap.get? y = some (instObj 467 dy)) (hdy : s₀.heap.get? dy = some (dictOf [ent w "data" uk (.ref uu)] 1)) (huu : s₀.heap.get? uu = some (tupOf us.toArray)) (hm : Nats us ms)
    (k : ∀ s', Rel [] [] s₀.heap s'.heap → Same s₀ s' → Q (.bool (!decide (ns = ms))) s') : wpAny (model prog w) A (call (.ref 288) [.ref x, .ref y]) Q E s₀ := by
  have hX := hx
  have hX2 := hdx
  refine enterS [] [] [] [("self", .ref x), ("other", .ref y)] W (by omega) (fun _ z => nomatch z) (fun _ z => nomatch z) (by simp) (by k_is) (by k_is) (.of_eq (by rfl)) (by kernel_rfl) ?_
  intro L s _ D
  fail "qgo"
  fail "qmd"
  fail "qcm"
  fail "qgo"
  refine eqv6 (D.wf W) (by show A.depth + 1 < _; omega) (by show A.units + 3 < _; omega) hh (D.old hx (by simp) (by simp)) (D.old hdx (by simp) (by simp)) (D.old htt (by simp) (by simp)) hv (D.old hy (by simp) (by simp)) (D.old hdy (by simp) (by simp)) (D.old huu (by simp) (by simp)) hm ?_
  intro s5 x5 e5
  replace D := D.pureCall x5 e5
  fail "qgo"
  refine not_value (wpAny_truthy_bool ?_)
  exact k _ D.toRel D.same
end

section
set_option maxRecDepth 100000
theorem slot_map_init : Slot "map" "__init__" "object.__init__" :=
  .of (owner := "object") (n := "__init__") (by rw [typeLookup_type, builtinLookup_eq_fast]; kernel_rfl) (by decide +kernel) (by decide +kernel) (by decide +kernel) (by first | exact .inl (by decide +kernel) | exact .inr (by decide +kernel)) (by rw [isSubtype_type]; kernel_rfl)
theorem slot_map_next : Slot "map" "__next__" "map.__next__" :=
  .of (owner := "map") (n := "__next__") (by rw [typeLookup_type, builtinLookup_eq_fast]; kernel_rfl) (by decide +kernel) (by decide +kernel) (by decide +kernel) (by first | exact .inl (by decide +kernel) | exact .inr (by decide +kernel)) (by rw [isSubtype_type]; kernel_rfl)
theorem slot_map_iter : Slot "map" "__iter__" "map.__iter__" :=
  .of (owner := "map") (n := "__iter__") (by rw [typeLookup_type, builtinLookup_eq_fast]; kernel_rfl) (by decide +kernel) (by decide +kernel) (by decide +kernel) (by first | exact .inl (by decide +kernel) | exact .inr (by decide +kernel)) (by rw [isSubtype_type]; kernel_rfl)
theorem mro_map : mroOf (.type "map") = pure [.type "map", .type "object"] := by rw [mroOf_type]; kernel_rfl
theorem lookup_map_new : typeLookup (.type "map") "__new__" = pure (some (.builtin "map.__new__")) := by rw [typeLookup_type, builtinLookup_eq_fast]; kernel_rfl
theorem called_map : TypeCalled "map" "map.__new__" "object.__init__" :=
  ⟨by decide +kernel, by decide +kernel, ⟨_, _, mro_map⟩, madeBy_type mro_map lookup_map_new (by decide +kernel), by decide +kernel, by rw [isSubtype_type]; kernel_rfl, slot_map_init⟩
theorem typeCall_map_2 (a b : Value) : checkTypeCall "map" ⟨[a, b], []⟩ = pure () := by kernel_rfl
theorem newCall_map_2 (a b : Value) : checkBuiltinCall "map.__new__" ⟨[.type "map", a, b], []⟩ = pure () := by kernel_rfl
theorem entry_map_new : entryFor table "map.__new__" = some Builtin.«map.__new__» := entryFor_of_tree (by kernel_rfl)
theorem entry_map_next : entryFor table "map.__next__" = some Builtin.«map.__next__» := entryFor_of_tree (by kernel_rfl)
theorem args_map_next (a : Value) : argsOk "map.__next__" ⟨[a], []⟩ := by unfold argsOk; kernel_rfl
theorem args_map_iter (a : Value) : argsOk "map.__iter__" ⟨[a], []⟩ := by unfold argsOk; kernel_rfl
theorem sub_map : isSubtype (.type "map") (.type "map") = pure true := by rw [isSubtype_type]; kernel_rfl
theorem map_no_len : typeLookup (.type "map") "__len__" = pure none := by rw [typeLookup_type, builtinLookup_eq_fast]; kernel_rfl
theorem map_no_hint : typeLookup (.type "map") "__length_hint__" = pure none := by rw [typeLookup_type, builtinLookup_eq_fast]; kernel_rfl
theorem entry_map_iter : entryFor table "map.__iter__" = some Builtin.«dict_keyiterator.__iter__» :=
  entryFor_alias (id' := "dict_keyiterator.__iter__") (by kernel_rfl) (by first | rfl | decide +kernel | (unfold String.splitOn; simp +decide [String.splitOnAux])) (by decide +kernel) (by kernel_rfl)
end
abbrev liObj (l : Addr) (i : Nat) : Obj := { cls := .type "list_iterator", data := .fields #[.ref l, .int i 0] }
abbrev mapObj (it : Addr) : Obj := { cls := .type "map", data := .fields #[.ref it, .type "int"] }
theorem meets_map_new (l1 : Addr) (xs : Array Value) :
    Meets (Builtin.«map.__new__» ⟨[.type "map", .type "int", .ref l1], []⟩) (fun _ R s => s.heap.IsList l1 xs ∧
      R (.ok (.ret (.ref (s.heap.objs.size + 2)))) { s with heap := ((s.heap.push (liObj l1 0)).push (tupOf #[.ref s.heap.objs.size])).push (mapObj (s.heap.objs.size + 1)) }) :=
  .of_wp fun prog w A R s h => by
    obtain ⟨hp, g, d, tk, os⟩ := s; obtain ⟨hl1, h⟩ := h
    have hsub := sub_map
    have hL1 : Heap.IsList (Shared.heap ⟨hp, g, d, tk, os⟩) l1 xs := hl1
    wp_walk using wpAny_pyIter_list hL1
    refine ⟨_, rfl, ?_⟩
    rw [Heap.size_push, Heap.size_push]
    exact h
section
variable {prog : Program} {w : World} {A : Around} {E : Value → Shared → Prop} {C : Cx} {s : Shared} {loc : List (Str × Value)} {news rest : List (Addr × Obj)} {l Mp IT I : Addr} {its : Array Value}
theorem call_map {Q : Value → Shared → Prop} (D : St C loc news s) (hl : s.heap.IsList l its) (h : ∀ Mp IT I oI s', LI oI l 0 → St C loc ((I, oI) :: (Mp, mapObj IT) :: (IT, tupOf #[.ref I]) :: news) s' → Q (.ref Mp) s') : wpAny (model prog w) A (call (.type "map") [.type "int", .ref l]) Q E s := by
  refine callType_new called_map (by decide) (typeCall_map_2 _ _) (newCall_map_2 _ _) (fun obj => F.args_object_init_3 obj _ _) entry_map_new (meets_map_new l its) ⟨hl, ?_⟩
  have D1 := ((D.push (liObj l 0)).push (tupOf #[.ref s.heap.objs.size])).push (mapObj (s.heap.objs.size + 1))
  simp only [Heap.size_push] at D1
  refine ⟨⟨_, D1.get (.head _), rfl⟩, ?_⟩
  refine h (s.heap.objs.size + 2) (s.heap.objs.size + 1) s.heap.objs.size (liObj l 0) _ ⟨rfl, rfl⟩ ?_
  exact D1.perm (((List.Perm.swap _ _ _).cons _).trans (List.Perm.swap _ _ _))
theorem map_item {oI : Obj} {i : Nat} {x : Value} {Q : Value → Shared → Prop} (D : St C loc ((I, oI) :: rest) s) (hI : LI oI l i) (hM : (Mp, mapObj IT) ∈ rest) (hT : (IT, tupOf #[.ref I]) ∈ rest) (hl : s.heap.IsList l its) (hx : its[i]? = some x)
    (h : ∀ oI' s', LI oI' l (i + 1) → St C loc ((I, oI') :: rest) s' → wpAny (model prog w) A (call (.type "int") [x]) Q E s') : wpAny (model prog w) A (Builtin.«map.__next__» ⟨[.ref Mp], []⟩) (fun fin s' => ∃ v, fin = .done (.ret v) ∧ Q v s') E s := by
  have hit : s.heap.IsListIter I l i := ⟨oI, D.get (.head _), hI⟩
  show wpAny _ _ (field (.ref Mp) 0 >>= _) _ _ _
  refine wpAny_bind (wpAny_field (x := .ref IT) (D.get (.tail _ hM)) rfl rfl ?_)
  refine wpAny_bind (wpAny_seqItems (D.get (.tail _ hT)) rfl ?_)
  dsimp only
  simp only [List.forIn_toArray, List.forIn_cons, List.forIn_nil]
  refine wpAny_bind (wpAny_bind (wpAny_bind (wpAny_holding (wpAny_nextOf_list_item hit hl hx fun h' hit' hs => ?_))))
  obtain ⟨oI', ho', hI'⟩ := hit'
  have D' : St C loc ((I, oI') :: rest) { s with heap := h' } := D.change rfl (fun b o n e => hs.extBut b o n e) ho' ⟨rfl, rfl, rfl⟩
  refine wpAny_pure (wpAny_pure ?_)
  refine wpAny_bind (wpAny_field (x := .type "int") (D'.get (.tail _ hM)) rfl rfl ?_)
  refine wpAny_bind (wpAny_holding (wpAny_mono (h oI' _ hI' D') (fun v s'' q => wpAny_bind (wpAny_letGo (wpAny_pure ⟨_, rfl, q⟩))) fun _ _ z => z))
theorem pynext_map {oI : Obj} {i : Nat} {Q : Option Value → Shared → Prop} (hh : A.handled = none) (D : St C loc ((I, oI) :: rest) s) (hI : LI oI l i) (hM : (Mp, mapObj IT) ∈ rest) (hT : (IT, tupOf #[.ref I]) ∈ rest) (hl : s.heap.IsList l its)
    (item : ∀ x oI' s', its[i]? = some x → LI oI' l (i + 1) → St C loc ((I, oI') :: rest) s' → wpAny (model prog w) A.in1 (call (.type "int") [x]) (fun v s'' => Q (some v) s'') (fun _ _ => False) s')
    (done : ∀ s', its.size ≤ i → St C loc rest s' → Q none s') : wpAny (model prog w) A (pyNext (.ref Mp)) Q E s := by
  have hTy : s.TypeIs (.ref Mp) "map" := ⟨_, D.get (.tail _ hM), rfl⟩
  unfold pyNext
  cases hx : its[i]? with
  | some x =>
    refine wpAny_bind (wpAny_attempt (wpAny_callSpecial?_slot (name := Str.ofString "__next__") hTy slot_map_next (wpAny_call_entry slot_map_next hTy entry_map_next ?_ (args_map_next _))))
    exact map_item D hI hM hT hl hx fun oI' s' hI' D' => wpAny_mono (item x oI' s' hx hI' D') (fun v s'' q => wpAny_pure q) fun _ _ z => z.elim
  | none =>
    refine wpAny_bind (wpAny_attempt (wpAny_callSpecial?_slot (name := Str.ofString "__next__") hTy slot_map_next (wpAny_call_entry slot_map_next hTy entry_map_next ?_ (args_map_next _))))
    have hit : s.heap.IsListIter I l i := ⟨oI, D.get (.head _), hI⟩
    show wpAny _ _ (field (.ref Mp) 0 >>= _) _ _ _
    refine wpAny_bind (wpAny_field (x := .ref IT) (D.get (.tail _ hM)) rfl rfl ?_)
    refine wpAny_bind (wpAny_seqItems (D.get (.tail _ hT)) rfl ?_)
    dsimp only
    simp only [List.forIn_toArray, List.forIn_cons, List.forIn_nil]
    refine wpAny_bind (wpAny_bind (wpAny_bind (wpAny_holding (wpAny_nextOf_list_end hh hit hl hx fun h' e hs he => ?_))))
    obtain ⟨o, ho, hc⟩ := he
    refine wpAny_bind (wpAny_isInstance (T := "StopIteration") (b := true) ⟨o, ho, hc⟩ isSubtype_stop ?_)
    exact wpAny_pure (done _ (by simpa using hx) (D.ext rfl (fun b o n e => hs b o n e) ⟨rfl, rfl, rfl⟩))
end

abbrev isDec (v : Value) (n : Nat) : Prop := ∃ t, v = .str (PySem.Str.ofString (toString (n : Int))) t
section
set_option maxRecDepth 100000
variable {prog : Program} {w : World} {A : Around} {E : Value → Shared → Prop} {C : Cx} {s : Shared} {loc : List (Str × Value)} {news rest : List (Addr × Obj)} {l Mp IT I S : Addr} {xs : List Value} {ns : List Nat}
theorem pdd_at {F : Value → Nat → Prop} : ∀ {xs : List Value} {ns : List Nat} {i : Nat} {x : Value}, Paired F xs ns → xs[i]? = some x → ∃ n, ns[i]? = some n ∧ F x n
  | _, _, 0, _, .cons h r, e => ⟨_, rfl, by simp at e; subst e; exact h⟩
  | _, _, i + 1, _, .cons h r, e => by
    obtain ⟨n, h1, h2⟩ := pdd_at (i := i) r (by simpa using e)
    exact ⟨n, by simpa using h1, h2⟩
theorem map_loop {R : Result → Shared → Prop} (hh : A.handled = none) (hv : Paired isDec xs ns) (hz : ∀ n ∈ ns, n < 10000000000) (hle : xs.length ≤ 1000) (stay : ∀ news' s, news.Sublist news' → St C loc news' s → s.heap.IsList l xs.toArray)
    (k : ∀ s' vs c', Nats vs ns → St C loc ((S, listOf vs.toArray c') :: news) s' → R (.ok (.ret (.ref S))) s') :
    ∀ m i s oI (acc : List Value) c, xs.length - i = m → LI oI l i → Nats acc (ns.take i) → i ≤ xs.length → St C loc ((S, listOf acc.toArray c) :: (I, oI) :: (Mp, mapObj IT) :: (IT, tupOf #[.ref I]) :: news) s →
      codeAny (model prog w) A (.builtin "list.extend.loop" ⟨[.ref S, .ref Mp, .ref S], []⟩) R s := by
  have hvl := hv.length
  intro m
  induction m with
  | zero =>
    intro i s oI acc c hm hI hac hi D
    refine codeAny_builtin F.entry_extend_loop ?_
    rw [Around.under_plainId F.plain_extend_loop _]
    show wpAny _ A.in1 (pyNext (.ref Mp) >>= _) _ _ s
    refine wpAny_bind (pynext_map (its := xs.toArray) hh (D.perm (List.Perm.swap _ _ _)) hI (.tail _ (.head _)) (.tail _ (.tail _ (.head _))) (stay _ _ (((List.sublist_cons_self _ _).trans (List.sublist_cons_self _ _)).trans ((List.sublist_cons_self _ _).trans (List.sublist_cons_self _ _))) D) (fun x oI' s' hx => ?_) fun s' _ D' => ?_)
    · have : xs.toArray[i]? = none := by simp; omega
      rw [this] at hx; cases hx
    · refine wpAny_pure ?_
      have e : ns.take i = ns := List.take_of_length_le (by omega)
      rw [e] at hac
      exact k s' acc c hac (D'.drop (((List.Sublist.refl news).cons _).cons _ |>.cons_cons _))
  | succ m ih =>
    intro i s oI acc c hm hI hac hi D
    refine codeAny_builtin F.entry_extend_loop ?_
    rw [Around.under_plainId F.plain_extend_loop _]
    show wpAny _ A.in1 (pyNext (.ref Mp) >>= _) _ _ s
    refine wpAny_bind (pynext_map (its := xs.toArray) hh (D.perm (List.Perm.swap _ _ _)) hI (.tail _ (.head _)) (.tail _ (.tail _ (.head _))) (stay _ _ (((List.sublist_cons_self _ _).trans (List.sublist_cons_self _ _)).trans ((List.sublist_cons_self _ _).trans (List.sublist_cons_self _ _))) D) (fun x oI' s' hx hI' D' => ?_) fun s' h _ => ?_)
    · obtain ⟨n, hn, t, rfl⟩ := pdd_at hv (by simpa using hx)
      have hlt : n < 10000000000 := hz n (List.mem_of_getElem? hn)
      refine KIN.call_num (by omega) (by omega) ?_
      have D'' := (D'.toks (t := s'.toks + 1)).perm (List.Perm.swap _ _ _)
      have hacl := hac.length
      show wpAny _ A.in1 (updateSeq S (·.push _) >>= _) _ _ _
      refine wpAny_bind (updHead D'' (by rw [List.size_toArray, hacl, sizeLine_eq]; have := List.length_take_le i ns; omega) (by rw [Array.size_push, List.size_toArray, hacl, sizeLine_eq]; have := List.length_take_le i ns; omega) fun s3 c3 D3 => ?_)
      refine wpAny_pure ⟨plainId_quiet F.plain_extend_loop _, ?_⟩
      have e : ns.take (i + 1) = ns.take i ++ [n] := by rw [List.take_add_one, hn]; rfl
      refine ih (i + 1) s3 oI' (acc ++ [Value.int n s'.toks]) c3 (by omega) hI' (by rw [e]; exact pd_app hac (.cons ⟨_, rfl⟩ .nil)) (by omega) ?_
      rw [show acc.toArray.push (Value.int (n : Nat) s'.toks) = (acc ++ [Value.int (n : Nat) s'.toks]).toArray from by simp] at D3
      exact D3
    · simp at h; omega
theorem collect_map {oI : Obj} {Q : List Value → Shared → Prop} (hh : A.handled = none) (hv : Paired isDec xs ns) (hz : ∀ n ∈ ns, n < 10000000000) (hle : xs.length ≤ 1000) (stay : ∀ news' s, news.Sublist news' → St C loc news' s → s.heap.IsList l xs.toArray)
    (D : St C loc ((I, oI) :: (Mp, mapObj IT) :: (IT, tupOf #[.ref I]) :: news) s) (hI : LI oI l 0) (k : ∀ s' vs, Nats vs ns → St C loc news s' → Q vs s') : wpAny (model prog w) A (collect (.ref Mp)) Q E s := by
  unfold collect
  refine wpAny_bind (wpAny_runValue (codeAny_builtin F.entry_proto_collect ?_))
  rw [Around.under_plainId F.plain_proto_collect _]
  show wpAny _ A.in1 (newList [] >>= fun l => again (.builtin "list.__iadd__" ⟨[l, .ref Mp], []⟩)) _ _ s
  have hne : s.heap.objs.size ≠ Mp := fun e => Nat.lt_irrefl _ (Nat.lt_of_lt_of_eq (D.lt (p := (Mp, mapObj IT)) (.tail _ (.head _))) e)
  refine wpAny_bind (wpAny_newObj_type ?_)
  refine wpAny_pure ⟨plainId_quiet F.plain_list_iadd _, codeAny_builtin F.entry_list_iadd ?_⟩
  rw [Around.under_plainId F.plain_list_iadd _]
  have D₁ : St C loc ((s.heap.objs.size, listOf #[] 0) :: (I, oI) :: (Mp, mapObj IT) :: (IT, tupOf #[.ref I]) :: news) { s with heap := s.heap.push { cls := .type "list", data := .seq ([] : List Value).toArray } } := D.push _
  generalize s.heap.objs.size = S at D₁ hne ⊢
  generalize ({ s with heap := s.heap.push { cls := .type "list", data := .seq ([] : List Value).toArray } } : Shared) = s₁ at D₁ ⊢
  have hT : ∀ {s : Shared} {news' : List (Addr × Obj)}, (Mp, mapObj IT) ∈ news' → St C loc news' s → s.TypeIs (.ref Mp) "map" := fun h D => ⟨_, D.get h, rfl⟩
  have hm : (Mp, mapObj IT) ∈ (S, listOf #[] 0) :: (I, oI) :: (Mp, mapObj IT) :: (IT, tupOf #[.ref I]) :: news := .tail _ (.tail _ (.head _))
  show wpAny _ A.in1 (Builtin.List.listExtendWith (.ref S) (.ref Mp) (.ref S)) _ _ _
  unfold Builtin.List.listExtendWith
  refine wpAny_bind (wpAny_typeOf (hT hm D₁) ?_)
  have h1 : Builtin.List.listSameRef (.ref S) (.ref Mp) = false := by simp [Builtin.List.listSameRef, hne]
  have h2 : (Value.type "map" == Value.type "list") = false := by decide
  have h3 : (Value.type "map" == Value.type "tuple") = false := by decide
  simp only [h1, h2, h3, Bool.or_false, Bool.false_eq_true, if_false]
  refine wpAny_bind (wpAny_pyIter_slot (hT hm D₁) slot_map_iter (wpAny_call_entry slot_map_iter (hT hm D₁) entry_map_iter (show wpAny _ _ (ret (.ref Mp)) _ _ _ from wpAny_pure ⟨_, rfl, "map", _, hT hm D₁, slot_map_next.lookup, ?_⟩) (args_map_iter _)))
  refine wpAny_bind (wpAny_holding ?_)
  unfold Builtin.List.listLengthHint
  refine wpAny_bind (wpAny_specialOf (hT hm D₁) map_no_len ?_)
  show wpAny _ A.in1 (specialOf (Value.ref Mp) (Str.ofString "__length_hint__") >>= _) _ _ _
  refine wpAny_bind (wpAny_specialOf (hT hm D₁) map_no_hint ?_)
  refine wpAny_pure ?_
  show wpAny _ A.in1 (rule "list.extend.makes-room" >>= fun _ => Builtin.List.listTouch (.ref S) >>= fun _ =>
    again (.builtin "list.extend.loop" ⟨[.ref S, .ref Mp, .ref S], []⟩)) _ _ _
  refine wpAny_bind (wpAny_rule ?_)
  refine wpAny_bind ?_
  show wpAny _ A.in1 (updateSeq S (·.push .none) >>= fun _ => updateSeq S (·.pop)) _ _ _
  refine wpAny_bind (updHead D₁ (by simp) (by simp) fun s₄ c₄ D₄ => ?_)
  refine updHead D₄ (by rw [sizeLine_eq]; decide) (by simp) fun s₅ c₅ D₅ => ?_
  refine wpAny_pure ⟨plainId_quiet F.plain_extend_loop _, ?_⟩
  refine map_loop hh hv hz hle stay (fun s' vs c' hvs D' => ?_) _ 0 s₅ oI [] c₅ rfl hI .nil (Nat.zero_le _) D₅
  show wpAny _ A (load S >>= _) _ _ s'
  refine wpAny_bind (wpAny_load (D'.get (.head _)) ?_)
  exact wpAny_pure (k s' vs hvs (D'.drop (List.sublist_cons_self _ _)))
theorem tuple_map {oI : Obj} {Q : Value → Shared → Prop} (hh : A.handled = none) (hv : Paired isDec xs ns) (hz : ∀ n ∈ ns, n < 10000000000) (hle : xs.length ≤ 1000) (stay : ∀ news' s, news.Sublist news' → St C loc news' s → s.heap.IsList l xs.toArray)
    (D : St C loc ((I, oI) :: (Mp, mapObj IT) :: (IT, tupOf #[.ref I]) :: news) s) (hI : LI oI l 0) (k : ∀ r vs s', Nats vs ns → St C loc ((r, tupOf vs.toArray) :: news) s' → Q (.ref r) s') : wpAny (model prog w) A (call (.type "tuple") [.ref Mp]) Q E s := by
  refine callType_codes (Q₁ := fun obj s₁ => s₁.TypeIs obj "tuple" ∧ Q obj s₁) F.called_tuple (F.typeCall_tuple_1 _) F.entry_object_init ?_ fun obj s₁ h₁ => ?_
  · refine codeAny_of_tree ?_
    show wpAny _ A.in1.in1 (do checkBuiltinCall "tuple.__new__" ⟨[.type "tuple", .ref Mp], []⟩; again (.builtin "tuple.__new__" ⟨[.type "tuple", .ref Mp], []⟩)) _ _ s
    refine wpAny_bind (wpAny_of_eq (F.newCall_tuple_1 _) (wpAny_pure ⟨plainId_quiet F.plain_tuple_new _, codeAny_builtin F.entry_tuple_new ?_⟩))
    rw [Around.under_plainId F.plain_tuple_new _]
    have hsub := sub_tuple_self
    have hinit := init_tuple_lookup
    have hmh := madeHere_tuple
    have hTI : s.TypeIs (.ref Mp) "map" := ⟨_, D.get (.tail _ (.head _)), rfl⟩
    have hh' : A.in1.in1.handled = none := hh
    wp_walk using wpAny_typeOf hTI, collect_map (A := A.in1.in1) hh' hv hz hle stay D hI
    intro s' vs hvs D'
    show wpAny _ _ (Builtin.Tuple.tupleExact vs.toArray >>= fun v => ret v) _ _ _
    unfold Builtin.Tuple.tupleExact
    have hvl := hvs.length
    have hxl := hv.length
    refine wpAny_bind (wpAny_newObj_type ?_ (by show vs.toArray.size ≤ sizeLine; rw [List.size_toArray, sizeLine_eq]; omega))
    refine wpAny_pure ?_
    exact ⟨⟨_, Heap.get?_push_size _ rfl, rfl⟩, k _ vs _ hvs (D'.push (tupOf vs.toArray))⟩
  · exact ⟨h₁.1, F.args_object_init_2 obj _, object_init_meets F.called_tuple.init.lookup F.called_tuple.made (by decide) prog w A.in1 _ s₁ ⟨h₁.1, rfl, h₁.2⟩⟩
end

theorem T_dec (n : Nat) : T (decL n) = PySem.Str.ofString (toString (n : Int)) := by
  unfold T decL
  exact congrArg Str.mk (Array.toArray_toList ..)
theorem txts_dec : ∀ {ns : List Nat} {vs : List Value}, Txts vs (ns.map decL) → Paired isDec vs ns
  | [], _, .nil => .nil
  | n :: ns, _, .cons h r => by
    obtain ⟨t, e⟩ := h
    exact .cons ⟨t, by rw [e, T_dec]⟩ (txts_dec r)
section
open Builtin Builtin.Str
variable {prog : Program} {w : World} {A : Around} {E : Value → Shared → Prop} {C : Cx} {s : Shared} {loc : List (Str × Value)} {news : List (Addr × Obj)} {Q : Value → Shared → Prop}
theorem r_rstrip {x y : Str} {t u : Tok} (D : St C loc news s) (hz : x.length ≤ 16777216) (h : ∀ s' t, St C loc news s' → Q (.str (Txt.rstripChars x y) t) s') : wpAny (model prog w) A (call (.builtin "str.rstrip") [.str x t, .str y u]) Q E s := by
  refine call_gives F.slot_str_rstrip (typeIs_str s x t) F.entry_str_rstrip (F.args_str_rstrip_2 _ _) (gives_str_rstrip_chars x y t u) ?_
  exact post_val_or_str ⟨Nat.le_trans (len_rstripChars x y) (by rw [sizeLine_eq]; exact hz), fun t' k => h _ t' D.toks⟩
end

/-- a text of numbers that is read -/
def DotOK (l ns : List Nat) : Prop := ∃ l', Txt.rstripChars (T l) (T [46]) = T l' ∧ Txt.split (T l') (T [46]) = (ns.map decL).map T ∧ l.length ≤ 10000 ∧ l'.length ≤ 10000
section
variable {prog : Program} {w : World} {A : Around} {s₀ : Shared} {mg mb : Str → Option Value} {x dx : Addr} {ns l : List Nat} {t : Tok} {R : Result → Shared → Prop} {fs : List Addr}
theorem init4_text (hp : DotOK l ns) (W : WF w mg mb s₀.heap) (K : Frames A fs s₀.heap) (hA : A.depth < 390) (hg : A.guards = some []) (hu : A.units < 1700) (hx : s₀.heap.get? x = some (instObj 347 dx)) (hdx : s₀.heap.get? dx = some (dictOf [] 0)) (low : 515 ≤ dx) (nd : x ≠ dx) (nf : x ∉ fs ∧ dx ∉ fs) (hn : ns.length = 4) (hz : ∀ n ∈ ns, n ≤ 255)
    (k : ∀ r tk vs s', Nats vs ns → Rel [dx] fs s₀.heap s'.heap → Same s₀ s' → s'.heap.get? dx = some (dictOf [ent w "data" tk (.ref r)] 1) → s'.heap.get? r = some (tupOf vs.toArray) → s₀.heap.get? r = none → R (.ok (.ret .none)) s') : codeAny (model prog w) A (.call (.ref 330) ⟨[.ref x, .str (T l) t], []⟩) R s₀ := by
  have hh : A.handled = none := K.calm
  obtain ⟨l', hp1, hp2, hp3, hp4⟩ := hp
  obtain ⟨nf1, nf2⟩ := nf
  have hX := hx
  refine enterC0 [dx] fs [(dx, dictOf [] 0)] [("self", .ref x), ("data", .str (T l) t)] W (by omega) (K.lowS fun a h => by simp at h; subst h; exact low) (fun p hp => by simp at hp; subst hp; exact ⟨by simp, hdx⟩) (by simp) (by k_is) (by k_is) (.of_eq (by rfl)) (by kernel_rfl) ?_
  intro L s hL D
  have dis : ∀ b ∈ (⟨[dx], fs, s₀, L⟩ : Cx).fs, b ∉ (⟨[dx], fs, s₀, L⟩ : Cx).S := fun b hb z => by simp at z; subst z; exact nf2 hb
  fail "qgo"
  refine isi_str2 D (by fail "qin") ?_
  clear D s
  intro s D
  fail "qgo"
  refine r_rstrip D (by rw [T_len]; omega) ?_
  rw [hp1]
  clear D s
  intro s t2 D
  fail "qgo"
  refine r_split D (by decide) hp2 (by rw [T_len, sizeLine_eq]; omega) ?_
  clear D
  intro sp us s hus D
  have hd := txts_dec hus
  have hdl := hd.length
  fail "qgo"
  refine call_map D (D.listN (k := 0) (by fail "qin")) ?_
  clear D
  intro Mp IT I oI s hI D
  fail "qgo"
  refine tuple_map hh hd (fun n h => by have := hz n h; omega) (by omega) (fun _ _ hs D => D.listN (k := 0) (hs.subset (by fail "qin"))) D hI ?_
  clear D
  intro r vs s hv D
  have hvl := hv.length
  fail "qgo"
  refine ip4_any (D.wf W) (K.deeper W D dis rfl) (by show A.depth + 1 < _; omega) hg (by show A.units + 3 < _; omega) (D.get (by fail "qin")) hv (by omega) (fun n h => by have := hz n h; omega) (by decide) (D.noFrame K dis (p := (r, tupOf vs.toArray)) (by fail "qin")) ?_ ?_
  · intro s' h1 h2 x5 e5
    replace D := D.calm K dis x5 e5
    clear x5 e5
    fail "qgo"
    fail "qsd"
    fail "qgo"
    have hr : r ≠ dx := by have := D.ord; simp at this; exact this.1.2.2
    exact k _ _ _ _ hv D.toRel D.same (D.get (by fail "qin")) (D.get (by fail "qin")) (D.isNewS (p := (r, tupOf vs.toArray)) (by fail "qin") (by simpa using hr))
  · intro e t args s' hb f
    exact absurd ⟨hn, hz⟩ hb
theorem init4_text_bad (hp : DotOK l ns) (W : WF w mg mb s₀.heap) (K : Frames A fs s₀.heap) (hA : A.depth < 390) (hg : A.guards = some []) (hu : A.units < 1700) (hl : ns.length ≤ 100) (hz : ∀ n ∈ ns, n < 100000) (hb : ¬ (ns.length = 4 ∧ ∀ n ∈ ns, n ≤ 255))
    (k : ∀ e t args s', Threw fs s₀ e (.type "ValueError") t args s' → R (.error (.ref e)) s') : codeAny (model prog w) A (.call (.ref 330) ⟨[.ref x, .str (T l) t], []⟩) R s₀ := by
  have hh : A.handled = none := K.calm
  obtain ⟨l', hp1, hp2, hp3, hp4⟩ := hp
  refine enterC0 [] fs [] [("self", .ref x), ("data", .str (T l) t)] W (by omega) (K.lowS (S := []) fun _ z => nomatch z) (fun _ z => nomatch z) (by simp) (by k_is) (by k_is) (.of_eq (by rfl)) (by kernel_rfl) ?_
  intro L s hL D
  have dis : ∀ b ∈ (⟨[], fs, s₀, L⟩ : Cx).fs, b ∉ (⟨[], fs, s₀, L⟩ : Cx).S := fun _ _ z => nomatch z
  fail "qgo"
  refine isi_str2 D (by fail "qin") ?_
  clear D s
  intro s D
  fail "qgo"
  refine r_rstrip D (by rw [T_len]; omega) ?_
  rw [hp1]
  clear D s
  intro s t2 D
  fail "qgo"
  refine r_split D (by decide) hp2 (by rw [T_len, sizeLine_eq]; omega) ?_
  clear D
  intro sp us s hus D
  have hd := txts_dec hus
  have hdl := hd.length
  fail "qgo"
  refine call_map D (D.listN (k := 0) (by fail "qin")) ?_
  clear D
  intro Mp IT I oI s hI D
  fail "qgo"
  refine tuple_map hh hd (fun n h => by have := hz n h; omega) (by omega) (fun _ _ hs D => D.listN (k := 0) (hs.subset (by fail "qin"))) D hI ?_
  clear D
  intro r vs s hv D
  fail "qgo"
  refine ip4_any (D.wf W) (K.deeper W D dis rfl) (by show A.depth + 1 < _; omega) hg (by show A.units + 3 < _; omega) (D.get (by fail "qin")) hv hl hz (by decide) (D.noFrame K dis (p := (r, tupOf vs.toArray)) (by fail "qin")) ?_ ?_
  · intro s' h1 h2
    exact absurd ⟨h1, h2⟩ hb
  · intro e t args s' hb f
    exact leave_threw D W K rfl rfl f fun s'' f' => k _ _ _ _ f'
end

section
set_option maxRecDepth 100000
open Builtin PySem.NumText
variable {prog : Program} {w : World} {A : Around} {E : Value → Shared → Prop} {C : Cx} {s : Shared} {loc : List (Str × Value)} {news rest : List (Addr × Obj)} {l Mp IT I : Addr} {its : Array Value}
theorem refuse_10 {u : Tok} {Q : Fin → Shared → Prop} (hh : A.handled = none)
    (h : ∀ h' k e args, Heap.MadeExc s.heap h' e "ValueError" args → E (.ref e) { s with heap := h', toks := k }) :
    wpC (model prog w) A (Builtin.«int.__new__» ⟨[.type "int", .str (T [120]) u], []⟩) Q E s := by
  have hx : numTextOf (T [120]) = [120] := by decide +kernel
  have z := refuse_text (prog := prog) (w := w) (A := A) (E := E) (s := s) (x := T [120]) (u := u) (base := 10) (Q := fun _ _ => False) hh (by decide +kernel) (by decide +kernel) (by rw [hx]; decide) (by rw [hx]; rfl) h
  unfold Builtin.«int.__new__»
  have f1 := PySem.F.conv_sub_int
  have f2 := PySem.F.madeHere_int
  dsimp only
  refine wpC_pre (wpAny_pure ?_)
  refine wpC_ifn (by decide) ?_
  refine wpC_pre (wpAny_of_eq f1 ?_)
  refine wpC_ifn (by decide) ?_
  refine wpC_pre (wpAny_of_eq f2 ?_)
  refine wpC_ifn (by simp) ?_
  refine wpC_ifn (by simp) ?_
  refine wpC_pre (wpAny_pure ?_)
  dsimp only [List.head?, Option.map]
  refine wpC_thru ?_
  refine wpC_pre (m := callSpecial? (.str (T [120]) u) "__int__") ?_
  refine wpAny_bind (wpAny_specialOf (typeIs_str _ _ _) KIN.str_int (wpAny_pure ?_))
  refine wpC_pre (m := specialOf (.str (T [120]) u) "__index__") (wpAny_specialOf (typeIs_str _ _ _) KIN.str_idx ?_)
  refine wpC_ifn (by decide) ?_
  refine wpC_pre (m := specialOf (.str (T [120]) u) "__trunc__") (wpAny_specialOf (typeIs_str _ _ _) KIN.str_trunc ?_)
  dsimp only
  refine wpC_pre ?_
  refine wpAny_bind (wpAny_pure ?_)
  refine wpAny_pure ?_
  dsimp only
  exact z
theorem tupnew_thru {Q : Fin → Shared → Prop} (hT : s.TypeIs (.ref Mp) "map") (h : wpC (model prog w) A (collect (.ref Mp)) (fun _ _ => False) E s) : wpC (model prog w) A (Builtin.«tuple.__new__» ⟨[.type "tuple", .ref Mp], []⟩) Q E s := by
  unfold Builtin.«tuple.__new__»
  dsimp only
  refine wpC_pre (wpAny_pure ?_)
  refine wpC_ifn (by decide) ?_
  refine wpC_pre (wpAny_of_eq sub_tuple_self ?_)
  refine wpC_ifn (by decide) ?_
  refine wpC_ifn (by decide +kernel) ?_
  refine wpC_pre (wpAny_of_eq madeHere_tuple ?_)
  refine wpC_pre (wpAny_of_eq init_tuple_lookup ?_)
  refine wpC_if (by decide +kernel) ?_
  refine wpC_pre (wpAny_pure ?_)
  refine wpC_pre (wpAny_pure ?_)
  refine wpC_if (by decide +kernel) ?_
  refine wpC_pre ?_
  unfold Builtin.Tuple.tupleIsExact
  refine wpAny_bind (wpAny_typeOf hT (wpAny_pure ?_))
  refine wpC_ifn (by decide) ?_
  exact wpC_thru h
theorem r_refuse10 {u : Tok} {Q : Value → Shared → Prop} (hh : A.handled = none)
    (h : ∀ h' k e args, Heap.MadeExc s.heap h' e "ValueError" args → E (.ref e) { s with heap := h', toks := k }) : wpC (model prog w) A (call (.type "int") [.str (T [120]) u]) Q E s :=
  refuse_call PySem.F.called_int (by kernel_rfl) (codeC_call_builtin (bears_of (by decide +kernel)) PySem.F.called_int.plain PySem.F.entry_int_new (by kernel_rfl) (wpC_mono (refuse_10 (Q := fun _ _ => False) hh h) (fun _ _ z => z.elim) fun _ _ z => z))
theorem sub_val_stop : isSubtype (.type "ValueError") (.type "StopIteration") = pure false := by rw [isSubtype_type]; kernel_rfl
theorem pynext_map_x {oI : Obj} {u : Tok} {Q : Option Value → Shared → Prop} (hh : A.handled = none) (D : St C loc ((I, oI) :: rest) s) (hI : LI oI l 0) (hM : (Mp, mapObj IT) ∈ rest) (hT : (IT, tupOf #[.ref I]) ∈ rest) (hl : s.heap.IsList l its) (hx : its[0]? = some (.str (T [120]) u))
    (h : ∀ oI' s₁ h' k e args, St C loc ((I, oI') :: rest) s₁ → Heap.MadeExc s₁.heap h' e "ValueError" args → E (.ref e) { s₁ with heap := h', toks := k }) : wpC (model prog w) A (pyNext (.ref Mp)) Q E s := by
  have hTy : s.TypeIs (.ref Mp) "map" := ⟨_, D.get (.tail _ hM), rfl⟩
  have hit : s.heap.IsListIter I l 0 := ⟨oI, D.get (.head _), hI⟩
  unfold pyNext
  refine wpC_bind (wpC_attempt ?_)
  refine wpC_pre (wpAny_specialOf hTy slot_map_next.lookup ?_)
  dsimp only
  refine wpC_holding ?_
  refine wpC_pre (wpAny_of_eq (slot_map_next.bind _) ?_)
  dsimp only
  refine wpC_thru ?_
  refine wpC_call (codeC_of_tree rfl ?_)
  show wpC _ _ (do checkBuiltinCall "map.__next__" ⟨[.ref Mp], []⟩; again (.builtin "map.__next__" ⟨[.ref Mp], []⟩)) _ _ s
  refine wpC_pre (slot_map_next.check _ _ _ _ _ _ _ _ hTy (args_map_next _) ?_)
  refine wpC_pure ⟨plainId_quiet slot_map_next.plain _, codeC_builtin (bears_of (by decide +kernel)) entry_map_next ?_⟩
  rw [Around.under_plainId slot_map_next.plain _]
  show wpC _ _ (field (.ref Mp) 0 >>= _) _ _ _
  refine wpC_pre (wpAny_field (x := .ref IT) (D.get (.tail _ hM)) rfl rfl ?_)
  refine wpC_pre (wpAny_seqItems (D.get (.tail _ hT)) rfl ?_)
  dsimp only
  simp only [List.forIn_toArray, List.forIn_cons, List.forIn_nil]
  refine wpC_pre (wpAny_bind (wpAny_bind (wpAny_holding (wpAny_nextOf_list_item hit hl hx fun h' hit' hs => ?_))))
  obtain ⟨oI', ho', hI'⟩ := hit'
  have D' : St C loc ((I, oI') :: rest) { s with heap := h' } := D.change rfl (fun b o n e => hs.extBut b o n e) ho' ⟨rfl, rfl, rfl⟩
  refine wpAny_pure (wpAny_pure ?_)
  refine wpC_pre (wpAny_field (x := .type "int") (D'.get (.tail _ hM)) rfl rfl ?_)
  refine wpC_thru (wpC_holding (r_refuse10 (u := u) hh fun h'' k e args m => ?_))
  have hm := m.there
  obtain ⟨te, he, _⟩ := hm
  refine wpC_pre (wpAny_isInstance (T := "ValueError") (b := false) ⟨_, he, rfl⟩ sub_val_stop ?_)
  refine wpC_ifn (by decide) ?_
  exact wpC_of (wpAny_throw (h oI' _ _ _ _ _ D' m))
theorem collect_map_x {oI : Obj} {u : Tok} {Q : List Value → Shared → Prop} (hh : A.handled = none) (stay : ∀ news' s, news.Sublist news' → St C loc news' s → s.heap.IsList l its) (hx : its[0]? = some (.str (T [120]) u))
    (D : St C loc ((I, oI) :: (Mp, mapObj IT) :: (IT, tupOf #[.ref I]) :: news) s) (hI : LI oI l 0) (h : ∀ s₁ h' k e args, St C loc news s₁ → Heap.MadeExc s₁.heap h' e "ValueError" args → E (.ref e) { s₁ with heap := h', toks := k }) : wpC (model prog w) A (collect (.ref Mp)) Q E s := by
  unfold collect
  refine wpC_thru (wpC_runValue (codeC_builtin (bears_of (by decide +kernel)) F.entry_proto_collect ?_))
  rw [Around.under_plainId F.plain_proto_collect _]
  show wpC _ A.in1 (newList [] >>= fun l => again (.builtin "list.__iadd__" ⟨[l, .ref Mp], []⟩)) _ _ s
  have hne : s.heap.objs.size ≠ Mp := fun e => Nat.lt_irrefl _ (Nat.lt_of_lt_of_eq (D.lt (p := (Mp, mapObj IT)) (.tail _ (.head _))) e)
  refine wpC_pre (wpAny_newObj_type ?_)
  refine wpC_pure ⟨plainId_quiet F.plain_list_iadd _, codeC_builtin (bears_of (by decide +kernel)) F.entry_list_iadd ?_⟩
  rw [Around.under_plainId F.plain_list_iadd _]
  have D₁ : St C loc ((s.heap.objs.size, listOf #[] 0) :: (I, oI) :: (Mp, mapObj IT) :: (IT, tupOf #[.ref I]) :: news) { s with heap := s.heap.push { cls := .type "list", data := .seq ([] : List Value).toArray } } := D.push _
  generalize s.heap.objs.size = S at D₁ hne ⊢
  generalize ({ s with heap := s.heap.push { cls := .type "list", data := .seq ([] : List Value).toArray } } : Shared) = s₁ at D₁ ⊢
  have hT : ∀ {s : Shared} {news' : List (Addr × Obj)}, (Mp, mapObj IT) ∈ news' → St C loc news' s → s.TypeIs (.ref Mp) "map" := fun h D => ⟨_, D.get h, rfl⟩
  have hm : (Mp, mapObj IT) ∈ (S, listOf #[] 0) :: (I, oI) :: (Mp, mapObj IT) :: (IT, tupOf #[.ref I]) :: news := .tail _ (.tail _ (.head _))
  show wpC _ A.in1 (Builtin.List.listExtendWith (.ref S) (.ref Mp) (.ref S)) _ _ _
  unfold Builtin.List.listExtendWith
  refine wpC_pre (wpAny_typeOf (hT hm D₁) ?_)
  have h1 : Builtin.List.listSameRef (.ref S) (.ref Mp) = false := by simp [Builtin.List.listSameRef, hne]
  have h2 : (Value.type "map" == Value.type "list") = false := by decide
  have h3 : (Value.type "map" == Value.type "tuple") = false := by decide
  simp only [h1, h2, h3, Bool.or_false, Bool.false_eq_true, if_false]
  refine wpC_pre (wpAny_pyIter_slot (hT hm D₁) slot_map_iter (wpAny_call_entry slot_map_iter (hT hm D₁) entry_map_iter (show wpAny _ _ (ret (.ref Mp)) _ _ _ from wpAny_pure ⟨_, rfl, "map", _, hT hm D₁, slot_map_next.lookup, ?_⟩) (args_map_iter _)))
  refine wpC_pre (wpAny_holding ?_)
  unfold Builtin.List.listLengthHint
  refine wpAny_bind (wpAny_specialOf (hT hm D₁) map_no_len ?_)
  show wpAny _ A.in1 (specialOf (Value.ref Mp) (Str.ofString "__length_hint__") >>= _) _ _ _
  refine wpAny_bind (wpAny_specialOf (hT hm D₁) map_no_hint ?_)
  refine wpAny_pure ?_
  show wpC _ A.in1 (rule "list.extend.makes-room" >>= fun _ => Builtin.List.listTouch (.ref S) >>= fun _ =>
    again (.builtin "list.extend.loop" ⟨[.ref S, .ref Mp, .ref S], []⟩)) _ _ _
  refine wpC_pre (wpAny_rule ?_)
  refine wpC_pre ?_
  show wpAny _ A.in1 (updateSeq S (·.push .none) >>= fun _ => updateSeq S (·.pop)) _ _ _
  refine wpAny_bind (updHead D₁ (by simp) (by simp) fun s₄ c₄ D₄ => ?_)
  refine updHead D₄ (by rw [sizeLine_eq]; decide) (by simp) fun s₅ c₅ D₅ => ?_
  refine wpC_pure ⟨plainId_quiet F.plain_extend_loop _, codeC_builtin (bears_of (by decide +kernel)) F.entry_extend_loop ?_⟩
  rw [Around.under_plainId F.plain_extend_loop _]
  show wpC _ A.in1 (pyNext (.ref Mp) >>= _) _ _ _
  refine wpC_thru (pynext_map_x (its := its) hh (D₅.perm (List.Perm.swap _ _ _)) hI (.tail _ (.head _)) (.tail _ (.tail _ (.head _))) (stay _ _ (((List.sublist_cons_self _ _).trans (List.sublist_cons_self _ _)).trans ((List.sublist_cons_self _ _).trans (List.sublist_cons_self _ _))) D₅) hx fun oI' s₁ h' k e args D' m => ?_)
  exact h s₁ h' k e args (D'.drop ((((List.Sublist.refl news).cons _).cons _).cons _ |>.cons _)) m
theorem tuple_map_x {oI : Obj} {u : Tok} {Q : Value → Shared → Prop} (hh : A.handled = none) (stay : ∀ news' s, news.Sublist news' → St C loc news' s → s.heap.IsList l its) (hx : its[0]? = some (.str (T [120]) u))
    (D : St C loc ((I, oI) :: (Mp, mapObj IT) :: (IT, tupOf #[.ref I]) :: news) s) (hI : LI oI l 0) (h : ∀ s₁ h' k e args, St C loc news s₁ → Heap.MadeExc s₁.heap h' e "ValueError" args → E (.ref e) { s₁ with heap := h', toks := k }) : wpC (model prog w) A (call (.type "tuple") [.ref Mp]) Q E s := by
  refine refuse_call F.called_tuple (F.typeCall_tuple_1 _) (codeC_call_builtin (bears_of (by decide +kernel)) F.plain_tuple_new F.entry_tuple_new (F.newCall_tuple_1 _) ?_)
  refine tupnew_thru ⟨_, D.get (.tail _ (.head _)), rfl⟩ ?_
  exact collect_map_x (A := A.in1.in1) hh stay hx D hI h
end

/-- a text of pieces, the first of them x -/
def DotX (l : List Nat) : Prop := ∃ l' pr, Txt.rstripChars (T l) (T [46]) = T l' ∧ Txt.split (T l') (T [46]) = ([120] :: pr).map T ∧ l.length ≤ 10000 ∧ l'.length ≤ 10000
section
variable {prog : Program} {w : World} {A : Around} {s₀ : Shared} {mg mb : Str → Option Value} {x : Addr} {l : List Nat} {t : Tok} {R : Result → Shared → Prop} {fs : List Addr}
theorem init4_x (hp : DotX l) (W : WF w mg mb s₀.heap) (K : Frames A fs s₀.heap) (hA : A.depth < 390)
    (k : ∀ e t args s', Threw fs s₀ e (.type "ValueError") t args s' → R (.error (.ref e)) s') : codeC (model prog w) A (.call (.ref 330) ⟨[.ref x, .str (T l) t], []⟩) R s₀ := by
  have hh : A.handled = none := K.calm
  obtain ⟨l', pr, hp1, hp2, hp3, hp4⟩ := hp
  refine enterCX [] fs [] s₀ [("self", .ref x), ("data", .str (T l) t)] W (by omega) (K.lowS (S := []) fun _ z => nomatch z) (fun _ _ e => e) (Nat.le_refl _) ⟨rfl, rfl, rfl⟩ (fun _ z => nomatch z) (by simp) (by k_is) (by k_is) (BindsTo.of_eq (by rfl)) (by kernel_rfl) ?_
  intro L s hL D
  have dis : ∀ b ∈ (⟨[], fs, s₀, L⟩ : Cx).fs, b ∉ (⟨[], fs, s₀, L⟩ : Cx).S := fun _ _ z => nomatch z
  refine wpC_execs_cons (wpC_If ?_)
  fail "qgo"
  refine isi_str2 D (by fail "qin") ?_
  clear D s
  intro s D
  fail "qgo"
  refine wpC_execs_cons ?_
  refine wpC_Assign_Attribute ?_ (hs := by rfl)
  refine wpC_Call ?_ (he := by rfl)
  fail "qgo"
  refine call_thru (by rfl) ?_
  refine args_next ?_
  rw [if_neg Bool.false_ne_true]
  fail "qgo"
  refine args_thru (b := false) ?_
  refine wpC_Call ?_ (he := by rfl)
  fail "qgo"
  refine ctC1 ?_ (by rfl)
  fail "qgo"
  refine r_rstrip D (by rw [T_len]; omega) ?_
  rw [hp1]
  clear D s
  intro s t2 D
  fail "qgo"
  refine r_split D (by decide) hp2 (by rw [T_len, sizeLine_eq]; omega) ?_
  clear D
  intro sp us s hus D
  fail "qgo"
  refine call_map D (D.listN (k := 0) (by fail "qin")) ?_
  clear D
  intro Mp IT I oI s hI D
  fail "qgo"
  obtain ⟨u0, ur, hu0⟩ : ∃ u0 ur, us = .str (T [120]) u0 :: ur := by
    cases hus with | cons h r =>
      obtain ⟨t0, rfl⟩ := h
      exact ⟨t0, _, rfl⟩
  subst hu0
  refine tuple_map_x hh (fun _ _ hs D => D.listN (k := 0) (hs.subset (by fail "qin"))) (u := u0) (by simp) D hI ?_
  clear D
  intro s₁ h' k' e args D m
  exact leave_made (s' := { s₁ with heap := h', toks := k' }) D W K rfl rfl ⟨m.keeps, m.new, m.there⟩ ⟨rfl, rfl, rfl⟩ fun te s'' f => k _ _ _ _ f
end

section
variable {M : Model} {A : Around} {s : Shared}
theorem codeC_loopE {c : Code} {R : Result → Shared → Prop} (hb : bears c = false) (hq : c.quiet = true) (I : Nat → Shared → Prop)
    (turn : ∀ n s, I n s → wpC M (A.under c) (M.den c)
      (fun fin s' => match fin with
        | .done f => R (.ok f) s'
        | .again c' => (c' = c ∧ ∃ m, m < n ∧ I m s') ∨ (c'.quiet = true ∧ codeC M A c' R s')) (fun e s' => R (.error e) s') s)
    (n : Nat) (h : I n s) : codeC M A c R s := by
  induction n using Nat.strongRecOn generalizing s with
  | ind n ih =>
    refine codeC_of_tree hb (wpC_mono (turn n s h) (fun fin s' hf => ?_) fun _ _ h' => h')
    cases fin with
    | done f => exact hf
    | again c' =>
      rcases hf with ⟨rfl, m, hm, hI⟩ | hf
      · exact ⟨hq, ih m hm hI⟩
      · exact hf
end
section
variable {prog : Program} {w : World} {A : Around} {E : Value → Shared → Prop} {C : Cx} {s : Shared} {loc : List (Str × Value)} {news : List (Addr × Obj)} {env : Env}
theorem codeC_of_any {c : Code} {R : Result → Shared → Prop} {M : Model} (h : codeAny M A c R s) : codeC M A c R s := fun Γ p hc hΓ _ => h Γ p hc hΓ
theorem codeC_forLoop {R : Result → Shared → Prop} {target it body} (I : Nat → Shared → Prop)
    (turn : ∀ n s, I n s → wpAny (model prog w) A (pyNext it) (fun r s₁ => match r with
      | none => R (.ok .next) s₁
      | some v => wpAny (model prog w) A (assign target env v) (fun _ s₂ => wpC (model prog w) A (execs body env) (fun f s₃ => match f with
          | .next | .cont => ∃ m, m < n ∧ I m s₃
          | _ => False) (fun _ _ => False) s₂) (fun _ _ => False) s₁) (fun _ _ => False) s)
    (n : Nat) (h : I n s) (ht : ∀ v, letOwnedTupleGo target it v = pure () := by intro _; rfl) : codeC (model prog w) A (.forLoop target it body [] env) R s := by
  refine codeC_loopE rfl rfl I (fun n s hI => ?_) n h
  show wpC _ _ ((forTurn target it body [] env).onRaise (fun x => do noteFrame x env; theTreesLotGoes x)) _ _ s
  refine wpC_noted ?_
  simp only [forTurn]
  refine wpC_pre (wpAny_standAt (wpC_pre (wpAny_onRaise (wpAny_mono (turn n s hI) (fun r s₁ h₁ => ?_) fun _ _ h' => h'.elim))))
  cases r with
  | none =>
    refine wpC_pure (.inr ⟨rfl, codeC_of_any (codeAny_block (wpAny_execs_nil h₁))⟩)
  | some v =>
    refine wpC_pre (wpAny_of_eq (ht v) ?_)
    refine wpC_pre (wpAny_mono h₁ (fun _ s₂ h₂ => wpC_bind (wpC_mono h₂ (fun f s₃ h₃ => ?_) fun _ _ h' => h'.elim)) fun _ _ h' => h'.elim)
    cases f with
    | next => exact wpC_pure (.inl ⟨rfl, h₃⟩)
    | cont => exact wpC_pure (.inl ⟨rfl, h₃⟩)
    | brk => exact h₃.elim
    | ret v => exact h₃.elim
/-- a for over a list whose body runs under the caller -/
theorem for_listC {target iter : Expr} {body : List Stmt} {pos : Pos} {Q : Flow → Shared → Prop} (_D : St C loc news s) (hh : A.handled = none) (its : Array Value) (ax : Addr) (J : Nat → List (Str × Value) → List (Addr × Obj) → Prop)
    (first : wpAny (model prog w) A (eval iter env) (fun v s₁ => v = .ref ax ∧ s₁.heap.IsList ax its ∧ ∃ loc news, J 0 loc news ∧ St C loc news s₁) E s)
    (src : ∀ i loc news s, J i loc news → St C loc news s → s.heap.IsList ax its)
    (turn : ∀ i v loc news s I oI, its[i]? = some v → J i loc news → St C loc ((I, oI) :: news) s → wpAny (model prog w) A (assign target env v) (fun _ s₂ => wpC (model prog w) A (execs body env) (fun f s₃ => match f with
          | .next | .cont => ∃ loc news, J (i + 1) loc news ∧ St C loc ((I, oI) :: news) s₃
          | _ => False) (fun _ _ => False) s₂) (fun _ _ => False) s)
    (fin : ∀ loc news s, J its.size loc news → St C loc news s → Q .next s)
    (hs : ∀ x, foldedSetIterable iter env x = pure x := by intro _; rfl) (ht : ∀ it v, letOwnedTupleGo target it v = pure () := by intro _ _; rfl) :
    wpC (model prog w) A (exec (.For target iter body [] pos) env) Q E s := by
  rw [exec_For]
  refine wpC_pre (wpAny_standAt (wpC_pre (wpAny_mono first (fun v s₁ h₁ => ?_) fun _ _ x => x)))
  obtain ⟨rfl, hl, loc, news, hJ, D⟩ := h₁
  refine wpC_pre (wpAny_of_eq (hs _) (wpC_pre (wpAny_standAt (wpC_pre (wpAny_holding ?_)))))
  refine it_list D hl fun I oI s₂ D₂ hI hl₂ => ?_
  unfold runOwn
  refine wpC_onRaise (wpC_run ?_)
  refine codeC_forLoop (A := A.mark none) (fun k s' => ∃ i loc news oI, i ≤ its.size ∧ k = its.size + 1 - i ∧ LI oI ax i ∧ J i loc news ∧ St C loc ((I, oI) :: news) s') ?_ (its.size + 1) ⟨0, loc, news, oI, Nat.zero_le _, rfl, hI, hJ, D₂⟩ (ht _)
  rintro k s₃ ⟨i, loc, news, oI, hi, rfl, hI, hJ, D₃⟩
  refine next_list hh D₃ hI (src i loc _ _ hJ (D₃.forget (List.sublist_cons_self _ _))) (fun v oI' s₄ hx hI' D₄ => ?_) fun s₄ hx D₄ => ?_
  · have hlt := (Array.getElem?_eq_some_iff.mp hx).1
    refine wpAny_mono (turn i v loc news s₄ I oI' hx hJ D₄) (fun _ s₅ h₅ => wpC_mono h₅ (fun f s₆ h₆ => ?_) fun _ _ x => x.elim) fun _ _ x => x.elim
    cases f with
    | next => obtain ⟨loc', news', hJ', D'⟩ := h₆; exact ⟨_, by omega, i + 1, loc', news', oI', hlt, rfl, hI', hJ', D'⟩
    | cont => obtain ⟨loc', news', hJ', D'⟩ := h₆; exact ⟨_, by omega, i + 1, loc', news', oI', hlt, rfl, hI', hJ', D'⟩
    | brk => exact h₆.elim
    | ret v => exact h₆.elim
  · obtain rfl : i = its.size := Nat.le_antisymm hi hx
    exact fin loc news s₄ hJ D₄
end
section
open Builtin Builtin.Str
variable {prog : Program} {w : World} {A : Around} {E : Value → Shared → Prop} {C : Cx} {s : Shared} {loc : List (Str × Value)} {news : List (Addr × Obj)} {Q : Value → Shared → Prop}
theorem r_index {x y : Str} {t u : Tok} {i : Nat} {rest : List Nat} (D : St C loc news s) (hi : occurrences x y 0 x.length 1 = i :: rest) (h : ∀ s' t, St C loc news s' → Q (.int (i : Nat) t) s') : wpAny (model prog w) A (call (.builtin "str.index") [.str x t, .str y u]) Q E s :=
  call_gives F.slot_str_index (typeIs_str s x t) F.entry_str_index (F.args_str_index_2 _ _) (gives_str_index x y t u i rest hi) (h _ _ D.toks)
theorem r_rindex {x y : Str} {t u : Tok} {i : Nat} (D : St C loc news s) (hi : lastOccurrence x y 0 x.length = some i) (h : ∀ s' t, St C loc news s' → Q (.int (i : Nat) t) s') : wpAny (model prog w) A (call (.builtin "str.rindex") [.str x t, .str y u]) Q E s :=
  call_gives F.slot_str_rindex (typeIs_str s x t) F.entry_str_rindex (F.args_str_rindex_2 _ _) (gives_str_rindex x y t u i hi) (h _ _ D.toks)
theorem r_strOf {n : Nat} {t : Tok} (D : St C loc news s) (hn : n < 10000000000) (h : ∀ s' t, St C loc news s' → Q (.str (T (decL n)) t) s') : wpAny (model prog w) A (call (.type "str") [.int n t]) Q E s := by
  refine P.str_of_int (shown (N := 2 ^ 1920) (by omega) (Int.lt_of_lt_of_le (b := 10000000000) (by omega) (by decide +kernel)) (Int.le_refl _)) ?_
  have := h _ s.toks (D.toks (t := s.toks + 1))
  rwa [T_dec] at this
theorem r_upper {x : Str} {t : Tok} (D : St C loc news s) (hz : (placed x fun _ c => Unicode.upperOf c).size ≤ 16777216) (h : ∀ s' t, St C loc news s' → Q (.str ⟨placed x fun _ c => Unicode.upperOf c⟩ t) s') : wpAny (model prog w) A (call (.builtin "str.upper") [.str x t]) Q E s := by
  refine call_gives F.slot_str_upper (typeIs_str s x t) F.entry_str_upper (F.args_str_upper_1 _) (gives_str_upper x t ?_) ?_
  · unfold tooLong
    rw [sizeLine_eq]
    exact decide_eq_false (Nat.not_lt.mpr hz)
  · exact ⟨by rw [sizeLine_eq]; exact hz, h _ _ D.toks⟩
end

section
variable {C : Cx} {s : Shared} {loc : List (Str × Value)} {news : List (Addr × Obj)} {prog : Program} {w : World} {A : Around} {E : Value → Shared → Prop} {env : Env}
/-- what a list comprehension wants once its source stands: p the test, F what the element's text makes -/
def CompGU (prog : Program) (w : World) (A : Around) (C : Cx) (env : Env) (elt : Expr) (x : Str) (ifs : List Expr) (scope : Scope) (cl : List (Str × Addr)) (E : Value → Shared → Prop) (t : Str) (Q : Flow → Shared → Prop) (xv : Value) (s₁ : Shared) : Prop :=
  ∃ (src : Src) (loc : List (Str × Value)) (news : List (Addr × Obj)) (p : Value → Bool) (F : Value → Value → Prop), xv = src.val ∧ src.At s₁.heap ∧ St C loc news s₁ ∧
    (∀ news' s, news.Sublist news' → St C loc news' s → src.At s.heap) ∧ src.its.size ≤ 16777216 ∧
    (∀ v c oc m D oD I oI s E', v ∈ src.its → NsObj oc m → m x = some v → St C loc ((c, oc) :: (D, oD) :: (I, oI) :: news) s →
      wpAny (model prog w) A (forIn ifs true fun c' r => if r = true then do let ok ← isTrue c' (compEnvC scope cl c env) (eval c' (compEnvC scope cl c env)); pure (ForInStep.yield ok) else pure (ForInStep.yield r)) (fun ok s₃ => ok = p v ∧ St C loc ((c, oc) :: (D, oD) :: (I, oI) :: news) s₃) E' s) ∧
    (∀ v c oc m D oD I oI s E', v ∈ src.its → p v = true → NsObj oc m → m x = some v → St C loc ((c, oc) :: (D, oD) :: (I, oI) :: news) s →
      wpAny (model prog w) A (eval elt (compEnvC scope cl c env)) (fun y s₃ => F v y ∧ St C loc ((c, oc) :: (D, oD) :: (I, oI) :: news) s₃) E' s) ∧
    (∀ D ys s c oc, Paired F (src.its.toList.filter p) ys → St C loc ((c, oc) :: (D, listOf ys.toArray ys.length) :: news) s → wpAny (model prog w) A (storeName env t (.ref D)) (fun _ s₁ => ∃ loc', St C loc' ((c, oc) :: (D, listOf ys.toArray ys.length) :: news) s₁ ∧ ∀ s₂, St C loc' ((D, listOf ys.toArray ys.length) :: news) s₂ → Q .next s₂) E s)
/-- a list comprehension over one name -/
theorem comp_genU {elt iter : Expr} {x : Str} {px : Pos} {ifs : List Expr} {scope : Scope} {cl : List (Str × Addr)} {pos tp apos : Pos} {t : Str} {Q : Flow → Shared → Prop} (_D : St C loc news s) (hh : A.handled = none)
    (hclos : closureFor scope env = pure cl) (hok : okComp scope x = true)
    (first : wpAny (model prog w) A (eval iter env) (CompGU prog w A C env elt x ifs scope cl E t Q) E s)
    (hsw : swapsWith (.ListComp elt [⟨.Name x px, iter, ifs, 0⟩] scope pos) (some (.Name t tp)) apos.line env = pure true)
    (hs : ∀ x, foldedSetIterable iter env x = pure x := by intro _; rfl) :
    wpAny (model prog w) A (exec (.Assign [.Name t tp] (.ListComp elt [⟨.Name x px, iter, ifs, 0⟩] scope pos) apos) env) Q E s := by
  obtain ⟨hcell, hkind, hnames, hx⟩ := okComp_parts hok
  rw [exec_Assign_Name_used t tp _ apos hsw]
  refine wpAny_bind (wpAny_standAt (wpAny_bind ?_))
  rw [arm_evalThenUse_ListComp]
  refine wpAny_bind (wpAny_mono (wpAny_comprehension_free (use := some (assign (.Name t tp) env)) (Q := fun _ s' => Q .next s') rfl hs hclos hkind hnames (wpAny_mono first (fun v s₁ h₁ => ?_) fun _ _ e => e)) (fun _ s' h => wpAny_pure (wpAny_pure h)) fun _ _ e => e)
  obtain ⟨src, loc, news, p, F, rfl, hl, D₁, stay, hsz, tests, helt, k⟩ := h₁
  refine it_src D₁ hl fun I oI s₂ D₂ hI hl₂ => ?_
  refine wpAny_newObj_type (wpAny_newFunctionEnv hcell (by intro y hy; simp at hy) (fun h₁ hns₁ hsb₁ => ?_) hkind)
  dsimp only at hns₁ hsb₁ ⊢
  have D₃ := D₂.push (listOf #[] 0)
  generalize hH2 : s₂.heap.push { cls := .type "list", dict := none, data := .seq ([] : List Value).toArray } = H2 at hns₁ hsb₁ ⊢
  have hH : s₂.heap.push (listOf #[] 0) = H2 := hH2
  rw [hH] at D₃
  have hC : H2.objs.size = s₂.heap.objs.size + 1 := by rw [← hH2, Heap.size_push]
  have keep₁ : ∀ b o, H2.get? b = some o → h₁.get? b = some o := fun b o e => hsb₁.extBut b o (Nat.ne_of_lt (Heap.lt_size e)) (Heap.get?_push_of_some _ e)
  obtain ⟨oc, hoc, hNs⟩ := ns_obj hns₁
  have D₄ := D₃.pushed (s' := { s₂ with heap := h₁, toks := s₂.toks + ([] : List (Str × Value)).length }) (a := H2.objs.size) (Heap.get?_none_of_le (Nat.le_refl _)) keep₁ hoc ⟨rfl, rfl, rfl⟩
  have loop : ∀ s₃, s₃ = ({ s₂ with heap := h₁, toks := s₂.toks + ([] : List (Str × Value)).length } : Shared) → codeAny (model prog w) A (.compLoop (.ListComp elt [⟨.Name x px, iter, ifs, 0⟩] scope pos) 0 (.ref I) (.ref s₂.heap.objs.size) (compEnvC scope cl H2.objs.size env)) (compPost (model prog w) A E (some (assign (.Name t tp) env)) (fun _ s' => Q .next s') (.ref s₂.heap.objs.size) H2.objs.size) s₃ := by
    rintro s₃ rfl
    refine codeAny_compLoop_tests (fun j s' => ∃ i oI oc m ys, i ≤ src.its.size ∧ j = src.its.size + 1 - i ∧ src.It oI i ∧ NsObj oc m ∧ Paired F ((src.its.toList.take i).filter p) ys ∧ ys.length ≤ i ∧ St C loc ((H2.objs.size, oc) :: (s₂.heap.objs.size, listOf ys.toArray ys.length) :: (I, oI) :: news) s') ?_ (src.its.size + 1)
      ⟨0, oI, oc, _, [], Nat.zero_le _, rfl, hI, hNs, by simpa using Paired.nil, Nat.le_refl _, D₄⟩
    rintro j s' ⟨i, oI, oc, m, ys, hi, rfl, hI, hNs, hF, hyl, D'⟩
    have P1 : ((H2.objs.size, oc) :: (s₂.heap.objs.size, listOf ys.toArray ys.length) :: (I, oI) :: news).Perm ((I, oI) :: (H2.objs.size, oc) :: (s₂.heap.objs.size, listOf ys.toArray ys.length) :: news) :=
      ((List.Perm.swap _ _ _).cons _).trans (List.Perm.swap _ _ _)
    have hl' := stay _ _ ((List.sublist_cons_self _ _).trans ((List.sublist_cons_self _ _).trans (List.sublist_cons_self _ _))) D'
    refine next_src hh (D'.perm P1) hI hl' (fun v oI' s₄ hv hI' D₄ => ?_) fun s₄ hv D₄ => ?_
    · have hlt := (Array.getElem?_eq_some_iff.mp hv).1
      have hmem : v ∈ src.its := by obtain ⟨h1, rfl⟩ := Array.getElem?_eq_some_iff.mp hv; exact Array.getElem_mem h1
      have hvl : src.its.toList[i]? = some v := by simpa using hv
      have D₅ : St C loc ((H2.objs.size, oc) :: (s₂.heap.objs.size, listOf ys.toArray ys.length) :: (I, oI') :: news) s₄ := D₄.perm ((List.Perm.swap _ _ _).trans ((List.Perm.swap _ _ _).cons _))
      refine wpAny_assign_Name (wpAny_storeName_local (lookup_relabel_local hx) (hNs.ns (D₅.get (.head _))) (fun h₂ hn₂ hs₂ => ?_) (by simp [compEnvC, relabel, hkind]))
      obtain ⟨oc', hoc', hNs'⟩ := ns_obj hn₂
      have D₆ := D₅.change (s' := { s₄ with heap := h₂, toks := s₄.toks + 1 }) rfl (fun b o n e => hs₂.extBut b o n e) hoc' ⟨rfl, rfl, rfl⟩
      have htake : src.its.toList.take (i + 1) = src.its.toList.take i ++ [v] := by rw [List.take_add_one, hvl]; rfl
      refine wpAny_mono (tests v _ _ _ _ _ _ _ _ _ hmem hNs' (by simp) D₆) (fun ok s₇ h₇ => ?_) fun _ _ e => e
      obtain ⟨rfl, D₇⟩ := h₇
      cases hpv : p v with
      | false =>
        simp only [Bool.false_eq_true, if_false]
        refine ⟨src.its.size + 1 - (i + 1), by omega, i + 1, oI', oc', _, ys, hlt, rfl, hI', hNs', ?_, by omega, D₇⟩
        rw [htake, List.filter_append]; simpa [hpv] using hF
      | true =>
        simp only [if_true]
        refine wpAny_mono (helt v _ _ _ _ _ _ _ _ _ hmem hpv hNs' (by simp) D₇) (fun y s₈ h₈ => ?_) fun _ _ e => e
        obtain ⟨hFy, D₈⟩ := h₈
        have D₉ := D₈.perm (List.Perm.swap _ _ _)
        refine append_at (hsz := by show ys.toArray.size ≤ sizeLine; rw [List.size_toArray, sizeLine_eq]; omega) (D₉.get (.head _)) fun h₅ hs₅ hD₅ => ?_
        have D₁₀ := (D₉.change (s' := { s₈ with heap := h₅ }) rfl (fun b o n e => hs₅.extBut b o n e) hD₅ ⟨rfl, rfl, rfl⟩).perm (List.Perm.swap _ _ _)
        refine ⟨src.its.size + 1 - (i + 1), by omega, i + 1, oI', oc', _, ys ++ [y], hlt, rfl, hI', hNs', ?_, by rw [List.length_append, List.length_singleton]; omega, ?_⟩
        · rw [htake, List.filter_append]; simpa [hpv] using Paired.snoc hF hFy
        · have e : listOf (ys ++ [y]).toArray (ys ++ [y]).length = ({ cls := .type "list", data := .seq (ys.toArray.push y) (ys.length + 1) } : Obj) := by
            rw [List.length_append, List.length_singleton, List.push_toArray]
          rw [e]; exact D₁₀
    · obtain rfl : i = src.its.size := Nat.le_antisymm hi hv
      have e : src.its.toList.take src.its.size = src.its.toList := List.take_of_length_le (by simp)
      rw [e] at hF
      show wpAny _ A (assign (.Name t tp) env _) _ _ _
      refine PyProof.Rows.assign_Name ?_
      refine wpAny_mono (k _ ys _ _ _ hF D₄) (fun _ s₅ h₅ => ?_) fun _ _ e => e
      obtain ⟨loc', D₅, kk⟩ := h₅
      refine ⟨m, hNs.ns (D₅.get (.head _)), fun h'' hs'' => kk _ ?_⟩
      exact D₅.ext (s' := { s₅ with heap := h'' }) rfl (fun b o n e => hs''.extBut b o n e) ⟨rfl, rfl, rfl⟩
  have D₅ := D₄.perm (((List.Perm.swap _ _ _).cons _).trans (List.Perm.swap _ _ _))
  exact codeAny_compStart_list (loop _ rfl) (iter_src D₅ hI (loop _ rfl))
/-- without a test, into a new name -/
theorem compGU_new {elt : Expr} {x t : Str} {scope : Scope} {cl : List (Str × Addr)} {Q : Flow → Shared → Prop} (F : Value → Value → Prop) (src : Src) {xv : Value} (D : St C loc news s) (hx : xv = src.val) (hl : src.At s.heap)
    (stay : ∀ news' s, news.Sublist news' → St C loc news' s → src.At s.heap) (hsz : src.its.size ≤ 16777216) (hL : EnvAt env C.L) (hc : okLocal env.scope t = true) (hp : (loc.map (·.1)).contains t = false)
    (helt : ∀ v c oc m D oD I oI s E', v ∈ src.its → NsObj oc m → m x = some v → St C loc ((c, oc) :: (D, oD) :: (I, oI) :: news) s →
      wpAny (model prog w) A (eval elt (compEnvC scope cl c env)) (fun y s₃ => F v y ∧ St C loc ((c, oc) :: (D, oD) :: (I, oI) :: news) s₃) E' s)
    (k : ∀ D ys s, Paired F src.its.toList ys → St C ((t, .ref D) :: loc) ((D, listOf ys.toArray ys.length) :: news) s → Q .next s) : CompGU prog w A C env elt x [] scope cl E t Q xv s :=
  ⟨src, loc, news, fun _ => true, F, hx, hl, D, stay, hsz, fun v c oc m D oD I oI s E' _ _ _ D' => wpAny_tests_nil ⟨rfl, D'⟩, fun v c oc m D oD I oI s E' hv _ hN hm D' => helt v c oc m D oD I oI s E' hv hN hm D',
    fun D ys s c oc h D' => r_storeN D' hL hc hp fun s₁ D₁ => ⟨_, D₁, fun s₂ D₂ => k D ys s₂ (by rw [show src.its.toList.filter (fun _ => true) = src.its.toList from List.filter_eq_self.mpr fun _ _ => rfl] at h; exact h) D₂⟩⟩
/-- with one test, into a new name -/
theorem compGU_if {elt test : Expr} {x t : Str} {scope : Scope} {cl : List (Str × Addr)} {Q : Flow → Shared → Prop} (p : Value → Bool) (F : Value → Value → Prop) (src : Src) {xv : Value} (D : St C loc news s) (hx : xv = src.val) (hl : src.At s.heap)
    (stay : ∀ news' s, news.Sublist news' → St C loc news' s → src.At s.heap) (hsz : src.its.size ≤ 16777216) (hL : EnvAt env C.L) (hc : okLocal env.scope t = true) (hp : (loc.map (·.1)).contains t = false)
    (htest : ∀ v c oc m D oD I oI s E', v ∈ src.its → NsObj oc m → m x = some v → St C loc ((c, oc) :: (D, oD) :: (I, oI) :: news) s →
      wpAny (model prog w) A (isTrue test (compEnvC scope cl c env) (eval test (compEnvC scope cl c env))) (fun ok s₃ => ok = p v ∧ St C loc ((c, oc) :: (D, oD) :: (I, oI) :: news) s₃) E' s)
    (helt : ∀ v c oc m D oD I oI s E', v ∈ src.its → p v = true → NsObj oc m → m x = some v → St C loc ((c, oc) :: (D, oD) :: (I, oI) :: news) s →
      wpAny (model prog w) A (eval elt (compEnvC scope cl c env)) (fun y s₃ => F v y ∧ St C loc ((c, oc) :: (D, oD) :: (I, oI) :: news) s₃) E' s)
    (k : ∀ D ys s, Paired F (src.its.toList.filter p) ys → St C ((t, .ref D) :: loc) ((D, listOf ys.toArray ys.length) :: news) s → Q .next s) : CompGU prog w A C env elt x [test] scope cl E t Q xv s :=
  ⟨src, loc, news, p, F, hx, hl, D, stay, hsz, fun v c oc m D oD I oI s E' hv hN hm D' => wpAny_tests_one (htest v c oc m D oD I oI s E' hv hN hm D'), fun v c oc m D oD I oI s E' hv hpv hN hm D' => helt v c oc m D oD I oI s E' hv hpv hN hm D',
    fun D ys s c oc h D' => r_storeN D' hL hc hp fun s₁ D₁ => ⟨_, D₁, fun s₂ D₂ => k D ys s₂ h D₂⟩⟩
end

section
open Builtin Builtin.Int
variable {prog : Program} {w : World} {A : Around} {E : Value → Shared → Prop} {C : Cx} {s : Shared} {loc : List (Str × Value)} {news : List (Addr × Obj)} {Q : Value → Shared → Prop}
theorem r_pow4 {e : Nat} {t u : Tok} (D : St C loc news s) (he : e < 8) (h : ∀ s' t, St C loc news s' → Q (.int ((4 ^ e : Nat) : Nat) t) s') : wpAny (model prog w) A (binaryOp .Pow (.int 4 t) (.int (e : Nat) u)) Q E s := by
  have hx : e = 0 ∨ e = 1 ∨ e = 2 ∨ e = 3 ∨ e = 4 ∨ e = 5 ∨ e = 6 ∨ e = 7 := by omega
  rcases hx with rfl | rfl | rfl | rfl | rfl | rfl | rfl | rfl
  · exact AutoIntOps.pow_0 (by decide) (by decide) (h _ _ D.toks)
  all_goals exact AutoIntOps.pow_4 (by decide) (by decide) (by decide) (by decide) (by decide +kernel) (h _ _ D.toks)
end
section
open Builtin Builtin.Int
variable {prog : Program} {w : World} {A : Around} {E : Value → Shared → Prop} {C : Cx} {s : Shared} {loc : List (Str × Value)} {news : List (Addr × Obj)} {Q : Value → Shared → Prop}
theorem bits_le (m n : Nat) (h : n < 2 ^ m) : Builtin.Int.intBits (n : Int) ≤ m + 1 := by
  unfold Builtin.Int.intBits
  split
  · omega
  · rename_i hz
    have h0 : n ≠ 0 := by intro e; subst e; exact hz rfl
    rw [Int.natAbs_natCast]
    have := (Nat.log2_lt h0).mpr h
    omega
theorem r_mul {x y : Nat} {t u : Tok} (D : St C loc news s) (hx : x < 65536) (h : ∀ s' t, St C loc news s' → Q (.int ((x * y : Nat) : Nat) t) s') : wpAny (model prog w) A (binaryOp .Mult (.int x t) (.int y u)) Q E s := by
  refine PyProof.Rows.mul_int ?_ (.of_left ?_)
  · rw [← Int.natCast_mul]
    exact h _ _ D.toks
  · exact Nat.le_trans (bits_le 16 x hx) (by decide)
theorem nats4 {vs : List Value} {ns : List Nat} (h : Nats vs ns) (hl : ns.length = 4) : ∃ a b c d ta tb tc td, ns = [a, b, c, d] ∧ vs = [.int (a : Nat) ta, .int (b : Nat) tb, .int (c : Nat) tc, .int (d : Nat) td] := by
  match ns, hl with
  | [a, b, c, d], _ =>
    cases h with | cons h1 h => cases h with | cons h2 h => cases h with | cons h3 h => cases h with | cons h4 h =>
    cases h
    obtain ⟨ta, rfl⟩ := h1
    obtain ⟨tb, rfl⟩ := h2
    obtain ⟨tc, rfl⟩ := h3
    obtain ⟨td, rfl⟩ := h4
    exact ⟨a, b, c, d, ta, tb, tc, td, rfl, rfl⟩
def grpAt (a b c j : Nat) : Nat := if a / 4 ^ j % 4 = 1 then b * (j + 1) % 65536 else if a / 4 ^ j % 4 = 3 then c / (j + 1) % 256 else 0
def grpsTo (a b c : Nat) : Nat → List Nat
  | 0 => []
  | j + 1 => grpsTo a b c j ++ [grpAt a b c j]
theorem grpAt_lt (a b c j : Nat) : grpAt a b c j < 65536 := by 
  unfold grpAt
  split
  · omega
  · split <;> omega
theorem grpsTo_len (a b c : Nat) : ∀ j, (grpsTo a b c j).length = j
  | 0 => rfl
  | j + 1 => by simp [grpsTo, grpsTo_len a b c j]
theorem grpsTo_lt (a b c : Nat) : ∀ j, ∀ n ∈ grpsTo a b c j, n < 65536
  | 0, n, h => nomatch h
  | j + 1, n, h => by
    rcases List.mem_append.mp h with h | h
    · exact grpsTo_lt a b c j n h
    · cases List.mem_singleton.mp h; exact grpAt_lt a b c j
end

theorem li_fills : fillsInplaceSlot (.type "list") "add" (Operator.Add == .Add) = pure false := by
  unfold fillsInplaceSlot
  show (typeLookup (.type "list") (dunderI "add") >>= fun fi => pure (fi.isSome && !isSeqSlot fi)) = pure false
  rw [show typeLookup (.type "list") (dunderI "add") = pure (some (.builtin "list.__iadd__")) from by rw [typeLookup_type, builtinLookup_eq_fast]; kernel_rfl]
  kernel_rfl
theorem li_num : fillsNumberSlot (.type "list") "add" = pure false := PySem.fillsNumberSlot_seq (id := "list.__add__") (r := none) (by rw [typeLookup_type, builtinLookup_eq_fast]; kernel_rfl) (by kernel_rfl) (by rw [typeLookup_type, builtinLookup_eq_fast]; kernel_rfl) (by kernel_rfl)
theorem li_seq : seqSlot? (.type "list") (dunderI "add") = pure (some (.builtin "list.__iadd__")) := PySem.seqSlot_of (by rw [typeLookup_type, builtinLookup_eq_fast]; kernel_rfl) (by kernel_rfl)
section
variable {prog : Program} {w : World} {A : Around} {E : Value → Shared → Prop} {C : Cx} {s : Shared} {loc : List (Str × Value)} {news news' : List (Addr × Obj)}
theorem r_iaddlist {l b : Addr} {vs ws : List Value} {k j : Nat} {Q : Value → Shared → Prop} (D : St C loc news s) (U : Alt l (listOf vs.toArray k) (listOf (vs ++ ws).toArray (k + 1)) news news') (hb : (b, listOf ws.toArray j) ∈ news) (hz : vs.length + ws.length ≤ 16777216) (hw : ws ≠ [])
    (h : ∀ s', St C loc news' s' → Q (.ref l) s') : wpAny (model prog w) A (inplaceOp .Add (.ref l) (.ref b)) Q E s := by
  have ho := D.get U.mem
  have ho2 := D.get hb
  have hT : s.TypeIs (.ref l) "list" := ⟨_, ho, rfl⟩
  have hT' : s.TypeIs (.ref b) "list" := ⟨_, ho2, rfl⟩
  unfold inplaceOp
  refine wpAny_holding ?_
  refine wpAny_bind (wpAny_typeOf hT ?_)
  refine wpAny_bind (wpAny_of_eq li_fills ?_)
  refine bm_if_false (by simp) ?_
  refine wpAny_bind ?_
  unfold binaryOp1
  refine wpAny_bind (wpAny_typeOf hT (wpAny_bind (wpAny_typeOf hT' (wpAny_bind (wpAny_of_eq li_num ?_)))))
  refine bm_if_true (by decide +kernel) ?_
  dsimp only
  simp only [pure_bind, Bool.false_and, Bool.false_eq_true, if_false]
  refine wpAny_pure ?_
  refine wpAny_bind (wpAny_of_eq li_seq ?_)
  dsimp only
  refine wpAny_bind (wpAny_rule ?_)
  refine call_meets PySem.F.slot_list_iadd hT PySem.F.entry_list_iadd (PySem.F.args_list_iadd_2 _ _) (PySem.AutoSeq1.list___iadd___list_list_0 l vs.toArray k b ws.toArray j ?_ ?_ ?_) ⟨ho, ho2, ?_⟩
  · simp only [List.size_toArray]
    unfold Builtin.List.listTooLong
    simp
    intros
    rw [sizeLine_eq]
    omega
  · rw [List.size_toArray, sizeLine_eq]; omega
  · rw [List.size_toArray, List.size_toArray, sizeLine_eq]; omega
  · refine h _ (D.alt U (fun b o n e => (Heap.get?_update_other _ _ (Ne.symm n)).trans e) ?_ ⟨rfl, rfl, rfl⟩)
    refine (Heap.get?_update_self (Obj.mapSeq fun x => x ++ ws.toArray) ho rfl).trans ?_
    simp [Obj.mapSeq, PySem.W.listOf]
    exact hw
end

section
variable {C : Cx} {s s' : Shared} {loc : List (Str × Value)} {news : List (Addr × Obj)}
theorem St.pureNews (D : St C loc news s) (x : Rel [] [] s.heap s'.heap) (hg : Same s s') (fr : List (Addr × Obj)) (hp : ∀ p ∈ fr, s'.heap.get? p.1 = some p.2 ∧ s.heap.get? p.1 = none) (hn : (fr.map (·.1)).Nodup) : St C loc (news ++ fr) s' :=
  (D.after (x.mono (fun _ z => z) (fun _ z => nomatch z)) (fun _ z => nomatch z) hg fr news rfl (fun p h => by
    rcases List.mem_append.mp h with h | h
    · exact (hp p h).1
    · exact x.keep _ _ (fun z => nomatch z) (fun z => nomatch z) (D.get (o := p.2) h)) hn (fun p h => (hp p h).2)).perm List.perm_append_comm
theorem St.isListD (D : St C loc news s) {a : Addr} {o : Obj} {its : Array Value} (hm : (a, o) ∈ news) (hc : o.cls = .type "list") (hd : ∃ n, o.data = .seq its n) : s.heap.IsList a its := by
  obtain ⟨n, hd⟩ := hd
  exact ⟨o, D.get hm, hc, n, hd⟩
end
theorem rows_mem {tups : List (Addr × Obj)} {v : Value} : ∀ {vs : List Value} {rs : List (Nat × Nat)}, Paired (isRow tups) vs rs → v ∈ vs → ∃ r, r ∈ rs ∧ isRow tups v r
  | _, _, .nil, h => nomatch h
  | _, _, .cons (b := r) h t, hv => by
    rcases List.mem_cons.mp hv with rfl | hv
    · exact ⟨r, .head _, h⟩
    · obtain ⟨r', h1, h2⟩ := rows_mem t hv
      exact ⟨r', .tail _ h1, h2⟩
def isLong (r : Nat × Nat) : Bool := decide ((r.2 : Int) - (r.1 : Int) > 1)
theorem rows_filter {tups : List (Addr × Obj)} {p : Value → Bool} (hp : ∀ v r, isRow tups v r → p v = isLong r) : ∀ {vs : List Value} {rs : List (Nat × Nat)}, Paired (isRow tups) vs rs → Paired (isRow tups) (vs.filter p) (rs.filter isLong)
  | _, _, .nil => .nil
  | _, _, .cons h t => by
    have e := hp _ _ h
    simp only [List.filter_cons, e]
    split
    · exact .cons h (rows_filter hp t)
    · exact rows_filter hp t
theorem paired_eq {α : Type} : ∀ {l l' : List α}, Paired (fun a b => b = a) l l' → l' = l
  | _, _, .nil => rfl
  | _, _, .cons h t => by rw [h, paired_eq t]
theorem rowsL_len (ns : List Nat) (i : Nat) : (rowsL ns i).length ≤ 8 - i := by
  rw [rowsL]
  split
  · rename_i h
    have hge : i ≤ runEnd ns i := by first | exact runEnd_ge .. | exact runEnd_le .. | omega
    have ih := rowsL_len ns (runEnd ns i + 1)
    rw [List.length_append]
    split <;> simp <;> omega
  · simp
termination_by 8 - i
decreasing_by omega

section
open Builtin Builtin.Str
def hexU (d : Nat) : Nat := if d < 10 then 48 + d else 55 + d
theorem placed_hex (d : Nat) (h : d < 16) : placed (T [hexD d]) (fun _ c => Unicode.upperOf c) = #[hexU d] := by
  have : d = 0 ∨ d = 1 ∨ d = 2 ∨ d = 3 ∨ d = 4 ∨ d = 5 ∨ d = 6 ∨ d = 7 ∨ d = 8 ∨ d = 9 ∨ d = 10 ∨ d = 11 ∨ d = 12 ∨ d = 13 ∨ d = 14 ∨ d = 15 := by omega
  rcases this with rfl|rfl|rfl|rfl|rfl|rfl|rfl|rfl|rfl|rfl|rfl|rfl|rfl|rfl|rfl|rfl <;> decide +kernel
theorem placed_ap (f : Nat → List Nat) (a b : Str) : placed (a ++ b) (fun _ c => f c) = placed a (fun _ c => f c) ++ placed b (fun _ c => f c) := by
  unfold placed
  rw [PySem.Str.cps_append, Array.mapIdx_append, Array.flatten_append]
theorem up4 {a b c d : Nat} (ha : a < 16) (hb : b < 16) (hc : c < 16) (hd : d < 16) : (⟨placed (T ([hexD a] ++ [hexD b] ++ [hexD c] ++ [hexD d])) (fun _ c => Unicode.upperOf c)⟩ : Str) = T [hexU a, hexU b, hexU c, hexU d] := by
  have e : T ([hexD a] ++ [hexD b] ++ [hexD c] ++ [hexD d]) = T [hexD a] ++ T [hexD b] ++ T [hexD c] ++ T [hexD d] := rfl
  rw [e, placed_ap, placed_ap, placed_ap, placed_hex a ha, placed_hex b hb, placed_hex c hc, placed_hex d hd]
  rfl
def wideL (n : Nat) : List Nat := [hexU (n / 4096), hexU (n / 256 % 16), hexU (n / 16 % 16), hexU (n % 16)]
end
theorem wide_sum : ∀ {ns : List Nat}, sumLen (ns.map wideL) = 4 * ns.length
  | [] => rfl
  | n :: ns => by
    have ih := wide_sum (ns := ns)
    simp [sumLen, wideL] at ih ⊢
    omega
theorem keep_mono {prog : Program} {w : World} {A : Around} {E : Value → Shared → Prop} {C : Cx} {s : Shared} {loc : List (Str × Value)} {news : List (Addr × Obj)} {Q : Value → Shared → Prop} {e : Sem Value} (P : Value → Prop) (_D : St C loc news s)
    (h : wpAny (model prog w) A e (fun v s' => P v ∧ St C loc news s') E s) (k : ∀ v s', P v → St C loc news s' → Q v s') : wpAny (model prog w) A e Q E s := wpAny_mono h (fun v s' x => k v s' x.1 x.2) (fun _ _ x => x)
def shownL (gs : List Nat) : List Nat := match (rowsL gs 0).filter isLong with | [] => joinL [58] (gs.map hexL) | r :: _ => withoutL gs r.1 r.2

section
open Builtin Builtin.Str
theorem join_TT (sep : List Nat) : ∀ ls : List (List Nat), PySem.Str.join (T sep) (ls.map T) = T (joinL sep ls) := fun ls => by
  rw [← join_T]
  exact (StrLaws.glued_eq_join ..).symm
theorem cut_unique {c : Nat} : ∀ {p q x y : List Nat}, c ∉ p → c ∉ q → p ++ c :: x = q ++ c :: y → p = q ∧ x = y
  | [], [], _, _, _, _, h => ⟨rfl, (List.cons.inj h).2⟩
  | [], b :: q, _, _, _, hq, h => absurd (List.mem_cons.mpr (.inl (List.cons.inj h).1)) hq
  | a :: p, [], _, _, hp, _, h => absurd (List.mem_cons.mpr (.inl (List.cons.inj h).1.symm)) hp
  | a :: p, b :: q, _, _, hp, hq, h => by
    obtain ⟨h1, h2⟩ := List.cons.inj h
    obtain ⟨e1, e2⟩ := cut_unique (fun z => hp (.tail _ z)) (fun z => hq (.tail _ z)) h2
    exact ⟨by rw [h1, e1], e2⟩
theorem joinL_more (sep x y : List Nat) (r : List (List Nat)) : joinL sep (x :: y :: r) = x ++ sep ++ joinL sep (y :: r) := rfl
theorem joinL_inj {c : Nat} : ∀ {ps qs : List (List Nat)}, ps ≠ [] → qs ≠ [] → (∀ p ∈ ps, c ∉ p) → (∀ q ∈ qs, c ∉ q) → joinL [c] ps = joinL [c] qs → ps = qs
  | [], _, h, _, _, _, _ => absurd rfl h
  | _, [], _, h, _, _, _ => absurd rfl h
  | [p], [q], _, _, _, _, h => by rw [show p = q from h]
  | [p], q :: q2 :: r, _, _, hp, _, h => by
    refine absurd ?_ (hp p (.head _))
    rw [show p = q ++ [c] ++ joinL [c] (q2 :: r) from h]
    simp
  | p :: p2 :: r, [q], _, _, _, hq, h => by
    refine absurd ?_ (hq q (.head _))
    rw [← show p ++ [c] ++ joinL [c] (p2 :: r) = q from h]
    simp
  | p :: p2 :: r, q :: q2 :: r', _, _, hp, hq, h => by
    rw [joinL_more, joinL_more, List.append_assoc, List.append_assoc] at h
    obtain ⟨e1, e2⟩ := cut_unique (hp p (.head _)) (hq q (.head _)) h
    rw [e1, joinL_inj (List.cons_ne_nil _ _) (List.cons_ne_nil _ _) (fun x hx => hp x (.tail _ hx)) (fun x hx => hq x (.tail _ hx)) e2]
theorem split_T {c : Nat} {ps : List (List Nat)} (hne : ps ≠ []) (hf : ∀ p ∈ ps, c ∉ p) : Txt.split (T (joinL [c] ps)) (T [c]) = ps.map T := by
  have h1 := StrLaws.join_split (T (joinL [c] ps)) (T [c])
  have h2 := StrLaws.split_free (T (joinL [c] ps)) c
  have h3 : 1 ≤ (Txt.split (T (joinL [c] ps)) (T [c])).length := split_pos _ _
  have h2' : ∀ p ∈ Txt.split (T (joinL [c] ps)) (T [c]), c ∉ p.cps.toList := h2
  clear h2
  generalize Txt.split (T (joinL [c] ps)) (T [c]) = L at *
  have e : L = (L.map fun x => x.cps.toList).map T := by
    rw [List.map_map]
    conv => lhs; rw [← List.map_id L]
    exact List.map_congr_left fun x _ => T_of x
  rw [e] at h1 ⊢
  rw [join_TT] at h1
  have h4 := T_inj h1
  rw [joinL_inj (c := c) (fun z => by rw [List.map_eq_nil_iff] at z; rw [z] at h3; simp at h3) hne (fun p hp => by
    obtain ⟨x, hx, rfl⟩ := List.mem_map.mp hp
    exact h2' x hx) hf h4]
theorem joinL_head (sep x : List Nat) : ∀ r : List (List Nat), ∃ z, joinL sep (x :: r) = x ++ z
  | [] => ⟨[], (List.append_nil _).symm⟩
  | y :: r => ⟨sep ++ joinL sep (y :: r), by rw [joinL_more, List.append_assoc]⟩
/-- no two signs c side by side, and none at the end -/
theorem join_solid {c : Nat} : ∀ (ps : List (List Nat)) (r : List Nat) (i : Nat), (∀ p ∈ ps, p ≠ [] ∧ c ∉ p) → i < (joinL [c] ps).length → (joinL [c] ps ++ r)[i]? = some c → (joinL [c] ps ++ r)[i + 1]? = some c → False
  | [], _, _, _, hi, _, _ => absurd hi (Nat.not_lt_zero _)
  | [p], r, i, hp, hi, h1, _ => by
    have hi' : i < p.length := hi
    rw [show joinL [c] [p] = p from rfl, List.getElem?_append_left hi'] at h1
    exact (hp p (.head _)).2 (List.mem_of_getElem? h1)
  | p :: q :: s, r, i, hp, hi, h1, h2 => by
    rw [joinL_more, List.append_assoc, List.append_assoc] at h1 h2
    rw [joinL_more, List.append_assoc] at hi
    rcases Nat.lt_trichotomy i p.length with h | h | h
    · rw [List.getElem?_append_left h] at h1
      exact (hp p (.head _)).2 (List.mem_of_getElem? h1)
    · obtain ⟨z, hz⟩ := joinL_head [c] q s
      obtain ⟨q0, q', rfl⟩ := List.exists_cons_of_ne_nil (hp q (by simp)).1
      rw [h, hz, List.getElem?_append_right (by omega)] at h2
      simp at h2
      exact (hp (q0 :: q') (by simp)).2 (by rw [h2]; exact .head _)
    · rw [List.getElem?_append_right (by omega)] at h1 h2
      obtain ⟨k, rfl⟩ : ∃ k, i = p.length + 1 + k := ⟨i - p.length - 1, by omega⟩
      rw [show p.length + 1 + k - p.length = k + 1 by omega] at h1
      rw [show p.length + 1 + k + 1 - p.length = k + 1 + 1 by omega] at h2
      simp only [List.cons_append, List.nil_append, List.getElem?_cons_succ] at h1 h2
      refine join_solid (q :: s) r k (fun x hx => hp x (.tail _ hx)) ?_ h1 h2
      simp at hi
      omega
theorem at_two (l : List Nat) (a b i : Nat) : StrLaws.At (T l) (T [a, b]) (T l).length i ↔ l[i]? = some a ∧ l[i + 1]? = some b := by
  unfold StrLaws.At
  rw [StrLaws.subAt_eq, T_list, T_list, T_len, T_len, beq_iff_eq, List.length_cons, List.length_cons, List.length_nil]
  constructor
  · rintro ⟨h1, h2⟩
    constructor
    · have := congrArg (fun z => z[0]?) h2
      simpa using this
    · have := congrArg (fun z => z[1]?) h2
      simpa using this
  · rintro ⟨h1, h2⟩
    have l2 := (List.getElem?_eq_some_iff.mp h2).1
    refine ⟨by omega, ?_⟩
    apply List.ext_getElem?
    intro k
    rcases k with _ | _ | k
    · simpa using h1
    · simpa using h2
    · simp [List.getElem?_take]
      omega
theorem partition_none {l : List Nat} {a b : Nat} (h : ∀ i, l[i]? = some a → l[i + 1]? = some b → False) : Txt.partition (T l) (T [a, b]) = (T l, T [], T []) := by
  rcases partition_whole (T l) (T [a, b]) with ⟨h1, _⟩ | ⟨i, _, h2, _⟩
  · exact h1
  · have := (at_two l a b i).mp h2
    exact (h i this.1 this.2).elim
theorem partition_some {x y : List Nat} {a b : Nat} (h : ∀ i, i < x.length → (x ++ (a :: b :: y))[i]? = some a → (x ++ (a :: b :: y))[i + 1]? = some b → False) : Txt.partition (T (x ++ [a, b] ++ y)) (T [a, b]) = (T x, T [a, b], T y) := by
  rw [List.append_assoc]
  have hat : StrLaws.At (T (x ++ ([a, b] ++ y))) (T [a, b]) (T (x ++ ([a, b] ++ y))).length x.length := (at_two _ a b _).mpr ⟨by simp, by rw [List.getElem?_append_right (by omega)]; simp⟩
  rcases partition_whole (T (x ++ ([a, b] ++ y))) (T [a, b]) with ⟨_, h1⟩ | ⟨i, h1, h2, h3⟩
  · exact absurd hat (h1 _)
  · have e : i = x.length := by
      rcases Nat.lt_trichotomy i x.length with z | z | z
      · have := (at_two _ a b i).mp h2
        exact (h i z this.1 this.2).elim
      · exact z
      · exact absurd hat (h3 _ z)
    subst e
    rw [h1]
    have e1 : strSub (T (x ++ ([a, b] ++ y))) 0 x.length = T x := by
      apply PySem.Str.ext'
      apply Array.toList_inj.mp
      rw [StrLaws.strSub_toList, T_list, T_list]
      simp
    have e2 : strSub (T (x ++ ([a, b] ++ y))) (x.length + (T [a, b]).length) (T (x ++ ([a, b] ++ y))).length = T y := by
      apply PySem.Str.ext'
      apply Array.toList_inj.mp
      rw [StrLaws.strSub_toList, T_list, T_list, T_len, T_len]
      rw [← List.drop_drop, List.drop_left]
      simp
      exact List.take_of_length_le (by omega)
    rw [e1, e2]
theorem rstrip_T {l : List Nat} {c : Nat} (h : c ∉ l.getLast?) : Txt.rstripChars (T l) (T [c]) = T l := by
  have hz : l.reverse.takeWhile (fun x => decide (x = c)) = [] := by
    rcases List.eq_nil_or_concat l with rfl | ⟨x, d, rfl⟩
    · rfl
    · simp at h
      simp [List.takeWhile_cons, h]
  unfold Txt.rstripChars Txt.stripBy
  have he : (T [c]).cps.contains = fun x => decide (x = c) := by
    funext x
    show (#[c] : Array Nat).contains x = _
    simp
  rw [he]
  have h1 : stripSame (fun x => decide (x = c)) false true (T l) = true := by
    unfold stripSame stripLo stripHi
    simp only [Bool.false_eq_true, if_false, if_true, List.drop_zero, T_list, hz, List.length_nil, Nat.sub_zero, beq_self_eq_true, Bool.and_self]
  rw [if_pos h1]
theorem rstrip_T1 {l : List Nat} {c : Nat} (h : c ∉ l.getLast?) : Txt.rstripChars (T (l ++ [c])) (T [c]) = T l := by
  have hz : l.reverse.takeWhile (fun x => decide (x = c)) = [] := by
    rcases List.eq_nil_or_concat l with rfl | ⟨x, d, rfl⟩
    · rfl
    · simp at h
      simp [List.takeWhile_cons, h]
  unfold Txt.rstripChars Txt.stripBy
  have he : (T [c]).cps.contains = fun x => decide (x = c) := by
    funext x
    show (#[c] : Array Nat).contains x = _
    simp
  rw [he]
  have hlo : stripLo (fun x => decide (x = c)) false (T (l ++ [c])) = 0 := rfl
  have hhi : stripHi (fun x => decide (x = c)) true (T (l ++ [c])) 0 = l.length := by
    unfold stripHi
    rw [if_pos rfl, List.drop_zero, T_list, List.reverse_append, List.reverse_cons, List.reverse_nil, List.nil_append, List.cons_append, List.nil_append, List.takeWhile_cons, if_pos (by simp), hz, T_len]
    simp
  have h1 : ¬ stripSame (fun x => decide (x = c)) false true (T (l ++ [c])) = true := by
    unfold stripSame
    rw [hlo, hhi, T_len]
    simp
  rw [if_neg h1]
  unfold PySem.stripped
  rw [hlo, hhi]
  apply PySem.Str.ext'
  apply Array.toList_inj.mp
  rw [StrLaws.strSub_toList, T_list, T_list]
  simp
theorem index_T {x y : List Nat} {c : Nat} (h : c ∉ x) : ∃ rest, occurrences (T (x ++ [c] ++ y)) (T [c]) 0 (T (x ++ [c] ++ y)).length 1 = x.length :: rest := by
  have hat : StrLaws.At (T (x ++ [c] ++ y)) (T [c]) (T (x ++ [c] ++ y)).length x.length := (StrLaws.subAt_one _ c _).mpr (by rw [T_list]; simp)
  rcases StrLaws.occ_head (T (x ++ [c] ++ y)) (T [c]) 1 (Nat.le_refl 1) with ⟨h0, hn⟩ | ⟨i, r, h0, hi, hn⟩
  · exact absurd hat (hn _)
  · refine ⟨r, ?_⟩
    rw [h0]
    congr 1
    rcases Nat.lt_trichotomy i x.length with z | z | z
    · have h1 := (StrLaws.subAt_one _ c i).mp hi
      rw [T_list, List.append_assoc, List.getElem?_append_left z] at h1
      exact absurd (List.mem_of_getElem? h1) h
    · exact z
    · exact absurd hat (hn _ z)
theorem rindex_T {x y : List Nat} {c : Nat} (h : c ∉ y) : lastOccurrence (T (x ++ [c] ++ y)) (T [c]) 0 (T (x ++ [c] ++ y)).length = some x.length := by
  have hat : StrLaws.At (T (x ++ [c] ++ y)) (T [c]) (T (x ++ [c] ++ y)).length x.length := (StrLaws.subAt_one _ c _).mpr (by rw [T_list]; simp)
  rcases StrLaws.last_spec (T (x ++ [c] ++ y)) (T [c]) with ⟨_, hn⟩ | ⟨i, h0, hi, hn⟩
  · exact absurd hat (hn _)
  · rw [h0]
    congr 1
    rcases Nat.lt_trichotomy i x.length with z | z | z
    · exact absurd hat (hn _ z)
    · exact z
    · have h1 := (StrLaws.subAt_one _ c i).mp hi
      rw [T_list, List.append_assoc, List.getElem?_append_right (by omega)] at h1
      obtain ⟨k, rfl⟩ : ∃ k, i = x.length + 1 + k := ⟨i - x.length - 1, by omega⟩
      rw [show x.length + 1 + k - x.length = k + 1 by omega] at h1
      simp only [List.cons_append, List.nil_append, List.getElem?_cons_succ] at h1
      exact absurd (List.mem_of_getElem? h1) h
end

def octsOf (gs : List Nat) : List Nat := gs.flatMap fun n => [n / 256, n % 256]
theorem octsOf_cons (n : Nat) (gs : List Nat) : octsOf (n :: gs) = n / 256 :: n % 256 :: octsOf gs := rfl
theorem octsOf_len : ∀ l : List Nat, (octsOf l).length = 2 * l.length
  | [] => rfl
  | n :: l => by rw [octsOf_cons, List.length_cons, List.length_cons, List.length_cons, octsOf_len l]; omega
theorem octsOf_lt {gs : List Nat} {k : Nat} (h : ∀ g ∈ gs, g < k * 256) (hk : 256 ≤ k) : ∀ n ∈ octsOf gs, n < k := by
  intro n hn
  obtain ⟨g, hg, hn⟩ := List.mem_flatMap.mp hn
  have := h g hg
  simp at hn
  rcases hn with rfl | rfl <;> omega
theorem octsOf_app (a b : List Nat) : octsOf (a ++ b) = octsOf a ++ octsOf b := List.flatMap_append
theorem octsOf_zero : ∀ k : Nat, octsOf (List.replicate k 0) = List.replicate (2 * k) 0
  | 0 => rfl
  | k + 1 => by rw [List.replicate_succ, octsOf_cons, octsOf_zero k, show 2 * (k + 1) = 2 * k + 1 + 1 by omega, List.replicate_succ, List.replicate_succ]
theorem pairs_octs : ∀ gs : List Nat, pairsL (octsOf gs) = gs
  | [] => rfl
  | n :: gs => by
    rw [octsOf_cons, pairsL, pairs_octs gs]
    congr 1
    omega
theorem hexD_is {d : Nat} (h : d < 16) : IsHex (hexD d) ∧ hexVal (hexD d) = d := by
  unfold hexD IsHex hexVal
  split
  · rw [if_pos (by omega)]; omega
  · rw [if_neg (by omega), if_pos (by omega)]; omega
theorem hexU_is {d : Nat} (h : d < 16) : IsHex (hexU d) ∧ hexVal (hexU d) = d := by
  unfold hexU IsHex hexVal
  split
  · rw [if_pos (by omega)]; omega
  · rw [if_neg (by omega), if_neg (by omega)]; omega
theorem hexNum_snoc (l : List Nat) (c : Nat) : hexNum (l ++ [c]) = hexNum l * 16 + hexVal c := by
  unfold hexNum
  rw [List.foldl_append]
  rfl
theorem hexL_is (n : Nat) : hexL n ≠ [] ∧ (∀ c ∈ hexL n, IsHex c) ∧ hexNum (hexL n) = n := by
  unfold hexL
  split
  · rename_i h
    refine ⟨List.cons_ne_nil _ _, fun c hc => ?_, ?_⟩
    · rw [List.mem_singleton.mp hc]; exact (hexD_is h).1
    · show 0 * 16 + hexVal (hexD n) = n
      rw [(hexD_is h).2]; omega
  · obtain ⟨h1, h2, h3⟩ := hexL_is (n / 16)
    have hm := hexD_is (d := n % 16) (by omega)
    refine ⟨by simp, fun c hc => ?_, ?_⟩
    · rcases List.mem_append.mp hc with hc | hc
      · exact h2 c hc
      · rw [List.mem_singleton.mp hc]; exact hm.1
    · rw [hexNum_snoc, h3, hm.2]; omega
termination_by n
/-- a piece that reads as the number n -/
def Grp (p : List Nat) (n : Nat) : Prop := p ≠ [] ∧ (∀ c ∈ p, IsHex c) ∧ p.length ≤ 5 ∧ hexNum p = n
theorem grp_hex {n : Nat} (h : n < 65536) : Grp (hexL n) n := by
  obtain ⟨h1, h2, h3⟩ := hexL_is n
  exact ⟨h1, h2, by have := hexL_len n h; omega, h3⟩
theorem grp_wide {n : Nat} (h : n < 65536) : Grp (wideL n) n := by
  have a1 := hexU_is (d := n / 4096) (by omega)
  have a2 := hexU_is (d := n / 256 % 16) (by omega)
  have a3 := hexU_is (d := n / 16 % 16) (by omega)
  have a4 := hexU_is (d := n % 16) (by omega)
  refine ⟨List.cons_ne_nil _ _, fun c hc => ?_, (by show 4 ≤ 5; decide), ?_⟩
  · simp only [wideL, List.mem_cons, List.not_mem_nil, or_false] at hc
    rcases hc with rfl | rfl | rfl | rfl
    · exact a1.1
    · exact a2.1
    · exact a3.1
    · exact a4.1
  · show (((0 * 16 + hexVal (hexU (n / 4096))) * 16 + hexVal (hexU (n / 256 % 16))) * 16 + hexVal (hexU (n / 16 % 16))) * 16 + hexVal (hexU (n % 16)) = n
    rw [a1.2, a2.2, a3.2, a4.2]
    omega
theorem grp_high {d : Nat} (h : d < 16) : Grp ([49] ++ [hexD d] ++ [48, 48, 48]) (65536 + d * 4096) := by
  have a := hexD_is h
  refine ⟨by simp, fun c hc => ?_, by simp, ?_⟩
  · simp only [List.cons_append, List.nil_append, List.mem_cons, List.not_mem_nil, or_false] at hc
    rcases hc with rfl | rfl | rfl | rfl | rfl
    · exact .inl (by decide)
    · exact a.1
    all_goals exact .inl (by decide)
  · show ((((0 * 16 + hexVal 49) * 16 + hexVal (hexD d)) * 16 + hexVal 48) * 16 + hexVal 48) * 16 + hexVal 48 = _
    rw [a.2, show hexVal 49 = 1 by decide, show hexVal 48 = 0 by decide]
    omega
theorem IsHex.ne {c : Nat} (h : IsHex c) : c ≠ 58 := by unfold IsHex at h; omega
theorem Grp.free {p : List Nat} {n : Nat} (h : Grp p n) : p ≠ [] ∧ 58 ∉ p := ⟨h.1, fun z => (h.2.1 _ z).ne rfl⟩
theorem grps_free {ps : List (List Nat)} {ns : List Nat} : Paired Grp ps ns → ∀ p ∈ ps, p ≠ [] ∧ 58 ∉ p
  | .nil => fun _ z => nomatch z
  | .cons h t => fun p hp => by
    rcases List.mem_cons.mp hp with rfl | hp
    · exact h.free
    · exact grps_free t p hp
theorem grps_hex {ps : List (List Nat)} {ns : List Nat} : Paired Grp ps ns → ∀ p ∈ ps, (∀ c ∈ p, IsHex c) ∧ p.length ≤ 5
  | .nil => fun _ z => nomatch z
  | .cons h t => fun p hp => by
    rcases List.mem_cons.mp hp with rfl | hp
    · exact ⟨h.2.1, h.2.2.1⟩
    · exact grps_hex t p hp
theorem grps_octs {ps : List (List Nat)} {ns : List Nat} : Paired Grp ps ns → octs ps = octsOf ns
  | .nil => rfl
  | .cons (a := p) (b := n) h t => by
    have ih := grps_octs t
    have hp : (!p.isEmpty) = true := by
      cases p with
      | nil => exact absurd rfl h.1
      | cons => rfl
    unfold octs at ih ⊢
    rw [List.filter_cons, if_pos hp, List.flatMap_cons, ih, h.2.2.2]
    rfl
theorem grps_map {f : Nat → List Nat} {gs : List Nat} (h : ∀ g ∈ gs, Grp (f g) g) : Paired Grp (gs.map f) gs := by
  induction gs with
  | nil => exact .nil
  | cons g gs ih => exact .cons (h g (.head _)) (ih fun x hx => h x (.tail _ hx))
theorem grps_app {ps qs : List (List Nat)} {ms ns : List Nat} : Paired Grp ps ms → Paired Grp qs ns → Paired Grp (ps ++ qs) (ms ++ ns)
  | .nil, k => k
  | .cons h t, k => .cons h (grps_app t k)
theorem sum_short : ∀ {ps : List (List Nat)}, (∀ p ∈ ps, p.length ≤ 5) → sumLen ps ≤ 5 * ps.length
  | [], _ => Nat.zero_le _
  | p :: ps, h => by
    have ih := sum_short (ps := ps) fun x hx => h x (.tail _ hx)
    have := h p (.head _)
    simp only [sumLen, List.map_cons, List.sum_cons, List.length_cons] at ih ⊢
    omega
theorem join_short {ps : List (List Nat)} (h : ∀ p ∈ ps, p.length ≤ 5) : (joinL [58] ps).length ≤ 6 * ps.length := by
  have h1 := sum_short h
  have h2 := join_len [58] ps
  simp only [List.length_cons, List.length_nil] at h2
  omega
/-- what the split of joined pieces gives -/
theorem split_any {ps : List (List Nat)} (h : ∀ p ∈ ps, (p ≠ [] ∧ 58 ∉ p) ∧ p.length ≤ 5) : ∃ pa, Txt.split (T (joinL [58] ps)) (T [58]) = pa.map T ∧ octs pa = octs ps ∧ (∀ p ∈ pa, p = [] ∨ p ∈ ps) ∧ pa.length ≤ ps.length + 1 := by
  cases ps with
  | nil => exact ⟨[[]], split_T (ps := [[]]) (by simp) (by simp), rfl, by simp, by simp⟩
  | cons p r => exact ⟨p :: r, split_T (by simp) fun x hx => (h x hx).1.2, rfl, fun x hx => .inr hx, by simp⟩
theorem parse_two {ps qs : List (List Nat)} {ms ns : List Nat} (h1 : Paired Grp ps ms) (h2 : Paired Grp qs ns) (l1 : ps.length ≤ 20) (l2 : qs.length ≤ 20) :
    ParseOK (joinL [58] ps ++ [58, 58] ++ joinL [58] qs) (octsOf ms ++ List.replicate (16 - (octsOf ms).length - (octsOf ns).length) 0 ++ octsOf ns) := by
  have f1 := grps_free h1
  have f2 := grps_free h2
  have x1 := grps_hex h1
  have x2 := grps_hex h2
  obtain ⟨pa, a1, a2, a3, a4⟩ := split_any fun p hp => ⟨f1 p hp, (x1 p hp).2⟩
  obtain ⟨pb, b1, b2, b3, b4⟩ := split_any fun p hp => ⟨f2 p hp, (x2 p hp).2⟩
  have j1 := join_short fun p hp => (x1 p hp).2
  have j2 := join_short fun p hp => (x2 p hp).2
  have cl : ∀ {pa ps : List (List Nat)}, (∀ p ∈ pa, p = [] ∨ p ∈ ps) → (∀ p ∈ ps, (∀ c ∈ p, IsHex c) ∧ p.length ≤ 5) → ∀ p ∈ pa, (∀ c ∈ p, IsHex c) ∧ p.length ≤ 5 := fun h k p hp => by
    rcases h p hp with rfl | hp
    · exact ⟨(fun _ z => nomatch z), Nat.zero_le _⟩
    · exact k p hp
  refine ⟨joinL [58] ps, joinL [58] qs, _, pa, pb, partition_some fun i hi q1 q2 => join_solid ps _ i f1 hi q1 q2, a1, b1, cl a3 x1, cl b3 x2, by omega, by omega, ?_, by omega, by omega, ?_⟩
  · simp only [List.length_append, List.length_cons, List.length_nil]; omega
  · rw [a2, b2, grps_octs h1, grps_octs h2]
theorem parse_plain {ps : List (List Nat)} {ns : List Nat} (h : Paired Grp ps ns) (l : ps.length ≤ 20) : ParseOK (joinL [58] ps) (octsOf ns ++ List.replicate (16 - (octsOf ns).length) 0) := by
  have f := grps_free h
  have x := grps_hex h
  obtain ⟨pa, a1, a2, a3, a4⟩ := split_any fun p hp => ⟨f p hp, (x p hp).2⟩
  obtain ⟨pb, b1, b2, b3, b4⟩ := split_any (ps := []) fun p hp => nomatch hp
  have j := join_short fun p hp => (x p hp).2
  have cl : ∀ {pa ps : List (List Nat)}, (∀ p ∈ pa, p = [] ∨ p ∈ ps) → (∀ p ∈ ps, (∀ c ∈ p, IsHex c) ∧ p.length ≤ 5) → ∀ p ∈ pa, (∀ c ∈ p, IsHex c) ∧ p.length ≤ 5 := fun h k p hp => by
    rcases h p hp with rfl | hp
    · exact ⟨(fun _ z => nomatch z), Nat.zero_le _⟩
    · exact k p hp
  refine ⟨joinL [58] ps, [], _, pa, pb, partition_none fun i q1 q2 => ?_, a1, b1, cl a3 x, cl b3 (fun _ z => nomatch z), by omega, by simp at b4; omega, by omega, by omega, by simp, ?_⟩
  · refine join_solid ps [] i f ?_ (by rw [List.append_nil]; exact q1) (by rw [List.append_nil]; exact q2)
    exact (List.getElem?_eq_some_iff.mp q1).1
  · rw [a2, b2, grps_octs h]
    simp [octs]
theorem parse_g {ps : List (List Nat)} {ms : List Nat} {qs : List (List Nat)} {ns : List Nat} (h1 : Paired Grp ps ms) (h2 : Paired Grp qs ns) (l1 : ps.length ≤ 20) (l2 : qs.length ≤ 20) : ParseBad (joinL [58] (ps ++ [103] :: qs)) := by
  have x1 := grps_hex h1
  have x2 := grps_hex h2
  have f : ∀ p ∈ ps ++ [103] :: qs, p ≠ [] ∧ 58 ∉ p := fun p hp => by
    rcases List.mem_append.mp hp with hp | hp
    · exact grps_free h1 p hp
    · rcases List.mem_cons.mp hp with rfl | hp
      · simp
      · exact grps_free h2 p hp
  have x : ∀ p ∈ ps ++ [103] :: qs, p.length ≤ 5 := fun p hp => by
    rcases List.mem_append.mp hp with hp | hp
    · exact (x1 p hp).2
    · rcases List.mem_cons.mp hp with rfl | hp
      · simp
      · exact (x2 p hp).2
  have j := join_short x
  have hl : (ps ++ [103] :: qs).length = ps.length + qs.length + 1 := by simp; omega
  refine ⟨joinL [58] (ps ++ [103] :: qs), [], _, ps ++ [103] :: qs, ps, qs, partition_none fun i q1 q2 => ?_, split_T (by simp) fun p hp => (f p hp).2, rfl, x1, by omega, by omega, by omega, by simp, fun p hp => by have := x p hp; omega⟩
  refine join_solid _ [] i f ?_ (by rw [List.append_nil]; exact q1) (by rw [List.append_nil]; exact q2)
  exact (List.getElem?_eq_some_iff.mp q1).1
/-- the runs -/
theorem runEnd_zero (ns : List Nat) (e : Nat) : ∀ j, e ≤ j → j < runEnd ns e → ns.getD j 1 = 0 := by
  intro j h1 h2
  unfold runEnd at h2
  split at h2
  · split at h2
    · rename_i h3
      rcases Nat.eq_or_lt_of_le h1 with rfl | h1
      · exact h3
      · exact runEnd_zero ns (e + 1) j h1 h2
    · omega
  · omega
termination_by 8 - e
theorem runEnd_stop (ns : List Nat) (e : Nat) (h : runEnd ns e < 8) : ns.getD (runEnd ns e) 1 ≠ 0 := by
  unfold runEnd at h ⊢
  split
  · rename_i h1
    rw [dif_pos h1] at h
    split
    · rename_i h2
      rw [if_pos h2] at h
      exact runEnd_stop ns (e + 1) h
    · rename_i h2
      exact h2
  · rename_i h1
    rw [dif_neg h1] at h
    omega
termination_by 8 - e
theorem row_good (ns : List Nat) (i : Nat) : ∀ r ∈ rowsL ns i, r.1 < r.2 ∧ r.2 ≤ 8 ∧ ∀ j, r.1 ≤ j → j < r.2 → ns.getD j 1 = 0 := by
  intro r hr
  rw [rowsL] at hr
  split at hr
  · rename_i h
    have hge := runEnd_ge ns i
    rcases List.mem_append.mp hr with hr | hr
    · split at hr
      · rename_i h2
        rw [List.mem_singleton.mp hr]
        exact ⟨h2, runEnd_le ns i (by omega), runEnd_zero ns i⟩
      · exact nomatch hr
    · exact row_good ns (runEnd ns i + 1) r hr
  · exact nomatch hr
termination_by 8 - i
theorem octs_row {gs : List Nat} {a b : Nat} (hl : gs.length = 8) (hab : a < b) (hb : b ≤ 8) (hz : ∀ j, a ≤ j → j < b → gs.getD j 1 = 0) :
    octsOf (gs.take a) ++ List.replicate (16 - (octsOf (gs.take a)).length - (octsOf (gs.drop b)).length) 0 ++ octsOf (gs.drop b) = octsOf gs := by
  have e : gs = gs.take a ++ List.replicate (b - a) 0 ++ gs.drop b := by
    have h1 : (gs.drop a).take (b - a) = List.replicate (b - a) 0 := by
      rw [List.eq_replicate_iff]
      refine ⟨by simp; omega, fun x hx => ?_⟩
      obtain ⟨j, hj, rfl⟩ := List.getElem_of_mem hx
      simp only [List.length_take, List.length_drop] at hj
      have := hz (a + j) (by omega) (by omega)
      rw [List.getD_eq_getElem?_getD, List.getElem?_eq_getElem (by omega), Option.getD_some] at this
      simpa using this
    conv => lhs; rw [← List.take_append_drop a gs, ← List.take_append_drop (b - a) (gs.drop a), h1, List.drop_drop, show a + (b - a) = b by omega]
    rw [List.append_assoc]
  conv => rhs; rw [e, octsOf_app, octsOf_app, octsOf_zero]
  rw [octsOf_len, octsOf_len, List.length_take, List.length_drop, hl, show 16 - 2 * min a 8 - 2 * (8 - b) = 2 * (b - a) by omega]
theorem parse_row {gs : List Nat} {r : Nat × Nat} (hl : gs.length = 8) (hz : ∀ g ∈ gs, g < 65536) (hr : r ∈ rowsL gs 0) : ParseOK (withoutL gs r.1 r.2) (octsOf gs) := by
  obtain ⟨h1, h2, h3⟩ := row_good gs 0 r hr
  have := parse_two (grps_map (f := hexL) (gs := gs.take r.1) fun g hg => grp_hex (hz g (List.mem_of_mem_take hg))) (grps_map (f := hexL) (gs := gs.drop r.2) fun g hg => grp_hex (hz g (List.mem_of_mem_drop hg))) (by simp; omega) (by simp; omega)
  rw [octs_row hl h1 h2 h3] at this
  exact this
theorem parse_text {gs : List Nat} (hl : gs.length = 8) (hz : ∀ g ∈ gs, g < 65536) : ParseOK (joinL [58] (gs.map hexL)) (octsOf gs) := by
  have := parse_plain (grps_map (f := hexL) (gs := gs) fun g hg => grp_hex (hz g hg)) (by simp; omega)
  rw [octsOf_len, hl] at this
  simpa using this
theorem parse_wide {gs : List Nat} (hl : gs.length = 8) (hz : ∀ g ∈ gs, g < 65536) : ParseOK (joinL [58] (gs.map wideL)) (octsOf gs) := by
  have := parse_plain (grps_map (f := wideL) (gs := gs) fun g hg => grp_wide (hz g hg)) (by simp; omega)
  rw [octsOf_len, hl] at this
  simpa using this
theorem parse_shown {gs : List Nat} (hl : gs.length = 8) (hz : ∀ g ∈ gs, g < 65536) : ParseOK (shownL gs) (octsOf gs) := by
  unfold shownL
  cases h : (rowsL gs 0).filter isLong with
  | nil => exact parse_text hl hz
  | cons r t => exact parse_row hl hz ((List.mem_filter.mp (show r ∈ (rowsL gs 0).filter isLong by rw [h]; exact .head _)).1)
/-- the written form is the shown one -/
theorem take_snoc {ns : List Nat} {i : Nat} (h : i < ns.length) : ns.take (i + 1) = ns.take i ++ [ns.getD i 0] := by
  rw [List.take_succ_eq_append_getElem h, List.getD_eq_getElem?_getD, List.getElem?_eq_getElem h, Option.getD_some]
theorem getD_01 {ns : List Nat} {i : Nat} (h : i < ns.length) : ns.getD i 1 = ns.getD i 0 := by
  rw [List.getD_eq_getElem?_getD, List.getD_eq_getElem?_getD, List.getElem?_eq_getElem h]; rfl
theorem hexL_zero : hexL 0 = [48] := by unfold hexL; rfl
theorem fmt_step_left {ns : List Nat} {i : Nat} (hl : ns.length = 8) (hi : i < 8) (h : fmtFrom ns i = ((ns.take i).map hexL, [], true)) (hn : ¬ (ns.getD i 0 = 0 ∧ i < 7 ∧ ns.getD (i + 1) 0 = 0)) : fmtFrom ns (i + 1) = ((ns.take (i + 1)).map hexL, [], true) := by
  rw [fmtFrom_succ, h, take_snoc (by omega), List.map_append]
  unfold fmtStep
  simp only [if_true]
  split
  · rename_i h1
    rw [if_neg fun z => hn ⟨h1.1, h1.2, z⟩, h1.1]
    rw [List.map_cons, hexL_zero]; rfl
  · rfl
theorem fmt_zeros {ns : List Nat} {l : List (List Nat)} {i e : Nat} (h : fmtFrom ns i = (l, [], false)) : ∀ k, i + k ≤ e → (∀ j, i ≤ j → j < e → ns.getD j 0 = 0) → fmtFrom ns (i + k) = (l, [], false)
  | 0, _, _ => h
  | k + 1, hk, hz => by
    rw [← Nat.add_assoc, fmtFrom_succ, fmt_zeros h k (by omega) hz]
    unfold fmtStep
    simp only [Bool.false_eq_true, if_false]
    rw [if_pos ⟨hz (i + k) (by omega) (by omega), trivial⟩]
theorem fmt_right {ns : List Nat} {l : List (List Nat)} {e : Nat} (hl : ns.length = 8) (h : fmtFrom ns e = (l, [], false)) (hz : e < 8 → ns.getD e 0 ≠ 0) : ∀ k, e + k ≤ 8 → fmtFrom ns (e + k) = (l, ((ns.drop e).take k).map hexL, false)
  | 0, _ => h
  | k + 1, hk => by
    rw [← Nat.add_assoc, fmtFrom_succ, fmt_right hl h hz k (by omega)]
    have ht : (ns.drop e).take (k + 1) = (ns.drop e).take k ++ [ns.getD (e + k) 0] := by
      rw [take_snoc (by rw [List.length_drop]; omega)]
      congr 2
      rw [List.getD_eq_getElem?_getD, List.getD_eq_getElem?_getD, List.getElem?_drop]
    rw [ht, List.map_append]
    unfold fmtStep
    simp only [Bool.false_eq_true, if_false]
    rw [if_neg]
    · rfl
    · rintro ⟨h1, h2⟩
      rw [List.map_eq_nil_iff] at h2
      have h3 := congrArg List.length h2
      rw [List.length_take, List.length_drop, List.length_nil] at h3
      have : k = 0 := by omega
      subst this
      exact hz (by omega) h1
theorem fmt_shown {ns : List Nat} (hl : ns.length = 8) (i : Nat) (hi : i ≤ 8) (h : fmtFrom ns i = ((ns.take i).map hexL, [], true)) :
    fmtL ns = (match (rowsL ns i).filter isLong with | [] => joinL [58] (ns.map hexL) | r :: _ => withoutL ns r.1 r.2) := by
  by_cases h8 : i = 8
  · subst h8
    have e : rowsL ns 8 = [] := by rw [rowsL]; rfl
    rw [e]
    unfold fmtL
    rw [h, List.take_of_length_le (by omega)]
    simp only [List.length_map, hl, Nat.lt_irrefl, if_false]
    rfl
  · have hi8 : i < 8 := by omega
    have hge := runEnd_ge ns i
    have hle := runEnd_le ns i hi
    have hzr := runEnd_zero ns i
    have hst := runEnd_stop ns i
    rw [rowsL, dif_pos hi8]
    generalize hE : runEnd ns i = e at *
    rcases (by omega : e = i ∨ e = i + 1 ∨ i + 2 ≤ e) with rfl | rfl | h2
    · have h0 : ns.getD e 0 ≠ 0 := by rw [← getD_01 (by omega)]; exact hst hi8
      rw [if_neg (Nat.lt_irrefl _), List.nil_append]
      exact fmt_shown hl (e + 1) (by omega) (fmt_step_left hl hi8 h fun z => h0 z.1)
    · rw [if_pos (by omega), List.filter_append]
      have e1 : ([(i, i + 1)] : List (Nat × Nat)).filter isLong = [] := by
        rw [List.filter_cons, if_neg, List.filter_nil]
        unfold isLong
        rw [decide_eq_true_eq]
        omega
      rw [e1, List.nil_append]
      have hs1 := fmt_step_left hl hi8 h fun z => hst (by omega) (by rw [getD_01 (by omega)]; exact z.2.2)
      by_cases h9 : i + 1 = 8
      · have := fmt_shown hl (i + 1) (by omega) hs1
        rw [rowsL, dif_neg (by omega)] at this
        rw [rowsL, dif_neg (by omega)]
        exact this
      · exact fmt_shown hl (i + 1 + 1) (by omega) (fmt_step_left hl (by omega) hs1 fun z => hst (by omega) (by rw [getD_01 (by omega)]; exact z.1))
    · rw [if_pos (by omega), List.filter_append]
      have e1 : ([(i, e)] : List (Nat × Nat)).filter isLong = [(i, e)] := by
        rw [List.filter_cons, if_pos, List.filter_nil]
        unfold isLong
        rw [decide_eq_true_eq]
        show (e : Int) - (i : Int) > 1
        omega
      rw [e1, List.cons_append]
      show fmtL ns = withoutL ns i e
      have hz0 : ∀ j, i ≤ j → j < e → ns.getD j 0 = 0 := fun j a b => by rw [← getD_01 (by omega)]; exact hzr j a b
      have hs1 : fmtFrom ns (i + 1) = ((ns.take i).map hexL, [], false) := by
        rw [fmtFrom_succ, h]
        unfold fmtStep
        simp only [if_true]
        rw [if_pos ⟨hz0 i (by omega) (by omega), by omega⟩, if_pos (hz0 (i + 1) (by omega) (by omega))]
      have hs2 := fmt_zeros hs1 (e := e) (e - (i + 1)) (by omega) fun j a b => hz0 j (by omega) b
      rw [show i + 1 + (e - (i + 1)) = e by omega] at hs2
      have hs3 := fmt_right hl hs2 (fun h => by rw [← getD_01 (by omega)]; exact hst h) (8 - e) (by omega)
      rw [show e + (8 - e) = 8 by omega, List.take_of_length_le (i := 8 - e) (by rw [List.length_drop]; omega)] at hs3
      unfold fmtL withoutL
      rw [hs3]
      simp only [List.length_map, List.length_take]
      rw [if_pos (by omega)]
termination_by 8 - i
theorem fmt_is_shown {gs : List Nat} (hl : gs.length = 8) : fmtL (pairsL (octsOf gs)) = shownL gs := by
  rw [pairs_octs]
  exact fmt_shown hl 0 (by omega) rfl

theorem decL_eq (n : Nat) : decL n = (Nat.toDigits 10 n).map Char.toNat := by
  unfold decL
  rw [signs_ofString]
  show (Nat.repr n).toList.map Char.toNat = _
  rw [Nat.repr_eq_ofList_toDigits, String.toList_ofList]
theorem decL_ne (n : Nat) : decL n ≠ [] := by
  rw [decL_eq]
  exact fun h => Nat.toDigits_ne_nil (List.map_eq_nil_iff.mp h)
theorem decL_free (n : Nat) : 46 ∉ decL n := by
  rw [decL_eq]
  intro h
  obtain ⟨c, hc, e⟩ := List.mem_map.mp h
  have := Nat.isDigit_of_mem_toDigits (by decide) (by decide) hc
  rw [Char.isDigit_iff_toNat, e] at this
  exact absurd this.1 (by decide)
theorem decL_len {n : Nat} (h : n < 10000000000) : (decL n).length ≤ 10 := by
  rw [decL_eq, List.length_map]
  exact (Nat.length_toDigits_le_iff (by decide) (by decide)).mpr h
theorem decL_one : decL 1 = [49] := by decide +kernel
theorem decL_256 : decL 256 = [50, 53, 54] := by decide +kernel
/-- numbers, dotted -/
def dots (ns : List Nat) : List Nat := joinL [46] (ns.map decL)
theorem dots_len {ns : List Nat} (hz : ∀ n ∈ ns, n < 100000) : (dots ns).length ≤ 11 * ns.length := by
  unfold dots
  have h2 := join_len [46] (ns.map decL)
  have h1 : sumLen (ns.map decL) ≤ 10 * ns.length := by
    clear h2
    induction ns with
    | nil => exact Nat.zero_le _
    | cons n ns ih =>
      have := ih fun x hx => hz x (.tail _ hx)
      have := decL_len (n := n) (by have := hz n (.head _); omega)
      simp only [sumLen, List.map_cons, List.sum_cons, List.length_cons] at *
      omega
  simp only [List.length_cons, List.length_nil, List.length_map] at h2
  omega
theorem joinL_last (sep x : List Nat) : ∀ r : List (List Nat), ∃ z y, y ∈ x :: r ∧ joinL sep (x :: r) = z ++ y
  | [] => ⟨[], x, .head _, rfl⟩
  | y :: r => by
    obtain ⟨z, y', hy, e⟩ := joinL_last sep y r
    exact ⟨x ++ sep ++ z, y', .tail _ hy, by rw [joinL_more, e, List.append_assoc, List.append_assoc, List.append_assoc]⟩
theorem last_app {l l' : List Nat} (h : l' ≠ []) : (l ++ l').getLast? = l'.getLast? := by
  rw [List.getLast?_append]
  cases e : l'.getLast? with
  | none => exact absurd (List.getLast?_eq_none_iff.mp e) h
  | some => rfl
theorem dots_end {ns : List Nat} (h : ns ≠ []) : 46 ∉ (dots ns).getLast? := by
  cases ns with
  | nil => exact absurd rfl h
  | cons n ns =>
    obtain ⟨z, y, hy, e⟩ := joinL_last [46] (decL n) (ns.map decL)
    unfold dots
    rw [List.map_cons, e]
    obtain ⟨m, _, rfl⟩ := List.mem_map.mp (show y ∈ (n :: ns).map decL from hy)
    rw [last_app (decL_ne m)]
    exact fun h => decL_free m (List.mem_of_getLast? h)
theorem dots_split {ns : List Nat} (h : ns ≠ []) : Txt.split (T (dots ns)) (T [46]) = (ns.map decL).map T :=
  split_T (fun z => h (List.map_eq_nil_iff.mp z)) fun p hp => by
    obtain ⟨m, _, rfl⟩ := List.mem_map.mp hp
    exact decL_free m
theorem dot_ok {ns : List Nat} (h : ns ≠ []) (hl : ns.length ≤ 20) (hz : ∀ n ∈ ns, n < 100000) : DotOK (dots ns) ns := by
  have := dots_len hz
  exact ⟨dots ns, rstrip_T (dots_end h), dots_split h, by omega, by omega⟩
theorem dot_ok1 {ns : List Nat} (h : ns ≠ []) (hl : ns.length ≤ 20) (hz : ∀ n ∈ ns, n < 100000) : DotOK (dots ns ++ [46]) ns := by
  have := dots_len hz
  exact ⟨dots ns, rstrip_T1 (dots_end h), dots_split h, by simp; omega, by omega⟩
theorem dot_x {ns : List Nat} (hl : ns.length ≤ 20) (hz : ∀ n ∈ ns, n < 100000) (h : ns ≠ []) : DotX ([120, 46] ++ dots ns) := by
  have hlen := dots_len hz
  have e : [120, 46] ++ dots ns = joinL [46] ([120] :: ns.map decL) := by
    cases ns with
    | nil => exact absurd rfl h
    | cons n ns => rfl
  refine ⟨[120, 46] ++ dots ns, ns.map decL, rstrip_T ?_, ?_, by simp; omega, by simp; omega⟩
  · rw [last_app]
    · exact dots_end h
    · cases ns with
      | nil => exact absurd rfl h
      | cons n ns =>
        obtain ⟨z, hz⟩ := joinL_head [46] (decL n) (ns.map decL)
        unfold dots
        rw [List.map_cons, hz]
        intro q
        exact decL_ne n (List.append_eq_nil_iff.mp q).1
  · rw [e]
    refine split_T (by simp) fun p hp => ?_
    rcases List.mem_cons.mp hp with rfl | hp
    · decide
    · obtain ⟨m, _, rfl⟩ := List.mem_map.mp hp
      exact decL_free m
theorem dots_snoc {ns : List Nat} (m : Nat) (h : ns ≠ []) : dots (ns ++ [m]) = dots ns ++ [46] ++ decL m := by
  induction ns with
  | nil => exact absurd rfl h
  | cons n ns ih =>
    cases ns with
    | nil => rfl
    | cons k ns =>
      have := ih (by simp)
      unfold dots at this ⊢
      simp only [List.map_append, List.map_cons, List.cons_append, joinL_more, List.map_nil] at this ⊢
      rw [this]
      simp only [List.append_assoc]
theorem dots_cons (n m : Nat) (ns : List Nat) : dots (n :: m :: ns) = decL n ++ [46] ++ dots (m :: ns) := rfl
theorem dots_four (a b c d : Nat) : dots [a, b, c, d] = dotL a b c d := by
  unfold dots dotL
  simp only [List.map_cons, List.map_nil, joinL, List.append_assoc]

section
variable {prog : Program} {w : World} {A : Around} {E : Value → Shared → Prop} {C : Cx} {s : Shared} {loc : List (Str × Value)} {news : List (Addr × Obj)} {env : Env}
theorem codeC_forLoopT {R : Result → Shared → Prop} {target it body} (I : Nat → Shared → Prop)
    (turn : ∀ n s, I n s → wpAny (model prog w) A (pyNext it) (fun r s₁ => match r with
      | none => R (.ok .next) s₁
      | some v => wpAny (model prog w) A (letOwnedTupleGo target it v) (fun _ s₁' => wpAny (model prog w) A (assign target env v) (fun _ s₂ => wpC (model prog w) A (execs body env) (fun f s₃ => match f with
          | .next | .cont => ∃ m, m < n ∧ I m s₃
          | _ => False) (fun _ _ => False) s₂) (fun _ _ => False) s₁') (fun _ _ => False) s₁) (fun _ _ => False) s)
    (n : Nat) (h : I n s) : codeC (model prog w) A (.forLoop target it body [] env) R s := by
  refine codeC_loopE rfl rfl I (fun n s hI => ?_) n h
  show wpC _ _ ((forTurn target it body [] env).onRaise (fun x => do noteFrame x env; theTreesLotGoes x)) _ _ s
  refine wpC_noted ?_
  simp only [forTurn]
  refine wpC_pre (wpAny_standAt (wpC_pre (wpAny_onRaise (wpAny_mono (turn n s hI) (fun r s₁ h₁ => ?_) fun _ _ h' => h'.elim))))
  cases r with
  | none =>
    refine wpC_pure (.inr ⟨rfl, codeC_of_any (codeAny_block (wpAny_execs_nil h₁))⟩)
  | some v =>
    refine wpC_pre (wpAny_mono h₁ (fun _ s₁' h₁' => ?_) fun _ _ h' => h'.elim)
    refine wpC_pre (wpAny_mono h₁' (fun _ s₂ h₂ => wpC_bind (wpC_mono h₂ (fun f s₃ h₃ => ?_) fun _ _ h' => h'.elim)) fun _ _ h' => h'.elim)
    cases f with
    | next => exact wpC_pure (.inl ⟨rfl, h₃⟩)
    | cont => exact wpC_pure (.inl ⟨rfl, h₃⟩)
    | brk => exact h₃.elim
    | ret v => exact h₃.elim
/-- a for over a list of tuples, taken apart; its body runs under the caller -/
theorem for_listT {elts : List Expr} {x1} {tp : Pos} {iter : Expr} {body : List Stmt} {pos : Pos} {Q : Flow → Shared → Prop} (_D : St C loc news s) (hh : A.handled = none) (its : Array Value) (ax : Addr) (J : Nat → List (Str × Value) → List (Addr × Obj) → Prop)
    (first : wpAny (model prog w) A (eval iter env) (fun v s₁ => v = .ref ax ∧ s₁.heap.IsList ax its ∧ ∃ loc news, J 0 loc news ∧ St C loc news s₁) E s)
    (src : ∀ i loc news s, J i loc news → St C loc news s → s.heap.IsList ax its)
    (turn : ∀ i v loc news s I oI, its[i]? = some v → J i loc news → St C loc ((I, oI) :: news) s → wpAny (model prog w) A (assign (.Tuple elts x1 tp) env v) (fun _ s₂ => wpC (model prog w) A (execs body env) (fun f s₃ => match f with
          | .next | .cont => ∃ loc news, J (i + 1) loc news ∧ St C loc ((I, oI) :: news) s₃
          | _ => False) (fun _ _ => False) s₂) (fun _ _ => False) s)
    (fin : ∀ loc news s, J its.size loc news → St C loc news s → Q .next s)
    (hv : ∀ (i : Nat) (v : Value), its[i]? = some v → ∃ a : Addr, v = Value.ref a)
    (hs : ∀ x, foldedSetIterable iter env x = pure x := by intro _; rfl) :
    wpC (model prog w) A (exec (.For (.Tuple elts x1 tp) iter body [] pos) env) Q E s := by
  rw [exec_For]
  refine wpC_pre (wpAny_standAt (wpC_pre (wpAny_mono first (fun v s₁ h₁ => ?_) fun _ _ x => x)))
  obtain ⟨rfl, hl, loc, news, hJ, D⟩ := h₁
  refine wpC_pre (wpAny_of_eq (hs _) (wpC_pre (wpAny_standAt (wpC_pre (wpAny_holding ?_)))))
  refine it_list D hl fun I oI s₂ D₂ hI hl₂ => ?_
  unfold runOwn
  refine wpC_onRaise (wpC_run ?_)
  refine codeC_forLoopT (A := A.mark none) (fun k s' => ∃ i loc news oI, i ≤ its.size ∧ k = its.size + 1 - i ∧ LI oI ax i ∧ J i loc news ∧ St C loc ((I, oI) :: news) s') ?_ (its.size + 1) ⟨0, loc, news, oI, Nat.zero_le _, rfl, hI, hJ, D₂⟩
  rintro k s₃ ⟨i, loc, news, oI, hi, rfl, hI, hJ, D₃⟩
  refine next_list hh D₃ hI (src i loc _ _ hJ (D₃.forget (List.sublist_cons_self _ _))) (fun v oI' s₄ hx hI' D₄ => ?_) fun s₄ hx D₄ => ?_
  · have hlt := (Array.getElem?_eq_some_iff.mp hx).1
    obtain ⟨va, rfl⟩ := hv i v hx
    refine wpAny_letOwnedTupleGo_listiter ⟨oI', D₄.get List.mem_cons_self, hI'⟩ ?_
    refine wpAny_mono (turn i (.ref va) loc news s₄ I oI' hx hJ D₄) (fun _ s₅ h₅ => wpC_mono h₅ (fun f s₆ h₆ => ?_) fun _ _ x => x.elim) fun _ _ x => x.elim
    cases f with
    | next => obtain ⟨loc', news', hJ', D'⟩ := h₆; exact ⟨_, by omega, i + 1, loc', news', oI', hlt, rfl, hI', hJ', D'⟩
    | cont => obtain ⟨loc', news', hJ', D'⟩ := h₆; exact ⟨_, by omega, i + 1, loc', news', oI', hlt, rfl, hI', hJ', D'⟩
    | brk => exact h₆.elim
    | ret v => exact h₆.elim
  · obtain rfl : i = its.size := Nat.le_antisymm hi hx
    exact fin loc news s₄ hJ D₄
/-- a for over a list that its head makes; the body runs under the caller -/
theorem for_listE {target iter : Expr} {body : List Stmt} {pos : Pos} {Q : Flow → Shared → Prop} (_D : St C loc news s) (hh : A.handled = none) (J : Addr → Array Value → Nat → List (Str × Value) → List (Addr × Obj) → Prop)
    (first : wpAny (model prog w) A (eval iter env) (fun v s₁ => ∃ ax its, v = .ref ax ∧ s₁.heap.IsList ax its ∧ ∃ loc news, J ax its 0 loc news ∧ St C loc news s₁) E s)
    (src : ∀ ax its i loc news s, J ax its i loc news → St C loc news s → s.heap.IsList ax its)
    (turn : ∀ ax its (i : Nat) v loc news s I oI, its[i]? = some v → J ax its i loc news → St C loc ((I, oI) :: news) s → wpAny (model prog w) A (assign target env v) (fun _ s₂ => wpC (model prog w) A (execs body env) (fun f s₃ => match f with
          | .next | .cont => ∃ loc news, J ax its (i + 1) loc news ∧ St C loc ((I, oI) :: news) s₃
          | _ => False) (fun _ _ => False) s₂) (fun _ _ => False) s)
    (fin : ∀ ax (its : Array Value) loc news s, J ax its its.size loc news → St C loc news s → Q .next s)
    (hs : ∀ x, foldedSetIterable iter env x = pure x := by intro _; rfl) (ht : ∀ it v, letOwnedTupleGo target it v = pure () := by intro _ _; rfl) :
    wpC (model prog w) A (exec (.For target iter body [] pos) env) Q E s := by
  rw [exec_For]
  refine wpC_pre (wpAny_standAt (wpC_pre (wpAny_mono first (fun v s₁ h₁ => ?_) fun _ _ x => x)))
  obtain ⟨ax, its, rfl, hl, loc, news, hJ, D⟩ := h₁
  refine wpC_pre (wpAny_of_eq (hs _) (wpC_pre (wpAny_standAt (wpC_pre (wpAny_holding ?_)))))
  refine it_list D hl fun I oI s₂ D₂ hI hl₂ => ?_
  unfold runOwn
  refine wpC_onRaise (wpC_run ?_)
  refine codeC_forLoop (A := A.mark none) (fun k s' => ∃ i loc news oI, i ≤ its.size ∧ k = its.size + 1 - i ∧ LI oI ax i ∧ J ax its i loc news ∧ St C loc ((I, oI) :: news) s') ?_ (its.size + 1) ⟨0, loc, news, oI, Nat.zero_le _, rfl, hI, hJ, D₂⟩ (ht _)
  rintro k s₃ ⟨i, loc, news, oI, hi, rfl, hI, hJ, D₃⟩
  refine next_list hh D₃ hI (src ax its i loc _ _ hJ (D₃.forget (List.sublist_cons_self _ _))) (fun v oI' s₄ hx hI' D₄ => ?_) fun s₄ hx D₄ => ?_
  · have hlt := (Array.getElem?_eq_some_iff.mp hx).1
    refine wpAny_mono (turn ax its i v loc news s₄ I oI' hx hJ D₄) (fun _ s₅ h₅ => wpC_mono h₅ (fun f s₆ h₆ => ?_) fun _ _ x => x.elim) fun _ _ x => x.elim
    cases f with
    | next => obtain ⟨loc', news', hJ', D'⟩ := h₆; exact ⟨_, by omega, i + 1, loc', news', oI', hlt, rfl, hI', hJ', D'⟩
    | cont => obtain ⟨loc', news', hJ', D'⟩ := h₆; exact ⟨_, by omega, i + 1, loc', news', oI', hlt, rfl, hI', hJ', D'⟩
    | brk => exact h₆.elim
    | ret v => exact h₆.elim
  · obtain rfl : i = its.size := Nat.le_antisymm hi hx
    exact fin ax its loc news s₄ hJ D₄
end

noncomputable def lawD : {x : Scope × Value × List Stmt // ∀ w : World, ∃ oc od params dV kV doc pm an ct osl, (hd.heap_39 w.params).lookup 514 = some ⟨oc, od, .func (fnOf "law" "law" params x.2.2 x.1 dV kV doc pm an x.2.1 ct), osl⟩} := ⟨(_, _, _), fun w => ⟨_, _, _, _, _, _, _, _, _, _, by k_is⟩⟩
noncomputable def rest (k : Nat) : List Stmt := lawD.1.2.2.drop k
noncomputable abbrev lawEnv (L : Addr) : Env := envOf "law" lawD.1.1 L 514 lawD.1.2.1
theorem listN_at {C : Cx} {s : Shared} {loc : List (Str × Value)} {news : List (Addr × Obj)} (D : St C loc news s) {a : Addr} {vs : List Value} {k : Nat} (h : (a, listOf vs.toArray k) ∈ news) : s.heap.IsList a vs.toArray := D.listN h
section
variable {C : Cx} {s s' : Shared} {loc : List (Str × Value)} {news : List (Addr × Obj)} {A : Around}
theorem St.newK (D : St C loc news s) (K : Frames A C.fs C.s₀.heap) (dis : ∀ b ∈ C.fs, b ∉ C.S) {r : Addr} {o : Obj} (x : Rel [] (C.L :: C.fs) s.heap s'.heap) (e : Same s s') (g : s'.heap.get? r = some o) (n : s.heap.get? r = none) : St C loc ((r, o) :: news) s' :=
  D.after x (fun _ z => nomatch z) e [(r, o)] news rfl (fun p hp => by
    rcases List.mem_cons.mp hp with rfl | hp
    · exact g
    · exact x.keep _ _ (fun z => nomatch z) (D.noFrame K dis hp) (D.get (o := p.2) hp)) (by simp) (fun p hp => by simp at hp; subst hp; exact n)
end
theorem noDis {s₀ : Shared} {L : Addr} : ∀ b ∈ (⟨[], [], s₀, L⟩ : Cx).fs, b ∉ (⟨[], [], s₀, L⟩ : Cx).S := fun _ z => nomatch z

section
variable {prog : Program} {w : World} {A : Around} {s₀ : Shared} {mg mb : Str → Option Value} {QF : Flow → Shared → Prop} {EF : Value → Shared → Prop} {L : Addr} {s : Shared}
def textsL (gs : List Nat) (k : Nat) : List (List Nat) := [joinL [58] (gs.map hexL), joinL [58] (gs.map wideL), shownL gs] ++ ((rowsL gs 0).take k).map fun r => withoutL gs r.1 r.2
theorem texts_snoc {gs : List Nat} {j : Nat} {r : Nat × Nat} (h : (rowsL gs 0)[j]? = some r) : textsL gs (j + 1) = textsL gs j ++ [withoutL gs r.1 r.2] := by
  obtain ⟨hj, rfl⟩ := List.getElem?_eq_some_iff.mp h
  unfold textsL
  rw [List.take_succ_eq_append_getElem hj, List.map_append, List.append_assoc]
  rfl
theorem texts_all {gs : List Nat} {n : Nat} (h : n = (rowsL gs 0).length) : textsL gs n = textsL gs 8 := by
  have := rowsL_len gs 0
  unfold textsL
  rw [List.take_of_length_le (by omega), List.take_of_length_le (by omega)]
theorem texts_count (gs : List Nat) (j : Nat) : (textsL gs j).length ≤ 11 := by
  have := rowsL_len gs 0
  unfold textsL
  simp
  omega
theorem rows_at {tups : List (Addr × Obj)} : ∀ {vs : List Value} {rs : List (Nat × Nat)} {j : Nat} {v : Value}, Paired (isRow tups) vs rs → vs[j]? = some v → ∃ r, rs[j]? = some r ∧ isRow tups v r
  | _, _, 0, _, .cons (b := r) h _, e => ⟨r, rfl, by simp at e; rw [← e]; exact h⟩
  | _, _, j + 1, _, .cons _ t, e => rows_at (j := j) t (by simpa using e)
set_option maxHeartbeats 4000000 in
theorem seg12 {gs : List Nat} {gv rv ov dv : List Value} {gl ol l5 rl : Addr} {kg ko kd : Nat} {rlo : Obj} {tups : List (Addr × Obj)} {g : Bool} {t1 t2 t3 : Tok}
    (W : WF w mg mb s₀.heap) (K : Frames A [] s₀.heap) (hA : A.depth < 350) (hgv : Nats gv gs) (hgz : ∀ n ∈ gs, n < 65536) (hgl8 : gs.length = 8)
    (hrc : rlo.cls = .type "list") (hrd : ∃ n, rlo.data = .seq rv.toArray n) (hrp : Paired (isRow tups) rv (rowsL gs 0))
    (D : St ⟨[], [], s₀, L⟩ [("good", .bool g), ("shown", .str (T (shownL gs)) t1), ("wide", .str (T (joinL [58] (gs.map wideL))) t2), ("text", .str (T (joinL [58] (gs.map hexL))) t3), ("rows", .ref rl), ("octets", .ref ol), ("groups", .ref gl), ("drawn", .ref l5)]
      ((ol, listOf ov.toArray ko) :: (gl, listOf gv.toArray kg) :: (l5, listOf dv.toArray kd) :: (rl, rlo) :: tups) s)
    (k : ∀ tl tv kt s, Txts tv (textsL gs 8) → St ⟨[], [], s₀, L⟩ [("texts", .ref tl), ("good", .bool g), ("shown", .str (T (shownL gs)) t1), ("wide", .str (T (joinL [58] (gs.map wideL))) t2), ("text", .str (T (joinL [58] (gs.map hexL))) t3), ("octets", .ref ol), ("drawn", .ref l5)]
      [(tl, listOf tv.toArray kt), (ol, listOf ov.toArray ko), (l5, listOf dv.toArray kd)] s → wpC (model prog w) (A.deeper (lawEnv L)) (execs (rest 14) (lawEnv L)) QF EF s) :
    wpC (model prog w) (A.deeper (lawEnv L)) (execs (rest 12) (lawEnv L)) QF EF s := by
  have hh : A.handled = none := K.calm
  refine wpC_execs_cons (wpC_of ?_)
  fail "qgo"
  obtain ⟨tl, etl⟩ : ∃ tl : Addr, tl = ad := ⟨_, rfl⟩
  subst etl
  refine wpC_execs_cons (for_listT D hh rv.toArray rl (fun j loc news => ∃ tv kt, loc = ([("texts", .ref tl), ("good", .bool g), ("shown", .str (T (shownL gs)) t1), ("wide", .str (T (joinL [58] (gs.map wideL))) t2), ("text", .str (T (joinL [58] (gs.map hexL))) t3), ("rows", .ref rl), ("octets", .ref ol), ("groups", .ref gl), ("drawn", .ref l5)] : List (Str × Value)) ∧
        news = (tl, listOf tv.toArray kt) :: (ol, listOf ov.toArray ko) :: (gl, listOf gv.toArray kg) :: (l5, listOf dv.toArray kd) :: (rl, rlo) :: tups ∧ Txts tv (textsL gs j)) ?_ ?_ ?_ ?_ ?_ (by intro _; rfl))
  · fail "qgo"
    exact ⟨rfl, D.isListD (by fail "qin") hrc hrd, _, _, ⟨_, _, rfl, rfl, .cons ⟨_, rfl⟩ (.cons ⟨_, rfl⟩ (.cons ⟨_, rfl⟩ .nil))⟩, D⟩
  · rintro j _ _ s ⟨tv, kt, rfl, rfl, htv⟩ D
    exact D.isListD (by fail "qin") hrc hrd
  · clear D
    rintro j v _ _ s I oI hj ⟨tv, kt, rfl, rfl, htv⟩ D
    rw [List.getElem?_toArray] at hj
    obtain ⟨r, hr, b, u1, u2, rfl, hb⟩ := rows_at hrp hj
    refine r_unpack2 D hh (v1 := .int r.1 u1) (v2 := .int r.2 u2) (D.tupN (by simp [hb])) ?_
    clear D; intro s D
    fail "qgo"
    have htl := htv.length
    have htc := texts_count gs j
    refine wpC_of ?_
    fail "qgo"
    refine without_ok (D.wf W) (by show A.depth + 1 < _; omega) hh (D.listN (k := kg) (by fail "qin")) hgv hgz (by omega) ?_
    intro s' t' x5 e5
    replace D := D.pureCall x5 e5
    clear x5 e5
    fail "qgo"
    exact ⟨_, _, ⟨tv ++ [.str (T (withoutL gs r.1 r.2)) t'], _, rfl, rfl, by rw [texts_snoc hr]; exact pd_app htv (.cons ⟨_, rfl⟩ .nil)⟩, D.to (by fail "qsub") (by kernel_rfl)⟩
  · clear D
    rintro _ _ s ⟨tv, kt, rfl, rfl, htv⟩ D
    rw [texts_all (by rw [List.size_toArray]; exact hrp.length)] at htv
    refine k tl tv kt s htv ((D.to (by fail "qsub") (by kernel_rfl)).drop ?_)
    exact .cons_cons _ (.cons_cons _ (.cons _ (.cons_cons _ (.cons _ (List.nil_sublist _)))))
  · intro j v hj
    rw [List.getElem?_toArray] at hj
    obtain ⟨r, hr, b, u1, u2, rfl, hb⟩ := rows_at hrp hj
    exact ⟨b, rfl⟩
end

theorem texts_ok {gs : List Nat} (hl : gs.length = 8) (hz : ∀ g ∈ gs, g < 65536) {k : Nat} : ∀ l ∈ textsL gs k, ParseOK l (octsOf gs) := by
  intro l h
  unfold textsL at h
  rcases List.mem_append.mp h with h | h
  · simp only [List.mem_cons, List.not_mem_nil, or_false] at h
    rcases h with rfl | rfl | rfl
    · exact parse_text hl hz
    · exact parse_wide hl hz
    · exact parse_shown hl hz
  · obtain ⟨r, hr, rfl⟩ := List.mem_map.mp h
    exact parse_row hl hz (List.mem_of_mem_take hr)
theorem txts_at : ∀ {vs : List Value} {ls : List (List Nat)} {j : Nat} {v : Value}, Txts vs ls → vs[j]? = some v → ∃ l, l ∈ ls ∧ isTxt v l
  | _, _, 0, _, .cons (b := l) h _, e => ⟨l, .head _, by simp at e; rw [← e]; exact h⟩
  | _, _, j + 1, _, .cons _ t, e => by
    obtain ⟨l, h1, h2⟩ := txts_at (j := j) t (by simpa using e)
    exact ⟨l, .tail _ h1, h2⟩
section
variable {prog : Program} {w : World} {A : Around} {s₀ : Shared} {mg mb : Str → Option Value} {QF : Flow → Shared → Prop} {EF : Value → Shared → Prop} {L : Addr} {s : Shared}
set_option maxHeartbeats 4000000 in
theorem seg14 {gs : List Nat} {ov dv tv : List Value} {tl ol l5 : Addr} {kt ko kd : Nat} {t1 t2 t3 : Tok}
    (W : WF w mg mb s₀.heap) (K : Frames A [] s₀.heap) (hA : A.depth < 350) (hu : A.units < 1000) (hgz : ∀ n ∈ gs, n < 65536) (hgl8 : gs.length = 8) (hov : Nats ov (octsOf gs)) (htv : Txts tv (textsL gs 8))
    (D : St ⟨[], [], s₀, L⟩ [("texts", .ref tl), ("good", .bool true), ("shown", .str (T (shownL gs)) t1), ("wide", .str (T (joinL [58] (gs.map wideL))) t2), ("text", .str (T (joinL [58] (gs.map hexL))) t3), ("octets", .ref ol), ("drawn", .ref l5)]
      [(tl, listOf tv.toArray kt), (ol, listOf ov.toArray ko), (l5, listOf dv.toArray kd)] s)
    (k : ∀ s, St ⟨[], [], s₀, L⟩ [("good", .bool true), ("shown", .str (T (shownL gs)) t1), ("wide", .str (T (joinL [58] (gs.map wideL))) t2), ("text", .str (T (joinL [58] (gs.map hexL))) t3), ("octets", .ref ol), ("drawn", .ref l5)]
      [(ol, listOf ov.toArray ko), (l5, listOf dv.toArray kd)] s → wpC (model prog w) (A.deeper (lawEnv L)) (execs (rest 15) (lawEnv L)) QF EF s) :
    wpC (model prog w) (A.deeper (lawEnv L)) (execs (rest 14) (lawEnv L)) QF EF s := by
  have hh : A.handled = none := K.calm
  have hol := hov.length
  rw [octsOf_len, hgl8] at hol
  refine wpC_execs_cons (for_listC D hh tv.toArray tl (fun _ loc news => loc = ([("texts", .ref tl), ("good", .bool true), ("shown", .str (T (shownL gs)) t1), ("wide", .str (T (joinL [58] (gs.map wideL))) t2), ("text", .str (T (joinL [58] (gs.map hexL))) t3), ("octets", .ref ol), ("drawn", .ref l5)] : List (Str × Value)) ∧
        news = [(tl, listOf tv.toArray kt), (ol, listOf ov.toArray ko), (l5, listOf dv.toArray kd)]) ?_ ?_ ?_ ?_ (by intro _; rfl) (by intro _ _; rfl))
  · fail "qgo"
    exact ⟨rfl, D.listN (by fail "qin"), _, _, ⟨rfl, rfl⟩, D⟩
  · rintro j _ _ s ⟨rfl, rfl⟩ D
    exact D.listN (by fail "qin")
  · clear D
    rintro j v _ _ s I oI hj ⟨rfl, rfl⟩ D
    rw [List.getElem?_toArray] at hj
    obtain ⟨l, hl, t, rfl⟩ := txts_at htv hj
    have hp := texts_ok hgl8 hgz l hl
    fail "qgo"
    refine wpC_of ?_
    fail "qgo"
    refine PyProof.Rows.BoolOp_and ?_
    fail "qgo"
    refine PyProof.Rows.BoolOp_one ?_
    fail "qgo"
    refine parse_call hp (D.wf W) (K.deeper W D noDis rfl) (by show A.depth + 1 < _; omega) ?_
    intro r vs s' x5 e5 g5 n5 hv
    replace D := D.newK K noDis x5 e5 g5 n5
    clear x5 e5 g5 n5
    fail "qgo"
    refine r_tuplist (vs := ov) D (D.listN (k := ko) (by fail "qin")) (by omega) ?_
    clear D; intro r2 s D
    refine eq_tups (D.get (a := r) (by fail "qin")) (D.get (a := r2) (by fail "qin")) hv hov (by show A.units + 3 < _; omega) ?_
    rw [decide_eq_true rfl]
    fail "qgo"
    exact ⟨_, _, ⟨rfl, rfl⟩, (D.to (by fail "qsub") (by kernel_rfl)).drop (by fail "qsb")⟩
  · clear D
    rintro _ _ s ⟨rfl, rfl⟩ D
    exact k s ((D.to (by fail "qsub") (by kernel_rfl)).drop (by fail "qsb"))
end

section
variable {prog : Program} {w : World} {A : Around} {E : Value → Shared → Prop} {s s₀ : Shared} {mg mb : Str → Option Value} {Q : Value → Shared → Prop} {C : Cx} {loc : List (Str × Value)} {news : List (Addr × Obj)} {l ns : List Nat} {vs : List Value} {t : Tok} {a : Addr} {fs : List Addr}
theorem new6_text (D : St C loc news s) (W : WF w mg mb C.s₀.heap) (K : Frames A (C.L :: C.fs) s.heap) (hnf : ∀ p ∈ news, p.1 ∉ C.L :: C.fs) (hA : A.depth < 380) (hg : A.guards = some []) (hu : A.units < 1600) (hp : ParseOK l ns) (hn : ns.length = 16) (hz : ∀ n ∈ ns, n ≤ 255)
    (k : ∀ x dx r tk vs s', Nats vs ns → St C loc ((x, instObj 467 dx) :: (dx, dictOf [ent w "data" tk (.ref r)] 1) :: (r, tupOf vs.toArray) :: news) s' → 515 ≤ x → 515 ≤ dx → Q (.ref x) s') : wpAny (model prog w) A (call (.ref 467) [.str (T l) t]) Q E s := by
  refine new_ok (fI := 450) (ns := ns) D W K hnf (by k_is) (by k_is) (by k_is) (fun s₁ x dx R W1 K1 x1 ndx gx gd lo ne nfs kk => ?_) k
  exact init6_text hp W1 K1 (by rw [depth_cls]; omega) (by rw [guards_cls]; exact hg) (Nat.lt_of_le_of_lt units_cls (by omega)) gx gd lo ne nfs hn hz kk
theorem new6_list (D : St C loc news s) (W : WF w mg mb C.s₀.heap) (K : Frames A (C.L :: C.fs) s.heap) (hnf : ∀ p ∈ news, p.1 ∉ C.L :: C.fs) (hA : A.depth < 380) (hg : A.guards = some []) (hu : A.units < 1600) {k0 : Nat} (hl : (a, listOf vs.toArray k0) ∈ news) (hv : Nats vs ns) (hn : ns.length = 16) (hz : ∀ n ∈ ns, n ≤ 255)
    (k : ∀ x dx r tk vs s', Nats vs ns → St C loc ((x, instObj 467 dx) :: (dx, dictOf [ent w "data" tk (.ref r)] 1) :: (r, tupOf vs.toArray) :: news) s' → 515 ≤ x → 515 ≤ dx → Q (.ref x) s') : wpAny (model prog w) A (call (.ref 467) [.ref a]) Q E s := by
  refine new_ok (fI := 450) (ns := ns) D W K hnf (by k_is) (by k_is) (by k_is) (fun s₁ x dx R W1 K1 x1 ndx gx gd lo ne nfs kk => ?_) k
  have ha := D.get hl
  refine init6_list W1 K1 (by rw [depth_cls]; omega) (by rw [guards_cls]; exact hg) (Nat.lt_of_le_of_lt units_cls (by omega)) gx gd lo ne nfs ⟨_, x1.keep _ _ (fun z => nomatch z) (fun z => nomatch z) ha, rfl, _, rfl⟩ ⟨fun e => ?_, hnf _ hl⟩ hv hn hz (fun t tk s' q1 q2 q3 q4 q5 => kk t tk vs s' hv q1 q2 q3 q4 q5)
  rw [← e, ha] at ndx
  cases ndx
theorem ref6_text (W : WF w mg mb s₀.heap) (K : Frames A fs s₀.heap) (hA : A.depth < 370) (hg : A.guards = some []) (hu : A.units < 1500) (hp : ParseOK l ns) (hl : ns.length ≤ 100) (hz : ∀ n ∈ ns, n < 100000) (hb : ¬ (ns.length = 16 ∧ ∀ n ∈ ns, n ≤ 255))
    (k : ∀ s', Rel [] fs s₀.heap s'.heap → Same s₀ s' → Q (.bool true) s') : wpAny (model prog w) A (call (.ref 502) [.ref 467, .str (T l) t]) Q E s₀ := by
  refine refused_467 W K (by omega) (fun A' L s₁ loc Q' E' D K' d g u kk => ?_) k
  refine new_bad (fI := 450) D W K' (by k_is) (by k_is) (by k_is) (fun s₂ x R W1 K1 x1 kk1 => ?_) kk
  exact init6_text_bad hp W1 K1 (by rw [depth_cls, d]; omega) (by rw [guards_cls, g]; exact hg) (Nat.lt_of_le_of_lt units_cls (by rw [u]; omega)) hl hz hb kk1
theorem ref6_list (W : WF w mg mb s₀.heap) (K : Frames A fs s₀.heap) (hA : A.depth < 370) (hg : A.guards = some []) (hu : A.units < 1500) {k0 : Nat} (ha : s₀.heap.get? a = some (listOf vs.toArray k0)) (nf : a ∉ fs) (hv : Nats vs ns) (hl : ns.length ≤ 100) (hz : ∀ n ∈ ns, n < 100000) (hb : ¬ (ns.length = 16 ∧ ∀ n ∈ ns, n ≤ 255))
    (k : ∀ s', Rel [] fs s₀.heap s'.heap → Same s₀ s' → Q (.bool true) s') : wpAny (model prog w) A (call (.ref 502) [.ref 467, .ref a]) Q E s₀ := by
  refine refused_467 W K (by omega) (fun A' L s₁ loc Q' E' D K' d g u kk => ?_) k
  have ha1 := D.old ha (fun z => nomatch z) nf
  refine new_bad (fI := 450) D W K' (by k_is) (by k_is) (by k_is) (fun s₂ x R W1 K1 x1 kk1 => ?_) kk
  have ha2 := x1.keep _ _ (fun z => nomatch z) (fun z => nomatch z) ha1
  have nL : a ∉ L :: fs := fun z => by
    rcases List.mem_cons.mp z with rfl | z
    · exact absurd (Heap.lt_size ha) (Nat.not_lt.mpr D.fresh.1)
    · exact nf z
  exact init6_list_bad W1 K1 (by rw [depth_cls, d]; omega) (by rw [guards_cls, g]; exact hg) (Nat.lt_of_le_of_lt units_cls (by rw [u]; omega)) ⟨_, ha2, rfl, _, rfl⟩ nL hv hl hz hb kk1
theorem new4_text (D : St C loc news s) (W : WF w mg mb C.s₀.heap) (K : Frames A (C.L :: C.fs) s.heap) (hnf : ∀ p ∈ news, p.1 ∉ C.L :: C.fs) (hA : A.depth < 380) (hg : A.guards = some []) (hu : A.units < 1600) (hp : DotOK l ns) (hn : ns.length = 4) (hz : ∀ n ∈ ns, n ≤ 255)
    (k : ∀ x dx r tk vs s', Nats vs ns → St C loc ((x, instObj 347 dx) :: (dx, dictOf [ent w "data" tk (.ref r)] 1) :: (r, tupOf vs.toArray) :: news) s' → 515 ≤ x → 515 ≤ dx → Q (.ref x) s') : wpAny (model prog w) A (call (.ref 347) [.str (T l) t]) Q E s := by
  refine new_ok (fI := 330) (ns := ns) D W K hnf (by k_is) (by k_is) (by k_is) (fun s₁ x dx R W1 K1 x1 ndx gx gd lo ne nfs kk => ?_) k
  exact init4_text hp W1 K1 (by rw [depth_cls]; omega) (by rw [guards_cls]; exact hg) (Nat.lt_of_le_of_lt units_cls (by omega)) gx gd lo ne nfs hn hz kk
theorem new4_list (D : St C loc news s) (W : WF w mg mb C.s₀.heap) (K : Frames A (C.L :: C.fs) s.heap) (hnf : ∀ p ∈ news, p.1 ∉ C.L :: C.fs) (hA : A.depth < 380) (hg : A.guards = some []) (hu : A.units < 1600) {k0 : Nat} (hl : (a, listOf vs.toArray k0) ∈ news) (hv : Nats vs ns) (hn : ns.length = 4) (hz : ∀ n ∈ ns, n ≤ 255)
    (k : ∀ x dx r tk vs s', Nats vs ns → St C loc ((x, instObj 347 dx) :: (dx, dictOf [ent w "data" tk (.ref r)] 1) :: (r, tupOf vs.toArray) :: news) s' → 515 ≤ x → 515 ≤ dx → Q (.ref x) s') : wpAny (model prog w) A (call (.ref 347) [.ref a]) Q E s := by
  refine new_ok (fI := 330) (ns := ns) D W K hnf (by k_is) (by k_is) (by k_is) (fun s₁ x dx R W1 K1 x1 ndx gx gd lo ne nfs kk => ?_) k
  have ha := D.get hl
  refine init4_list W1 K1 (by rw [depth_cls]; omega) (by rw [guards_cls]; exact hg) (Nat.lt_of_le_of_lt units_cls (by omega)) gx gd lo ne nfs ⟨_, x1.keep _ _ (fun z => nomatch z) (fun z => nomatch z) ha, rfl, _, rfl⟩ ⟨fun e => ?_, hnf _ hl⟩ hv hn hz (fun t tk s' q1 q2 q3 q4 q5 => kk t tk vs s' hv q1 q2 q3 q4 q5)
  rw [← e, ha] at ndx
  cases ndx
theorem ref4_text (W : WF w mg mb s₀.heap) (K : Frames A fs s₀.heap) (hA : A.depth < 370) (hg : A.guards = some []) (hu : A.units < 1500) (hp : DotOK l ns) (hl : ns.length ≤ 100) (hz : ∀ n ∈ ns, n < 100000) (hb : ¬ (ns.length = 4 ∧ ∀ n ∈ ns, n ≤ 255))
    (k : ∀ s', Rel [] fs s₀.heap s'.heap → Same s₀ s' → Q (.bool true) s') : wpAny (model prog w) A (call (.ref 502) [.ref 347, .str (T l) t]) Q E s₀ := by
  refine refused_347 W K (by omega) (fun A' L s₁ loc Q' E' D K' d g u kk => ?_) k
  refine new_bad (fI := 330) D W K' (by k_is) (by k_is) (by k_is) (fun s₂ x R W1 K1 x1 kk1 => ?_) kk
  exact init4_text_bad hp W1 K1 (by rw [depth_cls, d]; omega) (by rw [guards_cls, g]; exact hg) (Nat.lt_of_le_of_lt units_cls (by rw [u]; omega)) hl hz hb kk1
theorem ref4_list (W : WF w mg mb s₀.heap) (K : Frames A fs s₀.heap) (hA : A.depth < 370) (hg : A.guards = some []) (hu : A.units < 1500) {k0 : Nat} (ha : s₀.heap.get? a = some (listOf vs.toArray k0)) (nf : a ∉ fs) (hv : Nats vs ns) (hl : ns.length ≤ 100) (hz : ∀ n ∈ ns, n < 100000) (hb : ¬ (ns.length = 4 ∧ ∀ n ∈ ns, n ≤ 255))
    (k : ∀ s', Rel [] fs s₀.heap s'.heap → Same s₀ s' → Q (.bool true) s') : wpAny (model prog w) A (call (.ref 502) [.ref 347, .ref a]) Q E s₀ := by
  refine refused_347 W K (by omega) (fun A' L s₁ loc Q' E' D K' d g u kk => ?_) k
  have ha1 := D.old ha (fun z => nomatch z) nf
  refine new_bad (fI := 330) D W K' (by k_is) (by k_is) (by k_is) (fun s₂ x R W1 K1 x1 kk1 => ?_) kk
  have ha2 := x1.keep _ _ (fun z => nomatch z) (fun z => nomatch z) ha1
  have nL : a ∉ L :: fs := fun z => by
    rcases List.mem_cons.mp z with rfl | z
    · exact absurd (Heap.lt_size ha) (Nat.not_lt.mpr D.fresh.1)
    · exact nf z
  exact init4_list_bad W1 K1 (by rw [depth_cls, d]; omega) (by rw [guards_cls, g]; exact hg) (Nat.lt_of_le_of_lt units_cls (by rw [u]; omega)) ⟨_, ha2, rfl, _, rfl⟩ nL hv hl hz hb kk1
theorem ref6_g (W : WF w mg mb s₀.heap) (K : Frames A fs s₀.heap) (hA : A.depth < 370) (hp : ParseBad l)
    (k : ∀ s', Rel [] fs s₀.heap s'.heap → Same s₀ s' → Q (.bool true) s') : wpC (model prog w) A (call (.ref 502) [.ref 467, .str (T l) t]) Q E s₀ := by
  refine refused_467C W K (by omega) (fun A' L s₁ loc Q' E' D K' d g u kk => ?_) k
  refine new_badC (fI := 450) (D.wf W) K' (by k_is) (by k_is) (by k_is) (fun s₂ x R W1 K1 x1 kk1 => ?_) kk
  exact init6_g hp W1 K1 (by rw [depth_cls, d]; omega) kk1
theorem ref4_x (W : WF w mg mb s₀.heap) (K : Frames A fs s₀.heap) (hA : A.depth < 370) (hp : DotX l)
    (k : ∀ s', Rel [] fs s₀.heap s'.heap → Same s₀ s' → Q (.bool true) s') : wpC (model prog w) A (call (.ref 502) [.ref 347, .str (T l) t]) Q E s₀ := by
  refine refused_347C W K (by omega) (fun A' L s₁ loc Q' E' D K' d g u kk => ?_) k
  refine new_badC (fI := 330) (D.wf W) K' (by k_is) (by k_is) (by k_is) (fun s₂ x R W1 K1 x1 kk1 => ?_) kk
  exact init4_x hp W1 K1 (by rw [depth_cls, d]; omega) kk1
end
section
variable {C : Cx} {s s' : Shared} {loc : List (Str × Value)} {news : List (Addr × Obj)} {w : World} {px pdx pb : Addr} {ta tb tc tc' : Tok} {i j : Int} {l m : List Nat}
/-- a buffer, packed into -/
theorem St.packs (D : St C loc ((px, instObj 166 pdx) :: (pdx, dictOf [ent w "data" ta (.ref pb), ent w "offset" tb (.int i tc)] 2) :: (pb, baObj (BA l)) :: news) s)
    (x : Rel [pdx, pb] [] s.heap s'.heap) (e : Same s s') (h1 : s'.heap.get? pdx = some (dictOf [ent w "data" ta (.ref pb), ent w "offset" tb (.int j tc')] 2)) (h2 : s'.heap.get? pb = some (baObj (BA m))) :
    St C loc ((px, instObj 166 pdx) :: (pdx, dictOf [ent w "data" ta (.ref pb), ent w "offset" tb (.int j tc')] 2) :: (pb, baObj (BA m)) :: news) s' := by
  have hq := D.ord
  simp only [List.map_cons, List.nodup_cons, List.mem_cons, not_or, List.mem_map, not_exists, not_and] at hq
  refine D.after (S' := [pdx, pb]) (x.mono (fun _ z => z) (fun _ z => nomatch z)) (fun a ha => by simp at ha; rcases ha with rfl | rfl <;> simp) e [] _ rfl (fun p hp => ?_) (by simp) (fun p hp => nomatch hp)
  simp only [List.nil_append, List.mem_cons] at hp
  rcases hp with rfl | rfl | rfl | hp
  · exact x.keep _ _ (by simp; exact ⟨hq.1.1, hq.1.2.1⟩) (fun z => nomatch z) (D.get (by simp))
  · exact h1
  · exact h2
  · refine x.keep _ _ ?_ (fun z => nomatch z) (D.get (o := p.2) (by simp [hp]))
    simp
    exact ⟨fun q => hq.2.1.2 _ hp q, fun q => hq.2.2.1 _ hp q⟩
end
section
variable {C : Cx} {s s' : Shared} {loc : List (Str × Value)} {news : List (Addr × Obj)} {w : World} {A : Around} {bx bdx bb y dy t cl : Addr} {o1 o2 o3 : Obj} {tk : Tok} {vs : List Value}
/-- an address, parsed from a buffer that is then forgotten -/
theorem St.parsed (D : St C loc ((bx, o1) :: (bdx, o2) :: (bb, o3) :: news) s) (K : Frames A C.fs C.s₀.heap) (dis : ∀ b ∈ C.fs, b ∉ C.S) (x : Rel [bdx] (C.L :: C.fs) s.heap s'.heap) (e : Same s s')
    (g1 : s'.heap.get? y = some (instObj cl dy)) (g2 : s'.heap.get? dy = some (dictOf [ent w "data" tk (.ref t)] 1)) (g3 : s'.heap.get? t = some (tupOf vs.toArray)) (n1 : s.heap.get? y = none) (n2 : s.heap.get? dy = none) (n3 : s.heap.get? t = none) (ne : y ≠ dy) :
    St C loc ((y, instObj cl dy) :: (dy, dictOf [ent w "data" tk (.ref t)] 1) :: (t, tupOf vs.toArray) :: news) s' := by
  have hq := D.ord
  simp only [List.map_cons, List.nodup_cons, List.mem_cons, not_or, List.mem_map, not_exists, not_and] at hq
  have q1 : y ≠ t := fun z => by rw [z, g3] at g1; cases g1
  have q2 : dy ≠ t := fun z => by rw [z, g3] at g2; exact nomatch congrArg Obj.data (Option.some.inj g2)
  refine D.afterSub (S' := [bdx]) x (fun a ha => by simp at ha; subst ha; simp) e [(y, instObj cl dy), (dy, dictOf [ent w "data" tk (.ref t)] 1), (t, tupOf vs.toArray)] news ?_ (fun p hp => ?_) (by simp [ne, q1, q2]) (fun p hp => ?_)
  · simp only [List.map_cons]
    exact .cons _ (.cons _ (.cons _ (List.Sublist.refl _)))
  · simp only [List.cons_append, List.nil_append, List.mem_cons] at hp
    rcases hp with rfl | rfl | rfl | hp
    · exact g1
    · exact g2
    · exact g3
    · exact x.keep _ _ (by simp; exact fun q => hq.2.1.2 _ hp q) (D.noFrame K dis (p := p) (by simp [hp])) (D.get (o := p.2) (by simp [hp]))
  · simp only [List.mem_cons, List.not_mem_nil, or_false] at hp
    rcases hp with rfl | rfl | rfl <;> assumption
end

section
variable {prog : Program} {w : World} {A : Around} {s₀ : Shared} {mg mb : Str → Option Value} {QF : Flow → Shared → Prop} {EF : Value → Shared → Prop} {L : Addr} {s : Shared}
set_option maxHeartbeats 4000000 in
theorem seg15 {gs : List Nat} {ov dv : List Value} {ol l5 : Addr} {ko kd : Nat} {t1 t2 t3 : Tok}
    (W : WF w mg mb s₀.heap) (K : Frames A [] s₀.heap) (hA : A.depth < 350) (hg : A.guards = some []) (hu : A.units < 1000) (hgz : ∀ n ∈ gs, n < 65536) (hgl8 : gs.length = 8)
    (D : St ⟨[], [], s₀, L⟩ [("good", .bool true), ("shown", .str (T (shownL gs)) t1), ("wide", .str (T (joinL [58] (gs.map wideL))) t2), ("text", .str (T (joinL [58] (gs.map hexL))) t3), ("octets", .ref ol), ("drawn", .ref l5)]
      [(ol, listOf ov.toArray ko), (l5, listOf dv.toArray kd)] s)
    (k : ∀ x dx r tk vs px pdx pb ta tb i tc s, Nats vs (octsOf gs) → St ⟨[], [], s₀, L⟩ [("packed", .ref px), ("address", .ref x), ("good", .bool true), ("shown", .str (T (shownL gs)) t1), ("text", .str (T (joinL [58] (gs.map hexL))) t3), ("octets", .ref ol), ("drawn", .ref l5)]
      [(px, instObj 166 pdx), (pdx, dictOf [ent w "data" ta (.ref pb), ent w "offset" tb (.int i tc)] 2), (pb, baObj (BA (octsOf gs))), (x, instObj 467 dx), (dx, dictOf [ent w "data" tk (.ref r)] 1), (r, tupOf vs.toArray), (ol, listOf ov.toArray ko), (l5, listOf dv.toArray kd)] s → wpC (model prog w) (A.deeper (lawEnv L)) (execs (rest 18) (lawEnv L)) QF EF s) :
    wpC (model prog w) (A.deeper (lawEnv L)) (execs (rest 15) (lawEnv L)) QF EF s := by
  have hh : A.handled = none := K.calm
  have ho := octsOf_len gs
  have hz := octsOf_lt (gs := gs) (k := 256) hgz (by decide)
  refine wpC_execs_cons (wpC_of ?_)
  fail "qgo"
  refine new6_text (ns := octsOf gs) D W (K.deeper W D noDis rfl) (fun p hp => D.noFrame K noDis hp) (by show A.depth + 1 < _; omega) hg (by show A.units + 3 < _; omega) (parse_wide hgl8 hgz) (by omega) (fun n h => by have := hz n h; omega) ?_
  clear D
  intro x dx r tk vs s hv D lx ldx
  fail "qgo"
  refine wpC_execs_cons (wpC_Assign ?_)
  refine wpC_Call ?_ (he := by rfl)
  fail "qgo"
  refine ckC0 (K := hd.heap_39 w.params) ((D.wf W).X) (by k_is) ?_
  refine c_buffer D W (by show A.depth + 1 < _; omega) (.inr ⟨rfl, rfl⟩) (.bytes _ _) (by decide) ?_
  clear D
  intro px pdx pb ta tb tc s D lpx lpdx lpb
  fail "qgo"
  refine wpC_execs_cons (wpC_Expr ?_ (hi := by rfl) (hs := by rfl))
  refine wpC_Method ?_ (he := by rfl)
  fail "qgo"
  fail "qmd"
  refine cmC1 (K := hd.heap_39 w.params) (by k_is) ?_ (by rfl)
  fail "qgo"
  have hq := D.ord
  simp only [List.map_cons, List.map_nil, List.nodup_cons, List.mem_cons, List.not_mem_nil, or_false, not_or] at hq
  obtain ⟨⟨n1, n2, n3, n4, n5, -⟩, ⟨n6, n7, n8, n9, -⟩, ⟨n10, n11, n12, -⟩, -⟩ := hq
  refine apack6 (l := []) (ns := octsOf gs) (D.wf W) (by show A.depth + 1 < _; omega) hh (D.get (by fail "qin")) (D.get (by fail "qin")) (D.get (by fail "qin")) hv (by omega) hz (D.get (by fail "qin")) (D.get (by fail "qin")) (D.get (by fail "qin")) ⟨lpdx, lpb⟩ ⟨n1, n2, n6⟩ (by decide) ⟨Ne.symm n7, Ne.symm n10, Ne.symm n8, Ne.symm n11, Ne.symm n9, Ne.symm n12⟩ ?_
  intro o' t3' s' x5 e5 g5 g6
  replace D := D.packs (l := []) x5 e5 g5 g6
  clear x5 e5 g5 g6
  rw [List.nil_append] at D
  fail "qgo"
  exact k _ _ _ _ _ _ _ _ _ _ _ _ _ hv (D.to (by fail "qsub") (by kernel_rfl))
end

section
variable {prog : Program} {w : World} {A : Around} {s₀ : Shared} {mg mb : Str → Option Value} {QF : Flow → Shared → Prop} {EF : Value → Shared → Prop} {L : Addr} {s : Shared}
set_option maxHeartbeats 4000000 in
theorem seg18 {gs : List Nat} {ov dv vs : List Value} {ol l5 x dx r px pdx pb : Addr} {ko kd : Nat} {t1 t3 tk ta tb tc : Tok} {i : Int}
    (W : WF w mg mb s₀.heap) (K : Frames A [] s₀.heap) (hA : A.depth < 350) (hu : A.units < 1000) (hgz : ∀ n ∈ gs, n < 65536) (hgl8 : gs.length = 8) (hov : Nats ov (octsOf gs)) (hv : Nats vs (octsOf gs))
    (D : St ⟨[], [], s₀, L⟩ [("packed", .ref px), ("address", .ref x), ("good", .bool true), ("shown", .str (T (shownL gs)) t1), ("text", .str (T (joinL [58] (gs.map hexL))) t3), ("octets", .ref ol), ("drawn", .ref l5)]
      [(px, instObj 166 pdx), (pdx, dictOf [ent w "data" ta (.ref pb), ent w "offset" tb (.int i tc)] 2), (pb, baObj (BA (octsOf gs))), (x, instObj 467 dx), (dx, dictOf [ent w "data" tk (.ref r)] 1), (r, tupOf vs.toArray), (ol, listOf ov.toArray ko), (l5, listOf dv.toArray kd)] s)
    (k : ∀ s, St ⟨[], [], s₀, L⟩ [("packed", .ref px), ("address", .ref x), ("good", .bool true), ("shown", .str (T (shownL gs)) t1), ("text", .str (T (joinL [58] (gs.map hexL))) t3), ("octets", .ref ol), ("drawn", .ref l5)]
      [(x, instObj 467 dx), (dx, dictOf [ent w "data" tk (.ref r)] 1), (r, tupOf vs.toArray), (ol, listOf ov.toArray ko), (l5, listOf dv.toArray kd)] s → wpC (model prog w) (A.deeper (lawEnv L)) (execs (rest 19) (lawEnv L)) QF EF s) :
    wpC (model prog w) (A.deeper (lawEnv L)) (execs (rest 18) (lawEnv L)) QF EF s := by
  have hh : A.handled = none := K.calm
  have ho := octsOf_len gs
  have hol := hov.length
  have hz := octsOf_lt (gs := gs) (k := 256) hgz (by decide)
  refine wpC_execs_cons (wpC_of ?_)
  fail "qgo"
  with_reducible refine PyProof.Rows.BoolOp_and ?_
  fail "qgo"
  with_reducible refine PyProof.Rows.BoolOp_and ?_
  fail "qgo"
  fail "qgd"
  refine r_bytes_ba (l := octsOf gs) D (by fail "qin") (by omega) ?_
  clear D; intro s t4 D
  fail "qgo"
  refine r_bytes_list D hh (D.listN (k := ko) (by fail "qin")) hov hz (by omega) ?_
  clear D; intro s t5 D
  refine r_eqbytes hz hz ?_
  rw [decide_eq_true rfl]
  fail "qgo"
  with_reducible refine PyProof.Rows.BoolOp_and ?_
  fail "qgo"
  refine r_repr D W (by show A.units + 3 < _; omega) (D.get (a := x) (by fail "qin")) (D.get (a := dx) (by fail "qin")) (f := 464) (by k_is) (by k_is) ?_
  refine repr6 (D.wf W) (by show A.depth + 1 < _; omega) hh (D.get (by fail "qin")) (D.get (by fail "qin")) (D.get (by fail "qin")) hv (by omega) hz ?_
  intro s' t' x5 e5
  refine ⟨_, _, rfl, ?_⟩
  replace D := D.pureCall x5 e5
  clear x5 e5
  rw [fmt_is_shown hgl8]
  fail "qgo"
  rw [decide_eq_true rfl]
  fail "qgo"
  with_reducible refine PyProof.Rows.BoolOp_one ?_
  fail "qgo"
  fail "qmd"
  fail "qcm"
  refine zone6 (D.wf W) (by show A.depth + 1 < _; omega) (by show A.units + 3 < _; omega) hh (D.get (by fail "qin")) (D.get (by fail "qin")) (D.get (by fail "qin")) hv (by omega) hz ?_
  intro s' t' x5 e5
  replace D := D.pureCall x5 e5
  clear x5 e5
  rw [fmt_is_shown hgl8]
  fail "qgo"
  rw [decide_eq_true rfl] at D
  exact k _ ((D.to (by fail "qsub") (by kernel_rfl)).drop (by fail "qsb"))
end

section
variable {prog : Program} {w : World} {A : Around} {s₀ : Shared} {mg mb : Str → Option Value} {QF : Flow → Shared → Prop} {EF : Value → Shared → Prop} {L : Addr} {s : Shared}
set_option maxHeartbeats 4000000 in
theorem seg19 {gs : List Nat} {ov dv vs : List Value} {ol l5 x dx r px : Addr} {ko kd : Nat} {t1 t3 tk : Tok}
    (W : WF w mg mb s₀.heap) (K : Frames A [] s₀.heap) (hA : A.depth < 350) (hg : A.guards = some []) (hu : A.units < 1000) (hgz : ∀ n ∈ gs, n < 65536) (hgl8 : gs.length = 8) (hov : Nats ov (octsOf gs)) (hv : Nats vs (octsOf gs))
    (D : St ⟨[], [], s₀, L⟩ [("packed", .ref px), ("address", .ref x), ("good", .bool true), ("shown", .str (T (shownL gs)) t1), ("text", .str (T (joinL [58] (gs.map hexL))) t3), ("octets", .ref ol), ("drawn", .ref l5)]
      [(x, instObj 467 dx), (dx, dictOf [ent w "data" tk (.ref r)] 1), (r, tupOf vs.toArray), (ol, listOf ov.toArray ko), (l5, listOf dv.toArray kd)] s)
    (k : ∀ s, St ⟨[], [], s₀, L⟩ [("packed", .ref px), ("address", .ref x), ("good", .bool true), ("text", .str (T (joinL [58] (gs.map hexL))) t3), ("octets", .ref ol), ("drawn", .ref l5)]
      [(x, instObj 467 dx), (dx, dictOf [ent w "data" tk (.ref r)] 1), (r, tupOf vs.toArray), (ol, listOf ov.toArray ko), (l5, listOf dv.toArray kd)] s → wpC (model prog w) (A.deeper (lawEnv L)) (execs (rest 20) (lawEnv L)) QF EF s) :
    wpC (model prog w) (A.deeper (lawEnv L)) (execs (rest 19) (lawEnv L)) QF EF s := by
  have hh : A.handled = none := K.calm
  have ho := octsOf_len gs
  have hol := hov.length
  have hz := octsOf_lt (gs := gs) (k := 256) hgz (by decide)
  refine wpC_execs_cons (wpC_Assign ?_)
  refine wpC_BoolOp_and (wpC_of ?_)
  fail "qgo"
  refine wpC_BoolOp_and ?_
  refine wpC_Compare1 ?_
  refine wpC_Method ?_ (he := by rfl)
  fail "qgo"
  refine r_clsm (p := 431) (f := .ref 429) (rest := _) D W (by k_is) (by k_is) (by k_is) (by k_is) (by k_is) ?_
  clear D
  intro q s D
  dsimp only
  refine cmCC2 (K := hd.heap_39 w.params) (g := 429) (self := .ref 467) (by k_is) ?_ (by rfl) (by rfl)
  refine wpC_Call ?_ (he := by rfl)
  fail "qgo"
  refine ckC1 (K := hd.heap_39 w.params) (by k_is) ?_ (by rfl)
  fail "qgo"
  refine c_buffer D W (by show A.depth + 1 < _; omega) (.inl rfl) (src_nats (D.listN (k := ko) (by fail "qin")) hov hz) (by rw [BA_size]; omega) ?_
  clear D
  intro bx bdx bb b1 b2 b3 s D lbx lbdx lbb
  fail "qgo"
  have hq := D.ord
  simp only [List.map_cons, List.map_nil, List.nodup_cons, List.mem_cons, List.not_mem_nil, or_false, not_or] at hq
  obtain ⟨⟨n1, n2, -⟩, ⟨n6, -⟩, -⟩ := hq
  refine ⟨⟨D.get (by fail "qin"), (D.wf W).X⟩, wpC_of ?_⟩
  refine r_callm D (f := .ref 429) (self := .ref 467) (by fail "qin") ?_
  refine parse6_obj (D.wf W) (K.deeper W D noDis rfl) (by show A.depth + 1 < _; omega) hg (by show A.units + 3 < _; omega) (D.get (by fail "qin")) (D.get (by fail "qin")) (D.get (by fail "qin")) (by omega) hz lbdx ⟨n1, Ne.symm n6⟩ ⟨D.noFrame K noDis (p := (bx, _)) (by fail "qin"), D.noFrame K noDis (p := (bdx, _)) (by fail "qin"), D.noFrame K noDis (p := (bb, _)) (by fail "qin")⟩ ?_
  intro y dy yt ytk ys s' hys x5 e5 g1 g2 g3 m1 m2 m3 ne ly ldy
  replace D := D.parsed K noDis x5 e5 g1 g2 g3 m1 m2 m3 ne
  clear x5 e5 g1 g2 g3 m1 m2 m3
  dsimp only
  fail "qgo"
  refine eq_inst D W (by show A.units + 3 < _; omega) (D.get (a := y) (by fail "qin")) (D.get (a := dy) (by fail "qin")) (D.get (a := x) (by fail "qin")) (D.get (a := dx) (by fail "qin")) (f := 281) (by k_is) (by k_is) ?_
  refine eqv6 (D.wf W) (by show A.depth + 1 < _; omega) (by show A.units + 3 < _; omega) hh (D.get (by fail "qin")) (D.get (by fail "qin")) (D.get (by fail "qin")) hys (D.get (by fail "qin")) (D.get (by fail "qin")) (D.get (by fail "qin")) hv ?_
  intro s' x5 e5
  refine ⟨_, rfl, ?_⟩
  replace D := D.pureCall x5 e5
  clear x5 e5
  rw [decide_eq_true rfl]
  fail "qgo"
  refine wpC_BoolOp_one (wpC_of ?_)
  fail "qgo"
  refine new6_list (ns := octsOf gs) (k0 := ko) D W (K.deeper W D noDis rfl) (fun p hp => D.noFrame K noDis hp) (by show A.depth + 1 < _; omega) hg (by show A.units + 3 < _; omega) (by fail "qin") hov (by omega) (fun n h => by have := hz n h; omega) ?_
  clear D
  intro x3 dx3 r3 tk3 vs3 s hv3 D lx3 ldx3
  fail "qgo"
  refine new6_text (ns := octsOf gs) D W (K.deeper W D noDis rfl) (fun p hp => D.noFrame K noDis hp) (by show A.depth + 1 < _; omega) hg (by show A.units + 3 < _; omega) (parse_shown hgl8 hgz) (by omega) (fun n h => by have := hz n h; omega) ?_
  clear D
  intro x4 dx4 r4 tk4 vs4 s hv4 D lx4 ldx4
  refine eq_inst D W (by show A.units + 3 < _; omega) (D.get (a := x3) (by fail "qin")) (D.get (a := dx3) (by fail "qin")) (D.get (a := x4) (by fail "qin")) (D.get (a := dx4) (by fail "qin")) (f := 281) (by k_is) (by k_is) ?_
  refine eqv6 (D.wf W) (by show A.depth + 1 < _; omega) (by show A.units + 3 < _; omega) hh (D.get (by fail "qin")) (D.get (by fail "qin")) (D.get (by fail "qin")) hv3 (D.get (by fail "qin")) (D.get (by fail "qin")) (D.get (by fail "qin")) hv4 ?_
  intro s' x5 e5
  refine ⟨_, rfl, ?_⟩
  replace D := D.pureCall x5 e5
  clear x5 e5
  rw [decide_eq_true rfl]
  fail "qgo"
  exact k _ ((D.to (by fail "qsub") (by kernel_rfl)).drop (by fail "qsb"))
end

theorem turned_ne {os : List Nat} {k : Nat} (hk : k < os.length) (h : os[k] < 256) : os.take k ++ [(os[k] + 1) % 256] ++ os.drop (k + 1) ≠ os := by
  intro e
  have := congrArg (fun l => l[k]?) e
  simp only [List.append_assoc] at this
  rw [List.getElem?_append_right (by simp; omega)] at this
  simp [List.getElem?_eq_getElem hk, Nat.min_eq_left (Nat.le_of_lt hk)] at this
  omega
section
variable {prog : Program} {w : World} {A : Around} {s₀ : Shared} {mg mb : Str → Option Value} {QF : Flow → Shared → Prop} {EF : Value → Shared → Prop} {L : Addr} {s : Shared}
set_option maxHeartbeats 4000000 in
theorem seg20 {gs : List Nat} {ov vs : List Value} {ol l5 x dx r px : Addr} {ko d0 d1 d2 d3 : Nat} {c0 c1 c2 c3 t3 tk : Tok}
    (W : WF w mg mb s₀.heap) (K : Frames A [] s₀.heap) (hA : A.depth < 350) (hg : A.guards = some []) (hu : A.units < 1000) (hgz : ∀ n ∈ gs, n < 65536) (hgl8 : gs.length = 8) (hov : Nats ov (octsOf gs)) (hv : Nats vs (octsOf gs))
    (D : St ⟨[], [], s₀, L⟩ [("packed", .ref px), ("address", .ref x), ("good", .bool true), ("text", .str (T (joinL [58] (gs.map hexL))) t3), ("octets", .ref ol), ("drawn", .ref l5)]
      [(x, instObj 467 dx), (dx, dictOf [ent w "data" tk (.ref r)] 1), (r, tupOf vs.toArray), (ol, listOf ov.toArray ko), (l5, listOf #[.int (d0 : Nat) c0, .int (d1 : Nat) c1, .int (d2 : Nat) c2, .int (d3 : Nat) c3] 0)] s)
    (k : ∀ s t, St ⟨[], [], s₀, L⟩ [("place", .int ((d3 % 8 : Nat) : Int) t), ("packed", .ref px), ("good", .bool true), ("text", .str (T (joinL [58] (gs.map hexL))) t3), ("octets", .ref ol), ("drawn", .ref l5)]
      [(ol, listOf ov.toArray ko), (l5, listOf #[.int (d0 : Nat) c0, .int (d1 : Nat) c1, .int (d2 : Nat) c2, .int (d3 : Nat) c3] 0)] s → wpC (model prog w) (A.deeper (lawEnv L)) (execs (rest 22) (lawEnv L)) QF EF s) :
    wpC (model prog w) (A.deeper (lawEnv L)) (execs (rest 20) (lawEnv L)) QF EF s := by
  have hh : A.handled = none := K.calm
  have ho := octsOf_len gs
  have hol := hov.length
  have hz := octsOf_lt (gs := gs) (k := 256) hgz (by decide)
  refine wpC_execs_cons (wpC_of ?_)
  fail "qgo"
  refine r_item (vs := [.int (d0 : Nat) c0, .int (d1 : Nat) c1, .int (d2 : Nat) c2, .int (d3 : Nat) c3]) (k := 3) (D.listN (k := 0) (by fail "qin")) (by decide) rfl ?_
  fail "qgo"
  rw [show ((d3 : Nat) : Int) % 8 = ((d3 % 8 : Nat) : Int) from rfl] at D
  have hp : d3 % 8 < 8 := Nat.mod_lt _ (by decide)
  generalize d3 % 8 = p at hp D k
  refine wpC_execs_cons (wpC_of ?_)
  fail "qgo"
  with_reducible refine PyProof.Rows.BoolOp_and ?_
  fail "qgo"
  with_reducible refine PyProof.Rows.BoolOp_one ?_
  fail "qgo"
  refine r_mul (x := 2) (y := p) D (by decide) ?_
  clear D; intro s t D
  fail "qgo"
  refine r_slice_list (vs := ov) D (by fail "qin") (D.listN (k := ko) (by fail "qin")) .none (.int _ _) (by omega) ?_
  clear D; intro a1 s D
  rw [pick_to] at D
  fail "qgo"
  refine r_mul (x := 2) (y := p) D (by decide) ?_
  clear D; intro s t D
  fail "qgo"
  have hi : 2 * p < (octsOf gs).length := by omega
  have hlt := hz _ (List.getElem_mem hi)
  have hne := turned_ne hi hlt
  obtain ⟨v, hv1, tv, rfl⟩ := pd_at hov (List.getElem?_eq_getElem hi)
  generalize (octsOf gs)[2 * p] = m at hlt hne hv1
  refine r_item (vs := ov) (k := 2 * p) (D.listN (k := ko) (by fail "qin")) (by omega) hv1 ?_
  fail "qgo"
  rw [show (((m : Nat) : Int) + 1) % 256 = (((m + 1) % 256 : Nat) : Int) from rfl] at D
  refine r_listadd (vs := ov.take (2 * p)) (ws := [.int (((m + 1) % 256 : Nat) : Int) _]) D (D.listN (k := 0) (by fail "qin")) (D.listN (k := 0) (by fail "qin")) (by simp; omega) ?_
  clear D; intro a2 s D
  fail "qgo"
  refine r_mul (x := 2) (y := p) D (by decide) ?_
  clear D; intro s t D
  fail "qgo"
  rw [show ((2 * p : Nat) : Int) + 1 = ((2 * p + 1 : Nat) : Int) from rfl] at D
  refine r_slice_list (vs := ov) D (by fail "qin") (D.listN (k := ko) (by fail "qin")) (.int _ _) .none (by omega) ?_
  clear D; intro a3 s D
  rw [pick_from] at D
  refine r_listadd (vs := ov.take (2 * p) ++ [.int (((m + 1) % 256 : Nat) : Int) _]) (ws := ov.drop (2 * p + 1)) D (D.listN (k := 0) (by fail "qin")) (D.listN (k := 0) (by fail "qin")) (by simp only [List.length_append, List.length_take, List.length_drop, List.length_cons, List.length_nil]; omega) ?_
  clear D; intro a4 s D
  fail "qgo"
  have hov2 : ∀ t : Tok, Nats (ov.take (2 * p) ++ [.int (((m + 1) % 256 : Nat) : Int) t] ++ ov.drop (2 * p + 1)) ((octsOf gs).take (2 * p) ++ [(m + 1) % 256] ++ (octsOf gs).drop (2 * p + 1)) :=
    fun t => pd_app (pd_app (pd_take hov _) (.cons ⟨t, rfl⟩ .nil)) (pd_drop hov _)
  have hln : ((octsOf gs).take (2 * p) ++ [(m + 1) % 256] ++ (octsOf gs).drop (2 * p + 1)).length = 16 := by
    simp
    omega
  have hlz : ∀ n ∈ (octsOf gs).take (2 * p) ++ [(m + 1) % 256] ++ (octsOf gs).drop (2 * p + 1), n ≤ 255 := by
    intro n hn
    rcases List.mem_append.mp hn with hn | hn
    · rcases List.mem_append.mp hn with hn | hn
      · have := hz n (List.mem_of_mem_take hn); omega
      · rw [List.mem_singleton.mp hn]; omega
    · have := hz n (List.mem_of_mem_drop hn); omega
  refine new6_list (ns := (octsOf gs).take (2 * p) ++ [(m + 1) % 256] ++ (octsOf gs).drop (2 * p + 1)) (k0 := 0) D W (K.deeper W D noDis rfl) (fun p hp => D.noFrame K noDis hp) (by show A.depth + 1 < _; omega) hg (by show A.units + 3 < _; omega) (by fail "qin") (hov2 _) hln hlz ?_
  clear D
  intro y dy yt ytk ys s hys D ly ldy
  fail "qgo"
  refine ne_inst D W (by show A.units + 3 < _; omega) (D.get (a := y) (by fail "qin")) (D.get (a := dy) (by fail "qin")) (D.get (a := x) (by fail "qin")) (D.get (a := dx) (by fail "qin")) (f := 288) (by k_is) (by k_is) ?_
  refine nev6 (D.wf W) (by show A.depth + 1 < _; omega) (by show A.units + 3 < _; omega) hh (D.get (by fail "qin")) (D.get (by fail "qin")) (D.get (by fail "qin")) hys (D.get (by fail "qin")) (D.get (by fail "qin")) (D.get (by fail "qin")) hv ?_
  intro s' x5 e5
  refine ⟨_, rfl, ?_⟩
  replace D := D.pureCall x5 e5
  clear x5 e5
  rw [decide_eq_false hne, Bool.not_false]
  fail "qgo"
  exact k _ _ ((D.to (by fail "qsub") (by kernel_rfl)).drop (by fail "qsb"))
end

section
variable {prog : Program} {w : World} {A : Around} {s₀ : Shared} {mg mb : Str → Option Value} {QF : Flow → Shared → Prop} {EF : Value → Shared → Prop} {L : Addr} {s : Shared}
set_option maxHeartbeats 4000000 in
theorem seg22 {gs : List Nat} {ov : List Value} {ol l5 px : Addr} {ko d0 d1 d2 d3 p : Nat} {c0 c1 c2 c3 t3 t4 : Tok}
    (W : WF w mg mb s₀.heap) (K : Frames A [] s₀.heap) (hA : A.depth < 350) (hgz : ∀ n ∈ gs, n < 65536) (hgl8 : gs.length = 8)
    (D : St ⟨[], [], s₀, L⟩ [("place", .int (p : Nat) t4), ("packed", .ref px), ("good", .bool true), ("text", .str (T (joinL [58] (gs.map hexL))) t3), ("octets", .ref ol), ("drawn", .ref l5)]
      [(ol, listOf ov.toArray ko), (l5, listOf #[.int (d0 : Nat) c0, .int (d1 : Nat) c1, .int (d2 : Nat) c2, .int (d3 : Nat) c3] 0)] s)
    (k : ∀ s t sp us ks, Txts us (gs.map hexL) → St ⟨[], [], s₀, L⟩ [("pieces", .ref sp), ("high", .str (T ([49] ++ [hexD (d3 / 8 % 16)] ++ [48, 48, 48])) t), ("place", .int (p : Nat) t4), ("packed", .ref px), ("good", .bool true), ("text", .str (T (joinL [58] (gs.map hexL))) t3), ("octets", .ref ol), ("drawn", .ref l5)]
      [(sp, listOf us.toArray ks), (ol, listOf ov.toArray ko), (l5, listOf #[.int (d0 : Nat) c0, .int (d1 : Nat) c1, .int (d2 : Nat) c2, .int (d3 : Nat) c3] 0)] s → wpC (model prog w) (A.deeper (lawEnv L)) (execs (rest 24) (lawEnv L)) QF EF s) :
    wpC (model prog w) (A.deeper (lawEnv L)) (execs (rest 22) (lawEnv L)) QF EF s := by
  have hh : A.handled = none := K.calm
  have hpl := grps_map (f := hexL) (gs := gs) fun g hg => grp_hex (hgz g hg)
  have hfr := grps_free hpl
  have hjl := hexjoin_len hgz (by omega)
  have hsp : Txt.split (T (joinL [58] (gs.map hexL))) (T [58]) = (gs.map hexL).map T := split_T (fun z => by rw [List.map_eq_nil_iff.mp z] at hgl8; cases hgl8) fun p hp => (hfr p hp).2
  refine wpC_execs_cons (wpC_of ?_)
  fail "qgo"
  refine r_item (vs := [.int (d0 : Nat) c0, .int (d1 : Nat) c1, .int (d2 : Nat) c2, .int (d3 : Nat) c3]) (k := 3) (D.listN (k := 0) (by fail "qin")) (by decide) rfl ?_
  fail "qgo"
  rw [show ((d3 : Nat) : Int) / 8 % 16 = ((d3 / 8 % 16 : Nat) : Int) from rfl]
  (with_reducible refine r_stritem D ?q1 ?q2 ?q3 ?_); (case q1 => omega); (case q2 => show _ < ((16 : Nat) : Int); omega); (case q3 => decide)
  clear D; intro s t D
  rw [show Txt.item (Str.ofString "0123456789abcdef") ((d3 / 8 % 16 : Nat) : Int) = T [hexD (d3 / 8 % 16)] from sign_at _ (by omega)]
  fail "qgo"
  refine wpC_execs_cons (wpC_of ?_)
  fail "qgo"
  refine r_split D (by decide) hsp (by rw [T_len, sizeLine_eq]; omega) ?_
  clear D
  intro sp us s hus D
  fail "qgo"
  exact k _ _ _ _ _ hus D
end

theorem mids_grps {gs : List Nat} {p : Nat} (hgz : ∀ n ∈ gs, n < 65536) : Paired Grp ((gs.map hexL).take p) (gs.take p) ∧ Paired Grp ((gs.map hexL).drop (p + 1)) (gs.drop (p + 1)) := by
  have h := grps_map (f := hexL) (gs := gs) fun g hg => grp_hex (hgz g hg)
  exact ⟨pd_take h p, pd_drop h (p + 1)⟩
theorem sum_le5 {ps : List (List Nat)} (h : ∀ p ∈ ps, p.length ≤ 5) (hl : ps.length ≤ 20) : sumLen ps + ps.length ≤ 1048576 := by
  have := sum_short h
  omega
theorem high_bad {gs : List Nat} {p d : Nat} (hgl8 : gs.length = 8) (hgz : ∀ n ∈ gs, n < 65536) (hp : p < 8) (hd : d < 16) :
    ∃ ns, ParseOK (joinL [58] ((gs.map hexL).take p ++ [[49] ++ [hexD d] ++ [48, 48, 48]] ++ (gs.map hexL).drop (p + 1))) ns ∧ ns.length ≤ 100 ∧ (∀ n ∈ ns, n < 100000) ∧ ¬ (ns.length = 16 ∧ ∀ n ∈ ns, n ≤ 255) := by
  obtain ⟨h1, h2⟩ := mids_grps (p := p) hgz
  have hh := grps_app (grps_app h1 (.cons (grp_high hd) .nil)) h2
  have hlen : (gs.take p ++ [65536 + d * 4096] ++ gs.drop (p + 1)).length = 8 := by simp; omega
  have hp8 := parse_plain hh (by simp; omega)
  have ol := octsOf_len (gs.take p ++ [65536 + d * 4096] ++ gs.drop (p + 1))
  rw [ol, hlen, show 16 - 2 * 8 = 0 from rfl, List.replicate_zero, List.append_nil] at hp8
  refine ⟨_, hp8, by omega, ?_, ?_⟩
  · refine octsOf_lt (fun g hg => ?_) (by decide)
    rcases List.mem_append.mp hg with hg | hg
    · rcases List.mem_append.mp hg with hg | hg
      · have := hgz g (List.mem_of_mem_take hg); omega
      · rw [List.mem_singleton.mp hg]; omega
    · have := hgz g (List.mem_of_mem_drop hg); omega
  · rintro ⟨-, h⟩
    have := h ((65536 + d * 4096) / 256) (by rw [octsOf_app, octsOf_app]; simp [octsOf])
    omega
theorem more_bad {gs : List Nat} (hgl8 : gs.length = 8) (hgz : ∀ n ∈ gs, n < 65536) :
    ∃ ns, ParseOK (joinL [58] (gs.map hexL) ++ [58, 49]) ns ∧ ns.length ≤ 100 ∧ (∀ n ∈ ns, n < 100000) ∧ ¬ (ns.length = 16 ∧ ∀ n ∈ ns, n ≤ 255) := by
  have h := grps_map (f := hexL) (gs := gs) fun g hg => grp_hex (hgz g hg)
  have g1 : Grp [49] 1 := ⟨by simp, fun c hc => by rw [List.mem_singleton.mp hc]; exact .inl (by decide), by decide, by decide⟩
  have hp9 := parse_plain (grps_app h (.cons g1 .nil)) (by simp; omega)
  have e : joinL [58] (gs.map hexL ++ [[49]]) = joinL [58] (gs.map hexL) ++ [58, 49] := by
    clear hp9 h hgz
    have : ∀ ps : List (List Nat), ps ≠ [] → joinL [58] (ps ++ [[49]]) = joinL [58] ps ++ [58, 49] := by
      intro ps
      induction ps with
      | nil => intro h; exact absurd rfl h
      | cons x ps ih =>
        intro _
        cases ps with
        | nil => simp [joinL]
        | cons y ps =>
          have := ih (by simp)
          rw [List.cons_append, List.cons_append, joinL_more, joinL_more, List.append_assoc, List.append_assoc, List.append_assoc]
          rw [List.cons_append] at this
          rw [this]
    exact this _ (fun z => by rw [List.map_eq_nil_iff.mp z] at hgl8; cases hgl8)
  rw [e] at hp9
  have ol := octsOf_len (gs ++ [1])
  have hlen : (gs ++ [1]).length = 9 := by simp; omega
  rw [ol, hlen, show 16 - 2 * 9 = 0 from rfl, List.replicate_zero, List.append_nil] at hp9
  refine ⟨_, hp9, by omega, ?_, ?_⟩
  · refine octsOf_lt (fun g hg => ?_) (by decide)
    rcases List.mem_append.mp hg with hg | hg
    · have := hgz g hg; omega
    · rw [List.mem_singleton.mp hg]; decide
  · rintro ⟨h, -⟩
    omega
section
variable {prog : Program} {w : World} {A : Around} {s₀ : Shared} {mg mb : Str → Option Value} {QF : Flow → Shared → Prop} {EF : Value → Shared → Prop} {L : Addr} {s : Shared}
set_option maxHeartbeats 4000000 in
theorem seg24 {gs : List Nat} {ov us : List Value} {ol l5 px sp : Addr} {ko ks d0 d1 d2 d3 d p : Nat} {c0 c1 c2 c3 t3 t4 t5 : Tok}
    (W : WF w mg mb s₀.heap) (K : Frames A [] s₀.heap) (hA : A.depth < 350) (hg : A.guards = some []) (hu : A.units < 1000) (hgz : ∀ n ∈ gs, n < 65536) (hgl8 : gs.length = 8) (hp : p < 8) (hd : d < 16) (hus : Txts us (gs.map hexL))
    (D : St ⟨[], [], s₀, L⟩ [("pieces", .ref sp), ("high", .str (T ([49] ++ [hexD d] ++ [48, 48, 48])) t5), ("place", .int (p : Nat) t4), ("packed", .ref px), ("good", .bool true), ("text", .str (T (joinL [58] (gs.map hexL))) t3), ("octets", .ref ol), ("drawn", .ref l5)]
      [(sp, listOf us.toArray ks), (ol, listOf ov.toArray ko), (l5, listOf #[.int (d0 : Nat) c0, .int (d1 : Nat) c1, .int (d2 : Nat) c2, .int (d3 : Nat) c3] 0)] s)
    (k : ∀ s, St ⟨[], [], s₀, L⟩ [("pieces", .ref sp), ("place", .int (p : Nat) t4), ("packed", .ref px), ("good", .bool true), ("octets", .ref ol), ("drawn", .ref l5)]
      [(sp, listOf us.toArray ks), (ol, listOf ov.toArray ko), (l5, listOf #[.int (d0 : Nat) c0, .int (d1 : Nat) c1, .int (d2 : Nat) c2, .int (d3 : Nat) c3] 0)] s → wpC (model prog w) (A.deeper (lawEnv L)) (execs (rest 25) (lawEnv L)) QF EF s) :
    wpC (model prog w) (A.deeper (lawEnv L)) (execs (rest 24) (lawEnv L)) QF EF s := by
  have hh : A.handled = none := K.calm
  have hul := hus.length
  rw [List.length_map, hgl8] at hul
  have hjl := hexjoin_len hgz (by omega)
  refine wpC_execs_cons (wpC_of ?_)
  fail "qgo"
  with_reducible refine PyProof.Rows.BoolOp_and ?_
  fail "qgo"
  with_reducible refine PyProof.Rows.BoolOp_and ?_
  fail "qgo"
  refine r_slice_list (vs := us) D (by fail "qin") (D.listN (k := ks) (by fail "qin")) .none (.int _ _) (by omega) ?_
  clear D; intro a1 s D
  rw [pick_to] at D
  fail "qgo"
  refine r_listadd (vs := us.take p) (ws := [.str (T ([49] ++ [hexD d] ++ [48, 48, 48])) t5]) D (D.listN (k := 0) (by fail "qin")) (D.listN (k := 0) (by fail "qin")) (by simp; omega) ?_
  clear D; intro a2 s D
  fail "qgo"
  rw [show ((p : Nat) : Int) + 1 = ((p + 1 : Nat) : Int) from rfl] at D
  refine r_slice_list (vs := us) D (by fail "qin") (D.listN (k := ks) (by fail "qin")) (.int _ _) .none (by omega) ?_
  clear D; intro a3 s D
  rw [pick_from] at D
  refine r_listadd (vs := us.take p ++ [.str (T ([49] ++ [hexD d] ++ [48, 48, 48])) t5]) (ws := us.drop (p + 1)) D (D.listN (k := 0) (by fail "qin")) (D.listN (k := 0) (by fail "qin")) (by simp; omega) ?_
  clear D; intro a4 s D
  fail "qgo"
  obtain ⟨g1, g2⟩ := mids_grps (p := p) hgz
  have hx := grps_hex (grps_app (grps_app g1 (.cons (grp_high hd) .nil)) g2)
  have hts := pd_app (pd_app (pd_take hus p) (show Txts [.str (T ([49] ++ [hexD d] ++ [48, 48, 48])) t5] [[49] ++ [hexD d] ++ [48, 48, 48]] from .cons ⟨_, rfl⟩ .nil)) (pd_drop hus (p + 1))
  refine r_join D (D.listN (k := 0) (by fail "qin")) (txts_strs hts) (by decide) (sum_le5 (fun p hp => (hx p hp).2) (by simp; omega)) ?_
  clear D; intro s t D
  obtain ⟨ns, hpk, hl1, hl2, hl3⟩ := high_bad hgl8 hgz hp hd
  fail "qgo"
  refine ref6_text (D.wf W) (K.deeper W D noDis rfl) (by show A.depth + 1 < _; omega) hg (by show A.units + 3 < _; omega) hpk hl1 hl2 hl3 ?_
  intro s' x5 e5
  replace D := D.calm K noDis x5 e5
  clear x5 e5
  fail "qgo"
  with_reducible refine PyProof.Rows.BoolOp_one ?_
  fail "qgo"
  obtain ⟨ns2, hpk2, hl12, hl22, hl32⟩ := more_bad hgl8 hgz
  refine ref6_text (D.wf W) (K.deeper W D noDis rfl) (by show A.depth + 1 < _; omega) hg (by show A.units + 3 < _; omega) hpk2 hl12 hl22 hl32 ?_
  intro s' x5 e5
  replace D := D.calm K noDis x5 e5
  clear x5 e5
  fail "qgo"
  exact k _ ((D.to (by fail "qsub") (by kernel_rfl)).drop (by fail "qsb"))
end

section
variable {prog : Program} {w : World} {A : Around} {s₀ : Shared} {mg mb : Str → Option Value} {QF : Flow → Shared → Prop} {EF : Value → Shared → Prop} {L : Addr} {s : Shared}
set_option maxHeartbeats 4000000 in
theorem seg25 {gs : List Nat} {ov us : List Value} {ol l5 px sp : Addr} {ko ks d0 d1 d2 d3 p : Nat} {c0 c1 c2 c3 t4 : Tok}
    (W : WF w mg mb s₀.heap) (K : Frames A [] s₀.heap) (hA : A.depth < 350) (hg : A.guards = some []) (hu : A.units < 1000) (hgz : ∀ n ∈ gs, n < 65536) (hgl8 : gs.length = 8) (hp : p < 8) (hus : Txts us (gs.map hexL)) (hov : Nats ov (octsOf gs))
    (D : St ⟨[], [], s₀, L⟩ [("pieces", .ref sp), ("place", .int (p : Nat) t4), ("packed", .ref px), ("good", .bool true), ("octets", .ref ol), ("drawn", .ref l5)]
      [(sp, listOf us.toArray ks), (ol, listOf ov.toArray ko), (l5, listOf #[.int (d0 : Nat) c0, .int (d1 : Nat) c1, .int (d2 : Nat) c2, .int (d3 : Nat) c3] 0)] s)
    (k : ∀ s, St ⟨[], [], s₀, L⟩ [("packed", .ref px), ("good", .bool true), ("octets", .ref ol), ("drawn", .ref l5)]
      [(ol, listOf ov.toArray ko), (l5, listOf #[.int (d0 : Nat) c0, .int (d1 : Nat) c1, .int (d2 : Nat) c2, .int (d3 : Nat) c3] 0)] s → wpC (model prog w) (A.deeper (lawEnv L)) (execs (rest 26) (lawEnv L)) QF EF s) :
    wpC (model prog w) (A.deeper (lawEnv L)) (execs (rest 25) (lawEnv L)) QF EF s := by
  have hh : A.handled = none := K.calm
  have hul := hus.length
  rw [List.length_map, hgl8] at hul
  have hol := hov.length
  have ho := octsOf_len gs
  have hz := octsOf_lt (gs := gs) (k := 256) hgz (by decide)
  refine wpC_execs_cons (wpC_Assign ?_)
  refine wpC_BoolOp_and (wpC_of ?_)
  fail "qgo"
  refine wpC_BoolOp_and ?_
  refine wpC_Call ?_ (he := by rfl)
  fail "qgo"
  refine ckC2 (K := hd.heap_39 w.params) (by k_is) ?_ (by rfl) (by rfl)
  fail "qgo"
  refine r_slice_list (vs := us) D (by fail "qin") (D.listN (k := ks) (by fail "qin")) .none (.int _ _) (by omega) ?_
  clear D; intro a1 s D
  rw [pick_to] at D
  fail "qgo"
  refine r_listadd (vs := us.take p) (ws := [.str (T [103]) _]) D (D.listN (k := 0) (by fail "qin")) (D.listN (k := 0) (by fail "qin")) (by simp; omega) ?_
  clear D; intro a2 s D
  fail "qgo"
  rw [show ((p : Nat) : Int) + 1 = ((p + 1 : Nat) : Int) from rfl] at D
  refine r_slice_list (vs := us) D (by fail "qin") (D.listN (k := ks) (by fail "qin")) (.int _ _) .none (by omega) ?_
  clear D; intro a3 s D
  rw [pick_from] at D
  refine r_listadd (vs := us.take p ++ [.str (T [103]) _]) (ws := us.drop (p + 1)) D (D.listN (k := 0) (by fail "qin")) (D.listN (k := 0) (by fail "qin")) (by simp; omega) ?_
  clear D; intro a4 s D
  fail "qgo"
  obtain ⟨g1, g2⟩ := mids_grps (p := p) hgz
  have hx : ∀ q ∈ (gs.map hexL).take p ++ [[103]] ++ (gs.map hexL).drop (p + 1), q.length ≤ 5 := fun q hq => by
    rcases List.mem_append.mp hq with hq | hq
    · rcases List.mem_append.mp hq with hq | hq
      · exact (grps_hex g1 q hq).2
      · rw [List.mem_singleton.mp hq]; decide
    · exact (grps_hex g2 q hq).2
  have hts : ∀ t : Tok, Txts (us.take p ++ [.str (T [103]) t] ++ us.drop (p + 1)) ((gs.map hexL).take p ++ [[103]] ++ (gs.map hexL).drop (p + 1)) := fun t => pd_app (pd_app (pd_take hus p) (.cons ⟨_, rfl⟩ .nil)) (pd_drop hus (p + 1))
  refine r_join D (D.listN (k := 0) (by fail "qin")) (txts_strs (hts _)) (by decide) (sum_le5 hx (by simp; omega)) ?_
  clear D; intro s t D
  have hbad := parse_g g1 g2 (by simp; omega) (by simp; omega)
  rw [List.append_assoc, List.singleton_append]
  refine ⟨(D.wf W).X, ref6_g (D.wf W) (K.deeper W D noDis rfl) (by show A.depth + 1 < _; omega) hbad ?_⟩
  intro s' x5 e5
  replace D := D.calm K noDis x5 e5
  clear x5 e5
  fail "qgo"
  refine wpC_BoolOp_one ?_
  refine wpC_Call ?_ (he := by rfl)
  fail "qgo"
  refine ckC2 (K := hd.heap_39 w.params) (by k_is) ?_ (by rfl) (by rfl)
  fail "qgo"
  refine r_item (vs := [.int (d0 : Nat) c0, .int (d1 : Nat) c1, .int (d2 : Nat) c2, .int (d3 : Nat) c3]) (k := 3) (D.listN (k := 0) (by fail "qin")) (by decide) rfl ?_
  fail "qgo"
  rw [show ((d3 : Nat) : Int) % 16 = ((d3 % 16 : Nat) : Int) from rfl] at D
  refine r_slice_list (vs := ov) D (by fail "qin") (D.listN (k := ko) (by fail "qin")) .none (.int _ _) (by omega) ?_
  clear D; intro a5 s D
  rw [pick_to] at D
  have hov2 := pd_take hov (d3 % 16)
  refine ⟨(D.wf W).X, short6 (D.wf W) (K.deeper W D noDis rfl) (by show A.depth + 1 < _; omega) (by show A.units + 3 < _; omega) (D.listN (k := 0) (by fail "qin")) hov2 (fun n hn => hz n (List.mem_of_mem_take hn)) (by rw [List.length_take]; omega) ?_⟩
  intro s' x5 e5
  replace D := D.calm K noDis x5 e5
  clear x5 e5
  fail "qgo"
  exact k _ ((D.to (by fail "qsub") (by kernel_rfl)).drop (by fail "qsb"))
end

theorem dots_sum : ∀ {ns : List Nat}, (∀ n ∈ ns, n < 100000) → sumLen (ns.map decL) ≤ 10 * ns.length
  | [], _ => Nat.zero_le _
  | n :: ns, h => by
    have ih := dots_sum (ns := ns) fun x hx => h x (.tail _ hx)
    have := decL_len (n := n) (by have := h n (.head _); omega)
    simp only [sumLen, List.map_cons, List.sum_cons, List.length_cons] at ih ⊢
    omega
theorem four_of {C : Cx} {loc : List (Str × Value)} {news : List (Addr × Obj)} {s : Shared} {l : Addr} {q0 q1 q2 q3 : Nat} {t0 t1 t2 t3 : Tok} (D : St C loc ((l, listOf #[.int (q0 : Nat) t0, .int (q1 : Nat) t1, .int (q2 : Nat) t2, .int (q3 : Nat) t3] 0) :: news) s) :
    ∃ fv : List Value, Nats fv [q0, q1, q2, q3] ∧ St C loc ((l, listOf fv.toArray 0) :: news) s :=
  ⟨_, .cons ⟨t0, rfl⟩ (.cons ⟨t1, rfl⟩ (.cons ⟨t2, rfl⟩ (.cons ⟨t3, rfl⟩ .nil))), D⟩
section
variable {prog : Program} {w : World} {A : Around} {s₀ : Shared} {mg mb : Str → Option Value} {QF : Flow → Shared → Prop} {EF : Value → Shared → Prop} {L : Addr} {s : Shared}
set_option maxHeartbeats 4000000 in
theorem seg26 {ov : List Value} {ol l5 px : Addr} {ko d0 d1 d2 d3 : Nat} {c0 c1 c2 c3 : Tok}
    (W : WF w mg mb s₀.heap) (K : Frames A [] s₀.heap) (hA : A.depth < 350) (hd3 : d3 < 65536)
    (D : St ⟨[], [], s₀, L⟩ [("packed", .ref px), ("good", .bool true), ("octets", .ref ol), ("drawn", .ref l5)]
      [(ol, listOf ov.toArray ko), (l5, listOf #[.int (d0 : Nat) c0, .int (d1 : Nat) c1, .int (d2 : Nat) c2, .int (d3 : Nat) c3] 0)] s)
    (k : ∀ fl fv t s, Nats fv [d3 / 256, d3 % 256, d2 % 256, d1 % 256] → St ⟨[], [], s₀, L⟩ [("written", .str (T (dots [d3 / 256, d3 % 256, d2 % 256, d1 % 256])) t), ("four", .ref fl), ("packed", .ref px), ("good", .bool true), ("octets", .ref ol), ("drawn", .ref l5)]
      [(fl, listOf fv.toArray 0), (ol, listOf ov.toArray ko), (l5, listOf #[.int (d0 : Nat) c0, .int (d1 : Nat) c1, .int (d2 : Nat) c2, .int (d3 : Nat) c3] 0)] s → wpC (model prog w) (A.deeper (lawEnv L)) (execs (rest 28) (lawEnv L)) QF EF s) :
    wpC (model prog w) (A.deeper (lawEnv L)) (execs (rest 26) (lawEnv L)) QF EF s := by
  have hh : A.handled = none := K.calm
  refine wpC_execs_cons (wpC_of ?_)
  fail "qgo"
  refine r_item (vs := [.int (d0 : Nat) c0, .int (d1 : Nat) c1, .int (d2 : Nat) c2, .int (d3 : Nat) c3]) (k := 3) (D.listN (k := 0) (by fail "qin")) (by decide) rfl ?_
  fail "qgo"
  refine r_item (vs := [.int (d0 : Nat) c0, .int (d1 : Nat) c1, .int (d2 : Nat) c2, .int (d3 : Nat) c3]) (k := 3) (D.listN (k := 0) (by fail "qin")) (by decide) rfl ?_
  fail "qgo"
  refine r_item (vs := [.int (d0 : Nat) c0, .int (d1 : Nat) c1, .int (d2 : Nat) c2, .int (d3 : Nat) c3]) (k := 2) (D.listN (k := 0) (by fail "qin")) (by decide) rfl ?_
  fail "qgo"
  refine r_item (vs := [.int (d0 : Nat) c0, .int (d1 : Nat) c1, .int (d2 : Nat) c2, .int (d3 : Nat) c3]) (k := 1) (D.listN (k := 0) (by fail "qin")) (by decide) rfl ?_
  fail "qgo"
  rw [show ((d3 : Nat) : Int) / 256 = ((d3 / 256 : Nat) : Int) from rfl, show ((d3 : Nat) : Int) % 256 = ((d3 % 256 : Nat) : Int) from rfl, show ((d2 : Nat) : Int) % 256 = ((d2 % 256 : Nat) : Int) from rfl, show ((d1 : Nat) : Int) % 256 = ((d1 % 256 : Nat) : Int) from rfl] at D
  obtain ⟨fl, efl⟩ : ∃ fl : Addr, fl = ad := ⟨_, rfl⟩
  subst efl
  obtain ⟨fv, hfv, D'⟩ := four_of D
  clear D
  have D := D'
  clear D'
  have hz : ∀ n ∈ [d3 / 256, d3 % 256, d2 % 256, d1 % 256], n < 256 := by
    intro n hn
    simp only [List.mem_cons, List.not_mem_nil, or_false] at hn
    omega
  generalize hqs : [d3 / 256, d3 % 256, d2 % 256, d1 % 256] = qs at hfv hz k
  have hql : qs.length = 4 := by rw [← hqs]; rfl
  have hfl := hfv.length
  refine wpC_execs_cons (wpC_of ?_)
  fail "qgo"
  fail "qco"
  fail "qgo"
  refine compG_plain (fun v y => ∀ n, isNat v n → isTxt y (decL n)) (.list fl fv.toArray) D rfl (D.listN (by fail "qin")) (stay_new (k := 0) (by fail "qin")) (by show fv.toArray.size ≤ _; simp; omega) ?_ ?_
  · clear D
    intro v c oc m D' oD I oI s E' hv hN hX D
    obtain ⟨n, hm, t, rfl⟩ := Nats.mem_isNat hfv hv
    fail "qgo"
    refine r_strOf D (by have := hz n hm; omega) ?_
    clear D; intro s t D
    refine ⟨fun n' ⟨t', e⟩ => ?_, D⟩
    have := (Value.int.inj e).1
    have e2 : n = n' := by omega
    subst e2
    exact ⟨_, rfl⟩
  clear D
  intro D' ys s hF D
  have hy := pd_comp (f := decL) (R' := isTxt) (fun v y n h1 h2 => h2 n h1) hF hfv
  fail "qgo"
  have hsum := dots_sum (ns := qs) fun n h => by have := hz n h; omega
  refine r_join D (D.listN (k := ys.length) (by fail "qin")) (txts_strs hy) (by decide) (by rw [List.length_map]; omega) ?_
  clear D; intro s t D
  fail "qgo"
  exact k _ _ _ _ hfv (D.drop (by fail "qsb"))
end

section
variable {prog : Program} {w : World} {A : Around} {s₀ : Shared} {mg mb : Str → Option Value} {QF : Flow → Shared → Prop} {EF : Value → Shared → Prop} {L : Addr} {s : Shared}
set_option maxHeartbeats 4000000 in
theorem seg28 {ov fv : List Value} {ol l5 px fl : Addr} {ko : Nat} {qs : List Nat} {o5 : Obj} {t4 : Tok}
    (W : WF w mg mb s₀.heap) (K : Frames A [] s₀.heap) (hA : A.depth < 350) (hg : A.guards = some []) (hu : A.units < 1000) (hql : qs.length = 4) (hz : ∀ n ∈ qs, n < 256)
    (D : St ⟨[], [], s₀, L⟩ [("written", .str (T (dots qs)) t4), ("four", .ref fl), ("packed", .ref px), ("good", .bool true), ("octets", .ref ol), ("drawn", .ref l5)]
      [(fl, listOf fv.toArray 0), (ol, listOf ov.toArray ko), (l5, o5)] s)
    (k : ∀ x dx r tk vs px pdx pb ta tb i tc s, Nats vs qs → St ⟨[], [], s₀, L⟩ [("number", .ref x), ("written", .str (T (dots qs)) t4), ("four", .ref fl), ("packed", .ref px), ("good", .bool true), ("octets", .ref ol), ("drawn", .ref l5)]
      [(px, instObj 166 pdx), (pdx, dictOf [ent w "data" ta (.ref pb), ent w "offset" tb (.int i tc)] 2), (pb, baObj (BA ([7] ++ qs))), (x, instObj 347 dx), (dx, dictOf [ent w "data" tk (.ref r)] 1), (r, tupOf vs.toArray), (fl, listOf fv.toArray 0), (ol, listOf ov.toArray ko), (l5, o5)] s → wpC (model prog w) (A.deeper (lawEnv L)) (execs (rest 31) (lawEnv L)) QF EF s) :
    wpC (model prog w) (A.deeper (lawEnv L)) (execs (rest 28) (lawEnv L)) QF EF s := by
  have hh : A.handled = none := K.calm
  have hdot := dot_ok (ns := qs) (fun z => by rw [z] at hql; cases hql) (by omega) (fun n h => by have := hz n h; omega)
  refine wpC_execs_cons (wpC_of ?_)
  fail "qgo"
  refine new4_text (ns := qs) D W (K.deeper W D noDis rfl) (fun p hp => D.noFrame K noDis hp) (by show A.depth + 1 < _; omega) hg (by show A.units + 3 < _; omega) hdot hql (fun n h => by have := hz n h; omega) ?_
  clear D
  intro x dx r tk vs s hv D lx ldx
  fail "qgo"
  refine wpC_execs_cons (wpC_Assign ?_)
  refine wpC_Call ?_ (he := by rfl)
  fail "qgo"
  refine ckC1 (K := hd.heap_39 w.params) (by k_is) ?_ (by rfl)
  fail "qgo"
  refine PySem.W.Constant_bytes ?_
  replace D := D.toks (t := s.toks + 1)
  refine ⟨(D.wf W).X, ?_⟩
  refine c_buffer D W (by show A.depth + 1 < _; omega) (.inl rfl) (.bytes _ _) (by decide) ?_
  clear D
  intro px pdx pb ta tb tc s D lpx lpdx lpb
  fail "qgo"
  refine wpC_execs_cons (wpC_Expr ?_ (hi := by rfl) (hs := by rfl))
  refine wpC_Method ?_ (he := by rfl)
  fail "qgo"
  fail "qmd"
  refine cmC1 (K := hd.heap_39 w.params) (by k_is) ?_ (by rfl)
  fail "qgo"
  have hq := D.ord
  simp only [List.map_cons, List.map_nil, List.nodup_cons, List.mem_cons, List.not_mem_nil, or_false, not_or] at hq
  obtain ⟨⟨n1, n2, n3, n4, n5, -⟩, ⟨n6, n7, n8, n9, -⟩, ⟨n10, n11, n12, -⟩, -⟩ := hq
  refine apack4 (l := [7]) (ns := qs) (D.wf W) (by show A.depth + 1 < _; omega) hh (D.get (by fail "qin")) (D.get (by fail "qin")) (D.get (by fail "qin")) hv (by omega) hz (D.get (by fail "qin")) (D.get (by fail "qin")) (D.get (by fail "qin")) ⟨lpdx, lpb⟩ ⟨n1, n2, n6⟩ (by decide) ⟨Ne.symm n7, Ne.symm n10, Ne.symm n8, Ne.symm n11, Ne.symm n9, Ne.symm n12⟩ ?_
  intro o' t3' s' x5 e5 g5 g6
  replace D := D.packs (l := [7]) x5 e5 g5 g6
  clear x5 e5 g5 g6
  fail "qgo"
  exact k _ _ _ _ _ _ _ _ _ _ _ _ _ hv (D.to (by fail "qsub") (by kernel_rfl))
end

section
variable {prog : Program} {w : World} {A : Around} {s₀ : Shared} {mg mb : Str → Option Value} {QF : Flow → Shared → Prop} {EF : Value → Shared → Prop} {L : Addr} {s : Shared}
set_option maxHeartbeats 4000000 in
theorem seg31 {ov fv vs : List Value} {ol l5 px pdx pb fl x dx r : Addr} {ko a1 a2 a3 a4 : Nat} {o5 : Obj} {t4 tk ta tb tc : Tok} {i : Int}
    (W : WF w mg mb s₀.heap) (K : Frames A [] s₀.heap) (hA : A.depth < 350) (hg : A.guards = some []) (hu : A.units < 1000) (hz : ∀ n ∈ [a1, a2, a3, a4], n < 256) (hfv : Nats fv [a1, a2, a3, a4]) (hv : Nats vs [a1, a2, a3, a4])
    (D : St ⟨[], [], s₀, L⟩ [("number", .ref x), ("written", .str (T (dots [a1, a2, a3, a4])) t4), ("four", .ref fl), ("packed", .ref px), ("good", .bool true), ("octets", .ref ol), ("drawn", .ref l5)]
      [(px, instObj 166 pdx), (pdx, dictOf [ent w "data" ta (.ref pb), ent w "offset" tb (.int i tc)] 2), (pb, baObj (BA ([7] ++ [a1, a2, a3, a4]))), (x, instObj 347 dx), (dx, dictOf [ent w "data" tk (.ref r)] 1), (r, tupOf vs.toArray), (fl, listOf fv.toArray 0), (ol, listOf ov.toArray ko), (l5, o5)] s)
    (k : ∀ s, St ⟨[], [], s₀, L⟩ [("number", .ref x), ("written", .str (T (dots [a1, a2, a3, a4])) t4), ("four", .ref fl), ("packed", .ref px), ("good", .bool true), ("octets", .ref ol), ("drawn", .ref l5)]
      [(px, instObj 166 pdx), (pdx, dictOf [ent w "data" ta (.ref pb), ent w "offset" tb (.int i tc)] 2), (pb, baObj (BA ([7] ++ [a1, a2, a3, a4]))), (x, instObj 347 dx), (dx, dictOf [ent w "data" tk (.ref r)] 1), (r, tupOf vs.toArray), (fl, listOf fv.toArray 0), (ol, listOf ov.toArray ko), (l5, o5)] s → wpC (model prog w) (A.deeper (lawEnv L)) (execs (rest 32) (lawEnv L)) QF EF s) :
    wpC (model prog w) (A.deeper (lawEnv L)) (execs (rest 31) (lawEnv L)) QF EF s := by
  have hh : A.handled = none := K.calm
  have hfl := hfv.length
  simp only [List.length_cons, List.length_nil] at hfl
  have hdot := dot_ok1 (ns := [a1, a2, a3, a4]) (by simp) (by simp) (fun n h => by have := hz n h; omega)
  have hlen := dots_len (ns := [a1, a2, a3, a4]) (fun n h => by have := hz n h; omega)
  simp only [List.length_cons, List.length_nil] at hlen
  refine wpC_execs_cons (wpC_of ?_)
  fail "qgo"
  with_reducible refine PyProof.Rows.BoolOp_and ?_
  fail "qgo"
  with_reducible refine PyProof.Rows.BoolOp_and ?_
  fail "qgo"
  fail "qgd"
  fail "qgo"
  refine r_tuplist (vs := fv) D (D.listN (k := 0) (by fail "qin")) (by omega) ?_
  clear D; intro r2 s D
  refine eq_tups (D.get (a := r) (by fail "qin")) (D.get (a := r2) (by fail "qin")) hv hfv (by show A.units + 3 < _; omega) ?_
  rw [decide_eq_true rfl]
  fail "qgo"
  with_reducible refine PyProof.Rows.BoolOp_and ?_
  fail "qgo"
  refine new4_text (ns := [a1, a2, a3, a4]) D W (K.deeper W D noDis rfl) (fun p hp => D.noFrame K noDis hp) (by show A.depth + 1 < _; omega) hg (by show A.units + 3 < _; omega) hdot rfl (fun n h => by have := hz n h; omega) ?_
  clear D
  intro x3 dx3 r3 tk3 vs3 s hv3 D lx3 ldx3
  fail "qgo"
  refine eq_inst D W (by show A.units + 3 < _; omega) (D.get (a := x3) (by fail "qin")) (D.get (a := dx3) (by fail "qin")) (D.get (a := x) (by fail "qin")) (D.get (a := dx) (by fail "qin")) (f := 281) (by k_is) (by k_is) ?_
  refine eqv4 (D.wf W) (by show A.depth + 1 < _; omega) (by show A.units + 3 < _; omega) hh (D.get (by fail "qin")) (D.get (by fail "qin")) (D.get (by fail "qin")) hv3 (D.get (by fail "qin")) (D.get (by fail "qin")) (D.get (by fail "qin")) hv ?_
  intro s' x5 e5
  refine ⟨_, rfl, ?_⟩
  replace D := D.pureCall x5 e5
  clear x5 e5
  rw [decide_eq_true rfl]
  fail "qgo"
  with_reducible refine PyProof.Rows.BoolOp_one ?_
  fail "qgo"
  refine new4_list (ns := [a1, a2, a3, a4]) (k0 := 0) D W (K.deeper W D noDis rfl) (fun p hp => D.noFrame K noDis hp) (by show A.depth + 1 < _; omega) hg (by show A.units + 3 < _; omega) (by fail "qin") hfv rfl (fun n h => by have := hz n h; omega) ?_
  clear D
  intro x4 dx4 r4 tk4 vs4 s hv4 D lx4 ldx4
  fail "qgo"
  refine r_repr D W (by show A.units + 3 < _; omega) (D.get (a := x4) (by fail "qin")) (D.get (a := dx4) (by fail "qin")) (f := 344) (by k_is) (by k_is) ?_
  refine repr4 (D.wf W) (by show A.depth + 1 < _; omega) hh (D.get (by fail "qin")) (D.get (by fail "qin")) (D.get (by fail "qin")) hv4 (by have h1 := hz a1 (by simp); have h2 := hz a2 (by simp); have h3 := hz a3 (by simp); have h4 := hz a4 (by simp); omega) ?_
  intro s' t' x5 e5
  refine ⟨_, _, rfl, ?_⟩
  replace D := D.pureCall x5 e5
  clear x5 e5
  rw [← dots_four]
  fail "qgo"
  rw [decide_eq_true rfl] at D
  exact k _ (D.drop (by fail "qsb"))
end

section
variable {prog : Program} {w : World} {A : Around} {s₀ : Shared} {mg mb : Str → Option Value} {QF : Flow → Shared → Prop} {EF : Value → Shared → Prop} {L : Addr} {s : Shared}
set_option maxHeartbeats 4000000 in
theorem seg32 {ov fv vs : List Value} {ol l5 px pdx pb fl x dx r : Addr} {ko a1 a2 a3 a4 d0 d1 d2 d3 : Nat} {c0 c1 c2 c3 t4 tk ta tb tc : Tok} {i : Int}
    (W : WF w mg mb s₀.heap) (K : Frames A [] s₀.heap) (hA : A.depth < 350) (hg : A.guards = some []) (hu : A.units < 1000) (hz : ∀ n ∈ [a1, a2, a3, a4], n < 256) (hfv : Nats fv [a1, a2, a3, a4]) (hv : Nats vs [a1, a2, a3, a4])
    (D : St ⟨[], [], s₀, L⟩ [("number", .ref x), ("written", .str (T (dots [a1, a2, a3, a4])) t4), ("four", .ref fl), ("packed", .ref px), ("good", .bool true), ("octets", .ref ol), ("drawn", .ref l5)]
      [(px, instObj 166 pdx), (pdx, dictOf [ent w "data" ta (.ref pb), ent w "offset" tb (.int i tc)] 2), (pb, baObj (BA ([7] ++ [a1, a2, a3, a4]))), (x, instObj 347 dx), (dx, dictOf [ent w "data" tk (.ref r)] 1), (r, tupOf vs.toArray), (fl, listOf fv.toArray 0), (ol, listOf ov.toArray ko), (l5, listOf #[.int (d0 : Nat) c0, .int (d1 : Nat) c1, .int (d2 : Nat) c2, .int (d3 : Nat) c3] 0)] s)
    (k : ∀ s, St ⟨[], [], s₀, L⟩ [("written", .str (T (dots [a1, a2, a3, a4])) t4), ("four", .ref fl), ("good", .bool true), ("octets", .ref ol), ("drawn", .ref l5)]
      [(fl, listOf fv.toArray 0), (ol, listOf ov.toArray ko), (l5, listOf #[.int (d0 : Nat) c0, .int (d1 : Nat) c1, .int (d2 : Nat) c2, .int (d3 : Nat) c3] 0)] s → wpC (model prog w) (A.deeper (lawEnv L)) (execs (rest 33) (lawEnv L)) QF EF s) :
    wpC (model prog w) (A.deeper (lawEnv L)) (execs (rest 32) (lawEnv L)) QF EF s := by
  have hh : A.handled = none := K.calm
  have hfl := hfv.length
  simp only [List.length_cons, List.length_nil] at hfl
  have hz7 : ∀ n ∈ [7] ++ [a1, a2, a3, a4], n < 256 := fun n h => by
    rcases List.mem_append.mp h with h | h
    · rw [List.mem_singleton.mp h]; decide
    · exact hz n h
  refine wpC_execs_cons (wpC_Assign ?_)
  refine wpC_BoolOp_and (wpC_of ?_)
  fail "qgo"
  refine wpC_BoolOp_and (wpC_of ?_)
  fail "qgo"
  fail "qgd"
  refine r_bytes_ba (l := [7] ++ [a1, a2, a3, a4]) D (by fail "qin") (by simp) ?_
  clear D; intro s t5 D
  fail "qgo"
  refine r_listadd (vs := [.int (7 : Int) _]) (ws := fv) D (D.listN (k := 0) (by fail "qin")) (D.listN (k := 0) (by fail "qin")) (by simp; omega) ?_
  clear D; intro q1 s D
  have hfv7 : ∀ t : Tok, Nats ([.int (7 : Int) t] ++ fv) ([7] ++ [a1, a2, a3, a4]) := fun t => pd_app (.cons ⟨t, rfl⟩ .nil) hfv
  fail "qgo"
  refine r_bytes_list D hh (D.listN (k := 0) (by fail "qin")) (hfv7 _) hz7 (by simp; omega) ?_
  clear D; intro s t6 D
  refine r_eqbytes hz7 hz7 ?_
  rw [decide_eq_true rfl]
  fail "qgo"
  refine wpC_BoolOp_and ?_
  refine wpC_Compare1 ?_
  refine wpC_Method ?_ (he := by rfl)
  fail "qgo"
  refine r_clsm (p := 311) (f := .ref 309) (rest := _) D W (by k_is) (by k_is) (by k_is) (by k_is) (by k_is) ?_
  clear D
  intro q s D
  dsimp only
  refine cmCC2 (K := hd.heap_39 w.params) (g := 309) (self := .ref 347) (by k_is) ?_ (by rfl) (by rfl)
  refine wpC_Call ?_ (he := by rfl)
  fail "qgo"
  refine ckC1 (K := hd.heap_39 w.params) (by k_is) ?_ (by rfl)
  fail "qgo"
  refine r_bytes_list D hh (D.listN (k := 0) (by fail "qin")) hfv hz (by omega) ?_
  clear D; intro s t7 D
  refine ⟨(D.wf W).X, ?_⟩
  refine c_buffer D W (by show A.depth + 1 < _; omega) (.inl rfl) (.bytes _ _) (by rw [BA_size]; simp) ?_
  clear D
  intro bx bdx bb b1 b2 b3 s D lbx lbdx lbb
  fail "qgo"
  have hq := D.ord
  simp only [List.map_cons, List.map_nil, List.nodup_cons, List.mem_cons, List.not_mem_nil, or_false, not_or] at hq
  obtain ⟨⟨n1, n2, -⟩, ⟨n6, -⟩, -⟩ := hq
  refine ⟨⟨D.get (by fail "qin"), (D.wf W).X⟩, wpC_of ?_⟩
  refine r_callm D (f := .ref 309) (self := .ref 347) (by fail "qin") ?_
  refine parse4_obj (l := [a1, a2, a3, a4]) (D.wf W) (K.deeper W D noDis rfl) (by show A.depth + 1 < _; omega) hg (by show A.units + 3 < _; omega) (D.get (by fail "qin")) (D.get (by fail "qin")) (D.get (by fail "qin")) rfl hz lbdx ⟨n1, Ne.symm n6⟩ ⟨D.noFrame K noDis (p := (bx, _)) (by fail "qin"), D.noFrame K noDis (p := (bdx, _)) (by fail "qin"), D.noFrame K noDis (p := (bb, _)) (by fail "qin")⟩ ?_
  intro y dy yt ytk ys s' hys x5 e5 g1 g2 g3 m1 m2 m3 ne ly ldy
  replace D := D.parsed K noDis x5 e5 g1 g2 g3 m1 m2 m3 ne
  clear x5 e5 g1 g2 g3 m1 m2 m3
  dsimp only
  fail "qgo"
  refine eq_inst D W (by show A.units + 3 < _; omega) (D.get (a := y) (by fail "qin")) (D.get (a := dy) (by fail "qin")) (D.get (a := x) (by fail "qin")) (D.get (a := dx) (by fail "qin")) (f := 281) (by k_is) (by k_is) ?_
  refine eqv4 (D.wf W) (by show A.depth + 1 < _; omega) (by show A.units + 3 < _; omega) hh (D.get (by fail "qin")) (D.get (by fail "qin")) (D.get (by fail "qin")) hys (D.get (by fail "qin")) (D.get (by fail "qin")) (D.get (by fail "qin")) hv ?_
  intro s' x5 e5
  refine ⟨_, rfl, ?_⟩
  replace D := D.pureCall x5 e5
  clear x5 e5
  rw [decide_eq_true rfl]
  fail "qgo"
  refine wpC_BoolOp_one ?_
  refine wpC_Call ?_ (he := by rfl)
  fail "qgo"
  refine ckC2 (K := hd.heap_39 w.params) (by k_is) ?_ (by rfl) (by rfl)
  fail "qgo"
  refine r_item (vs := [.int (d0 : Nat) c0, .int (d1 : Nat) c1, .int (d2 : Nat) c2, .int (d3 : Nat) c3]) (k := 3) (D.listN (k := 0) (by fail "qin")) (by decide) rfl ?_
  fail "qgo"
  rw [show ((d3 : Nat) : Int) % 4 = ((d3 % 4 : Nat) : Int) from rfl] at D
  refine r_slice_list (vs := fv) D (by fail "qin") (D.listN (k := 0) (by fail "qin")) .none (.int _ _) (by omega) ?_
  clear D; intro q5 s D
  rw [pick_to] at D
  have hfv2 := pd_take hfv (d3 % 4)
  refine ⟨(D.wf W).X, short4 (D.wf W) (K.deeper W D noDis rfl) (by show A.depth + 1 < _; omega) (by show A.units + 3 < _; omega) (D.listN (k := 0) (by fail "qin")) hfv2 (fun n hn => hz n (List.mem_of_mem_take hn)) (by rw [List.length_take]; omega) ?_⟩
  intro s' x5 e5
  replace D := D.calm K noDis x5 e5
  clear x5 e5
  fail "qgo"
  exact k _ ((D.to (by fail "qsub") (by kernel_rfl)).drop (by fail "qsb"))
end

theorem slice_to_T (l : List Nat) {n : Nat} (h : n ≤ l.length) : Txt.slice (T l) none (some (n : Int)) = T (l.take n) := by
  have := eq_of_beq (slice_closes_to (x := T l) (j := (n : Int)) ⟨by omega, by rw [T_list]; omega⟩)
  rw [this, T_list]
  simp [T]
theorem slice_from_T (l : List Nat) {n : Nat} (h : n ≤ l.length) : Txt.slice (T l) (some (n : Int)) none = T (l.drop n) := by
  have := eq_of_beq (slice_closes_from (x := T l) (i := (n : Int)) ⟨by omega, by rw [T_list]; omega⟩)
  rw [this, T_list]
  simp [T]
  rw [List.take_of_length_le (by simp)]
/-- a text that A refuses -/
def Bad4 (l : List Nat) : Prop := DotX l ∨ ∃ ns, DotOK l ns ∧ ns.length ≤ 100 ∧ (∀ n ∈ ns, n < 100000) ∧ ¬ (ns.length = 4 ∧ ∀ n ∈ ns, n ≤ 255)
theorem bad4_more {qs : List Nat} (hl : qs.length = 4) (hz : ∀ n ∈ qs, n < 256) : Bad4 (dots qs ++ [46, 49]) := by
  have hne : qs ≠ [] := fun z => by rw [z] at hl; cases hl
  have e : dots qs ++ [46, 49] = dots (qs ++ [1]) := by rw [dots_snoc 1 hne, decL_one, List.append_assoc]; rfl
  have hz' : ∀ n ∈ qs ++ [1], n < 100000 := fun n h => by
    rcases List.mem_append.mp h with h | h
    · have := hz n h; omega
    · rw [List.mem_singleton.mp h]; decide
  exact .inr ⟨qs ++ [1], by rw [e]; exact dot_ok (by simp) (by simp; omega) hz', by simp; omega, hz', fun z => by have := z.1; simp at this; omega⟩
theorem bad4_less {qs : List Nat} (hl : qs.length = 3) (hz : ∀ n ∈ qs, n < 256) : Bad4 (dots qs) := by
  have hne : qs ≠ [] := fun z => by rw [z] at hl; cases hl
  have hz' : ∀ n ∈ qs, n < 100000 := fun n h => by have := hz n h; omega
  exact .inr ⟨qs, dot_ok hne (by omega) hz', by omega, hz', fun z => by have := z.1; omega⟩
theorem bad4_high {qs : List Nat} (hl : qs.length = 3) (hz : ∀ n ∈ qs, n < 256) : Bad4 ([50, 53, 54, 46] ++ dots qs) := by
  obtain ⟨q, r, rfl⟩ := List.exists_cons_of_ne_nil (show qs ≠ [] from fun z => by rw [z] at hl; cases hl)
  have e : [50, 53, 54, 46] ++ dots (q :: r) = dots (256 :: q :: r) := by rw [dots_cons, decL_256]; rfl
  have hz' : ∀ n ∈ 256 :: q :: r, n < 100000 := fun n h => by
    rcases List.mem_cons.mp h with h | h
    · rw [h]; decide
    · have := hz n h; omega
  exact .inr ⟨256 :: q :: r, by rw [e]; exact dot_ok (by simp) (by simp at hl ⊢; omega) hz', by simp at hl ⊢; omega, hz', fun z => by have := z.2 256 (.head _); omega⟩
theorem bad4_x {qs : List Nat} (hl : qs.length = 3) (hz : ∀ n ∈ qs, n < 256) : Bad4 ([120, 46] ++ dots qs) :=
  .inl (dot_x (by omega) (fun n h => by have := hz n h; omega) fun z => by rw [z] at hl; cases hl)
section
variable {prog : Program} {w : World} {A : Around} {s₀ : Shared} {mg mb : Str → Option Value} {QF : Flow → Shared → Prop} {EF : Value → Shared → Prop} {L : Addr} {s : Shared}
set_option maxHeartbeats 4000000 in
theorem seg33 {ov fv : List Value} {ol l5 fl : Addr} {ko a1 a2 a3 a4 : Nat} {o5 : Obj} {t4 : Tok}
    (W : WF w mg mb s₀.heap) (K : Frames A [] s₀.heap) (hA : A.depth < 350) (hg : A.guards = some []) (hu : A.units < 1000) (hz : ∀ n ∈ [a1, a2, a3, a4], n < 256)
    (D : St ⟨[], [], s₀, L⟩ [("written", .str (T (dots [a1, a2, a3, a4])) t4), ("four", .ref fl), ("good", .bool true), ("octets", .ref ol), ("drawn", .ref l5)]
      [(fl, listOf fv.toArray 0), (ol, listOf ov.toArray ko), (l5, o5)] s)
    (k : ∀ s, St ⟨[], [], s₀, L⟩ [("four", .ref fl), ("good", .bool true), ("octets", .ref ol), ("drawn", .ref l5)]
      [(fl, listOf fv.toArray 0), (ol, listOf ov.toArray ko), (l5, o5)] s → wpC (model prog w) (A.deeper (lawEnv L)) (execs (rest 34) (lawEnv L)) QF EF s) :
    wpC (model prog w) (A.deeper (lawEnv L)) (execs (rest 33) (lawEnv L)) QF EF s := by
  have hh : A.handled = none := K.calm
  have hlen := dots_len (ns := [a1, a2, a3, a4]) (fun n h => by have := hz n h; omega)
  simp only [List.length_cons, List.length_nil] at hlen
  have hz1 : ∀ n ∈ [a2, a3, a4], n < 256 := fun n h => hz n (.tail _ h)
  have hz2 : ∀ n ∈ [a1, a2, a3], n < 256 := fun n h => hz n (by simp at h ⊢; omega)
  have c1 : dots [a1, a2, a3, a4] = dots [a1, a2, a3] ++ [46] ++ decL a4 := dots_snoc (ns := [a1, a2, a3]) a4 (by simp)
  have c2 : dots [a1, a2, a3, a4] = decL a1 ++ [46] ++ dots [a2, a3, a4] := dots_cons _ _ _
  have r1 := rindex_T (x := dots [a1, a2, a3]) (decL_free a4)
  obtain ⟨rr, r2⟩ := index_T (y := dots [a2, a3, a4]) (decL_free a1)
  rw [← c1] at r1
  rw [← c2] at r2
  have s1 : Txt.slice (T (dots [a1, a2, a3, a4])) none (some ((dots [a1, a2, a3]).length : Int)) = T (dots [a1, a2, a3]) := by
    rw [slice_to_T _ (by rw [c1]; simp), c1, List.append_assoc, List.take_left]
  have s2 : Txt.slice (T (dots [a1, a2, a3, a4])) (some (((decL a1).length + 1 : Nat) : Int)) none = T (dots [a2, a3, a4]) := by
    rw [slice_from_T _ (by rw [c2]; simp), c2, show (decL a1).length + 1 = (decL a1 ++ [46]).length by simp, List.drop_left]
  have hlen3 := dots_len (ns := [a2, a3, a4]) (fun n h => by have := hz1 n h; omega)
  simp only [List.length_cons, List.length_nil] at hlen3
  refine wpC_execs_cons (for_listE D hh (fun ax its _ loc news => loc = ([("written", .str (T (dots [a1, a2, a3, a4])) t4), ("four", .ref fl), ("good", .bool true), ("octets", .ref ol), ("drawn", .ref l5)] : List (Str × Value)) ∧
        news = [(ax, listOf its 0), (fl, listOf fv.toArray 0), (ol, listOf ov.toArray ko), (l5, o5)] ∧ ∀ v ∈ its.toList, ∃ l t, v = .str (T l) t ∧ Bad4 l) ?_ ?_ ?_ ?_ (by intro _; rfl) (by intro _ _; rfl))
  · fail "qgo"
    refine r_rindex D r1 ?_
    clear D; intro s t D
    fail "qgo"
    refine r_slice_to D (by fail "qin") (by rw [T_len]; omega) ?_
    clear D; intro s t D
    rw [s1]
    fail "qgo"
    refine r_index D r2 ?_
    clear D; intro s t D
    fail "qgo"
    rw [show (((decL a1).length : Nat) : Int) + 1 = (((decL a1).length + 1 : Nat) : Int) from rfl] at D
    refine r_slice_from D (by fail "qin") (by rw [T_len]; omega) ?_
    clear D; intro s t D
    rw [s2]
    fail "qgo"
    refine r_index D r2 ?_
    clear D; intro s t D
    fail "qgo"
    rw [show (((decL a1).length : Nat) : Int) + 1 = (((decL a1).length + 1 : Nat) : Int) from rfl] at D
    refine r_slice_from D (by fail "qin") (by rw [T_len]; omega) ?_
    clear D; intro s t D
    rw [s2]
    fail "qgo"
    refine ⟨_, _, rfl, D.listN (by fail "qin"), _, _, ⟨rfl, rfl, fun v hv => ?_⟩, D.drop (by fail "qsb")⟩
    simp only [List.mem_cons, List.not_mem_nil, or_false] at hv
    rcases hv with rfl | rfl | rfl | rfl
    · exact ⟨_, _, rfl, bad4_more rfl hz⟩
    · exact ⟨_, _, rfl, bad4_less rfl hz2⟩
    · exact ⟨_, _, rfl, bad4_high rfl hz1⟩
    · exact ⟨_, _, rfl, bad4_x rfl hz1⟩
  · rintro ax its j _ _ s ⟨rfl, rfl, hb⟩ D
    exact D.listN (by fail "qin")
  · clear D
    rintro ax its j v _ _ s I oI hj ⟨rfl, rfl, hb⟩ D
    obtain ⟨l, t, rfl, hbad⟩ := hb v (by rw [← Array.getElem?_toList] at hj; exact List.mem_of_getElem? hj)
    fail "qgo"
    refine wpC_execs_cons (wpC_Assign ?_)
    refine wpC_BoolOp_and (wpC_of ?_)
    fail "qgo"
    refine wpC_BoolOp_one ?_
    refine wpC_Call ?_ (he := by rfl)
    fail "qgo"
    refine ckC2 (K := hd.heap_39 w.params) (by k_is) ?_ (by rfl) (by rfl)
    fail "qgo"
    have fin : ∀ s', Rel [] [L] s.heap s'.heap → Same s s' → St ⟨[], [], s₀, L⟩ [("bad", .str (T l) t), ("written", .str (T (dots [a1, a2, a3, a4])) t4), ("four", .ref fl), ("good", .bool true), ("octets", .ref ol), ("drawn", .ref l5)]
        [(I, oI), (ax, listOf its 0), (fl, listOf fv.toArray 0), (ol, listOf ov.toArray ko), (l5, o5)] s' := fun s' x5 e5 => D.calm K noDis x5 e5
    rcases hbad with hx | ⟨ns, h1, h2, h3, h4⟩
    · refine ref4_x (D.wf W) (K.deeper W D noDis rfl) (by show A.depth + 1 < _; omega) hx ?_
      intro s' x5 e5
      replace D := fin s' x5 e5
      clear x5 e5 fin
      fail "qgo"
      refine wpC_nil ?_
      exact ⟨_, _, ⟨rfl, rfl, hb⟩, D.to (by fail "qsub") (by kernel_rfl)⟩
    · refine wpC_of (ref4_text (D.wf W) (K.deeper W D noDis rfl) (by show A.depth + 1 < _; omega) hg (by show A.units + 3 < _; omega) h1 h2 h3 h4 ?_)
      intro s' x5 e5
      replace D := fin s' x5 e5
      clear x5 e5 fin
      fail "qgo"
      refine wpC_nil ?_
      exact ⟨_, _, ⟨rfl, rfl, hb⟩, D.to (by fail "qsub") (by kernel_rfl)⟩
  · clear D
    rintro ax its _ _ s ⟨rfl, rfl, hb⟩ D
    exact k _ ((D.to (by fail "qsub") (by kernel_rfl)).drop (by fail "qsb"))
end

section
variable {prog : Program} {w : World} {A : Around} {s₀ : Shared} {mg mb : Str → Option Value} {QF : Flow → Shared → Prop} {EF : Value → Shared → Prop} {L : Addr} {s : Shared}
set_option maxHeartbeats 4000000 in
theorem seg34 {ov fv : List Value} {ol l5 fl : Addr} {ko a1 a2 a3 a4 d0 d1 d2 d3 : Nat} {c0 c1 c2 c3 : Tok} {os : List Nat}
    (W : WF w mg mb s₀.heap) (K : Frames A [] s₀.heap) (hA : A.depth < 350) (hg : A.guards = some []) (hu : A.units < 1000) (hz : ∀ n ∈ [a1, a2, a3, a4], n < 256) (hd0 : d0 < 65536) (hfv : Nats fv [a1, a2, a3, a4]) (hov : Nats ov os) (hol : os.length = 16) (hoz : ∀ n ∈ os, n < 256)
    (D : St ⟨[], [], s₀, L⟩ [("four", .ref fl), ("good", .bool true), ("octets", .ref ol), ("drawn", .ref l5)]
      [(fl, listOf fv.toArray 0), (ol, listOf ov.toArray ko), (l5, listOf #[.int (d0 : Nat) c0, .int (d1 : Nat) c1, .int (d2 : Nat) c2, .int (d3 : Nat) c3] 0)] s)
    (k : ∀ loc news s, St ⟨[], [], s₀, L⟩ loc news s → QF (.ret (.bool true)) s) :
    wpC (model prog w) (A.deeper (lawEnv L)) (execs (rest 34) (lawEnv L)) QF EF s := by
  have hh : A.handled = none := K.calm
  have hfl := hfv.length
  simp only [List.length_cons, List.length_nil] at hfl
  have hol' := hov.length
  refine wpC_execs_cons (wpC_of ?_)
  fail "qgo"
  with_reducible refine PyProof.Rows.BoolOp_and ?_
  fail "qgo"
  with_reducible refine PyProof.Rows.BoolOp_and ?_
  fail "qgo"
  refine r_listadd (vs := ov) (ws := [.int (0 : Int) _]) D (D.listN (k := ko) (by fail "qin")) (D.listN (k := 0) (by fail "qin")) (by simp; omega) ?_
  clear D; intro q1 s D
  fail "qgo"
  have hov2 : ∀ t : Tok, Nats (ov ++ [.int (0 : Int) t]) (os ++ [0]) := fun t => pd_app hov (.cons ⟨t, rfl⟩ .nil)
  refine ref6_list (k0 := 0) (D.wf W) (K.deeper W D noDis rfl) (by show A.depth + 1 < _; omega) hg (by show A.units + 3 < _; omega) (D.get (by fail "qin")) (D.noFrame K noDis (p := (q1, _)) (by fail "qin")) (hov2 _) (by simp; omega) (fun n h => by
    rcases List.mem_append.mp h with h | h
    · have := hoz n h; omega
    · rw [List.mem_singleton.mp h]; decide) (fun z => by have := z.1; simp at this; omega) ?_
  intro s' x5 e5
  replace D := D.calm K noDis x5 e5
  clear x5 e5
  fail "qgo"
  with_reducible refine PyProof.Rows.BoolOp_one ?_
  fail "qgo"
  refine r_slice_list (vs := fv) D (by fail "qin") (D.listN (k := 0) (by fail "qin")) (.int _ _) .none (by omega) ?_
  clear D; intro q2 s D
  rw [show kms_pick fv (some 1) none = fv.drop 1 from pick_from fv 1] at D
  fail "qgo"
  refine r_item (vs := [.int (d0 : Nat) c0, .int (d1 : Nat) c1, .int (d2 : Nat) c2, .int (d3 : Nat) c3]) (k := 0) (D.listN (k := 0) (by fail "qin")) (by decide) rfl ?_
  fail "qgo"
  rw [show (256 : Int) + ((d0 : Nat) : Int) % 300 = ((256 + d0 % 300 : Nat) : Int) from rfl] at D
  refine r_listadd (vs := fv.drop 1) (ws := [.int ((256 + d0 % 300 : Nat) : Int) _]) D (D.listN (k := 0) (by fail "qin")) (D.listN (k := 0) (by fail "qin")) (by simp; omega) ?_
  clear D; intro q3 s D
  have hfv2 : ∀ t : Tok, Nats (fv.drop 1 ++ [.int ((256 + d0 % 300 : Nat) : Int) t]) ([a1, a2, a3, a4].drop 1 ++ [256 + d0 % 300]) := fun t => pd_app (pd_drop hfv 1) (.cons ⟨t, rfl⟩ .nil)
  refine ⟨(D.wf W).X, ?_⟩
  refine ref4_list (k0 := 0) (D.wf W) (K.deeper W D noDis rfl) (by show A.depth + 1 < _; omega) hg (by show A.units + 3 < _; omega) (D.get (by fail "qin")) (D.noFrame K noDis (p := (q3, _)) (by fail "qin")) (hfv2 _) (by simp) (fun n h => by
    rcases List.mem_append.mp h with h | h
    · have := hz n (List.mem_of_mem_drop h); omega
    · rw [List.mem_singleton.mp h]; omega) (fun z => by have := z.2 (256 + d0 % 300) (by simp); omega) ?_
  intro s' x5 e5
  replace D := D.calm K noDis x5 e5
  clear x5 e5
  exact k _ _ _ D
end

def cut (m : Int) : Nat := (m % 65536).toNat
theorem cut_lt (m : Int) : cut m < 65536 := by unfold cut; omega
theorem cuts_of : ∀ {vs ys : List Value} {ms : List Int}, IntsAre vs ms → Paired (fun v y => ∀ m t, v = .int m t → ∃ t', y = .int (cut m : Nat) t') vs ys → Nats ys (ms.map cut)
  | _, _, _, .nil, .nil => .nil
  | _, _, _, .cons n t r, .cons h r' => .cons (h n t rfl) (cuts_of r r')
theorem ints_take : ∀ {vs : List Value} {ms : List Int} (k : Nat), IntsAre vs ms → IntsAre (vs.take k) (ms.take k)
  | _, _, 0, _ => .nil
  | _, _, k + 1, .nil => .nil
  | _, _, k + 1, .cons n t r => .cons n t (ints_take k r)
theorem ints_mem : ∀ {vs : List Value} {ms : List Int} {v : Value}, IntsAre vs ms → v ∈ vs → ∃ m t, v = .int m t
  | _, _, _, .cons n t r, h => by
    rcases List.mem_cons.mp h with rfl | h
    · exact ⟨n, t, rfl⟩
    · exact ints_mem r h
section
variable {prog : Program} {w : World} {A : Around} {E : Value → Shared → Prop} {s₀ : Shared} {mg mb : Str → Option Value} {a : Addr} {vs : List Value} {ms : List Int} {Q : Value → Shared → Prop}
theorem usual (W : WF w mg mb s₀.heap) (hA : A.depth < 900) (k : ∀ l us s', Nats us [16449, 43981, 5, 49320] → Rel [] [] s₀.heap s'.heap → Same s₀ s' → s'.heap.get? l = some (listOf us.toArray 0) → s₀.heap.get? l = none → Q (.ref l) s') : wpAny (model prog w) A (call (.ref 476) []) Q E s₀ := by
  refine enter [] W (by omega) (by k_is) (by k_is) (.of_eq (by rfl)) (by kernel_rfl) ?_
  intro L s D
  fail "qgo"
  exact k _ _ _ (.cons ⟨_, rfl⟩ (.cons ⟨_, rfl⟩ (.cons ⟨_, rfl⟩ (.cons ⟨_, rfl⟩ .nil)))) D.toRel D.same (D.get (by fail "qin")) (D.isNew rfl (p := (_, _)) (by fail "qin"))
set_option maxHeartbeats 4000000 in
theorem law_walk (W : WF w mg mb s₀.heap) (K : Frames A [] s₀.heap) (hA : A.depth < 350) (hg : A.guards = some []) (hu : A.units < 1000) (hl : s₀.heap.IsList a vs.toArray) (hv : IntsAre vs ms) (hlen : vs.length ≤ 63)
    (k : ∀ s', Rel [] [] s₀.heap s'.heap → Same s₀ s' → Q (.bool true) s') : wpC (model prog w) A (call (.ref 514) [.ref a]) Q E s₀ := by
  have hh : A.handled = none := K.calm
  refine enterX [] [] [] [("script", .ref a)] W (by omega) (fun _ z => nomatch z) (fun _ z => nomatch z) (by simp) (by k_is) (by k_is) (.of_eq (by rfl)) (by kernel_rfl) ?_
  intro L s hL D
  have dis : ∀ b ∈ (⟨[], [], s₀, L⟩ : Cx).fs, b ∉ (⟨[], [], s₀, L⟩ : Cx).S := fun _ z => nomatch z
  refine wpC_execs_cons (wpC_of ?_)
  fail "qgo"
  (with_reducible refine comp_genU (cl := []) D ?c1 ?c2 ?c3 ?_ ?hsw (hs := ?hs)); (case c1 => exact hh); (case c2 => exact closureFor_none (by decide)); (case c3 => kernel_rfl); (case hs => intro _; rfl); (case hsw => kernel_rfl)
  fail "qgo"
  fail "qsl"; (case q2 => exact D.list hl (by simp)); (case q3 => omega)
  clear D; intro l1 s D
  have e4 : kms_pick vs none (some 4) = vs.take 4 := pick_to vs 4
  rw [e4] at D
  refine compGU_new (fun v y => ∀ m t, v = .int m t → ∃ t', y = .int (cut m : Nat) t') (.list l1 (vs.take 4).toArray) D rfl (D.listN (by fail "qin")) (stay_new (k := 0) (by fail "qin")) (by show (vs.take 4).toArray.size ≤ _; simp; omega) ⟨rfl⟩ (by kernel_rfl) (by kernel_rfl) ?_ ?_
  · clear D
    intro v c oc m D' oD I oI s E' hv' hN hX D
    obtain ⟨n, tn, rfl⟩ := ints_mem (ints_take 4 hv) (by have h : v ∈ (vs.take 4).toArray := hv'; simpa using h)
    fail "qgo"
    refine ⟨fun m' t' e => ?_, D⟩
    cases e
    refine ⟨t, ?_⟩
    congr 1
    unfold cut
    omega
  · clear D
    intro l2 ys s hF D
    have hys : Nats ys ((ms.take 4).map cut) := cuts_of (ints_take 4 hv) hF
    clear hF e4
    refine wpC_execs_cons (wpC_of ?_)
    fail "qgo"
    refine usual (D.wf W) (by show A.depth + 1 < _; omega) ?_
    intro l3 us s' hus x5 e5 g5 n5
    replace D := D.pureNew x5 e5 g5 n5
    clear x5 e5 g5 n5
    have hyl := hys.length
    have hul := hus.length
    fail "qgo"
    refine r_len_list (vs := ys) D (D.listN (k := ys.length) (by fail "qin")) (by rw [hyl, List.length_map, List.length_take]; omega) ?_
    clear D
    intro s t D
    fail "qgo"
    refine kba_turn (value' := .Name (Str.ofString "x") { line := 0, col := 0, endLine := 0, endCol := 0 }) (fun _ => rfl) ?_
    refine r_slice_list (vs := us) D (by fail "qin") (D.listN (k := 0) (by fail "qin")) (.int _ _) .none (by rw [hul]; decide) ?_
    clear D
    intro l4 s D
    rw [pick_from] at D
    refine r_listadd (vs := ys) (ws := us.drop ys.length) D (D.listN (k := ys.length) (by fail "qin")) (D.listN (k := 0) (by fail "qin")) (by rw [List.length_drop, hul, hyl, List.length_map, List.length_take]; simp; omega) ?_
    clear D
    intro l5 s D
    fail "qgo"
    have hdr : Nats (ys ++ us.drop ys.length) (((ms.take 4).map cut) ++ [16449, 43981, 5, 49320].drop ys.length) := pd_app hys (pd_drop hus _)
    generalize hdn : ((ms.take 4).map cut) ++ [16449, 43981, 5, 49320].drop ys.length = dn at hdr
    have hdl : dn.length = 4 := by
      rw [← hdn, List.length_append, List.length_drop, hyl, List.length_map, List.length_take]
      simp
      omega
    have hdz : ∀ n ∈ dn, n < 65536 := by
      intro n hn
      rw [← hdn] at hn
      rcases List.mem_append.mp hn with hn | hn
      · obtain ⟨m, _, rfl⟩ := List.mem_map.mp hn
        exact cut_lt m
      · have := List.mem_of_mem_drop hn
        simp at this
        omega
    generalize ys ++ us.drop ys.length = dv at hdr D
    replace D := D.drop (news' := [(l5, listOf dv.toArray 0)]) (by fail "qsb")
    clear hys hus hyl hul hdn
    refine wpC_execs_cons (wpC_of ?_)
    fail "qgo"
    obtain ⟨d0, d1, d2, d3, t0, t1, t2, t3, rfl, rfl⟩ := nats4 hdr hdl
    have z0 := hdz d0 (by simp)
    have z1 := hdz d1 (by simp)
    have z2 := hdz d2 (by simp)
    have z3 := hdz d3 (by simp)
    clear hdr hdl hdz
    obtain ⟨gl, egl⟩ : ∃ gl : Addr, gl = ad := ⟨_, rfl⟩
    subst egl
    refine wpC_execs_cons (wpC_of (for_range D hh 0 1 8 (fun j loc news => ∃ gv kg, loc = ([("groups", .ref gl), ("drawn", .ref l5), ("script", .ref a)] : List (Str × Value)) ∧
      news = [(gl, listOf gv.toArray kg), (l5, listOf #[.int (d0 : Nat) t0, .int (d1 : Nat) t1, .int (d2 : Nat) t2, .int (d3 : Nat) t3] 0)] ∧ Nats gv (grpsTo d0 d1 d2 j)) ?_ ?_ ?_ (by intro _; rfl) (by intro _ _; rfl)))
    · fail "qgo"
      refine r_range1 D fun r s t v D => ⟨r, 8, _, _, _, _, _, rfl, D.get List.mem_cons_self, ?_, ?_, ⟨[], 0, rfl, rfl, .nil⟩, D.forget (List.sublist_cons_self _ _)⟩ <;> first | decide | decide +kernel
    · clear D
      rintro j t _ _ s I oI hj ⟨gv, kg, rfl, rfl, hgv⟩ D
      rw [show (0 : Int) + 1 * (j : Int) = ((j : Nat) : Int) by omega]
      fail "qgo"
      refine r_item (vs := [.int (d0 : Nat) t0, .int (d1 : Nat) t1, .int (d2 : Nat) t2, .int (d3 : Nat) t3]) (k := 0) (D.listN (k := 0) (by fail "qin")) (by decide) rfl ?_
      fail "qgo"
      refine r_pow4 D hj ?_
      clear D; intro s t D
      fail "qgo"
      have hp : 0 < 4 ^ j := Nat.pow_pos (by decide)
      have hp2 : 4 ^ j < 65536 := Nat.lt_of_le_of_lt (Nat.pow_le_pow_right (by decide) (show j ≤ 7 by omega)) (by decide)
      refine r_fdiv D (by omega) (by omega) ?_
      clear D; intro s t D
      rw [← Int.natCast_ediv]
      generalize hq : d0 / 4 ^ j = q
      fail "qgo"
      rw [show ((q : Nat) : Int) % 4 = ((q % 4 : Nat) : Int) by omega] at D
      fail "qgo"
      refine r_item (vs := [.int (d0 : Nat) t0, .int (d1 : Nat) t1, .int (d2 : Nat) t2, .int (d3 : Nat) t3]) (k := 1) (D.listN (k := 0) (by fail "qin")) (by decide) rfl ?_
      fail "qgo"
      rw [show ((j : Nat) : Int) + 1 = ((j + 1 : Nat) : Int) by omega]
      refine r_mul D z1 ?_
      clear D; intro s t D
      fail "qgo"
      refine r_item (vs := [.int (d0 : Nat) t0, .int (d1 : Nat) t1, .int (d2 : Nat) t2, .int (d3 : Nat) t3]) (k := 2) (D.listN (k := 0) (by fail "qin")) (by decide) rfl ?_
      fail "qgo"
      rw [show ((d1 * (j + 1) : Nat) : Int) % 65536 = ((d1 * (j + 1) % 65536 : Nat) : Int) from rfl, show ((d2 : Nat) : Int) / (((j : Nat) : Int) + 1) % 256 = ((d2 / (j + 1) % 256 : Nat) : Int) from rfl] at D
      refine kba_turn (value' := .Name (Str.ofString "x") { line := 0, col := 0, endLine := 0, endCol := 0 }) (fun _ => rfl) ?_
      have hk4 : q % 4 < 4 := Nat.mod_lt _ (by decide)
      generalize hk : q % 4 = k at D hk4 ⊢
      have hgl := hgv.length
      rw [grpsTo_len] at hgl
      have fin : ∀ (v : Value) (x kg' : Nat) (s : Shared), (∃ t, v = .int (x : Nat) t) → x = grpAt d0 d1 d2 j → St ⟨[], [], s₀, L⟩ [("groups", .ref gl), ("drawn", .ref l5), ("script", .ref a)] [(I, oI), (gl, listOf (gv ++ [v]).toArray kg'), (l5, listOf #[.int (d0 : Nat) t0, .int (d1 : Nat) t1, .int (d2 : Nat) t2, .int (d3 : Nat) t3] 0)] s →
          ∃ loc news, (∃ gv kg, loc = ([("groups", .ref gl), ("drawn", .ref l5), ("script", .ref a)] : List (Str × Value)) ∧ news = [(gl, listOf gv.toArray kg), (l5, listOf #[.int (d0 : Nat) t0, .int (d1 : Nat) t1, .int (d2 : Nat) t2, .int (d3 : Nat) t3] 0)] ∧ Nats gv (grpsTo d0 d1 d2 (j + 1))) ∧ St ⟨[], [], s₀, L⟩ loc ((I, oI) :: news) s := by
        intro v x kg' s hv hx D
        exact ⟨_, _, ⟨gv ++ [v], kg', rfl, rfl, by rw [grpsTo, ← hx]; exact hgv.snoc hv⟩, D⟩
      rcases (by omega : k = 0 ∨ k = 1 ∨ k = 2 ∨ k = 3) with rfl | rfl | rfl | rfl
      · refine r_item (k := 0) (D.listN (k := 0) (by fail "qin")) (by decide) rfl ?_
        fail "qgo"
        exact fin _ 0 _ _ ⟨_, rfl⟩ (by unfold grpAt; rw [hq, hk]; rfl) ((D.to (by fail "qsub") (by kernel_rfl)).drop (by fail "qsb"))
      · refine r_item (k := 1) (D.listN (k := 0) (by fail "qin")) (by decide) rfl ?_
        fail "qgo"
        exact fin _ (d1 * (j + 1) % 65536) _ _ ⟨_, rfl⟩ (by unfold grpAt; rw [hq, hk]; rfl) ((D.to (by fail "qsub") (by kernel_rfl)).drop (by fail "qsb"))
      · refine r_item (k := 2) (D.listN (k := 0) (by fail "qin")) (by decide) rfl ?_
        fail "qgo"
        exact fin _ 0 _ _ ⟨_, rfl⟩ (by unfold grpAt; rw [hq, hk]; rfl) ((D.to (by fail "qsub") (by kernel_rfl)).drop (by fail "qsb"))
      · refine r_item (k := 3) (D.listN (k := 0) (by fail "qin")) (by decide) rfl ?_
        fail "qgo"
        exact fin _ (d2 / (j + 1) % 256) _ _ ⟨_, rfl⟩ (by unfold grpAt; rw [hq, hk]; rfl) ((D.to (by fail "qsub") (by kernel_rfl)).drop (by fail "qsb"))
    · clear D
      rintro _ _ s ⟨gv, kg, rfl, rfl, hgv⟩ D
      have hgz : ∀ n ∈ grpsTo d0 d1 d2 8, n < 65536 := grpsTo_lt d0 d1 d2 8
      have hgl8 : (grpsTo d0 d1 d2 8).length = 8 := grpsTo_len d0 d1 d2 8
      generalize hgs : grpsTo d0 d1 d2 8 = gs at hgv hgz hgl8
      have hgl := hgv.length
      rw [hgl8] at hgl
      dsimp only
      refine wpC_execs_cons (wpC_of ?_)
      fail "qgo"
      obtain ⟨ol, eol⟩ : ∃ ol : Addr, ol = ad := ⟨_, rfl⟩
      subst eol
      refine wpC_execs_cons (for_listC D hh gv.toArray gl (fun j loc news => ∃ ov ko, loc = ([("octets", .ref ol), ("groups", .ref gl), ("drawn", .ref l5), ("script", .ref a)] : List (Str × Value)) ∧
        news = [(ol, listOf ov.toArray ko), (gl, listOf gv.toArray kg), (l5, listOf #[.int (d0 : Nat) t0, .int (d1 : Nat) t1, .int (d2 : Nat) t2, .int (d3 : Nat) t3] 0)] ∧ Nats ov (octsOf (gs.take j))) ?_ ?_ ?_ ?_ (by intro _; rfl) (by intro _ _; rfl))
      · fail "qgo"
        exact ⟨rfl, D.listN (by fail "qin"), _, _, ⟨[], 0, rfl, rfl, .nil⟩, D⟩
      · rintro j _ _ s ⟨ov, ko, rfl, rfl, hov⟩ D
        exact D.listN (by fail "qin")
      · clear D
        rintro j v _ _ s I oI hj ⟨ov, ko, rfl, rfl, hov⟩ D
        have hjl : j < gs.length := by
          have := (Array.getElem?_eq_some_iff.mp hj).1
          rw [List.size_toArray] at this
          omega
        obtain ⟨v', hv', t, rfl⟩ := pd_at hgv (List.getElem?_eq_getElem hjl)
        rw [List.getElem?_toArray, hv'] at hj
        cases hj
        have hx := hgz _ (List.getElem_mem hjl)
        have htk : octsOf (gs.take (j + 1)) = octsOf (gs.take j) ++ [gs[j] / 256, gs[j] % 256] := by
          unfold octsOf
          rw [List.take_succ_eq_append_getElem hjl, List.flatMap_append]
          rfl
        have hol := hov.length
        have hoz : (octsOf (gs.take j)).length ≤ 16 := by
          have : ∀ l : List Nat, (octsOf l).length = 2 * l.length := by
            intro l
            induction l with
            | nil => rfl
            | cons a l ih => simp [octsOf] at ih ⊢; omega
          rw [this, List.length_take]
          omega
        generalize gs[j] = n at *
        fail "qgo"
        refine wpC_of ?_
        fail "qgo"
        rw [show ((n : Nat) : Int) / 256 = ((n / 256 : Nat) : Int) from rfl, show ((n : Nat) : Int) % 256 = ((n % 256 : Nat) : Int) from rfl] at D
        refine r_iaddlist (vs := ov) (ws := [.int ((n / 256 : Nat) : Int) _, .int ((n % 256 : Nat) : Int) _]) D (by fail "qalt") (by fail "qin") (by simp; omega) (by simp) ?_
        clear D
        intro s D
        fail "qgo"
        have fin : ∀ (x y : Tok) (k' : Nat) (s : Shared), St ⟨[], [], s₀, L⟩ [("octets", .ref ol), ("groups", .ref gl), ("drawn", .ref l5), ("script", .ref a)] [(I, oI), (ol, listOf (ov ++ [Value.int ((n / 256 : Nat) : Int) x, Value.int ((n % 256 : Nat) : Int) y]).toArray k'), (gl, listOf gv.toArray kg), (l5, listOf #[.int (d0 : Nat) t0, .int (d1 : Nat) t1, .int (d2 : Nat) t2, .int (d3 : Nat) t3] 0)] s →
            ∃ loc news, (∃ ov ko, loc = ([("octets", .ref ol), ("groups", .ref gl), ("drawn", .ref l5), ("script", .ref a)] : List (Str × Value)) ∧ news = [(ol, listOf ov.toArray ko), (gl, listOf gv.toArray kg), (l5, listOf #[.int (d0 : Nat) t0, .int (d1 : Nat) t1, .int (d2 : Nat) t2, .int (d3 : Nat) t3] 0)] ∧ Nats ov (octsOf (gs.take (j + 1)))) ∧ St ⟨[], [], s₀, L⟩ loc ((I, oI) :: news) s := by
          intro x y k' s D
          exact ⟨_, _, ⟨_, _, rfl, rfl, by rw [htk]; exact pd_app hov (.cons ⟨x, rfl⟩ (.cons ⟨y, rfl⟩ .nil))⟩, D⟩
        exact fin _ _ _ _ ((D.to (by fail "qsub") (by kernel_rfl)).drop (by fail "qsb"))
      · clear D
        rintro _ _ s ⟨ov, ko, rfl, rfl, hov⟩ D
        have ets : gs.take gv.toArray.size = gs := by rw [List.size_toArray, hgl]; exact List.take_of_length_le (by omega)
        rw [ets] at hov
        clear ets
        dsimp only
        refine wpC_execs_cons (wpC_of ?_)
        fail "qgo"
        refine rows_ok (D.wf W) (by show A.depth + 1 < _; omega) hh (D.listN (by fail "qin")) hgv hgl8 ?_
        intro s' rl rlo tups rv x5 e5 hrc hrd hrp hrq hrn
        replace D := D.pureNews x5 e5 _ hrq hrn
        clear x5 e5 hrq hrn
        fail "qgo"
        refine wpC_execs_cons (wpC_of ?_)
        fail "qgo"
        have hin : ∀ p ∈ tups, p ∈ (rl, rlo) :: tups := fun p h => .tail _ h
        have huni : ∀ v r r', isRow tups v r → isRow tups v r' → r = r' := by
          rintro v r r' ⟨b, t1, t2, rfl, h1⟩ ⟨b', u1, u2, e, h2⟩
          cases e
          have g1 := D.get (List.mem_append_right _ (hin _ h1))
          have g2 := D.get (List.mem_append_right _ (hin _ h2))
          rw [g1] at g2
          simp [tupOf] at g2
          exact Prod.ext (by omega) (by omega)
        (with_reducible refine comp_genU (cl := []) D ?c1 ?c2 ?c3 ?_ ?hsw (hs := ?hs)); (case c1 => exact hh); (case c2 => exact closureFor_none (by decide)); (case c3 => kernel_rfl); (case hs => intro _; rfl); (case hsw => kernel_rfl)
        fail "qgo"
        have hcl : ∃ p : Value → Bool, ∀ v r, isRow tups v r → p v = isLong r := by
          classical
          refine ⟨fun v => decide (∃ r, isRow tups v r ∧ isLong r = true), fun v r h => ?_⟩
          by_cases hl : isLong r = true
          · rw [hl]; exact decide_eq_true ⟨r, h, hl⟩
          · rw [Bool.eq_false_iff.mpr hl]
            exact decide_eq_false fun ⟨r', h', hl'⟩ => hl (huni _ _ _ h h' ▸ hl')
        obtain ⟨p, hp⟩ := hcl
        refine compGU_if p (fun v y => y = v) (.list rl rv.toArray) D rfl (D.isListD (by fail "qin") hrc hrd) ?_ ?_ ⟨rfl⟩ (by kernel_rfl) (by kernel_rfl) ?_ ?_ ?_
        · intro news' s hs D
          exact D.isListD (hs.subset (by fail "qin")) hrc hrd
        · show rv.toArray.size ≤ _
          rw [List.size_toArray, hrp.length]
          have := rowsL_len gs 0
          omega
        · clear D
          intro v c oc m D' oD I oI s E' hv' hN hX D
          obtain ⟨r, hr, hrow⟩ := rows_mem hrp (by have h : v ∈ rv.toArray := hv'; simpa using h)
          have hrow' := hrow
          obtain ⟨b, u1, u2, rfl, hb⟩ := hrow
          rw [hp _ _ hrow']
          fail "qgo"
          refine r_itemT (vs := [.int r.1 u1, .int r.2 u2]) (k := 1) (D.tupN (by simp [hb])) (by decide) rfl ?_
          fail "qgo"
          refine r_itemT (vs := [.int r.1 u1, .int r.2 u2]) (k := 0) (D.tupN (by simp [hb])) (by decide) rfl ?_
          fail "qgo"
          exact ⟨rfl, D⟩
        · clear D
          intro v c oc m D' oD I oI s E' hv' hpv hN hX D
          fail "qgo"
          exact ⟨rfl, D⟩
        · clear D
          intro lg ys s hF D
          have hlr : Paired (isRow tups) ys ((rowsL gs 0).filter isLong) := by
            have := rows_filter hp hrp
            rw [paired_eq hF]
            exact this
          clear hF hp
          have hlz : ys.length ≤ 8 := by
            rw [hlr.length]
            have h1 := rowsL_len gs 0
            have h2 := List.length_filter_le isLong (rowsL gs 0)
            omega
          dsimp only
          refine wpC_execs_cons (wpC_of ?_)
          fail "qgo"
          fail "qco"
          fail "qgo"
          have hdp : ∀ env : Env, (A.deeper env).depth < 900 := fun env => by show A.depth + 1 < 900; omega
          refine compG_plain (fun v y => ∀ n, isNat v n → isTxt y (hexL n)) (.list gl gv.toArray) D rfl (D.listN (by fail "qin")) (stay_new (k := kg) (by fail "qin")) (by show gv.toArray.size ≤ _; simp; omega) ?_ ?_
          · clear D
            intro v c oc m D' oD I oI s E' hv hN hX D
            obtain ⟨n, hm, t, rfl⟩ := Nats.mem_isNat hgv hv
            fail "qgo"
            refine c_sixteen D W (hdp _) (hgz n hm) ?_
            clear D; intro s t D
            exact ⟨fun n' ⟨t', e⟩ => by cases e; exact ⟨_, rfl⟩, D⟩
          clear D
          intro D' ys2 s hF D
          have hy := pd_comp (f := hexL) (R' := isTxt) (fun v y n h1 h2 => h2 n h1) hF hgv
          fail "qgo"
          have z1 := hexjoin_len (ns := gs) hgz (by omega)
          refine r_join D (D.listN (k := ys2.length) (by fail "qin")) (txts_strs hy) (by decide) z1.1 ?_
          clear D; intro s t D
          fail "qgo"
          refine wpC_execs_cons (wpC_of ?_)
          fail "qgo"
          fail "qco"
          fail "qgo"
          refine compG_plain (fun v y => ∀ n, isNat v n → isTxt y (wideL n)) (.list gl gv.toArray) D rfl (D.listN (by fail "qin")) (stay_new (k := kg) (by fail "qin")) (by show gv.toArray.size ≤ _; simp; omega) ?_ ?_
          · clear D
            intro v c oc m D' oD I oI s E' hv hN hX D
            obtain ⟨n, hm, t, rfl⟩ := Nats.mem_isNat hgv hv
            have hnz := hgz n hm
            fail "qgo"
            rw [show ((n : Nat) : Int) / 4096 = ((n / 4096 : Nat) : Int) from rfl]
            (with_reducible refine r_stritem D ?q1 ?q2 ?q3 ?_); (case q1 => omega); (case q2 => show _ < ((16 : Nat) : Int); omega); (case q3 => decide)
            clear D; intro s t D
            rw [show Txt.item (Str.ofString "0123456789abcdef") ((n / 4096 : Nat) : Int) = T [hexD (n / 4096)] from sign_at _ (by omega)]
            fail "qgo"
            rw [show ((n : Nat) : Int) / 256 % 16 = ((n / 256 % 16 : Nat) : Int) from rfl]
            (with_reducible refine r_stritem D ?q1 ?q2 ?q3 ?_); (case q1 => omega); (case q2 => show _ < ((16 : Nat) : Int); omega); (case q3 => decide)
            clear D; intro s t D
            rw [show Txt.item (Str.ofString "0123456789abcdef") ((n / 256 % 16 : Nat) : Int) = T [hexD (n / 256 % 16)] from sign_at _ (by omega)]
            fail "qgo"
            rw [show ((n : Nat) : Int) / 16 % 16 = ((n / 16 % 16 : Nat) : Int) from rfl]
            (with_reducible refine r_stritem D ?q1 ?q2 ?q3 ?_); (case q1 => omega); (case q2 => show _ < ((16 : Nat) : Int); omega); (case q3 => decide)
            clear D; intro s t D
            rw [show Txt.item (Str.ofString "0123456789abcdef") ((n / 16 % 16 : Nat) : Int) = T [hexD (n / 16 % 16)] from sign_at _ (by omega)]
            fail "qgo"
            rw [show ((n : Nat) : Int) % 16 = ((n % 16 : Nat) : Int) from rfl]
            (with_reducible refine r_stritem D ?q1 ?q2 ?q3 ?_); (case q1 => omega); (case q2 => show _ < ((16 : Nat) : Int); omega); (case q3 => decide)
            clear D; intro s t D
            rw [show Txt.item (Str.ofString "0123456789abcdef") ((n % 16 : Nat) : Int) = T [hexD (n % 16)] from sign_at _ (by omega)]
            fail "qgo"
            refine r_upper D ?_ ?_
            · have := congrArg (fun x : Str => x.cps.size) (up4 (a := n / 4096) (b := n / 256 % 16) (c := n / 16 % 16) (d := n % 16) (by omega) (by omega) (by omega) (by omega))
              refine Nat.le_trans (Nat.le_of_eq this) ?_
              show 4 ≤ _
              omega
            clear D; intro s t D
            rw [up4 (a := n / 4096) (b := n / 256 % 16) (c := n / 16 % 16) (d := n % 16) (by omega) (by omega) (by omega) (by omega)]
            exact ⟨fun n' ⟨t', e⟩ => by
              have := (Value.int.inj e).1
              have e2 : n = n' := by omega
              subst e2
              exact ⟨_, rfl⟩, D⟩
          clear D
          intro D2 ys3 s hF D
          have hyw := pd_comp (f := wideL) (R' := isTxt) (fun v y n h1 h2 => h2 n h1) hF hgv
          fail "qgo"
          have z2 := wide_sum (ns := gs)
          refine r_join D (D.listN (k := ys3.length) (by fail "qin")) (txts_strs hyw) (by decide) (by rw [z2, List.length_map]; omega) ?_
          clear D; intro s t D
          fail "qgo"
          refine wpC_execs_cons (wpC_of ?_)
          fail "qgo"
          refine keep_mono (fun v => ∃ t, v = .str (T (shownL gs)) t) D ?_ ?_
          · refine wpAny_IfExp ?_
            fail "qgo"
            refine wpAny_truthy_list (D.listN (k := ys.length) (by fail "qin")) (by rw [List.size_toArray]; omega) ?_
            replace D := D.toks (t := s.toks + 1 + 1)
            unfold shownL
            generalize (rowsL gs 0).filter isLong = ls at hlr
            cases hlr with
            | nil =>
              refine if_ff ?_
              fail "qgo"
              exact ⟨⟨_, rfl⟩, D⟩
            | cons h1 h2 =>
              obtain ⟨b, u1, u2, rfl, hb⟩ := h1
              rename_i r _ _
              refine if_tt ?_
              fail "qgo"
              refine r_item (k := 0) (D.listN (by fail "qin")) (by decide) rfl ?_
              fail "qgo"
              refine kba_turn (value' := .Name (Str.ofString "x") { line := 0, col := 0, endLine := 0, endCol := 0 }) (fun _ => rfl) ?_
              refine r_itemT (vs := [.int r.1 u1, .int r.2 u2]) (k := 0) (D.tupN (by simp [hb])) (by decide) rfl ?_
              fail "qgo"
              refine r_item (k := 0) (D.listN (by fail "qin")) (by decide) rfl ?_
              fail "qgo"
              refine kba_turn (value' := .Name (Str.ofString "x") { line := 0, col := 0, endLine := 0, endCol := 0 }) (fun _ => rfl) ?_
              refine r_itemT (vs := [.int r.1 u1, .int r.2 u2]) (k := 1) (D.tupN (by simp [hb])) (by decide) rfl ?_
              fail "qgo"
              refine without_ok (D.wf W) (by show A.depth + 1 < _; omega) hh (D.listN (k := kg) (by fail "qin")) hgv hgz (by omega) ?_
              intro s' t' x5 e5
              exact ⟨⟨_, rfl⟩, D.pureCall x5 e5⟩
          clear D
          rintro v s ⟨t, rfl⟩ D
          fail "qgo"
          refine wpC_execs_cons (wpC_of ?_)
          fail "qgo"
          have hoz : ∀ n ∈ octsOf gs, n < 256 := by
            intro n hn
            obtain ⟨g, hg, hn⟩ := List.mem_flatMap.mp hn
            have := hgz g hg
            simp at hn
            omega
          have hol : (octsOf gs).length = 16 := by
            have : ∀ l : List Nat, (octsOf l).length = 2 * l.length := by
              intro l
              induction l with
              | nil => rfl
              | cons a l ih => simp [octsOf] at ih ⊢; omega
            rw [this]
            omega
          refine format_ok (src := .list ol ov.toArray) (D.wf W) (by show A.depth + 1 < _; omega) hh (D.listN (k := ko) (by fail "qin")) hov hoz hol ?_
          intro s' t' x5 e5
          replace D := D.pureCall x5 e5
          clear x5 e5
          fail "qgo"
          rw [decide_eq_true (fmt_is_shown hgl8)] at D
          refine seg12 W K hA hgv hgz hgl8 hrc hrd hrp ((D.to (by fail "qsub") (by kernel_rfl)).drop (.cons _ (.cons _ (.cons _ (List.Sublist.refl _))))) ?_
          clear D
          intro tl tv kt s htv D
          refine seg14 W K hA hu hgz hgl8 hov htv D ?_
          clear D
          intro s D
          refine seg15 W K hA hg hu hgz hgl8 D ?_
          clear D
          intro x dx r tk xv px pdx pb ta tb i tc s hxv D
          refine seg18 W K hA hu hgz hgl8 hov hxv D ?_
          clear D
          intro s D
          refine seg19 W K hA hg hu hgz hgl8 hov hxv D ?_
          clear D
          intro s D
          refine seg20 W K hA hg hu hgz hgl8 hov hxv D ?_
          clear D
          intro s tp D
          refine seg22 W K hA hgz hgl8 ((D.to (by fail "qsub") (by kernel_rfl)).drop (List.Sublist.refl _)) ?_
          clear D
          intro s th sp us ks hus D
          refine seg24 W K hA hg hu hgz hgl8 (Nat.mod_lt _ (by decide)) (Nat.mod_lt _ (by decide)) hus D ?_
          clear D
          intro s D
          refine seg25 W K hA hg hu hgz hgl8 (Nat.mod_lt _ (by decide)) hus hov D ?_
          clear D
          intro s D
          refine seg26 W K hA z3 D ?_
          clear D
          intro fl fv tw s hfv D
          have hq : ∀ n ∈ [d3 / 256, d3 % 256, d2 % 256, d1 % 256], n < 256 := by
            intro n hn
            simp only [List.mem_cons, List.not_mem_nil, or_false] at hn
            omega
          refine seg28 W K hA hg hu rfl hq D ?_
          clear D
          intro nx ndx nr ntk nv npx npdx npb nta ntb ni ntc s hnv D
          refine seg31 W K hA hg hu hq hfv hnv D ?_
          clear D
          intro s D
          refine seg32 W K hA hg hu hq hfv hnv D ?_
          clear D
          intro s D
          refine seg33 W K hA hg hu hq D ?_
          clear D
          intro s D
          exact seg34 W K hA hg hu hq z0 hfv hov hol hoz D fun loc news s D => k _ D.toRel D.same
end

theorem frames_top {h : Heap} : Frames callerA [] h := ⟨⟨[], rfl, rfl, (fun _ z => nomatch z)⟩, (fun _ z => nomatch z), rfl⟩
set_option maxHeartbeats 4000000 in
theorem law_holds : PySem.Challenge.rw_fh0008_01.Holds := by
  refine hd ?_
  intro w s₀ s₁ mg mb G Y a hmg args vals as hpre hlay LL hlo
  have hrd := LL.reads
  have hwl := LL.well
  have hgn := LL.gens
  have W : WF w mg mb s₁.heap := ⟨kIn_of Y, G.T.g, G.T.b, G.T.nolimit, G.T.builtins, G.T.nodigits⟩
  have e : mg "law" = some (.ref 514) := mg_of W.X W.g (by k_is)
  obtain rfl : a = 514 := by
    have := hmg.symm.trans e
    exact Value.ref.inj (Option.some.inj this)
  clear hmg e
  wrow_args hpre hlay hrd hwl hlo
  rename_i ms hs1 hs2 hs3 hs4 hs5 _ _ l vs _ hl _ _ _ hI _ hcond _
  refine law_walk W frames_top (by decide) rfl (by decide) hl hI ?_ ?_
  · rw [hI.length]
    omega
  · intro s' x5 e5
    refine ⟨.inl ⟨.bool true, .bool true, [], rfl, ?_, .bool true, ?_, ?_⟩, .of_keep fun b o q => x5.keep b o (fun z => nomatch z) (fun z => nomatch z) q, e5.os, by rw [e5.gens, hgn]; exact .of_eq rfl⟩
    · first | exact fun _ => rfl | exact raisesW_false (by wrow_none_raised)
    · first | rfl | wrow_post
    · exact fun _ => ⟨List.nodup_nil, fun _ z => nomatch z⟩

end L6

theorem PySem.Challenge.cw_fh0008_01_holds : PySem.Challenge.rw_fh0008_01.Holds :=
  L6.law_holds
