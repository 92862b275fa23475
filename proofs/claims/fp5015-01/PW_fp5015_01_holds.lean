import PyProof.Rows.All
import Wide.All
import OpenK.AllK
import Wide.FinOn
import PySem.Challenge.RW_fp5015_01
set_option Elab.async false

section CmPart
set_option maxRecDepth 100000
namespace Mine
open PySem PySem.W PySem.Calls PySem.Spec PyProof.Rows
open Sem (wp)

/-! ## contexts whose stack holds no codec that holds a bytearray -/
def badIds : List String := ["bytearray.__contains__", "bytearray.__mod__", "bytearray.__rmod__", "_struct.pack_into.held", "bytearray.find.held"] ++ Builtin.Bytes.decodersThatHold
def okCode : Code → Bool
  | .builtin id _ => !badIds.contains id
  | _ => true
def okBelow (l : List (Code × Pos)) : Prop := ∀ x ∈ l, okCode x.1 = true

def wpC {α : Type} (M : Model) (A : Around) (t : Sem α) (Q : α → Shared → Prop) (E : Value → Shared → Prop) (s : Shared) : Prop :=
  ∀ Γ p, Γ.In A → okCode Γ.code = true → okBelow Γ.below → wp M Γ t (fun a _ s' => Q a s') (fun e _ s' => E e s') p s
def codeC (M : Model) (A : Around) (c : Code) (R : Result → Shared → Prop) (s : Shared) : Prop :=
  ∀ Γ p, Γ.code = c → Γ.Below A → okBelow Γ.below → wpCode M Γ R p s

section
variable {α β : Type} {M : Model} {A : Around} {E : Value → Shared → Prop} {s : Shared}
theorem wpC_any {t : Sem α} {Q : α → Shared → Prop} (h : wpAny M A t Q E s) : wpC M A t Q E s := fun Γ p hΓ _ _ => h Γ p hΓ
theorem codeC_any {c : Code} {R : Result → Shared → Prop} (h : codeAny M A c R s) : codeC M A c R s := fun Γ p hc hΓ _ => h Γ p hc hΓ
theorem wpC_pure {a : α} {Q : α → Shared → Prop} (h : Q a s) : wpC M A (pure a) Q E s := fun _ _ _ _ _ => h
theorem wpC_mono {t : Sem α} {Q Q' : α → Shared → Prop} {E' : Value → Shared → Prop} (h : wpC M A t Q E s) (hQ : ∀ a s, Q a s → Q' a s) (hE : ∀ e s, E e s → E' e s) : wpC M A t Q' E' s :=
  fun Γ p hΓ o b => Sem.wp_mono M Γ t (fun a _ s => hQ a s) (fun e _ s => hE e s) p s (h Γ p hΓ o b)
theorem codeC_mono {c : Code} {R R' : Result → Shared → Prop} (h : codeC M A c R s) (hR : ∀ r s, R r s → R' r s) : codeC M A c R' s :=
  fun Γ p hc hΓ b => wpCode_mono hR (h Γ p hc hΓ b)
theorem wpC_bind {m : Sem α} {f : α → Sem β} {Q : β → Shared → Prop} (h : wpC M A m (fun a s' => wpC M A (f a) Q E s') E s) : wpC M A (m >>= f) Q E s := fun Γ p hΓ o b => by
  rw [Sem.wp_bind']
  exact Sem.wp_mono M Γ m (fun a p' s' h' => h' Γ p' hΓ o b) (fun _ _ _ h' => h') p s (h Γ p hΓ o b)
/-- a step of the library's, then on -/
theorem wpC_then {m : Sem α} {f : α → Sem β} {Q : β → Shared → Prop} (h : wpAny M A m (fun a s' => wpC M A (f a) Q E s') E s) : wpC M A (m >>= f) Q E s := wpC_bind (wpC_any h)
theorem wpC_holding {vs : List Value} {m : Sem α} {Q : α → Shared → Prop} (h : wpC M A m Q E s) : wpC M A (holding vs m) Q E s :=
  fun Γ p hΓ o b => by rw [Sem.wp_holding]; exact h Γ p hΓ o b
theorem wpC_keep {vs : List Value} {m : Sem α} {Q : α → Shared → Prop} (h : wpC M A m Q E s) : wpC M A (m.keep vs) Q E s :=
  fun Γ p hΓ o b => by rw [Sem.wp_keep]; exact h Γ p hΓ o b
theorem wpC_onRaise {m : Sem α} {k : Value → Sem Unit} {Q : α → Shared → Prop} (h : wpC M A m Q (fun e s' => wpC M A (k e) (fun _ s'' => E e s'') E s') s) : wpC M A (m.onRaise k) Q E s := fun Γ p hΓ o b => by
  rw [Sem.wp_onRaise]
  exact Sem.wp_mono M Γ m (fun _ _ _ h' => h') (fun e p' s' h' => h' Γ p' hΓ o b) p s (h Γ p hΓ o b)
theorem wpC_onRaise' {m : Sem α} {k : Value → Sem Unit} {Q : α → Shared → Prop} (h : wpC M A m Q (fun e s' => wpAny M A (k e) (fun _ s'' => E e s'') E s') s) : wpC M A (m.onRaise k) Q E s :=
  wpC_onRaise (wpC_mono h (fun _ _ x => x) fun _ _ x => wpC_any x)
theorem wpC_attempt {m : Sem α} {Q : Except Value α → Shared → Prop} (h : wpC M A m (fun a => Q (.ok a)) (fun e => Q (.error e)) s) : wpC M A m.attempt Q E s := fun Γ p hΓ o b => by rw [Sem.wp_attempt]; exact h Γ p hΓ o b
theorem wpC_standAt {pos : Pos} {Q : Unit → Shared → Prop} (h : Q () s) : wpC M A (standAt pos) Q E s := wpC_any (wpAny_standAt h)
theorem wpC_rule {tag : String} {Q : Unit → Shared → Prop} (h : Q () s) : wpC M A (rule tag) Q E s := wpC_any (wpAny_rule h)
theorem wpC_of_eq {t t' : Sem α} {Q : α → Shared → Prop} (e : t = t') (h : wpC M A t' Q E s) : wpC M A t Q E s := e ▸ h

theorem okEnter {Γ : PySem.Ctx} {c : Code} {h : Option Value} {p : Pos} (o : okCode Γ.code = true) (b : okBelow Γ.below) : okBelow (Γ.enter c h p).below := fun x hx => by
  rcases List.mem_cons.mp (show x ∈ (Γ.code, p) :: Γ.below from hx) with rfl | hx
  · exact o
  · exact b x hx
theorem wpC_run {c : Code} {h : Option Value} {Q : Flow → Shared → Prop} (hc : codeC M (A.mark h) c (fun r s' => match r with | .ok f => Q f s' | .error e => E e s') s) (hnb : h ≠ some byPass := by intro x; cases x) :
    wpC M A (run c h) Q E s := fun Γ p hΓ o b => by rw [Sem.wp_run]; exact hc _ p rfl (hΓ.enter c h p hnb) (okEnter o b)
theorem wpC_runValue {c : Code} {Q : Value → Shared → Prop} (hc : codeC M A c (fun r s' => match r with | .ok (.ret v) => Q v s' | .ok _ => False | .error e => E e s') s) : wpC M A (runValue c) Q E s :=
  fun Γ p hΓ o b => by rw [Sem.wp_runValue]; exact hc _ p rfl (hΓ.enter c none p (by intro x; cases x)) (okEnter o b)
theorem wpC_call {f : Value} {pos : List Value} {kw : List (Str × Value)} {Q : Value → Shared → Prop} (hc : codeC M A (.call f ⟨pos, kw⟩) (fun r s' => match r with | .ok (.ret v) => Q v s' | .ok _ => False | .error e => E e s') s) :
    wpC M A (call f pos kw) Q E s := wpC_runValue hc
theorem codeC_of_tree {c : Code} {R : Result → Shared → Prop} (ok : okCode c = true)
    (h : wpC M (A.under c) (M.den c) (fun fin s' => match fin with | .done f => R (.ok f) s' | .again c' => c'.quiet = true ∧ codeC M A c' R s') (fun e s' => R (.error e) s') s) : codeC M A c R s := fun Γ p hc hΓ b => by
  rw [wpCode_iff_wp, hc]
  refine Sem.wp_mono M Γ _ (fun fin p' s' h' => ?_) (fun _ _ _ h' => h') p s (h Γ p (hc ▸ hΓ.in) (by rw [hc]; exact ok) b)
  cases fin with
  | done f => exact h'
  | again c' => exact ⟨h'.1, h'.2 (Γ.goto c') p' rfl (hΓ.goto c') b⟩

/-- the look at the stack, in a clean context -/
theorem exported_form (self : Value) : ∃ f : Code × Pos → Bool, Builtin.Bytes.exported self = (do return (← stack).any f) ∧ ∀ c p, okCode c = true → f (c, p) = false := by
  refine ⟨_, rfl, fun c p h => ?_⟩
  cases c <;> try rfl
  rename_i id args
  dsimp only [okCode] at h
  rw [Bool.not_eq_true'] at h
  have hn : ∀ x ∈ badIds, id ≠ x := fun x hx e => by
    subst e
    rw [← Bool.not_eq_true, List.contains_iff_mem] at h
    exact h hx
  have hd : Builtin.Bytes.decodersThatHold.contains id = false := by
    rw [← Bool.not_eq_true, List.contains_iff_mem]
    exact fun hx => hn id (List.mem_append_right _ hx) rfl
  have n1 := hn "bytearray.__contains__" (by decide)
  have n2 := hn "bytearray.__mod__" (by decide)
  have n3 := hn "bytearray.__rmod__" (by decide)
  have n4 := hn "_struct.pack_into.held" (by decide)
  have n5 := hn "bytearray.find.held" (by decide)
  split <;> simp_all
theorem wpC_exported {self : Value} {Q : Bool → Shared → Prop} (h : Q false s) : wpC M A (Builtin.Bytes.exported self) Q E s := by
  obtain ⟨f, e, hf⟩ := exported_form self
  rw [e]
  intro Γ p hΓ o b
  show Q (((Γ.code, p) :: Γ.below).any f) s
  have : ((Γ.code, p) :: Γ.below).any f = false := by
    rw [List.any_eq_false]
    intro x hx
    rw [Bool.not_eq_true]
    rcases List.mem_cons.mp hx with rfl | hx
    · exact hf _ _ o
    · exact hf _ _ (b x hx)
  rw [this]; exact h
end
end Mine
end CmPart

section HcPart
set_option maxRecDepth 100000
set_option maxHeartbeats 4000000
namespace Mine
open PySem PySem.W PySem.Calls PySem.Spec PyProof.Rows
open Sem (wp)

/-- the claim's own caller: nothing below it -/
theorem caller_ends {prog : Program} {w : World} {t : Sem PySem.Fin} {s : Shared} {R : Result → Shared → Prop} (hz : s.asleep)
    (h : wpC (model prog w) callerA t (fun fin s' => ∃ f, fin = .done f ∧ (R (.ok f) s' ∧ leftWithCleanup s'.gens = false)) (fun e s' => R (.error e) s' ∧ leftWithCleanup s'.gens = false) s) :
    ∃ n r s' s'', runN (denote table) prog w n s ⟨t, .builtin "claim.caller" {}, default, []⟩ = .halted (outcomeOf r) s' ∧
      schedN (denote table) prog w n (.single s ⟨t, .builtin "claim.caller" {}, default, []⟩) = .halted (outcomeOf r) s' ∧ s'.forget = s''.forget ∧ R r s'' := by
  have hw := h ⟨.builtin "claim.caller" {}, none, none, [], none⟩ default caller_in (by decide) (fun _ hx => nomatch hx)
  obtain ⟨n, r, s₁, s₂, e1, e2, e3, e4⟩ := wp_halts_full (M := model prog w) (R := R) hz (Sem.wp_mono _ _ t (fun fin p' s' h' => by
    obtain ⟨f, rfl, hf⟩ := h'
    exact hf) (fun _ _ _ h' => h') _ s hw)
  exact ⟨n, r, s₂, s₁, e2, e1, e3, e4⟩

theorem call_ends {c : ClaimW} {tree : List Value → Sem PySem.Fin} {w : World} {s : Shared} {free : Addr → Prop} {gens : Prop} {kept : Heap → Prop} (hz : s.asleep) (hgens : s.gens = #[])
    (h : ∀ args, c.pre args = true → WData.layableAll args = true → ∀ ord : List DictEntry → List DictEntry, (∀ l, (ord l).Perm l) →
      ∃ vs s₁, layAllW c.records (classAt s.heap) w.params ord args s = some (vs, s₁) ∧
        wpC (model c.prog w) callerA (tree vs) (fun fin s' => ∃ f, fin = .done f ∧ ((c.Ends s args vs s₁ (.ok f) s' ∧ s'.os = s.os ∧ kept s'.heap) ∧ leftWithCleanup s'.gens = false))
          (fun e s' => (c.Ends s args vs s₁ (.error e) s' ∧ s'.os = s.os ∧ kept s'.heap) ∧ leftWithCleanup s'.gens = false) s₁) :
    c.CallFrom (fun vs => ⟨tree vs, .builtin "claim.caller" {}, default, []⟩) w free gens kept s := by
  intro args hpre hlay ord hord
  obtain ⟨vs, s₁, hl, hc⟩ := h args hpre hlay ord hord
  have hal := layAllW_rest _ _ _ hl
  obtain ⟨k, res, s2, s3, hrun, hsched, hfo, hcase, hos, hkp⟩ := caller_ends (R := fun r s' => c.Ends s args vs s₁ r s' ∧ s'.os = s.os ∧ kept s'.heap) (Shared.asleep_of_life hal.2.2.2 hz) hc
  obtain ⟨eh, _, _, eo, _⟩ := Shared.forget_eq hfo
  have hcase := hcase.congr eh
  rw [← eh] at hkp
  rw [← eo] at hos
  have hlife : s2.heap.life = s.heap.life := (runN_life _ _ _ hrun).trans hal.2.2.2
  refine ⟨vs, s₁, hl, k, _, s2, hsched, ?_, (fun _ i x hx => by rw [hgens] at hx; simp at hx), hkp, by rw [hlife], Shared.rest_eq hos⟩
  rcases hcase with ⟨v, rfl, d1, d2, d3, d4, d5⟩ | ⟨e, ob, cls, rfl, d1, d2, d3, d4, d5⟩
  · exact .inl ⟨v, rfl, d1, d2, d3, fun b o y _ => d4 b o y, d5⟩
  · exact .inr ⟨e, ob, cls, rfl, d1, d2, d3, d4, fun b o y _ => d5 b o y⟩

abbrev WalkC (q : Program) (loose : List Str) (XP : (Str → Option Value) → Heap → Prop) (YP : World → Heap → Prop) (r : RowW) (d : DefRec) (kwd : List (Str × Expr)) : Prop :=
  ∀ (w : World) (s₀ s₁ : Shared) (mg mb : Str → Option Value), Ground q loose r.records XP w s₀ mg mb s₁.heap → YP w s₁.heap → ∀ (a : Addr) (o : Obj) (pm cd doc dV kV : Value), s₁.heap.get? a = some o →
    o.data = .func { docDef d.name d.params d.body d.scope pm cd doc with defaults := dV, kwdefaults := kV } → s₁.heap.CodeRec cd d.name → Dflts mg s₁.heap d.params kwd dV kV → mg d.name = some (.ref a) → s₁.gens = #[] →
    ∀ (args : List WData) (vals : List Value) (as : List Addr), r.claim.pre args = true → WData.layableAll args = true → ReadsAllW r.records (classAt s₀.heap) s₁.heap vals args as → WellAll w.params s₁.heap vals args → (∀ a ∈ as, (a == sysModules) = false) →
      wpC (model r.prog w) callerA (PySem.call (.ref a) vals) (fun v s' => GoodWG r.claim (classAt s₀.heap) (ExcName.means s₀.heap) args s₁ (.ok (.ret v)) s')
        (fun e s' => GoodWG r.claim (classAt s₀.heap) (ExcName.means s₀.heap) args s₁ (.error e) s') s₁

end Mine
section
open PySem PySem.W PySem.Calls PySem.Spec PyProof.Rows Mine
open Sem (wp)
theorem Hd9.PySem.W.holds_open {r : OpenRow} {q : Program} {loose : List Str} {Xt : Shared → Bool} {XP : (Str → Option Value) → Heap → Prop} {α : Type} {Yf : Shared → α} {Ya : World → α} {YP : World → Heap → Prop} {d : DefRec} {kwd : List (Str × Expr)} {N : Nat}
    (left : LeftO r.prog q loose Xt Yf Ya N) (hY : ∀ w s, Yf s = Ya w → YP w s.heap) (hYk : ∀ w h h', YP w h → (∀ b o, h.get? b = some o → h'.get? b = some o) → YP w h')
    (hX : ∀ s, Xt s = true → XP (s.heap.nsMap mainGlobals) s.heap) (hXk : ∀ mg h h', XP mg h → (∀ b o, h.get? b = some o → h'.get? b = some o) → XP mg h')
    (hdef : defOf q r.name = some (d, kwd)) (hp : r.prog.theDef r.name = some (d.params, d.body, d.scope)) (hk : kwWritten? d.params.kwonlyargs d.params.kw_defaults = some kwd) (hRf : ∀ s, Xt s = true → RecFacts r.records s.heap) (hwr : (!r.writes || r.records.isEmpty) = true)
    (k1 : r.wellSaid = true) (ok : (chainsOk q && opensWell r.prog && (frees r.toRowW && r.within.isEmpty)) = true) (hb : r.prog.bare) (hw : r.toRowW.promised)
    (call : WalkC q loose XP YP r.toRowW d kwd) : r.Holds := by
  obtain ⟨ok1, ok2⟩ := Bool.and_eq_true_iff.mp ok
  obtain ⟨hch, hop⟩ := Bool.and_eq_true_iff.mp ok1
  obtain ⟨hfr, hin⟩ := Bool.and_eq_true_iff.mp ok2
  obtain ⟨hsame, hu, ha, hap, hm⟩ := frees_parts hfr
  refine ⟨k1, hw, ⟨hb, hop, by show r.toRowW.makers.map _ = []; rw [hm]; rfl⟩, hw.witness, fun w => ⟨(left.behind hX hch w).1, fun s' hs' => ?_⟩⟩
  obtain ⟨s₀, hf, hg0, s, hT, hz, hgens, hg, G00, y⟩ := (left.behind (XP := fun mg h => XP mg h ∧ RecFacts r.records h) (fun s hs => ⟨hX s hs, hRf s hs⟩) hch w).2 s' hs'
  have G0 : Ground q loose [] XP w s (s.heap.nsMap mainGlobals) (s.heap.nsMap builtinsNs) s.heap := ⟨G00.T, G00.B, G00.D, G00.TE, G00.TD, G00.W, G00.X.1, G00.cls, G00.has, G00.apart, G00.once, G00.K⟩
  have RF := G00.X.2
  refine ⟨s₀, hf, hg0, s, hT, fun n hn => ?_, RF.1, RF.2.1, ?_⟩
  · obtain rfl : n = r.name := by split at hn <;> simp_all
    exact pinned_of_view hg G0 hdef hp hk
  replace hgens : s.gens = #[] := Array.eq_empty_of_size_eq_zero (beq_iff_eq.mp hgens)
  have G : Ground q loose r.records XP w s _ _ s.heap := RF.ground G0
  refine call_ends (c := r.toRowW.claim) hz hgens fun args hpre hlay ord hord => ?_
  obtain ⟨⟨vs, s₁⟩, hlaid⟩ := Option.isSome_iff_exists.mp (layAllW_isSome (P := w.params) (ord := ord) G.has args r.toRowW.args s (pre_splitW hpre).1)
  have keeps := layAllW_keeps _ _ _ hlaid
  have hal := layAllW_rest _ _ _ hlaid
  obtain ⟨as, hrd, hina, hold⟩ := reads_layAllW hord _ _ _ hlaid hlay s₁.heap (fun _ _ e => e)
  have L : Laid r.records w s s₁ args vs as := ⟨⟨ord, hord, hlaid⟩, hrd, hina, hold, keeps, hal.1.trans hgens, hal.2.2.1⟩
  have G₁ := G.keeps hXk keeps
  have hi := ident_freeW hu ha hap
  have hwi : r.toRowW.claim.within = [] := List.isEmpty_iff.mp hin
  obtain ⟨a, o, pm, cd, doc, dV, kV, h1, h2, h3, h4, h5⟩ := G₁.fn hdef
  have step := call w s s₁ _ _ G₁ (hYk _ _ _ (hY w s y) keeps) a o pm cd doc dV kV h2 h3 h4 h5 (defOf_name hdef ▸ h1) L.gens args vs as hpre hlay L.reads L.well (L.low G.low)
  refine ⟨vs, s₁, hlaid, wpC_then (wpAny_nsGet G₁.T.g ?_)⟩
  rw [h1]
  refine wpC_bind (wpC_mono step (fun v s' g => ?_) fun e s' g => ?_)
  · have z := g.laid (c := r.toRowW.claim) hsame hwi hi L
    exact wpC_pure ⟨_, rfl, ⟨z.1, z.2.1, fun q => ⟨namesKept_of hT hg _ keeps g.2.1.old, noTable hwr q⟩⟩, leftWithCleanup_false_of_bare z.2.2⟩
  · have z := g.laid (c := r.toRowW.claim) hsame hwi hi L
    exact ⟨⟨z.1, z.2.1, fun q => ⟨namesKept_of hT hg _ keeps g.2.1.old, noTable hwr q⟩⟩, leftWithCleanup_false_of_bare z.2.2⟩
end
end HcPart

section HDPart
open PySem PySem.W PyProof.Rows
set_option maxRecDepth 100000
set_option maxHeartbeats 8000000
namespace Hd9
open_top hd for PySem.Challenge.rw_fp5015_01
end Hd9
end HDPart

section FxPart
set_option maxRecDepth 100000
namespace Mine
open PySem PySem.W PySem.Calls PySem.Spec PyProof.Rows

/-- all objects but those at `mods` stand as they stood -/
def SameOff (mods : List Addr) (h h' : Heap) : Prop := ∀ b o, h.get? b = some o → b ∉ mods → h'.get? b = some o

section
variable {prog : Program} {w : World} {A₀ A : Around} {s : Shared} {base h₀ : Heap} {outer : List Env} {L : Addr} {m : Str → Option Value} {env : Env} {mods : List (Addr × Obj)} {K : Frag} {p : Program} {loose : List Str} {mean : ExcName → Option Value} {mg mb : Str → Option Value}
  {R : Result → Shared → Prop} {name qual : Str} {params : Arguments} {body : List Stmt} {scope : Scope} {dV kV doc pm cdv ct oc : Value} {an od : Option Addr} {osl : Array (Option Value)} {f : Addr} {args : Args} {binds : List (Str × Value)}

theorem code_S (B : Below A₀ base outer h₀) (F : Fr h₀ L s.heap m) (X₀ : K.In h₀) (N : News h₀ L s.heap mods) (T : Top p loose mean mg mb h₀) (hA : A.frames = some (env :: outer)) (hf : env.frame = some L) (hke : env.scope.kind = .function)
    (ho : K.lookup f = some ⟨oc, od, .func (fnOf name qual params body scope dV kV doc pm an cdv ct), osl⟩) (hcd : codeIn K cdv qual = true) (hroom : A.depth < recursionLimit)
    (hbind : BindsTo s (fnOf name qual params body scope dV kV doc pm an cdv ct) args binds) (hloc : ∀ y ∈ binds, scope.names.lookup y.1 = some .local)
    (h : ∀ g L' h₁, SameOff (mods.map (·.1)) s.heap g → Fr h₀ L g m → Fr g L' h₁ (fun y => binds.reverse.lookup y) → News g L' h₁ mods → Below A base (env :: outer) g → K.In g → Top p loose mean mg mb g → (∀ p ∈ mods, p.1 < L') →
      wpAny (model prog w) (A.deeper (envOf qual scope L' f cdv)) (execs body (envOf qual scope L' f cdv))
        (fun fl s' => LeaveK h₀ L m g (fun r s' => SameOff (mods.map (·.1)) s.heap s'.heap → (∀ q, g.get? q = none → q ∉ mods.map (·.1) → s.heap.get? q = none) → R r s') (match fl with | .ret v => v | _ => .none) s')
        (fun e s' => wpAny (model prog w) (A.deeper (envOf qual scope L' f cdv)) (leaving (envOf qual scope L' f cdv) e) (fun _ s'' => R (.error e) s'') (fun e' s'' => R (.error e') s'') s')
        { s with heap := h₁, toks := s.toks + binds.length })
    (hco : scope.isCoroutine = false) (hgen : scope.isGenerator = false) (hk : scope.kind = .function)
    (hcell : ∀ x ∈ scope.names, x.2 ≠ .cell) : codeAny (model prog w) A (.call (.ref f) args) R s := by
  obtain ⟨FG, BG, st, lv⟩ := groundX (R := R) B F N hA hf hke
  refine codeAny_call_def (fd := fnOf name qual params body scope dV kV doc pm an cdv ct) (body := body) (binds := binds) hroom ((X₀.keeps F.keep) _ _ ho) rfl (T.nolimit.keeps F.keep) (codeRec_of (X₀.keeps F.keep) hcd) rfl hbind hcell hloc (fun h₁ hns hk₁ => ?_) hco hgen hk
  have hS : SameOff (mods.map (·.1)) s.heap (hideAll s.heap (mods.map (·.1))) := fun b o e q => hideAll_get _ e q
  refine wpAny_mono (h _ s.heap.objs.size h₁ hS FG ⟨hns, fun b o e => hk₁ b o (of_hideAll _ e), Nat.le_of_eq (hideAll_size _ _)⟩
    (fun p hp => ⟨hk₁ _ _ (N p hp).1, Nat.ne_of_lt (Heap.lt_size (N p hp).1), hideAll_none _ (List.mem_map_of_mem hp)⟩) BG (X₀.keeps st) (T.keeps st) (fun p hp => Heap.lt_size (N p hp).1)) (fun fl s' hl => ?_) fun _ _ y => y
  obtain ⟨L', m', news', F', N', k⟩ := hl
  refine lv _ _ ⟨L', m', news', F', N', fun a b => k a b (fun b o e q => F'.keep _ _ (hS b o e q)) fun q e hq => ?_⟩
  cases z : s.heap.get? q with
  | none => rfl
  | some o => rw [hS q o z hq] at e; cases e

theorem code_SC (B : Below A₀ base outer h₀) (F : Fr h₀ L s.heap m) (X₀ : K.In h₀) (N : News h₀ L s.heap mods) (T : Top p loose mean mg mb h₀) (hA : A.frames = some (env :: outer)) (hf : env.frame = some L) (hke : env.scope.kind = .function)
    (ho : K.lookup f = some ⟨oc, od, .func (fnOf name qual params body scope dV kV doc pm an cdv ct), osl⟩) (hcd : codeIn K cdv qual = true) (hroom : A.depth < recursionLimit)
    (hbind : BindsTo s (fnOf name qual params body scope dV kV doc pm an cdv ct) args binds) (hkind : (binds.all fun y => scope.names.lookup y.1 == some .local || scope.names.lookup y.1 == some .cell) = true)
    (hnd : ((cellsFrom 0 scope.names []).map (·.1)).Nodup)
    (h : ∀ g L' h₁ tk cells, SameOff (mods.map (·.1)) s.heap g → Fr h₀ L g m → Fr g L' h₁ (bindL (envOfC qual scope L' f cdv).kindOf binds fun _ => none) → News g L' h₁ (cells ++ mods) →
      CellsAre (bindC (envOfC qual scope L' f cdv).kindOf binds fun _ => none) (cellsFrom (L' + 1) scope.names []) cells → Below A base (env :: outer) g → K.In g → Top p loose mean mg mb g → (∀ p ∈ mods, p.1 < L') →
      wpAny (model prog w) (A.deeper (envOfC qual scope L' f cdv)) (execs body (envOfC qual scope L' f cdv))
        (fun fl s' => LeaveK h₀ L m g (fun r s' => SameOff (mods.map (·.1)) s.heap s'.heap → (∀ q, g.get? q = none → q ∉ mods.map (·.1) → s.heap.get? q = none) → R r s') (match fl with | .ret v => v | _ => .none) s')
        (fun e s' => wpAny (model prog w) (A.deeper (envOfC qual scope L' f cdv)) (leaving (envOfC qual scope L' f cdv) e) (fun _ s'' => R (.error e) s'') (fun e' s'' => R (.error e') s'') s')
        { s with heap := h₁, toks := tk })
    (hco : scope.isCoroutine = false) (hgen : scope.isGenerator = false) (hk : scope.kind = .function) : codeAny (model prog w) A (.call (.ref f) args) R s := by
  obtain ⟨FG, BG, st, lv⟩ := groundX (R := R) B F N hA hf hke
  have hS : SameOff (mods.map (·.1)) s.heap (hideAll s.heap (mods.map (·.1))) := fun b o e q => hideAll_get _ e q
  refine codeAny_call_function hroom ((X₀.keeps F.keep) _ _ ho) rfl hco hgen rfl (codeRec_of (X₀.keeps F.keep) hcd) (hbind _ _ _ _ ?_)
  refine wpAny_newFunctionEnv_cells hk (kindsX hkind _) fun env' he s' x => ?_
  subst he
  refine ⟨(T.nolimit.keeps F.keep).keeps x.toInCall.keep, codeAny_func ?_⟩
  obtain ⟨h₁, tk, rfl, _⟩ := x.done
  have hk₁ := x.toInCall.keep
  obtain ⟨cells, NC, Y⟩ := Cl.news (h₀ := s.heap) (Nat.le_refl _) fun n c hm => ⟨x.cell n c (lookup_of_mem_nodup (cellsFrom_names scope.names 0 (s.heap.objs.size + 1) [] [] rfl ▸ hnd) hm), x.above n c hm⟩
  refine wpAny_mono (h _ s.heap.objs.size h₁ tk cells hS FG ⟨x.toInCall.ns, fun b o e => hk₁ b o (of_hideAll _ e), Nat.le_of_eq (hideAll_size _ _)⟩ (fun p hp => ?_) Y BG (X₀.keeps st) (T.keeps st) (fun p hp => Heap.lt_size (N p hp).1)) (fun fl s' hl => ?_) fun _ _ y => y
  · rcases List.mem_append.mp hp with hp | hp
    · refine ⟨(NC p hp).1, (NC p hp).2.1, ?_⟩
      cases q : (hideAll s.heap (mods.map (·.1))).get? p.1 with
      | none => rfl
      | some o => have := of_hideAll _ q; rw [(NC p hp).2.2] at this; cases this
    · exact ⟨hk₁ _ _ (N p hp).1, Nat.ne_of_lt (Heap.lt_size (N p hp).1), hideAll_none _ (List.mem_map_of_mem hp)⟩
  · obtain ⟨L', m', news', F', N', k⟩ := hl
    refine lv _ _ ⟨L', m', news', F', N', fun a b => k a b (fun b o e q => F'.keep _ _ (hS b o e q)) fun q e hq => ?_⟩
    cases z : s.heap.get? q with
    | none => rfl
    | some o => rw [hS q o z hq] at e; cases e
end

/-- what the callers' heaps know of an unchanged part -/
theorem SameOff.isList {mods : List Addr} {h h' : Heap} {l : Addr} {vs : Array Value} (S : SameOff mods h h') (hl : h.IsList l vs) (hm : l ∉ mods) : h'.IsList l vs := by
  obtain ⟨o, ho, r⟩ := hl
  exact ⟨o, S _ _ ho hm, r⟩
theorem SameOff.fr {mods : List Addr} {h₀ h h' : Heap} {L : Addr} {m : Str → Option Value} (S : SameOff mods h h') (F : Fr h₀ L h m) (hL : L ∉ mods) (h0 : ∀ b ∈ mods, h₀.get? b = none) : Fr h₀ L h' m := by
  obtain ⟨oL, a1, a2, hL', a3⟩ := F.ns
  refine ⟨⟨oL, a1, a2, S _ _ hL' hL, a3⟩, fun b o e => S _ _ (F.keep b o e) fun hm => ?_, F.above⟩
  rw [h0 b hm] at e; cases e
theorem SameOff.trans {a b : List Addr} {h h' h'' : Heap} (S : SameOff a h h') (S' : SameOff b h' h'') : SameOff (a ++ b) h h'' :=
  fun x o e q => S' x o (S x o e fun z => q (List.mem_append_left _ z)) fun z => q (List.mem_append_right _ z)
end Mine
end FxPart

section NxPart
set_option maxRecDepth 100000
set_option maxHeartbeats 8000000
namespace Mine
open PySem PySem.W PySem.Calls PySem.Spec PyProof.Rows

theorem next_call {w : World} {mg mb : Str → Option Value} {mean : ExcName → Option Value} {dp un : Nat} {gd : Option (List Code)} {cn : Str} {cs : Scope} {a : Addr} {ccd : Value} {cl : List (Str × Addr)} {outer : List Env} {A₀ : Around} {base h₀ : Heap} {L : Addr} {m : Str → Option Value} {s : Shared} {Q E : Value → Shared → Prop}
    {st sc : Addr} {t n tl : Nat} {vs : List Value} {ns : List Int} {k lim : Int}
    (B : Below A₀ base outer h₀) (F : Fr h₀ L s.heap m) (X : (Hd9.hd.heap_39 w.params).In h₀) (T : Top Hd9.hd.view_39 (looseW Hd9.hd.view_39 [Str.ofString "Tube"]) mean mg mb h₀) (hk : cs.kind = .function) (hdp : dp + 1 < recursionLimit) (hun : un + 8 < cLine)
    (N : News h₀ L s.heap [(st, listOf [Value.ref sc, .int k t].toArray n)]) (hsc : s.heap.IsList sc vs.toArray) (hi : IntsAre vs ns) (hlen : ns.length ≤ 64) (h0 : 0 ≤ k) (h1 : k ≤ 1000) (hl0 : 0 < lim) (hl1 : lim ≤ 256)
    (ret : ∀ r tr t' n' h' tk', 0 ≤ r → r < lim → SameOff [st] s.heap h' → Fr h₀ L h' m → News h₀ L h' [(st, listOf [Value.ref sc, .int (k + 1) t'].toArray n')] → Q (.int r tr) { s with heap := h', toks := tk' }) :
    wpAny (model PySem.Challenge.rw_fp5015_01.row.prog w) (ktrTop dp un gd cn cs L a ccd cl outer) (call (.ref 63) [.ref st, .int lim tl]) Q E s := by
  revert X
  k_fill
  w_top off
  intro X
  refine wpAny_call ?_
  have hne : sc ∉ [st] := by
    intro hm
    obtain rfl := List.mem_singleton.mp hm
    obtain ⟨o, ho, hc, nn, hd⟩ := hsc
    have := (N _ (.head _)).1
    rw [ho] at this
    cases this
    simp at hd
    obtain ⟨rfl, _⟩ := hd
    cases hi
  k_dflt (refine' code_S B F X N T ?kA ?kF ?kK ?k6 ?k7 ?k8 ?k9 ?kB ?_ ?c2 ?c3 ?c4 ?c5; (case kA => exact rfl); (case kF => exact rfl); (case kK => exact hk); (case k6 => k_is); (case k7 => k_is); (case k8 => exact Nat.lt_of_succ_lt hdp); (case k9 => exact BindsTo.of_eq rfl); (case c5 => decide); (case kB => exact locs rfl); (case c2 => exact rfl); (case c3 => exact rfl); (case c4 => exact rfl); k_whole)
  intro g L' h₁ hS FG F' N' B' X' T' hlt
  have hsg := hS.isList hsc hne
  clear N F B T
  (try dsimp only); (try k_fold)
  k_steps
  all_goals exact ret _ _ _ _ _ _ (Int.fmod_nonneg_of_pos _ hl0) (Int.fmod_lt_of_pos _ hl0) (by assumption) (by assumption) (by assumption)
end Mine
end NxPart

section LgPart
set_option maxRecDepth 100000
namespace Mine
open PySem PySem.W PySem.Calls PySem.Spec PyProof.Rows

theorem news_sub1 {h₀ h : Heap} {L : Addr} {p : Addr × Obj} {news : List (Addr × Obj)} (N : News h₀ L h news) (hp : p ∈ news) : News h₀ L h [p] := fun q hq => by rw [List.mem_singleton.mp hq]; exact N p hp
theorem ledger1 {P : Prop} {h₀ h h' : Heap} {L d : Addr} {o o' : Obj} {news news' : List (Addr × Obj)} (N : News h₀ L h news) (N1 : News h₀ L h' [(d, o')]) (S : SameOff [d] h h') (U : Upd d o o' news news') (k : News h₀ L h' news' → P) : P := by
  obtain ⟨pre, post, rfl, rfl, a, b⟩ := U.split
  refine k fun p hp => ?_
  have keep : ∀ p ∈ pre ++ (d, o) :: post, p.1 ≠ d → h'.get? p.1 = some p.2 ∧ p.1 ≠ L ∧ h₀.get? p.1 = none := fun p hp hne =>
    ⟨S _ _ (N p hp).1 (by simpa using hne), (N p hp).2⟩
  rcases List.mem_append.mp hp with hp | hp
  · exact keep p (List.mem_append_left _ hp) (a p hp)
  · rcases List.mem_cons.mp hp with rfl | hp
    · exact N1 _ (.head _)
    · exact keep p (List.mem_append_right _ (.tail _ hp)) (b p hp)

/-- the entries off `ads` -/
inductive Rest (ads : List Addr) : List (Addr × Obj) → List (Addr × Obj) → Prop
  | nil : Rest ads [] []
  | out {d o r r'} : d ∈ ads → Rest ads r r' → Rest ads ((d, o) :: r) r'
  | keep {d o r r'} : (∀ b ∈ ads, b ≠ d) → Rest ads r r' → Rest ads ((d, o) :: r) ((d, o) :: r')
theorem Rest.mem {ads : List Addr} : ∀ {l l' : List (Addr × Obj)}, Rest ads l l' → ∀ p ∈ l', p ∈ l ∧ p.1 ∉ ads
  | _, _, .nil, p, hp => nomatch hp
  | _, _, .out _ r, p, hp => ⟨.tail _ (r.mem p hp).1, (r.mem p hp).2⟩
  | _, _, .keep h r, p, hp => by
    rcases List.mem_cons.mp hp with rfl | hp
    · exact ⟨.head _, fun q => h _ q rfl⟩
    · exact ⟨.tail _ (r.mem p hp).1, (r.mem p hp).2⟩
theorem ledgerN {P : Prop} {h₀ h h' : Heap} {L : Addr} {ads : List Addr} {news news1 rest : List (Addr × Obj)} (N : News h₀ L h news) (N1 : News h₀ L h' news1) (S : SameOff ads h h') (U : Rest ads news rest) (k : News h₀ L h' (news1 ++ rest) → P) : P := by
  refine k fun p hp => ?_
  rcases List.mem_append.mp hp with hp | hp
  · exact N1 p hp
  · obtain ⟨a, b⟩ := U.mem p hp
    exact ⟨S _ _ (N p a).1 b, (N p a).2⟩
def AllNe (d : Addr) : List (Addr × Obj) → Prop
  | [] => True
  | p :: r => @Ne Nat p.1 d ∧ AllNe d r
theorem allNe_of {h₀ h : Heap} {L d : Addr} : ∀ {news : List (Addr × Obj)}, News h₀ L h news → h.get? d = none → AllNe d news
  | [], _, _ => trivial
  | p :: _, N, hd => ⟨fun e => (by have := (N p (.head _)).1; rw [show p.1 = d from e, hd] at this; cases this), allNe_of (fun q hq => N q (.tail _ hq)) hd⟩

/-- a ledger as a function of one object -/
inductive Led (d : Addr) (O : Obj) : List (Addr × Obj) → (Obj → List (Addr × Obj)) → Prop
  | head {r} : Led d O ((d, O) :: r) (fun o => (d, o) :: r)
  | tail {p r f} : Led d O r f → Led d O (p :: r) (fun o => p :: f o)
theorem Led.at {d : Addr} {O : Obj} : ∀ {news f}, Led d O news f → f O = news
  | _, _, .head => rfl
  | _, _, .tail h => by show _ :: _ = _; rw [h.at]

def LedEl (led : Obj → List (Addr × Obj)) (sc : Addr) (k lo hi : Int) (y : Value) (news' : List (Addr × Obj)) : Prop :=
  ∃ r ty tt nn, y = .int r ty ∧ lo ≤ r ∧ r < hi ∧ news' = led (listOf [Value.ref sc, .int (k + 1) tt].toArray nn)
theorem ledEl_intro {led : Obj → List (Addr × Obj)} {sc : Addr} {k lo hi r : Int} {ty tt nn : Nat} (h0 : lo ≤ r) (h1 : r < hi) : LedEl led sc k lo hi (.int r ty) (led (listOf [Value.ref sc, .int (k + 1) tt].toArray nn)) := ⟨r, ty, tt, nn, rfl, h0, h1, rfl⟩

section
variable {prog : Program} {w : World} {A : Around} {h₀ : Heap} {L : Addr} {m : Str → Option Value} {env : Env} {elt : Expr} {x : Str} {scope : Scope} {cl : List (Str × Addr)} {s : Shared} {S : List (Addr × Obj) → Prop} {Fin : List Value → List (Addr × Obj) → Prop} {news : List (Addr × Obj)}
theorem cinv_range {n : Nat} {a lo hi k0 : Int} {t0 n0 : Nat} {st sc : Addr} {led : Obj → List (Addr × Obj)} (hled : Led st (listOf [Value.ref sc, .int k0 t0].toArray n0) news led)
    (turn : ∀ (i : Nat) k t I oI C oC D m₂ ys h tk (E' : Value → Shared → Prop) tt nn, i < n → a ≤ k → k < a + (n : Int) → LCg.NsObj oC m₂ → m₂ x = some (.int k t) → Fr h₀ L h m → News h₀ L h ((I, oI) :: (C, oC) :: (D, LCg.lst ys) :: led (listOf [Value.ref sc, .int (k0 + i) tt].toArray nn)) → LCg.Off3 I C D (led (listOf [Value.ref sc, .int (k0 + i) tt].toArray nn)) → ((@Ne Nat I C) ∧ (@Ne Nat I D) ∧ (@Ne Nat C D)) →
      wpAny (model prog w) A (eval elt (compEnvC scope cl C env)) (LCg.CompEnd h₀ L m { s with heap := h, toks := tk } I oI C oC D (LCg.lst ys) S (fun y news' => LedEl led sc (k0 + i) lo hi y news')) E' { s with heap := h, toks := tk })
    (fin : ∀ ys zs tt nn, IntsAre ys zs → zs.length = n → (∀ z ∈ zs, lo ≤ z ∧ z < hi) → Fin ys (led (listOf [Value.ref sc, .int (k0 + n) tt].toArray nn))) :
    LCg.CompRest prog w A h₀ L m env elt x scope cl s S (fun i v => ∃ t, v = .int (a + (i : Int)) t) Fin n 0 [] news := by
  have key : ∀ (j i : Nat) (ys : List Value) zs tt nn, i + j = n → IntsAre ys zs → zs.length = i → (∀ z ∈ zs, lo ≤ z ∧ z < hi) →
      LCg.CompRest prog w A h₀ L m env elt x scope cl s S (fun i v => ∃ t, v = .int (a + (i : Int)) t) Fin j i ys (led (listOf [Value.ref sc, .int (k0 + i) tt].toArray nn)) := by
    intro j
    induction j with
    | zero =>
      intro i ys zs tt nn hi' hy hz hb
      obtain rfl : i = n := by omega
      exact LCg.CompRest.zero (fin ys zs tt nn hy hz hb)
    | succ j ih =>
      intro i ys zs tt nn hi' hy hz hb
      refine LCg.CompRest.succ ?_
      intro v I oI C oC D m₂ h tk E' hv hC hx F N off ne
      obtain ⟨t, rfl⟩ := hv
      refine wpAny_mono (turn i (a + i) t I oI C oC D m₂ ys h tk E' tt nn (by omega) (by omega) (by omega) hC hx F N off ne) (fun y s₂ hq => ?_) fun _ _ e => e
      obtain ⟨h', tk', nw, e, F', N', off', hS, r, ty, tt', nn', rfl, r0, r1, rfl⟩ := hq
      refine ⟨h', tk', _, e, F', N', off', hS, ?_⟩
      have e1 : k0 + (i : Int) + 1 = k0 + ((i + 1 : Nat) : Int) := by omega
      rw [e1]
      refine ih (i + 1) _ (zs ++ [r]) _ _ (by omega) (IntsAre.append hy (.cons r ty .nil)) (by simp [hz]) fun z hz' => ?_
      rcases List.mem_append.mp hz' with h | h
      · exact hb z h
      · rw [List.mem_singleton.mp h]; exact ⟨r0, r1⟩
  have e0 : news = led (listOf [Value.ref sc, .int (k0 + (0 : Nat)) t0].toArray n0) := by
    rw [show k0 + ((0 : Nat) : Int) = k0 from by omega]; exact hled.at.symm
  rw [e0]
  exact key n 0 [] [] t0 n0 (by omega) .nil rfl (fun _ h => nomatch h)
end
end Mine
namespace Mine
open PySem PySem.W PySem.Calls PySem.Spec PyProof.Rows
theorem fresh_of {g h sh : Heap} {L' d : Addr} {o : Obj} {news : List (Addr × Obj)} {mods : List Addr} (N : News g L' h news) (hm : (d, o) ∈ news) (a : ∀ q, g.get? q = none → q ∉ mods → sh.get? q = none) (hne : d ∉ mods) : sh.get? d = none := a _ (N _ hm).2.2 hne
/-- the dict that _law_plain makes -/
def PlObj (w : World) (o : Obj) (lf sz sn : Addr) : Prop := ∃ t1 t2 t3, o.IsDictOf (PySem.strKind PySem.Challenge.rw_fp5015_01.row.prog w) (strPairs [(Value.str (Str.ofString "left") t1, Value.ref lf), (Value.str (Str.ofString "sizes") t2, Value.ref sz), (Value.str (Str.ofString "sent") t3, Value.ref sn)])
end Mine
namespace Mine
open PySem PySem.W PySem.Calls PySem.Spec PyProof.Rows
def Halt (P : Prop) : Prop := P
theorem halt {P : Prop} (h : Halt P) : P := h
theorem unhalt {P : Prop} (h : P) : Halt P := h
def limOf (sizes : List Int) (asked : Int) : Nat := (match sizes with | [] => asked | z :: _ => if z < asked then z else asked).toNat
theorem take_end {tk rs vs : List Value} {n : Nat} (e : tk ++ rs = vs) (h : tk.length ≤ n) (hr : tk.length = n ∨ rs = []) : tk = vs.take n ∧ rs = vs.drop n := by
  subst e
  rcases hr with rfl | rfl
  · simp
  · constructor
    · rw [List.append_nil, List.take_of_length_le h]
    · rw [List.append_nil, List.drop_of_length_le h]
section
variable {prog : Program} {w : World} {A : Around} {E : Value → Shared → Prop} {s : Shared} {h₀ : Heap} {L : Addr} {m : Str → Option Value} {news news' : List (Addr × Obj)}
theorem ne_ints {a b : Addr} {vs us : List Value} {ns ms : List Int} {n1 n2 : Nat} {r : Bool} {Q : Value → Shared → Prop} (N : News h₀ L s.heap news) (ha : (a, listOf vs.toArray n1) ∈ news) (hb : (b, listOf us.toArray n2) ∈ news) (hi : IntsAre vs ns) (hi' : IntsAre us ms) (hu : A.units + 64 < cLine)
    (e : (!decide (ns = ms)) = r) (h : Q (.bool r) s) : wpAny (model prog w) A (compareOp .NotEq (.ref a) (.ref b)) Q E s :=
  ne_intsK (PySem.IsL.isList (n := n1) (N _ ha).1) hi (PySem.IsL.isList (n := n2) (N _ hb).1) hi' hu (by rw [e]; exact h)
theorem eq_ints {a b : Addr} {vs us : List Value} {ns ms : List Int} {n1 n2 : Nat} {r : Bool} {Q : Value → Shared → Prop} (N : News h₀ L s.heap news) (ha : (a, listOf vs.toArray n1) ∈ news) (hb : (b, listOf us.toArray n2) ∈ news) (hi : IntsAre vs ns) (hi' : IntsAre us ms) (hu : A.units + 64 < cLine)
    (e : (decide (ns = ms)) = r) (h : Q (.bool r) s) : wpAny (model prog w) A (compareOp .Eq (.ref a) (.ref b)) Q E s :=
  eq_intsK (PySem.IsL.isList (n := n1) (N _ ha).1) hi (PySem.IsL.isList (n := n2) (N _ hb).1) hi' hu (by rw [e]; exact h)
theorem pop0 {D : Addr} {v : Value} {r : List Value} {n u : Nat} {Q : Value → Shared → Prop} (F : Fr h₀ L s.heap m) (N : News h₀ L s.heap news) (U : Upd D (listOf (v :: r).toArray n) (listOf r.toArray (n + 1)) news news') (hz : r.length ≤ 1000)
    (h : ∀ h', Fr h₀ L h' m → News h₀ L h' news' → Q v { s with heap := h' }) : wpAny (model prog w) A (call (.builtin "list.pop") [.ref D, .int 0 u]) Q E s := by
  refine kl_popAt (k := 0) (p := []) (y := v) (q := r) F N (by decide) ?_ rfl U ?_ h
  · unfold seqIndex?
    rw [List.size_toArray, List.length_cons]
    simp
  · rw [PySem.sizeLine_eq]
    simp
    omega
end
end Mine
namespace Mine
open PySem
theorem not_mem1 {a d : Nat} (h1 : d ≠ a) : d ∉ ([a] : List Addr) := by simpa using h1
theorem not_mem2 {a b d : Nat} (h1 : d ≠ a) (h2 : d ≠ b) : d ∉ ([a, b] : List Addr) := by simp; exact ⟨h1, h2⟩
theorem not_mem3 {a b c d : Nat} (h1 : d ≠ a) (h2 : d ≠ b) (h3 : d ≠ c) : d ∉ ([a, b, c] : List Addr) := by simp; exact ⟨h1, h2, h3⟩
theorem not_mem4 {a b c e d : Nat} (h1 : d ≠ a) (h2 : d ≠ b) (h3 : d ≠ c) (h4 : d ≠ e) : d ∉ ([a, b, c, e] : List Addr) := by simp; exact ⟨h1, h2, h3, h4⟩
end Mine
end LgPart

section PlPart
set_option maxRecDepth 100000
set_option maxHeartbeats 8000000
namespace Mine
open PySem PySem.W PySem.Calls PySem.Spec PyProof.Rows

local macro_rules | `(tactic| walk_at "call ref") => `(tactic| (k_here; (with_reducible show wpAny _ _ (call (Value.ref 63) [Value.ref _, Value.int _ _]) _ _ _); k_dflt (refine' next_call ?B ?F ?X ?T ?hk ?hdp ?hun ?N ?hsc ?hi ?hlen ?h0 ?h1 ?hl0 ?hl1 ?_; (case B => k_asm); (case F => k_asm); (case X => k_asm); (case T => k_asm); (case hk => first | exact rfl | assumption); (case N => exact news_sub1 (by k_asm) (by k_mem)); (case hdp => first | ktr_room | (dsimp only [ktrTop]; omega)); (case hun => ktr_units); (case hsc => is_list); (case hi => with_reducible assumption); (case hlen => assumption); (case h0 => omega); (case h1 => omega); (case hl0 => decide); (case hl1 => decide)); intro r' tr' t' n' h' tk' hr0' hr1' hS' F' N1'; refine' ledger1 ?N N1' hS' ?U ?_; (case N => k_asm); (case U => k_upd); clear N1' hS'; intro N'; (try dsimp only at N'); (try k_sweep)))
local macro_rules | `(tactic| walk_at "CompSrc") => `(tactic| (k_here; k_dflt (refine LCg.CompSrc.range (by rfl) (by k_asm) (by k_asm) (by assumption) (by first | exact small_one (by kcf_bnd) (by kcf_bnd) (by kcf_bnd) (by kcf_bnd) | decide) (by first | exact rangeSize_nat _ _ | rfl) (by (rw [PySem.sizeLine_eq]; omega)) ?_; intro g'; refine' cinv_range (lo := 0) (hi := 256) ?hled ?_ ?_; (case hled => (first | exact Led.head | (refine' Led.tail ?a6; (case a6 => (first | exact Led.head | (refine' Led.tail ?a5; (case a5 => (first | exact Led.head | (refine' Led.tail ?a4; (case a4 => (first | exact Led.head | (refine' Led.tail ?a3; (case a3 => (first | exact Led.head | (refine' Led.tail ?a2; (case a2 => (first | exact Led.head | (refine' Led.tail ?a1; (case a1 => (exact Led.head)))))))))))))))))))); (all_goals first | (intro i' k' t' I' oI' C' oC' D' m' ys' h' tk' E' tt' nn' hin' hlo' hhi' hC' hx' F' N' off' ne'; (try dsimp only at N' off'); (try simp only [LCg.Off3, and_true] at off'); (try k_fold)) | (intro ys' zs' tt' nn' hzI' hzL' hzB'; (try dsimp only))))))
local macro_rules | `(tactic| walk_at "CompEnd") => `(tactic| ((try dsimp only); refine' LCg.CompEnd.intro (by k_asm) (by k_asm) _ ?sub ?off ?src (ledEl_intro ?r0 ?r1); (case sub => ((try dsimp only); kcf_all)); (case off => ((try dsimp only); (simp only [LCg.Off3, and_true]); assumption)); (case src => exact True.intro); (case r0 => omega); (case r1 => omega)))

theorem plain_call {w : World} {mg mb : Str → Option Value} {mean : ExcName → Option Value} {dp un : Nat} {gd : Option (List Code)} {cn : Str} {cs : Scope} {a : Addr} {ccd : Value} {cl : List (Str × Addr)} {outer : List Env} {A₀ : Around} {base h₀ : Heap} {L : Addr} {m : Str → Option Value} {s : Shared} {Q E : Value → Shared → Prop}
    {st sc : Addr} {t n : Nat} {vs : List Value} {ns : List Int} {k : Int}
    (B : Below A₀ base outer h₀) (F : Fr h₀ L s.heap m) (X : (Hd9.hd.heap_39 w.params).In h₀) (T : Top Hd9.hd.view_39 (looseW Hd9.hd.view_39 [Str.ofString "Tube"]) mean mg mb h₀) (hk : cs.kind = .function) (hdp : dp + 3 < recursionLimit) (hun : un + 24 < cLine)
    (N : News h₀ L s.heap [(st, listOf [Value.ref sc, .int k t].toArray n)]) (hsc : s.heap.IsList sc vs.toArray) (hi : IntsAre vs ns) (hlen : ns.length ≤ 64) (h0 : 0 ≤ k) (h1 : k ≤ 900)
    (ret : ∀ (pd lf sz sn : Addr) o ys zs lefts sizes t' n' h' tk' k', PlObj w o lf sz sn → News h₀ L h' [(sn, listOf [].toArray 0), (pd, o), (sz, LCg.lst zs), (lf, LCg.lst ys), (st, listOf [Value.ref sc, .int k' t'].toArray n')] → (pd == sysModules) = false → IntsAre ys lefts → IntsAre zs sizes → lefts.length ≤ 14 → sizes.length ≤ 5 → (∀ z ∈ lefts, 0 ≤ z ∧ z < 256) → (∀ z ∈ sizes, 0 ≤ z ∧ z < 256) →
      k ≤ k' → k' ≤ k + 21 → SameOff [st] s.heap h' → Fr h₀ L h' m →
      s.heap.get? sn = none → s.heap.get? pd = none → s.heap.get? sz = none → s.heap.get? lf = none → (@Ne Nat sn pd ∧ @Ne Nat sn sz ∧ @Ne Nat sn lf ∧ @Ne Nat sn st ∧ @Ne Nat pd sz ∧ @Ne Nat pd lf ∧ @Ne Nat pd st ∧ @Ne Nat sz lf ∧ @Ne Nat sz st ∧ @Ne Nat lf st) → Q (.ref pd) { s with heap := h', toks := tk' }) :
    wpAny (model PySem.Challenge.rw_fp5015_01.row.prog w) (ktrTop dp un gd cn cs L a ccd cl outer) (call (.ref 68) [.ref st]) Q E s := by
  revert X
  k_fill
  w_top off
  intro X
  refine wpAny_call ?_
  have hne : sc ∉ [st] := by
    intro hm
    obtain rfl := List.mem_singleton.mp hm
    obtain ⟨o, ho, hc, nn, hd⟩ := hsc
    have := (N _ (.head _)).1
    rw [ho] at this
    cases this
    simp at hd
    obtain ⟨rfl, _⟩ := hd
    cases hi
  k_dflt (refine' code_SC B F X N T ?kA ?kF ?kK ?k6 ?k7 ?k8 ?k9 ?kB ?kD ?_ ?c2 ?c3 ?c4; (case kA => exact rfl); (case kF => exact rfl); (case kK => exact hk); (case k6 => k_is); (case k7 => k_is); (case k8 => (dsimp only [ktrTop]; omega)); (case k9 => exact BindsTo.of_eq rfl); (case kB => exact rfl); (case kD => decide +kernel); (case c2 => exact rfl); (case c3 => exact rfl); (case c4 => exact rfl); k_whole)
  intro g L' h₁ tk' cells' hS FG F' N' Y' B' X' T' hlt
  k_lt hlt
  k_cells Y'
  (try simp only [List.cons_append, List.nil_append] at N')
  have hsg := hS.isList hsc hne
  clear N F B T
  (try dsimp only); (try k_fold)
  k_steps
  have fr : ∀ {d : Addr} {o : Obj} {h} {news : List (Addr × Obj)}, News g L' h news → (d, o) ∈ news → @Ne Nat d st → s.heap.get? d = none := fun N hm hne => fresh_of N hm (by assumption) (by simpa using hne)
  refine ret _ _ _ _ _ _ _ _ _ _ _ _ _ _ ⟨_, _, _, by assumption⟩ (cb_drop (by assumption) (by kcf_all)) (by assumption) (by assumption) (by assumption) (by omega) (by omega) (by assumption) (by assumption) ?_ ?_ (by assumption) (by assumption) (fr (by assumption) (by k_mem) (by omega)) (fr (by assumption) (by k_mem) (by omega)) (fr (by assumption) (by k_mem) (by omega)) (fr (by assumption) (by k_mem) (by omega)) (by refine ⟨?_, ?_, ?_, ?_, ?_, ?_, ?_, ?_, ?_, ?_⟩ <;> omega) <;> omega
end Mine
end PlPart

section TkPart
set_option maxRecDepth 100000
set_option maxHeartbeats 8000000
namespace Mine
open PySem PySem.W PySem.Calls PySem.Spec PyProof.Rows

local macro_rules | `(tactic| walk_at "compareOp NotEq ref ref") => `(tactic| (k_here; k_dflt (refine' ne_ints ?N ?ha ?hb ?hi ?hi' ?hu ?e ?_; (case N => k_asm); (case ha => k_mem); (case hb => k_mem); (case hi => (first | with_reducible assumption | exact IntsAre.nil | exact IntsAre.cons _ _ (by with_reducible assumption))); (case hi' => (first | with_reducible assumption | exact IntsAre.nil | exact IntsAre.cons _ _ (by with_reducible assumption))); (case hu => ktr_units); (case e => simp); k_whole)))
local macro_rules | `(tactic| walk_at "compareOp Eq ref ref") => `(tactic| (k_here; k_dflt (refine' eq_ints ?N ?ha ?hb ?hi ?hi' ?hu ?e ?_; (case N => k_asm); (case ha => k_mem); (case hb => k_mem); (case hi => (first | with_reducible assumption | exact IntsAre.nil | exact IntsAre.cons _ _ (by with_reducible assumption))); (case hi' => (first | with_reducible assumption | exact IntsAre.nil | exact IntsAre.cons _ _ (by with_reducible assumption))); (case hu => ktr_units); (case e => simp); k_whole)))

local macro_rules | `(tactic| walk_at "call builtin:list.pop") => `(tactic| (k_here; (with_reducible show wpAny _ _ (call (Value.builtin _) [Value.ref _, Value.int 0 _]) _ _ _); k_dflt (refine' pop0 ?F ?N ?U ?z ?_; (case F => k_asm); (case N => k_asm); (case U => k_upd); (case z => omega)); (intro h' F' N'; (try dsimp only at N'); (try k_sweep))))

local macro_rules | `(tactic| walk_at "exec While BoolOp") => `(tactic| (k_here; refine halt ?_))

theorem take_call {w : World} {mg mb : Str → Option Value} {mean : ExcName → Option Value} {dp un : Nat} {gd : Option (List Code)} {cn : Str} {cs : Scope} {a : Addr} {ccd : Value} {cl : List (Str × Addr)} {outer : List Env} {A₀ : Around} {base h₀ : Heap} {L : Addr} {m : Str → Option Value} {s : Shared} {Q E : Value → Shared → Prop}
    {pd lf sz sn : Addr} {o : Obj} {n1 n2 ta : Nat} {vs ws : List Value} {left sizes : List Int} {asked : Int}
    (B : Below A₀ base outer h₀) (F : Fr h₀ L s.heap m) (X : (Hd9.hd.heap_39 w.params).In h₀) (T : Top Hd9.hd.view_39 (looseW Hd9.hd.view_39 [Str.ofString "Tube"]) mean mg mb h₀) (hk : cs.kind = .function) (hdp : dp + 3 < recursionLimit) (hun : un + 200 < cLine)
    (N : News h₀ L s.heap [(pd, o), (sz, listOf ws.toArray n2), (lf, listOf vs.toArray n1)]) (hlo : (pd == sysModules) = false) (ho : PlObj w o lf sz sn) (hne : @Ne Nat pd sz ∧ @Ne Nat pd lf ∧ @Ne Nat sz lf) (hi : IntsAre vs left) (hj : IntsAre ws sizes) (hl1 : left.length ≤ 64) (hl2 : sizes.length ≤ 64) (h0 : 0 ≤ asked) (h1 : asked ≤ 100) (hb : ∀ z ∈ sizes, 0 ≤ z ∧ z < 256)
    (ret : ∀ fd nf n1' n2' h' tk', News h₀ L h' [(fd, listOf (vs.take (limOf sizes asked)).toArray nf), (lf, listOf (vs.drop (limOf sizes asked)).toArray n1'), (sz, listOf (ws.drop 1).toArray n2'), (pd, o)] → SameOff [pd, sz, lf] s.heap h' → Fr h₀ L h' m → s.heap.get? fd = none → @Ne Nat fd lf → @Ne Nat fd sz → @Ne Nat fd pd → Q (.ref fd) { s with heap := h', toks := tk' }) :
    wpAny (model PySem.Challenge.rw_fp5015_01.row.prog w) (ktrTop dp un gd cn cs L a ccd cl outer) (call (.ref 75) [.ref pd, .int asked ta]) Q E s := by
  revert X
  k_fill
  w_top off
  intro X
  refine wpAny_call ?_
  k_dflt (refine' code_S B F X N T ?kA ?kF ?kK ?k6 ?k7 ?k8 ?k9 ?kB ?_ ?c2 ?c3 ?c4 ?c5; (case kA => exact rfl); (case kF => exact rfl); (case kK => exact hk); (case k6 => k_is); (case k7 => k_is); (case k8 => (dsimp only [ktrTop]; omega)); (case k9 => exact BindsTo.of_eq rfl); (case c5 => decide); (case kB => exact locs rfl); (case c2 => exact rfl); (case c3 => exact rfl); (case c4 => exact rfl); k_whole)
  intro g L' h₁ hS FG F' N' B' X' T' hlt
  clear N F B T
  obtain ⟨t1, t2, t3, hd⟩ := ho
  obtain ⟨hne1, hne2, hne3⟩ := hne
  have hlen := hi.length
  have hlen2 := hj.length
  (try dsimp only); (try k_fold)
  cases hj with
  | nil =>
    k_steps
    all_goals (
      refine unhalt ?_
      rename_i fd h1 lt1 h2 F2 N2
      k_dflt (refine' ksw_while (σ := List Value × List Value × Nat × Nat × Nat) (fun c => [(fd, listOf c.1.toArray c.2.2.1), (lf, listOf c.2.1.toArray c.2.2.2.1), (sz, listOf [].toArray n2), (pd, o)]) (fun c => [(Str.ofString "limit", Value.int (asked - c.1.length) c.2.2.2.2)]) (fun _ => True) [] (fun c => c.1 ++ c.2.1 = vs ∧ (c.1.length : Int) ≤ asked) (fun c => c.2.1.length) ([], vs, 0, n1, ta) F2 (cb_drop N2 (by kcf_all)) trivial ?hk (by simpa using (show (0 : Int) ≤ asked by omega)) ?turn)
      case hk => (simp only [List.forall_mem_singleton, List.length_nil]; rw [show asked - ((0 : Nat) : Int) = asked from by omega]; k_dflt (exact rfl))
      case turn =>
        clear F2 N2
        rintro ⟨tkn9, rs, nf, nl, tok⟩ u hh tk2 _ ⟨he, hle⟩ F' N'
        dsimp only at he hle N'
        have hi' := hi.drop tkn9.length
        rw [← he, List.drop_left] at hi'
        have hl7 := congrArg List.length he
        simp only [List.length_append, List.length_cons] at hl7
        cases rs with
        | nil =>
          (try k_fold)
          k_steps
          all_goals (
            have hfin := take_end (n := (asked).toNat) he (by omega) (by first | exact Or.inr rfl | exact Or.inl (by omega))
            rw [← (show limOf [] asked = asked.toNat from rfl)] at hfin
            exact ret fd _ _ _ _ _ (cb_drop (by assumption) (by rw [← hfin.1, ← hfin.2]; kcf_all)) (by assumption) (by assumption) (fresh_of (g := g) (L' := L') (mods := [pd, sz, lf]) (by assumption) (by k_mem) (by assumption) (not_mem3 (by omega) (by omega) (by omega))) (by omega) (by omega) (by omega))
        | cons v rs =>
          generalize hl5 : left.drop tkn9.length = left5 at hi'
          cases hi' with
          | @cons x tx _ left6 hi' =>
            simp only [List.length_cons] at hl7
            (try k_fold)
            k_steps
            all_goals first
             | exact absurd (‹decide (_ :: _ = ([] : List Int)) = true›) (by simp)
             | (have hq9 : ¬ (0 : Int) < asked - (tkn9.length : Int) := by assumption
                (
            have hfin := take_end (n := (asked).toNat) he (by omega) (by first | exact Or.inr rfl | exact Or.inl (by omega))
            rw [← (show limOf [] asked = asked.toNat from rfl)] at hfin
            exact ret fd _ _ _ _ _ (cb_drop (by assumption) (by rw [← hfin.1, ← hfin.2]; kcf_all)) (by assumption) (by assumption) (fresh_of (g := g) (L' := L') (mods := [pd, sz, lf]) (by assumption) (by k_mem) (by assumption) (not_mem3 (by omega) (by omega) (by omega))) (by omega) (by omega) (by omega)))
             | (
              have hq8 : (0 : Int) < asked - (tkn9.length : Int) := by assumption
              k_dflt (refine' ksw_end (tkn9 ++ [Value.int x tx], rs, nf + 1, nl + 1, _) ?hF ?hN ?hn trivial ?hk ?hr ?hp ?hm)
              case hF => assumption
              case hN => assumption
              case hr => (intro z h2 h3; (have h2' := h2 _ (List.mem_singleton.mpr rfl)); (simp only [kstB]); rw [if_neg h2', if_neg h2']; rfl)
              case hk => (simp only [List.forall_mem_singleton]; (rw [show asked - (((tkn9 ++ [Value.int x tx]).length : Nat) : Int) = asked - (tkn9.length : Int) - 1 from by simp only [List.length_append, List.length_cons, List.length_nil]; omega]); exact rfl)
              case hp => exact ⟨by rw [← he]; simp, by simp only [List.length_append, List.length_cons, List.length_nil]; omega⟩
              case hm => exact Nat.lt_succ_self _
              case hn => (dsimp only; rw [← List.push_toArray]; kcf_all)))
  | @cons z tz ws' zs hj =>
    have hz := hb z (.head _)
    simp only [List.length_cons] at hlen2 hl2
    k_steps
    all_goals first | (exfalso; clear ret; simp_all; done) | (
      refine unhalt ?_
      rename_i fd h1 lt1 h2 F2 N2
      k_dflt (refine' ksw_while (σ := List Value × List Value × Nat × Nat × Nat) (fun c => [(fd, listOf c.1.toArray c.2.2.1), (lf, listOf c.2.1.toArray c.2.2.2.1), (sz, listOf ws'.toArray (n2 + 1)), (pd, o)]) (fun c => [(Str.ofString "limit", Value.int (z - c.1.length) c.2.2.2.2)]) (fun _ => True) [] (fun c => c.1 ++ c.2.1 = vs ∧ (c.1.length : Int) ≤ z) (fun c => c.2.1.length) ([], vs, 0, n1, tz) F2 (cb_drop N2 (by kcf_all)) trivial ?hk (by simpa using (show (0 : Int) ≤ z by omega)) ?turn)
      case hk => (simp only [List.forall_mem_singleton, List.length_nil]; rw [show z - ((0 : Nat) : Int) = z from by omega]; k_dflt (exact rfl))
      case turn =>
        clear F2 N2
        rintro ⟨tkn9, rs, nf, nl, tok⟩ u hh tk2 _ ⟨he, hle⟩ F' N'
        dsimp only at he hle N'
        have hi' := hi.drop tkn9.length
        rw [← he, List.drop_left] at hi'
        have hl7 := congrArg List.length he
        simp only [List.length_append, List.length_cons] at hl7
        cases rs with
        | nil =>
          (try k_fold)
          k_steps
          all_goals (
            have hfin := take_end (n := (z).toNat) he (by omega) (by first | exact Or.inr rfl | exact Or.inl (by omega))
            rw [← (show limOf (z :: zs) asked = z.toNat from congrArg Int.toNat (if_pos (by assumption)))] at hfin
            exact ret fd _ _ _ _ _ (cb_drop (by assumption) (by rw [← hfin.1, ← hfin.2]; kcf_all)) (by assumption) (by assumption) (fresh_of (g := g) (L' := L') (mods := [pd, sz, lf]) (by assumption) (by k_mem) (by assumption) (not_mem3 (by omega) (by omega) (by omega))) (by omega) (by omega) (by omega))
        | cons v rs =>
          generalize hl5 : left.drop tkn9.length = left5 at hi'
          cases hi' with
          | @cons x tx _ left6 hi' =>
            simp only [List.length_cons] at hl7
            (try k_fold)
            k_steps
            all_goals first
             | exact absurd (‹decide (_ :: _ = ([] : List Int)) = true›) (by simp)
             | (have hq9 : ¬ (0 : Int) < z - (tkn9.length : Int) := by assumption
                (
            have hfin := take_end (n := (z).toNat) he (by omega) (by first | exact Or.inr rfl | exact Or.inl (by omega))
            rw [← (show limOf (z :: zs) asked = z.toNat from congrArg Int.toNat (if_pos (by assumption)))] at hfin
            exact ret fd _ _ _ _ _ (cb_drop (by assumption) (by rw [← hfin.1, ← hfin.2]; kcf_all)) (by assumption) (by assumption) (fresh_of (g := g) (L' := L') (mods := [pd, sz, lf]) (by assumption) (by k_mem) (by assumption) (not_mem3 (by omega) (by omega) (by omega))) (by omega) (by omega) (by omega)))
             | (
              have hq8 : (0 : Int) < z - (tkn9.length : Int) := by assumption
              k_dflt (refine' ksw_end (tkn9 ++ [Value.int x tx], rs, nf + 1, nl + 1, _) ?hF ?hN ?hn trivial ?hk ?hr ?hp ?hm)
              case hF => assumption
              case hN => assumption
              case hr => (intro z h2 h3; (have h2' := h2 _ (List.mem_singleton.mpr rfl)); (simp only [kstB]); rw [if_neg h2', if_neg h2']; rfl)
              case hk => (simp only [List.forall_mem_singleton]; (rw [show z - (((tkn9 ++ [Value.int x tx]).length : Nat) : Int) = z - (tkn9.length : Int) - 1 from by simp only [List.length_append, List.length_cons, List.length_nil]; omega]); exact rfl)
              case hp => exact ⟨by rw [← he]; simp, by simp only [List.length_append, List.length_cons, List.length_nil]; omega⟩
              case hm => exact Nat.lt_succ_self _
              case hn => (dsimp only; rw [← List.push_toArray]; kcf_all))) | (
      refine unhalt ?_
      rename_i fd h1 lt1 h2 F2 N2
      k_dflt (refine' ksw_while (σ := List Value × List Value × Nat × Nat × Nat) (fun c => [(fd, listOf c.1.toArray c.2.2.1), (lf, listOf c.2.1.toArray c.2.2.2.1), (sz, listOf ws'.toArray (n2 + 1)), (pd, o)]) (fun c => [(Str.ofString "limit", Value.int (asked - c.1.length) c.2.2.2.2)]) (fun _ => True) [] (fun c => c.1 ++ c.2.1 = vs ∧ (c.1.length : Int) ≤ asked) (fun c => c.2.1.length) ([], vs, 0, n1, ta) F2 (cb_drop N2 (by kcf_all)) trivial ?hk (by simpa using (show (0 : Int) ≤ asked by omega)) ?turn)
      case hk => (simp only [List.forall_mem_singleton, List.length_nil]; rw [show asked - ((0 : Nat) : Int) = asked from by omega]; k_dflt (exact rfl))
      case turn =>
        clear F2 N2
        rintro ⟨tkn9, rs, nf, nl, tok⟩ u hh tk2 _ ⟨he, hle⟩ F' N'
        dsimp only at he hle N'
        have hi' := hi.drop tkn9.length
        rw [← he, List.drop_left] at hi'
        have hl7 := congrArg List.length he
        simp only [List.length_append, List.length_cons] at hl7
        cases rs with
        | nil =>
          (try k_fold)
          k_steps
          all_goals (
            have hfin := take_end (n := (asked).toNat) he (by omega) (by first | exact Or.inr rfl | exact Or.inl (by omega))
            rw [← (show limOf (z :: zs) asked = asked.toNat from congrArg Int.toNat (if_neg (by assumption)))] at hfin
            exact ret fd _ _ _ _ _ (cb_drop (by assumption) (by rw [← hfin.1, ← hfin.2]; kcf_all)) (by assumption) (by assumption) (fresh_of (g := g) (L' := L') (mods := [pd, sz, lf]) (by assumption) (by k_mem) (by assumption) (not_mem3 (by omega) (by omega) (by omega))) (by omega) (by omega) (by omega))
        | cons v rs =>
          generalize hl5 : left.drop tkn9.length = left5 at hi'
          cases hi' with
          | @cons x tx _ left6 hi' =>
            simp only [List.length_cons] at hl7
            (try k_fold)
            k_steps
            all_goals first
             | exact absurd (‹decide (_ :: _ = ([] : List Int)) = true›) (by simp)
             | (have hq9 : ¬ (0 : Int) < asked - (tkn9.length : Int) := by assumption
                (
            have hfin := take_end (n := (asked).toNat) he (by omega) (by first | exact Or.inr rfl | exact Or.inl (by omega))
            rw [← (show limOf (z :: zs) asked = asked.toNat from congrArg Int.toNat (if_neg (by assumption)))] at hfin
            exact ret fd _ _ _ _ _ (cb_drop (by assumption) (by rw [← hfin.1, ← hfin.2]; kcf_all)) (by assumption) (by assumption) (fresh_of (g := g) (L' := L') (mods := [pd, sz, lf]) (by assumption) (by k_mem) (by assumption) (not_mem3 (by omega) (by omega) (by omega))) (by omega) (by omega) (by omega)))
             | (
              have hq8 : (0 : Int) < asked - (tkn9.length : Int) := by assumption
              k_dflt (refine' ksw_end (tkn9 ++ [Value.int x tx], rs, nf + 1, nl + 1, _) ?hF ?hN ?hn trivial ?hk ?hr ?hp ?hm)
              case hF => assumption
              case hN => assumption
              case hr => (intro z h2 h3; (have h2' := h2 _ (List.mem_singleton.mpr rfl)); (simp only [kstB]); rw [if_neg h2', if_neg h2']; rfl)
              case hk => (simp only [List.forall_mem_singleton]; (rw [show asked - (((tkn9 ++ [Value.int x tx]).length : Nat) : Int) = asked - (tkn9.length : Int) - 1 from by simp only [List.length_append, List.length_cons, List.length_nil]; omega]); exact rfl)
              case hp => exact ⟨by rw [← he]; simp, by simp only [List.length_append, List.length_cons, List.length_nil]; omega⟩
              case hm => exact Nat.lt_succ_self _
              case hn => (dsimp only; rw [← List.push_toArray]; kcf_all)))
end Mine
end TkPart

section CrPart
set_option maxRecDepth 100000
namespace Mine
open PySem PySem.W PySem.Calls PySem.Spec PyProof.Rows
open Sem (wp)

abbrev noE : Value → Shared → Prop := fun _ _ => False

section
variable {prog : Program} {w : World} {A : Around} {E : Value → Shared → Prop} {R : Result → Shared → Prop} {s : Shared}

theorem codeC_func {body env} (h : wpC (model prog w) (A.deeper env) (execs body env) (fun f s' => R (.ok (.ret (match f with | .ret v => v | _ => .none))) s') noE s) : codeC (model prog w) A (.func body env) R s := by
  refine codeC_of_tree rfl ?_
  show wpC _ (A.deeper env) (do point; match ← (execs body env).onRaise (leaving env) with | .ret v => ret v | _ => ret .none) _ _ s
  refine wpC_bind (wpC_any (wpAny_point (wpC_bind (wpC_onRaise (wpC_mono h (fun f s' h' => ?_) fun _ _ h' => h'.elim)))))
  cases f <;> exact wpC_pure h'
theorem codeC_call_function {a : Addr} {args : Args} {o : Obj} {fd : FuncData} {body : List Stmt} (hroom : A.depth < recursionLimit) (ho : s.heap.get? a = some o)
    (hd' : o.data = .func fd) (hco : fd.scope.isCoroutine = false) (hgen : fd.scope.isGenerator = false) (hbody : fd.body = .stmts body) (hcd : s.heap.CodeRec fd.code fd.qualname)
    (h : wpAny (model prog w) A.in1 (bindArgs fd args) (fun binds s₁ =>
      wpAny (model prog w) A.in1 (newFunctionEnv fd.scope fd.globals fd.closure binds (fd.qualname ++ ".<locals>.") (some a) fd.code none fd.builtins)
        (fun env s₂ => s₂.heap.NoLimit ∧ codeC (model prog w) A (.func body env) R s₂) (fun e s' => R (.error e) s') s₁) (fun e s' => R (.error e) s') s) :
    codeC (model prog w) A (.call (.ref a) args) R s := by
  refine codeC_of_tree rfl (wpC_any ?_)
  show wpAny _ A.in1 (callAny (.ref a) args) _ _ s
  simp only [callAny]
  refine wpAny_bind (wpAny_load ho ?_)
  obtain ⟨c, oc, vs, tq, hc, hoc, hdc, hq⟩ := hcd
  simp only [hd', callFunction, hco, hgen, hbody, hc]
  rw [hc] at h
  refine wpAny_bind (m := field (.ref c) 1) (wpAny_field hoc hdc hq (wpAny_bind (wpAny_pure ?_)))
  exact wpAny_bind (wpAny_mono h (fun binds s₁ h₁ => wpAny_bind (wpAny_mono h₁ (fun env s₂ h₂ => wpAny_bind (wpAny_enterFrame h₂.1 hroom
    (wpAny_pure (And.intro rfl h₂.2)))) fun _ _ h' => h')) fun _ _ h' => h')
end

section
variable {prog : Program} {w : World} {A₀ A : Around} {s : Shared} {base h₀ : Heap} {outer : List Env} {L : Addr} {m : Str → Option Value} {env : Env} {mods : List (Addr × Obj)} {K : Frag} {p : Program} {loose : List Str} {mean : ExcName → Option Value} {mg mb : Str → Option Value}
  {R : Result → Shared → Prop} {name qual : Str} {params : Arguments} {body : List Stmt} {scope : Scope} {dV kV doc pm cdv ct oc : Value} {an od : Option Addr} {osl : Array (Option Value)} {f : Addr} {args : Args} {binds : List (Str × Value)}

theorem codeC_S (B : Below A₀ base outer h₀) (F : Fr h₀ L s.heap m) (X₀ : K.In h₀) (N : News h₀ L s.heap mods) (T : Top p loose mean mg mb h₀) (hA : A.frames = some (env :: outer)) (hf : env.frame = some L) (hke : env.scope.kind = .function)
    (ho : K.lookup f = some ⟨oc, od, .func (fnOf name qual params body scope dV kV doc pm an cdv ct), osl⟩) (hcd : codeIn K cdv qual = true) (hroom : A.depth < recursionLimit)
    (hbind : BindsTo s (fnOf name qual params body scope dV kV doc pm an cdv ct) args binds) (hloc : ∀ y ∈ binds, scope.names.lookup y.1 = some .local)
    (h : ∀ g L' h₁, SameOff (mods.map (·.1)) s.heap g → Fr h₀ L g m → Fr g L' h₁ (fun y => binds.reverse.lookup y) → News g L' h₁ mods → Below A base (env :: outer) g → K.In g → Top p loose mean mg mb g → (∀ p ∈ mods, p.1 < L') →
      wpC (model prog w) (A.deeper (envOf qual scope L' f cdv)) (execs body (envOf qual scope L' f cdv))
        (fun fl s' => LeaveK h₀ L m g (fun r s' => SameOff (mods.map (·.1)) s.heap s'.heap → (∀ q, g.get? q = none → q ∉ mods.map (·.1) → s.heap.get? q = none) → R r s') (match fl with | .ret v => v | _ => .none) s')
        noE { s with heap := h₁, toks := s.toks + binds.length })
    (hco : scope.isCoroutine = false) (hgen : scope.isGenerator = false) (hk : scope.kind = .function)
    (hcell : ∀ x ∈ scope.names, x.2 ≠ .cell) : codeC (model prog w) A (.call (.ref f) args) R s := by
  obtain ⟨FG, BG, st, lv⟩ := groundX (R := R) B F N hA hf hke
  have hS : SameOff (mods.map (·.1)) s.heap (hideAll s.heap (mods.map (·.1))) := fun b o e q => hideAll_get _ e q
  refine codeC_call_function hroom ((X₀.keeps F.keep) _ _ ho) rfl hco hgen rfl (codeRec_of (X₀.keeps F.keep) hcd) (hbind _ _ _ _ ?_)
  refine wpAny_newFunctionEnv hcell hloc (fun h₁ hns hsb => ⟨(T.nolimit.keeps F.keep).fresh _ hsb, codeC_func ?_⟩) hk
  have hk₁ : ∀ b o, s.heap.get? b = some o → h₁.get? b = some o := fun b o e => hsb.extBut b o (Nat.ne_of_lt (Heap.lt_size e)) (Heap.get?_push_of_some _ e)
  refine wpC_mono (h _ s.heap.objs.size h₁ hS FG ⟨hns, fun b o e => hk₁ b o (of_hideAll _ e), Nat.le_of_eq (hideAll_size _ _)⟩
    (fun p hp => ⟨hk₁ _ _ (N p hp).1, Nat.ne_of_lt (Heap.lt_size (N p hp).1), hideAll_none _ (List.mem_map_of_mem hp)⟩) BG (X₀.keeps st) (T.keeps st) (fun p hp => Heap.lt_size (N p hp).1)) (fun fl s' hl => ?_) fun _ _ y => y
  obtain ⟨L', m', news', F', N', k⟩ := hl
  refine lv _ _ ⟨L', m', news', F', N', fun a b => k a b (fun b o e q => F'.keep _ _ (hS b o e q)) fun q e hq => ?_⟩
  cases z : s.heap.get? q with
  | none => rfl
  | some o => rw [hS q o z hq] at e; cases e

theorem codeC_SC (B : Below A₀ base outer h₀) (F : Fr h₀ L s.heap m) (X₀ : K.In h₀) (N : News h₀ L s.heap mods) (T : Top p loose mean mg mb h₀) (hA : A.frames = some (env :: outer)) (hf : env.frame = some L) (hke : env.scope.kind = .function)
    (ho : K.lookup f = some ⟨oc, od, .func (fnOf name qual params body scope dV kV doc pm an cdv ct), osl⟩) (hcd : codeIn K cdv qual = true) (hroom : A.depth < recursionLimit)
    (hbind : BindsTo s (fnOf name qual params body scope dV kV doc pm an cdv ct) args binds) (hkind : (binds.all fun y => scope.names.lookup y.1 == some .local || scope.names.lookup y.1 == some .cell) = true)
    (hnd : ((cellsFrom 0 scope.names []).map (·.1)).Nodup)
    (h : ∀ g L' h₁ tk cells, SameOff (mods.map (·.1)) s.heap g → Fr h₀ L g m → Fr g L' h₁ (bindL (envOfC qual scope L' f cdv).kindOf binds fun _ => none) → News g L' h₁ (cells ++ mods) →
      CellsAre (bindC (envOfC qual scope L' f cdv).kindOf binds fun _ => none) (cellsFrom (L' + 1) scope.names []) cells → Below A base (env :: outer) g → K.In g → Top p loose mean mg mb g → (∀ p ∈ mods, p.1 < L') →
      wpC (model prog w) (A.deeper (envOfC qual scope L' f cdv)) (execs body (envOfC qual scope L' f cdv))
        (fun fl s' => LeaveK h₀ L m g (fun r s' => SameOff (mods.map (·.1)) s.heap s'.heap → (∀ q, g.get? q = none → q ∉ mods.map (·.1) → s.heap.get? q = none) → R r s') (match fl with | .ret v => v | _ => .none) s')
        noE { s with heap := h₁, toks := tk })
    (hco : scope.isCoroutine = false) (hgen : scope.isGenerator = false) (hk : scope.kind = .function) : codeC (model prog w) A (.call (.ref f) args) R s := by
  obtain ⟨FG, BG, st, lv⟩ := groundX (R := R) B F N hA hf hke
  have hS : SameOff (mods.map (·.1)) s.heap (hideAll s.heap (mods.map (·.1))) := fun b o e q => hideAll_get _ e q
  refine codeC_call_function hroom ((X₀.keeps F.keep) _ _ ho) rfl hco hgen rfl (codeRec_of (X₀.keeps F.keep) hcd) (hbind _ _ _ _ ?_)
  refine wpAny_newFunctionEnv_cells hk (kindsX hkind _) fun env' he s' x => ?_
  subst he
  refine ⟨(T.nolimit.keeps F.keep).keeps x.toInCall.keep, codeC_func ?_⟩
  obtain ⟨h₁, tk, rfl, _⟩ := x.done
  have hk₁ := x.toInCall.keep
  obtain ⟨cells, NC, Y⟩ := Cl.news (h₀ := s.heap) (Nat.le_refl _) fun n c hm => ⟨x.cell n c (lookup_of_mem_nodup (cellsFrom_names scope.names 0 (s.heap.objs.size + 1) [] [] rfl ▸ hnd) hm), x.above n c hm⟩
  refine wpC_mono (h _ s.heap.objs.size h₁ tk cells hS FG ⟨x.toInCall.ns, fun b o e => hk₁ b o (of_hideAll _ e), Nat.le_of_eq (hideAll_size _ _)⟩ (fun p hp => ?_) Y BG (X₀.keeps st) (T.keeps st) (fun p hp => Heap.lt_size (N p hp).1)) (fun fl s' hl => ?_) fun _ _ y => y
  · rcases List.mem_append.mp hp with hp | hp
    · refine ⟨(NC p hp).1, (NC p hp).2.1, ?_⟩
      cases q : (hideAll s.heap (mods.map (·.1))).get? p.1 with
      | none => rfl
      | some o => have := of_hideAll _ q; rw [(NC p hp).2.2] at this; cases this
    · exact ⟨hk₁ _ _ (N p hp).1, Nat.ne_of_lt (Heap.lt_size (N p hp).1), hideAll_none _ (List.mem_map_of_mem hp)⟩
  · obtain ⟨L', m', news', F', N', k⟩ := hl
    refine lv _ _ ⟨L', m', news', F', N', fun a b => k a b (fun b o e q => F'.keep _ _ (hS b o e q)) fun q e hq => ?_⟩
    cases z : s.heap.get? q with
    | none => rfl
    | some o => rw [hS q o z hq] at e; cases e
end

/-! ## statements and expressions, in clean contexts -/
section
variable {prog : Program} {w : World} {M : Model} {A : Around} {E : Value → Shared → Prop} {s : Shared} {env : Env}
theorem wpC_execs_nil {Q : Flow → Shared → Prop} (h : Q .next s) : wpC M A (execs [] env) Q E s := wpC_any (wpAny_execs_nil h)
def NextC (M : Model) (A : Around) (E : Value → Shared → Prop) (env : Env) (rest : List Stmt) (Q : Flow → Shared → Prop) (f : Flow) (s' : Shared) : Prop := match f with | .next => wpC M A (execs rest env) Q E s' | f => Q f s'
theorem nextC_next {rest : List Stmt} {Q : Flow → Shared → Prop} (h : wpC M A (execs rest env) Q E s) : NextC M A E env rest Q .next s := h
theorem nextC_ret {rest : List Stmt} {Q : Flow → Shared → Prop} {v : Value} (h : Q (.ret v) s) : NextC M A E env rest Q (.ret v) s := h
theorem wpC_execs_cons {st rest} {Q : Flow → Shared → Prop} (h : wpC M A (exec st env) (NextC M A E env rest Q) E s) : wpC M A (execs (st :: rest) env) Q E s := by
  rw [execs_cons]
  refine wpC_bind (wpC_mono h (fun f s' h' => ?_) fun _ _ x => x)
  cases f <;> first | exact h' | exact wpC_pure h'
theorem wpC_If {test body orelse pos} {Q : Flow → Shared → Prop} (h : wpC M A (isTrue test env (eval test env)) (fun b s₂ => if b = true then wpC M A (execs body env) Q E s₂ else wpC M A (execs orelse env) Q E s₂) E s) :
    wpC M A (exec (.If test body orelse pos) env) Q E s := by
  rw [exec_If]
  refine wpC_bind (wpC_standAt (wpC_bind (wpC_mono h (fun b s' h' => ?_) fun _ _ x => x)))
  cases b
  · simpa using h'
  · simpa using h'
theorem wpC_Return {e pos} {Q : Flow → Shared → Prop} (h : wpC M A (eval e env) (fun v => Q (.ret v)) E s) : wpC M A (exec (.Return (some e) pos) env) Q E s := by
  rw [exec_Return_some]
  exact wpC_bind (wpC_standAt (wpC_bind (wpC_mono h (fun v s' h' => wpC_pure h') fun _ _ x => x)))
theorem wpC_Assign_Name {x pos' value pos} {Q : Flow → Shared → Prop} (h : wpC M A (eval value env) (fun v s₁ => wpAny M A (storeName env x v) (fun _ => Q .next) E s₁) E s)
    (hs : swapsWith value (some (.Name x pos')) pos.line env = pure false := by rfl) : wpC M A (exec (.Assign [.Name x pos'] value pos) env) Q E s := by
  rw [exec_Assign_Name env x pos' value pos hs]
  exact wpC_bind (wpC_standAt (wpC_bind (wpC_mono h (fun v s' h' => wpC_any (wpAny_bind (wpAny_standAt (wpAny_bind (wpAny_bindName (wpAny_mono h' (fun _ _ y => wpAny_pure y) fun _ _ y => y)))))) fun _ _ x => x)))
theorem wpC_Assign_Tuple {elts k tpos value pos} {Q : Flow → Shared → Prop} (h : wpC M A (eval value env) (fun v s₁ => wpAny M A (assign (.Tuple elts k tpos) env v) (fun _ => Q .next) E s₁) E s)
    (hs : swapsWithSole [.Tuple elts k tpos] value pos.line env = pure false := by rfl) (hw : swappedStores [.Tuple elts k tpos] value env = pure none := by rfl) : wpC M A (exec (.Assign [.Tuple elts k tpos] value pos) env) Q E s := by
  rw [exec_Assign]
  refine wpC_bind (wpC_standAt ?_)
  rw [hs]
  refine wpC_bind (wpC_pure ?_)
  rw [if_neg (by decide)]
  refine wpC_bind (wpC_mono h (fun v s₁ h₁ => ?_) fun _ _ x => x)
  rw [hw]
  refine wpC_bind (wpC_pure (wpC_any ?_))
  show wpAny M A (do assignAll v [assign (.Tuple elts k tpos) env]; pure .next) Q E s₁
  exact wpAny_bind (wpAny_mono h₁ (fun _ _ x => wpAny_pure x) fun _ _ x => x)
theorem wpC_Expr {e pos} {Q : Flow → Shared → Prop} (h : wpC (model prog w) A (eval e env) (fun _ => Q .next) E s) (hi : interactive env = false := by rfl) (hs : swapsWith e none pos.line env = pure false := by rfl) :
    wpC (model prog w) A (exec (.Expr e pos) env) Q E s := by
  rw [exec_Expr env e pos hi hs]
  exact wpC_bind (wpC_standAt (wpC_bind (wpC_mono h (fun v s' h' => wpC_any (wpAny_dropValue h')) fun _ _ x => x)))
theorem wpC_operate {vs : List Value} {t : Sem Value} {Q : Value → Shared → Prop} (h : wpC M A t Q E s) : wpC M A (operate vs t) Q E s := fun Γ p hΓ o b => by rw [Sem.wp_operate]; exact h Γ p hΓ o b
theorem wpC_Compare1 {l op r pos} {Q : Value → Shared → Prop} (h : wpC M A (eval l env) (fun a s₁ => wpAny M A (eval r env) (fun b s₂ => wpAny M A (compareOp op a b) Q E s₂) E s₁) E s)
    (hm : behindInMarks op r = false := by with_unfolding_all rfl) : wpC M A (eval (.Compare l [op] [r] pos) env) Q E s := by
  rw [eval_Compare1, markedBehindIn_of_false hm]
  exact wpC_bind (wpC_mono h (fun a s₁ h₁ => wpC_bind (wpC_any (wpAny_holding (wpAny_mono h₁ (fun b s₂ h₂ => wpC_bind (wpC_standAt (wpC_operate (wpC_any h₂)))) fun _ _ x => x)))) fun _ _ x => x)
theorem wpC_isTrue_Compare1 {l op r pos whole} {Q : Bool → Shared → Prop} (h : wpC M A (eval l env) (fun a s₁ => wpAny M A (eval r env) (fun b s₂ => wpAny M A (compareOp op a b) (fun c s₃ => wpAny M A (truthy c) Q E s₃) E s₂) E s₁) E s)
    (hm : behindInMarks op r = false := by with_unfolding_all rfl) : wpC M A (isTrue (.Compare l [op] [r] pos) env whole) Q E s := by
  rw [isTrue_Compare1, markedBehindIn_of_false hm]
  exact wpC_bind (wpC_mono h (fun a s₁ h₁ => wpC_bind (wpC_any (wpAny_holding (wpAny_mono h₁ (fun b s₂ h₂ => wpC_bind (wpC_standAt (wpC_bind (wpC_operate (wpC_any (wpAny_mono h₂ (fun c s₃ h₃ => wpC_holding (wpC_any h₃)) fun _ _ x => x)))))) fun _ _ x => x)))) fun _ _ x => x)
theorem wpC_isTrue_or {x rest pos whole} {Q : Bool → Shared → Prop} (h : wpC M A (isTrue x env (eval x env)) (fun c s' => if c = true then Q true s' else wpAny M A (isTrue (.BoolOp .Or rest pos) env whole) Q E s') E s) :
    wpC M A (isTrue (.BoolOp .Or (x :: rest) pos) env whole) Q E s := by
  show wpC M A (do
    match BoolOp.Or, ← isTrue x env (eval x env) with
    | .And, false => pure false
    | .Or, true => pure true
    | _, _ => allTrue .Or rest env) Q E s
  refine wpC_bind (wpC_mono h (fun c s' h' => ?_) fun _ _ x => x)
  cases c with
  | false => rw [if_neg Bool.false_ne_true] at h'; exact wpC_any h'
  | true => rw [if_pos rfl] at h'; exact wpC_pure h'
theorem wpC_isTrue_not {x pos whole} {Q : Bool → Shared → Prop} (h : wpC M A (isTrue x env (eval x env)) (fun c s' => Q (!c) s') E s) : wpC M A (isTrue (.UnaryOp .Not x pos) env whole) Q E s := by
  show wpC M A (do return !(← isTrue x env (eval x env))) Q E s
  exact wpC_bind (wpC_mono h (fun c s' h' => wpC_pure h') fun _ _ x => x)
theorem wpC_isTrue_plain {e : Expr} {whole : Sem Value} {Q : Bool → Shared → Prop} (h : wpC M A whole (fun v s₁ => wpAny M A (truthy v) Q E s₁) E s)
    (he : isTrue e env whole = (do let v ← whole; standAt e.pos; holding [v] (truthy v)) := by rfl) : wpC M A (isTrue e env whole) Q E s := by
  rw [he]
  exact wpC_bind (wpC_mono h (fun v s₁ h₁ => wpC_bind (wpC_standAt (wpC_holding (wpC_any h₁)))) fun _ _ x => x)
theorem wpC_Subscript {value slice pos} {Q : Value → Shared → Prop} (h : wpC M A (eval value env) (fun o s₁ => wpAny M A (eval slice env) (fun i s₂ => wpAny M A (subscriptTail value slice o i) Q E s₂) E s₁) E s) :
    wpC M A (eval (.Subscript value slice pos) env) Q E s := by
  rw [eval_Subscript]
  exact wpC_bind (wpC_mono h (fun o s₁ h₁ => wpC_bind (wpC_any (wpAny_holding (wpAny_mono h₁ (fun i s₂ h₂ => wpC_bind (wpC_standAt (wpC_any h₂))) fun _ _ x => x)))) fun _ _ x => x)
theorem wpC_spliced_nil {pos : Pos} {Q : List Value → Shared → Prop} (h : Q [] s) : wpC M A (spliced (backTo pos (starEach [] env))) Q E s := wpC_any (args_nil h)
theorem wpC_spliced_cons {e : Expr} {rest : List Expr} {pos : Pos} {Q : List Value → Shared → Prop} (h : wpC M A (eval e env) (fun v s₁ => wpC M A (spliced (backTo pos (starEach rest env))) (fun vs s₂ => Q (v :: vs) s₂) E s₁) E s)
    (he : starEach (e :: rest) env = (false, eval e env) :: starEach rest env := by rfl) : wpC M A (spliced (backTo pos (starEach (e :: rest) env))) Q E s := by
  rw [he]
  show wpC M A (spliced ((false, eval e env) :: backTo pos (starEach rest env))) Q E s
  rw [spliced]
  refine wpC_bind (wpC_mono h (fun v s₁ h₁ => ?_) fun _ _ x => x)
  simp only [Bool.false_eq_true, if_false]
  exact wpC_bind (wpC_pure (wpC_bind (wpC_holding (wpC_mono h₁ (fun vs s₂ h₂ => wpC_pure h₂) fun _ _ x => x))))
theorem wpC_List {elts pos} {Q : Value → Shared → Prop} (h : wpC M A (spliced (backTo pos (starEach elts env))) (fun vs s₁ => wpAny M A (newList vs) Q E s₁) E s) : wpC M A (eval (.List elts pos) env) Q E s := by
  show wpC M A (do standAt pos; newList (← spliced (backTo pos (starEach elts env)))) Q E s
  exact wpC_bind (wpC_standAt (wpC_bind (wpC_mono h (fun _ _ x => wpC_any x) fun _ _ x => x)))
theorem wpC_Tuple {elts k pos} {Q : Value → Shared → Prop} (h : wpC M A (spliced (backTo pos (starEach elts env))) (fun vs s₁ => wpAny M A (newTuple vs) Q E s₁) E s) : wpC M A (eval (.Tuple elts k pos) env) Q E s := by
  show wpC M A (do standAt pos; newTuple (← spliced (backTo pos (starEach elts env)))) Q E s
  exact wpC_bind (wpC_standAt (wpC_bind (wpC_mono h (fun _ _ x => wpC_any x) fun _ _ x => x)))
theorem wpC_Call {func : Expr} {args : List Expr} {pos : Pos} {Q : Value → Shared → Prop} (h : wpAny M A (eval func env) (fun f s₁ => wpC M A (callWith pos f [] (backTo pos (starEach args env)) []) Q E s₁) E s)
    (he : eval (.Call func args [] pos) env = (do callWith pos (← eval func env) [] (backTo pos (starEach args env)) (backToKw pos (keywordEach [] env))) := by rfl) : wpC M A (eval (.Call func args [] pos) env) Q E s := by
  rw [he]; exact wpC_then h
theorem wpC_MethodCall {o : Expr} {name : Str} {apos pos : Pos} {args : List Expr} {pl : Sem Bool} {Q : Value → Shared → Prop}
    (h : wpAny M A (eval o env) (fun ov s₁ => wpAny M A (getMethod ov name pl) (fun fx s₂ => wpC M A (callWith pos fx.1 fx.2 (backTo pos (starEach args env)) []) Q E s₂) E s₁) E s)
    (he : eval (.Call (.Attribute o name apos) args [] pos) env = (do
      let ov ← eval o env
      standAt apos.atName
      let (f, first) ← holding [ov] (getMethod ov name pl)
      callWith pos f first (backTo pos (starEach args env)) []) := by rfl) : wpC M A (eval (.Call (.Attribute o name apos) args [] pos) env) Q E s := by
  rw [he]
  refine wpC_then (wpAny_mono h (fun ov s₁ h₁ => wpC_bind (wpC_standAt (wpC_then (wpAny_holding (wpAny_mono h₁ (fun fx s₂ h₂ => ?_) fun _ _ x => x))))) fun _ _ x => x)
  exact h₂
end

section
variable {M : Model} {A : Around} {E : Value → Shared → Prop} {s : Shared} {K : Frag} {env : Env} {pos : Pos} {f : Value} {first : List Value} {Q : Value → Shared → Prop}
theorem wpC_callWith_of {P : Heap → Prop} {args : List (Bool × Sem Value)} {keywords : List (Option Str × Sem Value)} (hplain : (args.any (·.1) || keywords.any (·.1.isNone)) = false)
    (hk : ∀ h, P h → ∃ k, (k = Keeper.frame ∨ k = Keeper.machine ∨ k = Keeper.boundFrame) ∧ Looks M h (keeperOf f) k)
    (h : wpAny M A (evalArgs f true args keywords) (fun a s₁ => P s₁.heap ∧ wpC M A (call f (first ++ a.pos) a.kw) Q E s₁) E s) : wpC M A (callWith pos f first args keywords) Q E s := by
  unfold callWith
  refine wpC_then (wpAny_holding (wpAny_mono h (fun a s₁ h₁ => wpC_bind (wpC_standAt ?_)) fun _ _ x => x))
  obtain ⟨k, hk', L⟩ := hk _ h₁.1
  simp only [hplain]
  refine wpC_then (L.here ?_)
  have tail : ∀ {t : Sem Value}, wpC M A t Q E s₁ → wpC M A (t >>= fun r => holding [r] point >>= fun _ => pure r) Q E s₁ :=
    fun ht => wpC_bind (wpC_mono ht (fun r s₂ hr => wpC_then (wpAny_holding (wpAny_point (wpC_pure hr)))) fun _ _ x => x)
  have marked (mk : Value) : wpC M A (callMarked mk f (first ++ a.pos) a.kw) Q E s₁ := by unfold callMarked; exact wpC_keep h₁.2
  rcases hk' with rfl | rfl | rfl <;> dsimp only <;> first | exact tail h₁.2 | (split <;> first | exact tail h₁.2 | exact tail (marked _))
theorem wpC_callWith_K {e : Expr} {rest : List Expr} (hk : keepIn K f = true) (h : wpAny M A (spliced (backTo pos (starEach (e :: rest) env))) (fun vs s₁ => K.In s₁.heap ∧ wpC M A (call f (first ++ vs)) Q E s₁) E s)
    (he : starEach (e :: rest) env = (false, eval e env) :: starEach rest env := by rfl) (hplain : (backTo pos (starEach rest env)).any (·.1) = false := by rfl) :
    wpC M A (callWith pos f first (backTo pos (starEach (e :: rest) env)) []) Q E s := by
  rw [he] at h ⊢
  exact wpC_callWith_of (by show ((false || (backTo pos (starEach rest env)).any (·.1)) || false) = false; rw [hplain]; rfl) (keeps_K hk) (evalArgs_plain h)
/-- a call of a built-in or of a built-in type -/
theorem wpC_callWith_v (hf : keeperOf f = pure .machine) {e : Expr} {rest : List Expr} (h : wpAny M A (spliced (backTo pos (starEach (e :: rest) env))) (fun vs s₁ => wpC M A (call f (first ++ vs)) Q E s₁) E s)
    (he : starEach (e :: rest) env = (false, eval e env) :: starEach rest env := by rfl) (hplain : (backTo pos (starEach rest env)).any (·.1) = false := by rfl) :
    wpC M A (callWith pos f first (backTo pos (starEach (e :: rest) env)) []) Q E s := by
  rw [he] at h ⊢
  exact wpC_callWith_of (P := fun _ => True) (by show ((false || (backTo pos (starEach rest env)).any (·.1)) || false) = false; rw [hplain]; rfl) (fun _ _ => ⟨.machine, .inr (.inl rfl), Looks.of_pure hf⟩)
    (evalArgs_plain (wpAny_mono h (fun _ _ x => ⟨trivial, x⟩) fun _ _ x => x))
theorem wpC_callWith_v0 (hf : keeperOf f = pure .machine) (h : wpC M A (call f (first ++ [])) Q E s) : wpC M A (callWith pos f first (backTo pos (starEach [] env)) []) Q E s :=
  wpC_callWith_of (P := fun _ => True) rfl (fun _ _ => ⟨.machine, .inr (.inl rfl), Looks.of_pure hf⟩) (evalArgs_nil3 ⟨trivial, h⟩)
end
end Mine
end CrPart

section CkPart
set_option maxRecDepth 100000
set_option maxHeartbeats 4000000
namespace Mine
open PySem PySem.W PySem.Calls PySem.Spec PyProof.Rows Builtin Builtin.ObjectAttr
open Sem (wp)

section
variable {prog : Program} {w : World} {A : Around} {E : Value → Shared → Prop} {R : Result → Shared → Prop} {s : Shared}
theorem codeC_call_builtin_at {id : String} {args : Args} {b : Builtin} (ok : okCode (.builtin id args) = true) (hq : (Code.builtin id args).quiet = true) (hb : entryFor table id = some b)
    (h : wpAny (model prog w) A.in1 (checkBuiltinCall id args) (fun _ s₁ => wpC (model prog w) (A.under (.builtin id args)) (b args)
      (fun fin s' => match fin with | .done f => R (.ok f) s' | .again c' => c'.quiet = true ∧ codeC (model prog w) A c' R s') (fun e s' => R (.error e) s') s₁)
      (fun e s' => R (.error e) s') s) : codeC (model prog w) A (.call (.builtin id) args) R s := by
  refine codeC_of_tree rfl (wpC_any ?_)
  show wpAny _ A.in1 (do checkBuiltinCall id args; again (.builtin id args)) _ _ s
  refine wpAny_bind (wpAny_mono h (fun _ s₁ h₁ => wpAny_pure (And.intro hq (codeC_of_tree ok ?_))) fun _ _ h' => h')
  show wpC _ _ (match entryFor table id with | some b => b args | none => unsupported ((withoutEnding? id "#data").getD id)) _ _ s₁
  rw [hb]; exact h₁
theorem codeC_builtin {id : String} {args : Args} {b : Builtin} (ok : okCode (.builtin id args) = true) (hb : entryFor table id = some b)
    (h : wpC (model prog w) (A.under (.builtin id args)) (b args)
      (fun fin s' => match fin with | .done f => R (.ok f) s' | .again c' => c'.quiet = true ∧ codeC (model prog w) A c' R s') (fun e s' => R (.error e) s') s) :
    codeC (model prog w) A (.builtin id args) R s := by
  refine codeC_of_tree ok ?_
  show wpC _ _ (match entryFor table id with | some b => b args | none => unsupported ((withoutEnding? id "#data").getD id)) _ _ s
  rw [hb]; exact h
end
section
variable {prog : Program} {w : World} {A : Around} {K : Frag} {C : Addr} {R : Result → Shared → Prop} {h : Heap} {g : Array GenState} {d : Drawn} {t : Nat} {os : OsState}
theorem make_coreC {rest : List Value} {init : Value} (Y : Makes (model prog w) h C) (hi : Looks (model prog w) h (typeLookup (.ref C) "__init__") (some init))
    (hb : ∀ self, Looks (model prog w) h (bindSpecial init self) (init, [self])) (hne : (some init != some (Value.builtin "object.__init__")) = true ∨ (rest = [] ∧ ([] : List (Str × Value)) = []))
    (hq : codeC (model prog w) (A.under (.builtin "type.__call__" ⟨.ref C :: rest, []⟩)) (.call init ⟨.ref (h.objs.size + 1) :: rest, []⟩) (InitBack (h.objs.size + 1) R) ⟨(h.push emptyDict).push (instObj C h.objs.size), g, d, t, os⟩) :
    codeC (model prog w) A (.call (.ref C) ⟨rest, []⟩) R ⟨h, g, d, t, os⟩ := by
  have Y' := Y
  obtain ⟨⟨oc, od, cd, sl, hC, e1, e2, e4⟩, made, base, self, top, call, typ⟩ := Y
  refine codeC_of_tree rfl (wpC_any ?_)
  show wpAny _ _ (callAny (.ref C) _) _ _ _
  refine nd_load hC ?_
  show wpAny _ _ (callAny.viaDunder (.ref C) _) _ _ _
  unfold callAny.viaDunder
  refine wpAny_bind (call.at ?_)
  dsimp only
  rw [tc_bind]
  refine wpAny_bind (wpAny_pure (wpAny_bind (wpAny_pure ?_)))
  refine wpAny_pure (a := Fin.again (.call (.builtin "type.__call__") ⟨.ref C :: rest, []⟩)) (And.intro rfl ?_)
  refine codeC_call_builtin_at (show (!badIds.contains "type.__call__") = true by decide) (Code.quiet_builtin _ (by decide +kernel)) entry_typeCall (check_slot tc_kind tc_split typ (tc_args _ _ _) ?_)
  unfold Builtin.«type.__call__»
  have hm : Looks (model prog w) h (mroOf (.ref C)) cd.mro := ((Looks.ld (part := none) hC).andThen .now).andThen .now
  dsimp only
  rw [if_neg (by intro h; cases h)]
  refine wpC_then (hm.here ?_)
  rw [if_neg (by rw [e4]; decide)]
  refine wpC_then (made.here ?_)
  dsimp only
  refine wpC_then (wpAny_pure ?_)
  refine wpC_then (wpAny_holding (wpAny_call (new_K Y' hi hne ?_)))
  have k : ∀ b o, h.get? b = some o → ((h.push emptyDict).push (instObj C h.objs.size)).get? b = some o := fun b o e => Heap.get?_push_of_some _ (Heap.get?_push_of_some _ e)
  have hx : ((h.push emptyDict).push (instObj C h.objs.size)).get? (h.objs.size + 1) = some (instObj C h.objs.size) := by heap_get
  have t1 : Looks (model prog w) ((h.push emptyDict).push (instObj C h.objs.size)) (typeOf (.ref (h.objs.size + 1))) (.ref C) := (Looks.ld hx).andThen .now
  have s1 := self.keeps k
  have i1 := hi.keeps k
  have b1 := (hb (.ref (h.objs.size + 1))).keeps k
  have is1 : Looks (model prog w) ((h.push emptyDict).push (instObj C h.objs.size)) (isInstance (.ref (h.objs.size + 1)) (.ref C)) true := t1.andThen s1
  dsimp only
  refine wpC_then (is1.at ?_)
  simp only [Bool.not_true, Bool.false_eq_true, if_false]
  unfold callSpecial? specialOf
  refine wpC_bind (wpC_holding (wpC_then ((t1.andThen i1).at ?_)))
  dsimp only
  refine wpC_holding (wpC_then (b1.at ?_))
  dsimp only
  refine wpC_bind (wpC_call (codeC_mono hq fun r s' z => ?_))
  rcases r with e | (v | _ | _ | _) <;> first | exact z | exact z.elim | skip
  obtain ⟨rfl, z⟩ := z
  exact wpC_pure (wpC_pure z)
theorem make_C {rest : List Value} {fI : Addr} {s : Shared} {h₀ : Heap} {L : Addr} {m : Str → Option Value} {news : List (Addr × Obj)} (F : Fr h₀ L s.heap m) (N : News h₀ L s.heap news) (X : K.In s.heap) (hm : makesIn K C = true)
    (hi : findIn K (.ref C) "__init__" = some (some (.ref fI))) (hf : typeIn K (.ref fI) = some (.type "function"))
    (h : ∀ x dx h', Fr h₀ L h' m → News h₀ L h' ((x, instObj C dx) :: (dx, emptyDict) :: news) → (∀ p ∈ news, p.1 < dx) → dx < x → s.heap.get? x = none → s.heap.get? dx = none → (∀ b o, s.heap.get? b = some o → h'.get? b = some o) →
      codeC (model prog w) (A.under (.builtin "type.__call__" ⟨.ref C :: rest, []⟩)) (.call (.ref fI) ⟨.ref x :: rest, []⟩) (InitBack x R) { s with heap := h' }) :
    codeC (model prog w) A (.call (.ref C) ⟨rest, []⟩) R s := by
  obtain ⟨hh, g, d, t, os⟩ := s
  have none_of : ∀ b, hh.objs.size ≤ b → hh.get? b = none := fun b hb => by
    cases z : hh.get? b with
    | none => rfl
    | some o => exact absurd (Heap.lt_size z) (Nat.not_lt.mpr hb)
  refine make_coreC (makes_of X hm) (looks_findIn X hi) (fun self => bind_fn X self hf) (.inl rfl) (h _ hh.objs.size _ ((F.push _).push _) ?_ (fun p hp => Heap.lt_size (N p hp).1) (Nat.lt_succ_self _) (none_of _ (Nat.le_succ _)) (none_of _ (Nat.le_refl _)) fun b o e => Heap.get?_push_of_some _ (Heap.get?_push_of_some _ e))
  have := (N.push F emptyDict).push (F.push _) (instObj C hh.objs.size)
  rwa [Heap.size_push] at this
end
end Mine
end CkPart

section ByPart
set_option maxRecDepth 100000
set_option maxHeartbeats 4000000
namespace Mine
open PySem PySem.W PySem.Calls PySem.Spec PyProof.Rows Builtin
open Sem (wp)

theorem ba_mro : mroOf (.type "bytearray") = pure [.type "bytearray", .type "object"] := by rw [mroOf_type]; kernel_rfl
theorem ba_lookup_new : typeLookup (.type "bytearray") "__new__" = pure (some (.builtin "bytearray.__new__")) := by rw [typeLookup_type, builtinLookup_eq_fast]; kernel_rfl
theorem ba_slot_init : Slot "bytearray" "__init__" "bytearray.__init__" :=
  .of (owner := "bytearray") (n := "__init__") (by rw [typeLookup_type, builtinLookup_eq_fast]; kernel_rfl) (by decide +kernel) (by decide +kernel) (by decide +kernel)
    (by first | exact .inl (by decide +kernel) | exact .inr (by decide +kernel)) (by rw [isSubtype_type]; kernel_rfl)
theorem ba_called : TypeCalled "bytearray" "bytearray.__new__" "bytearray.__init__" :=
  ⟨by decide +kernel, by decide +kernel, ⟨_, _, ba_mro⟩, madeBy_type ba_mro ba_lookup_new (by decide +kernel), by decide +kernel, by rw [isSubtype_type]; kernel_rfl, ba_slot_init⟩
theorem ba_typeCall0 : checkTypeCall "bytearray" ⟨[], []⟩ = pure () := by kernel_rfl
theorem ba_typeCall (a : Value) : checkTypeCall "bytearray" ⟨[a], []⟩ = pure () := by kernel_rfl
theorem ba_newCall0 : checkBuiltinCall "bytearray.__new__" ⟨[.type "bytearray"], []⟩ = pure () := by kernel_rfl
theorem ba_newCall (a : Value) : checkBuiltinCall "bytearray.__new__" ⟨[.type "bytearray", a], []⟩ = pure () := by kernel_rfl
theorem ba_plain_new : plainId "bytearray.__new__" = true := by decide +kernel
theorem ba_plain_init : plainId "bytearray.__init__" = true := by decide +kernel
theorem ba_entry_new : entryFor table "bytearray.__new__" = some Builtin.«list.__new__» := entryFor_alias (id' := "list.__new__") (by kernel_rfl) (by first | rfl | decide +kernel) (by decide +kernel) (by kernel_rfl)
theorem ba_entry_init : entryFor table "bytearray.__init__" = some Builtin.«bytearray.__init__» := entryFor_of_tree (by kernel_rfl)
theorem ba_sub : isSubtype (.type "bytearray") (.type "bytearray") = pure true := by rw [isSubtype_type]; kernel_rfl
set_option maxRecDepth 1000000 in
theorem ba_owner : ("bytearray.__new__".splitOn ".__new__").headD "" = "bytearray" := by simp +decide [String.splitOn, String.splitOnAux]
theorem ba_init_args0 (a : Value) : argsOk "bytearray.__init__" ⟨[a], []⟩ := by unfold argsOk; kernel_rfl
theorem ba_init_args (a b : Value) : argsOk "bytearray.__init__" ⟨[a, b], []⟩ := by unfold argsOk; kernel_rfl
theorem ba_bind0 : Builtin.Bytes.bindOptional "bytearray.__init__" "bytearray" ["source", "encoding", "errors"] [] [] = pure [none, none, none] := by kernel_rfl
theorem ba_bind (v : Value) : Builtin.Bytes.bindOptional "bytearray.__init__" "bytearray" ["source", "encoding", "errors"] [v] [] = pure [some v, none, none] := by kernel_rfl
abbrev baOf (b : Array UInt8) : Obj := { cls := .type "bytearray", data := .bytearray b }

section
variable {prog : Program} {w : World} {A : Around} {E : Value → Shared → Prop} {s : Shared}
theorem ba_new {args : List Value} (hc : checkBuiltinCall "bytearray.__new__" ⟨.type "bytearray" :: args, []⟩ = pure ()) {Q₁ : Value → Shared → Prop}
    (h : Q₁ (.ref s.heap.objs.size) { s with heap := s.heap.push (baOf #[]) }) : codeAny (model prog w) A (.call (.builtin "bytearray.__new__") ⟨.type "bytearray" :: args, []⟩) (wants Q₁ E) s := by
  refine codeAny_of_tree ?_
  show wpAny _ A.in1 (do checkBuiltinCall "bytearray.__new__" ⟨.type "bytearray" :: args, []⟩; again (.builtin "bytearray.__new__" ⟨.type "bytearray" :: args, []⟩)) _ _ s
  refine wpAny_bind (wpAny_of_eq hc (wpAny_pure ⟨plainId_quiet ba_plain_new _, codeAny_builtin_stack ba_entry_new rfl fun p st => ?_⟩))
  rw [Around.under_plainId ba_plain_new _]
  have hsub := ba_sub
  have hown := ba_owner
  obtain ⟨hp, g, d, tk, os⟩ := s
  simp only [hown]
  wp_walk
  exact h

theorem callType_C {args : List Value} {Q : Value → Shared → Prop} (hct : checkTypeCall "bytearray" ⟨args, []⟩ = pure ()) (hcn : checkBuiltinCall "bytearray.__new__" ⟨.type "bytearray" :: args, []⟩ = pure ()) (hok : ∀ obj, argsOk "bytearray.__init__" ⟨obj :: args, []⟩)
    (hi : wpC (model prog w) A.in1.in1 (Builtin.«bytearray.__init__» ⟨.ref s.heap.objs.size :: args, []⟩)
      (fun fin s' => match fin with | .done f => f = .ret .none ∧ Q (.ref s.heap.objs.size) s' | .again c' => c'.quiet = true ∧ codeC (model prog w) A.in1 c' (fun r s' => r = .ok (.ret .none) ∧ Q (.ref s.heap.objs.size) s') s') noE { s with heap := s.heap.push (baOf #[]) }) :
    wpC (model prog w) A (call (.type "bytearray") args) Q E s := by
  have ft := ba_called
  have hmro := ba_mro
  have hmade := ft.made
  have hsub := ft.sub
  refine wpC_call (codeC_of_tree rfl ?_)
  show wpC _ _ (callAny (.type "bytearray") _) _ _ _
  refine wpC_pure ⟨Code.quiet_builtin _ (by decide +kernel), codeC_builtin (show (!badIds.contains "type.__call__") = true by decide) F.entry_type_call ?_⟩
  rw [Around.under_plain (weight_type_call_type "bytearray" args []) rfl]
  unfold Builtin.«type.__call__»
  dsimp only
  rw [if_neg (by rw [ft.notType]; decide)]
  rw [if_neg (by rw [show _ = false from ft.canCreate]; decide)]
  rw [hct]
  refine wpC_bind (wpC_pure ?_)
  rw [hmro]
  refine wpC_bind (wpC_pure ?_)
  rw [if_neg (by decide)]
  rw [hmade]
  refine wpC_bind (wpC_pure ?_)
  dsimp only
  refine wpC_bind (wpC_pure ?_)
  refine wpC_then (wpAny_holding (wpAny_call (codeAny_mono (ba_new hcn (Q₁ := fun v s₁ => v = .ref s.heap.objs.size ∧ s₁ = { s with heap := s.heap.push (baOf #[]) }) (E := noE) ⟨rfl, rfl⟩) fun r s₁ hr => ?_)))
  rcases r with e | (v | _ | _ | _) <;> first | exact hr.elim | skip
  obtain ⟨rfl, rfl⟩ := hr
  have hS : (s.heap.push (baOf #[])).get? s.heap.objs.size = some (baOf #[]) := Heap.get?_push_size _ rfl
  have hT : ({ s with heap := s.heap.push (baOf #[]) } : Shared).TypeIs (.ref s.heap.objs.size) "bytearray" := ⟨_, hS, rfl⟩
  dsimp only
  refine wpC_then (wpAny_isInstance hT hsub ?_)
  simp only [Bool.not_true, Bool.false_eq_true, if_false]
  refine wpC_bind (wpC_holding ?_)
  unfold callSpecial?
  refine wpC_then (wpAny_specialOf hT ft.init.lookup ?_)
  dsimp only
  refine wpC_holding ?_
  rw [ft.init.bind]
  refine wpC_bind (wpC_pure ?_)
  dsimp only
  refine wpC_bind (wpC_call ?_)
  refine codeC_mono (codeC_call_builtin_at (R := fun r s' => r = .ok (.ret .none) ∧ Q (.ref s.heap.objs.size) s') (show (!badIds.contains "bytearray.__init__") = true by decide) (plainId_quiet ba_plain_init _) ba_entry_init ?_) fun r s' hr => ?_
  · refine ft.init.check _ _ _ _ _ _ _ _ hT (hok _) ?_
    rw [Around.under_plainId ba_plain_init _]
    refine wpC_mono hi (fun fin s' hf => ?_) fun _ _ x => x.elim
    cases fin with
    | done f => obtain ⟨rfl, q⟩ := hf; exact ⟨rfl, q⟩
    | again c' => exact hf
  · obtain ⟨rfl, q⟩ := hr
    exact wpC_pure (wpC_pure q)
end
end Mine
end ByPart

section BiPart
set_option maxRecDepth 100000
set_option maxHeartbeats 4000000
namespace Mine
open PySem PySem.W PySem.Calls PySem.Spec PyProof.Rows Builtin
open Sem (wp)
theorem ba_release : typeLookup (.type "bytearray") "__release_buffer__" = pure (some (.builtin "bytearray.__release_buffer__")) := by rw [typeLookup_type, builtinLookup_eq_fast]; kernel_rfl
theorem ba_release_ends : ("bytearray.__release_buffer__" : String).endsWith ("." ++ "__release_buffer__") = true := by decide +kernel
theorem ba_release_drop : ("bytearray.__release_buffer__" : String).dropRight ("__release_buffer__".length + 1) = "bytearray" := by decide +kernel

section
variable {M : Model} {prog : Program} {w : World} {A : Around} {E : Value → Shared → Prop} {s : Shared}
theorem ba_ownRelease {S : Addr} {b : Array UInt8} {Q : Bool → Shared → Prop} (hS : s.heap.get? S = some (baOf b)) (h : Q false s) : wpAny M A (Bytes.ownRelease (.ref S)) Q E s := by
  have hT : s.TypeIs (.ref S) "bytearray" := ⟨_, hS, rfl⟩
  unfold Bytes.ownRelease Bytes.slotIsOwn
  refine wpAny_bind (wpAny_bind (wpAny_specialOf hT ba_release ?_))
  dsimp only
  rw [if_neg (by rw [ba_release_ends]; decide), ba_release_drop]
  exact wpAny_isInstance hT ba_sub (wpAny_pure h)
theorem ba_exportsOf {S : Addr} {b : Array UInt8} {Q : Nat → Shared → Prop} (hS : s.heap.get? S = some (baOf b)) (h : Q 0 s) : wpAny M A (Bytes.exportsOf (.ref S)) Q E s := by
  unfold Bytes.exportsOf
  exact wpAny_bind (wpAny_load hS (wpAny_pure h))
theorem ba_payload {S : Addr} {b : Array UInt8} {Q : Array UInt8 → Shared → Prop} (hS : s.heap.get? S = some (baOf b)) (h : Q b s) : wpAny M A (Bytes.payload (.ref S)) Q E s := by
  unfold Bytes.payload Bytes.payload?
  exact wpAny_bind (wpAny_bind (wpAny_load hS (wpAny_pure (wpAny_pure h))))
theorem ba_write {S : Addr} {b : Array UInt8} {f : Array UInt8 → Array UInt8} {Q : Unit → Shared → Prop} (hS : s.heap.get? S = some (baOf b)) (hz : (f b).size ≤ sizeLine)
    (h : ∀ h', h'.get? S = some (baOf (f b)) → Heap.SameBut S s.heap h' → Q () { s with heap := h' }) : wpAny M A (Bytes.write (.ref S) f) Q E s := by
  show wpAny _ _ (updateBytearray S f) _ _ _
  unfold updateBytearray
  refine wpAny_bind (wpAny_load hS ?_)
  show wpAny _ _ (update S (Obj.mapBytearray f) >>= fun _ => lookBehind S) _ _ _
  refine wpAny_bind (wpAny_update hS ?_)
  have hS₂ : (s.heap.update S (Obj.mapBytearray f)).get? S = some (baOf (f b)) := Heap.get?_update_self (Obj.mapBytearray f) hS rfl
  refine wpAny_lookBehind hS₂ ?_ (h _ hS₂ (Heap.SameBut.update ..))
  show (if (f b).size > sizeLine then some "bytearray:memory" else none) = none
  rw [if_neg (by omega)]
/-- neither held by a codec nor exported -/
theorem ba_held {S : Addr} {b : Array UInt8} {Q : Bool → Shared → Prop} (hS : s.heap.get? S = some (baOf b)) (h : Q false s) : wpC M A (Bytes.exported (.ref S) <||> (do return (← Bytes.exportsOf (.ref S)) > 0)) Q E s := by
  unfold orM
  refine wpC_bind (wpC_exported ?_)
  simp only [toBool, Bool.false_eq_true, if_false]
  exact wpC_then (ba_exportsOf hS (wpC_pure h))
theorem ba_checkResize {S : Addr} {b : Array UInt8} {Q : Unit → Shared → Prop} (hS : s.heap.get? S = some (baOf b)) (h : Q () s) : wpC M A (Bytes.checkResize (.ref S)) Q E s := by
  unfold Bytes.checkResize
  refine wpC_bind (ba_held hS ?_)
  rw [if_neg (by decide)]
  exact wpC_pure h
theorem ba_addAtEnd0 {Q : PySem.Fin → Shared → Prop} {S : Addr} {b more : Array UInt8} (hS : s.heap.get? S = some (baOf b)) (hz : b.size + more.size ≤ sizeLine)
    (h : ∀ h', h'.get? S = some (baOf (b ++ more)) → Heap.SameBut S s.heap h' → Q (.done (.ret .none)) { s with heap := h' }) :
    wpC M A (if (!more.isEmpty) = true then (Bytes.checkResize (.ref S) >>= fun _ => Bytes.write (.ref S) (· ++ more) >>= fun _ => ret .none) else (Bytes.write (.ref S) (· ++ more) >>= fun _ => ret .none)) Q E s := by
  have key : wpC M A (Bytes.write (.ref S) (· ++ more) >>= fun _ => ret .none) Q E s :=
    wpC_then (ba_write hS (by rw [Array.size_append]; exact hz) fun h' h1 h2 => wpC_pure (h h' h1 h2))
  cases hm : (!more.isEmpty)
  · rw [if_neg (by decide)]
    exact key
  · rw [if_pos rfl]
    exact wpC_bind (ba_checkResize hS key)

theorem ba_init0 {S : Addr} {b : Array UInt8} {Q : PySem.Fin → Shared → Prop} (hS : s.heap.get? S = some (baOf b)) (h : ∀ h', h'.get? S = some (baOf #[]) → Heap.SameBut S s.heap h' → Q (.done (.ret .none)) { s with heap := h' }) :
    wpC M A (Builtin.«bytearray.__init__» ⟨[.ref S], []⟩) Q E s := by
  unfold Builtin.«bytearray.__init__»
  dsimp only
  refine wpC_then (ba_ownRelease hS ?_)
  rw [if_neg (by decide), ba_bind0]
  refine wpC_bind (wpC_pure ?_)
  dsimp only
  refine wpC_bind (wpC_pure ?_)
  refine wpC_bind (wpC_pure ?_)
  refine wpC_bind (ba_held hS ?_)
  rw [if_neg (by decide)]
  refine wpC_then (ba_write hS (Nat.zero_le _) fun h' h1 h2 => ?_)
  simp only [Option.isSome_none, Bool.false_eq_true, if_false]
  exact wpC_bind (wpC_pure (wpC_pure (h h' h1 h2)))
end

theorem li_no_index : typeLookup (.type "list") "__index__" = pure none := by rw [typeLookup_type, builtinLookup_eq_fast]; kernel_rfl
theorem li_no_buffer : typeLookup (.type "list") "__buffer__" = pure none := by rw [typeLookup_type, builtinLookup_eq_fast]; kernel_rfl
def okInt : Value → Bool | .int i _ => 0 ≤ i && i < 256 | _ => false
theorem ints_takeWhile {vs : List Value} {ns : List Int} (hi : IntsAre vs ns) (hr : ∀ n ∈ ns, 0 ≤ n ∧ n < 256) (f : Value → Bool) (hf : ∀ i t, f (.int i t) = (decide (0 ≤ i) && decide (i < 256))) : vs.takeWhile f = vs := by
  induction hi with
  | nil => rfl
  | cons n t _ ih =>
    have h0 := hr n (.head _)
    rw [List.takeWhile_cons, hf, decide_eq_true h0.1, decide_eq_true h0.2]
    simp only [Bool.and_self, if_true]
    rw [ih fun n hn => hr n (.tail _ hn)]
theorem ints_filterMap {vs : List Value} {ns : List Int} (hi : IntsAre vs ns) (f : Value → Option UInt8) (hf : ∀ i t, f (.int i t) = some i.toNat.toUInt8) : (vs.filterMap f).toArray = byteArr ns := by
  unfold byteArr
  congr 1
  induction hi with
  | nil => rfl
  | cons n t _ ih => rw [List.filterMap_cons, hf, List.map_cons, ih]

section
variable {M : Model} {prog : Program} {w : World} {A : Around} {E : Value → Shared → Prop} {s : Shared}
theorem ba_initL {S l : Addr} {b : Array UInt8} {vs : List Value} {ns : List Int} {Q : PySem.Fin → Shared → Prop} (hS : s.heap.get? S = some (baOf b)) (hl : s.heap.IsList l vs.toArray) (hi : IntsAre vs ns) (hr : ∀ n ∈ ns, 0 ≤ n ∧ n < 256) (hz : ns.length ≤ 1000) (hlS : l ≠ S)
    (h : ∀ h', h'.get? S = some (baOf (byteArr ns)) → Heap.SameBut S s.heap h' → Q (.done (.ret .none)) { s with heap := h' }) :
    wpC M A (Builtin.«bytearray.__init__» ⟨[.ref S, .ref l], []⟩) Q E s := by
  unfold Builtin.«bytearray.__init__»
  dsimp only
  refine wpC_then (ba_ownRelease hS ?_)
  rw [if_neg (by decide), ba_bind]
  refine wpC_bind (wpC_pure ?_)
  dsimp only
  refine wpC_bind (wpC_pure ?_)
  refine wpC_bind (wpC_pure ?_)
  refine wpC_bind (ba_held hS ?_)
  rw [if_neg (by decide)]
  refine wpC_then (ba_write hS (Nat.zero_le _) fun h' h1 h2 => ?_)
  have hl' : h'.IsList l vs.toArray := hl.extBut h2.extBut hlS
  obtain ⟨ol, hol, hoc, nl, hod⟩ := id hl'
  have hT : ({ s with heap := h' } : Shared).TypeIs (.ref l) "list" := hl'.typeIs
  refine wpC_then ?_
  unfold asStr?
  refine wpAny_bind (wpAny_load hol ?_)
  rw [hod]
  refine wpAny_pure ?_
  simp only [Option.isSome_none, Bool.false_eq_true, if_false]
  refine wpC_bind (wpC_pure ?_)
  refine wpC_then (wpAny_specialOf hT li_no_index ?_)
  simp only [Option.isSome_none, Bool.false_eq_true, if_false]
  refine wpC_then ?_
  unfold Bytes.buffer?
  refine wpAny_bind (wpAny_specialOf hT li_no_buffer ?_)
  refine wpAny_bind (wpAny_specialOf hT li_no_buffer ?_)
  refine wpAny_pure ?_
  dsimp only
  refine wpC_then (wpAny_typeOf hT ?_)
  rw [if_pos (by decide)]
  refine wpC_then ?_
  show wpAny _ _ (seqItems? (.ref l)) _ _ _
  unfold seqItems?
  refine wpAny_bind (wpAny_load hol ?_)
  rw [hod]
  refine wpAny_pure ?_
  dsimp only
  rw [ints_takeWhile hi hr _ (fun _ _ => rfl), ints_filterMap hi _ (fun _ _ => rfl)]
  rw [show vs.toArray[vs.length]? = none from by simp]
  refine wpC_bind (wpC_rule ?_)
  refine wpC_then (ba_write h1 (by rw [byteArr_size, PySem.sizeLine_eq]; omega) fun h'' h3 h4 => ?_)
  exact wpC_pure (h h'' h3 (h2.trans h4))
end
end Mine
end BiPart

section BePart
set_option maxRecDepth 100000
set_option maxHeartbeats 4000000
namespace Mine
open PySem PySem.W PySem.Calls PySem.Spec PyProof.Rows Builtin
open Sem (wp)
theorem be_slot : Slot "bytearray" "extend" "bytearray.extend" :=
  .of (owner := "bytearray") (n := "extend") (by rw [typeLookup_type, builtinLookup_eq_fast]; kernel_rfl) (by decide +kernel) (by decide +kernel) (by decide +kernel)
    (by first | exact .inl (by decide +kernel) | exact .inr (by decide +kernel)) (by rw [isSubtype_type]; kernel_rfl)
theorem be_type : typeOf (.builtin "bytearray.extend") = pure (.type "method_descriptor") := by show builtinType _ = _; rw [builtinType_eq_fast]; kernel_rfl
theorem be_plainAttrs : PlainAttrs "bytearray" :=
  ⟨⟨"bytearray.__getattribute__", by rw [typeLookup_type, builtinLookup_eq_fast]; kernel_rfl, by decide +kernel⟩, by rw [typeLookup_type, builtinLookup_eq_fast]; kernel_rfl⟩
theorem be_plain : plainId "bytearray.extend" = true := by decide +kernel
theorem be_plain_loop : plainId "bytearray.extend.loop" = true := by decide +kernel
theorem be_plain_end : plainId "bytearray.extend.end" = true := by decide +kernel
theorem be_entry : entryFor table "bytearray.extend" = some Builtin.«bytearray.extend» := entryFor_of_tree (by kernel_rfl)
theorem be_entry_loop : entryFor table "bytearray.extend.loop" = some Builtin.«bytearray.extend.loop» := entryFor_of_tree (by kernel_rfl)
theorem be_entry_end : entryFor table "bytearray.extend.end" = some Builtin.«bytearray.extend.end» := entryFor_of_tree (by kernel_rfl)
theorem be_args (a b : Value) : argsOk "bytearray.extend" ⟨[a, b], []⟩ := by unfold argsOk; kernel_rfl
theorem be_buffer : typeLookup (.type "bytearray") "__buffer__" = pure (some (.builtin "bytearray.__buffer__")) := by rw [typeLookup_type, builtinLookup_eq_fast]; kernel_rfl
theorem tu_no_buffer : typeLookup (.type "tuple") "__buffer__" = pure none := by rw [typeLookup_type, builtinLookup_eq_fast]; kernel_rfl
theorem be_split : splitId "list.__len__" = some ("list", "__len__") := by decide +kernel
theorem be_split_t : splitId "tuple.__len__" = some ("tuple", "__len__") := by decide +kernel
theorem be_sub_list : isSubtype (.type "list") (.type "list") = pure true := by rw [isSubtype_type]; kernel_rfl
theorem be_sub_tuple : isSubtype (.type "tuple") (.type "tuple") = pure true := by rw [isSubtype_type]; kernel_rfl
theorem be_len_t : typeLookup (.type "tuple") "__len__" = pure (some (.builtin "tuple.__len__")) := by rw [typeLookup_type, builtinLookup_eq_fast]; kernel_rfl
theorem be_buf_ends : ("bytearray.__buffer__" : String).endsWith ("." ++ "__buffer__") = true := by decide +kernel
theorem be_buf_drop : ("bytearray.__buffer__" : String).dropRight ("__buffer__".length + 1) = "bytearray" := by decide +kernel

section
variable {M : Model} {prog : Program} {w : World} {A : Around} {E : Value → Shared → Prop} {s : Shared} {R : Result → Shared → Prop}
theorem ext_end {S F : Addr} {it : Value} {b c : Array UInt8} (hS : s.heap.get? S = some (baOf b)) (hF : s.heap.get? F = some (baOf c)) (hz : b.size + c.size ≤ sizeLine)
    (h : ∀ h', h'.get? S = some (baOf (b ++ c)) → Heap.SameBut S s.heap h' → R (.ok (.ret .none)) { s with heap := h' }) :
    codeC (model prog w) A (.builtin "bytearray.extend.end" ⟨[.ref S, it, .ref F], []⟩) R s := by
  refine codeC_builtin (show (!badIds.contains "bytearray.extend.end") = true by decide) be_entry_end ?_
  unfold Builtin.«bytearray.extend.end»
  dsimp only
  refine wpC_bind (wpC_any (wpAny_point ?_))
  refine wpC_then (ba_payload hF ?_)
  refine wpC_of_eq (t' := if (!c.isEmpty) = true then (Bytes.checkResize (.ref S) >>= fun _ => Bytes.write (.ref S) (· ++ c) >>= fun _ => ret .none) else (Bytes.write (.ref S) (· ++ c) >>= fun _ => ret .none)) rfl ?_
  refine wpC_mono (ba_addAtEnd0 (Q := fun fin s' => fin = .done (.ret .none) ∧ R (.ok (.ret .none)) s') hS hz fun h' h1 h2 => ⟨rfl, h h' h1 h2⟩) (fun fin s' hf => by obtain ⟨rfl, r⟩ := hf; exact r) fun _ _ x => x
theorem ext_loop {S F I : Addr} {it : Value} {fp : List Addr} {P : Nat → Value → Prop} {St : Nat → Heap → Prop} {ns : List Int} {b : Array UInt8} (W : Walks prog w A.in1 I fp [I] ns.length P St) (hP : ∀ i v, i < ns.length → P i v → ∃ k t, ns[i]? = some k ∧ v = .int k t) (hr : ∀ n ∈ ns, 0 ≤ n ∧ n < 256)
    (hz : b.size + ns.length ≤ sizeLine) (hFfp : F ∉ fp) (hFI : F ≠ I) (hSI : S ≠ I) (hSF : S ≠ F) :
    ∀ (k i : Nat) (s : Shared), ns.length - i = k → i ≤ ns.length → St i s.heap → s.heap.get? S = some (baOf b) → s.heap.get? F = some (baOf (byteArr (ns.take i))) →
      (∀ h' tk, h'.get? S = some (baOf (b ++ byteArr ns)) → (∀ x o, x ≠ I → x ≠ F → x ≠ S → s.heap.get? x = some o → h'.get? x = some o) → R (.ok (.ret .none)) { s with heap := h', toks := tk }) →
      codeC (model prog w) A (.builtin "bytearray.extend.loop" ⟨[.ref S, it, .ref I, .ref F], []⟩) R s := by
  intro k
  induction k with
  | zero =>
    intro i s hk hle st hS hF hR
    obtain rfl : i = ns.length := by omega
    refine codeC_builtin (show (!badIds.contains "bytearray.extend.loop") = true by decide) be_entry_loop ?_
    rw [Around.under_plainId be_plain_loop _]
    unfold Builtin.«bytearray.extend.loop»
    dsimp only
    refine wpC_then (W.done s _ _ st fun h' tk hk' => ?_)
    dsimp only
    have hS' := hk' S _ (by simpa using hSI) hS
    have hF' := hk' F _ (by simpa using hFI) hF
    rw [List.take_length] at hF'
    refine wpC_pure ⟨plainId_quiet be_plain_end _, ext_end (s := { s with heap := h', toks := tk }) hS' hF' (by rw [byteArr_size]; exact hz) fun h'' h1 h2 => ?_⟩
    exact hR h'' tk h1 fun x o hx1 hx2 hx3 e => (h2.2 x hx3).trans (hk' x o (by simpa using hx1) e)
  | succ k ih =>
    intro i s hk hle st hS hF hR
    have hlt : i < ns.length := by omega
    refine codeC_builtin (show (!badIds.contains "bytearray.extend.loop") = true by decide) be_entry_loop ?_
    rw [Around.under_plainId be_plain_loop _]
    unfold Builtin.«bytearray.extend.loop»
    dsimp only
    refine wpC_then (W.item i s _ _ hlt st fun v h' tk hv st' hk' => ?_)
    obtain ⟨x, t, hx, rfl⟩ := hP i v hlt hv
    obtain ⟨h0, h1⟩ := hr x (List.mem_of_getElem? hx)
    dsimp only
    have hS' := hk' S _ (by simpa using hSI) hS
    have hF' := hk' F _ (by simpa using hFI) hF
    refine wpC_then (wpAny_tryCatch (wpAny_holding ?_))
    unfold Bytes.byteValue
    refine wpAny_bind (wpAny_of_eq (rfl : asIndex (.int x t) = pure x) ?_)
    rw [if_neg (by simp only [Bool.or_eq_true, decide_eq_true_eq]; omega)]
    refine wpAny_pure ?_
    refine wpC_then (wpAny_letGo ?_)
    refine wpC_then (ba_write (f := (·.push x.toNat.toUInt8)) hF' (by rw [Array.size_push, byteArr_size, List.length_take]; omega) fun h'' h2 h3 => ?_)
    rw [← byteArr_take hx] at h2
    refine wpC_pure ⟨plainId_quiet be_plain_loop _, ih (i + 1) { s with heap := h'', toks := tk } (by omega) hlt (W.frame _ _ _ st' fun c hc o e => (h3.2 c (fun e' => hFfp (e' ▸ hc))).trans e) ((h3.2 S hSF).trans hS') h2 fun h3' tk' h4 h5 => ?_⟩
    exact hR h3' tk' h4 fun y o hy1 hy2 hy3 e => h5 y o hy1 hy2 hy3 ((h3.2 y hy2).trans (hk' y o (by simpa using hy1) e))

theorem ext_enter {S : Addr} {v : Value} {b : Array UInt8} {Q : Value → Shared → Prop} (hS : s.heap.get? S = some (baOf b))
    (h : wpC (model prog w) A.in1 (Builtin.«bytearray.extend» ⟨[.ref S, v], []⟩) (fun fin s' => match fin with | .done f => f = .ret .none ∧ Q .none s' | .again c' => c'.quiet = true ∧ codeC (model prog w) A c' (fun r s' => r = .ok (.ret .none) ∧ Q .none s') s') noE s) :
    wpC (model prog w) A (call (.builtin "bytearray.extend") [.ref S, v]) Q E s := by
  refine wpC_call (codeC_mono (codeC_call_builtin_at (R := fun r s' => r = .ok (.ret .none) ∧ Q .none s') (show (!badIds.contains "bytearray.extend") = true by decide) (plainId_quiet be_plain _) be_entry (be_slot.check _ _ _ _ _ _ _ _ ⟨_, hS, rfl⟩ (be_args _ _) ?_)) fun r s' hr => ?_)
  · rw [Around.under_plainId be_plain _]
    refine wpC_mono h (fun fin s' hf => ?_) fun _ _ x => x.elim
    cases fin with
    | done f => obtain ⟨rfl, q⟩ := hf; exact ⟨rfl, q⟩
    | again c' => exact hf
  · obtain ⟨rfl, q⟩ := hr
    exact q

theorem take_bytes {id : String} {c : Array UInt8} {t : Tok} {Q : Option (Array UInt8 × Option Value) → Shared → Prop} (h : Q (some (c, none)) s) : wpAny M A (Bytes.takeBufferQuiet? id (.bytes c t) 0) Q E s := by
  unfold Bytes.takeBufferQuiet? Bytes.takeBuffer?
  refine wpAny_bind (wpAny_attempt ?_)
  refine wpAny_bind (wpAny_of_eq (KBy.special_eq KBy.look_buffer) ?_)
  (try dsimp only)
  refine wpAny_bind (wpAny_of_eq KBy.own_buffer ?_)
  rw [if_neg (by decide)]
  refine wpAny_bind (wpAny_of_eq (KBy.special_eq KBy.look_buffer) ?_)
  (try dsimp only)
  exact wpAny_bind (wpAny_of_eq KBy.buffer_eq (wpAny_pure (wpAny_pure h)))
theorem SameOff.of_but {S : Addr} {h h' : Heap} (e : Heap.SameBut S h h') : SameOff [S] h h' := fun b o q hb => (e.2 b (by simpa using hb)).trans q
theorem ext_bytes {S : Addr} {b c : Array UInt8} {t : Tok} {Q : Value → Shared → Prop} (hS : s.heap.get? S = some (baOf b)) (hz : b.size + c.size ≤ sizeLine)
    (h : ∀ h' tk, h'.get? S = some (baOf (b ++ c)) → SameOff [S] s.heap h' → Q .none { s with heap := h', toks := tk }) : wpC (model prog w) A (call (.builtin "bytearray.extend") [.ref S, .bytes c t]) Q E s := by
  refine ext_enter hS ?_
  unfold Builtin.«bytearray.extend»
  refine wpC_of_eq (t' := (pure (Value.ref S, Value.bytes c t) >>= _)) rfl ?_
  refine wpC_bind (wpC_pure ?_)
  dsimp only
  rw [KBy.special_eq KBy.look_buffer]
  refine wpC_bind (wpC_pure ?_)
  simp only [Option.isSome_some, if_true]
  refine wpC_bind (wpC_rule ?_)
  refine wpC_then (ba_payload hS ?_)
  refine wpC_then (take_bytes ?_)
  dsimp only
  simp only [Option.isNone_none, if_true]
  refine wpC_of_eq (t' := if (!c.isEmpty) = true then (Bytes.checkResize (.ref S) >>= fun _ => Bytes.write (.ref S) (· ++ c) >>= fun _ => ret .none) else (Bytes.write (.ref S) (· ++ c) >>= fun _ => ret .none)) rfl ?_
  exact wpC_mono (ba_addAtEnd0 (Q := fun fin s' => fin = .done (.ret .none) ∧ Q .none s') hS hz fun h' h1 h2 => ⟨rfl, h h' _ h1 (.of_but h2)⟩) (fun fin s' hf => by obtain ⟨rfl, r⟩ := hf; exact ⟨rfl, r⟩) fun _ _ x => x
theorem ba_slotOwn {F : Addr} {c : Array UInt8} {Q : Bool → Shared → Prop} (hF : s.heap.get? F = some (baOf c)) (h : Q true s) : wpAny M A (Bytes.slotIsOwn (.ref F) "__buffer__") Q E s := by
  have hT : s.TypeIs (.ref F) "bytearray" := ⟨_, hF, rfl⟩
  unfold Bytes.slotIsOwn
  refine wpAny_bind (wpAny_specialOf hT be_buffer ?_)
  dsimp only
  rw [if_neg (by rw [be_buf_ends]; decide), be_buf_drop]
  exact wpAny_isInstance hT ba_sub h
theorem buffer_ba {id : String} {F : Addr} {c : Array UInt8} {full : Bool} {Q : Option (Array UInt8) → Shared → Prop} (hF : s.heap.get? F = some (baOf c)) (h : Q (some c) s) : wpAny M A (Bytes.buffer? id (.ref F) full) Q E s := by
  have hT : s.TypeIs (.ref F) "bytearray" := ⟨_, hF, rfl⟩
  unfold Bytes.buffer?
  refine wpAny_bind (wpAny_specialOf hT be_buffer ?_)
  (try dsimp only)
  refine wpAny_bind (ba_slotOwn hF ?_)
  rw [if_neg (by decide)]
  refine wpAny_bind (wpAny_specialOf hT be_buffer ?_)
  (try dsimp only)
  refine wpAny_bind (ba_ownRelease hF ?_)
  rw [if_neg (by decide)]
  exact wpAny_bind (ba_payload hF (wpAny_pure h))
theorem take_ba {id : String} {F : Addr} {c : Array UInt8} {Q : Option (Array UInt8 × Option Value) → Shared → Prop} (hF : s.heap.get? F = some (baOf c)) (h : Q (some (c, none)) s) : wpAny M A (Bytes.takeBufferQuiet? id (.ref F) 0) Q E s := by
  have hT : s.TypeIs (.ref F) "bytearray" := ⟨_, hF, rfl⟩
  unfold Bytes.takeBufferQuiet? Bytes.takeBuffer?
  refine wpAny_bind (wpAny_attempt ?_)
  refine wpAny_bind (wpAny_specialOf hT be_buffer ?_)
  (try dsimp only)
  refine wpAny_bind (ba_slotOwn hF ?_)
  rw [if_neg (by decide)]
  refine wpAny_bind (wpAny_specialOf hT be_buffer ?_)
  (try dsimp only)
  refine wpAny_bind (buffer_ba hF (wpAny_pure (wpAny_pure h)))
theorem ext_ba {S F : Addr} {b c : Array UInt8} {Q : Value → Shared → Prop} (hS : s.heap.get? S = some (baOf b)) (hF : s.heap.get? F = some (baOf c)) (hz : b.size + c.size ≤ sizeLine)
    (h : ∀ h' tk, h'.get? S = some (baOf (b ++ c)) → SameOff [S] s.heap h' → Q .none { s with heap := h', toks := tk }) : wpC (model prog w) A (call (.builtin "bytearray.extend") [.ref S, .ref F]) Q E s := by
  refine ext_enter hS ?_
  have hT : s.TypeIs (.ref F) "bytearray" := ⟨_, hF, rfl⟩
  unfold Builtin.«bytearray.extend»
  refine wpC_of_eq (t' := (pure (Value.ref S, Value.ref F) >>= _)) rfl ?_
  refine wpC_bind (wpC_pure ?_)
  (try dsimp only)
  refine wpC_then (wpAny_specialOf hT be_buffer ?_)
  simp only [Option.isSome_some, if_true]
  refine wpC_bind (wpC_rule ?_)
  refine wpC_then (ba_payload hS ?_)
  refine wpC_then (take_ba hF ?_)
  (try dsimp only)
  simp only [Option.isNone_none, if_true]
  refine wpC_of_eq (t' := if (!c.isEmpty) = true then (Bytes.checkResize (.ref S) >>= fun _ => Bytes.write (.ref S) (· ++ c) >>= fun _ => ret .none) else (Bytes.write (.ref S) (· ++ c) >>= fun _ => ret .none)) rfl ?_
  exact wpC_mono (ba_addAtEnd0 (Q := fun fin s' => fin = .done (.ret .none) ∧ Q .none s') hS hz fun h' h1 h2 => ⟨rfl, h h' _ h1 (.of_but h2)⟩) (fun fin s' hf => by obtain ⟨rfl, r⟩ := hf; exact ⟨rfl, r⟩) fun _ _ x => x
theorem len_list {id : String} {l : Addr} {Q : Unit → Shared → Prop} (hT : s.TypeIs (.ref l) "list") (h : Q () s) : wpAny M A (Bytes.lengthHint id (.ref l)) Q E s := by
  unfold Bytes.lengthHint
  refine wpAny_bind (wpAny_specialOf hT slot_list_len.lookup ?_)
  (try dsimp only)
  rw [be_split]
  (try dsimp only)
  refine wpAny_bind (wpAny_isInstance hT be_sub_list ?_)
  refine bm_if_false rfl ?_
  refine bm_if_true (by decide +kernel) ?_
  exact wpAny_pure h
theorem len_tuple {id : String} {l : Addr} {Q : Unit → Shared → Prop} (hT : s.TypeIs (.ref l) "tuple") (h : Q () s) : wpAny M A (Bytes.lengthHint id (.ref l)) Q E s := by
  unfold Bytes.lengthHint
  refine wpAny_bind (wpAny_specialOf hT be_len_t ?_)
  (try dsimp only)
  rw [be_split_t]
  (try dsimp only)
  refine wpAny_bind (wpAny_isInstance hT be_sub_tuple ?_)
  refine bm_if_false rfl ?_
  refine bm_if_true (by decide +kernel) ?_
  exact wpAny_pure h
theorem ext_seq {S l : Addr} {b : Array UInt8} {vs : List Value} {ns : List Int} {Q : Value → Shared → Prop} {T : String} {io : Obj} {St : Addr → Nat → Heap → Prop} (hS : s.heap.get? S = some (baOf b)) (hT : s.TypeIs (.ref l) T) (hnb : typeLookup (.type T) "__buffer__" = pure none)
    (hit : ∀ (A' : Around) (Q' : Value → Shared → Prop) (E' : Value → Shared → Prop), Q' (.ref s.heap.objs.size) { s with heap := s.heap.push io } → wpAny (model prog w) A' (pyIter (.ref l)) Q' E' s)
    (hlen : ∀ (A' : Around) (s' : Shared) (Q' : Unit → Shared → Prop) (E' : Value → Shared → Prop), s'.TypeIs (.ref l) T → Q' () s' → wpAny (model prog w) A' (Bytes.lengthHint "bytearray.extend" (.ref l)) Q' E' s')
    (W : Walks prog w A.in1 s.heap.objs.size [s.heap.objs.size, l] [s.heap.objs.size] vs.toArray.size (fun i v => vs.toArray[i]? = some v) (St s.heap.objs.size)) (st : ∀ h', (∀ x o, (s.heap.push io).get? x = some o → h'.get? x = some o) → St s.heap.objs.size 0 h')
    (hi : IntsAre vs ns) (hr : ∀ n ∈ ns, 0 ≤ n ∧ n < 256) (hz : b.size + ns.length ≤ sizeLine)
    (h : ∀ h' tk, h'.get? S = some (baOf (b ++ byteArr ns)) → SameOff [S] s.heap h' → Q .none { s with heap := h', toks := tk }) : wpC (model prog w) A (call (.builtin "bytearray.extend") [.ref S, .ref l]) Q E s := by
  refine ext_enter hS ?_
  unfold Builtin.«bytearray.extend»
  refine wpC_of_eq (t' := (pure (Value.ref S, Value.ref l) >>= _)) rfl ?_
  refine wpC_bind (wpC_pure ?_)
  (try dsimp only)
  refine wpC_then (wpAny_specialOf hT hnb ?_)
  simp only [Option.isSome_none, Bool.false_eq_true, if_false]
  refine wpC_then (wpAny_tryCatch (hit _ _ _ ?_))
  have hT₁ : ({ s with heap := s.heap.push io } : Shared).TypeIs (.ref l) T := by
    obtain ⟨o, ho, hc⟩ := hT
    exact ⟨o, Heap.get?_push_of_some _ ho, hc⟩
  refine wpC_then (wpAny_holding (hlen _ _ _ _ hT₁ ?_))
  refine wpC_then ?_
  unfold Bytes.newBytearray
  refine wpAny_newObj_type ?_
  have hlt := Heap.lt_size hS
  obtain ⟨ol, hol, _⟩ := hT
  have hltl := Heap.lt_size hol
  have hz' : ns.length = vs.toArray.size := by rw [List.size_toArray]; exact hi.length.symm
  rw [← hz'] at W
  refine wpC_pure ⟨plainId_quiet be_plain_loop _, ext_loop (F := (s.heap.push io).objs.size) (b := b) (ns := ns) W (fun i v hi' hv => ?_) hr hz (by
      rw [Heap.size_push]; intro hm
      rcases List.mem_cons.mp hm with e | hm
      · exact absurd e (Nat.succ_ne_self _)
      · exact absurd (List.mem_singleton.mp hm) (Nat.ne_of_gt (Nat.lt_succ_of_lt hltl))) (by rw [Heap.size_push]; exact Nat.succ_ne_self _) (Nat.ne_of_lt hlt) (by rw [Heap.size_push]; exact Nat.ne_of_lt (Nat.lt_succ_of_lt hlt)) ns.length 0 _ (by omega) (Nat.zero_le _) (st _ fun x o e => Heap.get?_push_of_some _ e) (Heap.get?_push_of_some _ (Heap.get?_push_of_some _ hS)) (Heap.get?_push_size _ rfl) fun h' tk h1 h2 => ?_⟩
  · rw [List.getElem?_toArray] at hv
    obtain ⟨n, t, e, hn⟩ := IntsAre.at hi i v hv
    exact ⟨n, t, hn, e⟩
  · refine ⟨rfl, h h' tk h1 fun x o e hx => ?_⟩
    have hltx := Heap.lt_size e
    exact h2 x o (Nat.ne_of_lt hltx) (by rw [Heap.size_push]; exact Nat.ne_of_lt (Nat.lt_succ_of_lt hltx)) (by simpa using hx) (Heap.get?_push_of_some _ (Heap.get?_push_of_some _ e))
theorem ext_list {S l : Addr} {b : Array UInt8} {vs : List Value} {ns : List Int} {Q : Value → Shared → Prop} (hh : A.handled = none) (hS : s.heap.get? S = some (baOf b)) (hl : s.heap.IsList l vs.toArray) (hi : IntsAre vs ns) (hr : ∀ n ∈ ns, 0 ≤ n ∧ n < 256) (hz : b.size + ns.length ≤ sizeLine)
    (h : ∀ h' tk, h'.get? S = some (baOf (b ++ byteArr ns)) → SameOff [S] s.heap h' → Q .none { s with heap := h', toks := tk }) : wpC (model prog w) A (call (.builtin "bytearray.extend") [.ref S, .ref l]) Q E s := by
  obtain ⟨o, ho, _⟩ := id hl
  have hlt := Heap.lt_size ho
  exact ext_seq (io := { cls := .type "list_iterator", data := .fields #[.ref l, .int 0 0] }) (St := fun I i h => h.IsListIter I l i ∧ h.IsList l vs.toArray) hS hl.typeIs li_no_buffer (fun A' Q' E' q => wpAny_pyIter_list hl q) (fun A' s' Q' E' hT q => len_list hT q) (Walks.list (A := A.in1) (by exact hh) _ l (Nat.ne_of_lt hlt) _)
    (fun h' hk => ⟨⟨_, hk _ _ (Heap.get?_push_size _ rfl), rfl, rfl⟩, hl.at fun o e => hk _ _ (Heap.get?_push_of_some _ e)⟩) hi hr hz h
theorem ext_tuple {S l : Addr} {b : Array UInt8} {vs : List Value} {ns : List Int} {Q : Value → Shared → Prop} (hh : A.handled = none) (hS : s.heap.get? S = some (baOf b)) (hl : s.heap.IsTuple l vs.toArray) (hi : IntsAre vs ns) (hr : ∀ n ∈ ns, 0 ≤ n ∧ n < 256) (hz : b.size + ns.length ≤ sizeLine)
    (h : ∀ h' tk, h'.get? S = some (baOf (b ++ byteArr ns)) → SameOff [S] s.heap h' → Q .none { s with heap := h', toks := tk }) : wpC (model prog w) A (call (.builtin "bytearray.extend") [.ref S, .ref l]) Q E s := by
  obtain ⟨o, ho, _⟩ := id hl
  have hlt := Heap.lt_size ho
  exact ext_seq (io := { cls := .type "tuple_iterator", data := .fields #[.ref l, .int 0 0] }) (St := fun I i h => h.IsTupleIter I l i ∧ h.IsTuple l vs.toArray) hS hl.typeIs tu_no_buffer (fun A' Q' E' q => wpAny_pyIter_tuple hl q) (fun A' s' Q' E' hT q => len_tuple hT q) (Walks.tuple (A := A.in1) (by exact hh) _ l (Nat.ne_of_lt hlt) _)
    (fun h' hk => ⟨⟨_, hk _ _ (Heap.get?_push_size _ rfl), rfl, rfl⟩, hl.at fun o e => hk _ _ (Heap.get?_push_of_some _ e)⟩) hi hr hz h
end
end Mine
end BePart

section BlPart
set_option maxRecDepth 100000
set_option maxHeartbeats 4000000
namespace Mine
open PySem PySem.W PySem.Calls PySem.Spec PyProof.Rows Builtin
open Sem (wp)

theorem ints_of_bytes : ∀ (bs : List UInt8) (vs : List Value), vs.length = bs.length → (∀ (i : Nat) (v : Value), vs[i]? = some v → ∃ (c : UInt8) (u : Tok), bs[i]? = some c ∧ v = Value.int (c.toNat : Int) u) → IntsAre vs (bs.map fun c => (c.toNat : Int))
  | [], [], _, _ => .nil
  | [], _ :: _, e, _ => nomatch e
  | _ :: _, [], e, _ => nomatch e
  | c :: bs, v :: vs, e, h => by
    obtain ⟨c', u, hc, rfl⟩ := h 0 v rfl
    obtain rfl : c = c' := Option.some.inj hc
    exact .cons _ _ (ints_of_bytes bs vs (by simpa using e) fun i v hv => h (i + 1) v hv)

theorem bl_slot_next : Slot "bytearray_iterator" "__next__" "bytearray_iterator.__next__" :=
  .of (owner := "bytearray_iterator") (n := "__next__") (by rw [typeLookup_type, builtinLookup_eq_fast]; kernel_rfl) (by decide +kernel) (by decide +kernel) (by decide +kernel)
    (by first | exact .inl (by decide +kernel) | exact .inr (by decide +kernel)) (by rw [isSubtype_type]; kernel_rfl)
theorem bl_slot_iter : Slot "bytearray" "__iter__" "bytearray.__iter__" :=
  .of (owner := "bytearray") (n := "__iter__") (by rw [typeLookup_type, builtinLookup_eq_fast]; kernel_rfl) (by decide +kernel) (by decide +kernel) (by decide +kernel)
    (by first | exact .inl (by decide +kernel) | exact .inr (by decide +kernel)) (by rw [isSubtype_type]; kernel_rfl)
theorem bl_slot_self : Slot "bytearray_iterator" "__iter__" "bytearray_iterator.__iter__" :=
  .of (owner := "bytearray_iterator") (n := "__iter__") (by rw [typeLookup_type, builtinLookup_eq_fast]; kernel_rfl) (by decide +kernel) (by decide +kernel) (by decide +kernel)
    (by first | exact .inl (by decide +kernel) | exact .inr (by decide +kernel)) (by rw [isSubtype_type]; kernel_rfl)
theorem bl_entry_next : entryFor table "bytearray_iterator.__next__" = some Builtin.«bytearray_iterator.__next__» := entryFor_of_tree (by kernel_rfl)
theorem bl_entry_iter : entryFor table "bytearray.__iter__" = some Builtin.«bytearray.__iter__» := entryFor_of_tree (by kernel_rfl)
theorem bl_entry_self : entryFor table "bytearray_iterator.__iter__" = some Builtin.«dict_keyiterator.__iter__» := entryFor_alias (id' := "dict_keyiterator.__iter__") (by kernel_rfl) rfl (by decide +kernel) (by kernel_rfl)
theorem bl_args_next (a : Value) : argsOk "bytearray_iterator.__next__" ⟨[a], []⟩ := by unfold argsOk; kernel_rfl
theorem bl_args_iter (a : Value) : argsOk "bytearray.__iter__" ⟨[a], []⟩ := by unfold argsOk; kernel_rfl
theorem bl_args_self (a : Value) : argsOk "bytearray_iterator.__iter__" ⟨[a], []⟩ := by unfold argsOk; kernel_rfl
theorem bl_look_len : typeLookup (.type "bytearray") "__len__" = pure (some (.builtin "bytearray.__len__")) := by rw [typeLookup_type, builtinLookup_eq_fast]; kernel_rfl
theorem bl_look_blen : typeLookup (.type "bytes") "__len__" = pure (some (.builtin "bytes.__len__")) := by rw [typeLookup_type, builtinLookup_eq_fast]; kernel_rfl
theorem bl_split : splitId "bytearray.__len__" = some ("bytearray", "__len__") := by decide +kernel
theorem bl_bsplit : splitId "bytes.__len__" = some ("bytes", "__len__") := by decide +kernel
theorem bl_bsub : isSubtype (.type "bytes") (.type "bytes") = pure true := by rw [isSubtype_type]; kernel_rfl

def IsBaIter (h : Heap) (a F : Addr) (b : Array UInt8) (i : Nat) : Prop := (∃ o, h.get? a = some o ∧ o.cls = .type "bytearray_iterator" ∧ o.data = .fields #[.ref F, .int i 0]) ∧ h.get? F = some (baOf b)
theorem baIter_typeIs {s : Shared} {a F : Addr} {b : Array UInt8} {i : Nat} (y : IsBaIter s.heap a F b i) : s.TypeIs (.ref a) "bytearray_iterator" :=
  let ⟨⟨o, ho, hc, _⟩, _⟩ := y; ⟨o, ho, hc⟩

section
variable {prog : Program} {w : World} {A : Around} {E : Value → Shared → Prop} {s : Shared}
theorem pyIter_ba {F : Addr} {b : Array UInt8} {Q : Value → Shared → Prop} (hF : s.heap.get? F = some (baOf b)) (hQ : Q (.ref s.heap.objs.size) { s with heap := s.heap.push { cls := .type "bytearray_iterator", data := .fields #[.ref F, .int 0 0] } }) : wpAny (model prog w) A (pyIter (.ref F)) Q E s := by
  have hT : s.TypeIs (.ref F) "bytearray" := ⟨_, hF, rfl⟩
  refine wpAny_pyIter_slot hT bl_slot_iter (wpAny_call_entry bl_slot_iter hT bl_entry_iter ?_ (bl_args_iter _))
  show wpAny _ _ (do ret (← newFields "bytearray_iterator" [.ref F, rawInt 0])) _ _ s
  exact wpAny_bind (wpAny_newObj_type (wpAny_pure ⟨_, rfl, "bytearray_iterator", _, ⟨_, Heap.get?_push_size _ rfl, rfl⟩, bl_slot_next.lookup, hQ⟩))
theorem pyIter_baSelf {F it : Addr} {b : Array UInt8} {i : Nat} {Q : Value → Shared → Prop} (hit : IsBaIter s.heap it F b i) (h : Q (.ref it) s) : wpAny (model prog w) A (pyIter (.ref it)) Q E s := by
  refine wpAny_pyIter_slot (baIter_typeIs hit) bl_slot_self (wpAny_call_entry bl_slot_self (baIter_typeIs hit) bl_entry_self ?_ (bl_args_self _))
  show wpAny _ _ (ret (.ref it)) _ _ s
  exact wpAny_pure ⟨_, rfl, "bytearray_iterator", _, baIter_typeIs hit, bl_slot_next.lookup, h⟩
theorem ba_next_item {F it : Addr} {b : Array UInt8} {i : Nat} {c : UInt8} {Q : Option Value → Shared → Prop} (hne : F ≠ it) (hit : IsBaIter s.heap it F b i) (hx : b[i]? = some c)
    (hQ : ∀ h', IsBaIter h' it F b (i + 1) → Heap.SameBut it s.heap h' → Q (some (.int (c.toNat : Int) s.toks)) { s with heap := h', toks := s.toks + 1 }) : wpAny (model prog w) A (pyNext (.ref it)) Q E s := by
  obtain ⟨⟨o, ho, hc, hd⟩, hF⟩ := id hit
  unfold pyNext
  refine wpAny_bind (wpAny_attempt (wpAny_callSpecial?_slot (name := PySem.Str.ofString "__next__") (baIter_typeIs hit) bl_slot_next
    (wpAny_call_entry bl_slot_next (baIter_typeIs hit) bl_entry_next ?_ (bl_args_next _))))
  show wpAny _ _ (field (.ref it) 0 >>= _) _ _ s
  refine wpAny_bind (wpAny_field ho hd (x := .ref F) rfl ?_)
  dsimp only
  refine wpAny_bind (wpAny_load hF ?_)
  dsimp only
  show wpAny _ _ (field (.ref it) 1 >>= _) _ _ s
  refine wpAny_bind (wpAny_field ho hd (x := .int i 0) rfl ?_)
  simp only [Int.toNat_natCast, hx]
  refine wpAny_bind (wpAny_setField ho hd (by simp) (wpAny_bind (wpAny_mkInt (wpAny_pure ⟨_, rfl, wpAny_pure (hQ _ ?_ (Heap.SameBut.update ..))⟩))))
  exact ⟨⟨_, Heap.get?_update_self _ ho (Obj.isFreed_of_fields (Obj.data_mapFields hd _)), (Obj.cls_mapFields ..).trans hc, by
    rw [Obj.data_mapFields hd]; simp [rawInt]⟩, (Heap.get?_update_other _ _ (Ne.symm hne)).trans hF⟩
theorem ba_next_end {F it : Addr} {b : Array UInt8} {i : Nat} {Q : Option Value → Shared → Prop} (hne : F ≠ it) (hh : A.handled = none) (hit : IsBaIter s.heap it F b i) (hx : b[i]? = none)
    (hQ : ∀ h', Heap.ExtBut it s.heap h' → Q none { s with heap := h' }) : wpAny (model prog w) A (pyNext (.ref it)) Q E s := by
  obtain ⟨⟨o, ho, hc, hd⟩, hF⟩ := id hit
  unfold pyNext
  refine wpAny_bind (wpAny_attempt (wpAny_callSpecial?_slot (name := PySem.Str.ofString "__next__") (baIter_typeIs hit) bl_slot_next
    (wpAny_call_entry bl_slot_next (baIter_typeIs hit) bl_entry_next ?_ (bl_args_next _))))
  show wpAny _ _ (field (.ref it) 0 >>= _) _ _ s
  refine wpAny_bind (wpAny_field ho hd (x := .ref F) rfl ?_)
  dsimp only
  refine wpAny_bind (wpAny_load hF ?_)
  dsimp only
  show wpAny _ _ (field (.ref it) 1 >>= _) _ _ s
  refine wpAny_bind (wpAny_field ho hd (x := .int i 0) rfl ?_)
  simp only [Int.toNat_natCast, hx]
  refine wpAny_bind (wpAny_rule (wpAny_bind (wpAny_setField ho hd (by simp) (wpAny_bind (wpAny_letGo ?_)))))
  show wpAny _ _ (newExc (.type "StopIteration") [] >>= _) _ _ _
  refine wpAny_bind ?_
  simp only [newExc, newTuple]
  refine wpAny_bind (wpAny_newObj_type ?_ (by size_fits))
  refine wpAny_bind (m := firstArgMember _ _) (wpAny_of_eq (a := Value.none) (by first | rfl | (simp only [firstArgMember]; rfl)) ?_)
  refine wpAny_newObj_type ?_ (by size_fits)
  simp only [raiseNew]
  refine wpAny_bind (wpAny_handled ?_)
  rw [show A.in1.handled = none from hh]
  refine wpAny_bind (wpAny_pure (wpAny_throw ?_))
  refine wpAny_bind (wpAny_isInstance (T := "StopIteration") (b := true) ⟨_, Heap.get?_push_size _ rfl, rfl⟩ isSubtype_stop ?_)
  exact wpAny_pure (hQ _ (((Heap.SameBut.update ..).extBut.push _).push _))
end

abbrev AtB (b : Array UInt8) (i : Nat) (v : Value) : Prop := ∃ (c : UInt8) (u : Tok), b[i]? = some c ∧ v = .int (c.toNat : Int) u
theorem ba_walks {prog : Program} {w : World} {A : Around} (hh : A.handled = none) (I F : Addr) (hne : F ≠ I) (b : Array UInt8) :
    Walks prog w A I [I, F] [I] b.size (AtB b) (fun i h => IsBaIter h I F b i) where
  sub := fun x hb => by simp at hb; simp [hb]
  frame := fun _ _ _ st hk => let ⟨⟨o, ho, r⟩, hF⟩ := st; ⟨⟨o, hk I (by simp) o ho, r⟩, hk F (by simp) _ hF⟩
  item := fun i s Q E hi st hQ => by
    refine ba_next_item hne st (c := b[i]) (by simp [hi]) fun h' hit' hs' => ?_
    exact hQ _ h' (s.toks + 1) ⟨_, _, by simp [hi], rfl⟩ hit' fun b o hb e => hs'.extBut b o (fun h => hb (by simp [h])) e
  done := fun s Q E st hQ => ba_next_end hne hh st (by simp) fun h' he' => hQ h' s.toks fun b o hb e => he' b o (fun h => hb (by simp [h])) e
  self := fun _ _ _ _ st hQ => pyIter_baSelf st hQ

section
variable {prog : Program} {w : World} {A : Around} {E : Value → Shared → Prop} {s : Shared}
theorem lo_extend {R : Result → Shared → Prop} {v : Value} {T : String} {io : Obj} {b : Array UInt8} {fp : List Addr} {St : Nat → Heap → Prop} (S : Addr) (c₀ : Nat) (hS : s.heap.get? S = some { cls := .type "list", data := .seq #[] c₀ })
    (hT : s.TypeIs v T) (hT2 : T = "bytes" ∨ T = "bytearray") (hsame : Builtin.List.listSameRef (.ref S) v = false)
    (hit : ∀ (Q' : Value → Shared → Prop) (E' : Value → Shared → Prop), Q' (.ref s.heap.objs.size) { s with heap := s.heap.push io } → wpAny (model prog w) A.in1 (pyIter v) Q' E' s)
    (hlen : ∀ (s' : Shared) (Q' : Bool → Shared → Prop) (E' : Value → Shared → Prop), (∀ a o, s.heap.get? a = some o → s'.heap.get? a = some o) → Q' false s' → wpAny (model prog w) A.in1 (Builtin.List.listLengthHint v) Q' E' s')
    (W : Walks prog w A.in1 s.heap.objs.size fp [s.heap.objs.size] b.size (AtB b) St) (st : ∀ h', (∀ x o, (s.heap.push io).get? x = some o → h'.get? x = some o) → St 0 h') (hSf : S ∉ fp) (hz : b.size ≤ 1000)
    (hR : ∀ h' tk acc' c', (∀ b o, b ≠ S → s.heap.get? b = some o → h'.get? b = some o) → h'.get? S = some { cls := .type "list", dict := none, data := .seq acc' c', slots := #[] } →
      ItemsOf (AtB b) acc' b.size → R (.ok (.ret .none)) { s with heap := h', toks := tk }) :
    wpAny (model prog w) A.in1 (Builtin.List.listExtendWith (.ref S) v .none)
      (fun fin s' => match fin with | .done f => R (.ok f) s' | .again c' => c'.quiet = true ∧ codeAny (model prog w) A c' R s') (fun e s' => R (.error e) s') s := by
  unfold Builtin.List.listExtendWith
  refine wpAny_bind (wpAny_typeOf hT ?_)
  have hn1 : (Value.type T == Value.type "list") = false := by rcases hT2 with rfl | rfl <;> decide
  have hn2 : (Value.type T == Value.type "tuple") = false := by rcases hT2 with rfl | rfl <;> decide
  simp only [hsame, hn1, hn2, Bool.or_false, Bool.false_eq_true, if_false]
  refine wpAny_bind (hit _ _ ?_)
  refine wpAny_bind (wpAny_holding (hlen _ _ _ (fun a o e => Heap.get?_push_of_some _ e) ?_))
  rw [if_neg (by rcases hT2 with rfl | rfl <;> decide)]
  refine wpAny_pure ⟨plainId_quiet F.plain_extend_loop _, codeAny_extend_loopS W.toS (by rw [sizeLine_eq]; omega) _ hSf _ b.size 0 _ _ _ rfl (Nat.zero_le _) (st _ fun x o e => e) (Heap.get?_push_of_some _ hS) (ItemsOf.nil _) fun s' acc' c' hm hS' hacc => ?_⟩
  rw [Moved.eq_with hm]
  refine hR s'.heap s'.toks acc' c' (fun b ob hb e => hm.heap b ob (fun hmem => ?_) (Heap.get?_push_of_some _ e)) hS' hacc
  rcases List.mem_cons.mp hmem with e' | hmem
  · exact hb e'
  · exact absurd (Heap.lt_size e) (by rw [List.mem_singleton.mp hmem]; exact Nat.lt_irrefl _)
theorem hint_ba {F : Addr} {b : Array UInt8} {Q : Bool → Shared → Prop} (hF : s.heap.get? F = some (baOf b)) (h : Q false s) : wpAny (model prog w) A (Builtin.List.listLengthHint (.ref F)) Q E s := by
  have hT : s.TypeIs (.ref F) "bytearray" := ⟨_, hF, rfl⟩
  unfold Builtin.List.listLengthHint
  refine wpAny_bind (wpAny_specialOf hT bl_look_len ?_)
  dsimp only
  rw [bl_split]
  dsimp only
  refine wpAny_bind (wpAny_isInstance hT ba_sub ?_)
  refine bm_if_false rfl ?_
  refine bm_if_true (by decide +kernel) ?_
  refine wpAny_bind (wpAny_typeOf hT ?_)
  exact wpAny_pure h
theorem hint_bytes {b : Array UInt8} {t : Tok} {Q : Bool → Shared → Prop} (h : Q false s) : wpAny (model prog w) A (Builtin.List.listLengthHint (.bytes b t)) Q E s := by
  have hT : s.TypeIs (.bytes b t) "bytes" := typeIs_bytes s b t
  unfold Builtin.List.listLengthHint
  refine wpAny_bind (wpAny_specialOf hT bl_look_blen ?_)
  dsimp only
  rw [bl_bsplit]
  dsimp only
  refine wpAny_bind (wpAny_isInstance hT bl_bsub ?_)
  refine bm_if_false rfl ?_
  refine bm_if_true (by decide +kernel) ?_
  refine wpAny_bind (wpAny_typeOf hT ?_)
  exact wpAny_pure h

theorem lo_init {R : Result → Shared → Prop} {v : Value} {b : Array UInt8} (S : Addr) (hS : s.heap.get? S = some { cls := .type "list", data := .seq #[] })
    (hx : ∀ (s₁ : Shared) (c₀ : Nat) (R : Result → Shared → Prop), (∀ a o, a ≠ S → s.heap.get? a = some o → s₁.heap.get? a = some o) → s₁.heap.get? S = some { cls := .type "list", data := .seq #[] c₀ } →
      (∀ h' tk acc' c', (∀ b o, b ≠ S → s₁.heap.get? b = some o → h'.get? b = some o) → h'.get? S = some { cls := .type "list", dict := none, data := .seq acc' c', slots := #[] } → ItemsOf (AtB b) acc' b.size → R (.ok (.ret .none)) { s₁ with heap := h', toks := tk }) →
      wpAny (model prog w) A.in1 (Builtin.List.listExtendWith (.ref S) v .none) (fun fin s' => match fin with | .done f => R (.ok f) s' | .again c' => c'.quiet = true ∧ codeAny (model prog w) A c' R s') (fun e s' => R (.error e) s') s₁)
    (hR : ∀ h' tk acc' c', (∀ b o, b ≠ S → s.heap.get? b = some o → h'.get? b = some o) → h'.get? S = some { cls := .type "list", dict := none, data := .seq acc' c', slots := #[] } →
      ItemsOf (AtB b) acc' b.size → R (.ok (.ret .none)) { s with heap := h', toks := tk }) :
    wpAny (model prog w) A.in1 (Builtin.«list.__init__» ⟨[.ref S, v], []⟩)
      (fun fin s' => match fin with | .done f => R (.ok f) s' | .again c' => c'.quiet = true ∧ codeAny (model prog w) A c' R s') (fun e s' => R (.error e) s') s := by
  show wpAny _ _ (do let old ← Builtin.List.listItems (.ref S); Builtin.List.listUpdate (.ref S) (fun _ => #[]); letGo old.toList.reverse; Builtin.List.listExtendWith (.ref S) v .none) _ _ s
  refine wpAny_bind ?_
  unfold Builtin.List.listItems
  refine wpAny_bind (wpAny_seqItems hS rfl (wpAny_pure ?_))
  show wpAny _ _ (updateSeq S (fun _ => #[]) >>= fun _ => letGo (#[] : Array Value).toList.reverse >>= fun _ => Builtin.List.listExtendWith (.ref S) v .none) _ _ s
  refine wpAny_bind (wpAny_updateSeq hS rfl ?_)
  have hS₂ := Heap.get?_update_self (Obj.mapSeq (fun _ => (#[] : Array Value))) hS rfl
  have oth : ∀ b o, b ≠ S → s.heap.get? b = some o → (s.heap.update S (Obj.mapSeq (fun _ => (#[] : Array Value)))).get? b = some o :=
    fun b o hb e => (Heap.get?_update_other _ _ (Ne.symm hb)).trans e
  refine wpAny_bind (wpAny_letGo ?_)
  refine hx _ _ _ oth hS₂ fun h' tk acc' c' hk hS' hacc => ?_
  exact hR h' tk acc' c' (fun b o hb e => hk b o hb (oth b o hb e)) hS' hacc

theorem lo_call {v : Value} {b : Array UInt8} {Q : Value → Shared → Prop} {h₀ : Heap} {L : Addr} {m : Str → Option Value} {news : List (Addr × Obj)} (F : Fr h₀ L s.heap m) (N : News h₀ L s.heap news)
    (hx : ∀ (s₁ : Shared) (c₀ : Nat) (R : Result → Shared → Prop), (∀ a o, s.heap.get? a = some o → s₁.heap.get? a = some o) → s₁.heap.get? s.heap.objs.size = some { cls := .type "list", data := .seq #[] c₀ } →
      (∀ h' tk acc' c', (∀ b o, b ≠ s.heap.objs.size → s₁.heap.get? b = some o → h'.get? b = some o) → h'.get? s.heap.objs.size = some { cls := .type "list", dict := none, data := .seq acc' c', slots := #[] } → ItemsOf (AtB b) acc' b.size → R (.ok (.ret .none)) { s₁ with heap := h', toks := tk }) →
      wpAny (model prog w) A.in1.in1 (Builtin.List.listExtendWith (.ref s.heap.objs.size) v .none) (fun fin s' => match fin with | .done f => R (.ok f) s' | .again c' => c'.quiet = true ∧ codeAny (model prog w) A.in1 c' R s') (fun e s' => R (.error e) s') s₁)
    (h : ∀ D us c h' tk, Fr h₀ L h' m → News h₀ L h' ((D, listOf (List.toArray us) c) :: news) → (∀ p ∈ news, p.1 < D) → IntsAre us (KBw.bInts b) → Q (.ref D) { s with heap := h', toks := tk }) :
    wpAny (model prog w) A (call (.type "list") [v]) Q E s := by
  refine callType_codes (Q₁ := fun obj s₁ => obj = .ref s.heap.objs.size ∧ s₁ = { s with heap := s.heap.push { cls := .type "list", data := .seq #[] } }) PySem.F.called_list (PySem.F.typeCall_list_1 _) PySem.F.entry_list_init
    (code_list_new _ ⟨rfl, rfl⟩) fun obj s₁ h₁ => ?_
  obtain ⟨rfl, rfl⟩ := h₁
  have hS : (s.heap.push { cls := .type "list", data := .seq #[] }).get? s.heap.objs.size = some { cls := .type "list", data := .seq #[] } := Heap.get?_push_size _ rfl
  refine ⟨⟨_, hS, rfl⟩, PySem.F.args_list_init_2 _ _, lo_init (A := A.in1) _ hS (fun s₁ c₀ R hk hS' hr => hx s₁ c₀ R (fun a o e => hk a o (Nat.ne_of_lt (Heap.lt_size e)) (Heap.get?_push_of_some _ e)) hS' hr) fun h' tk acc' c' hk hS' hacc => ?_⟩
  have hk' : ∀ b o, s.heap.get? b = some o → h'.get? b = some o := fun b o e => hk b o (Nat.ne_of_lt (Heap.lt_size e)) (Heap.get?_push_of_some _ e)
  have hD' : h'.get? s.heap.objs.size = some (listOf (List.toArray acc'.toList) c') := by rw [Array.toArray_toList]; exact hS'
  refine ⟨rfl, h _ acc'.toList c' h' tk (Fr.keeps ‹Fr h₀ L s.heap m› hk') (news_pushed ‹Fr h₀ L s.heap m› N hk' hD' rfl) (fun p hp => Heap.lt_size (N p hp).1) ?_⟩
  refine ints_of_bytes _ _ (by rw [Array.length_toList, Array.length_toList]; exact hacc.1) fun j v hj => ?_
  obtain ⟨c, u, hc, e⟩ := hacc.2 j v (by rw [← hj, Array.getElem?_toList])
  exact ⟨c, u, by rw [Array.getElem?_toList]; exact hc, e⟩
end

section
variable {prog : Program} {w : World} {A : Around} {E : Value → Shared → Prop} {s : Shared} {b : Array UInt8} {t : Tok} {Q : Value → Shared → Prop} {h₀ : Heap} {L : Addr} {m : Str → Option Value} {news : List (Addr × Obj)}
theorem list_bytes (hh : A.handled = none) (F : Fr h₀ L s.heap m) (N : News h₀ L s.heap news) (hz : b.size ≤ 1000)
    (h : ∀ D us c h' tk, Fr h₀ L h' m → News h₀ L h' ((D, listOf (List.toArray us) c) :: news) → (∀ p ∈ news, p.1 < D) → IntsAre us (KBw.bInts b) → Q (.ref D) { s with heap := h', toks := tk }) :
    wpAny (model prog w) A (call (.type "list") [.bytes b t]) Q E s := by
  refine lo_call F N (fun s₁ c₀ R hk hS hr => ?_) h
  have hlt := Heap.lt_size hS
  exact lo_extend (io := { cls := .type "bytes_iterator", data := .fields #[.bytes b t, .int 0 0] }) (A := A.in1) _ c₀ hS (typeIs_bytes s₁ b t) (.inl rfl) rfl (fun Q' E' q => KBw.pyIter_bytes q) (fun s' Q' E' _ q => hint_bytes q) (KBw.walks (A := A.in1.in1) (by exact hh) _ b t)
    (fun h' hk => ⟨_, hk _ _ (Heap.get?_push_size _ rfl), rfl, rfl⟩) (by intro hm; exact absurd (List.mem_singleton.mp hm) (Nat.ne_of_lt hlt)) hz hr
theorem list_ba {D : Addr} (hh : A.handled = none) (F : Fr h₀ L s.heap m) (N : News h₀ L s.heap news) (hD : (D, baOf b) ∈ news) (hz : b.size ≤ 1000)
    (h : ∀ D us c h' tk, Fr h₀ L h' m → News h₀ L h' ((D, listOf (List.toArray us) c) :: news) → (∀ p ∈ news, p.1 < D) → IntsAre us (KBw.bInts b) → Q (.ref D) { s with heap := h', toks := tk }) :
    wpAny (model prog w) A (call (.type "list") [.ref D]) Q E s := by
  have hD₀ := (N _ hD).1
  refine lo_call F N (fun s₁ c₀ R hk hS hr => ?_) h
  have hlt := Heap.lt_size hS
  have hD₁ := hk _ _ hD₀
  have hltD := Heap.lt_size hD₁
  have hne : s.heap.objs.size ≠ D := (Nat.ne_of_lt (Heap.lt_size hD₀)).symm
  refine lo_extend (io := { cls := .type "bytearray_iterator", data := .fields #[.ref D, .int 0 0] }) (A := A.in1) _ c₀ hS (T := "bytearray") ⟨_, hD₁, rfl⟩ (.inr rfl) ?_ (fun Q' E' q => pyIter_ba hD₁ q) (fun s' Q' E' hk' q => hint_ba (hk' _ _ hD₁) q) (ba_walks (A := A.in1.in1) (by exact hh) _ D (Nat.ne_of_lt hltD) b)
    (fun h' hk => ⟨⟨_, hk _ _ (Heap.get?_push_size _ rfl), rfl, rfl⟩, hk _ _ (Heap.get?_push_of_some _ hD₁)⟩) (by
      intro hm
      rcases List.mem_cons.mp hm with e | hm
      · exact absurd e (Nat.ne_of_lt hlt)
      · exact hne (List.mem_singleton.mp hm)) hz hr
  simp only [Builtin.List.listSameRef, beq_eq_false_iff_ne]
  exact hne
end
end Mine
end BlPart

section SmPart
set_option maxRecDepth 100000
set_option maxHeartbeats 8000000
namespace Mine
open PySem PySem.W PySem.Calls PySem.Spec PyProof.Rows
theorem SameOff.same {h₀ h₁ h h' : Heap} {L L' : Addr} {news : List (Addr × Obj)} (S : SameOff (news.map (·.1)) h h') (N : News h₀ L h news) (N' : News h₁ L' h' news) : SameOff [] h h' := fun b o e _ => by
  by_cases hb : b ∈ news.map (·.1)
  · obtain ⟨p, hp, rfl⟩ := List.mem_map.mp hb
    rw [(N p hp).1] at e
    cases e
    exact (N' p hp).1
  · exact S b o e hb
theorem SameOff.news {h₀ h h' : Heap} {L : Addr} {news : List (Addr × Obj)} (S : SameOff [] h h') (N : News h₀ L h news) : News h₀ L h' news := fun p hp => ⟨S _ _ (N p hp).1 (by simp), (N p hp).2⟩

local macro_rules | `(tactic| walk_at "no such step Sm 0") => `(tactic| fail "no")
local macro_rules | `(tactic| walk_at "compareOp NotEq ref ref") => `(tactic| (k_here; k_dflt (refine' ne_ints ?N ?ha ?hb ?hi ?hi' ?hu ?e ?_; (case N => k_asm); (case ha => k_mem); (case hb => k_mem); (case hi => (first | with_reducible assumption | exact IntsAre.nil | exact IntsAre.cons _ _ (by with_reducible assumption))); (case hi' => (first | with_reducible assumption | exact IntsAre.nil | exact IntsAre.cons _ _ (by with_reducible assumption))); (case hu => ktr_units); (case e => simp); k_whole)))
local macro_rules | `(tactic| walk_at "compareOp Eq ref ref") => `(tactic| (k_here; k_dflt (refine' eq_ints ?N ?ha ?hb ?hi ?hi' ?hu ?e ?_; (case N => k_asm); (case ha => k_mem); (case hb => k_mem); (case hi => (first | with_reducible assumption | exact IntsAre.nil | exact IntsAre.cons _ _ (by with_reducible assumption))); (case hi' => (first | with_reducible assumption | exact IntsAre.nil | exact IntsAre.cons _ _ (by with_reducible assumption))); (case hu => ktr_units); (case e => simp); k_whole)))

local macro_rules | `(tactic| walk_at "call type:list") => `(tactic| (k_here; (with_reducible show wpAny _ _ (call (Value.type _) [Value.bytes _ _]) _ _ _); k_dflt (refine' list_bytes ?hh ?F ?N ?z ?_; (case hh => exact rfl); (case F => k_asm); (case N => k_asm); (case z => first | assumption | omega); k_whole); intro D' us' c' h' tk' F' N' l1' hi'; (try k_lt l1'); (try k_sweep)))
local macro_rules | `(tactic| walk_at "call type:list") => `(tactic| (k_here; (with_reducible show wpAny _ _ (call (Value.type _) [Value.ref _]) _ _ _); k_dflt (refine' list_ba ?hh ?F ?N ?D ?z ?_; (case F => k_asm); (case N => k_asm); (case D => k_mem); (case hh => exact rfl); (case z => first | assumption | omega); k_whole); intro D' us' c' h' tk' F' N' l1' hi'; (try k_lt l1'); (try k_sweep)))

theorem same_call {w : World} {mg mb : Str → Option Value} {mean : ExcName → Option Value} {dp un : Nat} {gd : Option (List Code)} {cn : Str} {cs : Scope} {a : Addr} {ccd : Value} {cl : List (Str × Addr)} {outer : List Env} {A₀ : Around} {base h₀ : Heap} {L : Addr} {m : Str → Option Value} {s : Shared} {Q E : Value → Shared → Prop}
    {tb td tl tn pd lf sz sn : Addr} {o : Obj} {n1 n2 n3 n4 k1 k2 k3 bt : Nat} {hh1 hh2 hh3 : Int} {inc snt : Array UInt8} {vs ws us ls : List Value} {left sizes sent : List Int}
    (B : Below A₀ base outer h₀) (F : Fr h₀ L s.heap m) (X : (Hd9.hd.heap_39 w.params).In h₀) (T : Top Hd9.hd.view_39 (looseW Hd9.hd.view_39 [Str.ofString "Tube"]) mean mg mb h₀) (hk : cs.kind = .function) (hdp : dp + 3 < recursionLimit) (hun : un + 200 < cLine)
    (N : News h₀ L s.heap [(tb, instObj 52 td), (td, dictOf [⟨hh1, .str (Str.ofString "incoming") k1, .bytes inc bt⟩, ⟨hh2, .str (Str.ofString "sizes") k2, .ref tl⟩, ⟨hh3, .str (Str.ofString "sent") k3, .ref tn⟩] 3), (tl, listOf ls.toArray n4), (tn, baOf snt), (pd, o), (sz, listOf ws.toArray n2), (lf, listOf vs.toArray n1), (sn, listOf us.toArray n3)]) (hlo : (pd == sysModules) = false) (ho : PlObj w o lf sz sn)
    (hi1 : IntsAre vs (KBw.bInts inc)) (hi2 : IntsAre ws sizes) (hi3 : IntsAre ls sizes) (hi4 : IntsAre us (KBw.bInts snt)) (hz1 : inc.size ≤ 64) (hz2 : snt.size ≤ 200) (hz3 : sizes.length ≤ 64)
    (ret : ∀ h' tk', SameOff [] s.heap h' → Fr h₀ L h' m → Q (.bool true) { s with heap := h', toks := tk' }) :
    wpAny (model PySem.Challenge.rw_fp5015_01.row.prog w) (ktrTop dp un gd cn cs L a ccd cl outer) (call (.ref 82) [.ref tb, .ref pd]) Q E s := by
  revert X
  k_fill
  w_top off
  intro X
  refine wpAny_call ?_
  k_dflt (refine' code_S B F X N T ?kA ?kF ?kK ?k6 ?k7 ?k8 ?k9 ?kB ?_ ?c2 ?c3 ?c4 ?c5; (case kA => exact rfl); (case kF => exact rfl); (case kK => exact hk); (case k6 => k_is); (case k7 => k_is); (case k8 => (dsimp only [ktrTop]; omega)); (case k9 => exact BindsTo.of_eq rfl); (case c5 => decide); (case kB => exact locs rfl); (case c2 => exact rfl); (case c3 => exact rfl); (case c4 => exact rfl); k_whole)
  intro g L' h₁ hS FG F' N' B' X' T' hlt
  have hsame := fun (h' : Heap) S' N' => SameOff.same (h₁ := g) (L' := L') (h' := h') S' N N'
  clear N F B T
  obtain ⟨t1, t2, t3, hd⟩ := ho
  have hl1 := KBw.ints_length inc
  have hl2 := KBw.ints_length snt
  (try dsimp only); (try k_fold)
  k_steps
  exact ret _ _ (hsame _ (by assumption) (cb_drop (by assumption) (by kcf_all))) (by assumption)
end Mine
end SmPart

section RdPart
set_option maxRecDepth 100000
set_option maxHeartbeats 8000000
namespace Mine
open PySem PySem.W PySem.Calls PySem.Spec PyProof.Rows
theorem pick_to1 (v : Value) (r : List Value) : kms_pick (v :: r) none (some 1) = [v] := by
  unfold kms_pick kms_lo kms_hi
  simp
theorem pick_from1 (v : Value) (r : List Value) : kms_pick (v :: r) (some 1) none = r := by
  unfold kms_pick kms_lo kms_hi
  simp

theorem blk_take {inc blk : Array UInt8} {M : Int} {n : Nat} (k : KBw.bInts blk = List.take ((some M).elim (KBw.bInts inc).length (clipAt (KBw.bInts inc).length) - Option.elim (none : Option Int) 0 (clipAt (KBw.bInts inc).length)) (List.drop (Option.elim (none : Option Int) 0 (clipAt (KBw.bInts inc).length)) (KBw.bInts inc))) (h0 : 0 ≤ M) (e : M.toNat = n) : KBw.bInts blk = (KBw.bInts inc).take n := by
  subst e
  obtain ⟨n, rfl⟩ := Int.eq_ofNat_of_zero_le h0
  rw [k]
  simp only [Option.elim, clipAt_nat, List.drop_zero, Nat.sub_zero, Int.toNat_natCast]
  rw [List.take_eq_take_iff]
  omega
theorem lim_cons {M asked z : Int} {zs : List Int} (a : M = asked ∨ M = z) (b : M ≤ asked ∧ M ≤ z) : M.toNat = limOf (z :: zs) asked := by
  unfold limOf
  congr 1
  dsimp only
  split <;> omega
theorem inc_drop {inc blk : Array UInt8} {M : Int} {n : Nat} (k : KBw.bInts blk = List.take (Option.elim (none : Option Int) (KBw.bInts inc).length (clipAt (KBw.bInts inc).length) - (some M).elim 0 (clipAt (KBw.bInts inc).length)) (List.drop ((some M).elim 0 (clipAt (KBw.bInts inc).length)) (KBw.bInts inc))) (h0 : 0 ≤ M) (e : M.toNat = n) : KBw.bInts blk = (KBw.bInts inc).drop n := by
  subst e
  obtain ⟨n, rfl⟩ := Int.eq_ofNat_of_zero_le h0
  rw [k]
  simp only [Option.elim, clipAt_nat, Int.toNat_natCast]
  rw [List.take_of_length_le (by rw [List.length_drop]; omega)]
  by_cases h : n ≤ (KBw.bInts inc).length
  · rw [Nat.min_eq_left h]
  · rw [Nat.min_eq_right (by omega), List.drop_length, List.drop_of_length_le (by omega)]

local macro_rules | `(tactic| walk_at "subscriptTail Name Slice ref ref") => `(tactic| (k_here; (with_reducible show wpAny _ _ (subscriptTail _ (PySem.Expr.Slice _ _ none _) (Value.ref _) (Value.ref _)) _ _ _); k_dflt (refine' kms_slice_lit ?F ?N ?l ?p ?q ?e ?_ ?s ?t ?z; (case F => k_asm); (case N => k_asm); (case l => first | kmk_list | is_list); (case p => kmk_part); (case q => kmk_part); (case e => first | exact pick_to1 _ _ | exact pick_from1 _ _); (case s => with_unfolding_all rfl); (case t => kmk_pure); (case z => ((simp only [List.size_toArray, List.length_cons]); (rw [PySem.sizeLine_eq]); omega))); intro D' h' F' N' l1; (try k_lt l1); (try k_sweep)))
local macro_rules | `(tactic| walk_at "subscriptTail") => `(tactic| (k_here; (with_reducible show wpAny _ _ (subscriptTail _ (Expr.Slice _ _ none _) (Value.bytes _ _) (Value.ref _)) _ _ _); k_dflt (refine' KBc.slice_K (s := ⟨_, _, _, _, _⟩) ?F ?N (ks := KBw.bInts _) rfl ?p ?q ?z ?_; (case F => k_asm); (case N => k_asm); (case p => constructor); (case q => constructor); (case z => ((rw [KBw.ints_length]); omega))); intro h' t' k' F' N' kbcK; (try k_sweep)))

theorem read_call {w : World} {mg mb : Str → Option Value} {mean : ExcName → Option Value} {dp un : Nat} {gd : Option (List Code)} {cn : Str} {cs : Scope} {a : Addr} {ccd : Value} {cl : List (Str × Addr)} {outer : List Env} {A₀ : Around} {base h₀ : Heap} {L : Addr} {m : Str → Option Value} {s : Shared} {Q E : Value → Shared → Prop}
    {tb td tl tn : Addr} {n4 k1 k2 k3 bt ta : Nat} {hh1 hh2 hh3 : Int} {inc : Array UInt8} {ls : List Value} {sizes : List Int} {asked : Int}
    (B : Below A₀ base outer h₀) (F : Fr h₀ L s.heap m) (X : (Hd9.hd.heap_39 w.params).In h₀) (T : Top Hd9.hd.view_39 (looseW Hd9.hd.view_39 [Str.ofString "Tube"]) mean mg mb h₀) (hk : cs.kind = .function) (hdp : dp + 3 < recursionLimit) (hun : un + 200 < cLine)
    (N : News h₀ L s.heap [(tb, instObj 52 td), (td, dictOf [⟨hh1, .str (Str.ofString "incoming") k1, .bytes inc bt⟩, ⟨hh2, .str (Str.ofString "sizes") k2, .ref tl⟩, ⟨hh3, .str (Str.ofString "sent") k3, .ref tn⟩] 3), (tl, listOf ls.toArray n4)])
    (hne : @Ne Nat tb td ∧ @Ne Nat tb tl ∧ @Ne Nat td tl) (hi3 : IntsAre ls sizes) (hz1 : inc.size ≤ 64) (hz3 : sizes.length ≤ 64) (h0 : 0 ≤ asked) (h1 : asked ≤ 100) (hb : ∀ z ∈ sizes, 0 ≤ z ∧ z < 256)
    (ret : ∀ (tl2 : Addr) blk inc' t1 t2 n4' h' tk', News h₀ L h' [(tl2, listOf (ls.drop 1).toArray n4'), (tb, instObj 52 td), (td, dictOf [⟨hh1, .str (Str.ofString "incoming") k1, .bytes inc' t2⟩, ⟨hh2, .str (Str.ofString "sizes") k2, .ref tl2⟩, ⟨hh3, .str (Str.ofString "sent") k3, .ref tn⟩] 3)] → KBw.bInts blk = (KBw.bInts inc).take (limOf sizes asked) → KBw.bInts inc' = (KBw.bInts inc).drop (limOf sizes asked) → SameOff [tb, td, tl] s.heap h' → Fr h₀ L h' m → s.heap.get? tl2 = none → @Ne Nat tl2 tl → Q (.bytes blk t1) { s with heap := h', toks := tk' }) :
    wpAny (model PySem.Challenge.rw_fp5015_01.row.prog w) (ktrTop dp un gd cn cs L a ccd cl outer) (call (.ref 35) [.ref tb, .int asked ta]) Q E s := by
  revert X
  k_fill
  w_top off
  intro X
  refine wpAny_call ?_
  k_dflt (refine' code_S B F X N T ?kA ?kF ?kK ?k6 ?k7 ?k8 ?k9 ?kB ?_ ?c2 ?c3 ?c4 ?c5; (case kA => exact rfl); (case kF => exact rfl); (case kK => exact hk); (case k6 => k_is); (case k7 => k_is); (case k8 => (dsimp only [ktrTop]; omega)); (case k9 => exact BindsTo.of_eq rfl); (case c5 => decide); (case kB => exact locs rfl); (case c2 => exact rfl); (case c3 => exact rfl); (case c4 => exact rfl); k_whole)
  intro g L' h₁ hS FG F' N' B' X' T' hlt
  clear N F B T
  obtain ⟨hne1, hne2, hne3⟩ := hne
  (try dsimp only); (try k_fold)
  cases hi3 with
  | nil =>
    k_steps
    all_goals exact ret _ _ _ _ _ _ _ _ (cb_drop (by assumption) (by kcf_all)) (blk_take (by assumption) (by omega) (show _ = asked.toNat by omega)) (inc_drop (by assumption) (by omega) (show _ = asked.toNat by omega)) (by assumption) (by assumption) (fresh_of (g := g) (L' := L') (mods := [tb, td, tl]) (by assumption) (by k_mem) (by assumption) (not_mem3 (by omega) (by omega) (by omega))) (by omega)
  | @cons z tz ls' zs hi3 =>
    have hz := hb z (.head _)
    have hlen := hi3.length
    simp only [List.length_cons] at hz3
    k_steps
    all_goals exact ret _ _ _ _ _ _ _ _ (cb_drop (by assumption) (by kcf_all)) (blk_take (by assumption) (by omega) (lim_cons (by assumption) (by assumption))) (inc_drop (by assumption) (by omega) (lim_cons (by assumption) (by assumption))) (by assumption) (by assumption) (fresh_of (g := g) (L' := L') (mods := [tb, td, tl]) (by assumption) (by k_mem) (by assumption) (not_mem3 (by omega) (by omega) (by omega))) (by omega)
end Mine
end RdPart

section WrPart
set_option maxRecDepth 100000
set_option maxHeartbeats 8000000
namespace Mine
open PySem PySem.W PySem.Calls PySem.Spec PyProof.Rows
theorem gm_extend {M : Model} {A : Around} {E : Value → Shared → Prop} {s : Shared} {S : Addr} {b : Array UInt8} {h₀ : Heap} {L : Addr} {news : List (Addr × Obj)} {pl : Sem Bool} {Q : Value × List Value → Shared → Prop} (N : News h₀ L s.heap news) (hS : (S, baOf b) ∈ news) (h : Q (.builtin "bytearray.extend", [.ref S]) s) :
    wpAny M A (getMethod (.ref S) "extend" pl) Q E s := by
  have z := (N _ hS).1
  exact getMethod_builtin ⟨_, z, rfl⟩ be_plainAttrs be_slot be_type (fun a e => by cases e; exact ⟨_, z, rfl⟩) h

theorem news_put {P : Prop} {h₀ h h' : Heap} {L d : Addr} {m : Str → Option Value} {o o' : Obj} {news news' : List (Addr × Obj)} (F : Fr h₀ L h m) (N : News h₀ L h news) (hd : (d, o) ∈ news) (h1 : h'.get? d = some o') (S : SameOff [d] h h') (U : Upd d o o' news news') (k : Fr h₀ L h' m → News h₀ L h' news' → P) : P := by
  have z := N _ hd
  exact ledger1 N (fun p hp => by rw [List.mem_singleton.mp hp]; exact ⟨h1, z.2⟩) S U fun N' => k (S.fr F (by intro hm; exact z.2.1 (List.mem_singleton.mp hm).symm) (fun b hb => by rw [List.mem_singleton.mp hb]; exact z.2.2)) N'

local macro_rules | `(tactic| walk_at "getMethod ref") => `(tactic| (k_here; k_dflt (refine' gm_extend ?N ?h ?_; (case N => k_asm); (case h => k_mem); k_whole)))

theorem write_call {w : World} {mg mb : Str → Option Value} {mean : ExcName → Option Value} {dp un : Nat} {gd : Option (List Code)} {cn : Str} {cs : Scope} {a : Addr} {ccd : Value} {cl : List (Str × Addr)} {outer : List Env} {A₀ : Around} {base h₀ : Heap} {L : Addr} {m : Str → Option Value} {s : Shared} {Q E : Value → Shared → Prop}
    {tb td tl tn : Addr} {k1 k2 k3 bt : Nat} {hh1 hh2 hh3 : Int} {inc snt c : Array UInt8} {v : Value}
    (B : Below A₀ base outer h₀) (F : Fr h₀ L s.heap m) (X : (Hd9.hd.heap_39 w.params).In h₀) (T : Top Hd9.hd.view_39 (looseW Hd9.hd.view_39 [Str.ofString "Tube"]) mean mg mb h₀) (hk : cs.kind = .function) (hdp : dp + 3 < recursionLimit) (hun : un + 200 < cLine)
    (N : News h₀ L s.heap [(tb, instObj 52 td), (td, dictOf [⟨hh1, .str (Str.ofString "incoming") k1, .bytes inc bt⟩, ⟨hh2, .str (Str.ofString "sizes") k2, .ref tl⟩, ⟨hh3, .str (Str.ofString "sent") k3, .ref tn⟩] 3), (tn, baOf snt)])
    (hne : @Ne Nat tb tn ∧ @Ne Nat td tn)
    (ext : ∀ (A' : Around) (s' : Shared) (Q' E' : Value → Shared → Prop), A'.handled = none → SameOff [tb, td, tn] s.heap s'.heap → s'.heap.get? tn = some (baOf snt) → (∀ h' tk, h'.get? tn = some (baOf (snt ++ c)) → SameOff [tn] s'.heap h' → Q' .none { s' with heap := h', toks := tk }) →
      wpC (model PySem.Challenge.rw_fp5015_01.row.prog w) A' (call (.builtin "bytearray.extend") [.ref tn, v]) Q' E' s')
    (ret : ∀ h' tk', News h₀ L h' [(tb, instObj 52 td), (td, dictOf [⟨hh1, .str (Str.ofString "incoming") k1, .bytes inc bt⟩, ⟨hh2, .str (Str.ofString "sizes") k2, .ref tl⟩, ⟨hh3, .str (Str.ofString "sent") k3, .ref tn⟩] 3), (tn, baOf (snt ++ c))] → SameOff [tb, td, tn] s.heap h' → Fr h₀ L h' m → Q .none { s with heap := h', toks := tk' }) :
    wpC (model PySem.Challenge.rw_fp5015_01.row.prog w) (ktrTop dp un gd cn cs L a ccd cl outer) (call (.ref 42) [.ref tb, v]) Q E s := by
  revert X
  k_fill
  w_top off
  intro X
  refine wpC_call ?_
  k_dflt (refine' codeC_S B F X N T ?kA ?kF ?kK ?k6 ?k7 ?k8 ?k9 ?kB ?_ ?c2 ?c3 ?c4 ?c5; (case kA => exact rfl); (case kF => exact rfl); (case kK => exact hk); (case k6 => k_is); (case k7 => k_is); (case k8 => (dsimp only [ktrTop]; omega)); (case k9 => exact BindsTo.of_eq rfl); (case c5 => decide); (case kB => exact locs rfl); (case c2 => exact rfl); (case c3 => exact rfl); (case c4 => exact rfl); k_whole)
  intro g L' h₁ hS FG F' N' B' X' T' hlt
  clear N F B T
  obtain ⟨hne1, hne2⟩ := hne
  (try dsimp only); (try k_fold)
  refine wpC_execs_cons ?_
  refine wpC_Expr ?_
  refine wpC_MethodCall ?_
  k_steps
  refine wpC_callWith_v rfl ?_
  k_steps
  (try dsimp only [List.cons_append, List.nil_append])
  rename Fr g L' _ _ => hF0
  rename News g L' _ _ => hN0
  refine ext _ _ _ _ rfl (fun b o e hb => hF0.keep b o (hS b o e hb)) ?hn fun h' tk h1 h2 => ?_
  case hn => exact (hN0 (tn, baOf snt) (by k_mem)).1
  refine nextC_next (wpC_execs_nil ?_)
  refine' news_put (news' := ?nw) hF0 hN0 ?hd h1 h2 ?U ?_
  case hd => k_mem
  case U => k_upd
  clear hF0 hN0
  intro F' N'
  (try dsimp only at N')
  k_steps
  exact ret _ _ (by assumption) (by assumption) (by assumption)
end Mine
end WrPart

section InPart
set_option maxRecDepth 100000
set_option maxHeartbeats 8000000
namespace Mine
open PySem PySem.W PySem.Calls PySem.Spec PyProof.Rows
section
variable {prog : Program} {w : World} {A : Around} {E : Value → Shared → Prop} {s : Shared} {Q : Value → Shared → Prop} {h₀ : Heap} {L : Addr} {m : Str → Option Value} {news : List (Addr × Obj)}
theorem ba_make0 (F : Fr h₀ L s.heap m) (N : News h₀ L s.heap news)
    (h : ∀ D h', Fr h₀ L h' m → News h₀ L h' ((D, baOf #[]) :: news) → (∀ p ∈ news, p.1 < D) → Q (.ref D) { s with heap := h' }) : wpC (model prog w) A (call (.type "bytearray") []) Q E s := by
  have hp : (s.heap.push (baOf #[])).get? s.heap.objs.size = some (baOf #[]) := Heap.get?_push_size _ rfl
  refine callType_C ba_typeCall0 ba_newCall0 ba_init_args0 (ba_init0 (s := { s with heap := s.heap.push (baOf #[]) }) hp fun h' h1 h2 => ⟨rfl, ?_⟩)
  have hk : ∀ b o, s.heap.get? b = some o → h'.get? b = some o := fun b o e => (h2.2 b (Nat.ne_of_lt (Heap.lt_size e))).trans (Heap.get?_push_of_some _ e)
  exact h _ h' (F.keeps hk) (news_pushed F N hk h1 rfl) fun p hp => Heap.lt_size (N p hp).1
theorem ba_makeL {l : Addr} {vs : List Value} {ns : List Int} {n : Nat} (F : Fr h₀ L s.heap m) (N : News h₀ L s.heap news) (hl : (l, listOf vs.toArray n) ∈ news) (hi : IntsAre vs ns) (hr : ∀ n ∈ ns, 0 ≤ n ∧ n < 256) (hz : ns.length ≤ 1000)
    (h : ∀ D h', Fr h₀ L h' m → News h₀ L h' ((D, baOf (byteArr ns)) :: news) → (∀ p ∈ news, p.1 < D) → Q (.ref D) { s with heap := h' }) : wpC (model prog w) A (call (.type "bytearray") [.ref l]) Q E s := by
  have hp : (s.heap.push (baOf #[])).get? s.heap.objs.size = some (baOf #[]) := Heap.get?_push_size _ rfl
  have hL : ({ s with heap := s.heap.push (baOf #[]) } : Shared).heap.IsList l vs.toArray := Heap.IsList.push (N.isList hl) _
  refine callType_C (ba_typeCall _) (ba_newCall _) (fun o => ba_init_args o _) (ba_initL (s := { s with heap := s.heap.push (baOf #[]) }) hp hL hi hr hz (Nat.ne_of_lt (Heap.lt_size (N _ hl).1)) fun h' h1 h2 => ⟨rfl, ?_⟩)
  have hk : ∀ b o, s.heap.get? b = some o → h'.get? b = some o := fun b o e => (h2.2 b (Nat.ne_of_lt (Heap.lt_size e))).trans (Heap.get?_push_of_some _ e)
  exact h _ h' (F.keeps hk) (news_pushed F N hk h1 rfl) fun p hp => Heap.lt_size (N p hp).1
end

theorem init_call {w : World} {mg mb : Str → Option Value} {mean : ExcName → Option Value} {dp un : Nat} {gd : Option (List Code)} {cn : Str} {cs : Scope} {a : Addr} {ccd : Value} {cl : List (Str × Addr)} {outer : List Env} {A₀ : Around} {base h₀ : Heap} {L : Addr} {m : Str → Option Value} {s : Shared} {Q E : Value → Shared → Prop}
    {x dx sz : Addr} {n2 bt : Nat} {inc : Array UInt8} {ws : List Value} {sizes : List Int} {R : Result → Shared → Prop}
    (B : Below A₀ base outer h₀) (F : Fr h₀ L s.heap m) (X : (Hd9.hd.heap_39 w.params).In h₀) (T : Top Hd9.hd.view_39 (looseW Hd9.hd.view_39 [Str.ofString "Tube"]) mean mg mb h₀) (hk : cs.kind = .function) (hdp : dp + 3 < recursionLimit) (hun : un + 200 < cLine)
    (N : News h₀ L s.heap [(x, instObj 52 dx), (dx, emptyDict), (sz, listOf ws.toArray n2)]) (hi : IntsAre ws sizes) (hz : sizes.length ≤ 64)
    (hne : @Ne Nat x dx ∧ @Ne Nat x sz ∧ @Ne Nat dx sz)
    (ret : ∀ (tl tn : Addr) k1 k2 k3 hh1 hh2 hh3 n4 h' tk', News h₀ L h' [(tn, baOf #[]), (tl, listOf ws.toArray n4), (x, instObj 52 dx), (dx, dictOf [⟨hh1, .str (Str.ofString "incoming") k1, .bytes inc bt⟩, ⟨hh2, .str (Str.ofString "sizes") k2, .ref tl⟩, ⟨hh3, .str (Str.ofString "sent") k3, .ref tn⟩] 3), (sz, listOf ws.toArray n2)] → SameOff [x, dx, sz] s.heap h' → Fr h₀ L h' m → s.heap.get? tl = none → s.heap.get? tn = none → (@Ne Nat tl tn ∧ @Ne Nat tl x ∧ @Ne Nat tl dx ∧ @Ne Nat tl sz ∧ @Ne Nat tn x ∧ @Ne Nat tn dx ∧ @Ne Nat tn sz) → R (.ok (.ret .none)) { s with heap := h', toks := tk' }) :
    codeC (model PySem.Challenge.rw_fp5015_01.row.prog w) (ktrTop dp un gd cn cs L a ccd cl outer) (.call (.ref 28) ⟨[.ref x, .bytes inc bt, .ref sz], []⟩) R s := by
  revert X
  k_fill
  w_top off
  intro X
  k_dflt (refine' codeC_S B F X N T ?kA ?kF ?kK ?k6 ?k7 ?k8 ?k9 ?kB ?_ ?c2 ?c3 ?c4 ?c5; (case kA => exact rfl); (case kF => exact rfl); (case kK => exact hk); (case k6 => k_is); (case k7 => k_is); (case k8 => (dsimp only [ktrTop]; omega)); (case k9 => exact BindsTo.of_eq rfl); (case c5 => decide); (case kB => exact locs rfl); (case c2 => exact rfl); (case c3 => exact rfl); (case c4 => exact rfl); k_whole)
  intro g L' h₁ hS FG F' N' B' X' T' hlt
  clear N F B T
  obtain ⟨hne1, hne2, hne3⟩ := hne
  have hlen := hi.length
  (try dsimp only); (try k_fold)
  refine wpC_execs_cons ?_
  refine wpC_Assign_Tuple ?_
  refine wpC_Tuple ?_
  refine wpC_spliced_cons (wpC_any ?_)
  k_steps
  refine wpC_spliced_cons (wpC_any ?_)
  k_steps
  refine wpC_spliced_cons (wpC_Call ?_)
  k_steps
  refine wpC_callWith_v0 rfl ?_
  rename Fr g L' _ _ => hF0
  rename News g L' _ _ => hN0
  refine ba_make0 hF0 hN0 fun D' h' F' N' l1' => ?_
  clear hF0 hN0
  k_lt l1'
  refine wpC_spliced_nil ?_
  k_steps
  refine nextC_next (wpC_execs_nil ?_)
  k_steps
  exact ret _ _ _ _ _ _ _ _ _ _ _ (cb_drop (by assumption) (by kcf_all)) (by assumption) (by assumption) (fresh_of (g := g) (L' := L') (mods := [x, dx, sz]) (by assumption) (by k_mem) (by assumption) (not_mem3 (by omega) (by omega) (by omega))) (fresh_of (g := g) (L' := L') (mods := [x, dx, sz]) (by assumption) (by k_mem) (by assumption) (not_mem3 (by omega) (by omega) (by omega))) (by refine ⟨?_, ?_, ?_, ?_, ?_, ?_, ?_⟩ <;> omega)
theorem under_make {dp un : Nat} {gd : Option (List Code)} {cn : Str} {cs : Scope} {L a C : Addr} {ccd : Value} {cl : List (Str × Addr)} {outer : List Env} {rest : List Value} :
   (ktrTop dp un gd cn cs L a ccd cl outer).under (.builtin "type.__call__" ⟨.ref C :: rest, []⟩) = ktrTop (dp+1) (un+1) gd cn cs L a ccd cl outer := by
  cases gd <;> rfl
theorem make_call {w : World} {mg mb : Str → Option Value} {mean : ExcName → Option Value} {dp un : Nat} {gd : Option (List Code)} {cn : Str} {cs : Scope} {a : Addr} {ccd : Value} {cl : List (Str × Addr)} {outer : List Env} {A₀ : Around} {base h₀ : Heap} {L : Addr} {m : Str → Option Value} {s : Shared} {Q E : Value → Shared → Prop}
    {sz : Addr} {n2 bt : Nat} {inc : Array UInt8} {ws : List Value} {sizes : List Int}
    (B : Below A₀ base outer h₀) (F : Fr h₀ L s.heap m) (X : (Hd9.hd.heap_39 w.params).In h₀) (T : Top Hd9.hd.view_39 (looseW Hd9.hd.view_39 [Str.ofString "Tube"]) mean mg mb h₀) (hk : cs.kind = .function) (hdp : dp + 4 < recursionLimit) (hun : un + 201 < cLine)
    (N : News h₀ L s.heap [(sz, listOf ws.toArray n2)]) (hi : IntsAre ws sizes) (hz : sizes.length ≤ 64)
    (ret : ∀ (tb td tl tn : Addr) k1 k2 k3 hh1 hh2 hh3 n4 h' tk', News h₀ L h' [(tn, baOf #[]), (tl, listOf ws.toArray n4), (tb, instObj 52 td), (td, dictOf [⟨hh1, .str (Str.ofString "incoming") k1, .bytes inc bt⟩, ⟨hh2, .str (Str.ofString "sizes") k2, .ref tl⟩, ⟨hh3, .str (Str.ofString "sent") k3, .ref tn⟩] 3)] → SameOff [] s.heap h' → Fr h₀ L h' m → s.heap.get? tb = none → s.heap.get? td = none → s.heap.get? tl = none → s.heap.get? tn = none → (@Ne Nat tl tn ∧ @Ne Nat tl tb ∧ @Ne Nat tl td ∧ @Ne Nat tn tb ∧ @Ne Nat tn td ∧ @Ne Nat tb td) → Q (.ref tb) { s with heap := h', toks := tk' }) :
    wpC (model PySem.Challenge.rw_fp5015_01.row.prog w) (ktrTop dp un gd cn cs L a ccd cl outer) (call (.ref 52) [.bytes inc bt, .ref sz]) Q E s := by
  revert X
  k_fill
  w_top off
  intro X
  refine wpC_call ?_
  have hlt := fun p hp => Heap.lt_size (N p hp).1
  k_dflt (refine' make_C (fI := 28) F N (X.keeps F.keep) ?hm ?hi ?hf ?_)
  case hm => k_is
  case hi => k_is
  case hf => k_is
  intro x dx h' F' N' l1 l2 fx fd hk'
  rw [under_make]
  have none_of : ∀ d, h'.get? d = none → s.heap.get? d = none := fun d hd => by
    cases z : s.heap.get? d with
    | none => rfl
    | some o => rw [hk' d o z] at hd; cases hd
  have l3 := l1 _ (.head _)
  refine init_call (Q := Q) (E := E) B F' X T hk (by omega) (by omega) N' hi hz ⟨Nat.ne_of_gt l2, Nat.ne_of_gt (Nat.lt_trans l3 l2), Nat.ne_of_gt l3⟩ ?_
  intro tl tn k1 k2 k3 hh1 hh2 hh3 n4 h2 tk2 N2 S2 F2 f1 f2 ne
  obtain ⟨e1, e2, e3, e4, e5, e6, e7⟩ := ne
  have S : SameOff [] s.heap h2 := by
    intro b o e _
    by_cases hb : b ∈ [x, dx, sz]
    · rcases List.mem_cons.mp hb with rfl | hb
      · rw [fx] at e; cases e
      · rcases List.mem_cons.mp hb with rfl | hb
        · rw [fd] at e; cases e
        · obtain rfl := List.mem_singleton.mp hb
          rw [(N _ (.head _)).1] at e
          cases e
          exact (N2 (b, listOf ws.toArray n2) (by k_mem)).1
    · exact S2 b o (hk' b o e) hb
  exact ⟨rfl, ret x dx tl tn k1 k2 k3 hh1 hh2 hh3 n4 h2 tk2 (cb_drop N2 (by kcf_all)) S F2 fx fd (none_of _ f1) (none_of _ f2) ⟨e1, e2, e3, e5, e6, Nat.ne_of_gt l2⟩⟩
end Mine
end InPart

section ApPart
set_option maxRecDepth 100000
set_option maxHeartbeats 4000000
namespace Mine
open PySem PySem.W PySem.Calls PySem.Spec PyProof.Rows

theorem AllNe.ne {d a : Addr} {o : Obj} : ∀ {news : List (Addr × Obj)}, AllNe d news → (a, o) ∈ news → @Ne Nat a d
  | _ :: _, h, .head _ => h.1
  | _ :: _, h, .tail _ hm => AllNe.ne h.2 hm
def Ap (news : List (Addr × Obj)) : Prop := (news.map (·.1)).Nodup
theorem allNe_notMem {d : Addr} : ∀ {news : List (Addr × Obj)}, d ∉ news.map (·.1) → AllNe d news
  | [], _ => trivial
  | p :: r, h => ⟨fun e => h (by rw [List.map_cons, show p.1 = d from e]; exact .head _), allNe_notMem fun hm => h (by rw [List.map_cons]; exact .tail _ hm)⟩
theorem AllNe.notMem {d : Addr} : ∀ {news : List (Addr × Obj)}, AllNe d news → d ∉ news.map (·.1)
  | [], _, hm => nomatch hm
  | p :: r, h, hm => by
    rw [List.map_cons] at hm
    rcases List.mem_cons.mp hm with e | hm
    · exact h.1 e.symm
    · exact h.2.notMem hm
theorem Ap.cons {a : Addr} {o : Obj} {r : List (Addr × Obj)} (h : Ap ((a, o) :: r)) : AllNe a r ∧ Ap r := by
  have h' := List.nodup_cons.mp (show (a :: r.map (·.1)).Nodup from h)
  exact ⟨allNe_notMem h'.1, h'.2⟩
theorem Ap.mk {a : Addr} {o : Obj} {r : List (Addr × Obj)} (h : AllNe a r) (h' : Ap r) : Ap ((a, o) :: r) := List.nodup_cons.mpr ⟨h.notMem, h'⟩
theorem Ap.nil : Ap [] := List.nodup_nil
theorem ints_take {vs : List Value} {ns : List Int} (h : IntsAre vs ns) : ∀ n, IntsAre (vs.take n) (ns.take n) := by
  induction h with
  | nil => intro n; rw [List.take_nil, List.take_nil]; exact .nil
  | cons x t _ ih =>
    intro n
    cases n with
    | zero => exact .nil
    | succ n => exact .cons _ _ (ih n)

theorem size_take {b c : Array UInt8} {n : Nat} (e : KBw.bInts b = (KBw.bInts c).take n) : b.size ≤ c.size := by
  rw [← KBw.ints_length, e, List.length_take, KBw.ints_length]
  omega
theorem size_drop {b c : Array UInt8} {n : Nat} (e : KBw.bInts b = (KBw.bInts c).drop n) : b.size ≤ c.size := by
  rw [← KBw.ints_length, e, List.length_drop, KBw.ints_length]
  omega

theorem off3_I {I C D : Addr} : ∀ {l : List (Addr × Obj)}, LCg.Off3 I C D l → AllNe I l
  | [], _ => trivial
  | _ :: _, h => ⟨h.1.1, off3_I h.2⟩
theorem off3_C {I C D : Addr} {oI : Obj} (n : @Ne Nat I C) {l : List (Addr × Obj)} (h : LCg.Off3 I C D l) : AllNe C ((I, oI) :: l) := by
  refine ⟨n, ?_⟩
  induction l with
  | nil => trivial
  | cons p r ih => exact ⟨h.1.2.1, ih h.2⟩
theorem off3_D {I C D : Addr} {oI oC : Obj} (n : @Ne Nat I D) (n' : @Ne Nat C D) {l : List (Addr × Obj)} (h : LCg.Off3 I C D l) : AllNe D ((I, oI) :: (C, oC) :: l) := by
  refine ⟨n, n', ?_⟩
  induction l with
  | nil => trivial
  | cons p r ih => exact ⟨h.1.2.2, ih h.2⟩
theorem off3_of {I C D : Addr} : ∀ {l l' : List (Addr × Obj)}, LCg.Off3 I C D l → l.map (·.1) = l'.map (·.1) → LCg.Off3 I C D l'
  | [], [], _, _ => trivial
  | [], _ :: _, _, e => nomatch e
  | _ :: _, [], _, e => nomatch e
  | (a, o) :: r, (b, o') :: r', h, e => by
    rw [List.map_cons, List.map_cons] at e
    injection e with e1 e2
    dsimp only at e1
    subst e1
    exact ⟨h.1, off3_of h.2 e2⟩

/-- a tube and its plain record, agreeing -/
structure Tw where
  (tb td tl tn pd sz lf sn : Addr)
  o : Obj
  (k1 k2 k3 bt n1 n2 n3 n4 : Nat)
  (hh1 hh2 hh3 : Int)
  (inc snt : Array UInt8)
  (vs ws us ls : List Value)
  sizes : List Int
def Tw.led (t : Tw) : List (Addr × Obj) := [(t.tb, instObj 52 t.td), (t.td, dictOf [⟨t.hh1, .str (Str.ofString "incoming") t.k1, .bytes t.inc t.bt⟩, ⟨t.hh2, .str (Str.ofString "sizes") t.k2, .ref t.tl⟩, ⟨t.hh3, .str (Str.ofString "sent") t.k3, .ref t.tn⟩] 3),
  (t.tl, listOf t.ls.toArray t.n4), (t.tn, baOf t.snt), (t.pd, t.o), (t.sz, listOf t.ws.toArray t.n2), (t.lf, listOf t.vs.toArray t.n1), (t.sn, listOf t.us.toArray t.n3)]
structure Tw.Ok (w : World) (t : Tw) (b : Nat) : Prop where
  lo : (t.pd == sysModules) = false
  pl : PlObj w t.o t.lf t.sz t.sn
  i1 : IntsAre t.vs (KBw.bInts t.inc)
  i2 : IntsAre t.ws t.sizes
  i3 : IntsAre t.ls t.sizes
  i4 : IntsAre t.us (KBw.bInts t.snt)
  z1 : t.inc.size ≤ 14
  z2 : t.snt.size ≤ b
  z3 : t.sizes.length ≤ 5
  hb : ∀ z ∈ t.sizes, 0 ≤ z ∧ z < 256
structure Tw.Same (t t' : Tw) (h : Heap) : Prop where
  tb : t'.tb = t.tb
  td : t'.td = t.td
  tn : t'.tn = t.tn
  pd : t'.pd = t.pd
  sz : t'.sz = t.sz
  lf : t'.lf = t.lf
  sn : t'.sn = t.sn
  tl : t'.tl = t.tl ∨ h.get? t'.tl = none
theorem bInts_append (a b : Array UInt8) : KBw.bInts (a ++ b) = KBw.bInts a ++ KBw.bInts b := KBw.ints_app rfl rfl
theorem bInts_byteArr {ns : List Int} (h : ∀ n ∈ ns, 0 ≤ n ∧ n < 256) : KBw.bInts (byteArr ns) = ns := by
  unfold KBw.bInts byteArr
  rw [List.map_map]
  have : ∀ (l : List Int), (∀ n ∈ l, 0 ≤ n ∧ n < 256) → l.map ((fun c : UInt8 => (c.toNat : Int)) ∘ fun n => n.toNat.toUInt8) = l := by
    intro l hl
    induction l with
    | nil => rfl
    | cons n r ih =>
      have h0 := hl n (.head _)
      rw [List.map_cons, ih fun x hx => hl x (.tail _ hx)]
      congr 1
      exact byte_back h0.1 h0.2
  exact this ns h
theorem ext_lists {prog : Program} {w : World} {A : Around} {E : Value → Shared → Prop} {s : Shared} {D b : Addr} {vs ws : List Value} {n n2 : Nat} {Q : Value → Shared → Prop} {h₀ : Heap} {L : Addr} {news : List (Addr × Obj)} (N : News h₀ L s.heap news) (hD : (D, listOf vs.toArray n) ∈ news) (hb : (b, listOf ws.toArray n2) ∈ news) (hz : vs.length + ws.length ≤ 1000)
    (h : ∀ h' c, h'.get? D = some (listOf (vs ++ ws).toArray c) → SameOff [D] s.heap h' → Q .none { s with heap := h' }) : wpAny (model prog w) A (call (.builtin "list.extend") [.ref D, .ref b]) Q E s := by
  have z := N _ hD
  have hl : Builtin.List.listTooLong (vs.toArray.size + ws.toArray.size) = false := by simp [Builtin.List.listTooLong, sizeLine]; omega
  refine call_meets PySem.F.slot_list_extend ⟨_, z.1, rfl⟩ PySem.F.entry_list_extend (PySem.F.args_list_extend_2 _ _) (PySem.AutoSeq1.list_extend_list_list_0 D vs.toArray n b ws.toArray n2 (by rw [hl]; simp) (by rw [sizeLine_eq]; simp; omega) (by rw [sizeLine_eq]; simp; omega)) ⟨z.1, (N _ hb).1, ?_⟩
  have e := Heap.get?_update_self (Obj.mapSeq fun x => x ++ ws.toArray) z.1 rfl
  refine h _ (if (vs.toArray ++ ws.toArray).size == vs.toArray.size then n else n + 1) (e.trans ?_) (SameOff.of_but (Heap.SameBut.update ..))
  congr 1
  simp [Obj.mapSeq]
inductive FormP (fl : List (Addr × Obj)) (ns : List Int) : Value → Prop
  | bytes (t : Tok) : FormP fl ns (.bytes (byteArr ns) t)
  | ba (D : Addr) : (D, baOf (byteArr ns)) ∈ fl → FormP fl ns (.ref D)
  | list (D : Addr) (ys : List Value) (n : Nat) : (D, listOf ys.toArray n) ∈ fl → IntsAre ys ns → FormP fl ns (.ref D)
  | tuple (D : Addr) (ys : List Value) (n : Nat) : (D, ({ cls := .type "tuple", data := .seq ys.toArray n } : Obj)) ∈ fl → IntsAre ys ns → FormP fl ns (.ref D)
theorem ext_form {prog : Program} {w : World} {fl : List (Addr × Obj)} {ns : List Int} {v : Value} {h₀ h : Heap} {L tn : Addr} {mods : List Addr} {snt : Array UInt8} (P : FormP fl ns v) (N : News h₀ L h fl) (hne : ∀ p ∈ fl, p.1 ∉ mods) (hr : ∀ n ∈ ns, 0 ≤ n ∧ n < 256) (hz : snt.size + ns.length ≤ 1000)
    (A' : Around) (s' : Shared) (Q' E' : Value → Shared → Prop) (hh : A'.handled = none) (S : SameOff mods h s'.heap) (hS : s'.heap.get? tn = some (baOf snt)) (ret : ∀ h' tk, h'.get? tn = some (baOf (snt ++ byteArr ns)) → SameOff [tn] s'.heap h' → Q' .none { s' with heap := h', toks := tk }) :
    wpC (model prog w) A' (call (.builtin "bytearray.extend") [.ref tn, v]) Q' E' s' := by
  have hz' : snt.size + ns.length ≤ sizeLine := by rw [sizeLine_eq]; omega
  have hz2 : snt.size + (byteArr ns).size ≤ sizeLine := by rw [byteArr_size]; exact hz'
  cases P with
  | bytes t => exact ext_bytes hS hz2 ret
  | ba D hm => exact ext_ba hS (S _ _ (N _ hm).1 (hne _ hm)) hz2 ret
  | list D ys n hm hi => exact ext_list hh hS (S.isList (N.isList hm) (hne _ hm)) hi hr hz' ret
  | tuple D ys n hm hi =>
    obtain ⟨o, ho, r⟩ := N.isTup hm
    exact ext_tuple hh hS ⟨o, S _ _ ho (hne _ hm), r⟩ hi hr hz' ret
theorem item4 {prog : Program} {w : World} {A : Around} {E : Value → Shared → Prop} {s : Shared} {tup : Addr} {v0 v1 v2 v3 : Value} {n : Nat} {r : Int} {u : Tok} {value slice : Expr} {Q : Value → Shared → Prop} {h₀ : Heap} {L : Addr} {news : List (Addr × Obj)} {P : Value → Prop} (N : News h₀ L s.heap news) (ht : (tup, ({ cls := .type "tuple", data := .seq #[v0, v1, v2, v3] n } : Obj)) ∈ news)
    (hr : r = 3 ∨ r = 4 ∨ r = 5 ∨ r = 6) (p0 : P v0) (p1 : P v1) (p2 : P v2) (p3 : P v3) (h : ∀ v, P v → Q v s)
    (hs : ∀ i, subscripted slice false (.ref tup) (.int i u) = operate [.ref tup, .int i u] (getItem (.ref tup) (.int i u))) :
    wpAny (model prog w) A (subscriptTail value slice (.ref tup) (.int (r - 3) u)) Q E s := by
  have key : ∀ (k : Int) (j : Nat) (v : Value), -(2 ^ 63) ≤ k → k < 2 ^ 63 → seqIndex? k 4 = some j → [v0, v1, v2, v3][j]? = some v → P v → wpAny (model prog w) A (subscriptTail value slice (.ref tup) (.int k u)) Q E s := fun k j v k0 k1 hj hv pv => item_tupleT (l := [v0, v1, v2, v3]) (N.isTup ht) k0 k1 hj hv (h v pv) (hs k)
  rcases hr with rfl | rfl | rfl | rfl
  · exact key 0 0 v0 (by decide) (by decide) rfl rfl p0
  · exact key 1 1 v1 (by decide) (by decide) rfl rfl p1
  · exact key 2 2 v2 (by decide) (by decide) rfl rfl p2
  · exact key 3 3 v3 (by decide) (by decide) rfl rfl p3
theorem tup_list {prog : Program} {w : World} {A : Around} {E : Value → Shared → Prop} {s : Shared} {l : Addr} {vs : List Value} {n : Nat} {Q : Value → Shared → Prop} {h₀ : Heap} {L : Addr} {m : Str → Option Value} {news : List (Addr × Obj)} (F : Fr h₀ L s.heap m) (N : News h₀ L s.heap news) (hl : (l, listOf vs.toArray n) ∈ news) (hz : vs.length ≤ 1000)
    (h : ∀ D h', Fr h₀ L h' m → News h₀ L h' ((D, ({ cls := .type "tuple", data := .seq vs.toArray } : Obj)) :: news) → (∀ p ∈ news, p.1 < D) → Q (.ref D) { s with heap := h' }) :
    wpAny (model prog w) A (call (.type "tuple") [.ref l]) Q E s := by
  refine call_tuple_list (N.isList hl) (fun h' hk => ?_) (by rw [List.size_toArray, sizeLine_eq]; omega)
  have F' : Fr h₀ L h' m := F.keeps hk
  have N' : News h₀ L h' news := fun p hp => ⟨hk _ _ (N p hp).1, (N p hp).2⟩
  exact h _ _ (F'.push _) (N'.push F' _) fun p hp => Heap.lt_size (N' p hp).1
theorem allNe_lt {d : Addr} : ∀ {news : List (Addr × Obj)}, (∀ p ∈ news, p.1 < d) → AllNe d news
  | [], _ => trivial
  | _ :: _, h => ⟨Nat.ne_of_lt (h _ (.head _)), allNe_lt fun p hp => h p (.tail _ hp)⟩
end Mine
end ApPart

section DePart
set_option maxRecDepth 100000
set_option maxHeartbeats 8000000
namespace Mine
open PySem PySem.W PySem.Calls PySem.Spec PyProof.Rows

theorem take_call2 {w : World} {mg mb : Str → Option Value} {mean : ExcName → Option Value} {dp un : Nat} {gd : Option (List Code)} {cn : Str} {cs : Scope} {a : Addr} {ccd : Value} {cl : List (Str × Addr)} {outer : List Env} {A₀ : Around} {base h₀ : Heap} {L : Addr} {m : Str → Option Value} {s : Shared} {Q E : Value → Shared → Prop}
    {pd lf sz sn : Addr} {o : Obj} {n1 n2 ta : Nat} {vs ws : List Value} {left sizes : List Int} {asked : Int}
    (B : Below A₀ base outer h₀) (F : Fr h₀ L s.heap m) (X : (Hd9.hd.heap_39 w.params).In h₀) (T : Top Hd9.hd.view_39 (looseW Hd9.hd.view_39 [Str.ofString "Tube"]) mean mg mb h₀) (hk : cs.kind = .function) (hdp : dp + 3 < recursionLimit) (hun : un + 200 < cLine)
    (N : News h₀ L s.heap [(pd, o), (sz, listOf ws.toArray n2), (lf, listOf vs.toArray n1)]) (hlo : (pd == sysModules) = false) (ho : PlObj w o lf sz sn) (hne : @Ne Nat pd sz ∧ @Ne Nat pd lf ∧ @Ne Nat sz lf) (hi : IntsAre vs left) (hj : IntsAre ws sizes) (hl1 : left.length ≤ 64) (hl2 : sizes.length ≤ 64) (h0 : 0 ≤ asked) (h1 : asked ≤ 100) (hb : ∀ z ∈ sizes, 0 ≤ z ∧ z < 256)
    (ret : ∀ fd nf n1' n2' h' tk', News h₀ L h' [(fd, listOf (vs.take (limOf sizes asked)).toArray nf), (lf, listOf (vs.drop (limOf sizes asked)).toArray n1'), (sz, listOf (ws.drop 1).toArray n2'), (pd, o)] → SameOff [pd, sz, lf] s.heap h' → Fr h₀ L h' m → s.heap.get? fd = none → @Ne Nat fd lf → @Ne Nat fd sz → @Ne Nat fd pd → IntsAre (vs.take (limOf sizes asked)) (left.take (limOf sizes asked)) → IntsAre (vs.drop (limOf sizes asked)) (left.drop (limOf sizes asked)) → Q (.ref fd) { s with heap := h', toks := tk' }) :
    wpAny (model PySem.Challenge.rw_fp5015_01.row.prog w) (ktrTop dp un gd cn cs L a ccd cl outer) (call (.ref 75) [.ref pd, .int asked ta]) Q E s :=
  take_call B F X T hk hdp hun N hlo ho hne hi hj hl1 hl2 h0 h1 hb fun _ _ _ _ _ _ x1 x2 x3 x4 x5 x6 x7 => ret _ _ _ _ _ _ x1 x2 x3 x4 x5 x6 x7 (hi.take _) (hi.drop _)
theorem flush_call {w : World} {mg mb : Str → Option Value} {mean : ExcName → Option Value} {dp un : Nat} {gd : Option (List Code)} {cn : Str} {cs : Scope} {a : Addr} {ccd : Value} {cl : List (Str × Addr)} {outer : List Env} {A₀ : Around} {base h₀ : Heap} {L : Addr} {m : Str → Option Value} {s : Shared} {Q E : Value → Shared → Prop}
    {tb : Addr}
    (B : Below A₀ base outer h₀) (F : Fr h₀ L s.heap m) (X : (Hd9.hd.heap_39 w.params).In h₀) (T : Top Hd9.hd.view_39 (looseW Hd9.hd.view_39 [Str.ofString "Tube"]) mean mg mb h₀) (hk : cs.kind = .function) (hdp : dp + 3 < recursionLimit) (hun : un + 200 < cLine)
    (ret : ∀ h' tk', SameOff [] s.heap h' → Fr h₀ L h' m → Q .none { s with heap := h', toks := tk' }) :
    wpAny (model PySem.Challenge.rw_fp5015_01.row.prog w) (ktrTop dp un gd cn cs L a ccd cl outer) (call (.ref 49) [.ref tb]) Q E s := by
  have N : News h₀ L s.heap [] := fun _ hp => nomatch hp
  revert X
  k_fill
  w_top off
  intro X
  refine wpAny_call ?_
  k_dflt (refine' code_S B F X N T ?kA ?kF ?kK ?k6 ?k7 ?k8 ?k9 ?kB ?_ ?c2 ?c3 ?c4 ?c5; (case kA => exact rfl); (case kF => exact rfl); (case kK => exact hk); (case k6 => k_is); (case k7 => k_is); (case k8 => (dsimp only [ktrTop]; omega)); (case k9 => exact BindsTo.of_eq rfl); (case c5 => decide); (case kB => exact locs rfl); (case c2 => exact rfl); (case c3 => exact rfl); (case c4 => exact rfl); k_whole)
  intro g L' h₁ hS FG F' N' B' X' T' hlt
  clear N F B T
  (try dsimp only); (try k_fold)
  k_steps
  exact ret _ _ (by assumption) (by assumption)
theorem ints_eq {vs : List Value} {ns ns' : List Int} (h : IntsAre vs ns) (e : ns' = ns) : IntsAre vs ns' := e ▸ h
theorem boot_ba : bootBuiltins "bytearray" = some (.type "bytearray") := by decide +kernel
theorem four {r : Int} (h8 : r < 8) (h3 : ¬ r < 3) (h7 : r < 7) : r = 3 ∨ r = 4 ∨ r = 5 ∨ r = 6 := by omega

local macro_rules | `(tactic| k_ne) => `(tactic| (refine neN ?_; (try dsimp only); first | exact AllNe.ne (by assumption) (by k_mem) | exact Ne.symm (AllNe.ne (by assumption) (by k_mem)) | fail "no"))
local macro_rules | `(tactic| k_updF) => `(tactic| first | exact Rest.nil | (refine' Rest.out ?a ?b; (case a => k_mem); (case b => k_updF)) | (refine' Rest.keep ?a ?b; (case a => k_all); (case b => k_updF)))
local macro_rules | `(tactic| walk_at "subscriptTail") => `(tactic| (k_here; (with_reducible show wpAny _ _ (subscriptTail _ _ (Value.ref _) (Value.int _ _)) _ _ _); refine halt ?_))
local macro_rules | `(tactic| walk_at "eval Name") => `(tactic| (k_here; (with_reducible show wpAny _ _ (eval (Expr.Name (Str.ofString "bytearray") _) _) _ _ _); k_dflt (refine' nameX_B ?F ?X ?T ?e ?v ?n ?_ ?a ?b; (case F => k_asm); (case X => k_asm); (case T => k_asm); (case a => rfl); (case b => rfl); (case v => with_reducible exact boot_ba); (case e => k_is); (case n => decide); k_whole)))
local macro_rules | `(tactic| walk_at "call type:list") => `(tactic| (k_here; (with_reducible show wpAny _ _ (call (Value.type _) [Value.ref _]) _ _ _); k_dflt (refine' kup_listOf ?F ?N ?b (e := rfl) ?_ ?z; (case F => k_asm); (case N => k_asm); (case b => k_mem); (case z => ((rw [PySem.sizeLine_eq]); simp only [List.toList_toArray]; omega))); intro D' c' h' F' N' l1'; (try simp only [List.toList_toArray] at N'); (have al' := allNe_lt l1'); clear l1'; (try k_sweep)))
local macro_rules | `(tactic| walk_at "call type:tuple") => `(tactic| (k_here; (with_reducible show wpAny _ _ (call (Value.type _) [Value.ref _]) _ _ _); k_dflt (refine' tup_list ?F ?N ?l ?z ?_; (case F => k_asm); (case N => k_asm); (case l => k_mem); (case z => omega); k_whole); intro D' h' F' N' l1'; (have al' := allNe_lt l1'); clear l1'; (try k_sweep)))
local macro_rules | `(tactic| walk_at "call builtin:list.extend") => `(tactic| (k_here; (with_reducible show wpAny _ _ (call (Value.builtin _) [Value.ref _, Value.ref _]) _ _ _); k_dflt (refine' ext_lists ?N ?hD ?hb ?z ?_; (case N => k_asm); (case hD => k_mem); (case hb => k_mem); (case z => omega)); intro h' c' e' S'; refine' news_put ?F ?N ?hd e' S' ?U ?_; (case F => k_asm); (case N => k_asm); (case hd => k_mem); (case U => k_upd); clear e' S'; intro F' N'; (try dsimp only at N'); (try k_sweep)))
local macro_rules | `(tactic| walk_at "call ref") => `(tactic| (k_here; (with_reducible show wpAny _ _ (call (Value.ref 49) [Value.ref _]) _ _ _); k_dflt (refine' flush_call ?B ?F ?X ?T ?hk ?hdp ?hun ?_; (case B => k_asm); (case F => k_asm); (case X => k_asm); (case T => k_asm); (case hk => first | exact rfl | assumption); (case hdp => first | ktr_room | (dsimp only [ktrTop]; omega)); (case hun => ktr_units)); intro h' tk' S' F'; (have N' := S'.news (by k_asm)); clear S'; (try k_sweep)))
local macro_rules | `(tactic| walk_at "call ref") => `(tactic| (k_here; (with_reducible show wpAny _ _ (call (Value.ref 63) [Value.ref _, Value.int _ _]) _ _ _); k_dflt (refine' next_call ?B ?F ?X ?T ?hk ?hdp ?hun ?N ?hsc ?hi ?hlen ?h0 ?h1 ?hl0 ?hl1 ?_; (case B => k_asm); (case F => k_asm); (case X => k_asm); (case T => k_asm); (case hk => first | exact rfl | assumption); (case N => exact news_sub1 (by k_asm) (by k_mem)); (case hdp => first | ktr_room | (dsimp only [ktrTop]; omega)); (case hun => ktr_units); (case hsc => is_list); (case hi => with_reducible assumption); (case hlen => assumption); (case h0 => omega); (case h1 => omega); (case hl0 => decide); (case hl1 => decide)); intro r' tr' t' n' h' tk' hr0' hr1' hS' F' N1'; refine' ledger1 ?N N1' hS' ?U ?_; (case N => k_asm); (case U => k_upd); clear N1' hS'; intro N'; (try dsimp only at N'); (try k_sweep)))
local macro_rules | `(tactic| walk_at "CompSrc") => `(tactic| (k_here; k_dflt (refine LCg.CompSrc.range (by rfl) (by k_asm) (by k_asm) (by assumption) (by first | exact small_one (by kcf_bnd) (by kcf_bnd) (by kcf_bnd) (by kcf_bnd) | decide) (by first | exact rangeSize_nat _ _ | rfl) (by (rw [PySem.sizeLine_eq]; omega)) ?_; intro g'; refine' cinv_range (lo := 0) (hi := 256) ?hled ?_ ?_; (case hled => (first | exact Led.head | (refine' Led.tail ?a6; (case a6 => (first | exact Led.head | (refine' Led.tail ?a5; (case a5 => (first | exact Led.head | (refine' Led.tail ?a4; (case a4 => (first | exact Led.head | (refine' Led.tail ?a3; (case a3 => (first | exact Led.head | (refine' Led.tail ?a2; (case a2 => (first | exact Led.head | (refine' Led.tail ?a1; (case a1 => (exact Led.head)))))))))))))))))))); (all_goals first | (intro i' k' t' I' oI' C' oC' D' m' ys' h' tk' E' tt' nn' hin' hlo' hhi' hC' hx' F' N' off' ne'; (try dsimp only at N' off'); (have aI' := off3_I off'); (have aC' := off3_C (oI := oI') ne'.1 off'); (have aD' := off3_D (oI := oI') (oC := oC') ne'.2.1 ne'.2.2 off'); (clear ne'); (try k_fold)) | (intro ys' zs' tt' nn' hzI' hzL' hzB'; (have hyl' := IntsAre.length hzI'); (try dsimp only))))))
local macro_rules | `(tactic| walk_at "CompEnd") => `(tactic| ((try dsimp only); refine' LCg.CompEnd.intro (by k_asm) (by k_asm) _ ?sub ?off ?src (ledEl_intro ?r0 ?r1); (case sub => ((try dsimp only); kcf_all)); (case off => exact off3_of (by assumption) rfl); (case src => exact True.intro); (case r0 => omega); (case r1 => omega)))
local macro_rules | `(tactic| walk_at "compareOp NotEq ref ref") => `(tactic| (k_here; k_dflt (refine' ne_ints ?N ?ha ?hb ?hi ?hi' ?hu ?e ?_; (case N => k_asm); (case ha => k_mem); (case hb => k_mem); (case hi => (first | with_reducible assumption | with_reducible exact IntsAre.nil | with_reducible exact IntsAre.cons _ _ (by with_reducible assumption))); (case hi' => (first | with_reducible assumption | with_reducible exact IntsAre.nil | with_reducible exact IntsAre.cons _ _ (by with_reducible assumption))); (case hu => ktr_units); (case e => first | exact decide_eq_true (by with_reducible assumption) | simp); k_whole)))
local macro_rules | `(tactic| walk_at "compareOp Eq ref ref") => `(tactic| (k_here; k_dflt (refine' eq_ints ?N ?ha ?hb ?hi ?hi' ?hu ?e ?_; (case N => k_asm); (case ha => k_mem); (case hb => k_mem); (case hi => (first | with_reducible assumption | with_reducible exact IntsAre.nil | with_reducible exact IntsAre.cons _ _ (by with_reducible assumption))); (case hi' => (first | with_reducible assumption | with_reducible exact IntsAre.nil | with_reducible exact IntsAre.cons _ _ (by with_reducible assumption))); (case hu => ktr_units); (case e => first | exact decide_eq_true (by with_reducible assumption) | simp); k_whole)))
local macro_rules | `(tactic| walk_at "call type:list") => `(tactic| (k_here; (with_reducible show wpAny _ _ (call (Value.type _) [Value.bytes _ _]) _ _ _); k_dflt (refine' list_bytes ?hh ?F ?N ?z ?_; (case hh => exact rfl); (case F => k_asm); (case N => k_asm); (case z => first | assumption | omega); k_whole); intro D' us' c' h' tk' F' N' l1' hi'; (have al' := allNe_lt l1'); clear l1'; (try k_sweep)))
local macro_rules | `(tactic| walk_at "call type:list") => `(tactic| (k_here; (with_reducible show wpAny _ _ (call (Value.type _) [Value.ref _]) _ _ _); k_dflt (refine' list_ba ?hh ?F ?N ?D ?z ?_; (case F => k_asm); (case N => k_asm); (case D => k_mem); (case hh => exact rfl); (case z => first | assumption | omega); k_whole); intro D' us' c' h' tk' F' N' l1' hi'; (have al' := allNe_lt l1'); clear l1'; (try k_sweep)))
local macro_rules | `(tactic| walk_at "call ref") => `(tactic| (k_here; (with_reducible show wpAny _ _ (call (Value.ref 35) [Value.ref _, Value.int _ _]) _ _ _); k_dflt (refine' read_call ?B ?F ?X ?T ?hk ?hdp ?hun ?N ?hne ?hi3 ?hz1 ?hz3 ?h0 ?h1 ?hb ?_; (case B => k_asm); (case F => k_asm); (case X => k_asm); (case T => k_asm); (case hk => first | exact rfl | assumption); (case N => exact cb_drop (by k_asm) (by kcf_all)); (case hdp => first | ktr_room | (dsimp only [ktrTop]; omega)); (case hun => ktr_units); (case hne => (refine ⟨?_, ?_, ?_⟩ <;> k_ne)); (case hi3 => with_reducible assumption); (case hz1 => omega); (case hz3 => omega); (case h0 => omega); (case h1 => omega); (case hb => assumption)); intro tl2' blk' inc' t1' t2' n4' h' tk' N1' e1' e2' S' F' fr' nt'; (refine' ledgerN ?N N1' S' ?U ?_; (case N => k_asm); (case U => k_updF)); (have ap' := allNe_of (by k_asm) fr'); (have bz' := size_take e1'); (have iz' := size_drop e2'); clear N1' S' nt'; intro N'; (try simp only [List.cons_append, List.nil_append] at N'); (try k_sweep)))
local macro_rules | `(tactic| walk_at "call ref") => `(tactic| (k_here; (with_reducible show wpAny _ _ (call (Value.ref 75) [Value.ref _, Value.int _ _]) _ _ _); k_dflt (refine' take_call2 ?B ?F ?X ?T ?hk ?hdp ?hun ?N ?hlo ?ho ?hne ?hi ?hj ?hl1 ?hl2 ?h0 ?h1 ?hb ?_; (case B => k_asm); (case F => k_asm); (case X => k_asm); (case T => k_asm); (case hk => first | exact rfl | assumption); (case ho => assumption); (case N => exact cb_drop (by k_asm) (by kcf_all)); (case hdp => first | ktr_room | (dsimp only [ktrTop]; omega)); (case hun => ktr_units); (case hlo => assumption); (case hne => (refine ⟨?_, ?_, ?_⟩ <;> k_ne)); (case hi => with_reducible assumption); (case hj => with_reducible assumption); (case hl1 => ((try rw [KBw.ints_length]); omega)); (case hl2 => omega); (case h0 => omega); (case h1 => omega); (case hb => assumption)); intro fd' nf' n1' n2' h' tk' N1' S' F' fr' nt1' nt2' nt3' hiT' hiD'; (refine' ledgerN ?N N1' S' ?U ?_; (case N => k_asm); (case U => k_updF)); (have ap' := allNe_of (by k_asm) fr'); clear N1' S' nt1' nt2' nt3'; intro N'; (try simp only [List.cons_append, List.nil_append] at N'); (try k_sweep)))

theorem deed_call {w : World} {mg mb : Str → Option Value} {mean : ExcName → Option Value} {dp un : Nat} {gd : Option (List Code)} {cn : Str} {cs : Scope} {a : Addr} {ccd : Value} {cl : List (Str × Addr)} {outer : List Env} {A₀ : Around} {base h₀ : Heap} {L : Addr} {m : Str → Option Value} {s : Shared} {Q E : Value → Shared → Prop}
    {st sc : Addr} {t n b : Nat} {vs0 : List Value} {ns0 : List Int} {k : Int} {tw : Tw}
    (B : Below A₀ base outer h₀) (F : Fr h₀ L s.heap m) (X : (Hd9.hd.heap_39 w.params).In h₀) (T : Top Hd9.hd.view_39 (looseW Hd9.hd.view_39 [Str.ofString "Tube"]) mean mg mb h₀) (hk : cs.kind = .function) (hdp : dp + 4 < recursionLimit) (hun : un + 240 < cLine)
    (N : News h₀ L s.heap ((st, listOf [Value.ref sc, .int k t].toArray n) :: tw.led)) (ap : Ap ((st, listOf [Value.ref sc, .int k t].toArray n) :: tw.led)) (ok : tw.Ok w b) (hb : b ≤ 100)
    (hne : sc ∉ (st :: tw.led.map (·.1))) (hsc : s.heap.IsList sc vs0.toArray) (hi0 : IntsAre vs0 ns0) (hlen0 : ns0.length ≤ 64) (h0 : 0 ≤ k) (h1 : k ≤ 900)
    (ret : ∀ (t' : Tw) k' tt nn h' tk', News h₀ L h' ((st, listOf [Value.ref sc, .int k' tt].toArray nn) :: t'.led) → t'.Ok w (b + 4) → SameOff (st :: tw.led.map (·.1)) s.heap h' → Fr h₀ L h' m → tw.Same t' s.heap → k ≤ k' → k' ≤ k + 7 → Q (.bool true) { s with heap := h', toks := tk' }) :
    wpC (model PySem.Challenge.rw_fp5015_01.row.prog w) (ktrTop dp un gd cn cs L a ccd cl outer) (call (.ref 87) [.ref st, .ref tw.tb, .ref tw.pd]) Q E s := by
  revert X
  k_fill
  w_top off
  intro X
  obtain ⟨tb, td, tl, tn, pd, sz, lf, sn, o, k1, k2, k3, bt, n1, n2, n3, n4, hh1, hh2, hh3, inc, snt, vs, ws, us, ls, sizes⟩ := tw
  obtain ⟨lo, pl, i1, i2, i3, i4, z1, z2, z3, zb⟩ := ok
  dsimp only [Tw.led] at *
  refine wpC_call ?_
  k_dflt (refine' codeC_SC B F X N T ?kA ?kF ?kK ?k6 ?k7 ?k8 ?k9 ?kB ?kD ?_ ?c2 ?c3 ?c4; (case kA => exact rfl); (case kF => exact rfl); (case kK => exact hk); (case k6 => k_is); (case k7 => k_is); (case k8 => (dsimp only [ktrTop]; omega)); (case k9 => exact BindsTo.of_eq rfl); (case kB => exact rfl); (case kD => decide +kernel); (case c2 => exact rfl); (case c3 => exact rfl); (case c4 => exact rfl); k_whole)
  intro g L' h₁ tk' cells' hS FG F' N' Y' B' X' T' hlt
  k_lt hlt
  k_cells Y'
  (try simp only [List.cons_append, List.nil_append] at N')
  have hsg := hS.isList hsc hne
  clear N F B T
  obtain ⟨a1, ap⟩ := ap.cons
  obtain ⟨a2, ap⟩ := ap.cons
  obtain ⟨a3, ap⟩ := ap.cons
  obtain ⟨a4, ap⟩ := ap.cons
  obtain ⟨a5, ap⟩ := ap.cons
  obtain ⟨a6, ap⟩ := ap.cons
  obtain ⟨a7, ap⟩ := ap.cons
  obtain ⟨a8, ap⟩ := ap.cons
  have hpl := pl
  obtain ⟨q1, q2, q3, hpd⟩ := hpl
  have hlz := i2.length
  have hll := i1.length
  rw [KBw.ints_length] at hll
  have hul := i4.length
  rw [KBw.ints_length] at hul
  (try dsimp only); (try k_fold)
  refine wpC_execs_cons ?_
  refine wpC_Assign_Name (wpC_any ?_)
  k_steps
  refine nextC_next (wpC_execs_cons ?_)
  refine wpC_If (wpC_any ?_)
  k_steps
  · refine wpC_any ?_
    k_steps
    refine nextC_ret ?_
    k_steps
    refine ret ⟨tb, td, _, tn, pd, sz, lf, sn, o, k1, k2, k3, _, _, _, _, _, hh1, hh2, hh3, _, snt, _, _, us, _, sizes.drop 1⟩ _ _ _ _ _ (by simp only [Tw.led]; exact cb_drop (by assumption) (by kcf_all)) ⟨lo, pl, ints_eq (by assumption) (by assumption), i2.drop 1, i3.drop 1, i4, by (dsimp only); omega, by (dsimp only); omega, by (show (sizes.drop 1).length ≤ 5); rw [List.length_drop]; omega, fun z hz => zb z (List.mem_of_mem_drop hz)⟩ (by assumption) (by assumption) ⟨rfl, rfl, rfl, rfl, rfl, rfl, rfl, .inr (fresh_of (g := g) (L' := L') (by assumption) (by k_mem) (by assumption) (AllNe.notMem (by (refine ⟨?_, ?_, ?_, ?_, ?_, ?_, ?_, ?_, ?_, trivial⟩ <;> k_ne))))⟩ (by omega) (by omega)
  · refine wpC_execs_nil ?_
    refine nextC_next (wpC_execs_cons ?_)
    refine wpC_If (wpC_any ?_)
    k_steps
    · refine wpC_execs_cons (wpC_any ?_)
      k_steps
      rename_i ys9 zs9 tt9 nn9 hzI9 hzL9 hzB9 hyl9 Dn9 hn9 tkn9 Fn9 Nn9 on9
      have aDn : AllNe Dn9 [(L' + 1, emptyDict), (st, emptyDict), (tb, emptyDict), (td, emptyDict), (tl, emptyDict), (tn, emptyDict), (pd, emptyDict), (sz, emptyDict), (lf, emptyDict), (sn, emptyDict)] := ⟨on9.1, on9.2.1, on9.2.2.1, on9.2.2.2.1, on9.2.2.2.2.1, on9.2.2.2.2.2.1, on9.2.2.2.2.2.2.1, on9.2.2.2.2.2.2.2.1, on9.2.2.2.2.2.2.2.2.1, on9.2.2.2.2.2.2.2.2.2, trivial⟩
      clear on9
      refine nextC_next (wpC_execs_cons ?_)
      refine wpC_Assign_Name ?_
      refine wpC_Subscript ?_
      refine wpC_Tuple ?_
      refine wpC_spliced_cons (wpC_any ?_)
      k_steps
      refine wpC_spliced_cons (wpC_Call ?_)
      k_steps
      refine wpC_callWith_v rfl ?_
      k_steps
      (try dsimp only [List.cons_append, List.nil_append])
      rename Fr g L' _ _ => hF0
      rename News g L' _ _ => hN0
      refine' ba_makeL hF0 hN0 ?hl hzI9 hzB9 ?hz ?_
      case hl => k_mem
      case hz => omega
      intro D' h' F' N' l1'
      clear hF0 hN0
      have al9 := allNe_lt l1'
      clear l1'
      refine wpC_spliced_cons (wpC_any ?_)
      k_steps
      refine wpC_spliced_cons (wpC_any ?_)
      k_steps
      refine wpC_spliced_nil ?_
      k_steps
      refine unhalt ?_
      rename Fr g L' _ _ => hF1
      rename News g L' _ _ => hN1
      rename_i Dl cl9 hl9 ll Dt ht9 lt9 Dp hp9 lp
      rename _ < (8 : Int) => hr8
      rename ¬ (_ < (3 : Int)) => hn3
      rename _ < (7 : Int) => hr7
      refine' item4 (P := FormP [(Dt, ({ cls := .type "tuple", data := .seq (List.toArray _) 0 } : Obj)), (Dl, listOf (List.toArray _) cl9), (D', baOf (byteArr _))] _) hN1 ?ht (four hr8 hn3 hr7) ?p0 ?p1 ?p2 ?p3 ?h4 ?hs4
      case ht => k_mem
      case p0 => exact FormP.bytes _
      case p1 => exact FormP.ba _ (by k_mem)
      case p2 => exact FormP.list _ _ _ (by k_mem) hzI9
      case p3 => exact FormP.tuple _ _ 0 (by k_mem) hzI9
      case hs4 => (intro i; with_unfolding_all rfl)
      intro v9 P9
      (try dsimp only)
      k_steps
      refine nextC_next (wpC_execs_cons (wpC_any ?_))
      k_steps
      refine nextC_next (wpC_execs_cons ?_)
      refine wpC_Return ?_
      refine wpC_Compare1 ?_
      refine wpC_MethodCall ?_
      k_steps
      refine wpC_callWith_K (K := Hd9.hd.heap_39 w.params) (by k_is) ?_
      k_steps
      (try dsimp only [List.cons_append, List.nil_append])
      rename Fr g L' _ _ => hF2
      rename News g L' _ _ => hN2
      k_dflt (refine' write_call (c := byteArr zs9) ?B ?F ?X ?T ?hk ?hdp ?hun ?hN ?hne ?ext ?ret)
      case B => k_asm
      case F => exact hF2
      case X => k_asm
      case T => k_asm
      case hk => exact rfl
      case hdp => first | ktr_room | (dsimp only [ktrTop]; omega)
      case hun => ktr_units
      case hN => exact cb_drop hN2 (by kcf_all)
      case hne => (refine ⟨?_, ?_⟩ <;> k_ne)
      case ext =>
        refine ext_form P9 (cb_drop hN2 (by kcf_all)) ?hq hzB9 (by omega)
        refine List.forall_mem_cons.mpr ⟨not_mem3 ?_ ?_ ?_, List.forall_mem_cons.mpr ⟨not_mem3 ?_ ?_ ?_, List.forall_mem_cons.mpr ⟨not_mem3 ?_ ?_ ?_, List.forall_mem_nil _⟩⟩⟩ <;> k_ne
      case ret =>
        intro h8 tk8 N8 S8 F8
        refine' ledgerN hN2 N8 S8 ?U ?_
        case U => k_updF
        clear hF2 hN2 N8 S8
        intro N9
        (try simp only [List.cons_append, List.nil_append] at N9)
        k_steps
        refine nextC_ret (nextC_ret ?_)
        k_steps
        refine ret ⟨tb, td, tl, tn, pd, sz, lf, sn, o, k1, k2, k3, bt, n1, n2, _, n4, hh1, hh2, hh3, inc, snt ++ byteArr zs9, vs, ws, us ++ ys9, ls, sizes⟩ _ _ _ _ _ (by simp only [Tw.led]; exact cb_drop (by assumption) (by kcf_all)) ⟨lo, pl, i1, i2, i3, (by dsimp only; rw [bInts_append, bInts_byteArr hzB9]; exact i4.append hzI9), z1, (by dsimp only; rw [Array.size_append, byteArr_size]; omega), z3, zb⟩ (by assumption) (by assumption) ⟨rfl, rfl, rfl, rfl, rfl, rfl, rfl, .inl rfl⟩ (by omega) (by omega)
    · refine wpC_execs_nil ?_
      refine nextC_next (wpC_execs_cons (wpC_any ?_))
      k_steps
      all_goals (show wpAny _ _ (call (.ref 49) [.ref tb]) _ _ _)
      all_goals k_steps
      all_goals refine nextC_ret ?_
      all_goals k_steps
      all_goals refine ret ⟨tb, td, tl, tn, pd, sz, lf, sn, o, k1, k2, k3, bt, n1, n2, n3, n4, hh1, hh2, hh3, inc, snt, vs, ws, us, ls, sizes⟩ _ _ _ _ _ (by simp only [Tw.led]; exact cb_drop (by assumption) (by kcf_all)) ⟨lo, pl, i1, i2, i3, i4, z1, by (dsimp only); omega, z3, zb⟩ (by assumption) (by assumption) ⟨rfl, rfl, rfl, rfl, rfl, rfl, rfl, .inl rfl⟩ (by omega) (by omega)
end Mine
end DePart

section FoPart
set_option maxRecDepth 100000
set_option maxHeartbeats 4000000
namespace Mine
open PySem PySem.W PySem.Calls PySem.Spec PyProof.Rows
open Sem (wp)

section
variable {prog : Program} {w : World} {A : Around} {s : Shared} {env : Env}
theorem codeC_loop {M : Model} {c : Code} {R : Result → Shared → Prop} (ok : okCode c = true) (hq : c.quiet = true) (I : Nat → Shared → Prop)
    (turn : ∀ n s, I n s → wpC M (A.under c) (M.den c) (fun fin s' => match fin with
        | .done f => R (.ok f) s'
        | .again c' => (c' = c ∧ ∃ m, m < n ∧ I m s') ∨ (c'.quiet = true ∧ codeC M A c' R s')) (fun e s' => R (.error e) s') s) :
    ∀ (n : Nat) (s : Shared), I n s → codeC M A c R s := by
  intro n
  induction n using Nat.strongRecOn with
  | ind n ih =>
    intro s h
    refine codeC_of_tree ok (wpC_mono (turn n s h) (fun fin s' hf => ?_) fun _ _ x => x)
    cases fin with
    | done f => exact hf
    | again c' =>
      rcases hf with ⟨rfl, m, hm, hI⟩ | hf
      · exact ⟨hq, ih m hm s' hI⟩
      · exact hf
theorem wpC_no {α : Type} {M : Model} {t : Sem α} {k : Value → Sem Unit} {Q : α → Shared → Prop} {E : Value → Shared → Prop} (h : wpC M A t Q noE s) : wpC M A (t.onRaise k) Q E s :=
  wpC_onRaise (wpC_mono h (fun _ _ x => x) fun _ _ x => x.elim)
theorem codeC_block {stmts : List Stmt} {R : Result → Shared → Prop} (h : wpC (model prog w) A (execs stmts env) (fun f s' => R (.ok f) s') noE s) : codeC (model prog w) A (.block stmts env) R s := by
  refine codeC_of_tree rfl ?_
  show wpC _ _ (do return Fin.done (← (execs stmts env).onRaise (fun x => do noteFrame x env; theTreesLotGoes x))) _ _ s
  exact wpC_bind (wpC_no (wpC_mono h (fun _ _ x => wpC_pure x) fun _ _ x => x))
theorem codeC_for {R : Result → Shared → Prop} {target it body orelse} (I : Nat → Shared → Prop)
    (turn : ∀ n s, I n s → wpAny (model prog w) A (pyNext it) (fun r s₁ => match r with
      | none => wpC (model prog w) A (execs orelse env) (fun f s₃ => R (.ok f) s₃) noE s₁
      | some v => wpAny (model prog w) A (assign target env v) (fun _ s₂ => wpC (model prog w) A (execs body env) (fun f s₃ => match f with
          | .next | .cont => ∃ m, m < n ∧ I m s₃
          | .brk => R (.ok .next) s₃
          | .ret v => R (.ok (.ret v)) s₃) noE s₂) noE s₁) noE s)
    (n : Nat) (h : I n s) (ht : ∀ v, letOwnedTupleGo target it v = pure () := by intro _; rfl) : codeC (model prog w) A (.forLoop target it body orelse env) R s := by
  refine codeC_loop rfl rfl I (fun n s hI => ?_) n s h
  show wpC _ _ ((forTurn target it body orelse env).onRaise (fun x => do noteFrame x env; theTreesLotGoes x)) _ _ s
  refine wpC_no ?_
  simp only [forTurn]
  refine wpC_bind (wpC_standAt (wpC_bind (wpC_no (wpC_any (wpAny_mono (turn n s hI) (fun r s₁ h₁ => ?_) fun _ _ x => x)))))
  cases r with
  | none => exact wpC_pure (.inr ⟨rfl, codeC_block h₁⟩)
  | some v =>
    refine wpC_bind (wpC_of_eq (ht v) (wpC_pure ?_))
    refine wpC_bind (wpC_any (wpAny_mono h₁ (fun _ s₂ h₂ => wpC_bind (wpC_mono h₂ (fun f s₃ h₃ => ?_) fun _ _ x => x)) fun _ _ x => x))
    cases f with
    | next => exact wpC_pure (.inl ⟨rfl, h₃⟩)
    | cont => exact wpC_pure (.inl ⟨rfl, h₃⟩)
    | brk => exact wpC_pure h₃
    | ret v => exact wpC_pure h₃
theorem wpC_For {target iter body orelse pos} {Q : Flow → Shared → Prop}
    (h : wpC (model prog w) A (eval iter env) (fun x s₁ => wpAny (model prog w) A (pyIter x) (fun it s₂ => codeC (model prog w) A (.forLoop target it body orelse env) (fun r s' => match r with | .ok f => Q f s' | .error _ => False) s₂) noE s₁) noE s)
    (hs : ∀ x, foldedSetIterable iter env x = pure x := by intro _; rfl) : wpC (model prog w) A (exec (.For target iter body orelse pos) env) Q noE s := by
  rw [exec_For]
  refine wpC_bind (wpC_standAt (wpC_bind (wpC_mono h (fun x s₁ h₁ => wpC_bind (wpC_of_eq (hs x) (wpC_pure (wpC_bind (wpC_standAt (wpC_bind (wpC_any (wpAny_holding (wpAny_mono h₁ (fun it s₂ h₂ => ?_) fun _ _ x => x))))))))) fun _ _ x => x)))
  unfold runOwn
  refine wpC_no (wpC_run (codeC_mono h₂ fun r s' hr => ?_))
  cases r with
  | ok f => exact hr
  | error e => exact hr
end
/-- the range iterator with `r` to go from `i` -/
abbrev riObj (i r : Int) : Obj := { cls := .type "range_iterator", data := .fields #[rawInt i, rawInt r, rawInt 1] }
end Mine
end FoPart

section Ap2Part
set_option maxRecDepth 100000
set_option maxHeartbeats 4000000
namespace Mine
open PySem PySem.W PySem.Calls PySem.Spec PyProof.Rows
theorem plain_ne {h₀ h : Heap} {L pd lf sz sn st : Addr} {news : List (Addr × Obj)} (N : News h₀ L h news) (f1 : h.get? sn = none) (f2 : h.get? pd = none) (f3 : h.get? sz = none) (f4 : h.get? lf = none)
    (ne : @Ne Nat sn pd ∧ @Ne Nat sn sz ∧ @Ne Nat sn lf ∧ @Ne Nat sn st ∧ @Ne Nat pd sz ∧ @Ne Nat pd lf ∧ @Ne Nat pd st ∧ @Ne Nat sz lf ∧ @Ne Nat sz st ∧ @Ne Nat lf st) :
    AllNe lf news ∧ AllNe sz ((lf, emptyDict) :: news) ∧ AllNe pd ((sz, emptyDict) :: (lf, emptyDict) :: news) ∧ AllNe sn ((pd, emptyDict) :: (sz, emptyDict) :: (lf, emptyDict) :: news) := by
  obtain ⟨a1, a2, a3, a4, a5, a6, a7, a8, a9, a10⟩ := ne
  exact ⟨allNe_of N f4, ⟨Ne.symm a8, allNe_of N f3⟩, ⟨Ne.symm a5, Ne.symm a6, allNe_of N f2⟩, ⟨Ne.symm a1, Ne.symm a2, Ne.symm a3, allNe_of N f1⟩⟩
theorem make_ne {h₀ h : Heap} {L tb td tl tn : Addr} {news : List (Addr × Obj)} (N : News h₀ L h news) (f1 : h.get? tb = none) (f2 : h.get? td = none) (f3 : h.get? tl = none) (f4 : h.get? tn = none)
    (ne : @Ne Nat tl tn ∧ @Ne Nat tl tb ∧ @Ne Nat tl td ∧ @Ne Nat tn tb ∧ @Ne Nat tn td ∧ @Ne Nat tb td) :
    AllNe td news ∧ AllNe tb ((td, emptyDict) :: news) ∧ AllNe tl ((tb, emptyDict) :: (td, emptyDict) :: news) ∧ AllNe tn ((tl, emptyDict) :: (tb, emptyDict) :: (td, emptyDict) :: news) := by
  obtain ⟨a1, a2, a3, a4, a5, a6⟩ := ne
  exact ⟨allNe_of N f2, ⟨Ne.symm a6, allNe_of N f1⟩, ⟨Ne.symm a2, Ne.symm a3, allNe_of N f3⟩, ⟨a1, Ne.symm a4, Ne.symm a5, allNe_of N f4⟩⟩
theorem led_add {h₀ h h' : Heap} {L : Addr} {news new : List (Addr × Obj)} (N : News h₀ L h news) (S : SameOff [] h h') (N1 : News h₀ L h' new) : News h₀ L h' (new ++ news) := fun p hp => by
  rcases List.mem_append.mp hp with hp | hp
  · exact N1 p hp
  · exact S.news N p hp
section
variable {prog : Program} {w : World} {A : Around} {E : Value → Shared → Prop} {s : Shared} {D : Addr} {vs : List Value} {n : Nat} {v : Value} {Q : Value → Shared → Prop} {h₀ : Heap} {L : Addr} {news : List (Addr × Obj)}
theorem clear_list (N : News h₀ L s.heap news) (hD : (D, listOf vs.toArray n) ∈ news) (hz : vs.length ≤ 1000) (h : ∀ h', SameOff [D] s.heap h' → Q .none { s with heap := h' }) : wpAny (model prog w) A (call (.builtin "list.clear") [.ref D]) Q E s := by
  have z := N _ hD
  exact call_meets PySem.F.slot_list_clear ⟨_, z.1, rfl⟩ PySem.F.entry_list_clear (PySem.F.args_list_clear_1 _) (PySem.AutoSeq1.list_clear_list_0 D vs.toArray n (by rw [sizeLine_eq]; simp; omega)) ⟨z.1, h _ (SameOff.of_but (Heap.SameBut.update ..))⟩
theorem append_list (N : News h₀ L s.heap news) (hD : (D, listOf vs.toArray n) ∈ news) (hz : vs.length ≤ 1000) (h : ∀ h', SameOff [D] s.heap h' → Q .none { s with heap := h' }) : wpAny (model prog w) A (call (.builtin "list.append") [.ref D, v]) Q E s := by
  have z := N _ hD
  refine wpAny_call_entry slot_list_append ⟨_, z.1, rfl⟩ entry_list_append ?_ (args_list_append _ _)
  show wpAny _ _ (updateSeq D (·.push v) >>= fun _ => ret .none) _ _ s
  refine wpAny_bind (wpAny_updateSeq (hz := by rw [sizeLine_eq]; simp; omega) z.1 rfl ?_)
  exact wpAny_pure ⟨_, rfl, h _ (SameOff.of_but (Heap.SameBut.update ..))⟩
end
end Mine
end Ap2Part

section BbPart
set_option maxRecDepth 100000
set_option maxHeartbeats 4000000
namespace Mine
open PySem PySem.W PySem.Calls PySem.Spec PyProof.Rows Builtin
theorem bb_no_bytes : typeLookup (.type "bytearray") "__bytes__" = pure none := by rw [typeLookup_type, builtinLookup_eq_fast]; kernel_rfl
theorem bb_no_index : typeLookup (.type "bytearray") "__index__" = pure none := by rw [typeLookup_type, builtinLookup_eq_fast]; kernel_rfl
section
variable {prog : Program} {w : World} {A : Around} {E : Value → Shared → Prop} {s : Shared} {F : Addr} {b : Array UInt8} {Q : Value → Shared → Prop}
theorem bb_new (hF : s.heap.get? F = some (baOf b)) (hz : b.size ≤ 1000) (h : ∀ t tk, Q (.bytes b t) { s with toks := tk }) : codeAny (model prog w) A (.call (.builtin "bytes.__new__") ⟨[.type "bytes", .ref F], []⟩) (wants Q E) s := by
  have hT : s.TypeIs (.ref F) "bytearray" := ⟨_, hF, rfl⟩
  refine codeAny_of_tree ?_
  show wpAny _ A.in1 (do checkBuiltinCall "bytes.__new__" ⟨[.type "bytes", .ref F], []⟩; again (.builtin "bytes.__new__" ⟨[.type "bytes", .ref F], []⟩)) _ _ s
  refine wpAny_bind (wpAny_of_eq (PySem.F.bm_newCall _) (wpAny_pure ⟨plainId_quiet PySem.F.bm_plain _, codeAny_builtin PySem.F.bm_entry ?_⟩))
  rw [Around.under_plainId PySem.F.bm_plain _]
  unfold Builtin.«bytes.__new__»
  refine wpAny_bind (wpAny_of_eq (a := true) rfl ?_)
  refine bm_if_false rfl ?_
  refine wpAny_bind (wpAny_of_eq PySem.F.bm_sub ?_)
  refine bm_if_false rfl ?_
  refine wpAny_bind (wpAny_of_eq (PySem.F.bm_bind _) ?_)
  refine wpAny_bind (wpAny_of_eq (a := ()) rfl ?_)
  refine wpAny_bind (wpAny_of_eq (a := ()) rfl ?_)
  refine bm_if_false rfl ?_
  refine wpAny_bind (wpAny_specialOf hT bb_no_bytes ?_)
  refine wpAny_bind (wpAny_bind ?_)
  show wpAny _ _ (load F >>= _) _ _ _
  refine wpAny_bind (wpAny_load hF ?_)
  refine wpAny_pure (wpAny_pure ?_)
  refine bm_if_false rfl ?_
  refine wpAny_bind (wpAny_specialOf hT bb_no_index ?_)
  refine bm_if_true rfl ?_
  first
    | show wpAny _ _ (Builtin.Bytes.buffer? "bytes.__new__" (.ref F) true >>= _) _ _ _
    | (refine wpAny_bind ?_; show wpAny _ _ (Builtin.Bytes.buffer? "bytes.__new__" (.ref F) true >>= _) _ _ _)
  refine wpAny_bind (buffer_ba hF ?_)
  dsimp only
  refine wpAny_bind (wpAny_rule ?_)
  refine wpAny_bind (wpAny_mkBytes ?_ (by rw [sizeLine_eq]; omega))
  show wpAny _ _ (if (Value.type "bytes" == Value.type "bytes") = true then _ else _) _ _ _
  refine bm_if_true (by decide) ?_
  first
    | exact wpAny_pure (h _ _)
    | exact wpAny_bind (wpAny_pure (wpAny_pure (h _ _)))
theorem bytes_ba (hF : s.heap.get? F = some (baOf b)) (hz : b.size ≤ 1000) (h : ∀ t tk, Q (.bytes b t) { s with toks := tk }) : wpAny (model prog w) A (call (.type "bytes") [.ref F]) Q E s := by
  refine callType_codes (Q₁ := fun obj s₁ => s₁.TypeIs obj "bytes" ∧ Q obj s₁) PySem.F.bm_called (PySem.F.bm_typeCall _) PySem.F.entry_object_init
    (bb_new hF hz fun t tk => ⟨typeIs_bytes _ _ _, h t tk⟩) fun obj s₁ h₁ => ?_
  exact ⟨h₁.1, PySem.F.args_object_init_2 obj _, object_init_meets PySem.F.bm_called.init.lookup PySem.F.bm_called.made (by decide) prog w A.in1 _ s₁ ⟨h₁.1, rfl, h₁.2⟩⟩
end
theorem bytes_baN {prog : Program} {w : World} {A : Around} {E : Value → Shared → Prop} {s : Shared} {F : Addr} {b : Array UInt8} {Q : Value → Shared → Prop} {h₀ : Heap} {L : Addr} {news : List (Addr × Obj)} (N : News h₀ L s.heap news) (hF : (F, baOf b) ∈ news) (hz : b.size ≤ 1000) (h : ∀ t tk, Q (.bytes b t) { s with toks := tk }) : wpAny (model prog w) A (call (.type "bytes") [.ref F]) Q E s := bytes_ba (N _ hF).1 hz h
theorem drop_put {P : Prop} {h₀ h h' : Heap} {L d : Addr} {m : Str → Option Value} {o : Obj} {news rest : List (Addr × Obj)} (F : Fr h₀ L h m) (N : News h₀ L h news) (hd : (d, o) ∈ news) (S : SameOff [d] h h') (U : Rest [d] news rest) (k : Fr h₀ L h' m → News h₀ L h' rest → P) : P := by
  have z := N _ hd
  exact ledgerN (news1 := []) N (fun _ hp => nomatch hp) S U fun N' => k (S.fr F (by intro hm; exact z.2.1 (List.mem_singleton.mp hm).symm) (fun b hb => by rw [List.mem_singleton.mp hb]; exact z.2.2)) N'
end Mine
end BbPart

section AqPart
set_option maxRecDepth 100000
set_option maxHeartbeats 4000000
namespace Mine
open PySem PySem.W PySem.Calls PySem.Spec PyProof.Rows
/-- a ledger picked out of another by places -/
def pickL {α : Type} (l : List α) (idx : List Nat) : List α := idx.filterMap (l[·]?)
theorem mem_pickL {α : Type} {l : List α} {idx : List Nat} {a : α} (h : a ∈ pickL l idx) : a ∈ l := by
  obtain ⟨i, _, hi⟩ := List.mem_filterMap.mp h
  exact List.mem_of_getElem? hi
theorem nodup_pickL {α : Type} {l : List α} (h : l.Nodup) : ∀ {idx : List Nat}, idx.Nodup → (pickL l idx).Nodup
  | [], _ => List.nodup_nil
  | i :: r, hn => by
    have hn' := List.nodup_cons.mp hn
    have ih := nodup_pickL h hn'.2
    unfold pickL at ih ⊢
    rw [List.filterMap_cons]
    cases e : l[i]? with
    | none => exact ih
    | some a =>
      refine List.nodup_cons.mpr ⟨fun hm => ?_, ih⟩
      obtain ⟨j, hj, e'⟩ := List.mem_filterMap.mp hm
      obtain ⟨hi, _⟩ := List.getElem?_eq_some_iff.mp e
      have := (List.getElem?_inj hi h).mp (e.trans e'.symm)
      subst this
      exact hn'.1 hj
theorem map_pickL {α β : Type} (f : α → β) (l : List α) : ∀ (idx : List Nat), (pickL l idx).map f = pickL (l.map f) idx
  | [] => rfl
  | i :: r => by
    have ih := map_pickL f l r
    unfold pickL at ih ⊢
    rw [List.filterMap_cons, List.filterMap_cons, List.getElem?_map]
    cases l[i]? with
    | none => exact ih
    | some a => rw [List.map_cons, ih]; rfl
theorem Ap.pick {l : List (Addr × Obj)} (ap : Ap l) (idx : List Nat) (hn : idx.Nodup) : Ap (pickL l idx) := by
  unfold Ap
  rw [map_pickL]
  exact nodup_pickL ap hn
theorem Ap.pick' {l l' : List (Addr × Obj)} (ap : Ap l) (idx : List Nat) (hn : idx.Nodup) (e : pickL l idx = l') : Ap l' := e ▸ ap.pick idx hn
theorem news_pick {h₀ h : Heap} {L : Addr} {l l' : List (Addr × Obj)} (N : News h₀ L h l) (idx : List Nat) (e : pickL l idx = l') : News h₀ L h l' := fun p hp => N p (mem_pickL (e ▸ hp))
theorem Ap.same {l l' : List (Addr × Obj)} (ap : Ap l) (e : l.map (·.1) = l'.map (·.1)) : Ap l' := by
  unfold Ap at ap ⊢
  rwa [← e]
theorem Ap.off {l r : List (Addr × Obj)} (ap : Ap (l ++ r)) : ∀ p ∈ r, p.1 ∉ l.map (·.1) := by
  intro p hp hm
  unfold Ap at ap
  rw [List.map_append, List.nodup_append] at ap
  exact ap.2.2 _ hm _ (List.mem_map_of_mem hp) rfl
theorem Ap.right {l r : List (Addr × Obj)} (ap : Ap (l ++ r)) : Ap r := by
  unfold Ap at ap ⊢
  rw [List.map_append, List.nodup_append] at ap
  exact ap.2.1
theorem Ap.left {l r : List (Addr × Obj)} (ap : Ap (l ++ r)) : Ap l := by
  unfold Ap at ap ⊢
  rw [List.map_append, List.nodup_append] at ap
  exact ap.1
/-- a call changed the objects `mods`; all else stands -/
theorem swapL {h₀ h h' : Heap} {L : Addr} {mods mods' rest : List (Addr × Obj)} (N : News h₀ L h (mods ++ rest)) (ap : Ap (mods ++ rest)) (N1 : News h₀ L h' mods') (S : SameOff (mods.map (·.1)) h h') : News h₀ L h' (mods' ++ rest) := fun p hp => by
  rcases List.mem_append.mp hp with hp | hp
  · exact N1 p hp
  · have z := N p (List.mem_append_right _ hp)
    exact ⟨S _ _ z.1 (ap.off p hp), z.2⟩
theorem frOff {h₀ h h' : Heap} {L : Addr} {m : Str → Option Value} {mods : List (Addr × Obj)} (F : Fr h₀ L h m) (N : News h₀ L h mods) (S : SameOff (mods.map (·.1)) h h') : Fr h₀ L h' m :=
  S.fr F (fun hm => by obtain ⟨p, hp, e⟩ := List.mem_map.mp hm; exact (N p hp).2.1 e) fun b hb => by obtain ⟨p, hp, e⟩ := List.mem_map.mp hb; exact e ▸ (N p hp).2.2
/-- fresh objects lie apart from those that stood -/
theorem Ap.fresh {h₀ h : Heap} {L : Addr} {l r : List (Addr × Obj)} (N : News h₀ L h r) (ap : Ap r) (hl : Ap l) (f : ∀ p ∈ l, h.get? p.1 = none) : Ap (l ++ r) := by
  unfold Ap at ap hl ⊢
  rw [List.map_append, List.nodup_append]
  refine ⟨hl, ap, fun a ha b hb e => ?_⟩
  subst e
  obtain ⟨p, hp, rfl⟩ := List.mem_map.mp ha
  obtain ⟨q, hq, e⟩ := List.mem_map.mp hb
  have := (N q hq).1
  rw [e, f p hp] at this
  cases this
theorem Ap.ne {l : List (Addr × Obj)} (ap : Ap l) (i j : Nat) {p q : Addr × Obj} (hij : i ≠ j) (hp : l[i]? = some p) (hq : l[j]? = some q) : @Ne Nat p.1 q.1 := by
  intro e
  have h1 : (l.map (·.1))[i]? = some p.1 := by rw [List.getElem?_map, hp]; rfl
  have h2 : (l.map (·.1))[j]? = some q.1 := by rw [List.getElem?_map, hq]; rfl
  obtain ⟨hi, _⟩ := List.getElem?_eq_some_iff.mp h1
  exact hij ((List.getElem?_inj hi ap).mp (by rw [h1, h2]; exact congrArg some e))
end Mine
end AqPart

section LdPart
set_option maxRecDepth 100000
set_option maxHeartbeats 4000000
namespace Mine
open PySem PySem.W PySem.Calls PySem.Spec PyProof.Rows
theorem codeC_full {prog : Program} {w : World} {A : Around} {R : Result → Shared → Prop} {s : Shared} {name : Str} {params : Arguments} {body : List Stmt} {scope : Scope} {dV kV pm cd doc : Value} {a : Addr} {o : Obj} {args : Args} {binds : List (Str × Value)}
    (hroom : A.depth < recursionLimit) (ho : s.heap.get? a = some o) (hdata : o.data = .func { docDef name params body scope pm cd doc with defaults := dV, kwdefaults := kV }) (hlim : s.heap.NoLimit) (hcd : s.heap.CodeRec cd name)
    (hbind : BindsTo s { docDef name params body scope pm cd doc with defaults := dV, kwdefaults := kV } args binds) (hloc : ∀ x ∈ binds, scope.names.lookup x.1 = some .local)
    (h : ∀ h₁, Fr s.heap s.heap.objs.size h₁ (fun x => binds.reverse.lookup x) → wpC (model prog w) (A.deeper (envOf name scope s.heap.objs.size a cd)) (execs body (envOf name scope s.heap.objs.size a cd))
        (fun f s' => R (.ok (.ret (match f with | .ret v => v | _ => .none))) s') noE { s with heap := h₁, toks := s.toks + binds.length })
    (hco : scope.isCoroutine = false := by rfl) (hgen : scope.isGenerator = false := by rfl) (hk : scope.kind = .function := by rfl) (hcell : ∀ x ∈ scope.names, x.2 ≠ .cell := by decide) : codeC (model prog w) A (.call (.ref a) args) R s := by
  refine codeC_call_function hroom ho hdata hco hgen rfl hcd (hbind _ _ _ _ ?_)
  refine wpAny_newFunctionEnv hcell hloc (fun h₁ hns hsb => ⟨hlim.fresh _ hsb, codeC_func ?_⟩) hk
  exact h h₁ ⟨hns, fun b o e => hsb.extBut b o (Nat.ne_of_lt (Heap.lt_size e)) (Heap.get?_push_of_some _ e), Nat.le_refl _⟩
theorem goodG_of {c : ClaimW} {cl : Str → Option Addr} {mean : ExcName → Option Value} {args : List WData} {s₁ : Shared} {M : Model} {A : Around} {t : Sem Value} {s : Shared} (h : wpC M A t (fun v s' => GoodW c cl mean args s₁ (.ok (.ret v)) s') noE s) : wpC M A t (fun v s' => GoodWG c cl mean args s₁ (.ok (.ret v)) s') (fun e s' => GoodWG c cl mean args s₁ (.error e) s') s :=
  wpC_mono h (fun _ _ g => GoodW.toG g) fun _ _ x => x.elim

/-- the law's ledger: state, the script's cut, the two lists, the two pairs -/
def lawLed (st sc pl tu : Addr) (t n nsc npl ntu : Nat) (k : Int) (ws : List Value) (t0 t1 : Tw) : List (Addr × Obj) :=
  (st, listOf #[Value.ref sc, .int k t] n) :: (sc, listOf ws.toArray nsc) :: (pl, listOf #[Value.ref t0.pd, .ref t1.pd] npl) :: (tu, listOf #[Value.ref t0.tb, .ref t1.tb] ntu) :: (t0.led ++ t1.led)
abbrev sK : Str := Str.ofString "k"
abbrev sW : Str := Str.ofString "which"
abbrev lawMap (st pl hd tu : Addr) (sp : Value) : Str → Option Value := fun y => if y = Str.ofString "tubes" then some (Value.ref tu) else if y = Str.ofString "handed" then some (Value.ref hd) else if y = Str.ofString "plains" then some (Value.ref pl) else if y = Str.ofString "state" then some (Value.ref st) else List.lookup y [(Str.ofString "script", sp)].reverse
structure LawOk (w : World) (ws : List Value) (ns : List Int) (t0 t1 : Tw) (b : Nat) : Prop where
  hi : IntsAre ws ns
  hn : ns.length ≤ 60
  ok0 : t0.Ok w b
  ok1 : t1.Ok w b
/-- where the law stands before `handed` is spoiled -/
def At5 (w : World) (base : Heap) (L : Addr) (s₁ : Shared) (s' : Shared) : Prop :=
  ∃ sp, ∃ st sc pl hd tu d0 d1 t n nsc npl ntu nd0 nd1 ndh k ws ns z0 z1 t0 t1 h tk, s' = { s₁ with heap := h, toks := tk } ∧ Fr base L h (lawMap st pl hd tu sp) ∧
    News base L h ((d0, listOf (List.toArray z0) nd0) :: (d1, listOf (List.toArray z1) nd1) :: (hd, listOf #[Value.ref d0, .ref d1] ndh) :: lawLed st sc pl tu t n nsc npl ntu k ws t0 t1) ∧
    Ap ((d0, listOf (List.toArray z0) nd0) :: (d1, listOf (List.toArray z1) nd1) :: (hd, listOf #[Value.ref d0, .ref d1] ndh) :: lawLed st sc pl tu t n nsc npl ntu k ws t0 t1) ∧
    LawOk w ws ns t0 t1 0 ∧ t0.snt = #[] ∧ 0 ≤ k ∧ k ≤ 42 ∧ z0.length ≤ 5 ∧ z1.length ≤ 5
/-- `handed` is spoiled -/
def At7 (w : World) (base : Heap) (L : Addr) (s₁ : Shared) (s' : Shared) : Prop :=
  ∃ sp, ∃ st sc pl hd tu t n nsc npl ntu k ws ns t0 t1 h tk, s' = { s₁ with heap := h, toks := tk } ∧ Fr base L h (lawMap st pl hd tu sp) ∧
    News base L h (lawLed st sc pl tu t n nsc npl ntu k ws t0 t1) ∧ Ap (lawLed st sc pl tu t n nsc npl ntu k ws t0 t1) ∧ LawOk w ws ns t0 t1 0 ∧ t0.snt = #[] ∧ 0 ≤ k ∧ k ≤ 42
/-- before the loop -/
def At9 (w : World) (base : Heap) (L : Addr) (s₁ : Shared) (s' : Shared) : Prop :=
  ∃ sp, ∃ st sc pl hd tu t n nsc npl ntu k ws ns t0 t1 h tk, s' = { s₁ with heap := h, toks := tk } ∧ Fr base L h (lawMap st pl hd tu sp) ∧
    News base L h (lawLed st sc pl tu t n nsc npl ntu k ws t0 t1) ∧ Ap (lawLed st sc pl tu t n nsc npl ntu k ws t0 t1) ∧ LawOk w ws ns t0 t1 2 ∧ 0 ≤ k ∧ k ≤ 42
/-- between the turns: `n` are left -/
def AtL (w : World) (base : Heap) (L : Addr) (s₁ : Shared) (st sc pl hd tu it : Addr) (cnt : Nat) (ws : List Value) (ns : List Int) (n : Nat) (s' : Shared) : Prop :=
  ∃ sp, ∃ t nn nsc npl ntu k t0 t1 ok ow h tk, s' = { s₁ with heap := h, toks := tk } ∧ Fr base L h (fun y => if y = sW then ow else if y = sK then ok else lawMap st pl hd tu sp y) ∧
    News base L h ((it, riObj ((cnt : Int) - (n : Int)) (n : Int)) :: lawLed st sc pl tu t nn nsc npl ntu k ws t0 t1) ∧ Ap ((it, riObj ((cnt : Int) - (n : Int)) (n : Int)) :: lawLed st sc pl tu t nn nsc npl ntu k ws t0 t1) ∧ LawOk w ws ns t0 t1 (2 + 4 * (cnt - n)) ∧ n ≤ cnt ∧ cnt ≤ 16 ∧ 0 ≤ k ∧ k ≤ 43 + 8 * (cnt - n : Nat)
/-- behind the loop -/
def AtE (w : World) (base : Heap) (L : Addr) (s₁ : Shared) (s' : Shared) : Prop :=
  ∃ sp, ∃ st sc pl hd tu t nn nsc npl ntu k ws ns t0 t1 ok ow h tk, s' = { s₁ with heap := h, toks := tk } ∧ Fr base L h (fun y => if y = sW then ow else if y = sK then ok else lawMap st pl hd tu sp y) ∧
    News base L h (lawLed st sc pl tu t nn nsc npl ntu k ws t0 t1) ∧ Ap (lawLed st sc pl tu t nn nsc npl ntu k ws t0 t1) ∧ LawOk w ws ns t0 t1 100 ∧ 0 ≤ k ∧ k ≤ 300
theorem Tw.Ok.mono {w : World} {t : Tw} {b b' : Nat} (h : t.Ok w b) (e : b ≤ b') : t.Ok w b' := ⟨h.lo, h.pl, h.i1, h.i2, h.i3, h.i4, h.z1, Nat.le_trans h.z2 e, h.z3, h.hb⟩
theorem ok_ab {w : World} {t : Tw} {a b c : Nat} (h : t.Ok w 0) (e : t.snt = #[]) : Tw.Ok w { t with snt := #[] ++ #[97, 98], us := t.us ++ [Value.int 97 a, Value.int 98 b], n3 := c } 2 := by
  refine ⟨h.lo, h.pl, h.i1, h.i2, h.i3, ?_, h.z1, Nat.le_refl 2, h.z3, h.hb⟩
  have i4 := h.i4
  rw [e] at i4
  exact i4.append (.cons 97 a (.cons 98 b .nil))
theorem ok_new {w : World} {tb td tl tn pd sz lf sn : Addr} {o : Obj} {k1 k2 k3 bt n1 n2 n3 n4 : Nat} {hh1 hh2 hh3 : Int} {ys zs : List Value} {lefts sizes : List Int} (lo : (pd == sysModules) = false) (pl : PlObj w o lf sz sn) (i1 : IntsAre ys lefts) (i2 : IntsAre zs sizes) (z1 : lefts.length ≤ 14) (z2 : sizes.length ≤ 5)
    (b1 : ∀ z ∈ lefts, 0 ≤ z ∧ z < 256) (b2 : ∀ z ∈ sizes, 0 ≤ z ∧ z < 256) : Tw.Ok w ⟨tb, td, tl, tn, pd, sz, lf, sn, o, k1, k2, k3, bt, n1, n2, n3, n4, hh1, hh2, hh3, byteArr lefts, #[], ys, zs, [], zs, sizes⟩ 0 :=
  ⟨lo, pl, by dsimp only; rw [bInts_byteArr b1]; exact i1, i2, i2, .nil, by dsimp only; rw [byteArr_size]; exact z1, Nat.le_refl 0, z2, b2⟩
section
variable {M : Model} {A : Around} {rest : List Stmt} {env : Env} {Q : Flow → Shared → Prop} {E : Value → Shared → Prop} {s : Shared} {a b c d : Stmt}
theorem cutA1 (I : Shared → Prop) (tail : ∀ s', I s' → wpC M A (execs rest env) Q E s') (walk : (∀ s', I s' → wpC M A (execs rest env) Q E s') → wpC M A (execs (a :: rest) env) Q E s) : wpC M A (execs (a :: rest) env) Q E s := walk tail
theorem cutA2 (I : Shared → Prop) (tail : ∀ s', I s' → wpC M A (execs rest env) Q E s') (walk : (∀ s', I s' → wpC M A (execs rest env) Q E s') → wpC M A (execs (a :: b :: rest) env) Q E s) : wpC M A (execs (a :: b :: rest) env) Q E s := walk tail
theorem cutA4 (I : Shared → Prop) (tail : ∀ s', I s' → wpC M A (execs rest env) Q E s') (walk : (∀ s', I s' → wpC M A (execs rest env) Q E s') → wpC M A (execs (a :: b :: c :: d :: rest) env) Q E s) : wpC M A (execs (a :: b :: c :: d :: rest) env) Q E s := walk tail
end
theorem cutC {M : Model} {A : Around} {rest : List Stmt} {env : Env} {Q : Flow → Shared → Prop} {E : Value → Shared → Prop} {s : Shared} {I : Shared → Prop} (now : I s) (tail : ∀ s', I s' → wpC M A (execs rest env) Q E s') : wpC M A (execs rest env) Q E s := tail s now
theorem mapNorm {m : Str → Option Value} {a b ow ok : Option Value} {K W : Str} : (fun y => if y = W then a else if y = K then b else if y = W then ow else if y = K then ok else m y) = fun y => if y = W then a else if y = K then b else m y := by
  funext y
  by_cases h1 : y = W
  · simp only [if_pos h1]
  · by_cases h2 : y = K
    · simp only [if_neg h1, if_pos h2]
    · simp only [if_neg h1, if_neg h2]
theorem mapNone {m : Str → Option Value} {K W : Str} (hK : m K = none) (hW : m W = none) : m = fun y => if y = W then none else if y = K then none else m y := by
  funext y
  by_cases h1 : y = W
  · rw [if_pos h1, h1, hW]
  · rw [if_neg h1]
    by_cases h2 : y = K
    · rw [if_pos h2, h2, hK]
    · rw [if_neg h2]
end Mine
end LdPart

section LePart
set_option maxRecDepth 100000
set_option maxHeartbeats 4000000
namespace Mine
open PySem PySem.W PySem.Calls PySem.Spec PyProof.Rows
section
variable {prog : Program} {w : World} {A : Around} {E : Value → Shared → Prop} {s : Shared} {h₀ : Heap} {L : Addr} {m : Str → Option Value} {news : List (Addr × Obj)}
theorem range_in {r : Addr} {n : Int} {t u v : Tok} {Q : Value → Shared → Prop} (hr : IsRange s.heap r 0 n 1 t u v) (h0 : 0 ≤ n) (h1 : n ≤ 16) (F : Fr h₀ L s.heap m) (N : News h₀ L s.heap news) (ap : Ap news)
    (h : ∀ (cnt : Nat) it h', (cnt : Int) = n → cnt ≤ 16 → Fr h₀ L h' m → News h₀ L h' ((it, riObj ((cnt : Int) - (cnt : Int)) (cnt : Int)) :: news) → Ap ((it, riObj ((cnt : Int) - (cnt : Int)) (cnt : Int)) :: news) → Q (.ref it) { s with heap := h' }) : wpAny (model prog w) A (pyIter (.ref r)) Q E s := by
  obtain ⟨c, rfl⟩ := Int.eq_ofNat_of_zero_le h0
  refine wpAny_pyIter_range hr (small_one (by decide) (by decide) (by omega) (by omega)) ?_
  have hs : Builtin.Range.rangeSize 0 (c : Int) 1 = (c : Int) := by
    unfold Builtin.Range.rangeSize
    simp
    try omega
  rw [hs, show (0 : Int) = (c : Int) - (c : Int) from by omega]
  have F' := F.push (riObj ((c : Int) - (c : Int)) (c : Int))
  have N' := N.push F (riObj ((c : Int) - (c : Int)) (c : Int))
  exact h c _ _ rfl (by omega) F' N' (Ap.mk (allNe_lt fun p hp => Heap.lt_size (N p hp).1) ap)
theorem ri_end {it : Addr} {i : Int} {Q : Option Value → Shared → Prop} (hh : A.handled = none) (F : Fr h₀ L s.heap m) (N : News h₀ L s.heap ((it, riObj i 0) :: news)) (ap : Ap ((it, riObj i 0) :: news))
    (h : ∀ h', Fr h₀ L h' m → News h₀ L h' news → Q none { s with heap := h' }) : wpAny (model prog w) A (pyNext (.ref it)) Q E s := by
  refine wpAny_pyNext_range_end hh (N _ (.head _)).1 (Int.le_refl 0) fun h' e => ?_
  have S : SameOff [it] s.heap h' := fun b o q hb => e b o (by simpa using hb) q
  exact h h' (frOff (mods := [(it, riObj i 0)]) F (fun p hp => N p (by rw [List.mem_singleton.mp hp]; exact .head _)) S) (swapL (mods := [(it, riObj i 0)]) (mods' := []) N ap (fun _ hp => nomatch hp) S)
theorem ri_item {it : Addr} {cnt n : Nat} {Q : Option Value → Shared → Prop} (F : Fr h₀ L s.heap m) (N : News h₀ L s.heap ((it, riObj ((cnt : Int) - ((n + 1 : Nat) : Int)) ((n + 1 : Nat) : Int)) :: news)) (ap : Ap ((it, riObj ((cnt : Int) - ((n + 1 : Nat) : Int)) ((n + 1 : Nat) : Int)) :: news))
    (h : ∀ h', Fr h₀ L h' m → News h₀ L h' ((it, riObj ((cnt : Int) - (n : Int)) (n : Int)) :: news) → Q (some (.int ((cnt : Int) - ((n + 1 : Nat) : Int)) s.toks)) { s with heap := h', toks := s.toks + 1 }) : wpAny (model prog w) A (pyNext (.ref it)) Q E s := by
  refine wpAny_pyNext_range_item (N _ (.head _)).1 (by omega) fun h' i' e => ?_
  have S : SameOff [it] s.heap h' := SameOff.of_but e
  have e1 : (cnt : Int) - ((n + 1 : Nat) : Int) + 1 = (cnt : Int) - (n : Int) := by omega
  have e2 : ((n + 1 : Nat) : Int) - 1 = (n : Int) := by omega
  rw [e1, e2] at i'
  exact h h' (frOff (mods := [(it, _)]) F (fun p hp => N p (by rw [List.mem_singleton.mp hp]; exact .head _)) S) (swapL (mods := [(it, _)]) (mods' := [(it, _)]) N ap (fun p hp => by rw [List.mem_singleton.mp hp]; exact ⟨i', (N _ (.head _)).2⟩) S)
end
theorem eq_ok {w : World} {t : Tw} {b b' : Nat} (h : t.Ok w b) (e : b = b') : t.Ok w b' := e ▸ h
theorem ap_like {h₀ h : Heap} {L : Addr} {l l' : List (Addr × Obj)} (_N : News h₀ L h l) (ap : Ap l') (e : l'.map (·.1) = l.map (·.1)) : Ap l := ap.same e
theorem frNorm {h₀ h : Heap} {L : Addr} {m : Str → Option Value} {a b ow ok : Option Value} {K W : Str} (F : Fr h₀ L h (fun y => if y = W then a else if y = K then b else if y = W then ow else if y = K then ok else m y)) : Fr h₀ L h (fun y => if y = W then a else if y = K then b else m y) := by
  rw [← mapNorm (ow := ow) (ok := ok)]
  exact F
theorem two {r : Int} (h2 : r < 2) (h0 : 0 ≤ r) : r = 0 ∨ r = 1 := by omega
theorem Ap.perm {l l' : List (Addr × Obj)} (ap : Ap l) (e : l.Perm l') : Ap l' := (e.map (fun p : Addr × Obj => p.1)).nodup ap
theorem led_map (t : Tw) : t.led.map (·.1) = [t.tb, t.td, t.tl, t.tn, t.pd, t.sz, t.lf, t.sn] := rfl
theorem ap_deed {h₀ h : Heap} {L st : Addr} {o o' : Obj} {t t' : Tw} {rest : List (Addr × Obj)} (ap : Ap (((st, o) :: t.led) ++ rest)) (N : News h₀ L h (((st, o) :: t.led) ++ rest)) (sm : t.Same t' h) : Ap (((st, o') :: t'.led) ++ rest) := by
  rcases sm.tl with e | e
  · refine ap.same ?_
    simp only [List.map_append, List.map_cons, led_map, sm.tb, sm.td, sm.tn, sm.pd, sm.sz, sm.lf, sm.sn, e]
  · have ap1 : Ap ((t.tl, o) :: (((st, o) :: (t.tb, o) :: (t.td, o) :: (t.tn, o) :: (t.pd, o) :: (t.sz, o) :: (t.lf, o) :: (t.sn, o) :: []) ++ rest)) := by
      refine Ap.perm (l := ((st, o) :: (t.tb, o) :: (t.td, o) :: []) ++ (t.tl, o) :: (((t.tn, o) :: (t.pd, o) :: (t.sz, o) :: (t.lf, o) :: (t.sn, o) :: []) ++ rest)) (ap.same rfl) List.perm_middle
    have ap2 := ap1.cons.2
    have hx : AllNe t'.tl (((st, o) :: (t.tb, o) :: (t.td, o) :: (t.tn, o) :: (t.pd, o) :: (t.sz, o) :: (t.lf, o) :: (t.sn, o) :: []) ++ rest) := by
      refine allNe_notMem fun hm => ?_
      have hm' : t'.tl ∈ (((st, o) :: t.led) ++ rest).map (·.1) := by
        simp only [List.map_append, List.map_cons, led_map, List.map_nil, List.mem_append, List.mem_cons, List.not_mem_nil, or_false] at hm ⊢
        rcases hm with (h1 | h1 | h1 | h1 | h1 | h1 | h1 | h1) | h1 <;> simp [h1]
      obtain ⟨p, hp, e'⟩ := List.mem_map.mp hm'
      have := (N p hp).1
      rw [e', e] at this
      cases this
    have ap3 : Ap ((t'.tl, o) :: (((st, o) :: (t.tb, o) :: (t.td, o) :: (t.tn, o) :: (t.pd, o) :: (t.sz, o) :: (t.lf, o) :: (t.sn, o) :: []) ++ rest)) := Ap.mk hx ap2
    have ap4 := Ap.perm (l' := ((st, o) :: (t.tb, o) :: (t.td, o) :: []) ++ (t'.tl, o) :: (((t.tn, o) :: (t.pd, o) :: (t.sz, o) :: (t.lf, o) :: (t.sn, o) :: []) ++ rest)) ap3 (List.perm_middle (a := (t'.tl, o)) (l₁ := (st, o) :: (t.tb, o) :: (t.td, o) :: []) (l₂ := ((t.tn, o) :: (t.pd, o) :: (t.sz, o) :: (t.lf, o) :: (t.sn, o) :: []) ++ rest)).symm
    refine ap4.same ?_
    simp only [List.map_append, List.map_cons, led_map, sm.tb, sm.td, sm.tn, sm.pd, sm.sz, sm.lf, sm.sn, List.cons_append, List.nil_append]
theorem same_tw {w : World} {mg mb : Str → Option Value} {mean : ExcName → Option Value} {dp un : Nat} {gd : Option (List Code)} {cn : Str} {cs : Scope} {a : Addr} {ccd : Value} {cl : List (Str × Addr)} {outer : List Env} {A₀ : Around} {base h₀ : Heap} {L : Addr} {m : Str → Option Value} {s : Shared} {Q E : Value → Shared → Prop} {tw : Tw} {b : Nat}
    (B : Below A₀ base outer h₀) (F : Fr h₀ L s.heap m) (X : (Hd9.hd.heap_39 w.params).In h₀) (T : Top Hd9.hd.view_39 (looseW Hd9.hd.view_39 [Str.ofString "Tube"]) mean mg mb h₀) (hk : cs.kind = .function) (hdp : dp + 3 < recursionLimit) (hun : un + 200 < cLine)
    (N : News h₀ L s.heap tw.led) (ok : tw.Ok w b) (hb : b ≤ 200)
    (ret : ∀ h' tk', SameOff [] s.heap h' → Fr h₀ L h' m → Q (.bool true) { s with heap := h', toks := tk' }) :
    wpAny (model PySem.Challenge.rw_fp5015_01.row.prog w) (ktrTop dp un gd cn cs L a ccd cl outer) (call (.ref 82) [.ref tw.tb, .ref tw.pd]) Q E s := by
  have z1 := ok.z1
  have z2 := ok.z2
  have z3 := ok.z3
  exact same_call (left := []) (sent := []) B F X T hk hdp hun N ok.lo ok.pl ok.i1 ok.i2 ok.i3 ok.i4 (by omega) (by omega) (by omega) ret
theorem limOf0 {sizes : List Int} (hb : ∀ z ∈ sizes, 0 ≤ z ∧ z < 256) : limOf sizes 0 = 0 := by
  unfold limOf
  cases sizes with
  | nil => rfl
  | cons z r =>
    have hz := hb z (.head _)
    dsimp only
    rw [if_neg (by omega)]
    rfl
theorem bytes_none {b : Array UInt8} {l : List Int} (h : KBw.bInts b = l.take 0) : b = #[] := by
  have e : b.size = 0 := by rw [← KBw.ints_length, h]; rfl
  exact Array.eq_empty_of_size_eq_zero e
theorem read0 {w : World} {mg mb : Str → Option Value} {mean : ExcName → Option Value} {dp un : Nat} {gd : Option (List Code)} {cn : Str} {cs : Scope} {a : Addr} {ccd : Value} {cl : List (Str × Addr)} {outer : List Env} {A₀ : Around} {base h₀ : Heap} {L : Addr} {m : Str → Option Value} {s : Shared} {Q E : Value → Shared → Prop} {tw : Tw} {b ta : Nat}
    (B : Below A₀ base outer h₀) (F : Fr h₀ L s.heap m) (X : (Hd9.hd.heap_39 w.params).In h₀) (T : Top Hd9.hd.view_39 (looseW Hd9.hd.view_39 [Str.ofString "Tube"]) mean mg mb h₀) (hk : cs.kind = .function) (hdp : dp + 3 < recursionLimit) (hun : un + 200 < cLine)
    (N : News h₀ L s.heap tw.led) (ap : Ap tw.led) (ok : tw.Ok w b)
    (ret : ∀ t1 h' tk', SameOff [tw.tb, tw.td, tw.tl] s.heap h' → Fr h₀ L h' m → Q (.bytes #[] t1) { s with heap := h', toks := tk' }) :
    wpAny (model PySem.Challenge.rw_fp5015_01.row.prog w) (ktrTop dp un gd cn cs L a ccd cl outer) (call (.ref 35) [.ref tw.tb, .int 0 ta]) Q E s := by
  have z1 := ok.z1
  have z3 := ok.z3
  refine read_call (tb := tw.tb) (td := tw.td) (tl := tw.tl) (tn := tw.tn) (n4 := tw.n4) (k1 := tw.k1) (k2 := tw.k2) (k3 := tw.k3) (bt := tw.bt) (hh1 := tw.hh1) (hh2 := tw.hh2) (hh3 := tw.hh3) B F X T hk hdp hun (ls := tw.ls) (sizes := tw.sizes) (inc := tw.inc) (cb_drop N ?_) ⟨ap.ne 0 1 (by decide) rfl rfl, ap.ne 0 2 (by decide) rfl rfl, ap.ne 1 2 (by decide) rfl rfl⟩ ok.i3 (by omega) (by omega) (by decide) (by decide) ok.hb fun tl2 blk inc' t1 t2 n4' h' tk' N1 e1 e2 S F' f1 f2 => ?_
  · dsimp only [Tw.led]
    kcf_all
  · rw [limOf0 ok.hb] at e1
    obtain rfl := bytes_none e1
    exact ret t1 h' tk' S F'
end Mine
end LePart

section LxPart
set_option maxRecDepth 100000
set_option maxHeartbeats 8000000
namespace Mine
open PySem PySem.W PySem.Calls PySem.Spec PyProof.Rows

local macro_rules | `(tactic| k_ne) => `(tactic| (refine neN ?_; (try dsimp only); first | exact AllNe.ne (by with_reducible assumption) (by k_mem) | exact Ne.symm (AllNe.ne (by with_reducible assumption) (by k_mem)) | fail "no"))
local macro_rules | `(tactic| k_updF) => `(tactic| first | exact Rest.nil | (refine' Rest.out ?a ?b; (case a => k_mem); (case b => k_updF)) | (refine' Rest.keep ?a ?b; (case a => k_all); (case b => k_updF)))
local macro_rules | `(tactic| walk_at "call ref") => `(tactic| (k_here; (with_reducible show wpAny _ _ (call (Value.ref 63) [Value.ref _, Value.int _ _]) _ _ _); k_dflt (refine' next_call ?B ?F ?X ?T ?hk ?hdp ?hun ?N ?hsc ?hi ?hlen ?h0 ?h1 ?hl0 ?hl1 ?_; (case B => k_asm); (case F => k_asm); (case X => k_asm); (case T => k_asm); (case hk => first | exact rfl | assumption); (case N => exact news_sub1 (by k_asm) (by k_mem)); (case hdp => first | ktr_room | (dsimp only [ktrTop]; omega)); (case hun => ktr_units); (case hsc => first | exact News.isList (by k_asm) (by k_mem) | is_list); (case hi => with_reducible assumption); (case hlen => omega); (case h0 => omega); (case h1 => omega); (case hl0 => decide); (case hl1 => decide)); intro r' tr' t' n' h' tk' hr0' hr1' hS' F' N1'; refine' ledger1 ?N N1' hS' ?U ?_; (case N => k_asm); (case U => k_dflt k_upd); clear N1' hS'; intro N'; (try dsimp only at N'); (try k_sweep)))
local macro_rules | `(tactic| walk_at "call type:list") => `(tactic| (k_here; (with_reducible show wpAny _ _ (call (Value.type _) [Value.ref _]) _ _ _); k_dflt (refine' kup_listOf ?F ?N ?b (e := rfl) ?_ ?z; (case F => k_asm); (case N => k_asm); (case b => k_mem); (case z => ((rw [PySem.sizeLine_eq]); simp only [List.toList_toArray]; omega))); intro D' c' h' F' N' l1'; (try simp only [List.toList_toArray] at N'); (have al' := allNe_lt l1'); clear l1'; (try k_sweep)))
local macro_rules | `(tactic| walk_at "newList") => `(tactic| (k_here; k_dflt (refine' newList_K ?k1 ?k2 ?_; (case k1 => k_asm); (case k2 => k_asm); k_whole); intro l' h' F' N' l1'; (have al' := allNe_lt l1'); clear l1'; (try k_sweep)))
local macro_rules | `(tactic| walk_at "call builtin:list.append") => `(tactic| (k_here; refine halt ?_))
local macro_rules | `(tactic| walk_at "call builtin:list.clear") => `(tactic| (k_here; refine halt ?_))
local macro_rules | `(tactic| walk_at "call builtin:list.extend") => `(tactic| (k_here; refine halt ?_))
local macro_rules | `(tactic| walk_at "call type:bytes") => `(tactic| (k_here; (with_reducible show wpAny _ _ (call (Value.type "bytes") [Value.ref _]) _ _ _); k_dflt (refine' bytes_baN ?N ?F ?z ?_; (case N => k_asm); (case F => k_mem); (case z => (simp; done)); k_whole); intro t' tk'))
local macro_rules | `(tactic| walk_at "call ref") => `(tactic| (k_here; (with_reducible show wpAny _ _ (call (Value.ref 68) [Value.ref _]) _ _ _); refine halt ?_))
local macro_rules | `(tactic| walk_at "call ref") => `(tactic| (k_here; (with_reducible show wpAny _ _ (call (Value.ref 82) [Value.ref _, Value.ref _]) _ _ _); refine halt ?_))
local macro_rules | `(tactic| walk_at "call ref") => `(tactic| (k_here; (with_reducible show wpAny _ _ (call (Value.ref 35) [Value.ref _, Value.int _ _]) _ _ _); refine halt ?_))

theorem law_row : PySem.Challenge.rw_fp5015_01.Holds := Hd9.hd (by
  k_fill
  intro w s₀ s₁ mg mb G Y fa o pm cd doc dV kV ho hdt hcd hD hmg hg args vals as hpre hlay hrd hwl hlo
  have KX := kIn_of Y
  have X := (Ground.X G).1
  have V := (Ground.X G).2
  refine Ground.open G ?_
  intro T B D TE TW
  try (refine guard_noD D (by decide +kernel) ?_; clear D)
  obtain ⟨_, _, M⟩ := bmod_of_top T
  have TA := at_of_top T
  clear hmg
  wrow_args hpre hlay hrd hwl hlo
  refine goodG_of (wpC_call ?_)
  w_top on
  have K0 := below_caller (Top.heap T)
  have he := Dflts.none hD rfl
  subst he
  refine codeC_full (by decide) ho hdt (Top.nolimit T) hcd (BindsTo.of_eq rfl) (locs rfl) fun h₁ F => ?_
  w_binds F
  have N0 := (News.nil : News _ _ _ []).at F
  clear hdt hcd hD TA
  k_drop
  (try dsimp only)

  refine cutA4 (At5 w s₁.heap s₁.heap.objs.size s₁) ?tail5 ?walk5
  case walk5 =>
    intro tail
    (try dsimp only); (try k_fold)
    refine wpC_execs_cons (wpC_any ?_)
    k_steps
    rename IntsAre _ (List.take _ _) => hI5
    rename AllNe _ _ => al5
    refine nextC_next (wpC_execs_cons (wpC_any ?_))
    k_steps
    refine unhalt ?_
    k_dflt (refine' plain_call ?B ?F ?X ?T ?hk ?hdp ?hun ?N ?hsc ?hi ?hlen ?h0 ?h1 ?_; (case B => k_asm); (case F => k_asm); (case X => k_asm); (case T => k_asm); (case hk => first | exact rfl | assumption); (case N => exact news_sub1 (by k_asm) (by k_mem)); (case hdp => first | ktr_room | (dsimp only [ktrTop]; omega)); (case hun => ktr_units); (case hsc => exact News.isList (by k_asm) (by k_mem)); (case hi => with_reducible assumption); (case hlen => omega); (case h0 => omega); (case h1 => omega))
    intro pd0 lf0 sz0 sn0 o0 ys0 zs0 lefts0 sizes0 t0 n0 h0 tk0 k0 hpl0 N10 hlo0 hI10 hI20 hl10 hl20 hb10 hb20 hk10 hk20 S0 F0 f10 f20 f30 f40 ne0
    refine' ledgerN ?N N10 S0 ?U ?_
    case N => k_asm
    case U => k_dflt k_updF
    obtain ⟨b10, b20, b30, b40⟩ := plain_ne (by k_dflt k_asm) f10 f20 f30 f40 ne0
    have hz10 := IntsAre.length hI10
    have hz20 := IntsAre.length hI20
    obtain ⟨q10, q20, q30, hd0⟩ := id hpl0
    clear N10 S0 f10 f20 f30 f40 ne0
    intro N0
    simp only [List.cons_append, List.nil_append] at N0
    k_sweep
    k_steps
    have ap0 := Ap.mk (o := emptyDict) b40 (Ap.mk b30 (Ap.mk b20 (Ap.mk b10 (Ap.mk al5 (Ap.mk (show AllNe _ [] from trivial) Ap.nil)))))
    clear b40 b30 b20 b10 al5
    refine unhalt ?_
    k_dflt (refine' plain_call ?B ?F ?X ?T ?hk ?hdp ?hun ?N ?hsc ?hi ?hlen ?h0 ?h1 ?_; (case B => k_asm); (case F => k_asm); (case X => k_asm); (case T => k_asm); (case hk => first | exact rfl | assumption); (case N => exact news_sub1 (by k_asm) (by k_mem)); (case hdp => first | ktr_room | (dsimp only [ktrTop]; omega)); (case hun => ktr_units); (case hsc => exact News.isList (by k_asm) (by k_mem)); (case hi => with_reducible assumption); (case hlen => omega); (case h0 => omega); (case h1 => omega))
    rename News _ _ _ _ => Nq
    intro pd1 lf1 sz1 sn1 o1 ys1 zs1 lefts1 sizes1 t1 n1 h1 tk1 k1 hpl1 N11 hlo1 hI11 hI21 hl11 hl21 hb11 hb21 hk11 hk21 S1 F1 f11 f21 f31 f41 ne1
    obtain ⟨b11, b21, b31, b41⟩ := plain_ne (by k_dflt k_asm) f11 f21 f31 f41 ne1
    have hz11 := IntsAre.length hI11
    have hz21 := IntsAre.length hI21
    obtain ⟨q11, q21, q31, hd1⟩ := id hpl1
    have N1 := swapL (mods := [_]) (rest := [_, _, _, _, _]) (news_pick Nq [4, 0, 1, 2, 3, 5] rfl) ((ap0.pick' [4, 0, 1, 2, 3, 5] (by decide) rfl).same rfl) N11 S1
    clear Nq N11 S1 f11 f21 f31 f41 ne1
    simp only [List.cons_append, List.nil_append] at N1
    k_sweep
    k_steps
    rename AllNe _ _ => al4
    have ap1 := Ap.mk (o := emptyDict) al4 (((Ap.mk (o := emptyDict) b41 (Ap.mk b31 (Ap.mk b21 (Ap.mk b11 (ap0.same rfl))))).pick [0, 1, 2, 3, 8, 4, 5, 6, 7, 9] (by decide)).same rfl)
    clear b41 b31 b21 b11 al4 ap0
    refine nextC_next (wpC_execs_cons (wpC_any ?_))
    k_steps
    rename AllNe _ [_, _, _, _, _, _, _, _, _, _, _, _, _] => alH
    rename AllNe _ [_, _, _, _, _, _, _, _, _, _, _, _] => alB
    rename AllNe _ [_, _, _, _, _, _, _, _, _, _, _] => alA
    have ap2 := Ap.mk (o := emptyDict) alH (Ap.mk alB (Ap.mk alA (ap1.same rfl)))
    clear alH alB alA ap1
    refine nextC_next (wpC_execs_cons ?_)
    refine wpC_Assign_Name ?_
    refine wpC_List ?_
    refine wpC_spliced_cons (wpC_Call ?_)
    k_steps
    refine wpC_callWith_K (K := Hd9.hd.heap_39 w.params) (by k_is) ?_
    k_steps
    (try dsimp only [List.cons_append, List.nil_append])
    k_dflt (refine' make_call ?B ?F ?X ?T ?hk ?hdp ?hun ?N ?hi ?hz ?_; (case B => k_asm); (case F => k_asm); (case X => k_asm); (case T => k_asm); (case hk => first | exact rfl | assumption); (case hdp => first | ktr_room | (dsimp only [ktrTop]; omega)); (case hun => ktr_units); (case N => exact news_sub1 (by k_asm) (by k_mem)); (case hi => with_reducible assumption); (case hz => omega))
    intro tb0 td0 tl0 tn0 ka0 kb0 kc0 ha0 hb0 hc0 nl0 h0 tk0 N10 S0 F0 f10 f20 f30 f40 ne0
    have M0 := led_add (by k_dflt k_asm) S0 N10
    obtain ⟨c10, c20, c30, c40⟩ := make_ne (by k_dflt k_asm) f10 f20 f30 f40 ne0
    clear N10 S0 f10 f20 f30 f40 ne0
    simp only [List.cons_append, List.nil_append] at M0
    k_sweep
    have ap3 := Ap.mk (o := emptyDict) c40 (Ap.mk c30 (Ap.mk c20 (Ap.mk c10 (ap2.same rfl))))
    clear c40 c30 c20 c10 ap2
    refine wpC_spliced_cons (wpC_Call ?_)
    k_steps
    refine wpC_callWith_K (K := Hd9.hd.heap_39 w.params) (by k_is) ?_
    k_steps
    (try dsimp only [List.cons_append, List.nil_append])
    k_dflt (refine' make_call ?B ?F ?X ?T ?hk ?hdp ?hun ?N ?hi ?hz ?_; (case B => k_asm); (case F => k_asm); (case X => k_asm); (case T => k_asm); (case hk => first | exact rfl | assumption); (case hdp => first | ktr_room | (dsimp only [ktrTop]; omega)); (case hun => ktr_units); (case N => exact news_sub1 (by k_asm) (by k_mem)); (case hi => with_reducible assumption); (case hz => omega))
    intro tb1 td1 tl1 tn1 ka1 kb1 kc1 ha1 hb1 hc1 nl1 h1 tk1 N11 S1 F1 f11 f21 f31 f41 ne1
    have M1 := led_add (by k_dflt k_asm) S1 N11
    obtain ⟨c11, c21, c31, c41⟩ := make_ne (by k_dflt k_asm) f11 f21 f31 f41 ne1
    clear N11 S1 f11 f21 f31 f41 ne1
    simp only [List.cons_append, List.nil_append] at M1
    k_sweep
    have ap4 := Ap.mk (o := emptyDict) c41 (Ap.mk c31 (Ap.mk c21 (Ap.mk c11 (ap3.same rfl))))
    clear c41 c31 c21 c11 ap3
    refine wpC_spliced_nil ?_
    k_steps
    rename AllNe _ _ => alT
    have ap5 := Ap.mk (o := emptyDict) alT (ap4.same rfl)
    clear alT ap4
    rename Fr _ _ _ _ => F9
    rename News _ _ _ _ => N9
    refine' nextC_next (tail _ ⟨_, _, _, _, _, _, _, _, _, _, _, _, _, _, _, _, _, _, _, _, _, ⟨tb0, td0, tl0, tn0, pd0, sz0, lf0, sn0, o0, ka0, kb0, kc0, _, _, _, _, _, ha0, hb0, hc0, _, _, _, _, _, _, sizes0⟩, ⟨tb1, td1, tl1, tn1, pd1, sz1, lf1, sn1, o1, ka1, kb1, kc1, _, _, _, _, _, ha1, hb1, hc1, _, _, _, _, _, _, sizes1⟩, _, _, rfl, F9, news_pick N9 [11, 10, 9, 17, 22, 12, 0, 7, 8, 6, 5, 19, 20, 21, 18, 3, 4, 2, 1, 14, 15, 16, 13] rfl, (ap5.pick [11, 10, 9, 17, 22, 12, 0, 7, 8, 6, 5, 19, 20, 21, 18, 3, 4, 2, 1, 14, 15, 16, 13] (by decide)).same rfl, ⟨hI5, ?hn5, ok_new hlo0 hpl0 hI10 hI20 hl10 hl20 hb10 hb20, ok_new hlo1 hpl1 hI11 hI21 hl11 hl21 hb11 hb21⟩, rfl, ?hk5, ?hl5, ?hy5, ?hz5⟩)
    case hn5 => (rw [List.length_take]; omega)
    case hk5 => omega
    case hl5 => omega
    case hy5 => omega
    case hz5 => omega
  clear F N0 h₁
  intro s' hAt
  refine cutA2 (At7 w s₁.heap s₁.heap.objs.size s₁) ?tail7 ?walk7
  case walk7 =>
    intro tail
    obtain ⟨sp, st, sc, pl, hd, tu, d0, d1, t, n, nsc, npl, ntu, nd0, nd1, ndh, k, ws, ns, z0, z1, t0, t1, h, tk, rfl, F, N, ap, ok, hs0, hk0, hk1, hz0, hz1⟩ := hAt
    have N5 := N
    dsimp only [lawLed, Tw.led, List.cons_append, List.nil_append] at N5
    refine wpC_execs_cons (wpC_any ?_)
    k_steps
    refine unhalt ?_
    k_dflt (refine' append_list N (.head _) ?hz5 ?_)
    case hz5 => omega
    intro h5 S5
    have F5 := frOff (mods := [(d0, listOf z0.toArray nd0)]) F (news_sub1 N (.head _)) S5
    have N6 := swapL (mods := [(d0, _)]) (mods' := []) N ap (fun _ hp => nomatch hp) S5
    have ap6 := Ap.right (l := [(d0, _)]) ap
    clear N N5 F ap S5
    have N5 := N6
    dsimp only [lawLed, Tw.led, List.cons_append, List.nil_append] at N5
    k_steps
    refine nextC_next (wpC_execs_cons (wpC_any ?_))
    k_steps
    refine unhalt ?_
    k_dflt (refine' clear_list N6 (.head _) ?hz6 ?_)
    case hz6 => omega
    intro h6 S6
    have F6 := frOff (mods := [(d1, listOf z1.toArray nd1)]) F5 (news_sub1 N6 (.head _)) S6
    have N7 := swapL (mods := [(d1, _)]) (mods' := []) N6 ap6 (fun _ hp => nomatch hp) S6
    have ap7 := Ap.right (l := [(d1, _)]) ap6
    clear N5 N6 F5 ap6 S6
    have N5 := N7
    dsimp only [lawLed, Tw.led, List.cons_append, List.nil_append] at N5
    k_steps
    refine nextC_next (tail _ ⟨sp, st, sc, pl, hd, tu, t, n, nsc, npl, ntu, k, ws, ns, t0, t1, _, _, rfl, F6, fun p hp => N7 p (.tail _ hp), ap7.right (l := [(hd, _)]), ok, hs0, hk0, hk1⟩)
  clear hAt s'
  intro s' hAt
  refine cutA2 (At9 w s₁.heap s₁.heap.objs.size s₁) ?tail9 ?walk9
  case walk9 =>
    intro tail
    obtain ⟨sp, st, sc, pl, hd, tu, t, n, nsc, npl, ntu, k, ws, ns, t0, t1, h, tk, rfl, F, N, ap, ok, hs0, hk0, hk1⟩ := hAt
    dsimp only [lawLed, Tw.led, List.cons_append, List.nil_append] at N ap
    rw [hs0] at N ap
    refine wpC_execs_cons ?_
    refine wpC_If ?_
    refine wpC_isTrue_or ?_
    refine wpC_isTrue_Compare1 ?_
    refine wpC_MethodCall ?_
    k_steps
    refine wpC_callWith_K (K := Hd9.hd.heap_39 w.params) (by k_is) ?_
    k_steps
    (try dsimp only [List.cons_append, List.nil_append])
    k_dflt (refine' write_call ?wB ?wF ?wX ?wT ?whk ?whdp ?whun ?whN ?whne ?wext ?wret)
    case wB => k_asm
    case wF => exact F
    case wX => k_asm
    case wT => k_asm
    case whk => first | exact rfl | assumption
    case whdp => first | ktr_room | (dsimp only [ktrTop]; omega)
    case whun => ktr_units
    case whN => exact cb_drop N (by kcf_all)
    case whne => exact ⟨ap.ne 4 7 (by decide) rfl rfl, ap.ne 5 7 (by decide) rfl rfl⟩
    case wext => exact fun A' s' Q' E' hh S0 hS hret => ext_bytes hS (by rw [sizeLine_eq]; decide) hret
    case wret =>
    intro hw tkw Nw Sw Fw
    have N7 := swapL (mods := [_, _, _]) (rest := [_, _, _, _, _, _, _, _, _, _, _, _, _, _, _, _, _]) (news_pick N [4, 5, 7, 0, 1, 2, 3, 6, 8, 9, 10, 11, 12, 13, 14, 15, 16, 17, 18, 19] rfl) (ap.pick' [4, 5, 7, 0, 1, 2, 3, 6, 8, 9, 10, 11, 12, 13, 14, 15, 16, 17, 18, 19] (by decide) rfl) Nw Sw
    clear Nw Sw N F
    dsimp only [List.cons_append, List.nil_append] at N7
    k_steps
    refine wpC_execs_nil ?_
    obtain ⟨q1, q2, q3, hd0⟩ := ok.ok0.pl
    have hus : t0.us.length = 0 := by
      have h9 := ok.ok0.i4.length
      rw [hs0] at h9
      exact h9
    have ap7 : Ap [(t0.tb, emptyDict), (t0.td, emptyDict), (t0.tn, emptyDict), _, _, _, _, _, _, _, _, _, _, _, _, _, _, _, _, _] := (ap.pick' [4, 5, 7, 0, 1, 2, 3, 6, 8, 9, 10, 11, 12, 13, 14, 15, 16, 17, 18, 19] (by decide) rfl).same rfl
    refine nextC_next (wpC_execs_cons (wpC_any ?_))
    k_steps
    refine unhalt ?_
    rename Fr _ _ _ _ => F8
    rename News _ _ _ _ => N8
    k_dflt (refine' ext_lists N8 ?xD ?xb ?xz ?_)
    case xD => k_mem
    case xb => k_mem
    case xz => (simp only [List.length_cons, List.length_nil]; omega)
    intro h8 c8 e8 S8
    have F9 := frOff (mods := [(t0.sn, _)]) F8 (news_sub1 N8 (by k_mem)) S8
    have N9 := swapL (mods := [(t0.sn, _)]) (mods' := [(t0.sn, _)]) (rest := [_, _, _, _, _, _, _, _, _, _, _, _, _, _, _, _, _, _, _]) (news_pick (fun p hp => N8 p (.tail _ hp)) [11, 0, 1, 2, 3, 4, 5, 6, 7, 8, 9, 10, 12, 13, 14, 15, 16, 17, 18, 19] rfl) ((ap7.pick' [11, 0, 1, 2, 3, 4, 5, 6, 7, 8, 9, 10, 12, 13, 14, 15, 16, 17, 18, 19] (by decide) rfl).same rfl) (fun p hp => by rw [List.mem_singleton.mp hp]; exact ⟨e8, (N8 (t0.sn, listOf t0.us.toArray t0.n3) (by k_mem)).2⟩) S8
    clear N7 N8 F8 S8
    dsimp only [List.cons_append, List.nil_append] at N9
    k_steps
    refine' nextC_next (tail _ ⟨sp, st, sc, pl, hd, tu, t, n, nsc, npl, ntu, k, ws, ns, { t0 with snt := #[] ++ #[97, 98], us := t0.us ++ [Value.int 97 _, Value.int 98 _], n3 := c8 }, t1, _, _, rfl, F9, ?nn, ap.same rfl, ⟨ok.hi, ok.hn, ok_ab ok.ok0 hs0, ok.ok1.mono (by decide)⟩, hk0, hk1⟩)
    case nn =>
      dsimp only [lawLed, Tw.led, List.cons_append, List.nil_append]
      exact cb_drop N9 (by kcf_all)
  clear hAt s'
  intro s' hAt
  refine cutA1 (AtE w s₁.heap s₁.heap.objs.size s₁) ?tailE ?walkE
  case walkE =>
    intro tail
    obtain ⟨sp, st, sc, pl, hd, tu, t, n, nsc, npl, ntu, k, ws, ns, t0, t1, h, tk, rfl, F, N, ap, ok, hk0, hk1⟩ := hAt
    have lw := ok
    obtain ⟨hi, hn, ok0, ok1⟩ := ok
    obtain ⟨a1, ap'⟩ := ap.cons
    dsimp only [lawLed, Tw.led, List.cons_append, List.nil_append] at N a1
    refine wpC_execs_cons ?_
    refine wpC_For (wpC_any ?_)
    k_steps
    have hi := lw.hi
    clear lw
    rename IsRange _ _ _ _ _ _ _ _ => hR
    rename Fr _ _ _ _ => F2
    rename News _ _ _ _ => N2
    refine range_in hR (by omega) (by omega) F2 N2 (ap.same rfl) ?_
    intro cnt it h3 hc hc16 F3 N3 ap3
    refine codeC_for (AtL w s₁.heap s₁.heap.objs.size s₁ st sc pl hd tu it cnt ws ns) ?turn cnt ?start
    case start =>
      refine ⟨sp, _, _, _, _, _, _, t0, t1, none, none, _, _, rfl, ?_, N3, ap3, ⟨hi, hn, ok0.mono (by omega), ok1.mono (by omega)⟩, Nat.le_refl _, hc16, ?_, ?_⟩
      · exact (mapNone (m := lawMap st pl hd tu sp) (K := sK) (W := sW) (by with_unfolding_all rfl) (by with_unfolding_all rfl)) ▸ F3
      · omega
      · omega
    case turn =>
      clear hc F3 N3 ap3 N2 F2 hR F N ap ok0 ok1 a1 ap' hk0 hk1 hc16
      intro n s' hL
      obtain ⟨sp, t, nn, nsc, npl, ntu, k, t0, t1, ok, ow, h, tk, rfl, F, N, ap, lo, hnc, hc16, hk0, hk1⟩ := hL
      obtain ⟨_, _, ok0, ok1⟩ := lo
      cases n with
      | zero =>
        refine ri_end rfl F (N : News _ _ _ ((it, riObj _ 0) :: _)) ap ?_
        intro h' F' N'
        dsimp only
        refine wpC_execs_nil ?_
        refine nextC_next (tail _ ⟨sp, st, sc, pl, hd, tu, _, _, _, _, _, _, ws, ns, t0, t1, ok, ow, _, _, rfl, F', N', (ap.cons).2, ⟨hi, hn, ok0.mono (by omega), ok1.mono (by omega)⟩, hk0, by omega⟩)
      | succ n =>
        refine ri_item F N ap ?_
        intro h' F' N'
        obtain ⟨a1, ap'⟩ := ap.cons
        obtain ⟨a2, ap'⟩ := ap'.cons
        dsimp only [lawLed, Tw.led, List.cons_append, List.nil_append] at N' a1 a2
        clear F N
        dsimp only
        k_steps
        refine wpC_execs_cons (wpC_any ?_)
        k_steps
        rename _ < (2 : Int) => hr2
        rcases two hr2 (by assumption) with e2 | e2 <;> subst e2
        · skip

          refine nextC_next (wpC_execs_cons ?_)
          refine wpC_If ?_
          refine wpC_isTrue_not ?_
          refine wpC_isTrue_plain ?_
          refine wpC_Call ?_
          k_steps
          refine wpC_callWith_K (K := Hd9.hd.heap_39 w.params) (by k_is) ?_
          k_steps
          (try dsimp only [List.cons_append, List.nil_append])
          rename Fr _ _ _ _ => F3
          rename News _ _ _ _ => N3
          have N4 : News _ _ _ (((st, _) :: Tw.led t0) ++ [_, _, _, _, _, _, _, _, _, _, _, _]) := news_pick N3 [1, 5, 6, 7, 8, 9, 10, 11, 12, 2, 3, 4, 0, 13, 14, 15, 16, 17, 18, 19, 20] rfl
          have ap4 := ap_like N4 (ap.pick [1, 5, 6, 7, 8, 9, 10, 11, 12, 2, 3, 4, 0, 13, 14, 15, 16, 17, 18, 19, 20] (by decide)) rfl
          refine' deed_call (tw := t0) (b := 2 + 4 * (cnt - (n + 1))) ?B ?F ?X ?T ?hk ?hdp ?hun ?N ?ap ?ok ?hb ?hne ?hsc ?hi0 ?hlen0 ?h0 ?h1 ?ret
          case B => k_asm
          case F => exact F3
          case X => k_asm
          case T => k_asm
          case hk => exact rfl
          case hdp => first | ktr_room | (dsimp only [ktrTop]; omega)
          case hun => ktr_units
          case N => exact fun p hp => N4 p (List.mem_append_left _ hp)
          case ap => exact ap4.left
          case ok => exact ok0
          case hb => omega
          case hne => exact ap4.off (sc, _) (.head _)
          case hsc => exact News.isList N3 (by k_mem)
          case hi0 => exact hi
          case hlen0 => omega
          case h0 => omega
          case h1 => omega
          case ret =>
          intro t' k' tt nn' h' tk' N1 ok' S1 F1 sm hk'0 hk'1
          have ap5 := ap_deed (o' := listOf #[Value.ref sc, .int k' tt] nn') ap4 N4 sm
          have N5 := swapL N4 ap4 N1 S1
          rw [← sm.pd, ← sm.tb] at N5
          clear N1 S1 F3 N3 N4 ap4
          dsimp only [lawLed, Tw.led, List.cons_append, List.nil_append] at N5
          k_steps
          refine wpC_execs_nil ?_
          refine nextC_next (wpC_execs_cons (wpC_any ?_))
          k_steps
          refine unhalt ?_
          rename Fr _ _ _ _ => F6
          rename News _ _ _ _ => N6
          refine' same_tw (tw := t') (b := 100) ?B ?F ?X ?T ?hk ?hdp ?hun ?N ?ok ?hb ?ret
          case B => k_asm
          case F => exact F6
          case X => k_asm
          case T => k_asm
          case hk => exact rfl
          case hdp => first | ktr_room | (dsimp only [ktrTop]; omega)
          case hun => ktr_units
          case N => exact news_pick N6 [1, 2, 3, 4, 5, 6, 7, 8] rfl
          case ok => exact ok'.mono (by omega)
          case hb => decide
          case ret =>
          intro h7 tk7 S7 F7
          have N7 := S7.news N6
          clear S7 F6 N6
          k_steps
          refine unhalt ?_
          rename Fr _ _ _ _ => F6
          rename News _ _ _ _ => N6
          refine' same_tw (tw := t1) (b := 100) ?B ?F ?X ?T ?hk ?hdp ?hun ?N ?ok ?hb ?ret
          case B => k_asm
          case F => exact F6
          case X => k_asm
          case T => k_asm
          case hk => exact rfl
          case hdp => first | ktr_room | (dsimp only [ktrTop]; omega)
          case hun => ktr_units
          case N => exact news_pick N6 [13, 14, 15, 16, 17, 18, 19, 20] rfl
          case ok => exact ok1.mono (by omega)
          case hb => decide
          case ret =>
          intro h7 tk7 S7 F7
          have N7 := S7.news N6
          clear S7 F6 N6
          k_steps
          refine nextC_next (wpC_execs_nil ?_)
          exact ⟨n, Nat.lt_succ_self n, sp, _, _, _, _, _, k', t', t1, _, _, _, _, rfl, frNorm F7, news_pick N7 [12, 0, 9, 10, 11, 1, 2, 3, 4, 5, 6, 7, 8, 13, 14, 15, 16, 17, 18, 19, 20] rfl, (ap5.pick [12, 0, 9, 10, 11, 1, 2, 3, 4, 5, 6, 7, 8, 13, 14, 15, 16, 17, 18, 19, 20] (by decide)).same rfl, ⟨hi, hn, eq_ok ok' (by omega), ok1.mono (by omega)⟩, by omega, hc16, by omega, by omega⟩

        · skip

          refine nextC_next (wpC_execs_cons ?_)
          refine wpC_If ?_
          refine wpC_isTrue_not ?_
          refine wpC_isTrue_plain ?_
          refine wpC_Call ?_
          k_steps
          refine wpC_callWith_K (K := Hd9.hd.heap_39 w.params) (by k_is) ?_
          k_steps
          (try dsimp only [List.cons_append, List.nil_append])
          rename Fr _ _ _ _ => F3
          rename News _ _ _ _ => N3
          have N4 : News _ _ _ (((st, _) :: Tw.led t1) ++ [_, _, _, _, _, _, _, _, _, _, _, _]) := news_pick N3 [1, 13, 14, 15, 16, 17, 18, 19, 20, 2, 3, 4, 0, 5, 6, 7, 8, 9, 10, 11, 12] rfl
          have ap4 := ap_like N4 (ap.pick [1, 13, 14, 15, 16, 17, 18, 19, 20, 2, 3, 4, 0, 5, 6, 7, 8, 9, 10, 11, 12] (by decide)) rfl
          refine' deed_call (tw := t1) (b := 2 + 4 * (cnt - (n + 1))) ?B ?F ?X ?T ?hk ?hdp ?hun ?N ?ap ?ok ?hb ?hne ?hsc ?hi0 ?hlen0 ?h0 ?h1 ?ret
          case B => k_asm
          case F => exact F3
          case X => k_asm
          case T => k_asm
          case hk => exact rfl
          case hdp => first | ktr_room | (dsimp only [ktrTop]; omega)
          case hun => ktr_units
          case N => exact fun p hp => N4 p (List.mem_append_left _ hp)
          case ap => exact ap4.left
          case ok => exact ok1
          case hb => omega
          case hne => exact ap4.off (sc, _) (.head _)
          case hsc => exact News.isList N3 (by k_mem)
          case hi0 => exact hi
          case hlen0 => omega
          case h0 => omega
          case h1 => omega
          case ret =>
          intro t' k' tt nn' h' tk' N1 ok' S1 F1 sm hk'0 hk'1
          have ap5 := ap_deed (o' := listOf #[Value.ref sc, .int k' tt] nn') ap4 N4 sm
          have N5 := swapL N4 ap4 N1 S1
          rw [← sm.pd, ← sm.tb] at N5
          clear N1 S1 F3 N3 N4 ap4
          dsimp only [lawLed, Tw.led, List.cons_append, List.nil_append] at N5
          k_steps
          refine wpC_execs_nil ?_
          refine nextC_next (wpC_execs_cons (wpC_any ?_))
          k_steps
          refine unhalt ?_
          rename Fr _ _ _ _ => F6
          rename News _ _ _ _ => N6
          refine' same_tw (tw := t0) (b := 100) ?B ?F ?X ?T ?hk ?hdp ?hun ?N ?ok ?hb ?ret
          case B => k_asm
          case F => exact F6
          case X => k_asm
          case T => k_asm
          case hk => exact rfl
          case hdp => first | ktr_room | (dsimp only [ktrTop]; omega)
          case hun => ktr_units
          case N => exact news_pick N6 [13, 14, 15, 16, 17, 18, 19, 20] rfl
          case ok => exact ok0.mono (by omega)
          case hb => decide
          case ret =>
          intro h7 tk7 S7 F7
          have N7 := S7.news N6
          clear S7 F6 N6
          k_steps
          refine unhalt ?_
          rename Fr _ _ _ _ => F6
          rename News _ _ _ _ => N6
          refine' same_tw (tw := t') (b := 100) ?B ?F ?X ?T ?hk ?hdp ?hun ?N ?ok ?hb ?ret
          case B => k_asm
          case F => exact F6
          case X => k_asm
          case T => k_asm
          case hk => exact rfl
          case hdp => first | ktr_room | (dsimp only [ktrTop]; omega)
          case hun => ktr_units
          case N => exact news_pick N6 [1, 2, 3, 4, 5, 6, 7, 8] rfl
          case ok => exact ok'.mono (by omega)
          case hb => decide
          case ret =>
          intro h7 tk7 S7 F7
          have N7 := S7.news N6
          clear S7 F6 N6
          k_steps
          refine nextC_next (wpC_execs_nil ?_)
          exact ⟨n, Nat.lt_succ_self n, sp, _, _, _, _, _, k', t0, t', _, _, _, _, rfl, frNorm F7, news_pick N7 [12, 0, 9, 10, 11, 13, 14, 15, 16, 17, 18, 19, 20, 1, 2, 3, 4, 5, 6, 7, 8] rfl, (ap5.pick [12, 0, 9, 10, 11, 13, 14, 15, 16, 17, 18, 19, 20, 1, 2, 3, 4, 5, 6, 7, 8] (by decide)).same rfl, ⟨hi, hn, ok0.mono (by omega), eq_ok ok' (by omega)⟩, by omega, hc16, by omega, by omega⟩
  clear hAt s'
  intro s' hAt
  obtain ⟨sp, st, sc, pl, hd, tu, t, nn, nsc, npl, ntu, k, ws, ns, t0, t1, ok, ow, h, tk, rfl, F, N, ap, lo, hk0, hk1⟩ := hAt
  dsimp only [lawLed, Tw.led, List.cons_append, List.nil_append] at N
  refine wpC_execs_cons (wpC_any ?_)
  k_steps
  refine unhalt ?_
  rename Fr _ _ _ _ => F5
  refine' read0 (tw := t0) (b := 100) ?rB0 ?rF0 ?rX0 ?rT0 ?rhk0 ?rhdp0 ?rhun0 ?rN0 ?rap0 ?rok0 ?ret0
  case rB0 => k_asm
  case rF0 => exact F5
  case rX0 => k_asm
  case rT0 => k_asm
  case rhk0 => exact rfl
  case rhdp0 => first | ktr_room | (dsimp only [ktrTop]; omega)
  case rhun0 => ktr_units
  case rN0 => exact news_pick N [4, 5, 6, 7, 8, 9, 10, 11] rfl
  case rap0 => exact (ap.pick [4, 5, 6, 7, 8, 9, 10, 11] (by decide)).same rfl
  case rok0 => exact lo.ok0
  case ret0 =>
  intro t90 h90 tk90 S90 F90
  have M0 := news_pick N [4, 5, 6, 0, 1, 2, 3, 12, 13, 14, 15, 16, 17, 18, 19] rfl
  have N90 := swapL (mods := [(t0.tb, _), (t0.td, _), (t0.tl, _)]) (mods' := []) (rest := [_, _, _, _, _, _, _, _, _, _, _, _]) M0 (ap_like M0 (ap.pick [4, 5, 6, 0, 1, 2, 3, 12, 13, 14, 15, 16, 17, 18, 19] (by decide)) rfl) (fun _ hp => nomatch hp) S90
  have ap90 := ap_like N90 (ap.pick [0, 1, 2, 3, 12, 13, 14, 15, 16, 17, 18, 19] (by decide)) rfl
  clear S90 M0 F5 N ap
  dsimp only [lawLed, Tw.led, List.cons_append, List.nil_append] at N90
  k_steps
  refine unhalt ?_
  rename Fr _ _ _ _ => F6
  refine' read0 (tw := t1) (b := 100) ?rB1 ?rF1 ?rX1 ?rT1 ?rhk1 ?rhdp1 ?rhun1 ?rN1 ?rap1 ?rok1 ?ret1
  case rB1 => k_asm
  case rF1 => exact F6
  case rX1 => k_asm
  case rT1 => k_asm
  case rhk1 => exact rfl
  case rhdp1 => first | ktr_room | (dsimp only [ktrTop]; omega)
  case rhun1 => ktr_units
  case rN1 => exact news_pick N90 [4, 5, 6, 7, 8, 9, 10, 11] rfl
  case rap1 => exact (ap90.pick [4, 5, 6, 7, 8, 9, 10, 11] (by decide)).same rfl
  case rok1 => exact lo.ok1
  case ret1 =>
  intro t91 h91 tk91 S91 F91
  have M1 := news_pick N90 [4, 5, 6, 0, 1, 2, 3] rfl
  have N91 := swapL (mods := [(t1.tb, _), (t1.td, _), (t1.tl, _)]) (mods' := []) (rest := [_, _, _, _]) M1 (ap_like M1 (ap90.pick [4, 5, 6, 0, 1, 2, 3] (by decide)) rfl) (fun _ hp => nomatch hp) S91
  have ap91 := ap_like N91 (ap90.pick [0, 1, 2, 3] (by decide)) rfl
  clear S91 M1 F6 N90 ap90
  dsimp only [lawLed, Tw.led, List.cons_append, List.nil_append] at N91
  k_steps
  refine nextC_ret ?_
  k_steps
  )
end Mine
end LxPart

set_option maxRecDepth 100000 in
set_option maxHeartbeats 8000000 in
theorem PySem.Challenge.cw_fp5015_01_holds : PySem.Challenge.rw_fp5015_01.Holds := by
  exact Mine.law_row
