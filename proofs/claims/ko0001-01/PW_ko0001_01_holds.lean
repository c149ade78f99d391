import PyProof.Rows.All
import Wide.All
import OpenK.AllK
import Wide.FinOn
import Lean
import PySem.Challenge.RW_ko0001_01
open PySem PySem.W PySem.Calls PyProof.Rows
set_option Elab.async false
set_option compiler.extract_closed false
set_option maxRecDepth 100000
set_option maxHeartbeats 8000000
set_option linter.unusedVariables false
set_option linter.unusedSimpArgs false
namespace Mine
section
/-! the clean stacks: none of the decoders that hold their data is on the stack -/
noncomputable def okCode : Code → Bool
  | .builtin id _ => !Builtin.Bytes.decodersThatHold.contains id
  | _ => true
noncomputable def Clean (Γ : PySem.Ctx) : Prop := okCode Γ.code = true ∧ ∀ x ∈ Γ.below, okCode x.1 = true

noncomputable def wpC {α : Type} (M : Model) (A : Around) (t : Sem α) (Q : α → Shared → Prop) (E : Value → Shared → Prop) (s : Shared) : Prop :=
  ∀ Γ p, Γ.In A → Clean Γ → Sem.wp M Γ t (fun a _ s' => Q a s') (fun e _ s' => E e s') p s
noncomputable def codeC (M : Model) (A : Around) (c : Code) (R : Result → Shared → Prop) (s : Shared) : Prop :=
  ∀ Γ p, Γ.code = c → Γ.Below A → (∀ x ∈ Γ.below, okCode x.1 = true) → wpCode M Γ R p s

section
variable {α β : Type} {M : Model} {A : Around} {E : Value → Shared → Prop} {s : Shared}
theorem wpC_of {t : Sem α} {Q : α → Shared → Prop} (h : wpAny M A t Q E s) : wpC M A t Q E s := fun Γ p hΓ _ => h Γ p hΓ
theorem codeC_of {c : Code} {R : Result → Shared → Prop} (h : codeAny M A c R s) : codeC M A c R s := fun Γ p hc hΓ _ => h Γ p hc hΓ
theorem wpC_pure {a : α} {Q : α → Shared → Prop} (h : Q a s) : wpC M A (pure a) Q E s := fun _ _ _ _ => h
theorem wpC_mono {t : Sem α} {Q Q' : α → Shared → Prop} {E' : Value → Shared → Prop} (h : wpC M A t Q E s)
    (hQ : ∀ a s, Q a s → Q' a s) (hE : ∀ e s, E e s → E' e s) : wpC M A t Q' E' s :=
  fun Γ p hΓ hC => Sem.wp_mono M Γ t (fun a _ s => hQ a s) (fun e _ s => hE e s) p s (h Γ p hΓ hC)
theorem wpC_bind {m : Sem α} {f : α → Sem β} {Q : β → Shared → Prop} (h : wpC M A m (fun a s' => wpC M A (f a) Q E s') E s) :
    wpC M A (m >>= f) Q E s := fun Γ p hΓ hC => by
  rw [Sem.wp_bind']
  exact Sem.wp_mono M Γ m (fun a p' s' h' => h' Γ p' hΓ hC) (fun _ _ _ h' => h') p s (h Γ p hΓ hC)
/-- the first half by the library's own rules -/
theorem wpC_then {m : Sem α} {f : α → Sem β} {Q : β → Shared → Prop} (h : wpAny M A m (fun a s' => wpC M A (f a) Q E s') E s) :
    wpC M A (m >>= f) Q E s := wpC_bind (wpC_of h)
theorem wpC_onRaise {m : Sem α} {k : Value → Sem Unit} {Q : α → Shared → Prop}
    (h : wpC M A m Q (fun e s' => wpC M A (k e) (fun _ s'' => E e s'') E s') s) : wpC M A (m.onRaise k) Q E s := fun Γ p hΓ hC => by
  rw [Sem.wp_onRaise]
  exact Sem.wp_mono M Γ m (fun _ _ _ h' => h') (fun e p' s' h' => h' Γ p' hΓ hC) p s (h Γ p hΓ hC)
theorem wpC_holding {vs : List Value} {m : Sem α} {Q : α → Shared → Prop} (h : wpC M A m Q E s) : wpC M A (holding vs m) Q E s :=
  fun Γ p hΓ hC => by rw [Sem.wp_holding]; exact h Γ p hΓ hC
theorem wpC_runValue {c : Code} {Q : Value → Shared → Prop}
    (hc : codeC M A c (fun r s' => match r with | .ok (.ret v) => Q v s' | .ok _ => False | .error e => E e s') s) :
    wpC M A (runValue c) Q E s := fun Γ p hΓ hC => by
  rw [Sem.wp_runValue]
  refine hc _ p rfl (hΓ.enter c none p (by intro x; cases x)) fun x hx => ?_
  rcases List.mem_cons.mp hx with rfl | hx
  · exact hC.1
  · exact hC.2 x hx
theorem wpC_run {c : Code} {Q : Flow → Shared → Prop}
    (hc : codeC M A c (fun r s' => match r with | .ok f => Q f s' | .error e => E e s') s) :
    wpC M A (run c) Q E s := fun Γ p hΓ hC => by
  rw [Sem.wp_run]
  refine hc _ p rfl (hΓ.enter c none p (by intro x; cases x)) fun x hx => ?_
  rcases List.mem_cons.mp hx with rfl | hx
  · exact hC.1
  · exact hC.2 x hx
theorem wpC_call {f : Value} {pos : List Value} {kw : List (Str × Value)} {Q : Value → Shared → Prop}
    (hc : codeC M A (.call f ⟨pos, kw⟩) (fun r s' => match r with | .ok (.ret v) => Q v s' | .ok _ => False | .error e => E e s') s) :
    wpC M A (call f pos kw) Q E s := wpC_runValue hc
theorem codeC_mono {c : Code} {R R' : Result → Shared → Prop} (h : codeC M A c R s) (hR : ∀ r s, R r s → R' r s) : codeC M A c R' s :=
  fun Γ p hc hΓ hC => wpCode_mono hR (h Γ p hc hΓ hC)
theorem codeC_of_tree {c : Code} {R : Result → Shared → Prop} (hk : okCode c = true)
    (h : wpC M (A.under c) (M.den c) (fun fin s' => match fin with | .done f => R (.ok f) s' | .again c' => c'.quiet = true ∧ codeC M A c' R s')
      (fun e s' => R (.error e) s') s) : codeC M A c R s := fun Γ p hc hΓ hC => by
  rw [wpCode_iff_wp, hc]
  refine Sem.wp_mono M Γ _ (fun fin p' s' h' => ?_) (fun _ _ _ h' => h') p s (h Γ p (hc ▸ hΓ.in) ⟨hc ▸ hk, hC⟩)
  cases fin with
  | done f => exact h'
  | again c' => exact ⟨h'.1, h'.2 (Γ.goto c') p' rfl (hΓ.goto c') hC⟩

theorem wpC_stackAny {f : Code × Pos → Bool} {Q : Bool → Shared → Prop} (hg : A.guards = some []) (hf : ∀ x : Code × Pos, okCode x.1 = true → x.1.isGuard = false → f x = false) (h : Q false s) :
    wpC M A (do return (← stack).any f) Q E s := fun Γ p hΓ hC => by
  show Q (((Γ.code, p) :: Γ.below).any f) s
  have hgu : guardsOf ((Γ.code, p) :: Γ.below) = [] := by rw [guardsOf_cons]; exact hΓ.2.2.2.1 _ hg
  have : ((Γ.code, p) :: Γ.below).any f = false := by
    refine List.any_eq_false.mpr fun x hx => ?_
    rw [hf x ?_ ?_]
    · exact Bool.false_ne_true
    · rcases List.mem_cons.mp hx with rfl | hx
      · exact hC.1
      · exact hC.2 x hx
    · cases hxg : x.1.isGuard with
      | false => rfl
      | true =>
        have : x.1 ∈ guardsOf ((Γ.code, p) :: Γ.below) := List.mem_filter.mpr ⟨List.mem_map.mpr ⟨x, hx, rfl⟩, hxg⟩
        rw [hgu] at this; cases this
  rw [this]
  exact h
theorem wpC_exported {v : Value} {Q : Bool → Shared → Prop} (hg : A.guards = some []) (h : Q false s) : wpC M A (Builtin.Bytes.exported v) Q E s := by
  unfold Builtin.Bytes.exported
  refine wpC_stackAny hg (fun x h1 h2 => ?_) h
  obtain ⟨c, p⟩ := x
  cases c with
  | builtin id args =>
    obtain ⟨pos, kw⟩ := args
    have h3 : Builtin.Bytes.decodersThatHold.contains id = false := by rw [← Bool.not_eq_true']; exact h1
    have ne : ∀ i, guardIds.contains i = true → id ≠ i := fun i hi e => by subst e; exact absurd (h2.symm.trans hi) Bool.false_ne_true
    delta Builtin.Bytes.exported.match_1
    refine (dif_neg (ne _ (by decide))).trans ((dif_neg (ne _ (by decide))).trans ((dif_neg (ne _ (by decide))).trans ((dif_neg (ne _ (by decide))).trans ((dif_neg (ne _ (by decide))).trans ?_))))
    cases pos with
    | nil => rfl
    | cons u r =>
      show (Builtin.Bytes.sameRef u v && Builtin.Bytes.decodersThatHold.contains id) = false
      rw [h3, Bool.and_false]
  | _ => rfl
end
end
section
/-! the row's own head: the caller's stack is clean (no decoder holds its data on it) -/
open PySem.Spec
theorem clean_caller : Clean (⟨.builtin "claim.caller" {}, none, none, [], none⟩ : PySem.Ctx) := ⟨by decide +kernel, fun _ h => nomatch h⟩
noncomputable abbrev WalkC (q : Program) (loose : List Str) (XP : (Str → Option Value) → Heap → Prop) (YP : World → Heap → Prop) (r : RowW) (d : DefRec) (kwd : List (Str × Expr)) : Prop :=
  ∀ (w : World) (s₀ s₁ : Shared) (mg mb : Str → Option Value), Ground q loose r.records XP w s₀ mg mb s₁.heap → YP w s₁.heap → ∀ (a : Addr) (o : Obj) (pm cd doc dV kV : Value), s₁.heap.get? a = some o →
    o.data = .func { docDef d.name d.params d.body d.scope pm cd doc with defaults := dV, kwdefaults := kV } → s₁.heap.CodeRec cd d.name → Dflts mg s₁.heap d.params kwd dV kV → mg d.name = some (.ref a) → s₁.gens = #[] →
    ∀ (args : List WData) (vals : List Value) (as : List Addr), r.claim.pre args = true → WData.layableAll args = true → ReadsAllW r.records (classAt s₀.heap) s₁.heap vals args as → WellAll w.params s₁.heap vals args → (∀ a ∈ as, (a == sysModules) = false) →
      wpC (model r.prog w) callerA (call (.ref a) vals) (fun v s' => GoodWG r.claim (classAt s₀.heap) (ExcName.means s₀.heap) args s₁ (.ok (.ret v)) s')
        (fun e s' => GoodWG r.claim (classAt s₀.heap) (ExcName.means s₀.heap) args s₁ (.error e) s') s₁
/-- a clean thread comes to its end -/
theorem ends_clean {prog : Program} {w : World} {t : Sem Fin} {s : Shared} {R : Result → Shared → Prop} (hreg : s.asleep)
    (h : wpC (model prog w) callerA t (fun fin s' => ∃ f, fin = .done f ∧ R (.ok f) s' ∧ AllBare s'.gens) (fun e s' => R (.error e) s' ∧ AllBare s'.gens) s) :
    ∃ n r s' s'', runN (denote table) prog w n s ⟨t, .builtin "claim.caller" {}, default, []⟩ = .halted (outcomeOf r) s' ∧
      schedN (denote table) prog w n (.single s ⟨t, .builtin "claim.caller" {}, default, []⟩) = .halted (outcomeOf r) s' ∧ s'.forget = s''.forget ∧ R r s'' := by
  have key : Sem.wp (model prog w) ⟨.builtin "claim.caller" {}, none, none, [], none⟩ t (Sem.finPost (model prog w) ⟨.builtin "claim.caller" {}, none, none, [], none⟩ (fun r s' => R r s' ∧ leftWithCleanup s'.gens = false)) (fun e _ s' => R (.error e) s' ∧ leftWithCleanup s'.gens = false) default s :=
    Sem.wp_mono (model prog w) _ t (fun fin _ s' ⟨f, e, a, b⟩ => by subst e; exact ⟨a, leftWithCleanup_false_of_bare b⟩) (fun e _ s' ⟨a, b⟩ => ⟨a, leftWithCleanup_false_of_bare b⟩) default s (h _ default caller_in clean_caller)
  obtain ⟨n, r, s₁, s₂, hs, hn, hfo, hR⟩ := wp_halts_full (M := model prog w) (R := R) hreg key
  exact ⟨n, r, s₂, s₁, hn, hs, hfo, hR⟩
theorem PySem.W.holds_open {r : OpenRow} {q : Program} {loose : List Str} {Xt : Shared → Bool} {XP : (Str → Option Value) → Heap → Prop} {α : Type} {Yf : Shared → α} {Ya : World → α} {YP : World → Heap → Prop} {d : DefRec} {kwd : List (Str × Expr)} {N : Nat}
    (left : LeftO r.prog q loose Xt Yf Ya N) (hY : ∀ w s, Yf s = Ya w → YP w s.heap) (hYk : ∀ w h h', YP w h → (∀ b o, h.get? b = some o → h'.get? b = some o) → YP w h')
    (hX : ∀ s, Xt s = true → XP (s.heap.nsMap mainGlobals) s.heap) (hXk : ∀ mg h h', XP mg h → (∀ b o, h.get? b = some o → h'.get? b = some o) → XP mg h')
    (hdef : defOf q r.name = some (d, kwd)) (hp : r.prog.theDef r.name = some (d.params, d.body, d.scope)) (hk : kwWritten? d.params.kwonlyargs d.params.kw_defaults = some kwd) (hRf : ∀ s, Xt s = true → RecFacts r.records s.heap) (hwr : (!r.writes || r.records.isEmpty) = true)
    (k1 : r.wellSaid = true) (ok : (chainsOk q && opensWell r.prog && (frees r.toRowW && r.within.isEmpty)) = true) (hb : r.prog.bare) (hw : r.toRowW.promised)
    (call : WalkC q loose XP YP r.toRowW d kwd) : r.Holds := by
  obtain ⟨hch, o1, k5, k6⟩ : chainsOk q = true ∧ opensWell r.prog = true ∧ frees r.toRowW = true ∧ r.within.isEmpty = true := by
    exact ⟨(Bool.and_eq_true_iff.mp (Bool.and_eq_true_iff.mp ok).1).1, (Bool.and_eq_true_iff.mp (Bool.and_eq_true_iff.mp ok).1).2, (Bool.and_eq_true_iff.mp (Bool.and_eq_true_iff.mp ok).2).1, (Bool.and_eq_true_iff.mp (Bool.and_eq_true_iff.mp ok).2).2⟩
  obtain ⟨hsame, hu, ha, hap, hm⟩ := frees_parts k5
  refine ⟨k1, hw, ⟨hb, o1, by show r.makers.map _ = []; rw [hm]; rfl⟩, hw.witness, fun w => ⟨(left.behind hX hch w).1, fun s' hs' => ?_⟩⟩
  obtain ⟨s₀, hf, hg0, s, hT, hz, hgens, hg, G00, y⟩ := (left.behind (XP := fun mg h => XP mg h ∧ RecFacts r.records h) (fun s hs => ⟨hX s hs, hRf s hs⟩) hch w).2 s' hs'
  have G0 : Ground q loose [] XP w s (s.heap.nsMap mainGlobals) (s.heap.nsMap builtinsNs) s.heap := ⟨G00.T, G00.B, G00.D, G00.TE, G00.TD, G00.W, G00.X.1, G00.cls, G00.has, G00.apart, G00.once, G00.K⟩
  have RF := G00.X.2
  have hgens : s.gens = #[] := Array.eq_empty_of_size_eq_zero (beq_iff_eq.mp hgens)
  have G : Ground q loose r.records XP w s _ _ s.heap := RF.ground G0
  refine ⟨s₀, hf, hg0, s, hT, fun n hn => ?_, RF.1, RF.2.1, fun args hpre hlay ord hord => ?_⟩
  · obtain rfl : n = r.name := by
      split at hn
      · exact List.mem_singleton.mp hn
      · exact absurd hn List.not_mem_nil
    exact pinned_of_view hg G0 hdef hp hk
  obtain ⟨⟨vs, s₁⟩, hlaid⟩ := Option.isSome_iff_exists.mp (layAllW_isSome (P := w.params) (ord := ord) G.has args r.args s (pre_splitW hpre).1)
  have keeps := layAllW_keeps _ _ _ hlaid
  have hal := layAllW_rest _ _ _ hlaid
  obtain ⟨as, hrd, hin, hold⟩ := reads_layAllW hord _ _ _ hlaid hlay s₁.heap (fun _ _ e => e)
  have Ld : Laid r.records w s s₁ args vs as := ⟨⟨ord, hord, hlaid⟩, hrd, hin, hold, keeps, hal.1.trans hgens, hal.2.2.1⟩
  have G₁ := G.keeps hXk keeps
  obtain ⟨a, o, pm, cd, doc, dV, kV, h1, h2, h3, h4, h5⟩ := G₁.fn hdef
  have main := call w s s₁ _ _ G₁ (hYk _ _ _ (hY w s y) keeps) a o pm cd doc dV kV h2 h3 h4 h5 (defOf_name hdef ▸ h1) Ld.gens args vs as hpre hlay Ld.reads Ld.well (Ld.low G.low)
  have hi := ident_freeW hu ha hap
  have hwi : r.claim.within = [] := List.isEmpty_iff.mp k6
  have thread : wpC (model r.prog w) callerA (do match ← nsGet mainNs r.name with
      | some f => do ret (← PySem.call f vs)
      | none => unsupported "claim.caller:no-such-global")
      (fun fin s' => ∃ f, fin = .done f ∧ GoodWG r.claim (classAt s.heap) (ExcName.means s.heap) args s₁ (.ok f) s' ∧ AllBare s'.gens)
      (fun e s' => GoodWG r.claim (classAt s.heap) (ExcName.means s.heap) args s₁ (.error e) s' ∧ AllBare s'.gens) s₁ := by
    refine wpC_then (wpAny_nsGet G₁.T.g ?_)
    rw [h1]
    exact wpC_bind (wpC_mono main (fun v s' g => wpC_pure ⟨_, rfl, g, g.2.2.2⟩) fun e s' g => ⟨g, g.2.2.2⟩)
  obtain ⟨k, res, s', s'', hrun, hsched, hfo, g⟩ := ends_clean (R := fun res s' => GoodWG r.claim (classAt s.heap) (ExcName.means s.heap) args s₁ res s') (Shared.asleep_of_life hal.2.2.2 hz) thread
  obtain ⟨eh, _, _, eo, _⟩ := Shared.forget_eq hfo
  have z := g.laid (c := r.claim) hsame hwi hi Ld
  have hkp := namesKept_of hT hg r.keeps keeps g.2.1.old
  have hcase := z.1.congr eh
  rw [← eh] at hkp
  have hos := z.2.1
  rw [← eo] at hos
  have hlife : s'.heap.life = s.heap.life := (runN_life _ _ _ hrun).trans hal.2.2.2
  refine ⟨vs, s₁, hlaid, k, _, s', hsched, ?_, (fun _ i x hx => by rw [hgens] at hx; simp at hx), fun q => ⟨hkp, noTable hwr q⟩, by rw [hlife], Shared.rest_eq hos⟩
  rcases hcase with ⟨v, rfl, d1, d2, d3, d4, d5⟩ | ⟨e, ob, cls, rfl, d1, d2, d3, d4, d5⟩
  · exact .inl ⟨v, rfl, d1, d2, d3, fun b o y _ => d4 b o y, d5⟩
  · exact .inr ⟨e, ob, cls, rfl, d1, d2, d3, d4, fun b o y _ => d5 b o y⟩
end
/-! the heap is written out first (hk), and boxed beside a small fact: so the library's quick forms lay no second copy of it (dead weight in the compiled file) -/
theorem stayO {r : OpenRow} (H : Hook) (hw : r.toRowW.promised) (hc : r.Holds) : r.Holds := hc
section
local macro_rules | `(tactic| o_head $H) => `(tactic| refine stayO $H ?hw ?hc)
open_top hk for PySem.Challenge.rw_ko0001_01.row
end
noncomputable abbrev HeapBox : Type := { K : Params → Frag // (Str.ofString "a").cps.size = 1 }
noncomputable def heapBox : HeapBox := by
  refine' (?f : ∀ K : Params → Frag, K = hk.heap_1 → HeapBox) _ ?h
  case h => delta hk.heap_1; exact rfl
  case f => intro K _; exact ⟨K, by decide +kernel⟩
section
local macro_rules | `(tactic| o_head ($f $K $as $e)) => `(tactic| o_head (@kHook heapBox.1 $as $e : Hook))
open_top hd for PySem.Challenge.rw_ko0001_01
end
theorem box_eq : heapBox.1 = hd.heap_39 := by kernel_rfl
theorem fill_once : (PySem.Challenge.rw_ko0001_01 = PySem.Challenge.rw_ko0001_01) ∧ hd.heap_39 = hd.heap_39 := by
  w_top off
  k_with_none
  k_fill
  exact ⟨rfl, rfl⟩
section
noncomputable abbrev TopM (mean : ExcName → Option Value) (mg mb : Str → Option Value) (h : Heap) : Prop := Top hd.view_39 (looseW hd.view_39
      [Str.ofString "bytes_types", Str.ofString "a2b_base64", Str.ofString "b2a_base64", Str.ofString "b64encode",
        Str.ofString "b64decode", Str.ofString "_urlsafe_decode_translation"]) mean mg mb h

theorem code_defM {prog : Program} {w : World} {A A₀ : Around} {s : Shared} {K : Frag} {L : Addr} {h₀ base : Heap} {m mg mb : Str → Option Value} {p : Program} {loose : List Str} {mean : ExcName → Option Value}
    {env : Env} {outer : List Env} {R : Result → Shared → Prop} {name qual : Str} {params : Arguments} {body : List Stmt} {scope : Scope} {dV kV doc pm cdv ct oc : Value} {an od : Option Addr} {osl : Array (Option Value)} {f : Addr} {args : Args} {binds : List (Str × Value)}
    (B : Below A₀ base outer h₀) (F : Fr h₀ L s.heap m) (X₀ : K.In h₀) (T : Top p loose mean mg mb h₀) (hA : A.frames = some (env :: outer)) (hf : env.frame = some L) (hke : env.scope.kind = .function)
    (ho : K.lookup f = some ⟨oc, od, .func (fnOf name qual params body scope dV kV doc pm an cdv ct), osl⟩) (hcd : codeIn K cdv qual = true) (hroom : A.depth < recursionLimit)
    (hbind : BindsTo s (fnOf name qual params body scope dV kV doc pm an cdv ct) args binds) (hloc : ∀ y ∈ binds, scope.names.lookup y.1 = some .local)
    (h : ∀ L' h₁, Fr s.heap L' h₁ (fun y => binds.reverse.lookup y) → News s.heap L' h₁ [] → Below A base (env :: outer) s.heap → K.In s.heap → Top p loose mean mg mb s.heap →
      wpAny (model prog w) (A.deeper (envOf qual scope L' f cdv)) (execs body (envOf qual scope L' f cdv))
        (fun fl s' => R (.ok (.ret (match fl with | .ret v => v | _ => .none))) s')
        (fun e s' => wpAny (model prog w) (A.deeper (envOf qual scope L' f cdv)) (leaving (envOf qual scope L' f cdv) e) (fun _ s'' => R (.error e) s'') (fun e' s'' => R (.error e') s'') s')
        { s with heap := h₁, toks := s.toks + binds.length })
    (hco : scope.isCoroutine = false) (hgen : scope.isGenerator = false) (hk : scope.kind = .function)
    (hcell : ∀ x ∈ scope.names, x.2 ≠ .cell) : codeAny (model prog w) A (.call (.ref f) args) R s := by
  have N : News h₀ L s.heap [] := News.nil
  obtain ⟨FG, BG, st, lv⟩ := groundX (R := R) B F N hA hf hke
  have X₁ : K.In s.heap := X₀.keeps F.keep
  refine codeAny_call_def (fd := fnOf name qual params body scope dV kV doc pm an cdv ct) (body := body) (binds := binds) hroom (X₁ _ _ ho) rfl (T.nolimit.keeps F.keep) (codeRec_of X₁ hcd) rfl hbind hcell hloc (fun h₁ hns hk₁ => ?_) hco hgen hk
  exact h s.heap.objs.size h₁ ⟨hns, hk₁, Nat.le_refl _⟩ News.nil BG X₁ (T.keeps F.keep)
/-- one call of the text's own def: what comes back -/
noncomputable def Ct (w : World) (mean : ExcName → Option Value) (mg mb : Str → Option Value) (f : Addr) (vs : List Value) (kw : List (Str × Value)) (d u : Nat) (Pre : Heap → Prop) (Post : Heap → Heap → Value → Prop) : Prop :=
  ∀ (dp un : Nat) (gd : Option (List Code)) (cn : Str) (cs : Scope) (a : Addr) (ccd : Value) (cl : List (Str × Addr)) (outer : List Env) (A₀ : Around) (base h₀ : Heap) (L : Addr) (m : Str → Option Value) (s : Shared) (Q E : Value → Shared → Prop),
    Below A₀ base outer h₀ → Fr h₀ L s.heap m → (hd.heap_39 w.params).In h₀ → TopM mean mg mb h₀ → cs.kind = .function → dp + d < recursionLimit → un + u < cLine → Pre s.heap →
      (∀ r h' tk', s.heap.StaysIn h' → Post s.heap h' r → Q r { s with heap := h', toks := tk' }) →
      wpAny (model PySem.Challenge.rw_ko0001_01.row.prog w) (ktrTop dp un gd cn cs L a ccd cl outer) (call (.ref f) vs kw) Q E s


theorem retI {h₀ h' : Heap} {s : Shared} {Q : Value → Shared → Prop} {x y : Int} {t : Tok} {tk' : Nat} {L : Addr} {m : Str → Option Value}
    (hret : ∀ r h' tk', h₀.StaysIn h' → (∃ t', r = .int x t') → Q r { s with heap := h', toks := tk' }) (F : Fr h₀ L h' m) (e : y = x) : Q (.int y t) { s with heap := h', toks := tk' } :=
  hret _ _ _ F.keep ⟨t, e ▸ rfl⟩
theorem stays_of {h₀ h : Heap} {L : Addr} {m : Str → Option Value} (F : Fr h₀ L h m) : h₀.StaysIn h := F.keep

/-- a bytearray that nobody looks into -/
noncomputable def baObj (b : Array UInt8) : Obj := { cls := .type "bytearray", data := .bytearray b }

theorem kitAt_ba {h : Heap} {a : Addr} {b : Array UInt8} (hx : h.get? a = some (baObj b)) : KitAt a "bytearray" h := ⟨_, hx, rfl⟩

theorem Ct.use {w : World} {mean : ExcName → Option Value} {mg mb : Str → Option Value} {f : Addr} {vs : List Value} {kw : List (Str × Value)} {d u : Nat} {Pre : Heap → Prop} {Post : Heap → Heap → Value → Prop}
    {dp un : Nat} {gd : Option (List Code)} {cn : Str} {cs : Scope} {a : Addr} {ccd : Value} {cl : List (Str × Addr)} {outer : List Env} {A₀ : Around} {base h₀ : Heap} {L : Addr} {m : Str → Option Value} {news : List (Addr × Obj)} {s : Shared} {Q E : Value → Shared → Prop}
    (C : Ct w mean mg mb f vs kw d u Pre Post) (B : Below A₀ base outer h₀) (F : Fr h₀ L s.heap m) (X : (hd.heap_39 w.params).In h₀) (N : News h₀ L s.heap news) (T : TopM mean mg mb h₀) (hk : cs.kind = .function) (hd : dp + d < recursionLimit) (hu : un + u < cLine) (hp : Pre s.heap)
    (ret : ∀ r h' tk', Fr h₀ L h' m → News h₀ L h' news → s.heap.StaysIn h' → Post s.heap h' r → Q r { s with heap := h', toks := tk' }) :
    wpAny (model PySem.Challenge.rw_ko0001_01.row.prog w) (ktrTop dp un gd cn cs L a ccd cl outer) (call (.ref f) vs kw) Q E s := by
  refine C dp un gd cn cs a ccd cl outer A₀ base h₀ L m s Q E B F X T hk hd hu hp fun r h' tk' st hpost => ret r h' tk' ?_ ?_ st hpost
  · exact F.keeps st
  · exact fun p hp => ⟨st _ _ (N p hp).1, (N p hp).2⟩
theorem lenM {prog : Program} {w : World} {A : Around} {E : Value → Shared → Prop} {s : Shared} {l : Addr} {vs : List Value} {ns : List Int} {Q : Value → Shared → Prop} (hl : s.heap.IsList l vs.toArray) (hi : IntsAre vs ns) (hfit : vs.length ≤ 16777216)
    (h : Q (.int (ns.length : Nat) (s.toks + 1)) { s with toks := s.toks + 1 + 1 }) : wpAny (model prog w) A (call (.builtin "len") [.ref l]) Q E s :=
  PyProof.Rows.len_list hl (by rw [List.size_toArray]; omega) (by rw [List.size_toArray, hi.length]; exact h)
theorem bytesM {prog : Program} {w : World} {A : Around} {E : Value → Shared → Prop} {s : Shared} {h₀ : Heap} {L l : Addr} {m : Str → Option Value} {news : List (Addr × Obj)} {vs : List Value} {ns : List Int} {Q : Value → Shared → Prop} (F : Fr h₀ L s.heap m) (N : News h₀ L s.heap news) (hl : s.heap.IsList l vs.toArray) (hi : IntsAre vs ns) (hr : ∀ n ∈ ns, 0 ≤ n ∧ n < 256) (hfit : vs.length ≤ 16777216) (hh : A.handled = none)
    (h : ∀ h' t k, Fr h₀ L h' m → News h₀ L h' news → Q (.bytes (byteArr ns) t) { s with heap := h', toks := k }) : wpAny (model prog w) A (call (.type "bytes") [.ref l]) Q E s :=
  call_bytes_ints hl hi hr (by rw [sizeLine_eq]; exact hfit) hh fun h' t k hk => h h' t k (F.keeps hk) fun p hp => ⟨hk _ _ (N p hp).1, (N p hp).2⟩
theorem RaisedK.drop {base : Heap} {l : List Env} {e : Addr} {cls : Value} {t : Addr} {vs : List Value} {news : List (Addr × Obj)} {h : Heap} (R : RaisedK base l e cls t vs news h) : RaisedK base l e cls t vs [] h :=
  let ⟨⟨B, hB, _, hfl, hnew⟩, ht⟩ := R; ⟨⟨B, hB, (fun _ hq => nomatch hq), hfl, hnew⟩, ht⟩

/-- one call that gives bytes, or raises the text's own Error with a text -/
noncomputable def CtD (w : World) (mean : ExcName → Option Value) (mg mb : Str → Option Value) (f : Addr) (vs : List Value) (kw : List (Str × Value)) (d u : Nat) (Pre : Heap → Prop) (R : Except Str (Array UInt8)) : Prop :=
  ∀ (dp un : Nat) (gd : Option (List Code)) (cn : Str) (cs : Scope) (a : Addr) (ccd : Value) (cl : List (Str × Addr)) (outer : List Env) (A₀ : Around) (base h₀ : Heap) (L : Addr) (m : Str → Option Value) (s : Shared) (Q E : Value → Shared → Prop),
    Below A₀ base outer h₀ → Fr h₀ L s.heap m → (hd.heap_39 w.params).In h₀ → TopM mean mg mb h₀ → cs.kind = .function → dp + d < recursionLimit → un + u < cLine → Pre s.heap →
      (∀ bs t h' tk', R = .ok bs → s.heap.StaysIn h' → Q (.bytes bs t) { s with heap := h', toks := tk' }) →
      (∀ msg e tu tm h' tk', R = .error msg → RaisedK base (envX cn cs L a ccd cl :: outer) e (.ref 39) tu [.str msg tm] [] h' → s.heap.UpToSlots h' → E (.ref e) { s with heap := h', toks := tk' }) →
      wpAny (model PySem.Challenge.rw_ko0001_01.row.prog w) (ktrTop dp un gd cn cs L a ccd cl outer) (call (.ref f) vs kw) Q E s
theorem CtD.use {w : World} {mean : ExcName → Option Value} {mg mb : Str → Option Value} {f : Addr} {vs : List Value} {kw : List (Str × Value)} {d u : Nat} {Pre : Heap → Prop} {R : Except Str (Array UInt8)}
    {dp un : Nat} {gd : Option (List Code)} {cn : Str} {cs : Scope} {a : Addr} {ccd : Value} {cl : List (Str × Addr)} {outer : List Env} {A₀ : Around} {base h₀ : Heap} {L : Addr} {m : Str → Option Value} {news : List (Addr × Obj)} {s : Shared} {Q E : Value → Shared → Prop}
    (C : CtD w mean mg mb f vs kw d u Pre R) (B : Below A₀ base outer h₀) (F : Fr h₀ L s.heap m) (X : (hd.heap_39 w.params).In h₀) (N : News h₀ L s.heap news) (T : TopM mean mg mb h₀) (hk : cs.kind = .function) (hd : dp + d < recursionLimit) (hu : un + u < cLine) (hp : Pre s.heap)
    (ret : ∀ bs t h' tk', R = .ok bs → Fr h₀ L h' m → News h₀ L h' news → Q (.bytes bs t) { s with heap := h', toks := tk' })
    (err : ∀ msg e tu tm h' tk', R = .error msg → RaisedK base (envX cn cs L a ccd cl :: outer) e (.ref 39) tu [.str msg tm] [] h' → s.heap.UpToSlots h' → E (.ref e) { s with heap := h', toks := tk' }) :
    wpAny (model PySem.Challenge.rw_ko0001_01.row.prog w) (ktrTop dp un gd cn cs L a ccd cl outer) (call (.ref f) vs kw) Q E s :=
  C dp un gd cn cs a ccd cl outer A₀ base h₀ L m s Q E B F X T hk hd hu hp (fun bs t h' tk' e st => ret bs t h' tk' e (F.keeps st) fun p hp => ⟨st _ _ (N p hp).1, (N p hp).2⟩) err
@[irreducible] noncomputable def bAnd (a b : Int) : Int := Builtin.bitAnd a b
@[irreducible] noncomputable def bOr (a b : Int) : Int := Builtin.bitOr a b
@[irreducible] noncomputable def bShl (a n : Int) : Int := a * 2 ^ n.toNat
@[irreducible] noncomputable def bShr (a n : Int) : Int := a.fdiv (2 ^ n.toNat)
theorem bAnd_def (a b : Int) : bAnd a b = Builtin.bitAnd a b := by unfold bAnd; rfl
theorem bOr_def (a b : Int) : bOr a b = Builtin.bitOr a b := by unfold bOr; rfl
theorem bShl_def (a n : Int) : bShl a n = a * 2 ^ n.toNat := by unfold bShl; rfl
theorem bShr_def (a n : Int) : bShr a n = a.fdiv (2 ^ n.toNat) := by unfold bShr; rfl
section
variable {prog : Program} {w : World} {A : Around} {E : Value → Shared → Prop} {s : Shared} {Q : Value → Shared → Prop} {a b : Int} {t u : Tok}
theorem andM (h : Q (.int (bAnd a b) s.toks) { s with toks := s.toks + 1 }) : wpAny (model prog w) A (binaryOp .BitAnd (.int a t) (.int b u)) Q E s := and_int (by rw [bAnd_def] at h; exact h)
theorem orM' (h : Q (.int (bOr a b) s.toks) { s with toks := s.toks + 1 }) : wpAny (model prog w) A (binaryOp .BitOr (.int a t) (.int b u)) Q E s := or_int (by rw [bOr_def] at h; exact h)
theorem shlM (hn : 0 ≤ b) (hn2 : b ≤ 1000000) (ha : a.natAbs < 2 ^ 64) (h : Q (.int (bShl a b) s.toks) { s with toks := s.toks + 1 }) : wpAny (model prog w) A (binaryOp .LShift (.int a t) (.int b u)) Q E s := lshift_int_small hn hn2 ha (by rw [bShl_def] at h; exact h)
theorem shrM (hn : 0 ≤ b) (h : Q (.int (bShr a b) s.toks) { s with toks := s.toks + 1 }) : wpAny (model prog w) A (binaryOp .RShift (.int a t) (.int b u)) Q E s := rshift_int hn (by rw [bShr_def] at h; exact h)
end

theorem code_defMC {prog : Program} {w : World} {A A₀ : Around} {s : Shared} {K : Frag} {L : Addr} {h₀ base : Heap} {m mg mb : Str → Option Value} {p : Program} {loose : List Str} {mean : ExcName → Option Value}
    {env : Env} {outer : List Env} {R : Result → Shared → Prop} {name qual : Str} {params : Arguments} {body : List Stmt} {scope : Scope} {dV kV doc pm cdv ct oc : Value} {an od : Option Addr} {osl : Array (Option Value)} {f : Addr} {args : Args} {binds : List (Str × Value)}
    (B : Below A₀ base outer h₀) (F : Fr h₀ L s.heap m) (X₀ : K.In h₀) (T : Top p loose mean mg mb h₀) (hA : A.frames = some (env :: outer)) (hf : env.frame = some L) (hke : env.scope.kind = .function)
    (ho : K.lookup f = some ⟨oc, od, .func (fnOf name qual params body scope dV kV doc pm an cdv ct), osl⟩) (hcd : codeIn K cdv qual = true) (hroom : A.depth < recursionLimit)
    (hbind : BindsTo s (fnOf name qual params body scope dV kV doc pm an cdv ct) args binds) (hkind : (binds.all fun y => scope.names.lookup y.1 == some .local || scope.names.lookup y.1 == some .cell) = true)
    (hnd : ((cellsFrom 0 scope.names []).map (·.1)).Nodup)
    (h : ∀ L' h₁ tk cells, Fr s.heap L' h₁ (bindL (envOfC qual scope L' f cdv).kindOf binds fun _ => none) → News s.heap L' h₁ cells →
      CellsAre (bindC (envOfC qual scope L' f cdv).kindOf binds fun _ => none) (cellsFrom (L' + 1) scope.names []) cells → Below A base (env :: outer) s.heap → K.In s.heap → Top p loose mean mg mb s.heap →
      wpAny (model prog w) (A.deeper (envOfC qual scope L' f cdv)) (execs body (envOfC qual scope L' f cdv))
        (fun fl s' => R (.ok (.ret (match fl with | .ret v => v | _ => .none))) s')
        (fun e s' => wpAny (model prog w) (A.deeper (envOfC qual scope L' f cdv)) (leaving (envOfC qual scope L' f cdv) e) (fun _ s'' => R (.error e) s'') (fun e' s'' => R (.error e') s'') s')
        { s with heap := h₁, toks := tk })
    (hco : scope.isCoroutine = false) (hgen : scope.isGenerator = false) (hk : scope.kind = .function) : codeAny (model prog w) A (.call (.ref f) args) R s := by
  have N : News h₀ L s.heap [] := News.nil
  obtain ⟨FG, BG, st, lv⟩ := groundX (R := R) B F N hA hf hke
  have X₁ : K.In s.heap := X₀.keeps F.keep
  refine codeAny_call_function hroom (X₁ _ _ ho) rfl hco hgen rfl (codeRec_of X₁ hcd) (hbind _ _ _ _ ?_)
  refine wpAny_newFunctionEnv_cells hk (kindsX hkind _) fun env' he s' x => ?_
  subst he
  refine ⟨(T.nolimit.keeps F.keep).keeps x.toInCall.keep, codeAny_func ?_⟩
  obtain ⟨h₁, tk, rfl, _⟩ := x.done
  obtain ⟨cells, NC, Y⟩ := Cl.news (h₀ := s.heap) (Nat.le_refl _) fun n c hm => ⟨x.cell n c (lookup_of_mem_nodup (cellsFrom_names scope.names 0 (s.heap.objs.size + 1) [] [] rfl ▸ hnd) hm), x.above n c hm⟩
  exact h s.heap.objs.size h₁ tk cells ⟨x.toInCall.ns, x.toInCall.keep, Nat.le_refl _⟩ NC Y BG X₁ (T.keeps F.keep)
section
variable {prog : Program} {w : World} {A : Around} {E : Value → Shared → Prop} {s : Shared} {Q : Value → Shared → Prop}
theorem itemM {l : Addr} {vs : List Value} {ns : List Int} {k : Int} {u : Tok} {value slice : PySem.Expr} (hl : s.heap.IsList l vs.toArray) (hi : IntsAre vs ns) (hr : ∀ n ∈ ns, 0 ≤ n ∧ n < 256) (h0 : 0 ≤ k) (h1 : k < (ns.length : Int)) (h2 : ns.length ≤ 16777216)
    (h : ∀ t, 0 ≤ ns.getD k.toNat 0 → ns.getD k.toNat 0 < 256 → Q (.int (ns.getD k.toNat 0) t) s)
    (hs : subscripted slice false (.ref l) (.int k u) = operate [.ref l, .int k u] (getItem (.ref l) (.int k u)) := by with_unfolding_all rfl) (hg : ∀ r, letTemporaryGo value (.ref l) r = pure () := by intro _; with_unfolding_all rfl) :
    wpAny (model prog w) A (subscriptTail value slice (.ref l) (.int k u)) Q E s := by
  have hk : k.toNat < ns.length := by omega
  have hg1 : ns[k.toNat]? = some ns[k.toNat] := List.getElem?_eq_getElem hk
  obtain ⟨t, ht⟩ := hi.get _ _ hg1
  have e : ns.getD k.toNat 0 = ns[k.toNat] := by rw [List.getD_eq_getElem?_getD, hg1]; rfl
  have hb := hr _ (List.getElem_mem hk)
  rw [← e] at hb
  refine PyProof.Rows.item_list hl h0 (by omega) (x := .int ns[k.toNat] t) (by simpa using ht) ?_ hs hg
  rw [← e]
  exact h t hb.1 hb.2
end
end
section
/-! bytearrays: type, isinstance, bytes(bytearray), bytearray(bytes) -/
theorem ba_slot_ga : Slot "bytearray" "__getattribute__" "bytearray.__getattribute__" :=
  .of (owner := "bytearray") (n := "__getattribute__") (by rw [typeLookup_type, builtinLookup_eq_fast]; kernel_rfl) (by decide +kernel) (by decide +kernel) (by decide +kernel)
    (by first | exact .inl (by decide +kernel) | exact .inr (by decide +kernel)) (by rw [isSubtype_type]; kernel_rfl)
theorem ba_args_ga (a b : Value) : argsOk "bytearray.__getattribute__" ⟨[a, b], []⟩ := by unfold argsOk; kernel_rfl
theorem ba_entry_ga : entryFor table "bytearray.__getattribute__" = some Builtin.«object.__getattribute__» :=
  entryFor_alias (id' := "object.__getattribute__") (by kernel_rfl) (by first | rfl | decide +kernel) (by decide +kernel) (by kernel_rfl)
theorem ba_lk_class : typeLookup (.type "bytearray") "__class__" = pure (some (.builtin "object.__class__")) := by rw [typeLookup_type, builtinLookup_eq_fast]; kernel_rfl
theorem ba_sub_owner : isSubtype (.type "bytearray") (.type (".".intercalate ("object.__class__".cutAt '.').dropLast)) = pure true := by
  rw [F.owner_object_class, isSubtype_type]; kernel_rfl

section
variable {prog : Program} {w : World} {A : Around} {E : Value → Shared → Prop} {h : Heap} {g : Array GenState} {d : Drawn} {t : Nat} {os : OsState} {a : Addr} {o : Obj}

theorem ba_class_get {R : Result → Shared → Prop} (hx : h.get? a = some o) (hc : o.cls = .type "bytearray") (hq : R (.ok (.ret (.type "bytearray"))) ⟨h, g, d, t, os⟩) :
    codeAny (model prog w) A (.call (.builtin "getset_descriptor.__get__") ⟨[.builtin "object.__class__", .ref a, .type "bytearray"], []⟩) R ⟨h, g, d, t, os⟩ := by
  have hT : (⟨h, g, d, t, os⟩ : Shared).TypeIs (.ref a) "bytearray" := ⟨_, hx, hc⟩
  have hT5 : (⟨h, g, d, t, os⟩ : Shared).TypeIs (.builtin "object.__class__") "getset_descriptor" := F.typeOf_object_class
  have f8 := ba_sub_owner
  refine codeAny_call_builtin F.slot_gs_get.plain F.entry_gs_get (F.slot_gs_get.check _ _ _ _ _ _ _ _ hT5 (F.args_gs_get _ _ _) ?_)
  repeat (any_goals (first | assumption | wp_step))
  refine ⟨Code.quiet_builtin _ (by decide +kernel), codeAny_builtin F.entry_object_class ?_⟩
  repeat (any_goals (first | assumption | wp_step))

theorem ba_class_entry {tk : Tok} {Q : Fin → Shared → Prop} (hx : h.get? a = some o) (hc : o.cls = .type "bytearray") (hq : Q (.done (.ret (.type "bytearray"))) ⟨h, g, d, t, os⟩) :
    wpAny (model prog w) A (Builtin.«object.__getattribute__» ⟨[.ref a, .str "__class__" tk], []⟩) Q E ⟨h, g, d, t, os⟩ := by
  have hT : (⟨h, g, d, t, os⟩ : Shared).TypeIs (.ref a) "bytearray" := ⟨_, hx, hc⟩
  have hT5 : (⟨h, g, d, t, os⟩ : Shared).TypeIs (.builtin "object.__class__") "getset_descriptor" := F.typeOf_object_class
  have f4 := ba_lk_class
  have f5 := F.typeOf_object_class
  have f6 := F.slot_gs_get.lookup
  have f7 := F.slot_gs_set.lookup
  repeat (any_goals (first | assumption | wp_step))
  refine ba_class_get hx hc ?_
  repeat (any_goals (first | assumption | wp_step))

theorem ba_class_call {tk : Tok} {R : Result → Shared → Prop} (hx : h.get? a = some o) (hc : o.cls = .type "bytearray") (hq : R (.ok (.ret (.type "bytearray"))) ⟨h, g, d, t, os⟩) :
    codeAny (model prog w) A (.call (.builtin "bytearray.__getattribute__") ⟨[.ref a, .str "__class__" tk], []⟩) R ⟨h, g, d, t, os⟩ :=
  codeAny_call_builtin ba_slot_ga.plain ba_entry_ga (ba_slot_ga.check _ _ _ _ _ _ _ _ (show (⟨h, g, d, t, os⟩ : Shared).TypeIs (.ref a) "bytearray" from ⟨_, hx, hc⟩) (ba_args_ga _ _) (ba_class_entry hx hc hq))

theorem ba_class_by {tk : Tok} {Q : Value → Shared → Prop} (hx : h.get? a = some o) (hc : o.cls = .type "bytearray") (hq : Q (.type "bytearray") ⟨h, g, d, t, os⟩) : wpAny (model prog w) A (getAttrBy (.ref a) (.str "__class__" tk) false) Q E ⟨h, g, d, t, os⟩ := by
  have hT : (⟨h, g, d, t, os⟩ : Shared).TypeIs (.ref a) "bytearray" := ⟨_, hx, hc⟩
  have f2 := ba_slot_ga.lookup
  have f3 := ba_slot_ga.bind (.ref a)
  repeat (any_goals (first | assumption | wp_step))
  refine ba_class_call hx hc ?_
  repeat (any_goals (first | assumption | wp_step))

theorem ba_class_attr {Q : Option Value → Shared → Prop} (hx : h.get? a = some o) (hc : o.cls = .type "bytearray") (hq : Q (some (.type "bytearray")) ⟨h, g, d, t + 1, os⟩) : wpAny (model prog w) A (getAttr? (.ref a) "__class__") Q E ⟨h, g, d, t, os⟩ := by
  unfold getAttr? getAttrBy?
  repeat (any_goals (first | assumption | with_reducible apply ba_class_by hx hc | wp_step))
end
theorem kitx_ba {K : Frag} {a : Addr} : KitX K (.ref a) (.type "bytearray") (KitAt a "bytearray") := kitx_of kitAt_ty (fun {_ _ _ _ _ s} p k => by obtain ⟨h, g, d, t, os⟩ := s; obtain ⟨o, h1, h2⟩ := p; exact ba_class_attr h1 h2 k)

/-! bytes(bytearray) -/
theorem ba_no_bytes : typeLookup (.type "bytearray") "__bytes__" = pure none := by rw [typeLookup_type, builtinLookup_eq_fast]; kernel_rfl
theorem ba_no_index : typeLookup (.type "bytearray") "__index__" = pure none := by rw [typeLookup_type, builtinLookup_eq_fast]; kernel_rfl
theorem ba_buffer : typeLookup (.type "bytearray") "__buffer__" = pure (some (.builtin "bytearray.__buffer__")) := by rw [typeLookup_type, builtinLookup_eq_fast]; kernel_rfl
theorem ba_release : typeLookup (.type "bytearray") "__release_buffer__" = pure (some (.builtin "bytearray.__release_buffer__")) := by rw [typeLookup_type, builtinLookup_eq_fast]; kernel_rfl
theorem ba_self : isSubtype (.type "bytearray") (.type "bytearray") = pure true := by rw [isSubtype_type]; kernel_rfl
end
section
section
variable {prog : Program} {w : World} {A : Around} {E : Value → Shared → Prop} {s : Shared} {a : Addr} {b : Array UInt8} {k : Nat}
open Builtin

theorem ba_own_any {M : Model} {nm : String} {id : String} (hT : s.TypeIs (.ref a) "bytearray") (hl : typeLookup (.type "bytearray") (nm : Str) = pure (some (.builtin id))) (he : id.endsWith ("." ++ nm) = true) (hd : id.dropRight (nm.length + 1) = "bytearray") {Q : Bool → Shared → Prop} (h : Q true s) :
    wpAny M A (Bytes.slotIsOwn (.ref a) nm) Q E s := by
  unfold Bytes.slotIsOwn
  refine wpAny_bind (wpAny_specialOf hT hl ?_)
  show wpAny M A (if (!id.endsWith ("." ++ nm)) = true then _ else _) Q E s
  rw [if_neg (by rw [he]; exact Bool.false_ne_true)]
  rw [hd]
  exact wpAny_isInstance hT ba_self h

theorem ba_own_release {M : Model} (hT : s.TypeIs (.ref a) "bytearray") {Q : Bool → Shared → Prop} (h : Q false s) : wpAny M A (Bytes.ownRelease (.ref a)) Q E s := by
  unfold Bytes.ownRelease
  exact wpAny_bind (ba_own_any hT ba_release (by decide +kernel) (by decide +kernel) (wpAny_pure h))

theorem ba_payload {M : Model} (hx : s.heap.get? a = some { cls := .type "bytearray", data := .bytearray b k }) {Q : Array UInt8 → Shared → Prop} (h : Q b s) : wpAny M A (Bytes.payload (.ref a)) Q E s := by
  unfold Bytes.payload Bytes.payload?
  refine wpAny_bind (wpAny_bind (wpAny_load hx ?_))
  exact wpAny_pure (wpAny_pure h)

theorem ba_buffer_of {M : Model} {id : String} {full : Bool} (hx : s.heap.get? a = some { cls := .type "bytearray", data := .bytearray b k }) {Q : Option (Array UInt8) → Shared → Prop} (h : Q (some b) s) : wpAny M A (Bytes.buffer? id (.ref a) full) Q E s := by
  have hT : s.TypeIs (.ref a) "bytearray" := ⟨_, hx, rfl⟩
  unfold Bytes.buffer?
  refine wpAny_bind (wpAny_specialOf hT ba_buffer ?_)
  dsimp only
  refine wpAny_bind (ba_own_any hT ba_buffer (by decide +kernel) (by decide +kernel) ?_)
  refine bm_if_false rfl ?_
  refine wpAny_bind (wpAny_specialOf hT ba_buffer ?_)
  refine wpAny_bind (ba_own_release hT ?_)
  refine bm_if_false rfl ?_
  refine wpAny_bind (ba_payload hx ?_)
  exact wpAny_pure h

theorem ba_bytes_new {Q : Value → Shared → Prop} (hx : s.heap.get? a = some { cls := .type "bytearray", data := .bytearray b k }) (hz : b.size ≤ sizeLine) (hQ : ∀ t k, Q (.bytes b t) { s with toks := k }) :
    codeAny (model prog w) A (.call (.builtin "bytes.__new__") ⟨[.type "bytes", .ref a], []⟩) (wants Q E) s := by
  have hT : s.TypeIs (.ref a) "bytearray" := ⟨_, hx, rfl⟩
  refine codeAny_of_tree ?_
  show wpAny _ A.in1 (do checkBuiltinCall "bytes.__new__" ⟨[.type "bytes", .ref a], []⟩; again (.builtin "bytes.__new__" ⟨[.type "bytes", .ref a], []⟩)) _ _ s
  refine wpAny_bind (wpAny_of_eq (F.bm_newCall _) (wpAny_pure ⟨plainId_quiet F.bm_plain _, codeAny_builtin F.bm_entry ?_⟩))
  rw [Around.under_plainId F.bm_plain _]
  unfold Builtin.«bytes.__new__»
  refine wpAny_bind (wpAny_of_eq (a := true) rfl ?_)
  refine bm_if_false rfl ?_
  refine wpAny_bind (wpAny_of_eq F.bm_sub ?_)
  refine bm_if_false rfl ?_
  refine wpAny_bind (wpAny_of_eq (F.bm_bind _) ?_)
  refine wpAny_bind (wpAny_of_eq (a := ()) rfl ?_)
  refine wpAny_bind (wpAny_of_eq (a := ()) rfl ?_)
  refine bm_if_false rfl ?_
  refine wpAny_bind (wpAny_specialOf hT ba_no_bytes ?_)
  refine wpAny_bind (wpAny_bind ?_)
  show wpAny _ _ (load a >>= _) _ _ _
  refine wpAny_bind (wpAny_load hx ?_)
  refine wpAny_pure (wpAny_pure ?_)
  refine bm_if_false rfl ?_
  refine wpAny_bind (wpAny_specialOf hT ba_no_index ?_)
  refine bm_if_true rfl ?_
  first
    | show wpAny _ _ (Builtin.Bytes.buffer? "bytes.__new__" (.ref a) true >>= _) _ _ _
    | (refine wpAny_bind ?_; show wpAny _ _ (Builtin.Bytes.buffer? "bytes.__new__" (.ref a) true >>= _) _ _ _)
  refine wpAny_bind (ba_buffer_of hx ?_)
  refine wpAny_bind (wpAny_rule ?_)
  refine wpAny_bind (wpAny_mkBytes ?_ hz)
  repeat (any_goals (first | assumption | wp_step))
  exact hQ _ _

theorem ba_bytes {Q : Value → Shared → Prop} (hx : s.heap.get? a = some { cls := .type "bytearray", data := .bytearray b k }) (hz : b.size ≤ sizeLine) (hQ : ∀ t k, Q (.bytes b t) { s with toks := k }) :
    wpAny (model prog w) A (call (.type "bytes") [.ref a]) Q E s := by
  refine callType_codes (Q₁ := fun obj s₁ => s₁.TypeIs obj "bytes" ∧ Q obj s₁) F.bm_called (F.bm_typeCall _) F.entry_object_init
    (ba_bytes_new hx hz fun t k => ⟨PySem.W.typeIs_bytes _ _ _, hQ t k⟩) fun obj s₁ h₁ => ?_
  exact ⟨h₁.1, F.args_object_init_2 obj _, object_init_meets F.bm_called.init.lookup F.bm_called.made (by decide) prog w A.in1 _ s₁ ⟨h₁.1, rfl, h₁.2⟩⟩
end
end
section
open Builtin in
theorem en_road (id : String) (self : Value) (x : Str) : _codecs.encodeRoad id self x (PySem.Str.ofString "ascii") none = (_codecs.encodeNarrow id _codecs.asciiCodec none self x >>= fun r => mkBytes r) := by kernel_rfl
open Builtin in
theorem en_entry (x : Str) (t u : Tok) : «str.encode» ⟨[.str x t, .str (PySem.Str.ofString "ascii") u], []⟩ = (_codecs.encodeRoad "str.encode" (.str x t) x (PySem.Str.ofString "ascii") none >>= fun v => ret v) := by kernel_rfl
section
variable {M : Model} {A : Around} {E : Value → Shared → Prop} {s : Shared}
open Builtin
theorem en_fold (l : List Nat) : ∀ acc : Array UInt8, l.foldl (fun acc y => acc ++ (_codecs.asciiCodec.bytesOf y).toArray) acc = acc ++ (l.map (·.toUInt8)).toArray := by
  induction l with
  | nil => intro acc; simp
  | cons a l ih => intro acc; rw [List.foldl_cons, ih]; simp [_codecs.asciiCodec]
theorem en_narrow {id : String} {self : Value} {x : Str} {Q : Array UInt8 → Shared → Prop} (ha : ∀ c ∈ x.cps, c < 128) (hz : x.cps.size ≤ sizeLine) (h : Q (x.cps.map (·.toUInt8)) s) :
    wpAny M A (_codecs.encodeNarrow id _codecs.asciiCodec none self x) Q E s := by
  have hbad : x.cps.findIdx? _codecs.asciiCodec.bad = none := by
    rw [Array.findIdx?_eq_none_iff]
    intro c hc
    have := ha c hc
    show decide (c ≥ 128) = false
    exact decide_eq_false (by omega)
  have hfold : Array.foldl (fun acc y => acc ++ (_codecs.asciiCodec.bytesOf y).toArray) #[] x.cps = x.cps.map (·.toUInt8) := by
    rw [← Array.foldl_toList, en_fold]
    apply Array.ext'
    simp
  unfold _codecs.encodeNarrow
  dsimp only
  refine wpAny_bind ?_
  rw [Std.Legacy.Range.forIn_eq_forIn_range']
  have hlen : (List.range' [:x.length].start [:x.length].size [:x.length].step).length = x.cps.size := by
    rw [List.length_range']
    simp [Std.Legacy.Range.size, Str.length]
  generalize List.range' [:x.length].start [:x.length].size [:x.length].step = L at hlen ⊢
  cases L with
  | nil =>
    rw [List.forIn_nil]
    refine wpAny_pure (wpAny_pure ?_)
    have hn : x.cps = #[] := Array.eq_empty_of_size_eq_zero hlen.symm
    rw [hn] at h
    simpa using h
  | cons a L =>
    rw [List.length_cons] at hlen
    have h0 : 0 < x.cps.size := by omega
    have hx0 : x.cps[0]? = some x.cps[0] := Array.getElem?_eq_getElem h0
    have hb0 : _codecs.asciiCodec.bad x.cps[0] = false := by
      have := ha x.cps[0] (Array.getElem_mem h0)
      show decide (x.cps[0] ≥ 128) = false
      exact decide_eq_false (by omega)
    rw [List.forIn_cons]
    refine wpAny_bind ?_
    rw [if_neg (by simp)]
    simp only [hx0, hb0, Bool.not_false, if_true, Array.extract_zero, Array.extract_size, hbad, Option.getD_none]
    refine wpAny_pure ?_
    dsimp only
    rw [hfold]
    have hx1 : x.cps[0 + x.cps.size]? = none := Array.getElem?_eq_none (by omega)
    cases L with
    | nil =>
      rw [List.forIn_nil]
      exact wpAny_pure (wpAny_pure h)
    | cons a' L =>
      rw [List.forIn_cons]
      refine wpAny_bind ?_
      rw [if_neg (by simpa using hz)]
      simp only [hx1]
      refine wpAny_pure ?_
      exact wpAny_pure (wpAny_pure h)
end
section
variable {prog : Program} {w : World} {A : Around} {E : Value → Shared → Prop} {s : Shared}
open Builtin
theorem en_meets {x : Str} {t u : Tok} (ha : ∀ c ∈ x.cps, c < 128) (hz : x.cps.size ≤ sizeLine) :
    Meets («str.encode» ⟨[.str x t, .str (PySem.Str.ofString "ascii") u], []⟩) (fun _ R s => ∀ t' k, R (.ok (.ret (.bytes (x.cps.map (·.toUInt8)) t'))) { s with toks := k }) := by
  refine .of_wp fun prog w A R s h => ?_
  rw [en_entry, en_road]
  refine wpAny_bind (wpAny_bind (en_narrow ha hz ?_))
  refine wpAny_mkBytes (wpAny_pure ⟨_, rfl, h _ _⟩) ?_
  rw [Array.size_map]; exact hz
theorem en_call {x : Str} {t u : Tok} {Q : Value → Shared → Prop} (ha : ∀ c ∈ x.cps, c < 128) (hz : x.cps.size ≤ sizeLine) (h : ∀ t' k, Q (.bytes (x.cps.map (·.toUInt8)) t') { s with toks := k }) :
    wpAny (model prog w) A (call (.builtin "str.encode") [.str x t, .str (PySem.Str.ofString "ascii") u]) Q E s :=
  call_meets F.slot_str_encode (typeIs_str _ _ _) F.entry_str_encode (F.args_str_encode_2 _ _) (en_meets ha hz) h
theorem en_method {M : Model} {x : Str} {t : Tok} {pl : Sem Bool} {Q : Value × List Value → Shared → Prop} (h : Q (.builtin "str.encode", [.str x t]) s) : wpAny M A (getMethod (.str x t) "encode" pl) Q E s :=
  getMethod_builtin (typeIs_str _ _ _) F.plainAttrs_str F.slot_str_encode F.type_str_encode (fun _ e => nomatch e) h
end
end
section
theorem tr_slot : Slot "bytes" "translate" "bytes.translate" :=
  .of (owner := "bytes") (n := "translate") (by rw [typeLookup_type, builtinLookup_eq_fast]; kernel_rfl) (by decide +kernel) (by decide +kernel) (by decide +kernel)
    (by first | exact .inl (by decide +kernel) | exact .inr (by decide +kernel)) (by rw [isSubtype_type]; kernel_rfl)
theorem tr_type : typeOf (.builtin "bytes.translate") = pure (.type "method_descriptor") := by show builtinType _ = _; rw [builtinType_eq_fast]; kernel_rfl
theorem tr_entry : entryFor table "bytes.translate" = some Builtin.«bytes.translate» := entryFor_of_tree (by kernel_rfl)
theorem tr_args (a b : Value) : argsOk "bytes.translate" ⟨[a, b], []⟩ := by
  unfold argsOk; rw [signature?_of (id := "bytes.translate") (n := ['e', 't', 'a', 'l', 's', 'n', 'a', 'r', 't']) (o := ['s', 'e', 't', 'y', 'b']) (by kernel_rfl) PySem.W.FB.owner_bytes]; kernel_rfl
section
open Builtin
theorem tr_like {id : String} {b : Array UInt8} {t : Tok} : Bytes.bytesLike id (.bytes b t) = pure b := by
  unfold Bytes.bytesLike
  rw [PySem.W.KBy.buffer_eq]
  rfl
theorem tr_pay {b : Array UInt8} {t : Tok} : Bytes.payload (.bytes b t) = pure b := rfl
theorem tr_meets {b tb : Array UInt8} {t u : Tok} (ht : tb.size = 256) (hz : b.size ≤ sizeLine) :
    Meets («bytes.translate» ⟨[.bytes b t, .bytes tb u], []⟩) (fun _ R s => ∀ t' k, R (.ok (.ret (.bytes (b.map fun c => tb.getD c.toNat c) t'))) { s with toks := k }) := by
  refine .of_wp fun prog w A R s h => ?_
  unfold Builtin.«bytes.translate» Bytes.translateM
  dsimp only
  rw [if_neg (by simp), if_neg (by simp)]
  refine wpAny_bind (wpAny_of_eq tr_like ?_)
  rw [if_neg (by simp [ht])]
  refine wpAny_bind (wpAny_pure ?_)
  refine wpAny_bind (wpAny_pure ?_)
  refine wpAny_bind (wpAny_of_eq tr_pay ?_)
  have hf : b.filter (fun c => !(#[] : Array UInt8).contains c) = b := by simp
  rw [hf]
  dsimp only
  by_cases hq' : (b.map fun c => tb.getD c.toNat c) = b
  · rw [if_pos (by rw [hq']; exact beq_self_eq_true b)]
    rw [hq'] at h
    refine wpAny_bind (wpAny_rule ?_)
    refine wpAny_bind ?_
    unfold Bytes.Kind.same
    rw [if_pos (by decide)]
    refine wpAny_bind (wpAny_typeOf (PySem.W.typeIs_bytes _ _ _) ?_)
    rw [if_pos (by decide)]
    exact wpAny_pure (wpAny_pure ⟨_, rfl, h t s.toks⟩)
  · rw [if_neg (by simpa using hq')]
    refine wpAny_bind ?_
    show wpAny _ _ (mkBytes _) _ _ _
    refine wpAny_mkBytes (wpAny_pure ⟨_, rfl, h _ _⟩) ?_
    rw [Array.size_map]; exact hz
end
section
variable {prog : Program} {w : World} {A : Around} {E : Value → Shared → Prop} {s : Shared}
theorem tr_call {b tb : Array UInt8} {t u : Tok} {Q : Value → Shared → Prop} (ht : tb.size = 256) (hz : b.size ≤ sizeLine) (h : ∀ t' k, Q (.bytes (b.map fun c => tb.getD c.toNat c) t') { s with toks := k }) :
    wpAny (model prog w) A (call (.builtin "bytes.translate") [.bytes b t, .bytes tb u]) Q E s :=
  call_meets tr_slot (PySem.W.typeIs_bytes _ _ _) tr_entry (tr_args _ _) (tr_meets ht hz) h
theorem tr_method {M : Model} {b : Array UInt8} {t : Tok} {pl : Sem Bool} {Q : Value × List Value → Shared → Prop} (h : Q (.builtin "bytes.translate", [.bytes b t]) s) : wpAny M A (getMethod (.bytes b t) "translate" pl) Q E s := by
  with_reducible exact PySem.W.KBd.method_of (.bytes b t) (PySem.W.typeIs_bytes _ _ _) tr_slot tr_type PySem.W.KBd.noRef h
end
/-- what the url-safe translation makes of a byte -/
noncomputable def trC (c : UInt8) : UInt8 := if c = 45 then 43 else if c = 95 then 47 else c
@[irreducible] noncomputable def trU (b : Array UInt8) : Array UInt8 := b.map trC
theorem trU_def (b : Array UInt8) : trU b = b.map trC := by unfold trU; rfl
section
variable {prog : Program} {w : World} {A : Around} {E : Value → Shared → Prop} {s : Shared}
theorem trM {b tb : Array UInt8} {t u : Tok} {Q : Value → Shared → Prop} (ht : tb.size = 256) (he : ∀ n : Fin 256, tb.getD n.val (UInt8.ofNat n.val) = trC (UInt8.ofNat n.val)) (hz : b.size ≤ sizeLine) (h : ∀ t' k, Q (.bytes (trU b) t') { s with toks := k }) :
    wpAny (model prog w) A (call (.builtin "bytes.translate") [.bytes b t, .bytes tb u]) Q E s := by
  have e : (fun c : UInt8 => tb.getD c.toNat c) = trC := by
    funext c
    have := he ⟨c.toNat, c.toNat_lt⟩
    simpa using this
  refine tr_call ht hz fun t' k => ?_
  rw [e, ← trU_def]
  exact h t' k
end
end
section
section
variable {prog : Program} {w : World} {A : Around} {E : Value → Shared → Prop} {s : Shared} {env : Env} {h₀ : Heap} {x : Str} {body : List Stmt} {Q : Flow → Shared → Prop}

/-- what a turn leaves: some state of the loop's own -/
noncomputable def Lj {σ : Type} (x : Str) (St : σ → Str → Option Value) (Led : σ → List (Addr × Obj)) (I : σ → Prop) (m : Str → Option Value) (nx : List (Addr × Obj)) : Prop :=
  ∃ c, nx = Led c ∧ (∀ y, y ≠ x → m y = St c y) ∧ I c

theorem loopG {σ : Type} {I : Addr} {fp wr : List Addr} {n : Nat} {P : Nat → Value → Prop} {Sv : Nat → Heap → Prop} {m₀ : Str → Option Value}
    (St : σ → Str → Option Value) (Led : σ → List (Addr × Obj)) (Inv : Nat → σ → Prop) (c₀ : σ)
    (W : Walks prog w A I fp wr n P Sv) (hLf : env.locals ∉ fp) (hwr : ∀ b ∈ wr, h₀.get? b = none) (hnw : ∀ p ∈ Led c₀, p.1 ∉ wr) (hfp : ∀ q ∈ Led c₀, q.1 ∉ fp) (hst : Sv 0 s.heap)
    (F : Fr h₀ env.locals s.heap m₀) (N : News h₀ env.locals s.heap (Led c₀)) (hm : ∀ y, y ≠ x → m₀ y = St c₀ y) (hi : Inv 0 c₀)
    (turn : ∀ i v c h tk own, i < n → P i v → Inv i c → (Led c).map (·.1) = (Led c₀).map (·.1) → OwnOff own ((Led c₀).map (·.1)) → Fr h₀ env.locals h (fun y => if y = x then some v else St c y) → News h₀ env.locals h (Led c ++ own) →
      wpAny (model prog w) A (execs body env) (InvPostN h₀ env.locals (Lj x St Led (Inv (i + 1))) own ((Led c₀).map (·.1)) { s with heap := h, toks := tk } Q) E { s with heap := h, toks := tk })
    (done : ∀ c u h tk, Inv n c → Fr h₀ env.locals h (fun y => if y = x then u else St c y) → News h₀ env.locals h (Led c) → Q .next { s with heap := h, toks := tk }) :
    LoopAtV prog w A h₀ env x body Q E (.ref I) s := by
  have fr : ∀ {h : Heap} {m : Str → Option Value} {c : σ} {v : Option Value}, (∀ y, y ≠ x → m y = St c y) → (fun y => if y = x then v else m y) = fun y => if y = x then v else St c y := by
    intro h m c v hh
    funext y
    by_cases hy : y = x
    · rw [if_pos hy, if_pos hy]
    · rw [if_neg hy, if_neg hy]; exact hh y hy
  refine loop_invN (fun i m nx => nx.map (·.1) = (Led c₀).map (·.1) ∧ Lj x St Led (Inv i) m nx) W hLf hwr hnw hfp hst F N ⟨rfl, c₀, rfl, hm, hi⟩ ?_ ?_
  · rintro i v m₁ nx h tk own hin hP _ hoff ⟨hadr, c, rfl, hm₁, hI⟩ F₁ N₁
    rw [fr (h := h) hm₁] at F₁
    refine wpAny_mono (turn i v c h tk own hin hP hI hadr hoff F₁ N₁) (fun f s₂ p => ?_) fun _ _ e => e
    have fin : InvEndN h₀ env.locals (Lj x St Led (Inv (i + 1))) own ((Led c₀).map (·.1)) { s with heap := h, toks := tk } s₂ →
        InvEndN h₀ env.locals (fun m nx => nx.map (·.1) = (Led c₀).map (·.1) ∧ Lj x St Led (Inv (i + 1)) m nx) own ((Led c₀).map (·.1)) { s with heap := h, toks := tk } s₂ := by
      rintro ⟨h', tk', m', news', nx, e, F', N', hn, ho, ha, hJ⟩
      exact ⟨h', tk', m', news', nx, e, F', N', hn, ho, ha, ha, hJ⟩
    cases f with
    | ret v => exact p
    | brk => exact p
    | next => exact fin p
    | cont => exact fin p
  · rintro m₁ nx h tk ⟨_, c, rfl, hm₁, hI⟩ F₁ N₁
    refine done c (m₁ x) h tk hI ?_ N₁
    rw [← fr (h := h) hm₁]
    have e : (fun y => if y = x then m₁ x else m₁ y) = m₁ := by
      funext y
      by_cases hy : y = x
      · rw [if_pos hy, hy]
      · rw [if_neg hy]
    rw [e]; exact F₁

theorem turn_end {σ : Type} {St : σ → Str → Option Value} {Led : σ → List (Addr × Obj)} {I : σ → Prop} (c : σ) {L : Addr} {h' : Heap} {tk : Nat} {m' : Str → Option Value} {own news' : List (Addr × Obj)} {adr : List Addr} {s₁ : Shared}
    (F : Fr h₀ L h' m') (N : News h₀ L h' news') (hm : ∀ y, y ≠ x → m' y = St c y) (hn : ∀ p ∈ Led c, p ∈ news') (ho : ∀ p ∈ own, p ∈ news') (ha : (Led c).map (·.1) = adr) (hi : I c) :
    InvEndN h₀ L (Lj x St Led I) own adr s₁ { s₁ with heap := h', toks := tk } := InvEndN.intro F N ⟨c, rfl, hm, hi⟩ ha hn ho

/-- a loop over a bytes value -/
theorem loopB {σ : Type} {b : Array UInt8} {tb : Tok} {m₀ : Str → Option Value} (St : σ → Str → Option Value) (Led : σ → List (Addr × Obj)) (Inv : List Int → σ → Prop) (c₀ : σ)
    (hh : A.handled = none) (F : Fr h₀ env.locals s.heap m₀) (N : News h₀ env.locals s.heap (Led c₀)) (hm : ∀ y, y ≠ x → m₀ y = St c₀ y) (hi : Inv [] c₀)
    (turn : ∀ pre n post t c h tk own, KBw.bInts b = pre ++ n :: post → 0 ≤ n → n < 256 → Inv pre c → (Led c).map (·.1) = (Led c₀).map (·.1) → OwnOff own ((Led c₀).map (·.1)) → Fr h₀ env.locals h (fun y => if y = x then some (.int n t) else St c y) → News h₀ env.locals h (Led c ++ own) →
      wpAny (model prog w) A (execs body env) (InvPostN h₀ env.locals (Lj x St Led (Inv (pre ++ [n]))) own ((Led c₀).map (·.1)) { s with heap := h, toks := tk } Q) E { s with heap := h, toks := tk })
    (done : ∀ c u h tk, Inv (KBw.bInts b) c → Fr h₀ env.locals h (fun y => if y = x then u else St c y) → News h₀ env.locals h (Led c) → Q .next { s with heap := h, toks := tk }) :
    wpAny (model prog w) A (pyIter (.bytes b tb)) (fun it s₂ => LoopAtV prog w A h₀ env x body Q E it s₂) E s := by
  refine KBw.pyIter_bytes ?_
  have W := KBw.walks (prog := prog) (w := w) hh s.heap.objs.size b tb
  refine loopG St Led (fun i c => Inv ((KBw.bInts b).take i) c) c₀ W ?_ ?_ ?_ ?_ ⟨_, Heap.get?_push_size _ rfl, rfl, rfl⟩ (F.push _) (fun p hp => ⟨Heap.get?_push_of_some _ (N p hp).1, (N p hp).2⟩) hm (by simpa using hi) ?_ ?_
  · intro hm
    exact absurd F.ns.lt ((List.mem_singleton.mp hm) ▸ Nat.lt_irrefl _)
  · intro b' hb
    rw [List.mem_singleton.mp hb]
    exact next_is_new F
  · intro p hp hI
    exact absurd (Heap.lt_size (N p hp).1) ((List.mem_singleton.mp hI) ▸ Nat.lt_irrefl _)
  · intro p hp hI
    exact absurd (Heap.lt_size (N p hp).1) ((List.mem_singleton.mp hI) ▸ Nat.lt_irrefl _)
  · rintro i v c h tk own hlt ⟨n, u, hn, rfl⟩ hI hadr hoff F₁ N₁
    have hn' := KBw.ints_get hn
    have hs : (KBw.bInts b).take (i + 1) = (KBw.bInts b).take i ++ [(n.toNat : Int)] := by simp [List.take_add_one, hn']
    have e : KBw.bInts b = (KBw.bInts b).take i ++ (n.toNat : Int) :: (KBw.bInts b).drop (i + 1) := by
      have ht := List.take_append_drop (i + 1) (KBw.bInts b)
      rw [hs, List.append_assoc] at ht
      exact ht.symm
    have hb := KBw.ints_in (List.mem_of_getElem? hn')
    rw [hs]
    exact turn _ _ _ u c h tk own e hb.1 hb.2 hI hadr hoff F₁ N₁
  · rintro c u h tk hI F₁ N₁
    have h8 : b.size = (KBw.bInts b).length := (KBw.ints_length b).symm
    rw [h8, List.take_length] at hI
    exact done c u h tk hI F₁ N₁

/-- a loop over a range of any step -/
theorem loopR {σ : Type} {r : Addr} {a₀ b₀ c₁ : Int} {t₀ u₀ v₀ : Tok} {n : Nat} {m₀ : Str → Option Value} (St : σ → Str → Option Value) (Led : σ → List (Addr × Obj)) (Inv : Nat → σ → Prop) (c₀ : σ)
    (hh : A.handled = none) (hr : IsRange s.heap r a₀ b₀ c₁ t₀ u₀ v₀) (hsmall : Builtin.Range.small a₀ b₀ c₁ = true) (hn : Builtin.Range.rangeSize a₀ b₀ c₁ = (n : Int))
    (F : Fr h₀ env.locals s.heap m₀) (N : News h₀ env.locals s.heap (Led c₀)) (hm : ∀ y, y ≠ x → m₀ y = St c₀ y) (hi : Inv 0 c₀)
    (turn : ∀ i t c h tk own, i < n → Inv i c → (Led c).map (·.1) = (Led c₀).map (·.1) → OwnOff own ((Led c₀).map (·.1)) → Fr h₀ env.locals h (fun y => if y = x then some (.int (a₀ + (i : Int) * c₁) t) else St c y) → News h₀ env.locals h (Led c ++ own) →
      wpAny (model prog w) A (execs body env) (InvPostN h₀ env.locals (Lj x St Led (Inv (i + 1))) own ((Led c₀).map (·.1)) { s with heap := h, toks := tk } Q) E { s with heap := h, toks := tk })
    (done : ∀ c u h tk, Inv n c → Fr h₀ env.locals h (fun y => if y = x then u else St c y) → News h₀ env.locals h (Led c) → Q .next { s with heap := h, toks := tk }) :
    wpAny (model prog w) A (pyIter (.ref r)) (fun it s₂ => LoopAtV prog w A h₀ env x body Q E it s₂) E s := by
  refine wpAny_pyIter_range hr hsmall ?_
  have W := Walks.range (prog := prog) (w := w) hh s.heap.objs.size a₀ c₁ n
  refine loopG St Led Inv c₀ W ?_ ?_ ?_ ?_ (by show IsRangeIter _ _ _ _ _; rw [hn]; simpa using Heap.get?_push_size _ rfl) (F.push _) (fun p hp => ⟨Heap.get?_push_of_some _ (N p hp).1, (N p hp).2⟩) hm hi ?_ ?_
  · intro hm
    exact absurd F.ns.lt ((List.mem_singleton.mp hm) ▸ Nat.lt_irrefl _)
  · intro b' hb
    rw [List.mem_singleton.mp hb]
    exact next_is_new F
  · intro p hp hI
    exact absurd (Heap.lt_size (N p hp).1) ((List.mem_singleton.mp hI) ▸ Nat.lt_irrefl _)
  · intro p hp hI
    exact absurd (Heap.lt_size (N p hp).1) ((List.mem_singleton.mp hI) ▸ Nat.lt_irrefl _)
  · rintro i v c h tk own hlt ⟨t, rfl⟩ hI hadr hoff F₁ N₁
    exact turn i t c h tk own hlt hI hadr hoff F₁ N₁
  · exact fun c u h tk hI F₁ N₁ => done c u h tk hI F₁ N₁
end
end
section
/-! comprehensions over anything that walks: unrolled or by an invariant -/
open LCg
section
variable {prog : Program} {w : World} {A : Around} {E : Value → Shared → Prop} {s : Shared} {h₀ : Heap} {L : Addr} {m : Str → Option Value} {env : Env}
theorem CompEnd.same {I C D : Addr} {s₁ : Shared} {oI oC oD : Obj} {S : List (Addr × Obj) → Prop} {rest : Value → List (Addr × Obj) → Prop} {y : Value} {h' : Heap} {tk : Nat} {news' : List (Addr × Obj)}
    (F : Fr h₀ L h' m) (N : News h₀ L h' ((I, oI) :: (C, oC) :: (D, oD) :: news')) (off : Off3 I C D news') (hS : S news') (r : rest y news') :
    CompEnd h₀ L m s₁ I oI C oC D oD S rest y { s₁ with heap := h', toks := tk } := ⟨h', tk, news', rfl, F, N, off, hS, r⟩
/-- what stands when the iterator of a comprehension is made -/
noncomputable def CompIt (prog : Program) (w : World) (A : Around) (h₀ : Heap) (L : Addr) (m : Str → Option Value) (env : Env) (elt : Expr) (x : Str) (scope : Scope) (cl : List (Str × Addr)) (Fin : Shared → List Value → List (Addr × Obj) → Prop) (it : Value) (s₂ : Shared) : Prop :=
  ∃ (I : Addr) (fp : List Addr) (n : Nat) (P : Nat → Value → Prop) (St : Nat → Heap → Prop) (S : List (Addr × Obj) → Prop) (news : List (Addr × Obj)), it = .ref I ∧ Walks prog w A I fp [I] n P St ∧ n ≤ sizeLine ∧ (∀ i h, St i h → ∃ o, h.get? I = some o) ∧
    (∀ i h h' o nw, St i h → h.get? I = some o → h'.get? I = some o → (∀ b o, h₀.get? b = some o → h'.get? b = some o) → News h₀ L h' nw → S nw → St i h') ∧
    St 0 s₂.heap ∧ (∀ b ∈ fp, b < s₂.heap.objs.size) ∧ Fr h₀ L s₂.heap m ∧ News h₀ L s₂.heap news ∧ L ≠ I ∧ h₀.get? I = none ∧ (∀ p ∈ news, p.1 ≠ I) ∧ S news ∧
    CompRest prog w A h₀ L m env elt x scope cl s₂ S P (Fin s₂) n 0 [] news
theorem ListComp_G {elt iter : Expr} {x : Str} {px : Pos} {scope : Scope} {cl : List (Str × Addr)} {pos : Pos} {Q : Value → Shared → Prop} (F₀ : Fr h₀ L s.heap m)
    (hclos : closureFor scope env = pure cl) (hcell : ∀ y ∈ scope.names, y.2 ≠ .cell) (hkind : scope.kind = .function)
    (hnames : ∀ y ∈ scope.names, y.2 = .local → scope.names.lookup y.1 = some .local) (hx : scope.names.lookup x = some .local)
    (h : wpAny (model prog w) A (eval iter env) (fun xv s₁ => wpAny (model prog w) A (pyIter xv) (CompIt prog w A h₀ L m env elt x scope cl (fun s₂ => FinE h₀ L m s₂ Q)) E s₁) E s)
    (hs : ∀ x, foldedSetIterable iter env x = pure x := by intro _; rfl) :
    wpAny (model prog w) A (eval (.ListComp elt [⟨.Name x px, iter, [], 0⟩] scope pos) env) Q E s := by
  rw [eval_ListComp]
  refine wpAny_comprehension_free (use := none) rfl hs hclos hkind hnames (wpAny_mono h (fun xv s₁ h₁ => wpAny_mono h₁ (fun it s₂ h₂ => ?_) fun _ _ e => e) fun _ _ e => e)
  obtain ⟨I, fp, n, P, St, S, news, rfl, W, hsz, hIo, hSt, hst, hfp, F, N, hIL, hI₀, off, hS, R⟩ := h₂
  refine block_U W hsz hIo hSt hcell hkind hx hst hfp F N hIL hI₀ off hS R ?_
  intro D C h tk m' ys news' F' N' o1 hn hC₀ hD₀ hCL hDL hCD offC fin
  refine ⟨m', hn, fun h'' hs'' => fin D h'' tk (F'.change hs'' hCL hC₀) (fun p hp => ?_) o1⟩
  refine ⟨hs''.extBut _ _ ?_ (N' p hp).1, (N' p hp).2⟩
  rcases List.mem_cons.mp hp with rfl | hp
  · exact Ne.symm hCD
  · exact offC p hp
/-- turns by an invariant -/
theorem CompRest.inv {elt : Expr} {x : Str} {scope : Scope} {cl : List (Str × Addr)} {S : List (Addr × Obj) → Prop} {P : Nat → Value → Prop} {Fin : List Value → List (Addr × Obj) → Prop} {n : Nat} (Inv : Nat → List Value → List (Addr × Obj) → Prop)
    (turn : ∀ i ys news v I oI C oC D m₂ h tk (E' : Value → Shared → Prop), i < n → Inv i ys news → P i v → NsObj oC m₂ → m₂ x = some v → Fr h₀ L h m → News h₀ L h ((I, oI) :: (C, oC) :: (D, lst ys) :: news) → Off3 I C D news → ((@Ne Nat I C) ∧ (@Ne Nat I D) ∧ (@Ne Nat C D)) →
      wpAny (model prog w) A (eval elt (compEnvC scope cl C env)) (CompEnd h₀ L m { s with heap := h, toks := tk } I oI C oC D (lst ys) S (fun y news' => Inv (i + 1) (ys ++ [y]) news')) E' { s with heap := h, toks := tk })
    (done : ∀ ys news, Inv n ys news → Fin ys news) :
    ∀ (k i : Nat) (ys : List Value) (news : List (Addr × Obj)), i + k = n → Inv i ys news → CompRest prog w A h₀ L m env elt x scope cl s S P Fin k i ys news
  | 0, i, ys, news, e, hi => CompRest.zero (done _ _ (by rw [Nat.add_zero] at e; rw [← e]; exact hi))
  | k + 1, i, ys, news, e, hi => CompRest.succ fun v I oI C oC D m₂ h tk E' hP hC hx F N off ne =>
      wpAny_mono (turn i ys news v I oI C oC D m₂ h tk E' (by omega) hi hP hC hx F N off ne) (fun y s₂ ⟨h', tk', nw, es, F', N', off', hS, hr⟩ =>
        ⟨h', tk', nw, es, F', N', off', hS, CompRest.inv Inv turn done k (i + 1) (ys ++ [y]) nw (by omega) hr⟩) fun _ _ e => e
noncomputable def SrcT (h₀ : Heap) (ax : Addr) (its : Array Value) (news : List (Addr × Obj)) : Prop := h₀.IsTuple ax its ∨ ∃ o, (ax, o) ∈ news ∧ o.cls = .type "tuple" ∧ ∃ n, o.data = .seq its n
theorem SrcT.made {ax : Addr} {its : Array Value} {k : Nat} {news : List (Addr × Obj)} (hm : (ax, ({ cls := .type "tuple", data := .seq its k } : Obj)) ∈ news) : SrcT h₀ ax its news := .inr ⟨_, hm, rfl, _, rfl⟩
theorem SrcT.tuple {h : Heap} {ax : Addr} {its : Array Value} {news : List (Addr × Obj)} (x : SrcT h₀ ax its news) (k : ∀ b o, h₀.get? b = some o → h.get? b = some o) (N : News h₀ L h news) : h.IsTuple ax its := by
  rcases x with ⟨o, e, r⟩ | ⟨o, hm, r⟩
  · exact ⟨o, k _ _ e, r⟩
  · exact ⟨o, (N _ hm).1, r⟩
section
variable {elt : Expr} {x : Str} {scope : Scope} {cl : List (Str × Addr)} {Fin : Shared → List Value → List (Addr × Obj) → Prop} {news : List (Addr × Obj)}
theorem iter_tuple {ax : Addr} {its : Array Value} (hh : A.handled = none) (F : Fr h₀ L s.heap m) (N : News h₀ L s.heap news) (S : SrcT h₀ ax its news) (hsz : its.size ≤ sizeLine)
    (R : ∀ g, CompRest prog w A h₀ L m env elt x scope cl { s with heap := g } (SrcT h₀ ax its) (fun i v => its[i]? = some v) (Fin { s with heap := g }) its.size 0 [] news) :
    wpAny (model prog w) A (pyIter (.ref ax)) (CompIt prog w A h₀ L m env elt x scope cl Fin) E s := by
  have ht := S.tuple F.keep N
  have hlt : ax < s.heap.objs.size := by obtain ⟨_, e, _⟩ := ht; exact Heap.lt_size e
  refine wpAny_pyIter_tuple ht ?_
  have up : ∀ b o, s.heap.get? b = some o → (s.heap.push { cls := .type "tuple_iterator", data := .fields #[.ref ax, .int 0 0] }).get? b = some o := fun b o e => Heap.get?_push_of_some _ e
  refine ⟨_, _, _, _, _, SrcT h₀ ax its, news, rfl, Walks.tuple hh s.heap.objs.size ax (Nat.ne_of_lt hlt) its, hsz, fun i h st => by obtain ⟨o, e, _⟩ := st.1; exact ⟨o, e⟩, ?_, ⟨⟨_, Heap.get?_push_size _ rfl, rfl, rfl⟩, ?_⟩, fun b hb => ?_,
    F.keeps up, N.grown up, Nat.ne_of_lt F.ns.lt, next_is_new F, fun p hp => Nat.ne_of_lt (Heap.lt_size (N p hp).1), S, R _⟩
  · intro i h h' o nw st e e' k N S
    refine ⟨?_, S.tuple k N⟩
    obtain ⟨o', q, r⟩ := st.1
    rw [e] at q; cases q; exact ⟨o, e', r⟩
  · obtain ⟨o, e, r⟩ := ht
    exact ⟨o, up _ _ e, r⟩
  · show b < (s.heap.push _).objs.size
    rw [Heap.size_push]
    rcases List.mem_cons.mp hb with rfl | hb
    · exact Nat.lt_succ_self _
    · rw [List.mem_singleton.mp hb]; exact Nat.lt_succ_of_lt hlt
theorem iter_list {ax : Addr} {its : Array Value} (hh : A.handled = none) (F : Fr h₀ L s.heap m) (N : News h₀ L s.heap news) (S : SrcAt h₀ ax its news) (hsz : its.size ≤ sizeLine)
    (R : ∀ g, CompRest prog w A h₀ L m env elt x scope cl { s with heap := g } (SrcAt h₀ ax its) (fun i v => its[i]? = some v) (Fin { s with heap := g }) its.size 0 [] news) :
    wpAny (model prog w) A (pyIter (.ref ax)) (CompIt prog w A h₀ L m env elt x scope cl Fin) E s := by
  have ht := S.list F.keep N
  have hlt : ax < s.heap.objs.size := by obtain ⟨_, e, _⟩ := ht; exact Heap.lt_size e
  refine wpAny_pyIter_list ht ?_
  have up : ∀ b o, s.heap.get? b = some o → (s.heap.push { cls := .type "list_iterator", data := .fields #[.ref ax, .int 0 0] }).get? b = some o := fun b o e => Heap.get?_push_of_some _ e
  refine ⟨_, _, _, _, _, SrcAt h₀ ax its, news, rfl, Walks.list hh s.heap.objs.size ax (Nat.ne_of_lt hlt) its, hsz, fun i h st => by obtain ⟨o, e, _⟩ := st.1; exact ⟨o, e⟩, list_st, ⟨⟨_, Heap.get?_push_size _ rfl, rfl, rfl⟩, ht.push _⟩, fun b hb => ?_,
    F.keeps up, N.grown up, Nat.ne_of_lt F.ns.lt, next_is_new F, fun p hp => Nat.ne_of_lt (Heap.lt_size (N p hp).1), S, R _⟩
  show b < (s.heap.push _).objs.size
  rw [Heap.size_push]
  rcases List.mem_cons.mp hb with rfl | hb
  · exact Nat.lt_succ_self _
  · rw [List.mem_singleton.mp hb]; exact Nat.lt_succ_of_lt hlt
theorem iter_bytes {b : Array UInt8} {tb : Tok} (hh : A.handled = none) (F : Fr h₀ L s.heap m) (N : News h₀ L s.heap news) (hsz : b.size ≤ sizeLine)
    (R : ∀ g, CompRest prog w A h₀ L m env elt x scope cl { s with heap := g } (fun _ => True) (fun i v => ∃ n u, (KBw.bInts b)[i]? = some n ∧ 0 ≤ n ∧ n < 256 ∧ v = .int n u) (Fin { s with heap := g }) b.size 0 [] news) :
    wpAny (model prog w) A (pyIter (.bytes b tb)) (CompIt prog w A h₀ L m env elt x scope cl Fin) E s := by
  refine KBw.pyIter_bytes ?_
  have W := KBw.walks (prog := prog) (w := w) hh s.heap.objs.size b tb
  refine ⟨_, _, _, _, _, fun _ => True, news, rfl, W.weaken (P' := fun i v => ∃ n u, (KBw.bInts b)[i]? = some n ∧ 0 ≤ n ∧ n < 256 ∧ v = .int n u) (fun i v hP => ?_), hsz, ?_, ?_, ?_, ?_, F.push _, fun p hp => ⟨Heap.get?_push_of_some _ (N p hp).1, (N p hp).2⟩, Nat.ne_of_lt F.ns.lt, next_is_new F, fun p hp => Nat.ne_of_lt (Heap.lt_size (N p hp).1), trivial, R _⟩
  · obtain ⟨n, u, hn, rfl⟩ := hP
    have hn' := KBw.ints_get hn
    have hb := KBw.ints_in (List.mem_of_getElem? hn')
    exact ⟨_, u, hn', hb.1, hb.2, rfl⟩
  · rintro i h ⟨o, e, _⟩; exact ⟨o, e⟩
  · rintro i h h' o nw ⟨o', e, r⟩ e1 e2 _ _ _
    rw [e1] at e; cases e; exact ⟨_, e2, r⟩
  · exact ⟨_, Heap.get?_push_size _ rfl, rfl, rfl⟩
  · intro b' hb
    rw [List.mem_singleton.mp hb]
    show s.heap.objs.size < (s.heap.push _).objs.size
    rw [Heap.size_push]; exact Nat.lt_succ_self _
theorem iter_range {r : Addr} {a b c : Int} {t u v : Tok} {n : Nat} (hh : A.handled = none) (F : Fr h₀ L s.heap m) (N : News h₀ L s.heap news) (hr : IsRange s.heap r a b c t u v) (hsm : Builtin.Range.small a b c = true) (hn : Builtin.Range.rangeSize a b c = ((n : Nat) : Int)) (hsz : n ≤ sizeLine)
    (R : ∀ g, CompRest prog w A h₀ L m env elt x scope cl { s with heap := g } (fun _ => True) (fun i v => ∃ t, v = .int (a + (i : Int) * c) t) (Fin { s with heap := g }) n 0 [] news) :
    wpAny (model prog w) A (pyIter (.ref r)) (CompIt prog w A h₀ L m env elt x scope cl Fin) E s := by
  refine wpAny_pyIter_range hr hsm ?_
  refine ⟨_, _, _, _, _, fun _ => True, news, rfl, Walks.range hh s.heap.objs.size a c n, hsz, fun i h st => ⟨_, st⟩, ?_, (by show IsRangeIter _ _ _ _ _; rw [hn]; simpa using Heap.get?_push_size _ rfl), ?_, F.push _, fun p hp => ⟨Heap.get?_push_of_some _ (N p hp).1, (N p hp).2⟩, Nat.ne_of_lt F.ns.lt, next_is_new F, fun p hp => Nat.ne_of_lt (Heap.lt_size (N p hp).1), trivial, R _⟩
  · intro i h h' o nw st e1 e2 _ _ _
    have st' : h.get? s.heap.objs.size = some _ := st
    rw [e1] at st'; cases st'; exact e2
  · intro b' hb
    rw [List.mem_singleton.mp hb]
    show s.heap.objs.size < (s.heap.push _).objs.size
    rw [Heap.size_push]; exact Nat.lt_succ_self _
end
end
section
variable {prog : Program} {w : World} {A : Around} {E : Value → Shared → Prop} {s : Shared} {h₀ : Heap} {L : Addr} {m : Str → Option Value}
theorem extM {D b : Addr} {vs ws : List Value} {n n2 : Nat} {news news' : List (Addr × Obj)} {Q : Value → Shared → Prop} (F : Fr h₀ L s.heap m) (N : News h₀ L s.heap news) (hb : (b, listOf ws.toArray n2) ∈ news) (hne : ws.length ≠ 0)
    (U : Upd D (listOf vs.toArray n) (listOf (vs ++ ws).toArray (n + 1)) news news') (hz : vs.length + ws.length ≤ 16777216)
    (h : ∀ h', Fr h₀ L h' m → News h₀ L h' news' → Q .none { s with heap := h' }) : wpAny (model prog w) A (call (.builtin "list.extend") [.ref D, .ref b]) Q E s := by
  have hz' : (vs.toArray).size + (ws.toArray).size ≤ sizeLine := by simp only [List.size_toArray, sizeLine_eq]; omega
  refine kl_extend F N hb rfl hne U (PyProof.Rows.extend_door hz') ?_ (by omega) h
  simp only [sizeLine_eq]; omega
end
end
section
/-! loops whose target is a cell -/
section
variable {prog : Program} {w : World} {A : Around} {E : Value → Shared → Prop} {s : Shared} {env : Env} {h₀ : Heap} {body : List Stmt} {Q : Flow → Shared → Prop}
theorem Unr.inv {target : Expr} {P : Nat → Value → Prop} {fp : List Addr} {n : Nat} (Inv : Nat → (Str → Option Value) → List (Addr × Obj) → Prop)
    (turn : ∀ i m nx v h tk own, i < n → Inv i m nx → P i v → (∀ p ∈ own, p.1 ∈ fp) → Fr h₀ env.locals h m → News h₀ env.locals h (own ++ nx) →
      wpAny (model prog w) A (assign target env v) (fun _ s₂ => wpAny (model prog w) A (execs body env)
        (LoopStep3 h₀ env.locals own nx (Inv (i + 1)) { s with heap := h, toks := tk } (fun v s' => Q (.ret v) s') fun s' => Q .next s') E s₂) E { s with heap := h, toks := tk })
    (done : ∀ m nx h tk, Inv n m nx → Fr h₀ env.locals h m → News h₀ env.locals h nx → Q .next { s with heap := h, toks := tk }) :
    ∀ (k i : Nat) (m : Str → Option Value) (nx : List (Addr × Obj)), i + k = n → Inv i m nx → Unr prog w A E h₀ env target body Q P fp s k i m nx
  | 0, i, m, nx, e, hi => Unr.zero fun h tk F N => done m nx h tk (by rw [Nat.add_zero] at e; rw [← e]; exact hi) F N
  | k + 1, i, m, nx, e, hi => Unr.succ fun v h tk own hP hown F N =>
      wpAny_mono (turn i m nx v h tk own (by omega) hi hP hown F N) (fun _ s₂ h₂ => wpAny_mono h₂ (fun f s₃ h₃ => by
        have up : LoopStep2 h₀ env.locals own nx (Inv (i + 1)) { s with heap := h, toks := tk } .next s₃ → LoopStep2 h₀ env.locals own nx (Unr prog w A E h₀ env target body Q P fp s k (i + 1)) { s with heap := h, toks := tk } .next s₃ := by
          rintro ⟨e0, h', tk', m₂, news₂, es, F', N', ha, hJ⟩
          exact ⟨e0, h', tk', m₂, news₂, es, F', N', ha, Unr.inv Inv turn done k (i + 1) m₂ news₂ (by omega) hJ⟩
        cases f with
        | ret v => exact h₃
        | brk => exact h₃
        | cont => exact up h₃
        | next => exact up h₃) fun _ _ e => e) fun _ _ e => e
/-- what a turn leaves: some state of the loop's own, and the target's cell -/
noncomputable def LjC {σ : Type} (St : σ → Str → Option Value) (Led : σ → List (Addr × Obj)) (lc : Addr) (I : σ → Prop) (m : Str → Option Value) (nx : List (Addr × Obj)) : Prop :=
  ∃ c o v, nx = Led c ++ [(lc, o)] ∧ o.data = .cell v ∧ (∀ y, m y = St c y) ∧ I c
theorem loopCH {σ : Type} {x : Str} {px : Pos} {I lc : Addr} {fp wr : List Addr} {n : Nat} {P : Nat → Value → Prop} {Sv : Nat → Heap → Prop} {o₀ : Obj} {ov : Option Value}
    (St : σ → Str → Option Value) (Led : σ → List (Addr × Obj)) (Inv : Nat → σ → Prop) (c₀ : σ) (hk : env.scope.kind = .function) (hl : env.kindOf x = some .cell) (hc : env.cells.lookup x = some lc)
    (W : Walks prog w A I fp wr n P Sv) (hLf : env.locals ∉ fp) (hwr : ∀ b ∈ wr, h₀.get? b = none) (hst : Sv 0 s.heap)
    (F : Fr h₀ env.locals s.heap (St c₀)) (N : News h₀ env.locals s.heap (Led c₀ ++ [(lc, o₀)])) (hwl : ∀ p ∈ Led c₀ ++ [(lc, o₀)], p.1 ∉ wr) (ch : List Addr) (hfp : ∀ b ∈ ch, b ∉ fp) (hch : lc ∈ ch) (hlc : lc ∉ (Led c₀).map (·.1)) (ho : o₀.data = .cell ov) (hi : Inv 0 c₀)
    (turn : ∀ i v c o h tk own, i < n → P i v → Inv i c → o.data = .cell (some v) → OwnOff own ch → Fr h₀ env.locals h (St c) → News h₀ env.locals h (Led c ++ (lc, o) :: own) →
      wpAny (model prog w) A (execs body env) (InvPostN h₀ env.locals (LjC St Led lc (Inv (i + 1))) own ((Led c₀).map (·.1) ++ [lc]) { s with heap := h, toks := tk } Q) E { s with heap := h, toks := tk })
    (done : ∀ c o v h tk, Inv n c → o.data = .cell v → Fr h₀ env.locals h (St c) → News h₀ env.locals h (Led c ++ [(lc, o)]) → Q .next { s with heap := h, toks := tk }) :
    UnrAt prog w A h₀ env (.Name x px) body Q E (.ref I) s := by
  have hwf : ∀ b ∈ wr, b ∈ fp := fun b hb => W.sub b hb
  refine ⟨I, fp, wr, n, P, Sv, St c₀, Led c₀ ++ [(lc, o₀)], rfl, W, hLf, hwr, hwl, hst, F, N, ?_, ?_⟩
  · intro i s' v Q' _ hq
    unfold letOwnedTupleGo
    exact wpAny_pure hq
  refine Unr.inv (n := n) (fun i m nx => nx.map (·.1) = (Led c₀).map (·.1) ++ [lc] ∧ LjC St Led lc (Inv i) m nx) ?_ ?_ n 0 _ _ (Nat.zero_add n) ⟨by rw [List.map_append]; rfl, c₀, o₀, ov, rfl, ho, fun _ => rfl, hi⟩
  · rintro i m nx v h tk own hin ⟨hadr, c, o, v', rfl, hd, hm, hI⟩ hP hown F₁ N₁
    have em : m = St c := funext hm
    subst em
    have hadr' : (Led c).map (·.1) = (Led c₀).map (·.1) := by
      rw [List.map_append] at hadr
      exact (List.append_inj' hadr rfl).1
    have hoff : OwnOff own ch := fun p hp b hb e => hfp b hb (e ▸ hown p hp)
    have hmem := N₁ (lc, o) (List.mem_append_right _ (List.mem_append_right _ (.head _)))
    refine wpAny_assign_Name (wpAny_storeName_cell hk hl hc ⟨o, hmem.1, hd⟩ fun h' hv hs => ?_)
    obtain ⟨o', ho', hd'⟩ := hv
    have F₂ : Fr h₀ env.locals h' (St c) := ⟨F₁.ns.sameBut hs (Ne.symm hmem.2.1), fun b ob e => (hs.2 b (fun q => by rw [q, hmem.2.2] at e; cases e)).trans (F₁.keep b ob e), F₁.above⟩
    have N₂ : News h₀ env.locals h' (Led c ++ (lc, o') :: own) := by
      intro p hp
      have old : p ∈ own ++ (Led c ++ [(lc, o)]) → p.1 ≠ lc → h'.get? p.1 = some p.2 ∧ p.1 ≠ env.locals ∧ h₀.get? p.1 = none := fun hp hne =>
        ⟨(hs.2 _ hne).trans (N₁ p hp).1, (N₁ p hp).2⟩
      rcases List.mem_append.mp hp with hp | hp
      · refine old (List.mem_append_right _ (List.mem_append_left _ hp)) fun e => hlc ?_
        rw [← hadr', ← e]; exact List.mem_map.mpr ⟨p, hp, rfl⟩
      · rcases List.mem_cons.mp hp with rfl | hp
        · exact ⟨ho', hmem.2⟩
        · exact old (List.mem_append_left _ hp) (hoff p hp lc hch)
    refine wpAny_mono (turn i v c o' h' tk own hin hP hI hd' hoff F₂ N₂) (fun f s₂ p => ?_) fun _ _ e => e
    have fin : InvEndN h₀ env.locals (LjC St Led lc (Inv (i + 1))) own ((Led c₀).map (·.1) ++ [lc]) { s with heap := h', toks := tk } s₂ →
        LoopStep2 h₀ env.locals own (Led c ++ [(lc, o)]) (fun m nx => nx.map (·.1) = (Led c₀).map (·.1) ++ [lc] ∧ LjC St Led lc (Inv (i + 1)) m nx) { s with heap := h, toks := tk } .next s₂ := by
      rintro ⟨h₃, tk₃, m₃, news₃, nx, rfl, F₃, N₃, hn, ho, ha, hJ⟩
      refine ⟨rfl, h₃, tk₃, m₃, nx, rfl, F₃, fun p hp => N₃ p ((List.mem_append.mp hp).elim (ho p) (hn p)), ha.trans ?_, ha, hJ⟩
      rw [List.map_append, hadr']; rfl
    cases f with
    | ret v => exact p
    | brk => exact p
    | next => exact fin p
    | cont => exact fin p
  · rintro m nx h tk ⟨_, c, o, v', rfl, hd, hm, hI⟩ F₁ N₁
    have em : m = St c := funext hm
    subst em
    exact done c o v' h tk hI hd F₁ N₁
theorem loopCG {σ : Type} {x : Str} {px : Pos} {I lc : Addr} {fp wr : List Addr} {n : Nat} {P : Nat → Value → Prop} {Sv : Nat → Heap → Prop} {o₀ : Obj} {ov : Option Value}
    (St : σ → Str → Option Value) (Led : σ → List (Addr × Obj)) (Inv : Nat → σ → Prop) (c₀ : σ) (hk : env.scope.kind = .function) (hl : env.kindOf x = some .cell) (hc : env.cells.lookup x = some lc)
    (W : Walks prog w A I fp wr n P Sv) (hLf : env.locals ∉ fp) (hwr : ∀ b ∈ wr, h₀.get? b = none) (hst : Sv 0 s.heap)
    (F : Fr h₀ env.locals s.heap (St c₀)) (N : News h₀ env.locals s.heap (Led c₀ ++ [(lc, o₀)])) (hfp : ∀ b ∈ (Led c₀).map (·.1) ++ [lc], b ∉ fp) (hlc : lc ∉ (Led c₀).map (·.1)) (ho : o₀.data = .cell ov) (hi : Inv 0 c₀)
    (turn : ∀ i v c o h tk own, i < n → P i v → Inv i c → o.data = .cell (some v) → OwnOff own ((Led c₀).map (·.1) ++ [lc]) → Fr h₀ env.locals h (St c) → News h₀ env.locals h (Led c ++ (lc, o) :: own) →
      wpAny (model prog w) A (execs body env) (InvPostN h₀ env.locals (LjC St Led lc (Inv (i + 1))) own ((Led c₀).map (·.1) ++ [lc]) { s with heap := h, toks := tk } Q) E { s with heap := h, toks := tk })
    (done : ∀ c o v h tk, Inv n c → o.data = .cell v → Fr h₀ env.locals h (St c) → News h₀ env.locals h (Led c ++ [(lc, o)]) → Q .next { s with heap := h, toks := tk }) :
    UnrAt prog w A h₀ env (.Name x px) body Q E (.ref I) s :=
  loopCH St Led Inv c₀ hk hl hc W hLf hwr hst F N (fun p hp hw => hfp p.1 (by
    have : p.1 ∈ (Led c₀ ++ [(lc, o₀)]).map (·.1) := List.mem_map.mpr ⟨p, hp, rfl⟩
    rwa [List.map_append] at this) (W.sub _ hw)) ((Led c₀).map (·.1) ++ [lc]) hfp (List.mem_append_right _ (.head _)) hlc ho hi turn done
theorem turnC_end {σ : Type} {St : σ → Str → Option Value} {Led : σ → List (Addr × Obj)} {lc : Addr} {I : σ → Prop} (c : σ) {o : Obj} {v : Option Value} {L : Addr} {h' : Heap} {tk : Nat} {m' : Str → Option Value} {own news' : List (Addr × Obj)} {adr : List Addr} {s₁ : Shared}
    (F : Fr h₀ L h' m') (N : News h₀ L h' news') (hd : o.data = .cell v) (hm : ∀ y, m' y = St c y) (hn : ∀ p ∈ Led c ++ [(lc, o)], p ∈ news') (ho : ∀ p ∈ own, p ∈ news') (ha : (Led c ++ [(lc, o)]).map (·.1) = adr) (hi : I c) :
    InvEndN h₀ L (LjC St Led lc I) own adr s₁ { s₁ with heap := h', toks := tk } := InvEndN.intro F N ⟨c, o, v, rfl, hd, hm, hi⟩ ha hn ho
/-- a loop over a range, its target a cell -/
theorem loopCR {σ : Type} {x : Str} {px : Pos} {r lc : Addr} {a₀ b₀ c₁ : Int} {t₀ u₀ v₀ : Tok} {n : Nat} {o₀ : Obj} {ov : Option Value} (St : σ → Str → Option Value) (Led : σ → List (Addr × Obj)) (Inv : Nat → σ → Prop) (c₀ : σ)
    (hk : env.scope.kind = .function) (hl : env.kindOf x = some .cell) (hc : env.cells.lookup x = some lc)
    (hh : A.handled = none) (hr : IsRange s.heap r a₀ b₀ c₁ t₀ u₀ v₀) (hsmall : Builtin.Range.small a₀ b₀ c₁ = true) (hn : Builtin.Range.rangeSize a₀ b₀ c₁ = (n : Int))
    (F : Fr h₀ env.locals s.heap (St c₀)) (N : News h₀ env.locals s.heap (Led c₀ ++ [(lc, o₀)])) (hlc : lc ∉ (Led c₀).map (·.1)) (ho : o₀.data = .cell ov) (hi : Inv 0 c₀)
    (turn : ∀ i t c o h tk own, i < n → Inv i c → o.data = .cell (some (.int (a₀ + (i : Int) * c₁) t)) → OwnOff own ((Led c₀).map (·.1) ++ [lc]) → Fr h₀ env.locals h (St c) → News h₀ env.locals h (Led c ++ (lc, o) :: own) →
      wpAny (model prog w) A (execs body env) (InvPostN h₀ env.locals (LjC St Led lc (Inv (i + 1))) own ((Led c₀).map (·.1) ++ [lc]) { s with heap := h, toks := tk } Q) E { s with heap := h, toks := tk })
    (done : ∀ c o v h tk, Inv n c → o.data = .cell v → Fr h₀ env.locals h (St c) → News h₀ env.locals h (Led c ++ [(lc, o)]) → Q .next { s with heap := h, toks := tk }) :
    wpAny (model prog w) A (pyIter (.ref r)) (fun it s₂ => UnrAt prog w A h₀ env (.Name x px) body Q E it s₂) E s := by
  refine wpAny_pyIter_range hr hsmall ?_
  have W := Walks.range (prog := prog) (w := w) hh s.heap.objs.size a₀ c₁ n
  refine loopCG St Led Inv c₀ hk hl hc W ?_ ?_ (by show IsRangeIter _ _ _ _ _; rw [hn]; simpa using Heap.get?_push_size _ rfl) (F.push _) (fun p hp => ⟨Heap.get?_push_of_some _ (N p hp).1, (N p hp).2⟩) ?_ hlc ho hi ?_ ?_
  · intro hm
    exact absurd F.ns.lt ((List.mem_singleton.mp hm) ▸ Nat.lt_irrefl _)
  · intro b' hb
    rw [List.mem_singleton.mp hb]
    exact next_is_new F
  · intro b hb hI
    have hb' : b ∈ (Led c₀ ++ [(lc, o₀)]).map (·.1) := by rw [List.map_append]; exact hb
    obtain ⟨p, hp, rfl⟩ := List.mem_map.mp hb'
    exact absurd (Heap.lt_size (N p hp).1) ((List.mem_singleton.mp hI) ▸ Nat.lt_irrefl _)
  · rintro i v c o h tk own hlt ⟨t, rfl⟩ hI hd hoff F₁ N₁
    exact turn i t c o h tk own hlt hI hd hoff F₁ N₁
  · exact done
/-- a loop over a list of ints that the call has made, its target a cell: the list lies on -/
theorem loopCL {σ : Type} {x : Str} {px : Pos} {ax lc : Addr} {vs : List Value} {ns : List Int} {o₀ : Obj} {ov : Option Value} (St : σ → Str → Option Value) (Led : σ → List (Addr × Obj)) (Inv : Nat → σ → Prop) (c₀ : σ) (ch : List Addr)
    (hk : env.scope.kind = .function) (hl : env.kindOf x = some .cell) (hc : env.cells.lookup x = some lc)
    (hh : A.handled = none) (hlist : s.heap.IsList ax vs.toArray) (hints : IntsAre vs ns)
    (F : Fr h₀ env.locals s.heap (St c₀)) (N : News h₀ env.locals s.heap (Led c₀ ++ [(lc, o₀)])) (hL : ax ≠ env.locals) (hax : ax ∉ ch) (hch : lc ∈ ch) (hsub : ∀ b ∈ ch, ∃ p ∈ Led c₀ ++ [(lc, o₀)], p.1 = b) (hlc : lc ∉ (Led c₀).map (·.1)) (ho : o₀.data = .cell ov) (hi : Inv 0 c₀)
    (turn : ∀ i n t c o h tk own, ns[i]? = some n → Inv i c → o.data = .cell (some (.int n t)) → OwnOff own ch → Fr h₀ env.locals h (St c) → News h₀ env.locals h (Led c ++ (lc, o) :: own) →
      wpAny (model prog w) A (execs body env) (InvPostN h₀ env.locals (LjC St Led lc (Inv (i + 1))) own ((Led c₀).map (·.1) ++ [lc]) { s with heap := h, toks := tk } Q) E { s with heap := h, toks := tk })
    (done : ∀ c o v h tk, Inv ns.length c → o.data = .cell v → Fr h₀ env.locals h (St c) → News h₀ env.locals h (Led c ++ [(lc, o)]) → Q .next { s with heap := h, toks := tk }) :
    wpAny (model prog w) A (pyIter (.ref ax)) (fun it s₂ => UnrAt prog w A h₀ env (.Name x px) body Q E it s₂) E s := by
  have hlt : ax < s.heap.objs.size := by obtain ⟨_, e, _⟩ := hlist; exact Heap.lt_size e
  refine wpAny_pyIter_list hlist ?_
  have W := Walks.list (prog := prog) (w := w) hh s.heap.objs.size ax (Nat.ne_of_lt hlt) vs.toArray
  have hlen : vs.toArray.size = ns.length := by rw [List.size_toArray, hints.length]
  rw [hlen] at W
  refine loopCH St Led Inv c₀ hk hl hc W ?_ ?_ ⟨⟨_, Heap.get?_push_size _ rfl, rfl, rfl⟩, hlist.push _⟩ (F.push _) (fun p hp => ⟨Heap.get?_push_of_some _ (N p hp).1, (N p hp).2⟩) ?_ ch ?_ hch hlc ho hi ?_ ?_
  · intro hm
    rcases List.mem_cons.mp hm with e | hm
    · exact absurd F.ns.lt (e ▸ Nat.lt_irrefl _)
    · exact hL (List.mem_singleton.mp hm).symm
  · intro b' hb
    rw [List.mem_singleton.mp hb]
    exact next_is_new F
  · intro p hp hI
    exact absurd (Heap.lt_size (N p hp).1) ((List.mem_singleton.mp hI) ▸ Nat.lt_irrefl _)
  · intro b hb hI
    rcases List.mem_cons.mp hI with e | hI
    · obtain ⟨p, hp, e'⟩ := hsub b hb
      exact absurd (Heap.lt_size (N p hp).1) (by rw [e', e]; exact Nat.lt_irrefl _)
    · exact hax (List.mem_singleton.mp hI ▸ hb)
  · rintro i v c o h tk own hlt hv hI hd hoff F₁ N₁
    have hn : ns[i]? = some ns[i] := List.getElem?_eq_getElem hlt
    obtain ⟨t, ht⟩ := hints.get _ _ hn
    have e : v = .int ns[i] t := by
      rw [List.getElem?_toArray] at hv
      rw [ht] at hv
      exact (Option.some.inj hv).symm
    subst e
    exact turn i _ t c o h tk own hn hI hd hoff F₁ N₁
  · exact done
end
end
local macro_rules | `(tactic| walk_at $s:str) => `(tactic| k_extra $s)
local macro_rules | `(tactic| k_lt $h:ident) => `(tactic| (replace $h := allLt_of $h; simp only [AllLt, and_true] at $h:ident; (repeat (have hlt9 := And.left $h; replace $h:ident := And.right $h))))
local macro_rules | `(tactic| k_ne) => `(tactic| (refine neN ?_; (try dsimp only); first | exact Nat.ne_of_lt (by with_reducible assumption) | exact Nat.ne_of_gt (by with_reducible assumption) | with_reducible assumption | omega))
section
theorem fill_C1_14 : True := by
  w_top off
  k_with_none
  k_with "M enter" => (refine' code_defM (by (k_asm)) (by (k_asm)) (by (k_asm)) (by (k_asm)) (by (exact rfl)) (by (exact rfl)) (by (assumption)) (by (k_is)) (by (k_is)) (by (ktr_room)) (by (first | exact BindsTo.of_eq rfl | exact binds_K (by k_in) rfl (by k_is) rfl rfl rfl)) (by (exact locs rfl)) ?_ (by (exact rfl)) (by (exact rfl)) (by (exact rfl)) (by (decide)); k_whole; intro L' h' F' N' B' X' T'; (try dsimp only); (try k_fold))
  k_with "M enter2" => ((case kA => exact rfl); (case kF => exact rfl); (case kK => assumption); (case k1 => k_asm); (case k2 => k_asm); (case k3 => k_asm); (case k5 => k_asm); (case k6 => k_is); (case k7 => k_is); (case k8 => ktr_room); (case k9 => first | exact BindsTo.of_eq rfl | exact binds_K (by k_in) rfl (by k_is) rfl rfl rfl); (case c5 => decide); (case kB => exact locs rfl); (case c2 => exact rfl); (case c3 => exact rfl); (case c4 => exact rfl); k_whole; intro L' h' F' N' B' X' T'; (try dsimp only); (try k_fold))
  k_with "call type:type" => (k_here; (with_reducible show wpAny _ _ (call (Value.type "type") [Value.bytes _ _]) _ _ _); refine call_type_of (PySem.W.typeIs_bytes _ _ _) (by decide +kernel) ?_)
  k_with "M ba" => (first | exact Fr.keep (by assumption) _ _ (by assumption) | assumption)
  k_with "call type:type" => (k_here; (with_reducible show wpAny _ _ (call (Value.type "type") [Value.ref _]) _ _ _); k_dflt (refine' kto_cont (T := "bytearray") (by ((refine' kitAt_ba (by (walk_at "M ba"))))) (by (decide +kernel)) ?_; k_whole))
  k_with "call builtin:isinstance" => (k_here; (with_reducible show wpAny _ _ (call _ [Value.ref _, Value.ref _]) _ _ _); kit_ncls; k_dflt (refine' kia_tup kitx_ba (by (k_in)) (by ((refine' kitAt_ba (by (walk_at "M ba"))))) (by (kit_tp)) (by (kit_is)) (by (kit_nb)) ?_; k_whole; intro _))
  k_with "call builtin:isinstance" => (k_here; (with_reducible show wpAny _ _ (call _ [Value.ref _, Value.type _]) _ _ _); k_dflt (refine' kia_one kitx_ba (by (k_in)) (by ((refine' kitAt_ba (by (walk_at "M ba"))))) (by (kit_is)) (by (kit_nb)) ?_; k_whole; intro _))
  k_with "call type:bytes" => (k_here; (with_reducible show wpAny _ _ (call (Value.type "bytes") [Value.ref _]) _ _ _); k_dflt (refine' ba_bytes (k := 0) (by (walk_at "M ba")) (by (assumption)) ?_; k_whole; intro _ _))
  k_with "getMethod str" => (k_here; with_reducible refine en_method ?_)
  k_with "call builtin:str.encode" => (k_here; (with_reducible show wpAny _ _ (call (Value.builtin "str.encode") [Value.str _ _, Value.str _ _]) _ _ _); refine' en_call (by (assumption)) (by (assumption)) ?_; intro _ _)
  k_with "getMethod bytes" => (k_here; with_reducible refine tr_method ?_)
  k_with "call builtin:bytes.translate" => (k_here; (with_reducible show wpAny _ _ (call (Value.builtin "bytes.translate") [Value.bytes _ _, Value.bytes _ _]) _ _ _); refine' trM (by (first | rfl | decide +kernel)) (by (decide +kernel)) (by (assumption)) ?_; intro _ _)
  k_with "binaryOp LShift int int" => (k_here; (with_reducible refine shlM (by (decide)) (by (decide)) (by (omega)) ?_))
  k_with "binaryOp RShift int int" => (k_here; (with_reducible refine shrM (by (first | decide | omega)) ?_))
  k_with "call builtin:list.append" => (k_here; (with_reducible show wpAny _ _ (call (Value.builtin _) [Value.ref _, Value.int _ _]) _ _ _); k_dflt (refine' append_K (by (k_asm)) (by (k_asm)) (by (k_upd)) ?_ (by ((simp only [List.size_toArray, List.length_append, List.length_cons, List.length_nil, sizeLine_eq]; omega))); k_whole); intro h' F' N'; (try simp only [List.push_toArray] at N'); (try k_sweep))
  k_with "call builtin:len" => (k_here; (with_reducible show wpAny _ _ (call (Value.builtin "len") [Value.ref _]) _ _ _); k_dflt (refine' lenM (News.isList (by (k_asm)) (by (k_mem))) (by (with_reducible assumption)) (by (omega)) ?_; k_whole))
  k_with "call type:bytes" => (k_here; (with_reducible show wpAny _ _ (call (Value.type "bytes") [Value.ref _]) _ _ _); k_dflt (refine' bytesM (by (k_asm)) (by (k_asm)) (News.isList (by (k_asm)) (by (k_mem))) (by (with_reducible assumption)) (by (with_reducible assumption)) (by (omega)) rfl ?_; k_whole); intro h' t' k' F' N'; (try k_sweep))
  k_with "binaryOp BitAnd int int" => (k_here; (with_reducible refine andM ?_))
  k_with "binaryOp BitOr int int" => (k_here; (with_reducible refine orM' ?_))
  k_with "M enterC" => ((case kA => exact rfl); (case kF => exact rfl); (case kK => assumption); (case k1 => k_asm); (case k2 => k_asm); (case k3 => k_asm); (case k5 => k_asm); (case k6 => k_is); (case k7 => k_is); (case k8 => ktr_room); (case k9 => first | exact BindsTo.of_eq rfl | exact binds_K (by k_in) rfl (by k_is) rfl rfl rfl); (case kB => exact rfl); (case kD => decide +kernel); (case c2 => exact rfl); (case c3 => exact rfl); (case c4 => exact rfl); k_whole; intro L' h' tk' cells' F' N' Y' B' X' T'; k_cells Y'; (try simp only [List.cons_append, List.nil_append] at N'); (try dsimp only); (try k_fold))
  k_with "call builtin:len" => (k_here; (with_reducible show wpAny _ _ (call (Value.builtin "len") [Value.ref _]) _ _ _); k_dflt (refine' lenM (stays_list (stays_of (by (k_asm))) (by (with_reducible assumption))) (by (with_reducible assumption)) (by (omega)) ?_; k_whole))
  k_with "eval Name" => (k_here; k_dflt (refine' nameX_L (by (k_asm)) (@rfl _ (some _)) ?_ (by (rfl)) (by (rfl)); k_whole))
  trivial
noncomputable def b64v (c : Int) : Int :=
  if 65 ≤ c ∧ c ≤ 90 then c - 65 else if 97 ≤ c ∧ c ≤ 122 then c - 71 else if 48 ≤ c ∧ c ≤ 57 then c + 4 else if c = 43 then 62 else if c = 47 then 63 else 64

theorem b64v_a {c : Int} (h1 : 65 ≤ c) (h2 : c ≤ 90) : c - 65 = b64v c := by unfold b64v; rw [if_pos ⟨h1, h2⟩]
theorem b64v_b {c : Int} (h1 : 97 ≤ c) (h2 : c ≤ 122) : c - 71 = b64v c := by unfold b64v; rw [if_neg (by omega), if_pos ⟨h1, h2⟩]
theorem b64v_c {c : Int} (h1 : 48 ≤ c) (h2 : c ≤ 57) : c + 4 = b64v c := by unfold b64v; rw [if_neg (by omega), if_neg (by omega), if_pos ⟨h1, h2⟩]
theorem b64v_d {c : Int} (h : c = 43) : 62 = b64v c := by subst h; rfl
theorem b64v_e {c : Int} (h : c = 47) : 63 = b64v c := by subst h; rfl
theorem b64v_f {c : Int} (h1 : ¬ (65 ≤ c ∧ c ≤ 90)) (h2 : ¬ (97 ≤ c ∧ c ≤ 122)) (h3 : ¬ (48 ≤ c ∧ c ≤ 57)) (h4 : ¬ c = 43) (h5 : ¬ c = 47) : 64 = b64v c := by
  unfold b64v; rw [if_neg h1, if_neg h2, if_neg h3, if_neg h4, if_neg h5]
theorem na1 {p q : Prop} (h : ¬ p) : ¬ (p ∧ q) := fun x => h x.1
theorem na2 {p q : Prop} (h : ¬ q) : ¬ (p ∧ q) := fun x => h x.2
theorem b64_value_ok (w : World) (mean : ExcName → Option Value) (mg mb : Str → Option Value) (c : Int) (t : Tok) :
    Ct w mean mg mb 70 [.int c t] [] 4 40 (fun _ => True) (fun _ _ r => ∃ t', r = .int (b64v c) t') := by
  unfold Ct
  intro dp un gd cn cs a ccd cl outer A₀ base h₀ L m s Q E B F X T hk hdp hun _ hret
  refine wpAny_call ?_
  dsimp only [TopM] at T
  k_dflt (walk_at "M enter")
  k_steps
  all_goals (refine' retI (Q := Q) hret (by assumption) ?_)
  all_goals first
    | exact b64v_a (by with_reducible assumption) (by with_reducible assumption)
    | exact b64v_b (by with_reducible assumption) (by with_reducible assumption)
    | exact b64v_c (by with_reducible assumption) (by with_reducible assumption)
    | exact b64v_d (by with_reducible assumption)
    | exact b64v_e (by with_reducible assumption)
    | exact b64v_f (by first | exact na1 (by with_reducible assumption) | exact na2 (by with_reducible assumption) | omega) (by first | exact na1 (by with_reducible assumption) | exact na2 (by with_reducible assumption) | omega) (by first | exact na1 (by with_reducible assumption) | exact na2 (by with_reducible assumption) | omega) (by with_reducible assumption) (by with_reducible assumption)
end
section
theorem fill_C2_18 : True := by
  w_top off
  k_with_none
  k_with "M enter" => (refine' code_defM (by (k_asm)) (by (k_asm)) (by (k_asm)) (by (k_asm)) (by (exact rfl)) (by (exact rfl)) (by (assumption)) (by (k_is)) (by (k_is)) (by (ktr_room)) (by (first | exact BindsTo.of_eq rfl | exact binds_K (by k_in) rfl (by k_is) rfl rfl rfl)) (by (exact locs rfl)) ?_ (by (exact rfl)) (by (exact rfl)) (by (exact rfl)) (by (decide)); k_whole; intro L' h' F' N' B' X' T'; (try dsimp only); (try k_fold))
  k_with "M enter2" => ((case kA => exact rfl); (case kF => exact rfl); (case kK => assumption); (case k1 => k_asm); (case k2 => k_asm); (case k3 => k_asm); (case k5 => k_asm); (case k6 => k_is); (case k7 => k_is); (case k8 => ktr_room); (case k9 => first | exact BindsTo.of_eq rfl | exact binds_K (by k_in) rfl (by k_is) rfl rfl rfl); (case c5 => decide); (case kB => exact locs rfl); (case c2 => exact rfl); (case c3 => exact rfl); (case c4 => exact rfl); k_whole; intro L' h' F' N' B' X' T'; (try dsimp only); (try k_fold))
  k_with "call type:type" => (k_here; (with_reducible show wpAny _ _ (call (Value.type "type") [Value.bytes _ _]) _ _ _); refine call_type_of (PySem.W.typeIs_bytes _ _ _) (by decide +kernel) ?_)
  k_with "M ba" => (first | exact Fr.keep (by assumption) _ _ (by assumption) | assumption)
  k_with "call type:type" => (k_here; (with_reducible show wpAny _ _ (call (Value.type "type") [Value.ref _]) _ _ _); k_dflt (refine' kto_cont (T := "bytearray") (by ((refine' kitAt_ba (by (walk_at "M ba"))))) (by (decide +kernel)) ?_; k_whole))
  k_with "call builtin:isinstance" => (k_here; (with_reducible show wpAny _ _ (call _ [Value.ref _, Value.ref _]) _ _ _); kit_ncls; k_dflt (refine' kia_tup kitx_ba (by (k_in)) (by ((refine' kitAt_ba (by (walk_at "M ba"))))) (by (kit_tp)) (by (kit_is)) (by (kit_nb)) ?_; k_whole; intro _))
  k_with "call builtin:isinstance" => (k_here; (with_reducible show wpAny _ _ (call _ [Value.ref _, Value.type _]) _ _ _); k_dflt (refine' kia_one kitx_ba (by (k_in)) (by ((refine' kitAt_ba (by (walk_at "M ba"))))) (by (kit_is)) (by (kit_nb)) ?_; k_whole; intro _))
  k_with "call type:bytes" => (k_here; (with_reducible show wpAny _ _ (call (Value.type "bytes") [Value.ref _]) _ _ _); k_dflt (refine' ba_bytes (k := 0) (by (walk_at "M ba")) (by (assumption)) ?_; k_whole; intro _ _))
  k_with "getMethod str" => (k_here; with_reducible refine en_method ?_)
  k_with "call builtin:str.encode" => (k_here; (with_reducible show wpAny _ _ (call (Value.builtin "str.encode") [Value.str _ _, Value.str _ _]) _ _ _); refine' en_call (by (assumption)) (by (assumption)) ?_; intro _ _)
  k_with "getMethod bytes" => (k_here; with_reducible refine tr_method ?_)
  k_with "call builtin:bytes.translate" => (k_here; (with_reducible show wpAny _ _ (call (Value.builtin "bytes.translate") [Value.bytes _ _, Value.bytes _ _]) _ _ _); refine' trM (by (first | rfl | decide +kernel)) (by (decide +kernel)) (by (assumption)) ?_; intro _ _)
  k_with "binaryOp LShift int int" => (k_here; (with_reducible refine shlM (by (decide)) (by (decide)) (by (omega)) ?_))
  k_with "binaryOp RShift int int" => (k_here; (with_reducible refine shrM (by (first | decide | omega)) ?_))
  k_with "call builtin:list.append" => (k_here; (with_reducible show wpAny _ _ (call (Value.builtin _) [Value.ref _, Value.int _ _]) _ _ _); k_dflt (refine' append_K (by (k_asm)) (by (k_asm)) (by (k_upd)) ?_ (by ((simp only [List.size_toArray, List.length_append, List.length_cons, List.length_nil, sizeLine_eq]; omega))); k_whole); intro h' F' N'; (try simp only [List.push_toArray] at N'); (try k_sweep))
  k_with "call builtin:len" => (k_here; (with_reducible show wpAny _ _ (call (Value.builtin "len") [Value.ref _]) _ _ _); k_dflt (refine' lenM (News.isList (by (k_asm)) (by (k_mem))) (by (with_reducible assumption)) (by (omega)) ?_; k_whole))
  k_with "call type:bytes" => (k_here; (with_reducible show wpAny _ _ (call (Value.type "bytes") [Value.ref _]) _ _ _); k_dflt (refine' bytesM (by (k_asm)) (by (k_asm)) (News.isList (by (k_asm)) (by (k_mem))) (by (with_reducible assumption)) (by (with_reducible assumption)) (by (omega)) rfl ?_; k_whole); intro h' t' k' F' N'; (try k_sweep))
  k_with "binaryOp BitAnd int int" => (k_here; (with_reducible refine andM ?_))
  k_with "binaryOp BitOr int int" => (k_here; (with_reducible refine orM' ?_))
  k_with "M enterC" => ((case kA => exact rfl); (case kF => exact rfl); (case kK => assumption); (case k1 => k_asm); (case k2 => k_asm); (case k3 => k_asm); (case k5 => k_asm); (case k6 => k_is); (case k7 => k_is); (case k8 => ktr_room); (case k9 => first | exact BindsTo.of_eq rfl | exact binds_K (by k_in) rfl (by k_is) rfl rfl rfl); (case kB => exact rfl); (case kD => decide +kernel); (case c2 => exact rfl); (case c3 => exact rfl); (case c4 => exact rfl); k_whole; intro L' h' tk' cells' F' N' Y' B' X' T'; k_cells Y'; (try simp only [List.cons_append, List.nil_append] at N'); (try dsimp only); (try k_fold))
  k_with "call builtin:len" => (k_here; (with_reducible show wpAny _ _ (call (Value.builtin "len") [Value.ref _]) _ _ _); k_dflt (refine' lenM (stays_list (stays_of (by (k_asm))) (by (with_reducible assumption))) (by (with_reducible assumption)) (by (omega)) ?_; k_whole))
  k_with "eval Name" => (k_here; k_dflt (refine' nameX_L (by (k_asm)) (@rfl _ (some _)) ?_ (by (rfl)) (by (rfl)); k_whole))
  trivial
theorem truth_ok (w : World) (mean : ExcName → Option Value) (mg mb : Str → Option Value) :
    Ct w mean mg mb 63 [.bool false] [] 4 40 (fun _ => True) (fun _ _ r => r = .bool false) := by
  unfold Ct
  intro dp un gd cn cs a ccd cl outer A₀ base h₀ L m s Q E B F X T hk hdp hun _ hret
  refine wpAny_call ?_
  dsimp only [TopM] at T
  dsimp only at hret
  k_dflt (walk_at "M enter")
  k_steps
  all_goals (first | (refine' hret _ _ _ (stays_of (by assumption)) ?_; rfl) | w_report)

theorem buffer_ok (w : World) (mean : ExcName → Option Value) (mg mb : Str → Option Value) (b : Array UInt8) (t : Tok) :
    Ct w mean mg mb 56 [.bytes b t] [] 4 40 (fun _ => True) (fun _ _ r => r = .bytes b t) := by
  unfold Ct
  intro dp un gd cn cs a ccd cl outer A₀ base h₀ L m s Q E B F X T hk hdp hun _ hret
  refine wpAny_call ?_
  dsimp only [TopM] at T
  dsimp only at hret
  k_dflt (walk_at "M enter")
  k_steps
  all_goals (first | (refine' hret _ _ _ (stays_of (by assumption)) ?_; rfl) | w_report)
theorem ascii_buffer_ok (w : World) (mean : ExcName → Option Value) (mg mb : Str → Option Value) (b : Array UInt8) (t : Tok) :
    Ct w mean mg mb 49 [.bytes b t] [] 4 40 (fun _ => True) (fun _ _ r => r = .bytes b t) := by
  unfold Ct
  intro dp un gd cn cs a ccd cl outer A₀ base h₀ L m s Q E B F X T hk hdp hun _ hret
  refine wpAny_call ?_
  dsimp only [TopM] at T
  dsimp only at hret
  k_dflt (walk_at "M enter")
  k_steps
  all_goals (first | (refine' hret _ _ _ (stays_of (by assumption)) ?_; rfl) | w_report)
theorem from_bytes_ok (w : World) (mean : ExcName → Option Value) (mg mb : Str → Option Value) (b : Array UInt8) (t : Tok) :
    Ct w mean mg mb 29 [.bytes b t] [] 4 40 (fun _ => True) (fun _ _ r => r = .bytes b t) := by
  unfold Ct
  intro dp un gd cn cs a ccd cl outer A₀ base h₀ L m s Q E B F X T hk hdp hun _ hret
  refine wpAny_call ?_
  dsimp only [TopM] at T
  dsimp only at hret
  k_dflt (walk_at "M enter")
  k_steps
  all_goals (first | (refine' hret _ _ _ (stays_of (by assumption)) ?_; rfl) | w_report)
end
section
theorem fill_C3_22 : True := by
  w_top off
  k_with_none
  k_with "M enter" => (refine' code_defM (by (k_asm)) (by (k_asm)) (by (k_asm)) (by (k_asm)) (by (exact rfl)) (by (exact rfl)) (by (assumption)) (by (k_is)) (by (k_is)) (by (ktr_room)) (by (first | exact BindsTo.of_eq rfl | exact binds_K (by k_in) rfl (by k_is) rfl rfl rfl)) (by (exact locs rfl)) ?_ (by (exact rfl)) (by (exact rfl)) (by (exact rfl)) (by (decide)); k_whole; intro L' h' F' N' B' X' T'; (try dsimp only); (try k_fold))
  k_with "M enter2" => ((case kA => exact rfl); (case kF => exact rfl); (case kK => assumption); (case k1 => k_asm); (case k2 => k_asm); (case k3 => k_asm); (case k5 => k_asm); (case k6 => k_is); (case k7 => k_is); (case k8 => ktr_room); (case k9 => first | exact BindsTo.of_eq rfl | exact binds_K (by k_in) rfl (by k_is) rfl rfl rfl); (case c5 => decide); (case kB => exact locs rfl); (case c2 => exact rfl); (case c3 => exact rfl); (case c4 => exact rfl); k_whole; intro L' h' F' N' B' X' T'; (try dsimp only); (try k_fold))
  k_with "call type:type" => (k_here; (with_reducible show wpAny _ _ (call (Value.type "type") [Value.bytes _ _]) _ _ _); refine call_type_of (PySem.W.typeIs_bytes _ _ _) (by decide +kernel) ?_)
  k_with "M ba" => (first | exact Fr.keep (by assumption) _ _ (by assumption) | assumption)
  k_with "call type:type" => (k_here; (with_reducible show wpAny _ _ (call (Value.type "type") [Value.ref _]) _ _ _); k_dflt (refine' kto_cont (T := "bytearray") (by ((refine' kitAt_ba (by (walk_at "M ba"))))) (by (decide +kernel)) ?_; k_whole))
  k_with "call builtin:isinstance" => (k_here; (with_reducible show wpAny _ _ (call _ [Value.ref _, Value.ref _]) _ _ _); kit_ncls; k_dflt (refine' kia_tup kitx_ba (by (k_in)) (by ((refine' kitAt_ba (by (walk_at "M ba"))))) (by (kit_tp)) (by (kit_is)) (by (kit_nb)) ?_; k_whole; intro _))
  k_with "call builtin:isinstance" => (k_here; (with_reducible show wpAny _ _ (call _ [Value.ref _, Value.type _]) _ _ _); k_dflt (refine' kia_one kitx_ba (by (k_in)) (by ((refine' kitAt_ba (by (walk_at "M ba"))))) (by (kit_is)) (by (kit_nb)) ?_; k_whole; intro _))
  k_with "call type:bytes" => (k_here; (with_reducible show wpAny _ _ (call (Value.type "bytes") [Value.ref _]) _ _ _); k_dflt (refine' ba_bytes (k := 0) (by (walk_at "M ba")) (by (assumption)) ?_; k_whole; intro _ _))
  k_with "getMethod str" => (k_here; with_reducible refine en_method ?_)
  k_with "call builtin:str.encode" => (k_here; (with_reducible show wpAny _ _ (call (Value.builtin "str.encode") [Value.str _ _, Value.str _ _]) _ _ _); refine' en_call (by (assumption)) (by (assumption)) ?_; intro _ _)
  k_with "getMethod bytes" => (k_here; with_reducible refine tr_method ?_)
  k_with "call builtin:bytes.translate" => (k_here; (with_reducible show wpAny _ _ (call (Value.builtin "bytes.translate") [Value.bytes _ _, Value.bytes _ _]) _ _ _); refine' trM (by (first | rfl | decide +kernel)) (by (decide +kernel)) (by (assumption)) ?_; intro _ _)
  k_with "binaryOp LShift int int" => (k_here; (with_reducible refine shlM (by (decide)) (by (decide)) (by (omega)) ?_))
  k_with "binaryOp RShift int int" => (k_here; (with_reducible refine shrM (by (first | decide | omega)) ?_))
  k_with "call builtin:list.append" => (k_here; (with_reducible show wpAny _ _ (call (Value.builtin _) [Value.ref _, Value.int _ _]) _ _ _); k_dflt (refine' append_K (by (k_asm)) (by (k_asm)) (by (k_upd)) ?_ (by ((simp only [List.size_toArray, List.length_append, List.length_cons, List.length_nil, sizeLine_eq]; omega))); k_whole); intro h' F' N'; (try simp only [List.push_toArray] at N'); (try k_sweep))
  k_with "call builtin:len" => (k_here; (with_reducible show wpAny _ _ (call (Value.builtin "len") [Value.ref _]) _ _ _); k_dflt (refine' lenM (News.isList (by (k_asm)) (by (k_mem))) (by (with_reducible assumption)) (by (omega)) ?_; k_whole))
  k_with "call type:bytes" => (k_here; (with_reducible show wpAny _ _ (call (Value.type "bytes") [Value.ref _]) _ _ _); k_dflt (refine' bytesM (by (k_asm)) (by (k_asm)) (News.isList (by (k_asm)) (by (k_mem))) (by (with_reducible assumption)) (by (with_reducible assumption)) (by (omega)) rfl ?_; k_whole); intro h' t' k' F' N'; (try k_sweep))
  k_with "binaryOp BitAnd int int" => (k_here; (with_reducible refine andM ?_))
  k_with "binaryOp BitOr int int" => (k_here; (with_reducible refine orM' ?_))
  k_with "M enterC" => ((case kA => exact rfl); (case kF => exact rfl); (case kK => assumption); (case k1 => k_asm); (case k2 => k_asm); (case k3 => k_asm); (case k5 => k_asm); (case k6 => k_is); (case k7 => k_is); (case k8 => ktr_room); (case k9 => first | exact BindsTo.of_eq rfl | exact binds_K (by k_in) rfl (by k_is) rfl rfl rfl); (case kB => exact rfl); (case kD => decide +kernel); (case c2 => exact rfl); (case c3 => exact rfl); (case c4 => exact rfl); k_whole; intro L' h' tk' cells' F' N' Y' B' X' T'; k_cells Y'; (try simp only [List.cons_append, List.nil_append] at N'); (try dsimp only); (try k_fold))
  k_with "call builtin:len" => (k_here; (with_reducible show wpAny _ _ (call (Value.builtin "len") [Value.ref _]) _ _ _); k_dflt (refine' lenM (stays_list (stays_of (by (k_asm))) (by (with_reducible assumption))) (by (with_reducible assumption)) (by (omega)) ?_; k_whole))
  k_with "eval Name" => (k_here; k_dflt (refine' nameX_L (by (k_asm)) (@rfl _ (some _)) ?_ (by (rfl)) (by (rfl)); k_whole))
  trivial
theorem ascii_buffer_ba (w : World) (mean : ExcName → Option Value) (mg mb : Str → Option Value) (b : Array UInt8) (x : Addr) (hz : b.size ≤ sizeLine) :
    Ct w mean mg mb 49 [.ref x] [] 4 40 (fun h => h.get? x = some (baObj b)) (fun _ _ r => ∃ t, r = .bytes b t) := by
  unfold Ct
  intro dp un gd cn cs a ccd cl outer A₀ base h₀ L m s Q E B F X T hk hdp hun hpre hret
  refine wpAny_call ?_
  dsimp only [TopM] at T
  dsimp only at hret hpre
  k_dflt (walk_at "M enter")
  k_steps
  all_goals (first | (refine' hret _ _ _ (stays_of (by assumption)) ?_; exact ⟨_, rfl⟩) | w_report)
theorem from_ba (w : World) (mean : ExcName → Option Value) (mg mb : Str → Option Value) (b : Array UInt8) (x : Addr) :
    Ct w mean mg mb 29 [.ref x] [] 4 40 (fun h => h.get? x = some (baObj b)) (fun _ _ r => r = .ref x) := by
  unfold Ct
  intro dp un gd cn cs a ccd cl outer A₀ base h₀ L m s Q E B F X T hk hdp hun hpre hret
  refine wpAny_call ?_
  dsimp only [TopM] at T
  dsimp only at hret hpre
  k_dflt (walk_at "M enter")
  k_steps
  all_goals (first | (refine' hret _ _ _ (stays_of (by assumption)) ?_; rfl) | w_report)
theorem from_str (w : World) (mean : ExcName → Option Value) (mg mb : Str → Option Value) (x : Str) (t : Tok) (ha : ∀ c ∈ x.cps, c < 128) (hz : x.cps.size ≤ sizeLine) :
    Ct w mean mg mb 29 [.str x t] [] 4 40 (fun h => True) (fun _ _ r => ∃ t, r = .bytes (x.cps.map (·.toUInt8)) t) := by
  unfold Ct
  intro dp un gd cn cs a ccd cl outer A₀ base h₀ L m s Q E B F X T hk hdp hun hpre hret
  refine wpAny_call ?_
  dsimp only [TopM] at T
  dsimp only at hret hpre
  k_dflt (walk_at "M enter")
  k_steps
  all_goals (first | (refine' hret _ _ _ (stays_of (by assumption)) ?_; exact ⟨_, rfl⟩) | w_report)
end
section
/-- one figure (below 64) more: where in the quad, what is left over, what is out -/
noncomputable def aStep (st : Int × Int × List Int) (f : Int) : Int × Int × List Int :=
  if st.1 = 0 then (1, f, st.2.2)
  else if st.1 = 1 then (2, bAnd f 15, st.2.2 ++ [bOr (bShl st.2.1 2) (bShr f 4)])
  else if st.1 = 2 then (3, bAnd f 3, st.2.2 ++ [bOr (bShl st.2.1 4) (bShr f 2)])
  else (0, 0, st.2.2 ++ [bOr (bShl st.2.1 6) f])
noncomputable def figs (pre : List Int) : List Int := (pre.map b64v).filter (fun v => decide (v < 64))
noncomputable def aRun (pre : List Int) : Int × Int × List Int := (figs pre).foldl aStep (0, 0, [])
theorem b64v_in (n : Int) : 0 ≤ b64v n ∧ b64v n ≤ 64 := by unfold b64v; (repeat' split) <;> omega
theorem figs_skip {pre : List Int} {n : Int} (h : ¬ b64v n < 64) : figs (pre ++ [n]) = figs pre := by simp [figs, h]
theorem figs_more {pre : List Int} {n : Int} (h : b64v n < 64) : figs (pre ++ [n]) = figs pre ++ [b64v n] := by simp [figs, h]
theorem aRun_skip {pre : List Int} {n : Int} (h : ¬ b64v n < 64) : aRun (pre ++ [n]) = aRun pre := by unfold aRun; rw [figs_skip h]
theorem aRun_more {pre : List Int} {n : Int} (h : b64v n < 64) : aRun (pre ++ [n]) = aStep (aRun pre) (b64v n) := by unfold aRun; rw [figs_more h, List.foldl_append]; rfl
theorem and15 : ∀ v : Fin 64, 0 ≤ bAnd (v.val : Int) 15 ∧ bAnd (v.val : Int) 15 < 64 := by decide +kernel
theorem and3 : ∀ v : Fin 64, 0 ≤ bAnd (v.val : Int) 3 ∧ bAnd (v.val : Int) 3 < 64 := by decide +kernel
theorem and15' {v : Int} (h0 : 0 ≤ v) (h1 : v < 64) : 0 ≤ bAnd v 15 ∧ bAnd v 15 < 64 := by
  have := and15 ⟨v.toNat, by omega⟩
  rwa [show ((v.toNat : Nat) : Int) = v from Int.toNat_of_nonneg h0] at this
theorem and3' {v : Int} (h0 : 0 ≤ v) (h1 : v < 64) : 0 ≤ bAnd v 3 ∧ bAnd v 3 < 64 := by
  have := and3 ⟨v.toNat, by omega⟩
  rwa [show ((v.toNat : Nat) : Int) = v from Int.toNat_of_nonneg h0] at this
structure aInv (pre : List Int) (q l i : Int) (out : List Int) : Prop where
  run : (q, l, out) = aRun pre
  i : i = (pre.length : Int)
  q0 : 0 ≤ q
  q4 : q < 4
  l0 : 0 ≤ l
  l64 : l < 64
  len : out.length ≤ pre.length
theorem aInv_nil : aInv [] 0 0 0 [] := ⟨rfl, rfl, by decide, by decide, by decide, by decide, by decide⟩
section
variable {pre : List Int} {q l i n : Int} {out : List Int}
theorem aInv.skip (h : aInv pre q l i out) (hv : ¬ b64v n < 64) : aInv (pre ++ [n]) q l (i + 1) out :=
  ⟨by rw [aRun_skip hv]; exact h.run, by rw [h.i]; simp, h.q0, h.q4, h.l0, h.l64, by have := h.len; simp; omega⟩
theorem aInv.way0 (h : aInv pre q l i out) (hv : b64v n < 64) (hq : q = 0) : aInv (pre ++ [n]) 1 (b64v n) (i + 1) out :=
  ⟨by rw [aRun_more hv, ← h.run, hq]; rfl, by rw [h.i]; simp, by decide, by decide, (b64v_in n).1, hv, by have := h.len; simp; omega⟩
theorem aInv.way1 (h : aInv pre q l i out) (hv : b64v n < 64) (hq : q = 1) : aInv (pre ++ [n]) 2 (bAnd (b64v n) 15) (i + 1) (out ++ [bOr (bShl l 2) (bShr (b64v n) 4)]) :=
  ⟨by rw [aRun_more hv, ← h.run, hq]; rfl, by rw [h.i]; simp, by decide, by decide, (and15' (b64v_in n).1 hv).1, (and15' (b64v_in n).1 hv).2, by have := h.len; simp; omega⟩
theorem aInv.way2 (h : aInv pre q l i out) (hv : b64v n < 64) (hq : q = 2) : aInv (pre ++ [n]) 3 (bAnd (b64v n) 3) (i + 1) (out ++ [bOr (bShl l 4) (bShr (b64v n) 2)]) :=
  ⟨by rw [aRun_more hv, ← h.run, hq]; rfl, by rw [h.i]; simp, by decide, by decide, (and3' (b64v_in n).1 hv).1, (and3' (b64v_in n).1 hv).2, by have := h.len; simp; omega⟩
theorem aInv.way3 (h : aInv pre q l i out) (hv : b64v n < 64) (h0 : ¬ q = 0) (h1 : ¬ q = 1) (h2 : ¬ q = 2) : aInv (pre ++ [n]) 0 0 (i + 1) (out ++ [bOr (bShl l 6) (b64v n)]) :=
  ⟨by rw [aRun_more hv, ← h.run]; simp only [aStep, h0, h1, h2, if_false], by rw [h.i]; simp, by decide, by decide, by decide, by decide, by have := h.len; simp; omega⟩
end
theorem ne61 {b : Array UInt8} {pre post : List Int} {n : Int} (hb : ∀ c ∈ b, c ≠ 61) (h : KBw.bInts b = pre ++ n :: post) : n ≠ 61 := by
  rintro rfl
  have : (61 : Int) ∈ KBw.bInts b := by rw [h]; simp
  unfold KBw.bInts at this
  obtain ⟨c, hc, he⟩ := List.mem_map.mp this
  refine hb c (Array.mem_def.mpr hc) ?_
  apply UInt8.toNat_inj.mp
  have : (c.toNat : Int) = 61 := he
  show c.toNat = 61
  omega
structure ASt where
  q : Int
  l : Int
  i : Int
  tq : Tok
  tl : Tok
  tp : Tok
  ti : Tok
  vs : List Value
  ns : List Int
  k : Nat
noncomputable def aSt (m₀ : Str → Option Value) (c : ASt) (y : Str) : Option Value :=
  if y = Str.ofString "quad_pos" then some (.int c.q c.tq) else if y = Str.ofString "leftchar" then some (.int c.l c.tl)
  else if y = Str.ofString "pads" then some (.int 0 c.tp) else if y = Str.ofString "i" then some (.int c.i c.ti) else m₀ y
noncomputable def aLed (l : Addr) (c : ASt) : List (Addr × Obj) := [(l, listOf c.vs.toArray c.k)]
noncomputable def aI (pre : List Int) (c : ASt) : Prop := aInv pre c.q c.l c.i c.ns ∧ IntsAre c.vs c.ns
theorem pre_le {b : Array UInt8} {pre post : List Int} {n : Int} (h : KBw.bInts b = pre ++ n :: post) (hz : b.size ≤ sizeLine) : pre.length < 16777216 := by
  have := congrArg List.length h
  rw [KBw.ints_length, List.length_append, List.length_cons] at this
  rw [sizeLine_eq] at hz
  omega
theorem a2b_loop {prog : Program} {w : World} {A : Around} {E : Value → Shared → Prop} {s : Shared} {env : Env} {h₀ : Heap} {x : Str} {body : List Stmt} {Q : Flow → Shared → Prop}
    {b : Array UInt8} {tb : Tok} {m₀ : Str → Option Value} {l : Addr} {t1 t2 t3 t4 : Tok} (hb : ∀ c ∈ b, c ≠ 61) (hz : b.size ≤ sizeLine) (hh : A.handled = none) (F : Fr h₀ env.locals s.heap m₀) (N : News h₀ env.locals s.heap [(l, listOf #[] 0)])
    (h1 : m₀ (Str.ofString "quad_pos") = some (.int 0 t1)) (h2 : m₀ (Str.ofString "leftchar") = some (.int 0 t2)) (h3 : m₀ (Str.ofString "pads") = some (.int 0 t3)) (h4 : m₀ (Str.ofString "i") = some (.int 0 t4))
    (turn : ∀ pre n t (q lc i : Int) (tq tl tp ti : Tok) (vs : List Value) (ns : List Int) (k : Nat) h tk own, n ≠ 61 → 0 ≤ n → n < 256 → 0 ≤ b64v n → b64v n ≤ 64 → 0 ≤ q → q < 4 → 0 ≤ lc → lc < 64 → vs.length ≤ 16777216 → aInv pre q lc i ns → IntsAre vs ns → OwnOff own [l] → Fr h₀ env.locals h (fun y => if y = x then some (.int n t) else aSt m₀ ⟨q, lc, i, tq, tl, tp, ti, vs, ns, k⟩ y) → News h₀ env.locals h ((l, listOf vs.toArray k) :: own) →
      wpAny (model prog w) A (execs body env) (InvPostN h₀ env.locals (Lj x (aSt m₀) (aLed l) (aI (pre ++ [n]))) own [l] { s with heap := h, toks := tk } Q) E { s with heap := h, toks := tk })
    (done : ∀ u (q lc i : Int) (tq tl tp ti : Tok) (vs : List Value) (ns : List Int) (k : Nat) h tk, 0 ≤ q → q < 4 → vs.length ≤ 16777216 → aInv (KBw.bInts b) q lc i ns → IntsAre vs ns → Fr h₀ env.locals h (fun y => if y = x then u else aSt m₀ ⟨q, lc, i, tq, tl, tp, ti, vs, ns, k⟩ y) → News h₀ env.locals h [(l, listOf vs.toArray k)] → Q .next { s with heap := h, toks := tk }) :
    wpAny (model prog w) A (pyIter (.bytes b tb)) (fun it s₂ => LoopAtV prog w A h₀ env x body Q E it s₂) E s := by
  refine loopB (aSt m₀) (aLed l) aI ⟨0, 0, 0, t1, t2, t3, t4, [], [], 0⟩ hh F N (fun y _ => ?_) ⟨aInv_nil, .nil⟩ ?_ ?_
  · show m₀ y = aSt m₀ _ y
    unfold aSt
    dsimp only
    split
    · rename_i e; rw [e]; exact h1
    · split
      · rename_i e; rw [e]; exact h2
      · split
        · rename_i e; rw [e]; exact h3
        · split
          · rename_i e; rw [e]; exact h4
          · rfl
  · rintro pre n post t ⟨q, lc, i, tq, tl, tp, ti, vs, ns, k⟩ h tk own e lo hi hI _ hoff F₁ N₁
    have hl := hI.2.length
    have := pre_le e hz
    exact turn pre n t q lc i tq tl tp ti vs ns k h tk own (ne61 hb e) lo hi (b64v_in n).1 (b64v_in n).2 hI.1.q0 hI.1.q4 hI.1.l0 hI.1.l64 (by have := hI.1.len; dsimp only at *; omega) hI.1 hI.2 hoff F₁ N₁
  · rintro ⟨q, lc, i, tq, tl, tp, ti, vs, ns, k⟩ u h tk hI F₁ N₁
    have hl := hI.2.length
    refine done u q lc i tq tl tp ti vs ns k h tk hI.1.q0 hI.1.q4 ?_ hI.1 hI.2 F₁ N₁
    have := hI.1.len
    rw [KBw.ints_length] at this
    rw [sizeLine_eq] at hz
    dsimp only at *; omega
theorem a_end {h₀ h' : Heap} {L l : Addr} {x : Str} {m₀ m' : Str → Option Value} {own news' : List (Addr × Obj)} {pre ns : List Int} {n q lc i : Int} {tq tl tp ti : Tok} {vs : List Value} {k tk : Nat} {s₁ : Shared}
    (F : Fr h₀ L h' m') (N : News h₀ L h' news') (n0 : (l, listOf vs.toArray k) ∈ news') (ho : ∀ p ∈ own, p ∈ news')
    (hq : m' (Str.ofString "quad_pos") = some (.int q tq)) (hl : m' (Str.ofString "leftchar") = some (.int lc tl)) (hp : m' (Str.ofString "pads") = some (.int 0 tp)) (hi : m' (Str.ofString "i") = some (.int i ti))
    (hm : ∀ y, y ≠ x → y ≠ Str.ofString "quad_pos" → y ≠ Str.ofString "leftchar" → y ≠ Str.ofString "pads" → y ≠ Str.ofString "i" → m' y = m₀ y)
    (hA : IntsAre vs ns) (hI : aInv (pre ++ [n]) q lc i ns) :
    InvEndN h₀ L (Lj x (aSt m₀) (aLed l) (aI (pre ++ [n]))) own [l] s₁ { s₁ with heap := h', toks := tk } := by
  refine turn_end ⟨q, lc, i, tq, tl, tp, ti, vs, ns, k⟩ F N (fun y hy => ?_) (fun p hp => ?_) ho rfl ⟨hI, hA⟩
  · unfold aSt
    by_cases n1 : y = Str.ofString "quad_pos"
    · rw [if_pos n1, n1]; exact hq
    rw [if_neg n1]
    by_cases n2 : y = Str.ofString "leftchar"
    · rw [if_pos n2, n2]; exact hl
    rw [if_neg n2]
    by_cases n3 : y = Str.ofString "pads"
    · rw [if_pos n3, n3]; exact hp
    rw [if_neg n3]
    by_cases n4 : y = Str.ofString "i"
    · rw [if_pos n4, n4]; exact hi
    rw [if_neg n4]
    exact hm y hy n1 n2 n3 n4
  · rw [List.mem_singleton.mp hp]; exact n0
end
section
/-! the plain law of a2b -/
noncomputable def In64 (fs : List Int) : Prop := ∀ f ∈ fs, 0 ≤ f ∧ f < 64
noncomputable def dec : List Int → List Int
  | a :: b :: c :: d :: r => (a * 4 + b / 16) :: (b % 16 * 16 + c / 4) :: (c % 4 * 64 + d) :: dec r
  | _ => []
theorem t1 : ∀ a b : Fin 64, bOr (bShl (a.val : Int) 2) (bShr (b.val : Int) 4) = (a.val : Int) * 4 + (b.val : Int) / 16 := by decide +kernel
theorem t2 : ∀ (b : Fin 16) (c : Fin 64), bOr (bShl (b.val : Int) 4) (bShr (c.val : Int) 2) = (b.val : Int) * 16 + (c.val : Int) / 4 := by decide +kernel
theorem t3 : ∀ (b : Fin 4) (c : Fin 64), bOr (bShl (b.val : Int) 6) (c.val : Int) = (b.val : Int) * 64 + (c.val : Int) := by decide +kernel
theorem t4 : ∀ a : Fin 64, bAnd (a.val : Int) 15 = (a.val : Int) % 16 := by decide +kernel
theorem t5 : ∀ a : Fin 64, bAnd (a.val : Int) 3 = (a.val : Int) % 4 := by decide +kernel
theorem lift64 {p : Int → Prop} (h : ∀ a : Fin 64, p (a.val : Int)) {v : Int} (h0 : 0 ≤ v) (h1 : v < 64) : p v := by
  have := h ⟨v.toNat, by omega⟩
  rwa [show ((v.toNat : Nat) : Int) = v from Int.toNat_of_nonneg h0] at this
theorem liftN {n : Nat} {p : Int → Prop} (h : ∀ a : Fin n, p (a.val : Int)) {v : Int} (h0 : 0 ≤ v) (h1 : v < (n : Int)) : p v := by
  have := h ⟨v.toNat, by omega⟩
  rwa [show ((v.toNat : Nat) : Int) = v from Int.toNat_of_nonneg h0] at this
theorem s1 {a b : Int} (ha : 0 ≤ a ∧ a < 64) (hb : 0 ≤ b ∧ b < 64) : bOr (bShl a 2) (bShr b 4) = a * 4 + b / 16 :=
  liftN (n := 64) (p := fun a => bOr (bShl a 2) (bShr b 4) = a * 4 + b / 16) (fun x => liftN (n := 64) (p := fun b => bOr (bShl (x.val : Int) 2) (bShr b 4) = (x.val : Int) * 4 + b / 16) (fun y => t1 x y) hb.1 hb.2) ha.1 ha.2
theorem s2 {a b : Int} (ha : 0 ≤ a ∧ a < 16) (hb : 0 ≤ b ∧ b < 64) : bOr (bShl a 4) (bShr b 2) = a * 16 + b / 4 :=
  liftN (n := 16) (p := fun a => bOr (bShl a 4) (bShr b 2) = a * 16 + b / 4) (fun x => liftN (n := 64) (p := fun b => bOr (bShl (x.val : Int) 4) (bShr b 2) = (x.val : Int) * 16 + b / 4) (fun y => t2 x y) hb.1 hb.2) ha.1 ha.2
theorem s3 {a b : Int} (ha : 0 ≤ a ∧ a < 4) (hb : 0 ≤ b ∧ b < 64) : bOr (bShl a 6) b = a * 64 + b :=
  liftN (n := 4) (p := fun a => bOr (bShl a 6) b = a * 64 + b) (fun x => liftN (n := 64) (p := fun b => bOr (bShl (x.val : Int) 6) b = (x.val : Int) * 64 + b) (fun y => t3 x y) hb.1 hb.2) ha.1 ha.2
theorem s4 {a : Int} (ha : 0 ≤ a ∧ a < 64) : bAnd a 15 = a % 16 := liftN (n := 64) (p := fun a => bAnd a 15 = a % 16) t4 ha.1 ha.2
theorem s5 {a : Int} (ha : 0 ≤ a ∧ a < 64) : bAnd a 3 = a % 4 := liftN (n := 64) (p := fun a => bAnd a 3 = a % 4) t5 ha.1 ha.2
theorem aStep4 {a b c d : Int} (o : List Int) (ha : 0 ≤ a ∧ a < 64) (hb : 0 ≤ b ∧ b < 64) (hc : 0 ≤ c ∧ c < 64) (hd : 0 ≤ d ∧ d < 64) :
    aStep (aStep (aStep (aStep (0, 0, o) a) b) c) d = (0, 0, o ++ [a * 4 + b / 16, b % 16 * 16 + c / 4, c % 4 * 64 + d]) := by
  simp only [aStep, if_true, if_false, show ¬ (1 : Int) = 0 by decide, show ¬ (2 : Int) = 0 by decide, show ¬ (2 : Int) = 1 by decide, show ¬ (3 : Int) = 0 by decide, show ¬ (3 : Int) = 1 by decide, show ¬ (3 : Int) = 2 by decide]
  rw [s4 hb, s5 hc, s1 ha hb, s2 (by omega) hc, s3 (by omega) hd]
  simp
noncomputable def InB (ns : List Int) : Prop := ∀ n ∈ ns, 0 ≤ n ∧ n < 256
theorem InB.app {a b : List Int} (ha : InB a) (hb : InB b) : InB (a ++ b) := fun n h => (List.mem_append.mp h).elim (ha n) (hb n)
/-- what the machine has when the figures are through -/
theorem run_dec : ∀ (fs : List Int) (o : List Int), In64 fs → InB o →
    ∃ l tail, fs.foldl aStep (0, 0, o) = (((fs.length % 4 : Nat) : Int), l, o ++ dec fs ++ tail) ∧ InB (o ++ dec fs ++ tail) ∧ (fs.length % 4 = 0 → tail = []) ∧ (fs.length % 4 = 1 → tail = []) ∧ (dec fs).length = fs.length / 4 * 3
  | [], o, _, ho => ⟨0, [], by simp [dec], by simpa [dec] using ho, fun _ => rfl, fun _ => rfl, rfl⟩
  | [a], o, h, ho => ⟨a, [], by simp [dec, aStep], by simpa [dec] using ho, fun h => by simp at h, fun _ => rfl, by simp [dec]⟩
  | [a, b], o, h, ho => by
    have ha := h a (by simp)
    have hb := h b (by simp)
    refine ⟨b % 16, [a * 4 + b / 16], ?_, ?_, fun h => by simp at h, fun h => by simp at h, by simp [dec]⟩
    · simp only [List.foldl_cons, List.foldl_nil, aStep, if_true, if_false, show ¬ (1 : Int) = 0 by decide]
      rw [s4 hb, s1 ha hb]
      simp [dec]
    · refine (InB.app ho ?_).app ?_
      · intro n hn; simp [dec] at hn
      · intro n hn; rw [List.mem_singleton.mp hn]; omega
  | [a, b, c], o, h, ho => by
    have ha := h a (by simp)
    have hb := h b (by simp)
    have hc := h c (by simp)
    refine ⟨c % 4, [a * 4 + b / 16, b % 16 * 16 + c / 4], ?_, ?_, fun h => by simp at h, fun h => by simp at h, by simp [dec]⟩
    · simp only [List.foldl_cons, List.foldl_nil, aStep, if_true, if_false, show ¬ (1 : Int) = 0 by decide, show ¬ (2 : Int) = 0 by decide, show ¬ (2 : Int) = 1 by decide]
      rw [s4 hb, s5 hc, s1 ha hb, s2 (by omega) hc]
      simp [dec]
    · refine (InB.app ho ?_).app ?_
      · intro n hn; simp [dec] at hn
      · intro n hn
        simp only [List.mem_cons, List.not_mem_nil, or_false] at hn
        rcases hn with rfl | rfl <;> omega
  | a :: b :: c :: d :: r, o, h, ho => by
    have ha := h a (by simp)
    have hb := h b (by simp)
    have hc := h c (by simp)
    have hd := h d (by simp)
    have hr : In64 r := fun f hf => h f (by simp [hf])
    have ho' : InB (o ++ [a * 4 + b / 16, b % 16 * 16 + c / 4, c % 4 * 64 + d]) := by
      refine InB.app ho ?_
      intro n hn
      simp only [List.mem_cons, List.not_mem_nil, or_false] at hn
      rcases hn with rfl | rfl | rfl <;> omega
    obtain ⟨l, tail, e, hin, h0, h1, hl⟩ := run_dec r _ hr ho'
    refine ⟨l, tail, ?_, ?_, ?_, ?_, ?_⟩
    · rw [List.foldl_cons, List.foldl_cons, List.foldl_cons, List.foldl_cons, aStep4 o ha hb hc hd, e]
      simp [dec]
      omega
    · simpa [dec] using hin
    · intro hm; apply h0; simp at hm; omega
    · intro hm; apply h1; simp at hm; omega
    · simp [dec, hl]; omega
theorem in64_figs (pre : List Int) : In64 (figs pre) := fun f hf => by
  unfold figs at hf
  obtain ⟨h1, h2⟩ := List.mem_filter.mp hf
  obtain ⟨n, _, rfl⟩ := List.mem_map.mp h1
  exact ⟨(b64v_in n).1, of_decide_eq_true h2⟩
noncomputable def msg1 (n : Nat) : Str := Str.ofString "Invalid base64-encoded string: number of data characters (" ++ Str.ofString (toString (n : Int)) ++ Str.ofString ") cannot be 1 more than a multiple of 4"
/-- what the four defs that decode answer, from the figures that are left -/
noncomputable def decR (fs : List Int) : Except Str (Array UInt8) :=
  if fs.length % 4 = 1 then .error (msg1 fs.length) else if fs.length % 4 = 0 then .ok (byteArr (dec fs)) else .error (Str.ofString "Incorrect padding")
section
variable {pre : List Int} {q l i n : Int} {out : List Int}
theorem aInv.more (h : aInv pre q l i out) : InB out ∧ q = (((figs pre).length % 4 : Nat) : Int) ∧ (q = 0 → out = dec (figs pre)) ∧ (q = 1 → out.length = (figs pre).length / 4 * 3) := by
  obtain ⟨l', tail, e, hin, h0, h1, hl⟩ := run_dec (figs pre) [] (in64_figs pre) (fun _ h => nomatch h)
  have e' : (q, l, out) = _ := h.run.trans e
  simp only [Prod.mk.injEq] at e'
  obtain ⟨eq, -, eo⟩ := e'
  refine ⟨eo ▸ hin, eq, fun hq => ?_, fun hq => ?_⟩
  · rw [eo, h0 (by omega)]; simp
  · rw [eo, h1 (by omega)]; simp [hl]
theorem decR_one (h : aInv pre q l i out) (hq : q = 1) : decR (figs pre) = .error (Str.ofString "Invalid base64-encoded string: number of data characters (" ++ Str.ofString (toString (((out.length : Nat) : Int).fdiv 3 * 4 + 1)) ++ Str.ofString ") cannot be 1 more than a multiple of 4") := by
  obtain ⟨_, h1, _, h3⟩ := h.more
  have h4 := h3 hq
  have h5 : (figs pre).length % 4 = 1 := by omega
  unfold decR msg1
  rw [if_pos h5]
  have h6 : ((out.length : Nat) : Int).fdiv 3 * 4 + 1 = ((figs pre).length : Int) := by
    rw [h4, Int.fdiv_eq_ediv_of_nonneg _ (by decide)]; omega
  rw [h6]
theorem decR_pad (h : aInv pre q l i out) (h1 : q ≠ 1) (h0 : q ≠ 0) : decR (figs pre) = .error (Str.ofString "Incorrect padding") := by
  obtain ⟨_, e, _, _⟩ := h.more
  unfold decR
  rw [if_neg (by omega), if_neg (by omega)]
theorem decR_ok (h : aInv pre q l i out) (h0 : q = 0) : decR (figs pre) = .ok (byteArr out) := by
  obtain ⟨_, e, ho, _⟩ := h.more
  unfold decR
  rw [if_neg (by omega), if_pos (by omega), ho h0]
end

theorem decR_one' {pre : List Int} {q l i : Int} {out : List Int} {msg : Str} (h : aInv pre q l i out) (hq : q = 1) (hm : msg = Str.ofString "Invalid base64-encoded string: number of data characters (" ++ Str.ofString (toString (((out.length : Nat) : Int).fdiv 3 * 4 + 1)) ++ Str.ofString ") cannot be 1 more than a multiple of 4") : decR (figs pre) = .error msg := hm ▸ decR_one h hq
theorem decR_pad' {pre : List Int} {q l i : Int} {out : List Int} {msg : Str} (h : aInv pre q l i out) (h1 : q ≠ 1) (h0 : q ≠ 0) (hm : msg = Str.ofString "Incorrect padding") : decR (figs pre) = .error msg := hm ▸ decR_pad h h1 h0
end
section
/-! the law's octets -/
structure OSt where
  vs : List Value
  bs : List Int
  k : Nat
noncomputable def oLed (l : Addr) (rest : List (Addr × Obj)) (c : OSt) : List (Addr × Obj) := (l, listOf c.vs.toArray c.k) :: rest
noncomputable def oI (i : Nat) (c : OSt) : Prop := c.bs.length = 6 + 3 * i ∧ IntsAre c.vs c.bs ∧ InB c.bs
theorem oct_loop {prog : Program} {w : World} {A : Around} {E : Value → Shared → Prop} {s : Shared} {env : Env} {h₀ : Heap} {x : Str} {px : Pos} {body : List Stmt} {Q : Flow → Shared → Prop}
    {m₀ : Str → Option Value} {ax l lc : Addr} {vs₀ vs : List Value} {bs₀ ns : List Int} {k₀ : Nat} {o₀ : Obj} {ov : Option Value} (rest : List (Addr × Obj))
    (hk : env.scope.kind = .function) (hl : env.kindOf x = some .cell) (hc : env.cells.lookup x = some lc) (hh : A.handled = none) (hlist : s.heap.IsList ax vs.toArray) (hints : IntsAre vs ns) (hz : ns.length ≤ 63)
    (F : Fr h₀ env.locals s.heap m₀) (N : News h₀ env.locals s.heap ((l, listOf vs₀.toArray k₀) :: rest ++ [(lc, o₀)])) (hL : ax ≠ env.locals) (n1 : ax ≠ l) (n2 : ax ≠ lc) (hlc : lc ∉ l :: rest.map (·.1)) (ho : o₀.data = .cell ov) (h6 : bs₀.length = 6) (hi : IntsAre vs₀ bs₀) (hb : InB bs₀)
    (turn : ∀ n t (vs : List Value) (bs : List Int) (k : Nat) (o : Obj) h tk own i, vs.length ≤ 1000 → IntsAre vs bs → InB bs → bs.length = 6 + 3 * i → o.data = .cell (some (.int n t)) → OwnOff own [l, lc] → Fr h₀ env.locals h m₀ → News h₀ env.locals h ((l, listOf vs.toArray k) :: rest ++ (lc, o) :: own) →
      wpAny (model prog w) A (execs body env) (InvPostN h₀ env.locals (LjC (fun _ => m₀) (oLed l rest) lc (oI (i + 1))) own (l :: rest.map (·.1) ++ [lc]) { s with heap := h, toks := tk } Q) E { s with heap := h, toks := tk })
    (done : ∀ (vs : List Value) (bs : List Int) (k : Nat) (o : Obj) h tk, IntsAre vs bs → InB bs → bs.length % 3 = 0 → bs.length ≤ 195 → 6 ≤ bs.length → Fr h₀ env.locals h m₀ → News h₀ env.locals h ((l, listOf vs.toArray k) :: rest ++ [(lc, o)]) → Q .next { s with heap := h, toks := tk }) :
    wpAny (model prog w) A (pyIter (.ref ax)) (fun it s₂ => UnrAt prog w A h₀ env (.Name x px) body Q E it s₂) E s := by
  refine loopCL (fun _ => m₀) (oLed l rest) oI ⟨vs₀, bs₀, k₀⟩ [l, lc] hk hl hc hh hlist hints F N hL ?_ (by simp) ?_ hlc ho ⟨by simpa using h6, hi, hb⟩ ?_ ?_
  · intro hm
    rcases List.mem_cons.mp hm with e | hm
    · exact n1 e
    · exact n2 (List.mem_singleton.mp hm)
  · intro b hb
    rcases List.mem_cons.mp hb with rfl | hb
    · exact ⟨(b, listOf vs₀.toArray k₀), by simp [oLed], rfl⟩
    · rw [List.mem_singleton.mp hb]
      exact ⟨(lc, o₀), by simp, rfl⟩
  · rintro i n t ⟨vs, bs, k⟩ o h tk own hn ⟨h1, h2, h3⟩ hd hoff F₁ N₁
    have hlt : i < ns.length := (List.getElem?_eq_some_iff.mp hn).1
    have hl := h2.length
    dsimp only at h1 h2 h3 hl
    exact turn n t vs bs k o h tk own i (by omega) h2 h3 h1 hd hoff F₁ N₁
  · rintro ⟨vs, bs, k⟩ o v h tk ⟨h1, h2, h3⟩ hd F₁ N₁
    dsimp only at h1 h2 h3
    exact done vs bs k o h tk h2 h3 (by omega) (by omega) (by omega) F₁ N₁
theorem fm256 (a : Int) : 0 ≤ a.fmod 256 ∧ a.fmod 256 < 256 := ⟨Int.fmod_nonneg_of_pos a (by decide), Int.fmod_lt_of_pos a (by decide)⟩
theorem oct_end {h₀ h' : Heap} {L l lc : Addr} {o : Obj} {v : Option Value} {m₀ m' : Str → Option Value} {rest own news' : List (Addr × Obj)} {vs : List Value} {bs : List Int} {k i tk : Nat} {a b c : Int} {ta tb tc : Tok} {s₁ : Shared}
    (F : Fr h₀ L h' m') (N : News h₀ L h' news') (hm : ∀ y, m' y = m₀ y) (hd : o.data = .cell v) (n0 : (l, listOf (vs ++ [Value.int (a.fmod 256) ta, Value.int (b.fmod 256) tb, Value.int (c.fmod 256) tc]).toArray k) ∈ news') (n1 : ∀ p ∈ rest, p ∈ news') (n2 : (lc, o) ∈ news') (ho : ∀ p ∈ own, p ∈ news') (hI : IntsAre vs bs) (hB : InB bs) (hl : bs.length = 6 + 3 * i) :
    InvEndN h₀ L (LjC (fun _ => m₀) (oLed l rest) lc (oI (i + 1))) own (l :: rest.map (·.1) ++ [lc]) s₁ { s₁ with heap := h', toks := tk } := by
  refine turnC_end (Led := oLed l rest) ⟨vs ++ [Value.int (a.fmod 256) ta, Value.int (b.fmod 256) tb, Value.int (c.fmod 256) tc], bs ++ [a.fmod 256, b.fmod 256, c.fmod 256], k⟩ F N hd hm (fun p hp => ?_) ho (by simp [oLed]) ⟨by simp [hl]; omega, IntsAre.append hI (.cons _ _ (.cons _ _ (.cons _ _ .nil))), InB.app hB ?_⟩
  · rcases List.mem_append.mp hp with hp | hp
    · rcases List.mem_cons.mp hp with rfl | hp
      · exact n0
      · exact n1 p hp
    · rw [List.mem_singleton.mp hp]; exact n2
  · intro n hn
    simp only [List.mem_cons, List.not_mem_nil, or_false] at hn
    rcases hn with rfl | rfl | rfl
    · exact fm256 _
    · exact fm256 _
    · exact fm256 _
theorem cut_oct {h₀ h : Heap} {L : Addr} {a1 a2 a3 a4 a5 a6 a7 c3 c2 c1 : Addr × Obj} (N : News h₀ L h [a1, a2, a3, a4, a5, a6, a7, c3, c2, c1]) : News h₀ L h (a1 :: [a2, a7, c2, c1] ++ [c3]) := fun p hp => by
  refine N p ?_
  simp only [List.cons_append, List.nil_append, List.mem_cons, List.not_mem_nil, or_false] at hp ⊢
  rcases hp with h | h | h | h | h | h <;> simp [h]
theorem inb6 : InB [251, 255, 191, 0, 16, 131] := by unfold InB; decide
theorem ne_of_news {h₀ h : Heap} {L a : Addr} {o : Obj} {news : List (Addr × Obj)} (N : News h₀ L h news) (hm : (a, o) ∈ news) : a ≠ L := (N _ hm).2.1
theorem cut_for {h₀ h : Heap} {L : Addr} {t0 lit oc sg sc c2 c1 c3 : Addr × Obj} (N : News h₀ L h [t0, lit, oc, sg, sc, c2, c1, c3]) : News h₀ L h [oc, c2, sg, c1, t0] := fun p hp => by
  refine N p ?_
  simp only [List.mem_cons, List.not_mem_nil, or_false] at hp ⊢
  rcases hp with h | h | h | h | h <;> simp [h]
end
section
/-! _law_figures: what its loop leaves -/
noncomputable def wordT (ns : List Int) (i : Nat) : Int := ns.getD (3 * i) 0 * 65536 + ns.getD (3 * i + 1) 0 * 256 + ns.getD (3 * i + 2) 0
noncomputable def figF (x : Int) : List Int := [x / 262144 % 64, x / 4096 % 64, x / 64 % 64, x % 64]
noncomputable def figT (ns : List Int) : Nat → List Int
  | 0 => []
  | i + 1 => figT ns i ++ figF (wordT ns i)
theorem figT_length (ns : List Int) : ∀ i, (figT ns i).length = 4 * i
  | 0 => rfl
  | i + 1 => by show (figT ns i ++ figF _).length = _; rw [List.length_append, figT_length ns i]; show 4 * i + 4 = _; omega
structure FSt where
  vs : List Value
  fs : List Int
  k : Nat
  o : Obj
noncomputable def fSt (m₀ : Str → Option Value) (_ : FSt) (y : Str) : Option Value := m₀ y
noncomputable def fLed (l lc : Addr) (c : FSt) : List (Addr × Obj) := [(l, listOf c.vs.toArray c.k), (lc, c.o)]
noncomputable def fI (ns : List Int) (i : Nat) (c : FSt) : Prop := c.fs = figT ns i ∧ IntsAre c.vs c.fs ∧ ∃ v, c.o.data = .cell v
theorem range3_size (n : Nat) (h3 : n % 3 = 0) : Builtin.Range.rangeSize 0 (n : Int) 3 = ((n / 3 : Nat) : Int) := by
  unfold Builtin.Range.rangeSize
  simp only [show ((3 : Int) > 0) by decide, if_true]
  split <;> omega
theorem rfits {i : Int} (h1 : -1000000000 ≤ i) (h2 : i ≤ 1000000000) : Builtin.Range.rangeFitsLong i = true := by
  unfold Builtin.Range.rangeFitsLong
  rw [Bool.and_eq_true, decide_eq_true_eq, decide_eq_true_eq]
  constructor <;> omega
theorem range3_small (n : Nat) (hz : n ≤ 1000000) : Builtin.Range.small 0 (n : Int) 3 = true := by
  have hs : 0 ≤ Builtin.Range.rangeSize 0 (n : Int) 3 ∧ Builtin.Range.rangeSize 0 (n : Int) 3 ≤ n := by
    unfold Builtin.Range.rangeSize
    simp only [show ((3 : Int) > 0) by decide, if_true]
    split <;> omega
  unfold Builtin.Range.small
  generalize Builtin.Range.rangeSize 0 (n : Int) 3 = z at *
  rw [if_pos (by decide), rfits (by decide) (by decide), rfits (i := (n : Int)) (by omega) (by omega), rfits (by decide) (by decide), rfits (i := z) (by omega) (by omega), rfits (i := (n : Int) + (3 - 1)) (by omega) (by omega)]
  simp
theorem fig_loop {prog : Program} {w : World} {A : Around} {E : Value → Shared → Prop} {s : Shared} {env : Env} {h₀ : Heap} {x : Str} {body : List Stmt} {Q : Flow → Shared → Prop}
    {r : Addr} {t₀ u₀ v₀ : Tok} {m₀ : Str → Option Value} {l lc : Addr} {o : Obj} {v : Option Value} {ns : List Int} (hz : ns.length ≤ 1000) (h3 : ns.length % 3 = 0) (hh : A.handled = none)
    (hr : IsRange s.heap r 0 (ns.length : Int) 3 t₀ u₀ v₀) (F : Fr h₀ env.locals s.heap m₀) (N : News h₀ env.locals s.heap [(l, listOf #[] 0), (lc, o)]) (ho : o.data = .cell v)
    (turn : ∀ (i : Nat) (t : Tok) (vs : List Value) (fs : List Int) (k : Nat) (o : Obj) (v : Option Value) h tk own, (i : Int) * 3 + 2 < (ns.length : Int) → vs.length ≤ 4000 → fs = figT ns i → IntsAre vs fs → o.data = .cell v → OwnOff own [l, lc] → Fr h₀ env.locals h (fun y => if y = x then some (.int ((i : Int) * 3) t) else m₀ y) → News h₀ env.locals h ((l, listOf vs.toArray k) :: (lc, o) :: own) →
      wpAny (model prog w) A (execs body env) (InvPostN h₀ env.locals (Lj x (fSt m₀) (fLed l lc) (fI ns (i + 1))) own [l, lc] { s with heap := h, toks := tk } Q) E { s with heap := h, toks := tk })
    (done : ∀ u (vs : List Value) (fs : List Int) (k : Nat) (o : Obj) h tk, fs = figT ns (ns.length / 3) → IntsAre vs fs → Fr h₀ env.locals h (fun y => if y = x then u else m₀ y) → News h₀ env.locals h [(l, listOf vs.toArray k), (lc, o)] → Q .next { s with heap := h, toks := tk }) :
    wpAny (model prog w) A (pyIter (.ref r)) (fun it s₂ => LoopAtV prog w A h₀ env x body Q E it s₂) E s := by
  refine loopR (fSt m₀) (fLed l lc) (fI ns) ⟨[], [], 0, o⟩ (n := ns.length / 3) hh hr ?_ ?_ F N (fun _ _ => rfl) ⟨rfl, .nil, v, ho⟩ ?_ ?_
  · exact range3_small ns.length (by omega)
  · exact range3_size ns.length h3
  · rintro i t ⟨vs, fs, k, o⟩ h tk own hi ⟨e, hI, v, ho⟩ _ hoff F₁ N₁
    have hl := hI.length
    dsimp only at e hI ho hl
    have hf := figT_length ns i
    rw [Int.zero_add] at F₁
    exact turn i t vs fs k o v h tk own (by omega) (by rw [hl, e, hf]; omega) e hI ho hoff F₁ N₁
  · rintro ⟨vs, fs, k, o⟩ u h tk ⟨e, hI, _⟩ F₁ N₁
    exact done u vs fs k o h tk e hI F₁ N₁
theorem fig_turn {ns fs : List Int} {i : Nat} {p0 p1 p2 : Int} (h0 : p0 = (i : Int) * 3) (h1 : p1 = (i : Int) * 3 + 1) (h2 : p2 = (i : Int) * 3 + 2) (e : fs = figT ns i) :
    fs ++ [((ns.getD p0.toNat 0 * 65536 + ns.getD p1.toNat 0 * 256 + ns.getD p2.toNat 0).fdiv (64 ^ Int.toNat 3)).fmod 64, ((ns.getD p0.toNat 0 * 65536 + ns.getD p1.toNat 0 * 256 + ns.getD p2.toNat 0).fdiv (64 ^ Int.toNat 2)).fmod 64,
      ((ns.getD p0.toNat 0 * 65536 + ns.getD p1.toNat 0 * 256 + ns.getD p2.toNat 0).fdiv (64 ^ Int.toNat 1)).fmod 64, ((ns.getD p0.toNat 0 * 65536 + ns.getD p1.toNat 0 * 256 + ns.getD p2.toNat 0).fdiv (64 ^ Int.toNat 0)).fmod 64] = figT ns (i + 1) := by
  have e0 : p0.toNat = 3 * i := by omega
  have e1 : p1.toNat = 3 * i + 1 := by omega
  have e2 : p2.toNat = 3 * i + 2 := by omega
  rw [e0, e1, e2, e]
  show _ = figT ns i ++ figF (wordT ns i)
  unfold figF wordT
  generalize ns.getD (3 * i) 0 * 65536 + ns.getD (3 * i + 1) 0 * 256 + ns.getD (3 * i + 2) 0 = W
  congr 1
  rw [show (64 : Int) ^ Int.toNat 3 = 262144 by decide, show (64 : Int) ^ Int.toNat 2 = 4096 by decide, show (64 : Int) ^ Int.toNat 1 = 64 by decide, show (64 : Int) ^ Int.toNat 0 = 1 by decide]
  simp only [Int.fdiv_eq_ediv_of_nonneg _ (show (0 : Int) ≤ 262144 by decide), Int.fdiv_eq_ediv_of_nonneg _ (show (0 : Int) ≤ 4096 by decide), Int.fdiv_eq_ediv_of_nonneg _ (show (0 : Int) ≤ 64 by decide), Int.fdiv_eq_ediv_of_nonneg _ (show (0 : Int) ≤ 1 by decide), Int.fmod_eq_emod_of_nonneg _ (show (0 : Int) ≤ 64 by decide), Int.ediv_one]
end
section
/-! the law's pieces -/
open LCg
noncomputable def PieceAt (bs : List Int) (base : List (Addr × Obj)) (i : Nat) (ys : List Value) (news : List (Addr × Obj)) : Prop :=
  ∃ made, news = base ++ made ∧ ys.length = i ∧ ∀ j v, ys[j]? = some v → ∃ a vs k, v = .ref a ∧ (a, listOf vs.toArray k) ∈ made ∧ IntsAre vs (bs.take (3 * j))
theorem pieceAt_nil (bs : List Int) (base : List (Addr × Obj)) : PieceAt bs base 0 [] base := ⟨[], (List.append_nil _).symm, rfl, fun j v h => by simp at h⟩
theorem pieceAt_more {bs : List Int} {base news : List (Addr × Obj)} {i : Nat} {ys : List Value} {a : Addr} {ws : List Value} {k : Nat} (P : PieceAt bs base i ys news) (hI : IntsAre ws (bs.take (3 * i))) :
    PieceAt bs base (i + 1) (ys ++ [.ref a]) (news ++ [(a, listOf ws.toArray k)]) := by
  obtain ⟨made, rfl, hl, h⟩ := P
  refine ⟨made ++ [(a, listOf ws.toArray k)], by rw [List.append_assoc], by simp [hl], fun j v hj => ?_⟩
  by_cases hlt : j < ys.length
  · rw [List.getElem?_append_left hlt] at hj
    obtain ⟨a', vs', k', e, hm, hi⟩ := h j v hj
    exact ⟨a', vs', k', e, List.mem_append_left _ hm, hi⟩
  · have hje : j = ys.length := by
      have := (List.getElem?_eq_some_iff.mp hj).1
      simp at this; omega
    subst hje
    rw [List.getElem?_append_right (Nat.le_refl _)] at hj
    simp at hj
    exact ⟨a, ws, k, hj.symm, by simp, hl ▸ hI⟩
theorem range3_size1 (n : Nat) (h3 : n % 3 = 0) : Builtin.Range.rangeSize 0 ((n : Int) + 1) 3 = ((n / 3 + 1 : Nat) : Int) := by
  unfold Builtin.Range.rangeSize
  simp only [show ((3 : Int) > 0) by decide, if_true]
  split <;> omega
theorem range3_small1 (n : Nat) (hz : n ≤ 100000) : Builtin.Range.small 0 ((n : Int) + 1) 3 = true := by
  have := range3_small (n + 1) (by omega)
  rwa [show (((n + 1 : Nat)) : Int) = (n : Int) + 1 by omega] at this
theorem piece_end {h₀ h' : Heap} {L I C D a : Addr} {m : Str → Option Value} {s₁ : Shared} {oI oC : Obj} {ys ws : List Value} {bs : List Int} {base made all : List (Addr × Obj)} {i k tk n : Nat}
    (F : Fr h₀ L h' m) (N : News h₀ L h' all) (hsub : ∀ p ∈ (I, oI) :: (C, oC) :: (D, lst ys) :: (base ++ made), p ∈ all) (ha : (a, listOf ws.toArray k) ∈ all) (hO : Off3 I C D (base ++ made)) (n1 : a ≠ I) (n2 : a ≠ C) (n3 : a ≠ D)
    (hP : PieceAt bs base i ys (base ++ made)) (hI : IntsAre ws (bs.take n)) (hn : n = 3 * i) :
    CompEnd h₀ L m s₁ I oI C oC D (lst ys) (fun _ => True) (fun y news' => PieceAt bs base (i + 1) (ys ++ [y]) news') (.ref a) { s₁ with heap := h', toks := tk } := by
  subst hn
  refine LCg.CompEnd.intro F N ((base ++ made) ++ [(a, listOf ws.toArray k)]) (fun p hp => ?_) (Off3.of fun p hp => ?_) trivial (pieceAt_more hP hI)
  · rw [← List.cons_append, ← List.cons_append, ← List.cons_append] at hp
    rcases List.mem_append.mp hp with hp | hp
    · exact hsub p hp
    · rw [List.mem_singleton.mp hp]; exact ha
  · rcases List.mem_append.mp hp with hp | hp
    · exact hO.mem p hp
    · rw [List.mem_singleton.mp hp]; exact ⟨n1, n2, n3⟩
noncomputable def PieceOk (rest : List (Addr × Obj)) (v : Value) : Prop := ∃ a pvs pbs pk, v = .ref a ∧ (a, listOf pvs.toArray pk) ∈ rest ∧ IntsAre pvs pbs ∧ InB pbs ∧ pbs.length ≤ 195 ∧ pbs.length % 3 = 0
theorem pieces_ok {bs : List Int} {made rest : List (Addr × Obj)} {ys ws : List Value} {a : Addr} {k : Nat} (hB : InB bs) (hlen : bs.length ≤ 195) (h3 : bs.length % 3 = 0) (hyl : ys.length = bs.length / 3 + 1)
    (h : ∀ j v, ys[j]? = some v → ∃ a vs k, v = .ref a ∧ (a, listOf vs.toArray k) ∈ made ∧ IntsAre vs (bs.take (3 * j))) (hs : ∀ p ∈ made, p ∈ rest) (ha : (a, listOf ws.toArray k) ∈ rest) (hI : IntsAre ws (bs.drop 3)) :
    ∀ v ∈ ys ++ [.ref a], PieceOk rest v := by
  intro v hv
  rcases List.mem_append.mp hv with hv | hv
  · obtain ⟨j, hj⟩ := List.mem_iff_getElem?.mp hv
    have hjl := (List.getElem?_eq_some_iff.mp hj).1
    obtain ⟨a, vs, k, rfl, hm, hi⟩ := h j v hj
    have hl : (bs.take (3 * j)).length = 3 * j := by rw [List.length_take]; omega
    exact ⟨a, vs, _, k, rfl, hs _ hm, hi, fun n hn => hB n (List.mem_of_mem_take hn), by omega, by omega⟩
  · rw [List.mem_singleton.mp hv]
    exact ⟨a, ws, _, k, rfl, ha, hI, fun n hn => hB n (List.mem_of_mem_drop hn), by rw [List.length_drop]; omega, by rw [List.length_drop]; omega⟩
end
section
/-! statements on the clean stacks, where nothing is raised -/
noncomputable abbrev NoE : Value → Shared → Prop := fun _ _ => False
section
variable {α : Type} {M : Model} {A : Around} {s : Shared} {env : Env}
theorem wpC_noRaise {m : Sem α} {k : Value → Sem Unit} {Q : α → Shared → Prop} (h : wpC M A m Q NoE s) : wpC M A (m.onRaise k) Q NoE s :=
  wpC_onRaise (wpC_mono h (fun _ _ q => q) fun _ _ x => x.elim)
theorem wpC_execs_nil {Q : Flow → Shared → Prop} {E : Value → Shared → Prop} (h : Q .next s) : wpC M A (execs [] env) Q E s := wpC_of (wpAny_execs_nil h)
theorem wpC_execs_cons {st : Stmt} {rest : List Stmt} {Q : Flow → Shared → Prop} {E : Value → Shared → Prop}
    (h : wpC M A (exec st env) (fun f s' => match f with | .next => wpC M A (execs rest env) Q E s' | f => Q f s') E s) : wpC M A (execs (st :: rest) env) Q E s := by
  rw [execs_cons]
  refine wpC_bind (wpC_mono h (fun f s' h' => ?_) fun _ _ e => e)
  cases f <;> first | exact h' | exact wpC_pure h'
/-- a statement that the library's rules serve, then the rest -/
theorem wpC_step {st : Stmt} {rest : List Stmt} {Q : Flow → Shared → Prop} {E : Value → Shared → Prop}
    (h : wpAny M A (exec st env) (fun f s' => match f with | .next => wpC M A (execs rest env) Q E s' | f => Q f s') E s) : wpC M A (execs (st :: rest) env) Q E s := wpC_execs_cons (wpC_of h)
theorem codeC_turns {c : Code} {R : Result → Shared → Prop} (hk : okCode c = true) (hq : c.quiet = true) (I : Nat → Shared → Prop)
    (turn : ∀ n s, I n s → wpC M (A.under c) (M.den c)
      (fun fin s' => match fin with
        | .done f => R (.ok f) s'
        | .again c' => (c' = c ∧ ∃ m, m < n ∧ I m s') ∨ (c'.quiet = true ∧ codeC M A c' R s')) (fun e s' => R (.error e) s') s)
    (n : Nat) (h : I n s) : codeC M A c R s := by
  induction n using Nat.strongRecOn generalizing s with
  | ind n ih =>
    refine codeC_of_tree hk (wpC_mono (turn n s h) (fun fin s' hf => ?_) fun _ _ h' => h')
    cases fin with
    | done f => exact hf
    | again c' =>
      rcases hf with ⟨rfl, m, hm, hI⟩ | hf
      · exact ⟨hq, ih m hm hI⟩
      · exact hf
end
section
variable {prog : Program} {w : World} {A : Around} {s : Shared} {env : Env} {R : Result → Shared → Prop} {h₀ : Heap}
theorem codeC_func {body : List Stmt} (h : wpC (model prog w) (A.deeper env) (execs body env) (fun f s' => R (.ok (.ret (match f with | .ret v => v | _ => .none))) s') NoE s) : codeC (model prog w) A (.func body env) R s := by
  refine codeC_of_tree rfl ?_
  show wpC _ (A.deeper env) (do point; match ← (execs body env).onRaise (leaving env) with | .ret v => ret v | _ => ret .none) _ _ s
  refine wpC_then (wpAny_point (wpC_bind (wpC_mono (wpC_noRaise h) (fun f s' h' => ?_) fun _ _ x => x.elim)))
  cases f <;> exact wpC_pure h'
theorem codeC_block_nil (h : R (.ok .next) s) : codeC (model prog w) A (.block [] env) R s := by
  refine codeC_of_tree rfl ?_
  show wpC _ _ (do return Fin.done (← (execs [] env).onRaise (fun x => do noteFrame x env; theTreesLotGoes x))) _ _ s
  exact wpC_bind (wpC_mono (wpC_noRaise (wpC_execs_nil (Q := fun f s' => R (.ok f) s') h)) (fun f s' h' => wpC_pure h') fun _ _ x => x.elim)
theorem codeC_call_function {a : Addr} {args : Args} {o : Obj} {fd : FuncData} {body : List Stmt} (hroom : A.depth < recursionLimit)
    (ho : s.heap.get? a = some o) (hd' : o.data = .func fd) (hco : fd.scope.isCoroutine = false) (hgen : fd.scope.isGenerator = false) (hbody : fd.body = .stmts body) (hcd : s.heap.CodeRec fd.code fd.qualname)
    (h : wpAny (model prog w) A.in1 (bindArgs fd args) (fun binds s₁ =>
      wpAny (model prog w) A.in1 (newFunctionEnv fd.scope fd.globals fd.closure binds (fd.qualname ++ ".<locals>.") (some a) fd.code none fd.builtins)
        (fun env s₂ => s₂.heap.NoLimit ∧ codeC (model prog w) A (.func body env) R s₂) (fun e s' => R (.error e) s') s₁) (fun e s' => R (.error e) s') s) :
    codeC (model prog w) A (.call (.ref a) args) R s := by
  refine codeC_of_tree rfl ?_
  show wpC _ A.in1 (callAny (.ref a) args) _ _ s
  simp only [callAny]
  refine wpC_then (wpAny_load ho ?_)
  obtain ⟨c, oc, vs, tq, hc, hoc, hdc, hq⟩ := hcd
  simp only [hd', callFunction, hco, hgen, hbody, hc]
  rw [hc] at h
  refine wpC_then (m := field (.ref c) 1) (wpAny_field hoc hdc hq (wpC_then (wpAny_pure ?_)))
  refine wpC_then (wpAny_mono h (fun binds s₁ h₁ => wpC_then (wpAny_mono h₁ (fun env s₂ h₂ => ?_) fun _ _ h' => h')) fun _ _ h' => h')
  exact wpC_then (wpAny_enterFrame h₂.1 hroom (wpC_pure (And.intro rfl h₂.2)))
theorem codeC_forLoop {target : Expr} {it : Value} {body : List Stmt} (I : Nat → Shared → Prop)
    (turn : ∀ n s, I n s → wpAny (model prog w) A (pyNext it) (fun r s₁ => match r with
      | none => R (.ok .next) s₁
      | some v => wpAny (model prog w) A (letOwnedTupleGo target it v) (fun _ s₁' =>
          wpAny (model prog w) A (assign target env v) (fun _ s₂ => wpC (model prog w) A (execs body env) (fun f s₃ => match f with
            | .next | .cont => ∃ m, m < n ∧ I m s₃
            | .brk => R (.ok .next) s₃
            | .ret v => R (.ok (.ret v)) s₃) NoE s₂) NoE s₁') NoE s₁) NoE s)
    (n : Nat) (h : I n s) : codeC (model prog w) A (.forLoop target it body [] env) R s := by
  refine codeC_turns rfl rfl I (fun n s hI => ?_) n h
  show wpC _ A ((forTurn target it body [] env).onRaise (fun x => do noteFrame x env; theTreesLotGoes x)) _ _ s
  refine wpC_mono (wpC_noRaise (Q := fun fin s' => match fin with
        | .done f => R (.ok f) s'
        | .again c' => (c' = .forLoop target it body [] env ∧ ∃ m, m < n ∧ I m s') ∨ (c'.quiet = true ∧ codeC (model prog w) A c' R s')) ?_) (fun _ _ q => q) fun _ _ x => x.elim
  simp only [forTurn]
  refine wpC_then (wpAny_standAt (wpC_bind (wpC_noRaise (wpC_of (wpAny_mono (turn n s hI) (fun r s₁ h₁ => ?_) fun _ _ h' => h')))))
  cases r with
  | none => exact wpC_pure (.inr ⟨rfl, codeC_block_nil h₁⟩)
  | some v =>
    refine wpC_then (wpAny_mono h₁ (fun _ s₁' h₁' => ?_) fun _ _ h' => h')
    refine wpC_then (wpAny_mono h₁' (fun _ s₂ h₂ => wpC_bind (wpC_mono h₂ (fun f s₃ h₃ => ?_) fun _ _ h' => h')) fun _ _ h' => h')
    cases f with
    | next => exact wpC_pure (.inl ⟨rfl, h₃⟩)
    | cont => exact wpC_pure (.inl ⟨rfl, h₃⟩)
    | brk => exact wpC_pure h₃
    | ret v => exact wpC_pure h₃
theorem wpC_For {target iter : Expr} {body orelse : List Stmt} {pos : Pos} {Q : Flow → Shared → Prop}
    (h : wpC (model prog w) A (eval iter env) (fun x s₁ => wpC (model prog w) A (pyIter x) (fun it s₂ =>
      codeC (model prog w) A (.forLoop target it body orelse env) (fun r s' => match r with | .ok f => Q f s' | .error _ => False) s₂) NoE s₁) NoE s)
    (hs : ∀ x, foldedSetIterable iter env x = pure x := by intro _; rfl) :
    wpC (model prog w) A (exec (.For target iter body orelse pos) env) Q NoE s := by
  rw [exec_For]
  refine wpC_then (wpAny_standAt (wpC_bind (wpC_mono h (fun x s₁ h₁ => wpC_then (wpAny_of_eq (hs x) (wpC_then (wpAny_standAt (wpC_bind (wpC_holding (wpC_mono h₁ (fun it s₂ h₂ => ?_) fun _ _ h' => h'))))))) fun _ _ h' => h')))
  unfold runOwn
  exact wpC_noRaise (wpC_run (codeC_mono h₂ fun r s' hr => by cases r <;> exact hr))
end
end
section
/-! loops on the clean stacks, turn by turn or by an invariant -/
section
variable {prog : Program} {w : World} {A : Around} {s : Shared} {env : Env} {h₀ : Heap} {target : Expr} {body : List Stmt} {Q : Flow → Shared → Prop} {P : Nat → Value → Prop} {fp : List Addr}
/-- what a turn leaves for the next -/
noncomputable def StepC (h₀ : Heap) (L : Addr) (own nx : List (Addr × Obj)) (J : (Str → Option Value) → List (Addr × Obj) → Prop) (s₁ : Shared) (Q : Flow → Shared → Prop) (f : Flow) (s₂ : Shared) : Prop :=
  match f with
  | .ret v => Q (.ret v) s₂
  | .brk => Q .next s₂
  | _ => ∃ h' tk m' nx', s₂ = { s₁ with heap := h', toks := tk } ∧ Fr h₀ L h' m' ∧ News h₀ L h' (own ++ nx') ∧ nx'.map (·.1) = nx.map (·.1) ∧ J m' nx'
noncomputable def UnrC (prog : Program) (w : World) (A : Around) (h₀ : Heap) (env : Env) (target : Expr) (body : List Stmt) (Q : Flow → Shared → Prop) (P : Nat → Value → Prop) (fp : List Addr) (s : Shared) :
    Nat → Nat → (Str → Option Value) → List (Addr × Obj) → Prop
  | 0, _, m, nx => ∀ h tk, Fr h₀ env.locals h m → News h₀ env.locals h nx → Q .next { s with heap := h, toks := tk }
  | k + 1, i, m, nx => ∀ v h tk own, P i v → (∀ p ∈ own, p.1 ∈ fp) → Fr h₀ env.locals h m → News h₀ env.locals h (own ++ nx) →
      wpAny (model prog w) A (assign target env v) (fun _ s₂ => wpC (model prog w) A (execs body env)
        (StepC h₀ env.locals own nx (UnrC prog w A h₀ env target body Q P fp s k (i + 1)) { s with heap := h, toks := tk } Q) NoE s₂) NoE { s with heap := h, toks := tk }
theorem UnrC.inv {n : Nat} (Inv : Nat → (Str → Option Value) → List (Addr × Obj) → Prop)
    (turn : ∀ i m nx v h tk own, i < n → Inv i m nx → P i v → (∀ p ∈ own, p.1 ∈ fp) → Fr h₀ env.locals h m → News h₀ env.locals h (own ++ nx) →
      wpAny (model prog w) A (assign target env v) (fun _ s₂ => wpC (model prog w) A (execs body env) (StepC h₀ env.locals own nx (Inv (i + 1)) { s with heap := h, toks := tk } Q) NoE s₂) NoE { s with heap := h, toks := tk })
    (done : ∀ m nx h tk, Inv n m nx → Fr h₀ env.locals h m → News h₀ env.locals h nx → Q .next { s with heap := h, toks := tk }) :
    ∀ (k i : Nat) (m : Str → Option Value) (nx : List (Addr × Obj)), i + k = n → Inv i m nx → UnrC prog w A h₀ env target body Q P fp s k i m nx
  | 0, i, m, nx, e, hi => fun h tk F N => done m nx h tk (by rw [Nat.add_zero] at e; rw [← e]; exact hi) F N
  | k + 1, i, m, nx, e, hi => fun v h tk own hP hown F N =>
      wpAny_mono (turn i m nx v h tk own (by omega) hi hP hown F N) (fun _ s₂ h₂ => wpC_mono h₂ (fun f s₃ h₃ => by
        have up : (∃ h' tk' m' nx', s₃ = { { s with heap := h, toks := tk } with heap := h', toks := tk' } ∧ Fr h₀ env.locals h' m' ∧ News h₀ env.locals h' (own ++ nx') ∧ nx'.map (·.1) = nx.map (·.1) ∧ Inv (i + 1) m' nx') →
            ∃ h' tk' m' nx', s₃ = { { s with heap := h, toks := tk } with heap := h', toks := tk' } ∧ Fr h₀ env.locals h' m' ∧ News h₀ env.locals h' (own ++ nx') ∧ nx'.map (·.1) = nx.map (·.1) ∧ UnrC prog w A h₀ env target body Q P fp s k (i + 1) m' nx' := by
          rintro ⟨h', tk', m', nx', es, F', N', ha, hJ⟩
          exact ⟨h', tk', m', nx', es, F', N', ha, UnrC.inv Inv turn done k (i + 1) m' nx' (by omega) hJ⟩
        cases f with
        | ret v => exact h₃
        | brk => exact h₃
        | cont => exact up h₃
        | next => exact up h₃) fun _ _ e => e) fun _ _ e => e
theorem codeC_forUnr {I : Addr} {wr : List Addr} {n : Nat} {St : Nat → Heap → Prop} {m : Str → Option Value} {nx : List (Addr × Obj)} (W : Walks prog w A I fp wr n P St)
    (hLf : env.locals ∉ fp) (hwr : ∀ b ∈ wr, h₀.get? b = none) (hnw : ∀ p ∈ nx, p.1 ∉ wr) (hst : St 0 s.heap) (F : Fr h₀ env.locals s.heap m) (N : News h₀ env.locals s.heap nx)
    (hgo : ∀ i (s' : Shared) v (Q' : Unit → Shared → Prop), St i s'.heap → Q' () s' → wpAny (model prog w) A (letOwnedTupleGo target (.ref I) v) Q' NoE s')
    (h : UnrC prog w A h₀ env target body Q P fp s n 0 m nx) :
    codeC (model prog w) A (.forLoop target (.ref I) body [] env) (fun r s' => match r with | .ok f => Q f s' | .error _ => False) s := by
  have hLw : env.locals ∉ wr := fun h => hLf (W.sub _ h)
  have old : ∀ b o, h₀.get? b = some o → b ∉ wr := fun b o e hb => by rw [hwr b hb] at e; cases e
  have hnw' : ∀ nx' : List (Addr × Obj), nx'.map (·.1) = nx.map (·.1) → ∀ p ∈ nx', p.1 ∉ wr := fun nx' ha p hp => by
    have : p.1 ∈ nx.map (·.1) := ha ▸ List.mem_map.mpr ⟨p, hp, rfl⟩
    obtain ⟨q, hq, e⟩ := List.mem_map.mp this
    exact e ▸ hnw q hq
  refine codeC_forLoop
    (fun k s' => ∃ h' tk m' nx' i, s' = { s with heap := h', toks := tk } ∧ St i h' ∧ Fr h₀ env.locals h' m' ∧ News h₀ env.locals h' nx' ∧ nx'.map (·.1) = nx.map (·.1) ∧
      UnrC prog w A h₀ env target body Q P fp s (n - i) i m' nx' ∧ i ≤ n ∧ k = n + 1 - i) ?_ (n + 1)
    ⟨s.heap, s.toks, m, nx, 0, rfl, hst, F, N, rfl, h, Nat.zero_le _, rfl⟩
  rintro k s' ⟨h', tk, m', nx', i, rfl, hst', F', N', ha', hJ, hi, rfl⟩
  have next : ∀ h₁ : Heap, (∀ b o, b ∉ wr → h'.get? b = some o → h₁.get? b = some o) → Fr h₀ env.locals h₁ m' ∧ News h₀ env.locals h₁ nx' := fun h₁ hk₁ =>
    ⟨⟨F'.ns.at' fun o e => hk₁ _ o hLw e, fun b o e => hk₁ b o (old b o e) (F'.keep b o e), F'.above⟩, fun p hp => ⟨hk₁ _ _ (hnw' nx' ha' p hp) (N' p hp).1, (N' p hp).2⟩⟩
  by_cases hlt : i < n
  · refine W.item i _ _ _ hlt hst' fun v h₁ tk₁ hP hst₁ hk₁ => ?_
    obtain ⟨F₁, N₁⟩ := next h₁ hk₁
    have e : n - i = (n - (i + 1)) + 1 := by omega
    rw [e] at hJ
    refine hgo (i + 1) _ v _ hst₁ ?_
    refine wpAny_mono (hJ v h₁ tk₁ (ownOf h₀ fp h₁) hP ownOf_sub F₁ ((news_ownOf hLf).append N₁)) (fun _ s₂ h₂ => wpC_mono h₂ (fun f s₃ h₃ => ?_) fun _ _ e => e) fun _ _ e => e
    have fin : (∃ h₃' tk₃ m₂ nx₂, s₃ = { { s with heap := h₁, toks := tk₁ } with heap := h₃', toks := tk₃ } ∧ Fr h₀ env.locals h₃' m₂ ∧ News h₀ env.locals h₃' (ownOf h₀ fp h₁ ++ nx₂) ∧ nx₂.map (·.1) = nx'.map (·.1) ∧ UnrC prog w A h₀ env target body Q P fp s (n - (i + 1)) (i + 1) m₂ nx₂) →
        ∃ m, m < n + 1 - i ∧ ∃ h' tk m' nx' i, s₃ = { s with heap := h', toks := tk } ∧ St i h' ∧ Fr h₀ env.locals h' m' ∧ News h₀ env.locals h' nx' ∧ nx'.map (·.1) = nx.map (·.1) ∧
          UnrC prog w A h₀ env target body Q P fp s (n - i) i m' nx' ∧ i ≤ n ∧ m = n + 1 - i := by
      rintro ⟨h₃', tk₃, m₂, nx₂, rfl, F₃, N₃, ha₃, hJ₃⟩
      refine ⟨n + 1 - (i + 1), by omega, h₃', tk₃, m₂, nx₂, i + 1, rfl, ?_, F₃, N₃.right, ha₃.trans ha', hJ₃, hlt, rfl⟩
      refine W.frame _ _ _ hst₁ fun b hb o e => ?_
      cases hn : h₀.get? b with
      | some o₀ =>
        have : o₀ = o := by have := F₁.keep b o₀ hn; rw [e] at this; exact (Option.some.inj this).symm
        exact this ▸ F₃.keep b o₀ hn
      | none => exact (N₃ _ (List.mem_append_left _ (mem_ownOf hb hn e))).1
    cases f with
    | ret v => exact h₃
    | brk => exact h₃
    | cont => exact fin h₃
    | next => exact fin h₃
  · have hin : i = n := by omega
    subst hin
    rw [Nat.sub_self] at hJ
    refine W.done _ _ _ hst' fun h₁ tk₁ hk₁ => ?_
    obtain ⟨F₁, N₁⟩ := next h₁ hk₁
    exact hJ h₁ tk₁ F₁ N₁
theorem stepC_end {L : Addr} {own nx news' nx' : List (Addr × Obj)} {J : (Str → Option Value) → List (Addr × Obj) → Prop} {s₁ : Shared} {h' : Heap} {tk : Nat} {m' : Str → Option Value}
    (F : Fr h₀ L h' m') (N : News h₀ L h' news') (ho : ∀ p ∈ own, p ∈ news') (hn : ∀ p ∈ nx', p ∈ news') (ha : nx'.map (·.1) = nx.map (·.1)) (hJ : J m' nx') :
    StepC h₀ L own nx J s₁ Q .next { s₁ with heap := h', toks := tk } := ⟨h', tk, m', nx', rfl, F, fun p hp => N p ((List.mem_append.mp hp).elim (ho p) (hn p)), ha, hJ⟩
end
/-- the law's own entry: its cells are made, its body on the clean stacks -/
theorem code_lawC {prog : Program} {w : World} {A : Around} {s : Shared} {mg mb : Str → Option Value} {p : Program} {loose : List Str} {mean : ExcName → Option Value}
    {R : Result → Shared → Prop} {qual : Str} {body : List Stmt} {f : Addr} {fd : FuncData} {args : Args} {binds : List (Str × Value)} {o : Obj}
    (T : Top p loose mean mg mb s.heap) (ho : s.heap.get? f = some o) (hd : o.data = .func fd) (hcd : s.heap.CodeRec fd.code fd.qualname) (hroom : A.depth < recursionLimit) (hb : fd.body = .stmts body)
    (hbind : BindsTo s fd args binds) (hkind : (binds.all fun y => fd.scope.names.lookup y.1 == some .local || fd.scope.names.lookup y.1 == some .cell) = true)
    (hnd : ((cellsFrom 0 fd.scope.names []).map (·.1)).Nodup) (hq : fd.qualname = qual) (hg : fd.globals = mainGlobals) (hcl : fd.closure = []) (hbu : fd.builtins = builtinsNs)
    (h : ∀ L' h₁ tk cells, Fr s.heap L' h₁ (bindL (envOfC qual fd.scope L' f fd.code).kindOf binds fun _ => none) → News s.heap L' h₁ cells →
      CellsAre (bindC (envOfC qual fd.scope L' f fd.code).kindOf binds fun _ => none) (cellsFrom (L' + 1) fd.scope.names []) cells →
      wpC (model prog w) (A.deeper (envOfC qual fd.scope L' f fd.code)) (execs body (envOfC qual fd.scope L' f fd.code))
        (fun fl s' => R (.ok (.ret (match fl with | .ret v => v | _ => .none))) s') NoE { s with heap := h₁, toks := tk })
    (hco : fd.scope.isCoroutine = false) (hgen : fd.scope.isGenerator = false) (hk : fd.scope.kind = .function) : codeC (model prog w) A (.call (.ref f) args) R s := by
  refine codeC_call_function hroom ho hd hco hgen hb hcd (hbind _ _ _ _ ?_)
  rw [hq, hg, hcl, hbu]
  refine wpAny_newFunctionEnv_cells hk (kindsX hkind _) fun env' he s' x => ?_
  subst he
  refine ⟨T.nolimit.keeps x.toInCall.keep, codeC_func ?_⟩
  obtain ⟨h₁, tk, rfl, _⟩ := x.done
  obtain ⟨cells, NC, Y⟩ := Cl.news (h₀ := s.heap) (Nat.le_refl _) fun n c hm => ⟨x.cell n c (lookup_of_mem_nodup (cellsFrom_names fd.scope.names 0 (s.heap.objs.size + 1) [] [] rfl ▸ hnd) hm), x.above n c hm⟩
  exact h s.heap.objs.size h₁ tk cells ⟨x.toInCall.ns, x.toInCall.keep, Nat.le_refl _⟩ NC Y
end
section
/-! the law's own parts, named -/
noncomputable def lawParts : List Stmt × Scope := match PySem.Challenge.pw_ko0001_01.main.body.getLast? with
  | some (.FunctionDef _ _ b _ _ _ sc _ _ _) => (b, sc)
  | _ => ([], default)
noncomputable def forStmt : Stmt := match lawParts.1.drop 5 with
  | st :: _ => st
  | [] => .Pass default
noncomputable def forBody : List Stmt := match forStmt with
  | .For _ _ b _ _ => b
  | _ => []
noncomputable abbrev lawEnv (L fa : Addr) (cd : Value) : Env := envOfC (Str.ofString "law") lawParts.2 L fa cd
noncomputable abbrev lawA (L fa : Addr) (cd : Value) : Around := callerA.deeper (lawEnv L fa cd)
noncomputable def bodyFrom (i : Nat) : List Stmt := forBody.drop i
noncomputable abbrev lawM (w : World) : Model := model PySem.Challenge.rw_ko0001_01.row.prog w
theorem News.addNew {h₀ h h' : Heap} {L l : Addr} {m : Str → Option Value} {o : Obj} {news : List (Addr × Obj)} (F : Fr h₀ L h m) (N : News h₀ L h' news) (e0 : h.get? l = none) (e1 : h'.get? l = some o) : News h₀ L h' ((l, o) :: news) := fun p hp => by
  rcases List.mem_cons.mp hp with rfl | hp
  · refine ⟨e1, fun e => ?_, ?_⟩
    · obtain ⟨oL, _, _, hL, _⟩ := F.ns
      dsimp only at e
      rw [e, hL] at e0; cases e0
    · cases hq : h₀.get? l with
      | none => rfl
      | some o' => rw [F.keep _ _ hq] at e0; cases e0
  · exact N p hp
noncomputable def Stop (P : Prop) : Prop := P
theorem Stop.mk {P : Prop} (h : Stop P) : P := h
theorem News.sub {h₀ h : Heap} {L : Addr} {news news' : List (Addr × Obj)} (N : News h₀ L h news) (hs : ∀ p ∈ news', p ∈ news) : News h₀ L h news' := fun p hp => N p (hs p hp)
end
section
/-! encoding: the table, the loop's state -/
noncomputable def B64L : List Int := [65, 66, 67, 68, 69, 70, 71, 72, 73, 74, 75, 76, 77, 78, 79, 80, 81, 82, 83, 84, 85, 86, 87, 88, 89, 90, 97, 98, 99, 100, 101, 102, 103, 104, 105, 106, 107, 108, 109, 110, 111, 112, 113, 114, 115, 116, 117, 118, 119, 120, 121, 122, 48, 49, 50, 51, 52, 53, 54, 55, 56, 57, 43, 47]
@[irreducible] noncomputable def b64c (i : Int) : Int := B64L.getD i.toNat 0
theorem b64c_def (i : Int) : b64c i = B64L.getD i.toNat 0 := by unfold b64c; rfl
theorem and63 (x : Int) : 0 ≤ bAnd x 63 ∧ bAnd x 63 < 64 := by rw [bAnd_def, PyProof.Rows.bitAnd_m6]; omega
section
variable {prog : Program} {w : World} {A : Around} {E : Value → Shared → Prop} {s : Shared} {Q : Value → Shared → Prop}
theorem itemT {b : Array UInt8} {i : Int} {t ui : Tok} {value slice : PySem.Expr} (hk : KBw.bInts b = B64L) (h0 : 0 ≤ i) (h1 : i < 64) (h : ∀ t' k, Q (.int (b64c i) t') { s with toks := k })
    (hs : subscripted slice false (.bytes b t) (.int i ui) = operate [.bytes b t, .int i ui] (getItem (.bytes b t) (.int i ui)) := by with_unfolding_all rfl)
    (ht : ∀ r, letTemporaryGo value (.bytes b t) r = pure () := by intro _; with_unfolding_all rfl) : wpAny (model prog w) A (subscriptTail value slice (.bytes b t) (.int i ui)) Q E s :=
  KBw.item_K hk (by decide) h0 (by exact h1) (fun t' k _ _ => by rw [← b64c_def]; exact h t' k) hs ht
end
noncomputable def bStep (st : Int × Int × List Int) (n : Int) : Int × Int × List Int :=
  let c := bAnd (bOr (bShl st.2.1 8) n) 65535
  if st.1 = 0 then (2, c, st.2.2 ++ [b64c (bAnd (bShr c 2) 63)])
  else if st.1 = 2 then (4, c, st.2.2 ++ [b64c (bAnd (bShr c 4) 63)])
  else (0, c, st.2.2 ++ [b64c (bAnd (bShr c 6) 63)] ++ [b64c (bAnd (bShr c 0) 63)])
noncomputable def bRun (pre : List Int) : Int × Int × List Int := pre.foldl bStep (0, 0, [])
theorem bRun_more (pre : List Int) (n : Int) : bRun (pre ++ [n]) = bStep (bRun pre) n := by unfold bRun; rw [List.foldl_append]; rfl
structure bInv (pre : List Int) (lb lc : Int) (out : List Int) : Prop where
  run : (lb, lc, out) = bRun pre
  bits : lb = 0 ∨ lb = 2 ∨ lb = 4
  mod : lb = (pre.length % 3 : Nat) * 2
  c0 : 0 ≤ lc
  c1 : lc < 65536
  len : out.length ≤ 2 * pre.length
theorem bInv_nil : bInv [] 0 0 [] := ⟨rfl, .inl rfl, rfl, by decide, by decide, by decide⟩
theorem andFF (x : Int) : 0 ≤ bAnd x 65535 ∧ bAnd x 65535 < 65536 := by rw [bAnd_def, PyProof.Rows.bitAnd_m16]; omega
section
variable {pre : List Int} {lc n : Int} {out : List Int}
theorem bInv.way0 (h : bInv pre 0 lc out) : bInv (pre ++ [n]) 2 (bAnd (bOr (bShl lc 8) n) 65535) (out ++ [b64c (bAnd (bShr (bAnd (bOr (bShl lc 8) n) 65535) 2) 63)]) :=
  ⟨by rw [bRun_more, ← h.run]; rfl, .inr (.inl rfl), by have := h.mod; simp; omega, (andFF _).1, (andFF _).2, by have := h.len; simp; omega⟩
theorem bInv.way2 (h : bInv pre 2 lc out) : bInv (pre ++ [n]) 4 (bAnd (bOr (bShl lc 8) n) 65535) (out ++ [b64c (bAnd (bShr (bAnd (bOr (bShl lc 8) n) 65535) 4) 63)]) :=
  ⟨by rw [bRun_more, ← h.run]; rfl, .inr (.inr rfl), by have := h.mod; simp; omega, (andFF _).1, (andFF _).2, by have := h.len; simp; omega⟩
theorem bInv.way4 (h : bInv pre 4 lc out) : bInv (pre ++ [n]) 0 (bAnd (bOr (bShl lc 8) n) 65535) (out ++ [b64c (bAnd (bShr (bAnd (bOr (bShl lc 8) n) 65535) 6) 63)] ++ [b64c (bAnd (bShr (bAnd (bOr (bShl lc 8) n) 65535) 0) 63)]) :=
  ⟨by rw [bRun_more, ← h.run]; rfl, .inl rfl, by have := h.mod; simp; omega, (andFF _).1, (andFF _).2, by have := h.len; simp; omega⟩
end
structure BSt where
  lb : Int
  lc : Int
  tb : Tok
  tc : Tok
  vs : List Value
  ns : List Int
  k : Nat
noncomputable def bSt (m₀ : Str → Option Value) (c : BSt) (y : Str) : Option Value :=
  if y = Str.ofString "leftbits" then some (.int c.lb c.tb) else if y = Str.ofString "leftchar" then some (.int c.lc c.tc) else m₀ y
noncomputable def bLed (l : Addr) (c : BSt) : List (Addr × Obj) := [(l, listOf c.vs.toArray c.k)]
noncomputable def bI (pre : List Int) (c : BSt) : Prop := bInv pre c.lb c.lc c.ns ∧ IntsAre c.vs c.ns
theorem b2a_loop {prog : Program} {w : World} {A : Around} {E : Value → Shared → Prop} {s : Shared} {env : Env} {h₀ : Heap} {x : Str} {body : List Stmt} {Q : Flow → Shared → Prop}
    {b : Array UInt8} {tb : Tok} {m₀ : Str → Option Value} {l : Addr} {t1 t2 : Tok} (hz : b.size ≤ 1000000) (h3 : b.size % 3 = 0) (hh : A.handled = none) (F : Fr h₀ env.locals s.heap m₀) (N : News h₀ env.locals s.heap [(l, listOf #[] 0)])
    (h1 : m₀ (Str.ofString "leftbits") = some (.int 0 t1)) (h2 : m₀ (Str.ofString "leftchar") = some (.int 0 t2))
    (turn : ∀ pre n t (lb lc : Int) (tb tc : Tok) (vs : List Value) (ns : List Int) (k : Nat) h tk own, 0 ≤ n → n < 256 → (lb = 0 ∨ lb = 2 ∨ lb = 4) → 0 ≤ lc → lc < 65536 → vs.length ≤ 16777210 → bInv pre lb lc ns → IntsAre vs ns → OwnOff own [l] → Fr h₀ env.locals h (fun y => if y = x then some (.int n t) else bSt m₀ ⟨lb, lc, tb, tc, vs, ns, k⟩ y) → News h₀ env.locals h ((l, listOf vs.toArray k) :: own) →
      wpAny (model prog w) A (execs body env) (InvPostN h₀ env.locals (Lj x (bSt m₀) (bLed l) (bI (pre ++ [n]))) own [l] { s with heap := h, toks := tk } Q) E { s with heap := h, toks := tk })
    (done : ∀ u (lc : Int) (tb tc : Tok) (vs : List Value) (ns : List Int) (k : Nat) h tk, vs.length ≤ 16777210 → bInv (KBw.bInts b) 0 lc ns → IntsAre vs ns → Fr h₀ env.locals h (fun y => if y = x then u else bSt m₀ ⟨0, lc, tb, tc, vs, ns, k⟩ y) → News h₀ env.locals h [(l, listOf vs.toArray k)] → Q .next { s with heap := h, toks := tk }) :
    wpAny (model prog w) A (pyIter (.bytes b tb)) (fun it s₂ => LoopAtV prog w A h₀ env x body Q E it s₂) E s := by
  refine loopB (bSt m₀) (bLed l) bI ⟨0, 0, t1, t2, [], [], 0⟩ hh F N (fun y _ => ?_) ⟨bInv_nil, .nil⟩ ?_ ?_
  · show m₀ y = bSt m₀ _ y
    unfold bSt
    dsimp only
    split
    · rename_i e; rw [e]; exact h1
    · split
      · rename_i e; rw [e]; exact h2
      · rfl
  · rintro pre n post t ⟨lb, lc, tb, tc, vs, ns, k⟩ h tk own e lo hi hI _ hoff F₁ N₁
    have hl := hI.2.length
    have hle : pre.length ≤ b.size := by
      have := congrArg List.length e
      rw [KBw.ints_length, List.length_append, List.length_cons] at this
      omega
    exact turn pre n t lb lc tb tc vs ns k h tk own lo hi hI.1.bits hI.1.c0 hI.1.c1 (by have := hI.1.len; dsimp only at *; omega) hI.1 hI.2 hoff F₁ N₁
  · rintro ⟨lb, lc, tb, tc, vs, ns, k⟩ u h tk hI F₁ N₁
    have hl := hI.2.length
    have hlb : lb = 0 := by
      have := hI.1.mod
      rw [KBw.ints_length, h3] at this
      simpa using this
    subst hlb
    refine done u lc tb tc vs ns k h tk ?_ hI.1 hI.2 F₁ N₁
    have := hI.1.len
    rw [KBw.ints_length] at this
    dsimp only at *; omega
theorem b64c_in (i : Int) : 0 ≤ b64c i ∧ b64c i < 256 := by
  rw [b64c_def, List.getD_eq_getElem?_getD]
  cases h : B64L[i.toNat]? with
  | none => exact ⟨by decide, by decide⟩
  | some v =>
    have hm := List.mem_of_getElem? h
    have : ∀ v ∈ B64L, 0 ≤ v ∧ v < 256 := by decide
    exact this v hm
theorem bRun_in (pre : List Int) : ∀ (st : Int × Int × List Int), (∀ n ∈ st.2.2, 0 ≤ n ∧ n < 256) → ∀ n ∈ (pre.foldl bStep st).2.2, 0 ≤ n ∧ n < 256 := by
  induction pre with
  | nil => intro st h; exact h
  | cons a r ih =>
    intro st h
    rw [List.foldl_cons]
    refine ih _ ?_
    unfold bStep
    dsimp only
    split
    · intro n hn
      rcases List.mem_append.mp hn with hn | hn
      · exact h n hn
      · rw [List.mem_singleton.mp hn]; exact b64c_in _
    · split
      · intro n hn
        rcases List.mem_append.mp hn with hn | hn
        · exact h n hn
        · rw [List.mem_singleton.mp hn]; exact b64c_in _
      · intro n hn
        rcases List.mem_append.mp hn with hn | hn
        · rcases List.mem_append.mp hn with hn | hn
          · exact h n hn
          · rw [List.mem_singleton.mp hn]; exact b64c_in _
        · rw [List.mem_singleton.mp hn]; exact b64c_in _
theorem bInv.inB {pre : List Int} {lb lc : Int} {out : List Int} (h : bInv pre lb lc out) : ∀ n ∈ out, 0 ≤ n ∧ n < 256 := by
  have := bRun_in pre (0, 0, []) (fun _ h => nomatch h)
  have e : bRun pre = (lb, lc, out) := h.run.symm
  unfold bRun at e
  rw [e] at this
  exact this
theorem bInv.out {pre : List Int} {lb lc : Int} {out : List Int} (h : bInv pre lb lc out) : out = (bRun pre).2.2 := by rw [← h.run]
theorem b_end {h₀ h' : Heap} {L l : Addr} {x : Str} {m₀ m' : Str → Option Value} {own news' : List (Addr × Obj)} {pre ns : List Int} {n lb lc : Int} {tb tc : Tok} {vs : List Value} {k tk : Nat} {s₁ : Shared}
    (F : Fr h₀ L h' m') (N : News h₀ L h' news') (n0 : (l, listOf vs.toArray k) ∈ news') (ho : ∀ p ∈ own, p ∈ news')
    (hq : m' (Str.ofString "leftbits") = some (.int lb tb)) (hl : m' (Str.ofString "leftchar") = some (.int lc tc)) (hm : ∀ y, y ≠ x → y ≠ Str.ofString "leftbits" → y ≠ Str.ofString "leftchar" → m' y = m₀ y)
    (hA : IntsAre vs ns) (hI : bInv (pre ++ [n]) lb lc ns) :
    InvEndN h₀ L (Lj x (bSt m₀) (bLed l) (bI (pre ++ [n]))) own [l] s₁ { s₁ with heap := h', toks := tk } := by
  refine turn_end ⟨lb, lc, tb, tc, vs, ns, k⟩ F N (fun y hy => ?_) (fun p hp => ?_) ho rfl ⟨hI, hA⟩
  · unfold bSt
    by_cases n1 : y = Str.ofString "leftbits"
    · rw [if_pos n1, n1]; exact hq
    rw [if_neg n1]
    by_cases n2 : y = Str.ofString "leftchar"
    · rw [if_pos n2, n2]; exact hl
    rw [if_neg n2]
    exact hm y hy n1 n2
  · rw [List.mem_singleton.mp hp]; exact n0
end
section
theorem fill_C10_35 : True := by
  w_top off
  k_with_none
  k_with "M enter" => (refine' code_defM (by (k_asm)) (by (k_asm)) (by (k_asm)) (by (k_asm)) (by (exact rfl)) (by (exact rfl)) (by (assumption)) (by (k_is)) (by (k_is)) (by (ktr_room)) (by (first | exact BindsTo.of_eq rfl | exact binds_K (by k_in) rfl (by k_is) rfl rfl rfl)) (by (exact locs rfl)) ?_ (by (exact rfl)) (by (exact rfl)) (by (exact rfl)) (by (decide)); k_whole; intro L' h' F' N' B' X' T'; (try dsimp only); (try k_fold))
  k_with "M enter2" => ((case kA => exact rfl); (case kF => exact rfl); (case kK => assumption); (case k1 => k_asm); (case k2 => k_asm); (case k3 => k_asm); (case k5 => k_asm); (case k6 => k_is); (case k7 => k_is); (case k8 => ktr_room); (case k9 => first | exact BindsTo.of_eq rfl | exact binds_K (by k_in) rfl (by k_is) rfl rfl rfl); (case c5 => decide); (case kB => exact locs rfl); (case c2 => exact rfl); (case c3 => exact rfl); (case c4 => exact rfl); k_whole; intro L' h' F' N' B' X' T'; (try dsimp only); (try k_fold))
  k_with "call type:type" => (k_here; (with_reducible show wpAny _ _ (call (Value.type "type") [Value.bytes _ _]) _ _ _); refine call_type_of (PySem.W.typeIs_bytes _ _ _) (by decide +kernel) ?_)
  k_with "M ba" => (first | exact Fr.keep (by assumption) _ _ (by assumption) | assumption)
  k_with "call type:type" => (k_here; (with_reducible show wpAny _ _ (call (Value.type "type") [Value.ref _]) _ _ _); k_dflt (refine' kto_cont (T := "bytearray") (by ((refine' kitAt_ba (by (walk_at "M ba"))))) (by (decide +kernel)) ?_; k_whole))
  k_with "call builtin:isinstance" => (k_here; (with_reducible show wpAny _ _ (call _ [Value.ref _, Value.ref _]) _ _ _); kit_ncls; k_dflt (refine' kia_tup kitx_ba (by (k_in)) (by ((refine' kitAt_ba (by (walk_at "M ba"))))) (by (kit_tp)) (by (kit_is)) (by (kit_nb)) ?_; k_whole; intro _))
  k_with "call builtin:isinstance" => (k_here; (with_reducible show wpAny _ _ (call _ [Value.ref _, Value.type _]) _ _ _); k_dflt (refine' kia_one kitx_ba (by (k_in)) (by ((refine' kitAt_ba (by (walk_at "M ba"))))) (by (kit_is)) (by (kit_nb)) ?_; k_whole; intro _))
  k_with "call type:bytes" => (k_here; (with_reducible show wpAny _ _ (call (Value.type "bytes") [Value.ref _]) _ _ _); k_dflt (refine' ba_bytes (k := 0) (by (walk_at "M ba")) (by (assumption)) ?_; k_whole; intro _ _))
  k_with "getMethod str" => (k_here; with_reducible refine en_method ?_)
  k_with "call builtin:str.encode" => (k_here; (with_reducible show wpAny _ _ (call (Value.builtin "str.encode") [Value.str _ _, Value.str _ _]) _ _ _); refine' en_call (by (assumption)) (by (assumption)) ?_; intro _ _)
  k_with "getMethod bytes" => (k_here; with_reducible refine tr_method ?_)
  k_with "call builtin:bytes.translate" => (k_here; (with_reducible show wpAny _ _ (call (Value.builtin "bytes.translate") [Value.bytes _ _, Value.bytes _ _]) _ _ _); refine' trM (by (first | rfl | decide +kernel)) (by (decide +kernel)) (by (assumption)) ?_; intro _ _)
  k_with "binaryOp LShift int int" => (k_here; (with_reducible refine shlM (by (decide)) (by (decide)) (by (omega)) ?_))
  k_with "binaryOp RShift int int" => (k_here; (with_reducible refine shrM (by (first | decide | omega)) ?_))
  k_with "call builtin:list.append" => (k_here; (with_reducible show wpAny _ _ (call (Value.builtin _) [Value.ref _, Value.int _ _]) _ _ _); k_dflt (refine' append_K (by (k_asm)) (by (k_asm)) (by (k_upd)) ?_ (by ((simp only [List.size_toArray, List.length_append, List.length_cons, List.length_nil, sizeLine_eq]; omega))); k_whole); intro h' F' N'; (try simp only [List.push_toArray] at N'); (try k_sweep))
  k_with "call builtin:len" => (k_here; (with_reducible show wpAny _ _ (call (Value.builtin "len") [Value.ref _]) _ _ _); k_dflt (refine' lenM (News.isList (by (k_asm)) (by (k_mem))) (by (with_reducible assumption)) (by (omega)) ?_; k_whole))
  k_with "call type:bytes" => (k_here; (with_reducible show wpAny _ _ (call (Value.type "bytes") [Value.ref _]) _ _ _); k_dflt (refine' bytesM (by (k_asm)) (by (k_asm)) (News.isList (by (k_asm)) (by (k_mem))) (by (with_reducible assumption)) (by (with_reducible assumption)) (by (omega)) rfl ?_; k_whole); intro h' t' k' F' N'; (try k_sweep))
  k_with "binaryOp BitAnd int int" => (k_here; (with_reducible refine andM ?_))
  k_with "binaryOp BitOr int int" => (k_here; (with_reducible refine orM' ?_))
  k_with "M enterC" => ((case kA => exact rfl); (case kF => exact rfl); (case kK => assumption); (case k1 => k_asm); (case k2 => k_asm); (case k3 => k_asm); (case k5 => k_asm); (case k6 => k_is); (case k7 => k_is); (case k8 => ktr_room); (case k9 => first | exact BindsTo.of_eq rfl | exact binds_K (by k_in) rfl (by k_is) rfl rfl rfl); (case kB => exact rfl); (case kD => decide +kernel); (case c2 => exact rfl); (case c3 => exact rfl); (case c4 => exact rfl); k_whole; intro L' h' tk' cells' F' N' Y' B' X' T'; k_cells Y'; (try simp only [List.cons_append, List.nil_append] at N'); (try dsimp only); (try k_fold))
  k_with "call builtin:len" => (k_here; (with_reducible show wpAny _ _ (call (Value.builtin "len") [Value.ref _]) _ _ _); k_dflt (refine' lenM (stays_list (stays_of (by (k_asm))) (by (with_reducible assumption))) (by (with_reducible assumption)) (by (omega)) ?_; k_whole))
  k_with "eval Name" => (k_here; k_dflt (refine' nameX_L (by (k_asm)) (@rfl _ (some _)) ?_ (by (rfl)) (by (rfl)); k_whole))
  k_with "M back" => (intro r9 h9 tk9 F9 N9 S9 P9; (try dsimp only at P9); (first | (obtain ⟨t9, e9⟩ := P9; subst e9) | subst P9); clear S9; (try dsimp only); (try k_sweep))
  k_with "M call" => ((case k1 => k_asm); (case k2 => k_asm); (case k3 => k_asm); (case k4 => k_asm); (case k5 => k_asm); (case kK => first | exact rfl | assumption); (case kd => ktr_room); (case ku => ktr_units))
  k_with "call ref" => (k_here; (with_reducible show wpAny _ _ (call (Value.ref 70) [Value.int _ _]) _ _ _); k_dflt (refine' Ct.use (b64_value_ok _ _ _ _ _ _) (by (k_asm)) (by (k_asm)) (by (k_asm)) (by (k_asm)) (by (k_asm)) (by (first | exact rfl | assumption)) (by (ktr_room)) (by (ktr_units)) trivial ?_; walk_at "M back"))
  k_with "call ref" => (k_here; (with_reducible show wpAny _ _ (call (Value.ref 63) [Value.bool _]) _ _ _); k_dflt (refine' Ct.use (truth_ok _ _ _ _) (by (k_asm)) (by (k_asm)) (by (k_asm)) (by (k_asm)) (by (k_asm)) (by (first | exact rfl | assumption)) (by (ktr_room)) (by (ktr_units)) trivial ?_; walk_at "M back"))
  k_with "call ref" => (k_here; (with_reducible show wpAny _ _ (call (Value.ref 56) [Value.bytes _ _]) _ _ _); k_dflt (refine' Ct.use (buffer_ok _ _ _ _ _ _) (by (k_asm)) (by (k_asm)) (by (k_asm)) (by (k_asm)) (by (k_asm)) (by (first | exact rfl | assumption)) (by (ktr_room)) (by (ktr_units)) trivial ?_; walk_at "M back"))
  k_with "call ref" => (k_here; (with_reducible show wpAny _ _ (call (Value.ref 49) [Value.bytes _ _]) _ _ _); k_dflt (refine' Ct.use (ascii_buffer_ok _ _ _ _ _ _) (by (k_asm)) (by (k_asm)) (by (k_asm)) (by (k_asm)) (by (k_asm)) (by (first | exact rfl | assumption)) (by (ktr_room)) (by (ktr_units)) trivial ?_; walk_at "M back"))
  k_with "call ref" => (k_here; (with_reducible show wpAny _ _ (call (Value.ref 49) [Value.ref _]) _ _ _); k_dflt (refine' Ct.use (ascii_buffer_ba _ _ _ _ _ _ (by (assumption))) (by (k_asm)) (by (k_asm)) (by (k_asm)) (by (k_asm)) (by (k_asm)) (by (first | exact rfl | assumption)) (by (ktr_room)) (by (ktr_units)) (by (walk_at "M ba")) ?_; walk_at "M back"))
  k_with "call ref" => (k_here; (with_reducible show wpAny _ _ (call (Value.ref 29) [Value.bytes _ _]) _ _ _); k_dflt (refine' Ct.use (from_bytes_ok _ _ _ _ _ _) (by (k_asm)) (by (k_asm)) (by (k_asm)) (by (k_asm)) (by (k_asm)) (by (first | exact rfl | assumption)) (by (ktr_room)) (by (ktr_units)) trivial ?_; walk_at "M back"))
  k_with "call ref" => (k_here; (with_reducible show wpAny _ _ (call (Value.ref 29) [Value.ref _]) _ _ _); k_dflt (refine' Ct.use (from_ba _ _ _ _ _ _) (by (k_asm)) (by (k_asm)) (by (k_asm)) (by (k_asm)) (by (k_asm)) (by (first | exact rfl | assumption)) (by (ktr_room)) (by (ktr_units)) (by (walk_at "M ba")) ?_; walk_at "M back"))
  k_with "call ref" => (k_here; (with_reducible show wpAny _ _ (call (Value.ref 29) [Value.str _ _]) _ _ _); k_dflt (refine' Ct.use (from_str _ _ _ _ _ _ (by (assumption)) (by (assumption))) (by (k_asm)) (by (k_asm)) (by (k_asm)) (by (k_asm)) (by (k_asm)) (by (first | exact rfl | assumption)) (by (ktr_room)) (by (ktr_units)) trivial ?_; walk_at "M back"))
  k_with "eval ListComp" => (k_here; k_dflt (refine ListComp_G (F₀ := by k_asm) (by with_unfolding_all rfl) (by decide) (by rfl) (by decide) (by rfl) ?_))
  k_with "pyIter ref" => (k_here; (with_reducible show wpAny _ _ (pyIter _) (CompIt _ _ _ _ _ _ _ _ _ _ _ _) _ _); k_dflt (refine' iter_tuple rfl (by (k_asm)) (by (k_asm)) (SrcT.made (by (k_mem))) (by (exact Nat.le_of_ble_eq_true rfl)) ?_; k_whole); intro g'; lcg_lit)
  k_with "CompEnd" => (refine' CompEnd.same (by (k_asm)) (by (k_asm)) (by ((simp only [LCg.Off3, and_true]; with_reducible assumption))) (by (first | exact True.intro | exact SrcT.made (by k_mem) | exact Or.inl (by assumption) | exact Or.inr ⟨_, by k_mem, rfl, _, rfl⟩)) ?_)
  k_with "call builtin:list.extend" => (k_here; (with_reducible show wpAny _ _ (call (Value.builtin _) [Value.ref _, Value.ref _]) _ _ _); k_dflt (refine' extM (by (k_asm)) (by (k_asm)) (by (k_mem)) (by (first | omega | (simp only [List.length_cons, List.length_nil, List.length_append]; omega))) (by (k_upd)) (by (first | omega | (simp only [List.length_cons, List.length_nil, List.length_append]; omega))) ?_; k_whole); intro h' F' N'; (try k_sweep))
  k_with "exec For Name Call" => (k_here; k_dflt (refine' For_unrF (by k_asm) ?_ (by intro _; with_unfolding_all rfl) (by passes_own)))
  k_with "subscriptTail" => (k_here; (with_reducible show wpAny _ _ (subscriptTail _ _ (Value.ref _) (Value.int _ _)) _ _ _); (refine' itemM (stays_list (stays_of (by (k_asm))) (by (with_reducible assumption))) (by (with_reducible assumption)) (by (with_reducible assumption)) (by (omega)) (by (omega)) (by (omega)) ?_); intro _ _ _)
  trivial
theorem figs_ok (w : World) (mean : ExcName → Option Value) (mg mb : Str → Option Value) (x : Addr) (vs : List Value) (ns : List Int) (hA : IntsAre vs ns) (hR : ∀ n ∈ ns, 0 ≤ n ∧ n < 256) (hlen : ns.length ≤ 1000) (h3 : ns.length % 3 = 0) :
    Ct w mean mg mb 128 [.ref x] [] 10 100 (fun h => h.IsList x vs.toArray) (fun h h' r => ∃ l ws k, r = .ref l ∧ h.get? l = none ∧ h'.get? l = some (listOf ws.toArray k) ∧ IntsAre ws (figT ns (ns.length / 3))) := by
  have hvl : vs.length ≤ 1000 := by rw [hA.length]; exact hlen
  unfold Ct
  intro dp un gd cn cs a ccd cl outer A₀ base h₀ L m s Q E B F X T hk hdp hun hpre hret
  refine wpAny_call ?_
  dsimp only [TopM] at T
  dsimp only at hret hpre
  k_dflt (refine' code_defMC (binds := [(Str.ofString "octets", .ref x)]) ?k1 ?k2 ?k3 ?k5 ?kA ?kF ?kK ?k6 ?k7 ?k8 ?k9 ?kB ?kD ?_ ?c2 ?c3 ?c4; walk_at "M enterC")
  k_with "pyIter ref" => (
    (with_reducible rename IsRange _ _ _ _ _ _ _ _ => nR);
    (with_reducible rename Fr _ _ _ _ => nF); (with_reducible rename News _ _ _ _ => nN);
    (refine' fig_loop hlen h3 rfl nR nF nN (by assumption) ?turn ?done);
    (case' turn => (intro i t vs fs k o v h tk own hn0 hlv hfs hI hD hOff hF hN; clear nF nN nR; (try k_fold)));
    (case' done => (intro u vs fs k o h tk hfs hI hF hN; clear nF nN nR; (try k_fold))))
  k_steps
  all_goals (try dsimp only)
  all_goals (first
    | (refine' hret _ _ _ (stays_of (by assumption)) ?_; exact ⟨_, _, _, rfl, (News.fresh (by assumption) (List.Mem.head _)), News.get (by assumption) (List.Mem.head _), by subst hfs; assumption⟩)
    | skip)
  refine' turn_end ⟨_, figT ns (i + 1), _, _⟩ (by assumption) (by assumption) ?hm ?hn ?ho ?ha ?hi
  (case hm => intro y hy; (repeat (refine (if_neg (by with_reducible assumption)).trans ?_)); (repeat (refine Eq.trans ?_ (if_neg (by with_reducible assumption)).symm)); rfl)
  (case ha => rfl)
  (case hn => intro p hp; (rcases List.mem_cons.mp hp with rfl | hp); k_mem; rw [List.mem_singleton.mp hp]; k_mem)
  (case ho => intro p hp; (repeat (first | exact hp | refine List.mem_cons_of_mem _ ?_)))
  (case hi => exact ⟨rfl, fig_turn rfl rfl rfl hfs ▸ IntsAre.append hI (.cons _ _ (.cons _ _ (.cons _ _ (.cons _ _ .nil)))), _, by assumption⟩)
end
section
theorem figs_use {w : World} {mean : ExcName → Option Value} {mg mb : Str → Option Value} {x : Addr} {vs : List Value} {ns : List Int}
    {dp un : Nat} {gd : Option (List Code)} {cn : Str} {cs : Scope} {a : Addr} {ccd : Value} {cl : List (Str × Addr)} {outer : List Env} {A₀ : Around} {base h₀ : Heap} {L : Addr} {m : Str → Option Value} {news : List (Addr × Obj)} {s : Shared} {Q E : Value → Shared → Prop}
    (hA : IntsAre vs ns) (hR : ∀ n ∈ ns, 0 ≤ n ∧ n < 256) (hlen : ns.length ≤ 1000) (h3 : ns.length % 3 = 0)
    (B : Below A₀ base outer h₀) (F : Fr h₀ L s.heap m) (X : (hd.heap_39 w.params).In h₀) (N : News h₀ L s.heap news) (T : TopM mean mg mb h₀) (hk : cs.kind = .function) (hd : dp + 10 < recursionLimit) (hu : un + 100 < cLine) (hp : s.heap.IsList x vs.toArray)
    (ret : ∀ l ws k h' tk', Fr h₀ L h' m → News h₀ L h' ((l, listOf ws.toArray k) :: news) → IntsAre ws (figT ns (ns.length / 3)) → Q (.ref l) { s with heap := h', toks := tk' }) :
    wpAny (model PySem.Challenge.rw_ko0001_01.row.prog w) (ktrTop dp un gd cn cs L a ccd cl outer) (call (.ref 128) [.ref x]) Q E s := by
  refine Ct.use (figs_ok w mean mg mb x vs ns hA hR hlen h3) B F X N T hk hd hu hp ?_
  rintro r h' tk' F' N' st ⟨l, ws, k, rfl, e0, e1, hI⟩
  exact ret l ws k h' tk' F' (News.addNew F N' e0 e1) hI
end
section
/-! the writings: plain facts -/
open LCg
noncomputable abbrev sgL (ms : List Int) : List Int := rangeKs 65 26 ++ rangeKs 97 26 ++ rangeKs 48 10 ++ ms
noncomputable def sg (ms : List Int) (f : Int) : Int := (sgL ms).getD f.toNat 0
noncomputable def SgAt (ms fs : List Int) (news₀ : List (Addr × Obj)) (i : Nat) (ys : List Value) (news : List (Addr × Obj)) : Prop := news = news₀ ∧ IntsAre ys ((fs.take i).map (sg ms))
theorem sgAt_nil (ms fs : List Int) (news₀ : List (Addr × Obj)) : SgAt ms fs news₀ 0 [] news₀ := ⟨rfl, .nil⟩
theorem sgAt_more {ms fs : List Int} {news₀ news : List (Addr × Obj)} {i : Nat} {ys : List Value} {f : Int} {t : Tok} (h : SgAt ms fs news₀ i ys news) (hf : fs[i]? = some f) : SgAt ms fs news₀ (i + 1) (ys ++ [.int ((sgL ms).getD f.toNat 0) t]) news := by
  refine ⟨h.1, ?_⟩
  rw [List.take_add_one, hf, List.map_append]
  exact IntsAre.append h.2 (.cons _ _ .nil)
theorem item_int {vs : List Value} {ns : List Int} {i : Nat} {v : Value} (hI : IntsAre vs ns) (hv : vs.toArray[i]? = some v) : ∃ n t, ns[i]? = some n ∧ v = .int n t := by
  rw [List.getElem?_toArray] at hv
  have hlt : i < vs.length := (List.getElem?_eq_some_iff.mp hv).1
  have hn : ns[i]? = some (ns[i]'(by rw [← hI.length]; exact hlt)) := List.getElem?_eq_getElem _
  obtain ⟨t, ht⟩ := hI.get _ _ hn
  rw [hv] at ht
  exact ⟨_, t, hn, Option.some.inj ht⟩
theorem sgAt_done {ms fs : List Int} {news₀ news : List (Addr × Obj)} {fvs ys : List Value} (hI : IntsAre fvs fs) (h : SgAt ms fs news₀ fvs.toArray.size ys news) : IntsAre ys (fs.map (sg ms)) := by
  have := h.2
  rwa [List.size_toArray, hI.length, List.take_length] at this
theorem sgL_length (ms : List Int) : (sgL ms).length = 62 + ms.length := by simp [sgL, rangeKs_length]; omega
theorem sg_in {ms fs : List Int} (hm : ∀ n ∈ ms, 0 ≤ n ∧ n < 256) : ∀ n ∈ fs.map (sg ms), 0 ≤ n ∧ n < 256 := fun n hn => by
  obtain ⟨f, _, rfl⟩ := List.mem_map.mp hn
  unfold sg
  rw [List.getD_eq_getElem?_getD]
  cases e : (sgL ms)[f.toNat]? with
  | none => exact ⟨by decide, by decide⟩
  | some v =>
    have hv := List.mem_of_getElem? e
    simp only [sgL, List.mem_append] at hv
    show 0 ≤ v ∧ v < 256
    rcases hv with ((hv | hv) | hv) | hv
    · have := mem_rangeKs hv; omega
    · have := mem_rangeKs hv; omega
    · have := mem_rangeKs hv; omega
    · exact hm v hv
section
variable {prog : Program} {w : World} {A : Around} {E : Value → Shared → Prop} {s : Shared} {Q : Value → Shared → Prop}
theorem itemS {l : Addr} {vs : List Value} {ns : List Int} {k : Int} {u : Tok} {value slice : PySem.Expr} (hl : s.heap.IsList l vs.toArray) (hi : IntsAre vs ns) (h0 : 0 ≤ k) (h1 : k < (ns.length : Int)) (h2 : ns.length ≤ 16777216)
    (h : ∀ t, Q (.int (ns.getD k.toNat 0) t) s)
    (hs : subscripted slice false (.ref l) (.int k u) = operate [.ref l, .int k u] (getItem (.ref l) (.int k u)) := by with_unfolding_all rfl) (hg : ∀ r, letTemporaryGo value (.ref l) r = pure () := by intro _; with_unfolding_all rfl) :
    wpAny (model prog w) A (subscriptTail value slice (.ref l) (.int k u)) Q E s := by
  have hk : k.toNat < ns.length := by omega
  have hg1 : ns[k.toNat]? = some ns[k.toNat] := List.getElem?_eq_getElem hk
  obtain ⟨t, ht⟩ := hi.get _ _ hg1
  have e : ns.getD k.toNat 0 = ns[k.toNat] := by rw [List.getD_eq_getElem?_getD, hg1]; rfl
  refine PyProof.Rows.item_list hl h0 (by omega) (x := .int ns[k.toNat] t) (by simpa using ht) ?_ hs hg
  rw [← e]
  exact h t
end
end
section
theorem ba_mro : mroOf (.type "bytearray") = pure [.type "bytearray", .type "object"] := by rw [mroOf_type]; kernel_rfl
theorem ba_lookup_new : typeLookup (.type "bytearray") "__new__" = pure (some (.builtin "bytearray.__new__")) := by rw [typeLookup_type, builtinLookup_eq_fast]; kernel_rfl
theorem ba_slot_init : Slot "bytearray" "__init__" "bytearray.__init__" :=
  .of (owner := "bytearray") (n := "__init__") (by rw [typeLookup_type, builtinLookup_eq_fast]; kernel_rfl) (by decide +kernel) (by decide +kernel) (by decide +kernel)
    (by first | exact .inl (by decide +kernel) | exact .inr (by decide +kernel)) (by rw [isSubtype_type]; kernel_rfl)
theorem ba_called : TypeCalled "bytearray" "bytearray.__new__" "bytearray.__init__" :=
  ⟨by decide +kernel, by decide +kernel, ⟨_, _, ba_mro⟩, madeBy_type ba_mro ba_lookup_new (by decide +kernel), by decide +kernel, by rw [isSubtype_type]; kernel_rfl, ba_slot_init⟩
theorem ba_typeCall (a : Value) : checkTypeCall "bytearray" ⟨[a], []⟩ = pure () := by kernel_rfl
theorem ba_newCall (a : Value) : checkBuiltinCall "bytearray.__new__" ⟨[.type "bytearray", a], []⟩ = pure () := by kernel_rfl
theorem ba_entry_new : entryFor table "bytearray.__new__" = some Builtin.«list.__new__» :=
  entryFor_alias (id' := "list.__new__") (by kernel_rfl) (by first | rfl | decide +kernel) (by decide +kernel) (by kernel_rfl)
theorem ba_plain_new : plainId "bytearray.__new__" = true := by decide +kernel
theorem ba_entry_init : entryFor table "bytearray.__init__" = some Builtin.«bytearray.__init__» := entryFor_of_tree (by kernel_rfl)
theorem ba_plain_init : plainId "bytearray.__init__" = true := by decide +kernel
theorem ba_args_init (a b : Value) : argsOk "bytearray.__init__" ⟨[a, b], []⟩ := by unfold argsOk; kernel_rfl
theorem ba_bind (v : Value) : Builtin.Bytes.bindOptional "bytearray.__init__" "bytearray" ["source", "encoding", "errors"] [v] [] = pure [some v, none, none] := by kernel_rfl
theorem bytes_no_index : typeLookup (.type "bytes") "__index__" = pure none := by rw [typeLookup_type, builtinLookup_eq_fast]; kernel_rfl
set_option maxRecDepth 1000000 in
set_option maxHeartbeats 4000000 in
theorem ba_owner_new : ("bytearray.__new__".splitOn ".__new__").headD "" = "bytearray" := by simp +decide [String.splitOn, String.splitOnAux]

section
variable {prog : Program} {w : World} {A : Around} {E : Value → Shared → Prop} {s : Shared}

theorem ba_code_new (a : Value) {Q₁ : Value → Shared → Prop}
    (h : Q₁ (.ref s.heap.objs.size) { s with heap := s.heap.push { cls := .type "bytearray", data := .bytearray #[] } }) :
    codeAny (model prog w) A (.call (.builtin "bytearray.__new__") ⟨[.type "bytearray", a], []⟩) (wants Q₁ E) s := by
  refine codeAny_of_tree ?_
  show wpAny _ A.in1 (do checkBuiltinCall "bytearray.__new__" ⟨[.type "bytearray", a], []⟩; again (.builtin "bytearray.__new__" ⟨[.type "bytearray", a], []⟩)) _ _ s
  refine wpAny_bind (wpAny_of_eq (ba_newCall a) (wpAny_pure ⟨plainId_quiet ba_plain_new _, codeAny_builtin_stack ba_entry_new rfl fun p st => ?_⟩))
  rw [Around.under_plainId ba_plain_new _]
  have hsub := ba_self
  have hown := ba_owner_new
  obtain ⟨hp, g, d, tk, os⟩ := s
  simp only [hown]
  wp_walk
  exact h

theorem codeC_builtin {id : String} {args : Args} {b : Builtin} {R : Result → Shared → Prop} (hk : okCode (.builtin id args) = true) (hb : entryFor table id = some b)
    (h : wpC (model prog w) (A.under (.builtin id args)) (b args)
      (fun fin s' => match fin with | .done f => R (.ok f) s' | .again c' => c'.quiet = true ∧ codeC (model prog w) A c' R s') (fun e s' => R (.error e) s') s) :
    codeC (model prog w) A (.builtin id args) R s := by
  refine codeC_of_tree hk ?_
  show wpC _ _ (match entryFor table id with | some b => b args | none => unsupported ((withoutEnding? id "#data").getD id)) _ _ s
  rw [hb]; exact h
theorem codeC_call_builtin {id : String} {args : Args} {b : Builtin} {R : Result → Shared → Prop} (hq : plainId id = true) (hk : okCode (.builtin id args) = true) (hb : entryFor table id = some b)
    (h : wpAny (model prog w) A.in1 (checkBuiltinCall id args) (fun _ s₁ => wpC (model prog w) A.in1 (b args)
      (fun fin s' => match fin with | .done f => R (.ok f) s' | .again c' => c'.quiet = true ∧ codeC (model prog w) A c' R s') (fun e s' => R (.error e) s') s₁)
      (fun e s' => R (.error e) s') s) : codeC (model prog w) A (.call (.builtin id) args) R s := by
  refine codeC_of_tree rfl ?_
  show wpC _ A.in1 (do checkBuiltinCall id args; again (.builtin id args)) _ _ s
  refine wpC_then (wpAny_mono h (fun _ s₁ h₁ => ?_) fun _ _ x => x)
  refine wpC_pure ⟨plainId_quiet hq args, codeC_builtin hk hb ?_⟩
  rw [Around.under_plainId hq args]
  exact h₁

theorem ba_write {M : Model} {S : Addr} {b : Array UInt8} {n : Nat} {f : Array UInt8 → Array UInt8} {Q : Unit → Shared → Prop} (hS : s.heap.get? S = some { cls := .type "bytearray", data := .bytearray b n }) (hz : (f b).size ≤ sizeLine)
    (h : Q () { s with heap := s.heap.update S (Obj.mapBytearray f) }) : wpAny M A (Builtin.Bytes.write (.ref S) f) Q E s := by
  show wpAny M A (updateBytearray S f) Q E s
  unfold updateBytearray
  refine wpAny_bind (wpAny_load hS ?_)
  show wpAny M A (update S (Obj.mapBytearray f) >>= fun _ => lookBehind S) Q E s
  refine wpAny_bind (wpAny_updatePart hS ?_)
  exact wpAny_lookBehind (Heap.get?_update_self (Obj.mapBytearray f) hS rfl) (by show (Data.bytearray (f b) n).pastItsLine = none; unfold Data.pastItsLine; simp [Nat.not_lt.mpr hz]) h

theorem ba_init {S : Addr} {b : Array UInt8} {t : Tok} {R : Fin → Shared → Prop} (hg : A.guards = some []) (hS : s.heap.get? S = some { cls := .type "bytearray", data := .bytearray #[] }) (hz : b.size ≤ sizeLine)
    (h : R (.done (.ret .none)) { s with heap := (s.heap.update S (Obj.mapBytearray fun _ => #[])).update S (Obj.mapBytearray fun _ => b) }) :
    wpC (model prog w) A (Builtin.«bytearray.__init__» ⟨[.ref S, .bytes b t], []⟩) R E s := by
  have hT : s.TypeIs (.ref S) "bytearray" := ⟨_, hS, rfl⟩
  unfold Builtin.«bytearray.__init__»
  refine wpC_then (ba_own_release hT ?_)
  rw [if_neg Bool.false_ne_true]
  refine wpC_then (wpAny_of_eq (ba_bind _) ?_)
  refine wpC_then (wpAny_of_eq (a := ()) rfl ?_)
  refine wpC_then (wpAny_of_eq (a := ()) rfl ?_)
  refine wpC_bind ?_
  show wpC _ _ (Builtin.Bytes.exported (.ref S) >>= fun r => _) _ _ _
  refine wpC_bind (wpC_exported hg ?_)
  refine wpC_of ?_
  show wpAny _ _ (Builtin.Bytes.exportsOf (.ref S) >>= fun r => _) _ _ _
  refine wpAny_bind ?_
  unfold Builtin.Bytes.exportsOf
  refine wpAny_bind (wpAny_load hS ?_)
  refine wpAny_pure (wpAny_pure ?_)
  show wpC _ _ (Builtin.Bytes.write (.ref S) (fun _ => #[]) >>= fun r => _) _ _ _
  refine wpC_of (wpAny_bind (ba_write hS (Nat.zero_le _) ?_))
  have hS₂ := Heap.get?_update_self (Obj.mapBytearray fun _ => (#[] : Array UInt8)) hS rfl
  have hTb : ∀ s' : Shared, s'.TypeIs (.bytes b t) "bytes" := fun s' => PySem.W.typeIs_bytes s' b t
  show wpAny _ _ (asStr? (.bytes b t) >>= fun r => _) _ _ _
  refine wpAny_bind (wpAny_of_eq (a := none) rfl ?_)
  show wpAny _ _ (specialOf (.bytes b t) "__index__" >>= fun r => _) _ _ _
  refine wpAny_bind (wpAny_specialOf (hTb _) bytes_no_index ?_)
  show wpAny _ _ (Builtin.Bytes.buffer? "bytearray.__init__" (.bytes b t) true >>= fun r => _) _ _ _
  refine wpAny_bind ?_
  rw [show Builtin.Bytes.buffer? "bytearray.__init__" (.bytes b t) true = pure (some b) from ?_]
  · refine wpAny_pure ?_
    refine wpAny_bind (wpAny_rule ?_)
    refine wpAny_bind (ba_write hS₂ hz ?_)
    exact wpAny_pure h
  · unfold Builtin.Bytes.buffer?
    rw [PySem.W.KBy.special_eq PySem.W.KBy.look_buffer, PySem.W.KBy.own_buffer, PySem.W.KBy.own_release]
    kernel_rfl
end
end
section
section
variable {prog : Program} {w : World} {A : Around} {E : Value → Shared → Prop} {s : Shared}

theorem ba_call {b : Array UInt8} {t : Tok} {Q : Value → Shared → Prop} (hg : A.guards = some []) (hz : b.size ≤ sizeLine)
    (hQ : ∀ h' k, s.heap.StaysIn h' → h'.get? s.heap.objs.size = some { cls := .type "bytearray", data := .bytearray b } → Q (.ref s.heap.objs.size) { s with heap := h', toks := k }) :
    wpC (model prog w) A (call (.type "bytearray") [.bytes b t]) Q E s := by
  have ft := ba_called
  refine wpC_call (codeC_of_tree rfl ?_)
  show wpC _ _ (callAny (.type "bytearray") _) _ _ _
  refine wpC_pure ⟨Code.quiet_builtin _ (by decide +kernel), codeC_builtin (by show (!Builtin.Bytes.decodersThatHold.contains "type.__call__") = true; decide +kernel) F.entry_type_call ?_⟩
  rw [Around.under_plain (weight_type_call_type "bytearray" [.bytes b t] []) rfl]
  unfold Builtin.«type.__call__»
  dsimp only
  rw [if_neg (by rw [ft.notType]; exact Bool.false_ne_true)]
  have h2 := ft.canCreate
  rw [if_neg (by rw [h2]; exact Bool.false_ne_true)]
  refine wpC_then (wpAny_of_eq (ba_typeCall _) ?_)
  refine wpC_then (wpAny_of_eq ba_mro ?_)
  rw [if_neg (by decide)]
  refine wpC_then (wpAny_of_eq ft.made ?_)
  dsimp only
  refine wpC_then (wpAny_pure ?_)
  refine wpC_then (wpAny_holding (wpAny_call (ba_code_new _ ?_)))
  have hS : (s.heap.push { cls := Value.type "bytearray", data := Data.bytearray #[] }).get? s.heap.objs.size = some { cls := Value.type "bytearray", data := Data.bytearray #[] } := Heap.get?_push_size _ rfl
  have hT : ({ s with heap := s.heap.push { cls := Value.type "bytearray", data := Data.bytearray #[] } } : Shared).TypeIs (.ref s.heap.objs.size) "bytearray" := ⟨_, hS, rfl⟩
  refine wpC_then (wpAny_isInstance hT ba_self ?_)
  rw [if_neg (by decide)]
  refine wpC_bind (wpC_holding ?_)
  unfold callSpecial?
  refine wpC_then (wpAny_specialOf hT ft.init.lookup ?_)
  refine wpC_holding ?_
  refine wpC_then (wpAny_of_eq (ft.init.bind _) ?_)
  refine wpC_bind (wpC_call (codeC_call_builtin ft.init.plain (by show (!Builtin.Bytes.decodersThatHold.contains "bytearray.__init__") = true; decide +kernel) ba_entry_init (ft.init.check _ _ _ _ _ _ _ _ hT (ba_args_init _ _) ?_)))
  refine ba_init (s := { s with heap := s.heap.push { cls := Value.type "bytearray", data := Data.bytearray #[] } }) hg hS hz ?_
  refine wpC_pure ?_
  refine wpC_pure ?_
  refine hQ _ _ (fun b' o e => ?_) ?_
  · have hne : s.heap.objs.size ≠ b' := Nat.ne_of_gt (Heap.lt_size e)
    exact (Heap.get?_update_other _ _ hne).trans ((Heap.get?_update_other _ _ hne).trans (Heap.get?_push_of_some _ e))
  · have h3 := Heap.get?_update_self (Obj.mapBytearray fun _ => (#[] : Array UInt8)) hS rfl
    exact Heap.get?_update_self (Obj.mapBytearray fun _ => b) h3 rfl
end
end
section
/-! _law_due: what its loop leaves -/
noncomputable def dueW (fs : List Int) (i : Nat) : Int := fs.getD (4 * i) 0 * 262144 + fs.getD (4 * i + 1) 0 * 4096 + fs.getD (4 * i + 2) 0 * 64 + fs.getD (4 * i + 3) 0
noncomputable def due3 (x : Int) : List Int := [x / 65536, x / 256 % 256, x % 256]
noncomputable def dueT (fs : List Int) : Nat → List Int
  | 0 => []
  | i + 1 => dueT fs i ++ due3 (dueW fs i)
theorem dueT_length (fs : List Int) : ∀ i, (dueT fs i).length = 3 * i
  | 0 => rfl
  | i + 1 => by show (dueT fs i ++ due3 _).length = _; rw [List.length_append, dueT_length fs i]; show 3 * i + 3 = _; omega
theorem getD_in64 {fs : List Int} (h : In64 fs) (k : Nat) : 0 ≤ fs.getD k 0 ∧ fs.getD k 0 < 64 := by
  rw [List.getD_eq_getElem?_getD]
  cases e : fs[k]? with
  | none => exact ⟨by decide, by decide⟩
  | some v => exact h v (List.mem_of_getElem? e)
theorem due3_in {fs : List Int} (h : In64 fs) (i : Nat) : InB (due3 (dueW fs i)) := by
  have h0 := getD_in64 h (4 * i); have h1 := getD_in64 h (4 * i + 1); have h2 := getD_in64 h (4 * i + 2); have h3 := getD_in64 h (4 * i + 3)
  intro n hn
  unfold due3 dueW at hn
  rcases List.mem_cons.mp hn with rfl | hn
  · omega
  rcases List.mem_cons.mp hn with rfl | hn
  · omega
  rw [List.mem_singleton.mp hn]
  omega
theorem dueT_in {fs : List Int} (h : In64 fs) : ∀ i, InB (dueT fs i)
  | 0 => fun _ h => nomatch h
  | i + 1 => InB.app (dueT_in h i) (due3_in h i)
theorem dueT_cons4 (a b c d : Int) (r : List Int) (i : Nat) : dueT (a :: b :: c :: d :: r) (i + 1) = due3 (a * 262144 + b * 4096 + c * 64 + d) ++ dueT r i := by
  induction i with
  | zero => simp [dueT, dueW]
  | succ i ih =>
    show dueT (a :: b :: c :: d :: r) (i + 1) ++ due3 (dueW (a :: b :: c :: d :: r) (i + 1)) = _ ++ (dueT r i ++ due3 (dueW r i))
    have e : dueW (a :: b :: c :: d :: r) (i + 1) = dueW r i := by
      unfold dueW
      rw [show 4 * (i + 1) = 4 * i + 4 by omega]
      rfl
    rw [ih, List.append_assoc, e]
theorem dueT_dec : ∀ (fs : List Int), In64 fs → fs.length % 4 = 0 → dueT fs (fs.length / 4) = dec fs
  | [], _, _ => rfl
  | [_], _, h => by simp at h
  | [_, _], _, h => by simp at h
  | [_, _, _], _, h => by simp at h
  | a :: b :: c :: d :: r, hin, h => by
    have hl : (a :: b :: c :: d :: r).length = r.length + 4 := rfl
    rw [show (a :: b :: c :: d :: r).length / 4 = r.length / 4 + 1 by omega, dueT_cons4]
    have hr : In64 r := fun f hf => hin f (by simp [hf])
    rw [dueT_dec r hr (by omega)]
    have ha := hin a (by simp); have hb := hin b (by simp); have hc := hin c (by simp); have hd := hin d (by simp)
    show due3 _ ++ dec r = (a * 4 + b / 16) :: (b % 16 * 16 + c / 4) :: (c % 4 * 64 + d) :: dec r
    unfold due3
    rw [show (a * 262144 + b * 4096 + c * 64 + d) / 65536 = a * 4 + b / 16 by omega, show (a * 262144 + b * 4096 + c * 64 + d) / 256 % 256 = b % 16 * 16 + c / 4 by omega, show (a * 262144 + b * 4096 + c * 64 + d) % 256 = c % 4 * 64 + d by omega]
    try rfl
structure DSt where
  vs : List Value
  bs : List Int
  k : Nat
  wv : Option Value
noncomputable def dSt (m₀ : Str → Option Value) (c : DSt) (y : Str) : Option Value := if y = Str.ofString "word" then c.wv else m₀ y
noncomputable def dLed (l lf : Addr) (of : Obj) (c : DSt) : List (Addr × Obj) := [(l, listOf c.vs.toArray c.k), (lf, of)]
noncomputable def dI (fs : List Int) (i : Nat) (c : DSt) : Prop := c.bs = dueT fs i ∧ IntsAre c.vs c.bs
theorem range4_size (n : Nat) (h3 : n % 4 = 0) : Builtin.Range.rangeSize 0 (n : Int) 4 = ((n / 4 : Nat) : Int) := by
  unfold Builtin.Range.rangeSize
  simp only [show ((4 : Int) > 0) by decide, if_true]
  split <;> omega
theorem range4_small (n : Nat) (hz : n ≤ 1000000) : Builtin.Range.small 0 (n : Int) 4 = true := by
  have hs : 0 ≤ Builtin.Range.rangeSize 0 (n : Int) 4 ∧ Builtin.Range.rangeSize 0 (n : Int) 4 ≤ n := by
    unfold Builtin.Range.rangeSize
    simp only [show ((4 : Int) > 0) by decide, if_true]
    split <;> omega
  unfold Builtin.Range.small
  generalize Builtin.Range.rangeSize 0 (n : Int) 4 = z at *
  rw [if_pos (by decide), rfits (by decide) (by decide), rfits (i := (n : Int)) (by omega) (by omega), rfits (by decide) (by decide), rfits (i := z) (by omega) (by omega), rfits (i := (n : Int) + (4 - 1)) (by omega) (by omega)]
  simp
theorem due_loop {prog : Program} {w : World} {A : Around} {E : Value → Shared → Prop} {s : Shared} {env : Env} {h₀ : Heap} {x : Str} {px : Pos} {body : List Stmt} {Q : Flow → Shared → Prop}
    {r : Addr} {t₀ u₀ v₀ : Tok} {m₀ : Str → Option Value} {l lf lc : Addr} {of o : Obj} {v : Option Value} {fs : List Int} (hin : In64 fs) (hz : fs.length ≤ 4000) (h4 : fs.length % 4 = 0) (hk : env.scope.kind = .function) (hl : env.kindOf x = some .cell) (hc : env.cells.lookup x = some lc) (hh : A.handled = none)
    (hr : IsRange s.heap r 0 (fs.length : Int) 4 t₀ u₀ v₀) (F : Fr h₀ env.locals s.heap m₀) (N : News h₀ env.locals s.heap [(l, listOf #[] 0), (lf, of), (lc, o)]) (n1 : lc ≠ l) (n2 : lc ≠ lf) (ho : o.data = .cell v)
    (turn : ∀ (i : Nat) (t : Tok) (vs : List Value) (bs : List Int) (k : Nat) (wv : Option Value) (o : Obj) h tk own, (i : Int) * 4 + 3 < (fs.length : Int) → vs.length ≤ 4000 → bs = dueT fs i → IntsAre vs bs → o.data = .cell (some (.int ((i : Int) * 4) t)) → OwnOff own [l, lf, lc] → Fr h₀ env.locals h (fun y => if y = Str.ofString "word" then wv else m₀ y) → News h₀ env.locals h ((l, listOf vs.toArray k) :: (lf, of) :: (lc, o) :: own) →
      wpAny (model prog w) A (execs body env) (InvPostN h₀ env.locals (LjC (dSt m₀) (dLed l lf of) lc (dI fs (i + 1))) own [l, lf, lc] { s with heap := h, toks := tk } Q) E { s with heap := h, toks := tk })
    (done : ∀ (vs : List Value) (bs : List Int) (k : Nat) (wv : Option Value) (o : Obj) h tk, bs = dec fs → vs.length ≤ 16777216 → IntsAre vs bs → (∀ n ∈ bs, 0 ≤ n ∧ n < 256) → Fr h₀ env.locals h (fun y => if y = Str.ofString "word" then wv else m₀ y) → News h₀ env.locals h [(l, listOf vs.toArray k), (lf, of), (lc, o)] → Q .next { s with heap := h, toks := tk }) :
    wpAny (model prog w) A (pyIter (.ref r)) (fun it s₂ => UnrAt prog w A h₀ env (.Name x px) body Q E it s₂) E s := by
  have em : dSt m₀ ⟨[], [], 0, m₀ (Str.ofString "word")⟩ = m₀ := by
    funext y
    unfold dSt
    by_cases hy : y = Str.ofString "word"
    · rw [if_pos hy, hy]
    · rw [if_neg hy]
  refine loopCR (dSt m₀) (dLed l lf of) (dI fs) ⟨[], [], 0, m₀ (Str.ofString "word")⟩ (n := fs.length / 4) hk hl hc hh hr (range4_small _ (by omega)) (range4_size _ h4) (em.symm ▸ F) N ?_ ho ⟨rfl, .nil⟩ ?_ ?_
  · intro hm
    rcases List.mem_cons.mp hm with e | hm
    · exact n1 e
    · exact n2 (List.mem_singleton.mp hm)
  · rintro i t ⟨vs, bs, k, wv⟩ o h tk own hi ⟨e, hI⟩ ho hoff F₁ N₁
    have hl := hI.length
    (try dsimp only at e hI hl)
    have hf := dueT_length fs i
    rw [Int.zero_add] at ho
    exact turn i t vs bs k wv o h tk own (by omega) (by rw [hl, e, hf]; omega) e hI ho hoff F₁ N₁
  · rintro ⟨vs, bs, k, wv⟩ o v h tk ⟨e, hI⟩ ho F₁ N₁
    have hl := hI.length
    (try dsimp only at e hI hl)
    have hf := dueT_length fs (fs.length / 4)
    refine done vs bs k wv o h tk (e.trans (dueT_dec fs hin h4)) (by rw [hl, e, hf]; omega) hI ?_ F₁ N₁
    rw [e]; exact dueT_in hin _
theorem fm4 (n : Nat) : ((n : Int)).fmod 4 = ((n % 4 : Nat) : Int) := by
  rw [Int.fmod_eq_emod_of_nonneg _ (by decide)]; omega
theorem due_one {fs : List Int} (h : ((fs.length : Int)).fmod 4 = 1) : decR fs = .error (Str.ofString "Invalid base64-encoded string: number of data characters (" ++ Str.ofString (toString (fs.length : Int)) ++ Str.ofString ") cannot be 1 more than a multiple of 4") := by
  rw [fm4] at h
  unfold decR; rw [if_pos (by omega)]; rfl
theorem due_pad {fs : List Int} (h1 : ((fs.length : Int)).fmod 4 ≠ 1) (h0 : ((fs.length : Int)).fmod 4 ≠ 0) : decR fs = .error (Str.ofString "Incorrect padding") := by
  rw [fm4] at h1 h0
  unfold decR; rw [if_neg (by omega), if_neg (by omega)]
theorem due_four {fs : List Int} (h0 : ((fs.length : Int)).fmod 4 = 0) : fs.length % 4 = 0 := by
  rw [fm4] at h0; omega
theorem due_bytes {fs : List Int} (h0 : ((fs.length : Int)).fmod 4 = 0) : decR fs = .ok (byteArr (dec fs)) := by
  have := due_four h0
  unfold decR; rw [if_neg (by omega), if_pos this]
theorem swap23 {h₀ h : Heap} {L : Addr} {a b c : Addr × Obj} (N : News h₀ L h [a, b, c]) : News h₀ L h [a, c, b] := fun p hp => by
  refine N p ?_
  simp only [List.mem_cons] at hp ⊢
  rcases hp with h | h | h | h
  · exact .inl h
  · exact .inr (.inr (.inl h))
  · exact .inr (.inl h)
  · exact absurd h (List.not_mem_nil)
theorem due_word {fs : List Int} {i : Nat} {p0 p1 p2 p3 x0 x1 x2 x3 : Int} (h0 : p0 = (i : Int) * 4) (h1 : p1 = (i : Int) * 4 + 1) (h2 : p2 = (i : Int) * 4 + 2) (h3 : p3 = (i : Int) * 4 + 3) (q0 : x0 = 3) (q1 : x1 = 2) (q2 : x2 = 1) (q3 : x3 = 0) :
    fs.getD p0.toNat 0 * 64 ^ x0.toNat + (fs.getD p1.toNat 0 * 64 ^ x1.toNat + (fs.getD p2.toNat 0 * 64 ^ x2.toNat + (fs.getD p3.toNat 0 * 64 ^ x3.toNat + 0))) = dueW fs i := by
  subst q0 q1 q2 q3
  have e0 : p0.toNat = 4 * i := by omega
  have e1 : p1.toNat = 4 * i + 1 := by omega
  have e2 : p2.toNat = 4 * i + 2 := by omega
  have e3 : p3.toNat = 4 * i + 3 := by omega
  rw [e0, e1, e2, e3]
  unfold dueW
  rw [show (64 : Int) ^ Int.toNat 3 = 262144 by decide, show (64 : Int) ^ Int.toNat 2 = 4096 by decide, show (64 : Int) ^ Int.toNat 1 = 64 by decide, show (64 : Int) ^ Int.toNat 0 = 1 by decide]
  omega
theorem due_turn {fs bs : List Int} {i : Nat} {W : Int} (hW : W = dueW fs i) (e : bs = dueT fs i) : bs ++ [W.fdiv 65536, (W.fdiv 256).fmod 256, W.fmod 256] = dueT fs (i + 1) := by
  subst hW e
  show _ = dueT fs i ++ due3 (dueW fs i)
  unfold due3
  simp only [Int.fdiv_eq_ediv_of_nonneg _ (show (0 : Int) ≤ 65536 by decide), Int.fdiv_eq_ediv_of_nonneg _ (show (0 : Int) ≤ 256 by decide), Int.fmod_eq_emod_of_nonneg _ (show (0 : Int) ≤ 256 by decide)]
theorem due_end {h₀ h' : Heap} {L l lf lc : Addr} {of o : Obj} {v : Option Value} {m₀ m' : Str → Option Value} {own news' : List (Addr × Obj)} {vs : List Value} {k i tk : Nat} {fs : List Int} {s₁ : Shared}
    (F : Fr h₀ L h' m') (N : News h₀ L h' news') (hm : ∀ y, y ≠ Str.ofString "word" → m' y = m₀ y) (hd : o.data = .cell v) (n0 : (l, listOf vs.toArray k) ∈ news') (n1 : (lf, of) ∈ news') (n2 : (lc, o) ∈ news') (ho : ∀ p ∈ own, p ∈ news') (hI : IntsAre vs (dueT fs (i + 1))) :
    InvEndN h₀ L (LjC (dSt m₀) (dLed l lf of) lc (dI fs (i + 1))) own [l, lf, lc] s₁ { s₁ with heap := h', toks := tk } := by
  refine turnC_end ⟨vs, dueT fs (i + 1), k, m' (Str.ofString "word")⟩ F N hd (fun y => ?_) (fun p hp => ?_) ho rfl ⟨rfl, hI⟩
  · unfold dSt
    by_cases hy : y = Str.ofString "word"
    · rw [if_pos hy, hy]
    · rw [if_neg hy]; exact hm y hy
  rcases List.mem_cons.mp hp with rfl | hp
  · exact n0
  rcases List.mem_cons.mp hp with rfl | hp
  · exact n1
  rw [List.mem_singleton.mp hp]; exact n2
theorem due_close {fs bs : List Int} {vs : List Value} {i : Nat} {W : Int} {t0 t1 t2 : Tok} (hI : IntsAre vs bs) (e : bs = dueT fs i) (hW : W = dueW fs i) : IntsAre (vs ++ [.int (W.fdiv 65536) t0, .int ((W.fdiv 256).fmod 256) t1, .int (W.fmod 256) t2]) (dueT fs (i + 1)) :=
  due_turn hW e ▸ IntsAre.append hI (.cons _ _ (.cons _ _ (.cons _ _ .nil)))
end
section
/-! the three kinds of data, as one -/
noncomputable def Dat (b : Array UInt8) (h : Heap) (v : Value) : Prop := (∃ t, v = .bytes b t) ∨ ∃ x, v = .ref x ∧ h.get? x = some (baObj b)
noncomputable def Giv (b : Array UInt8) (h : Heap) (v : Value) : Prop := Dat b h v ∨ ∃ x t, v = .str x t ∧ (∀ c ∈ x.cps, c < 128) ∧ x.cps.size ≤ sizeLine ∧ x.cps.map (·.toUInt8) = b
theorem Dat.keep {b : Array UInt8} {h h' : Heap} {v : Value} (D : Dat b h v) (st : ∀ a o, h.get? a = some o → h'.get? a = some o) : Dat b h' v := by
  rcases D with D | ⟨x, e, hx⟩
  · exact .inl D
  · exact .inr ⟨x, e, st _ _ hx⟩
theorem Giv.keep {b : Array UInt8} {h h' : Heap} {v : Value} (D : Giv b h v) (st : ∀ a o, h.get? a = some o → h'.get? a = some o) : Giv b h' v := by
  rcases D with D | D
  · exact .inl (D.keep st)
  · exact .inr D
theorem Giv.bytes (b : Array UInt8) (t : Tok) (h : Heap) : Giv b h (.bytes b t) := .inl (.inl ⟨t, rfl⟩)
section
variable {w : World} {mean : ExcName → Option Value} {mg mb : Str → Option Value}
theorem ascii_any (b : Array UInt8) (v : Value) (hz : b.size ≤ sizeLine) : Ct w mean mg mb 49 [v] [] 4 40 (fun h => Dat b h v) (fun _ _ r => ∃ t, r = .bytes b t) := by
  unfold Ct
  intro dp un gd cn cs a ccd cl outer A₀ base h₀ L m s Q E B F X T hk hdp hun hpre hret
  rcases hpre with ⟨t, rfl⟩ | ⟨x, rfl, hx⟩
  · exact ascii_buffer_ok w mean mg mb b t dp un gd cn cs a ccd cl outer A₀ base h₀ L m s Q E B F X T hk hdp hun trivial fun r h' tk' st hp => hret r h' tk' st ⟨t, hp⟩
  · exact ascii_buffer_ba w mean mg mb b x hz dp un gd cn cs a ccd cl outer A₀ base h₀ L m s Q E B F X T hk hdp hun hx hret
variable {dp un : Nat} {gd : Option (List Code)} {cn : Str} {cs : Scope} {a : Addr} {ccd : Value} {cl : List (Str × Addr)} {outer : List Env} {A₀ : Around} {base h₀ g : Heap} {L : Addr} {m : Str → Option Value} {news : List (Addr × Obj)} {s : Shared} {Q E : Value → Shared → Prop}
theorem from_use {b : Array UInt8} {v : Value} (hG : Giv b g v) (hst : ∀ a o, g.get? a = some o → s.heap.get? a = some o)
    (B : Below A₀ base outer h₀) (F : Fr h₀ L s.heap m) (X : (hd.heap_39 w.params).In h₀) (N : News h₀ L s.heap news) (T : TopM mean mg mb h₀) (hk : cs.kind = .function) (hd : dp + 4 < recursionLimit) (hu : un + 40 < cLine)
    (ret : ∀ r h' tk', Fr h₀ L h' m → News h₀ L h' news → Dat b g r → Q r { s with heap := h', toks := tk' }) :
    wpAny (model PySem.Challenge.rw_ko0001_01.row.prog w) (ktrTop dp un gd cn cs L a ccd cl outer) (call (.ref 29) [v]) Q E s := by
  rcases hG with (⟨t, rfl⟩ | ⟨x, rfl, hx⟩) | ⟨x, t, rfl, ha, hz, e⟩
  · refine Ct.use (from_bytes_ok w mean mg mb b t) B F X N T hk hd hu trivial ?_
    rintro r h' tk' F' N' st rfl
    exact ret _ h' tk' F' N' (.inl ⟨t, rfl⟩)
  · refine Ct.use (from_ba w mean mg mb b x) B F X N T hk hd hu (hst _ _ hx) ?_
    rintro r h' tk' F' N' st rfl
    exact ret _ h' tk' F' N' (.inr ⟨x, rfl, hx⟩)
  · refine Ct.use (from_str w mean mg mb x t ha hz) B F X N T hk hd hu trivial ?_
    rintro r h' tk' F' N' st ⟨t', rfl⟩
    rw [e]
    exact ret _ h' tk' F' N' (.inl ⟨t', rfl⟩)
end
end
section
theorem fill_D5_45 : True := by
  w_top off
  k_with_none
  k_with "M enter" => (refine' code_defM (by (k_asm)) (by (k_asm)) (by (k_asm)) (by (k_asm)) (by (exact rfl)) (by (exact rfl)) (by (assumption)) (by (k_is)) (by (k_is)) (by (ktr_room)) (by (first | exact BindsTo.of_eq rfl | exact binds_K (by k_in) rfl (by k_is) rfl rfl rfl)) (by (exact locs rfl)) ?_ (by (exact rfl)) (by (exact rfl)) (by (exact rfl)) (by (decide)); k_whole; intro L' h' F' N' B' X' T'; (try dsimp only); (try k_fold))
  k_with "M enter2" => ((case kA => exact rfl); (case kF => exact rfl); (case kK => assumption); (case k1 => k_asm); (case k2 => k_asm); (case k3 => k_asm); (case k5 => k_asm); (case k6 => k_is); (case k7 => k_is); (case k8 => ktr_room); (case k9 => first | exact BindsTo.of_eq rfl | exact binds_K (by k_in) rfl (by k_is) rfl rfl rfl); (case c5 => decide); (case kB => exact locs rfl); (case c2 => exact rfl); (case c3 => exact rfl); (case c4 => exact rfl); k_whole; intro L' h' F' N' B' X' T'; (try dsimp only); (try k_fold))
  k_with "call type:type" => (k_here; (with_reducible show wpAny _ _ (call (Value.type "type") [Value.bytes _ _]) _ _ _); refine call_type_of (PySem.W.typeIs_bytes _ _ _) (by decide +kernel) ?_)
  k_with "M ba" => (first | exact Fr.keep (by assumption) _ _ (by assumption) | assumption)
  k_with "call type:type" => (k_here; (with_reducible show wpAny _ _ (call (Value.type "type") [Value.ref _]) _ _ _); k_dflt (refine' kto_cont (T := "bytearray") (by ((refine' kitAt_ba (by (walk_at "M ba"))))) (by (decide +kernel)) ?_; k_whole))
  k_with "call builtin:isinstance" => (k_here; (with_reducible show wpAny _ _ (call _ [Value.ref _, Value.ref _]) _ _ _); kit_ncls; k_dflt (refine' kia_tup kitx_ba (by (k_in)) (by ((refine' kitAt_ba (by (walk_at "M ba"))))) (by (kit_tp)) (by (kit_is)) (by (kit_nb)) ?_; k_whole; intro _))
  k_with "call builtin:isinstance" => (k_here; (with_reducible show wpAny _ _ (call _ [Value.ref _, Value.type _]) _ _ _); k_dflt (refine' kia_one kitx_ba (by (k_in)) (by ((refine' kitAt_ba (by (walk_at "M ba"))))) (by (kit_is)) (by (kit_nb)) ?_; k_whole; intro _))
  k_with "call type:bytes" => (k_here; (with_reducible show wpAny _ _ (call (Value.type "bytes") [Value.ref _]) _ _ _); k_dflt (refine' ba_bytes (k := 0) (by (walk_at "M ba")) (by (assumption)) ?_; k_whole; intro _ _))
  k_with "getMethod str" => (k_here; with_reducible refine en_method ?_)
  k_with "call builtin:str.encode" => (k_here; (with_reducible show wpAny _ _ (call (Value.builtin "str.encode") [Value.str _ _, Value.str _ _]) _ _ _); refine' en_call (by (assumption)) (by (assumption)) ?_; intro _ _)
  k_with "getMethod bytes" => (k_here; with_reducible refine tr_method ?_)
  k_with "call builtin:bytes.translate" => (k_here; (with_reducible show wpAny _ _ (call (Value.builtin "bytes.translate") [Value.bytes _ _, Value.bytes _ _]) _ _ _); refine' trM (by (first | rfl | decide +kernel)) (by (decide +kernel)) (by (assumption)) ?_; intro _ _)
  k_with "binaryOp LShift int int" => (k_here; (with_reducible refine shlM (by (decide)) (by (decide)) (by (omega)) ?_))
  k_with "binaryOp RShift int int" => (k_here; (with_reducible refine shrM (by (first | decide | omega)) ?_))
  k_with "call builtin:list.append" => (k_here; (with_reducible show wpAny _ _ (call (Value.builtin _) [Value.ref _, Value.int _ _]) _ _ _); k_dflt (refine' append_K (by (k_asm)) (by (k_asm)) (by (k_upd)) ?_ (by ((simp only [List.size_toArray, List.length_append, List.length_cons, List.length_nil, sizeLine_eq]; omega))); k_whole); intro h' F' N'; (try simp only [List.push_toArray] at N'); (try k_sweep))
  k_with "call builtin:len" => (k_here; (with_reducible show wpAny _ _ (call (Value.builtin "len") [Value.ref _]) _ _ _); k_dflt (refine' lenM (News.isList (by (k_asm)) (by (k_mem))) (by (with_reducible assumption)) (by (omega)) ?_; k_whole))
  k_with "call type:bytes" => (k_here; (with_reducible show wpAny _ _ (call (Value.type "bytes") [Value.ref _]) _ _ _); k_dflt (refine' bytesM (by (k_asm)) (by (k_asm)) (News.isList (by (k_asm)) (by (k_mem))) (by (with_reducible assumption)) (by (with_reducible assumption)) (by (omega)) rfl ?_; k_whole); intro h' t' k' F' N'; (try k_sweep))
  k_with "binaryOp BitAnd int int" => (k_here; (with_reducible refine andM ?_))
  k_with "binaryOp BitOr int int" => (k_here; (with_reducible refine orM' ?_))
  k_with "M enterC" => ((case kA => exact rfl); (case kF => exact rfl); (case kK => assumption); (case k1 => k_asm); (case k2 => k_asm); (case k3 => k_asm); (case k5 => k_asm); (case k6 => k_is); (case k7 => k_is); (case k8 => ktr_room); (case k9 => first | exact BindsTo.of_eq rfl | exact binds_K (by k_in) rfl (by k_is) rfl rfl rfl); (case kB => exact rfl); (case kD => decide +kernel); (case c2 => exact rfl); (case c3 => exact rfl); (case c4 => exact rfl); k_whole; intro L' h' tk' cells' F' N' Y' B' X' T'; k_cells Y'; (try simp only [List.cons_append, List.nil_append] at N'); (try dsimp only); (try k_fold))
  k_with "call builtin:len" => (k_here; (with_reducible show wpAny _ _ (call (Value.builtin "len") [Value.ref _]) _ _ _); k_dflt (refine' lenM (stays_list (stays_of (by (k_asm))) (by (with_reducible assumption))) (by (with_reducible assumption)) (by (omega)) ?_; k_whole))
  k_with "eval Name" => (k_here; k_dflt (refine' nameX_L (by (k_asm)) (@rfl _ (some _)) ?_ (by (rfl)) (by (rfl)); k_whole))
  k_with "M call" => ((case k1 => k_asm); (case k2 => k_asm); (case k3 => k_asm); (case k4 => k_asm); (case k5 => k_asm); (case kK => first | exact rfl | assumption); (case kd => ktr_room); (case ku => ktr_units))
  k_with "M back" => (intro r9 h9 tk9 F9 N9 S9 P9; (try dsimp only at P9); (first | (obtain ⟨t9, e9⟩ := P9; subst e9) | subst P9); clear S9; (try dsimp only); (try k_sweep))
  k_with "M dat" => (first | exact Dat.keep (by assumption) (Fr.keep (by assumption)) | assumption)
  k_with "M giv" => (first | exact Giv.bytes _ _ _ | exact Giv.keep (by assumption) (Fr.keep (by assumption)) | assumption)
  k_with "call ref" => (k_here; (with_reducible show wpAny _ _ (call (Value.ref 70) [Value.int _ _]) _ _ _); k_dflt (refine' Ct.use (b64_value_ok _ _ _ _ _ _) (by (k_asm)) (by (k_asm)) (by (k_asm)) (by (k_asm)) (by (k_asm)) (by (first | exact rfl | assumption)) (by (ktr_room)) (by (ktr_units)) trivial ?_; walk_at "M back"))
  k_with "call ref" => (k_here; (with_reducible show wpAny _ _ (call (Value.ref 63) [Value.bool _]) _ _ _); k_dflt (refine' Ct.use (truth_ok _ _ _ _) (by (k_asm)) (by (k_asm)) (by (k_asm)) (by (k_asm)) (by (k_asm)) (by (first | exact rfl | assumption)) (by (ktr_room)) (by (ktr_units)) trivial ?_; walk_at "M back"))
  k_with "call ref" => (k_here; (with_reducible show wpAny _ _ (call (Value.ref 49) [_]) _ _ _); k_dflt (refine' Ct.use (ascii_any _ _ (by (assumption))) (by (k_asm)) (by (k_asm)) (by (k_asm)) (by (k_asm)) (by (k_asm)) (by (first | exact rfl | assumption)) (by (ktr_room)) (by (ktr_units)) (by (walk_at "M dat")) ?_; walk_at "M back"))
  k_with "call ref" => (k_here; (with_reducible show wpAny _ _ (call (Value.ref 29) [_]) _ _ _); k_dflt (refine' from_use (by (assumption)) (by (exact Fr.keep (by assumption))) (by (k_asm)) (by (k_asm)) (by (k_asm)) (by (k_asm)) (by (k_asm)) (by (first | exact rfl | assumption)) (by (ktr_room)) (by (ktr_units)) ?_); intro r9 h9 tk9 F9 N9 D9; (try dsimp only); (try k_sweep))
  k_with "call ref" => (k_here; (with_reducible show wpAny _ _ (call (Value.ref 29) [Value.bytes _ _]) _ _ _); k_dflt (refine' Ct.use (from_bytes_ok _ _ _ _ _ _) (by (k_asm)) (by (k_asm)) (by (k_asm)) (by (k_asm)) (by (k_asm)) (by (first | exact rfl | assumption)) (by (ktr_room)) (by (ktr_units)) trivial ?_; walk_at "M back"))
  k_with "M turn a" => (refine' a_end (by assumption) (by assumption) (by k_mem) (by (intro p hp; (repeat (first | exact hp | refine List.mem_cons_of_mem _ ?_)))) (by rfl) (by rfl) (by rfl) (by rfl) (by (intro y h1 h2 h3 h4 h5; (repeat (refine (if_neg (by with_reducible assumption)).trans ?_)); (repeat (refine Eq.trans ?_ (if_neg (by with_reducible assumption)).symm)); rfl)) (by (first | with_reducible assumption | exact IntsAre.append (by with_reducible assumption) (.cons _ _ .nil))) (by (first | exact aInv.skip (by with_reducible assumption) (by omega) | exact aInv.way0 (by with_reducible assumption) (by omega) (by omega) | exact aInv.way1 (by with_reducible assumption) (by omega) (by omega) | exact aInv.way2 (by with_reducible assumption) (by omega) (by omega) | exact aInv.way3 (by with_reducible assumption) (by omega) (by omega) (by omega) (by omega))))
  trivial
theorem a2b_any (w : World) (mean : ExcName → Option Value) (mg mb : Str → Option Value) (b : Array UInt8) (v : Value) (hb : ∀ c ∈ b, c ≠ 61) (hz : b.size ≤ sizeLine) :
    CtD w mean mg mb 78 [v] [(Str.ofString "strict_mode", .bool false)] 10 100 (fun h => Dat b h v) (decR (figs (KBw.bInts b))) := by
  unfold CtD
  intro dp un gd cn cs a ccd cl outer A₀ base h₀ L m s Q E B F X T hk hdp hun hpre hok herr
  refine wpAny_call ?_
  dsimp only [TopM] at T
  (try dsimp only at hpre)
  k_dflt (refine' code_defM (binds := [(Str.ofString "data", v), (Str.ofString "strict_mode", .bool false)]) ?k1 ?k2 ?k3 ?k5 ?kA ?kF ?kK ?k6 ?k7 ?k8 ?k9 ?kB ?_ ?c2 ?c3 ?c4 ?c5; walk_at "M enter2")
  k_with "pyIter bytes" => (
    (with_reducible rename Fr _ _ _ _ => nF); (with_reducible rename News _ _ _ _ => nN);
    (refine' a2b_loop hb hz rfl nF nN rfl rfl rfl rfl ?turn ?done);
    (case' turn => (intro pre n t q lc i tq tl tp ti vs ns k h tk own hne hn0 hn1 hv0 hv1 hq0 hq4 hl0 hl64 hlen hI hA hOff hF hN; clear nF nN; dsimp only [aSt] at hF; (try k_fold)));
    (case' done => (intro u q lc i tq tl tp ti vs ns k h tk hq0 hq4 hlen hI hA hF hN; clear nF nN; have hR : ∀ n ∈ ns, 0 ≤ n ∧ n < 256 := hI.more.1; dsimp only [aSt] at hF; (try k_fold))))
  k_steps
  all_goals (first
    | (refine' hok _ _ _ _ ?_ (stays_of (by assumption)); exact decR_ok hI (by omega))
    | (refine' herr _ _ _ _ _ _ ?_ (RaisedK.drop (by assumption)) (by assumption); first | (refine decR_one' hI (by omega) ?_; with_reducible rfl) | (refine decR_pad' hI (by omega) (by omega) ?_; with_reducible rfl))
    | walk_at "M turn a"
    | w_report)
end
section
theorem fill_D6_49 : True := by
  w_top off
  k_with_none
  k_with "M enter" => (refine' code_defM (by (k_asm)) (by (k_asm)) (by (k_asm)) (by (k_asm)) (by (exact rfl)) (by (exact rfl)) (by (assumption)) (by (k_is)) (by (k_is)) (by (ktr_room)) (by (first | exact BindsTo.of_eq rfl | exact binds_K (by k_in) rfl (by k_is) rfl rfl rfl)) (by (exact locs rfl)) ?_ (by (exact rfl)) (by (exact rfl)) (by (exact rfl)) (by (decide)); k_whole; intro L' h' F' N' B' X' T'; (try dsimp only); (try k_fold))
  k_with "M enter2" => ((case kA => exact rfl); (case kF => exact rfl); (case kK => assumption); (case k1 => k_asm); (case k2 => k_asm); (case k3 => k_asm); (case k5 => k_asm); (case k6 => k_is); (case k7 => k_is); (case k8 => ktr_room); (case k9 => first | exact BindsTo.of_eq rfl | exact binds_K (by k_in) rfl (by k_is) rfl rfl rfl); (case c5 => decide); (case kB => exact locs rfl); (case c2 => exact rfl); (case c3 => exact rfl); (case c4 => exact rfl); k_whole; intro L' h' F' N' B' X' T'; (try dsimp only); (try k_fold))
  k_with "call type:type" => (k_here; (with_reducible show wpAny _ _ (call (Value.type "type") [Value.bytes _ _]) _ _ _); refine call_type_of (PySem.W.typeIs_bytes _ _ _) (by decide +kernel) ?_)
  k_with "M ba" => (first | exact Fr.keep (by assumption) _ _ (by assumption) | assumption)
  k_with "call type:type" => (k_here; (with_reducible show wpAny _ _ (call (Value.type "type") [Value.ref _]) _ _ _); k_dflt (refine' kto_cont (T := "bytearray") (by ((refine' kitAt_ba (by (walk_at "M ba"))))) (by (decide +kernel)) ?_; k_whole))
  k_with "call builtin:isinstance" => (k_here; (with_reducible show wpAny _ _ (call _ [Value.ref _, Value.ref _]) _ _ _); kit_ncls; k_dflt (refine' kia_tup kitx_ba (by (k_in)) (by ((refine' kitAt_ba (by (walk_at "M ba"))))) (by (kit_tp)) (by (kit_is)) (by (kit_nb)) ?_; k_whole; intro _))
  k_with "call builtin:isinstance" => (k_here; (with_reducible show wpAny _ _ (call _ [Value.ref _, Value.type _]) _ _ _); k_dflt (refine' kia_one kitx_ba (by (k_in)) (by ((refine' kitAt_ba (by (walk_at "M ba"))))) (by (kit_is)) (by (kit_nb)) ?_; k_whole; intro _))
  k_with "call type:bytes" => (k_here; (with_reducible show wpAny _ _ (call (Value.type "bytes") [Value.ref _]) _ _ _); k_dflt (refine' ba_bytes (k := 0) (by (walk_at "M ba")) (by (assumption)) ?_; k_whole; intro _ _))
  k_with "getMethod str" => (k_here; with_reducible refine en_method ?_)
  k_with "call builtin:str.encode" => (k_here; (with_reducible show wpAny _ _ (call (Value.builtin "str.encode") [Value.str _ _, Value.str _ _]) _ _ _); refine' en_call (by (assumption)) (by (assumption)) ?_; intro _ _)
  k_with "getMethod bytes" => (k_here; with_reducible refine tr_method ?_)
  k_with "call builtin:bytes.translate" => (k_here; (with_reducible show wpAny _ _ (call (Value.builtin "bytes.translate") [Value.bytes _ _, Value.bytes _ _]) _ _ _); refine' trM (by (first | rfl | decide +kernel)) (by (decide +kernel)) (by (assumption)) ?_; intro _ _)
  k_with "binaryOp LShift int int" => (k_here; (with_reducible refine shlM (by (decide)) (by (decide)) (by (omega)) ?_))
  k_with "binaryOp RShift int int" => (k_here; (with_reducible refine shrM (by (first | decide | omega)) ?_))
  k_with "call builtin:list.append" => (k_here; (with_reducible show wpAny _ _ (call (Value.builtin _) [Value.ref _, Value.int _ _]) _ _ _); k_dflt (refine' append_K (by (k_asm)) (by (k_asm)) (by (k_upd)) ?_ (by ((simp only [List.size_toArray, List.length_append, List.length_cons, List.length_nil, sizeLine_eq]; omega))); k_whole); intro h' F' N'; (try simp only [List.push_toArray] at N'); (try k_sweep))
  k_with "call builtin:len" => (k_here; (with_reducible show wpAny _ _ (call (Value.builtin "len") [Value.ref _]) _ _ _); k_dflt (refine' lenM (News.isList (by (k_asm)) (by (k_mem))) (by (with_reducible assumption)) (by (omega)) ?_; k_whole))
  k_with "call type:bytes" => (k_here; (with_reducible show wpAny _ _ (call (Value.type "bytes") [Value.ref _]) _ _ _); k_dflt (refine' bytesM (by (k_asm)) (by (k_asm)) (News.isList (by (k_asm)) (by (k_mem))) (by (with_reducible assumption)) (by (with_reducible assumption)) (by (omega)) rfl ?_; k_whole); intro h' t' k' F' N'; (try k_sweep))
  k_with "binaryOp BitAnd int int" => (k_here; (with_reducible refine andM ?_))
  k_with "binaryOp BitOr int int" => (k_here; (with_reducible refine orM' ?_))
  k_with "M enterC" => ((case kA => exact rfl); (case kF => exact rfl); (case kK => assumption); (case k1 => k_asm); (case k2 => k_asm); (case k3 => k_asm); (case k5 => k_asm); (case k6 => k_is); (case k7 => k_is); (case k8 => ktr_room); (case k9 => first | exact BindsTo.of_eq rfl | exact binds_K (by k_in) rfl (by k_is) rfl rfl rfl); (case kB => exact rfl); (case kD => decide +kernel); (case c2 => exact rfl); (case c3 => exact rfl); (case c4 => exact rfl); k_whole; intro L' h' tk' cells' F' N' Y' B' X' T'; k_cells Y'; (try simp only [List.cons_append, List.nil_append] at N'); (try dsimp only); (try k_fold))
  k_with "call builtin:len" => (k_here; (with_reducible show wpAny _ _ (call (Value.builtin "len") [Value.ref _]) _ _ _); k_dflt (refine' lenM (stays_list (stays_of (by (k_asm))) (by (with_reducible assumption))) (by (with_reducible assumption)) (by (omega)) ?_; k_whole))
  k_with "eval Name" => (k_here; k_dflt (refine' nameX_L (by (k_asm)) (@rfl _ (some _)) ?_ (by (rfl)) (by (rfl)); k_whole))
  k_with "M call" => ((case k1 => k_asm); (case k2 => k_asm); (case k3 => k_asm); (case k4 => k_asm); (case k5 => k_asm); (case kK => first | exact rfl | assumption); (case kd => ktr_room); (case ku => ktr_units))
  k_with "M back" => (intro r9 h9 tk9 F9 N9 S9 P9; (try dsimp only at P9); (first | (obtain ⟨t9, e9⟩ := P9; subst e9) | subst P9); clear S9; (try dsimp only); (try k_sweep))
  k_with "M dat" => (first | exact Dat.keep (by assumption) (Fr.keep (by assumption)) | assumption)
  k_with "M giv" => (first | exact Giv.bytes _ _ _ | exact Giv.keep (by assumption) (Fr.keep (by assumption)) | assumption)
  k_with "call ref" => (k_here; (with_reducible show wpAny _ _ (call (Value.ref 70) [Value.int _ _]) _ _ _); k_dflt (refine' Ct.use (b64_value_ok _ _ _ _ _ _) (by (k_asm)) (by (k_asm)) (by (k_asm)) (by (k_asm)) (by (k_asm)) (by (first | exact rfl | assumption)) (by (ktr_room)) (by (ktr_units)) trivial ?_; walk_at "M back"))
  k_with "call ref" => (k_here; (with_reducible show wpAny _ _ (call (Value.ref 63) [Value.bool _]) _ _ _); k_dflt (refine' Ct.use (truth_ok _ _ _ _) (by (k_asm)) (by (k_asm)) (by (k_asm)) (by (k_asm)) (by (k_asm)) (by (first | exact rfl | assumption)) (by (ktr_room)) (by (ktr_units)) trivial ?_; walk_at "M back"))
  k_with "call ref" => (k_here; (with_reducible show wpAny _ _ (call (Value.ref 49) [_]) _ _ _); k_dflt (refine' Ct.use (ascii_any _ _ (by (assumption))) (by (k_asm)) (by (k_asm)) (by (k_asm)) (by (k_asm)) (by (k_asm)) (by (first | exact rfl | assumption)) (by (ktr_room)) (by (ktr_units)) (by (walk_at "M dat")) ?_; walk_at "M back"))
  k_with "call ref" => (k_here; (with_reducible show wpAny _ _ (call (Value.ref 29) [_]) _ _ _); k_dflt (refine' from_use (by (assumption)) (by (exact Fr.keep (by assumption))) (by (k_asm)) (by (k_asm)) (by (k_asm)) (by (k_asm)) (by (k_asm)) (by (first | exact rfl | assumption)) (by (ktr_room)) (by (ktr_units)) ?_); intro r9 h9 tk9 F9 N9 D9; (try dsimp only); (try k_sweep))
  k_with "call ref" => (k_here; (with_reducible show wpAny _ _ (call (Value.ref 29) [Value.bytes _ _]) _ _ _); k_dflt (refine' Ct.use (from_bytes_ok _ _ _ _ _ _) (by (k_asm)) (by (k_asm)) (by (k_asm)) (by (k_asm)) (by (k_asm)) (by (first | exact rfl | assumption)) (by (ktr_room)) (by (ktr_units)) trivial ?_; walk_at "M back"))
  k_with "call ref" => (k_here; (with_reducible show wpAny _ _ (call (Value.ref 78) [_] _) _ _ _); k_dflt (refine' CtD.use (a2b_any _ _ _ _ _ _ (by (assumption)) (by (assumption))) (by (k_asm)) (by (k_asm)) (by (k_asm)) (by (k_asm)) (by (k_asm)) (by (first | exact rfl | assumption)) (by (ktr_room)) (by (ktr_units)) (by (walk_at "M dat")) ?ret ?err); (case' ret => (intro bs9 t9 h9 tk9 e9 F9 N9; (try dsimp only); (try k_sweep))); (case' err => (intro msg9 x9 tu9 tm9 h9 tk9 e9 R9 U9; (try dsimp only))))
  trivial
theorem bdec_any (w : World) (mean : ExcName → Option Value) (mg mb : Str → Option Value) (b : Array UInt8) (v : Value) (hb : ∀ c ∈ b, c ≠ 61) (hz : b.size ≤ sizeLine) :
    CtD w mean mg mb 102 [v] [] 15 150 (fun h => Giv b h v) (decR (figs (KBw.bInts b))) := by
  unfold CtD
  intro dp un gd cn cs a ccd cl outer A₀ base h₀ L m s Q E B F X T hk hdp hun hpre hok herr
  refine wpAny_call ?_
  dsimp only [TopM] at T
  (try dsimp only at hpre)
  k_dflt (refine' code_defM (binds := [(Str.ofString "s", v), (Str.ofString "altchars", .none), (Str.ofString "validate", .bool false)]) ?k1 ?k2 ?k3 ?k5 ?kA ?kF ?kK ?k6 ?k7 ?k8 ?k9 ?kB ?_ ?c2 ?c3 ?c4 ?c5; walk_at "M enter2")
  k_steps
  all_goals (first
    | (refine' hok _ _ _ _ ?_ (stays_of (by assumption)); assumption)
    | (refine' herr _ _ _ _ _ _ ?_ (by assumption) (by assumption); assumption)
    | w_report)
end
section
theorem fill_D7_53 : True := by
  w_top off
  k_with_none
  k_with "M enter" => (refine' code_defM (by (k_asm)) (by (k_asm)) (by (k_asm)) (by (k_asm)) (by (exact rfl)) (by (exact rfl)) (by (assumption)) (by (k_is)) (by (k_is)) (by (ktr_room)) (by (first | exact BindsTo.of_eq rfl | exact binds_K (by k_in) rfl (by k_is) rfl rfl rfl)) (by (exact locs rfl)) ?_ (by (exact rfl)) (by (exact rfl)) (by (exact rfl)) (by (decide)); k_whole; intro L' h' F' N' B' X' T'; (try dsimp only); (try k_fold))
  k_with "M enter2" => ((case kA => exact rfl); (case kF => exact rfl); (case kK => assumption); (case k1 => k_asm); (case k2 => k_asm); (case k3 => k_asm); (case k5 => k_asm); (case k6 => k_is); (case k7 => k_is); (case k8 => ktr_room); (case k9 => first | exact BindsTo.of_eq rfl | exact binds_K (by k_in) rfl (by k_is) rfl rfl rfl); (case c5 => decide); (case kB => exact locs rfl); (case c2 => exact rfl); (case c3 => exact rfl); (case c4 => exact rfl); k_whole; intro L' h' F' N' B' X' T'; (try dsimp only); (try k_fold))
  k_with "call type:type" => (k_here; (with_reducible show wpAny _ _ (call (Value.type "type") [Value.bytes _ _]) _ _ _); refine call_type_of (PySem.W.typeIs_bytes _ _ _) (by decide +kernel) ?_)
  k_with "M ba" => (first | exact Fr.keep (by assumption) _ _ (by assumption) | assumption)
  k_with "call type:type" => (k_here; (with_reducible show wpAny _ _ (call (Value.type "type") [Value.ref _]) _ _ _); k_dflt (refine' kto_cont (T := "bytearray") (by ((refine' kitAt_ba (by (walk_at "M ba"))))) (by (decide +kernel)) ?_; k_whole))
  k_with "call builtin:isinstance" => (k_here; (with_reducible show wpAny _ _ (call _ [Value.ref _, Value.ref _]) _ _ _); kit_ncls; k_dflt (refine' kia_tup kitx_ba (by (k_in)) (by ((refine' kitAt_ba (by (walk_at "M ba"))))) (by (kit_tp)) (by (kit_is)) (by (kit_nb)) ?_; k_whole; intro _))
  k_with "call builtin:isinstance" => (k_here; (with_reducible show wpAny _ _ (call _ [Value.ref _, Value.type _]) _ _ _); k_dflt (refine' kia_one kitx_ba (by (k_in)) (by ((refine' kitAt_ba (by (walk_at "M ba"))))) (by (kit_is)) (by (kit_nb)) ?_; k_whole; intro _))
  k_with "call type:bytes" => (k_here; (with_reducible show wpAny _ _ (call (Value.type "bytes") [Value.ref _]) _ _ _); k_dflt (refine' ba_bytes (k := 0) (by (walk_at "M ba")) (by (assumption)) ?_; k_whole; intro _ _))
  k_with "getMethod str" => (k_here; with_reducible refine en_method ?_)
  k_with "call builtin:str.encode" => (k_here; (with_reducible show wpAny _ _ (call (Value.builtin "str.encode") [Value.str _ _, Value.str _ _]) _ _ _); refine' en_call (by (assumption)) (by (assumption)) ?_; intro _ _)
  k_with "getMethod bytes" => (k_here; with_reducible refine tr_method ?_)
  k_with "call builtin:bytes.translate" => (k_here; (with_reducible show wpAny _ _ (call (Value.builtin "bytes.translate") [Value.bytes _ _, Value.bytes _ _]) _ _ _); refine' trM (by (first | rfl | decide +kernel)) (by (decide +kernel)) (by (assumption)) ?_; intro _ _)
  k_with "binaryOp LShift int int" => (k_here; (with_reducible refine shlM (by (decide)) (by (decide)) (by (omega)) ?_))
  k_with "binaryOp RShift int int" => (k_here; (with_reducible refine shrM (by (first | decide | omega)) ?_))
  k_with "call builtin:list.append" => (k_here; (with_reducible show wpAny _ _ (call (Value.builtin _) [Value.ref _, Value.int _ _]) _ _ _); k_dflt (refine' append_K (by (k_asm)) (by (k_asm)) (by (k_upd)) ?_ (by ((simp only [List.size_toArray, List.length_append, List.length_cons, List.length_nil, sizeLine_eq]; omega))); k_whole); intro h' F' N'; (try simp only [List.push_toArray] at N'); (try k_sweep))
  k_with "call builtin:len" => (k_here; (with_reducible show wpAny _ _ (call (Value.builtin "len") [Value.ref _]) _ _ _); k_dflt (refine' lenM (News.isList (by (k_asm)) (by (k_mem))) (by (with_reducible assumption)) (by (omega)) ?_; k_whole))
  k_with "call type:bytes" => (k_here; (with_reducible show wpAny _ _ (call (Value.type "bytes") [Value.ref _]) _ _ _); k_dflt (refine' bytesM (by (k_asm)) (by (k_asm)) (News.isList (by (k_asm)) (by (k_mem))) (by (with_reducible assumption)) (by (with_reducible assumption)) (by (omega)) rfl ?_; k_whole); intro h' t' k' F' N'; (try k_sweep))
  k_with "binaryOp BitAnd int int" => (k_here; (with_reducible refine andM ?_))
  k_with "binaryOp BitOr int int" => (k_here; (with_reducible refine orM' ?_))
  k_with "M enterC" => ((case kA => exact rfl); (case kF => exact rfl); (case kK => assumption); (case k1 => k_asm); (case k2 => k_asm); (case k3 => k_asm); (case k5 => k_asm); (case k6 => k_is); (case k7 => k_is); (case k8 => ktr_room); (case k9 => first | exact BindsTo.of_eq rfl | exact binds_K (by k_in) rfl (by k_is) rfl rfl rfl); (case kB => exact rfl); (case kD => decide +kernel); (case c2 => exact rfl); (case c3 => exact rfl); (case c4 => exact rfl); k_whole; intro L' h' tk' cells' F' N' Y' B' X' T'; k_cells Y'; (try simp only [List.cons_append, List.nil_append] at N'); (try dsimp only); (try k_fold))
  k_with "call builtin:len" => (k_here; (with_reducible show wpAny _ _ (call (Value.builtin "len") [Value.ref _]) _ _ _); k_dflt (refine' lenM (stays_list (stays_of (by (k_asm))) (by (with_reducible assumption))) (by (with_reducible assumption)) (by (omega)) ?_; k_whole))
  k_with "eval Name" => (k_here; k_dflt (refine' nameX_L (by (k_asm)) (@rfl _ (some _)) ?_ (by (rfl)) (by (rfl)); k_whole))
  k_with "M call" => ((case k1 => k_asm); (case k2 => k_asm); (case k3 => k_asm); (case k4 => k_asm); (case k5 => k_asm); (case kK => first | exact rfl | assumption); (case kd => ktr_room); (case ku => ktr_units))
  k_with "M back" => (intro r9 h9 tk9 F9 N9 S9 P9; (try dsimp only at P9); (first | (obtain ⟨t9, e9⟩ := P9; subst e9) | subst P9); clear S9; (try dsimp only); (try k_sweep))
  k_with "M dat" => (first | exact Dat.keep (by assumption) (Fr.keep (by assumption)) | assumption)
  k_with "M giv" => (first | exact Giv.bytes _ _ _ | exact Giv.keep (by assumption) (Fr.keep (by assumption)) | assumption)
  k_with "call ref" => (k_here; (with_reducible show wpAny _ _ (call (Value.ref 70) [Value.int _ _]) _ _ _); k_dflt (refine' Ct.use (b64_value_ok _ _ _ _ _ _) (by (k_asm)) (by (k_asm)) (by (k_asm)) (by (k_asm)) (by (k_asm)) (by (first | exact rfl | assumption)) (by (ktr_room)) (by (ktr_units)) trivial ?_; walk_at "M back"))
  k_with "call ref" => (k_here; (with_reducible show wpAny _ _ (call (Value.ref 63) [Value.bool _]) _ _ _); k_dflt (refine' Ct.use (truth_ok _ _ _ _) (by (k_asm)) (by (k_asm)) (by (k_asm)) (by (k_asm)) (by (k_asm)) (by (first | exact rfl | assumption)) (by (ktr_room)) (by (ktr_units)) trivial ?_; walk_at "M back"))
  k_with "call ref" => (k_here; (with_reducible show wpAny _ _ (call (Value.ref 49) [_]) _ _ _); k_dflt (refine' Ct.use (ascii_any _ _ (by (assumption))) (by (k_asm)) (by (k_asm)) (by (k_asm)) (by (k_asm)) (by (k_asm)) (by (first | exact rfl | assumption)) (by (ktr_room)) (by (ktr_units)) (by (walk_at "M dat")) ?_; walk_at "M back"))
  k_with "call ref" => (k_here; (with_reducible show wpAny _ _ (call (Value.ref 29) [_]) _ _ _); k_dflt (refine' from_use (by (assumption)) (by (exact Fr.keep (by assumption))) (by (k_asm)) (by (k_asm)) (by (k_asm)) (by (k_asm)) (by (k_asm)) (by (first | exact rfl | assumption)) (by (ktr_room)) (by (ktr_units)) ?_); intro r9 h9 tk9 F9 N9 D9; (try dsimp only); (try k_sweep))
  k_with "call ref" => (k_here; (with_reducible show wpAny _ _ (call (Value.ref 29) [Value.bytes _ _]) _ _ _); k_dflt (refine' Ct.use (from_bytes_ok _ _ _ _ _ _) (by (k_asm)) (by (k_asm)) (by (k_asm)) (by (k_asm)) (by (k_asm)) (by (first | exact rfl | assumption)) (by (ktr_room)) (by (ktr_units)) trivial ?_; walk_at "M back"))
  k_with "call ref" => (k_here; (with_reducible show wpAny _ _ (call (Value.ref 102) [_]) _ _ _); k_dflt (refine' CtD.use (bdec_any _ _ _ _ _ _ (by (assumption)) (by (assumption))) (by (k_asm)) (by (k_asm)) (by (k_asm)) (by (k_asm)) (by (k_asm)) (by (first | exact rfl | assumption)) (by (ktr_room)) (by (ktr_units)) (by (walk_at "M giv")) ?ret ?err); (case' ret => (intro bs9 t9 h9 tk9 e9 F9 N9; (try dsimp only); (try k_sweep))); (case' err => (intro msg9 x9 tu9 tm9 h9 tk9 e9 R9 U9; (try dsimp only))))
  trivial
theorem sdec_any (w : World) (mean : ExcName → Option Value) (mg mb : Str → Option Value) (b : Array UInt8) (v : Value) (hb : ∀ c ∈ b, c ≠ 61) (hz : b.size ≤ sizeLine) :
    CtD w mean mg mb 116 [v] [] 20 200 (fun h => Giv b h v) (decR (figs (KBw.bInts b))) := by
  unfold CtD
  intro dp un gd cn cs a ccd cl outer A₀ base h₀ L m s Q E B F X T hk hdp hun hpre hok herr
  refine wpAny_call ?_
  dsimp only [TopM] at T
  (try dsimp only at hpre)
  k_dflt (refine' code_defM (binds := [(Str.ofString "s", v)]) ?k1 ?k2 ?k3 ?k5 ?kA ?kF ?kK ?k6 ?k7 ?k8 ?k9 ?kB ?_ ?c2 ?c3 ?c4 ?c5; walk_at "M enter2")
  k_steps
  all_goals (first
    | (refine' hok _ _ _ _ ?_ (stays_of (by assumption)); assumption)
    | (refine' herr _ _ _ _ _ _ ?_ (by assumption) (by assumption); assumption)
    | w_report)
theorem udec_ok (w : World) (mean : ExcName → Option Value) (mg mb : Str → Option Value) (b : Array UInt8) (t : Tok) (hz : b.size ≤ sizeLine) (hb : ∀ c ∈ trU b, c ≠ 61) (hz' : (trU b).size ≤ sizeLine) :
    CtD w mean mg mb 123 [.bytes b t] [] 20 200 (fun _ => True) (decR (figs (KBw.bInts (trU b)))) := by
  unfold CtD
  intro dp un gd cn cs a ccd cl outer A₀ base h₀ L m s Q E B F X T hk hdp hun hpre hok herr
  refine wpAny_call ?_
  dsimp only [TopM] at T
  (try dsimp only at hpre)
  k_dflt (refine' code_defM (binds := [(Str.ofString "s", .bytes b t)]) ?k1 ?k2 ?k3 ?k5 ?kA ?kF ?kK ?k6 ?k7 ?k8 ?k9 ?kB ?_ ?c2 ?c3 ?c4 ?c5; walk_at "M enter2")
  k_steps
  all_goals (first
    | (refine' hok _ _ _ _ ?_ (stays_of (by assumption)); assumption)
    | (refine' herr _ _ _ _ _ _ ?_ (by assumption) (by assumption); assumption)
    | w_report)
end
section
theorem fill_C11_57 : True := by
  w_top off
  k_with_none
  k_with "M enter" => (refine' code_defM (by (k_asm)) (by (k_asm)) (by (k_asm)) (by (k_asm)) (by (exact rfl)) (by (exact rfl)) (by (assumption)) (by (k_is)) (by (k_is)) (by (ktr_room)) (by (first | exact BindsTo.of_eq rfl | exact binds_K (by k_in) rfl (by k_is) rfl rfl rfl)) (by (exact locs rfl)) ?_ (by (exact rfl)) (by (exact rfl)) (by (exact rfl)) (by (decide)); k_whole; intro L' h' F' N' B' X' T'; (try dsimp only); (try k_fold))
  k_with "M enter2" => ((case kA => exact rfl); (case kF => exact rfl); (case kK => assumption); (case k1 => k_asm); (case k2 => k_asm); (case k3 => k_asm); (case k5 => k_asm); (case k6 => k_is); (case k7 => k_is); (case k8 => ktr_room); (case k9 => first | exact BindsTo.of_eq rfl | exact binds_K (by k_in) rfl (by k_is) rfl rfl rfl); (case c5 => decide); (case kB => exact locs rfl); (case c2 => exact rfl); (case c3 => exact rfl); (case c4 => exact rfl); k_whole; intro L' h' F' N' B' X' T'; (try dsimp only); (try k_fold))
  k_with "call type:type" => (k_here; (with_reducible show wpAny _ _ (call (Value.type "type") [Value.bytes _ _]) _ _ _); refine call_type_of (PySem.W.typeIs_bytes _ _ _) (by decide +kernel) ?_)
  k_with "M ba" => (first | exact Fr.keep (by assumption) _ _ (by assumption) | assumption)
  k_with "call type:type" => (k_here; (with_reducible show wpAny _ _ (call (Value.type "type") [Value.ref _]) _ _ _); k_dflt (refine' kto_cont (T := "bytearray") (by ((refine' kitAt_ba (by (walk_at "M ba"))))) (by (decide +kernel)) ?_; k_whole))
  k_with "call builtin:isinstance" => (k_here; (with_reducible show wpAny _ _ (call _ [Value.ref _, Value.ref _]) _ _ _); kit_ncls; k_dflt (refine' kia_tup kitx_ba (by (k_in)) (by ((refine' kitAt_ba (by (walk_at "M ba"))))) (by (kit_tp)) (by (kit_is)) (by (kit_nb)) ?_; k_whole; intro _))
  k_with "call builtin:isinstance" => (k_here; (with_reducible show wpAny _ _ (call _ [Value.ref _, Value.type _]) _ _ _); k_dflt (refine' kia_one kitx_ba (by (k_in)) (by ((refine' kitAt_ba (by (walk_at "M ba"))))) (by (kit_is)) (by (kit_nb)) ?_; k_whole; intro _))
  k_with "call type:bytes" => (k_here; (with_reducible show wpAny _ _ (call (Value.type "bytes") [Value.ref _]) _ _ _); k_dflt (refine' ba_bytes (k := 0) (by (walk_at "M ba")) (by (assumption)) ?_; k_whole; intro _ _))
  k_with "getMethod str" => (k_here; with_reducible refine en_method ?_)
  k_with "call builtin:str.encode" => (k_here; (with_reducible show wpAny _ _ (call (Value.builtin "str.encode") [Value.str _ _, Value.str _ _]) _ _ _); refine' en_call (by (assumption)) (by (assumption)) ?_; intro _ _)
  k_with "getMethod bytes" => (k_here; with_reducible refine tr_method ?_)
  k_with "call builtin:bytes.translate" => (k_here; (with_reducible show wpAny _ _ (call (Value.builtin "bytes.translate") [Value.bytes _ _, Value.bytes _ _]) _ _ _); refine' trM (by (first | rfl | decide +kernel)) (by (decide +kernel)) (by (assumption)) ?_; intro _ _)
  k_with "binaryOp LShift int int" => (k_here; (with_reducible refine shlM (by (decide)) (by (decide)) (by (omega)) ?_))
  k_with "binaryOp RShift int int" => (k_here; (with_reducible refine shrM (by (first | decide | omega)) ?_))
  k_with "call builtin:list.append" => (k_here; (with_reducible show wpAny _ _ (call (Value.builtin _) [Value.ref _, Value.int _ _]) _ _ _); k_dflt (refine' append_K (by (k_asm)) (by (k_asm)) (by (k_upd)) ?_ (by ((simp only [List.size_toArray, List.length_append, List.length_cons, List.length_nil, sizeLine_eq]; omega))); k_whole); intro h' F' N'; (try simp only [List.push_toArray] at N'); (try k_sweep))
  k_with "call builtin:len" => (k_here; (with_reducible show wpAny _ _ (call (Value.builtin "len") [Value.ref _]) _ _ _); k_dflt (refine' lenM (News.isList (by (k_asm)) (by (k_mem))) (by (with_reducible assumption)) (by (omega)) ?_; k_whole))
  k_with "call type:bytes" => (k_here; (with_reducible show wpAny _ _ (call (Value.type "bytes") [Value.ref _]) _ _ _); k_dflt (refine' bytesM (by (k_asm)) (by (k_asm)) (News.isList (by (k_asm)) (by (k_mem))) (by (with_reducible assumption)) (by (with_reducible assumption)) (by (omega)) rfl ?_; k_whole); intro h' t' k' F' N'; (try k_sweep))
  k_with "binaryOp BitAnd int int" => (k_here; (with_reducible refine andM ?_))
  k_with "binaryOp BitOr int int" => (k_here; (with_reducible refine orM' ?_))
  k_with "M enterC" => ((case kA => exact rfl); (case kF => exact rfl); (case kK => assumption); (case k1 => k_asm); (case k2 => k_asm); (case k3 => k_asm); (case k5 => k_asm); (case k6 => k_is); (case k7 => k_is); (case k8 => ktr_room); (case k9 => first | exact BindsTo.of_eq rfl | exact binds_K (by k_in) rfl (by k_is) rfl rfl rfl); (case kB => exact rfl); (case kD => decide +kernel); (case c2 => exact rfl); (case c3 => exact rfl); (case c4 => exact rfl); k_whole; intro L' h' tk' cells' F' N' Y' B' X' T'; k_cells Y'; (try simp only [List.cons_append, List.nil_append] at N'); (try dsimp only); (try k_fold))
  k_with "call builtin:len" => (k_here; (with_reducible show wpAny _ _ (call (Value.builtin "len") [Value.ref _]) _ _ _); k_dflt (refine' lenM (stays_list (stays_of (by (k_asm))) (by (with_reducible assumption))) (by (with_reducible assumption)) (by (omega)) ?_; k_whole))
  k_with "eval Name" => (k_here; k_dflt (refine' nameX_L (by (k_asm)) (@rfl _ (some _)) ?_ (by (rfl)) (by (rfl)); k_whole))
  k_with "M back" => (intro r9 h9 tk9 F9 N9 S9 P9; (try dsimp only at P9); (first | (obtain ⟨t9, e9⟩ := P9; subst e9) | subst P9); clear S9; (try dsimp only); (try k_sweep))
  k_with "M call" => ((case k1 => k_asm); (case k2 => k_asm); (case k3 => k_asm); (case k4 => k_asm); (case k5 => k_asm); (case kK => first | exact rfl | assumption); (case kd => ktr_room); (case ku => ktr_units))
  k_with "call ref" => (k_here; (with_reducible show wpAny _ _ (call (Value.ref 70) [Value.int _ _]) _ _ _); k_dflt (refine' Ct.use (b64_value_ok _ _ _ _ _ _) (by (k_asm)) (by (k_asm)) (by (k_asm)) (by (k_asm)) (by (k_asm)) (by (first | exact rfl | assumption)) (by (ktr_room)) (by (ktr_units)) trivial ?_; walk_at "M back"))
  k_with "call ref" => (k_here; (with_reducible show wpAny _ _ (call (Value.ref 63) [Value.bool _]) _ _ _); k_dflt (refine' Ct.use (truth_ok _ _ _ _) (by (k_asm)) (by (k_asm)) (by (k_asm)) (by (k_asm)) (by (k_asm)) (by (first | exact rfl | assumption)) (by (ktr_room)) (by (ktr_units)) trivial ?_; walk_at "M back"))
  k_with "call ref" => (k_here; (with_reducible show wpAny _ _ (call (Value.ref 56) [Value.bytes _ _]) _ _ _); k_dflt (refine' Ct.use (buffer_ok _ _ _ _ _ _) (by (k_asm)) (by (k_asm)) (by (k_asm)) (by (k_asm)) (by (k_asm)) (by (first | exact rfl | assumption)) (by (ktr_room)) (by (ktr_units)) trivial ?_; walk_at "M back"))
  k_with "call ref" => (k_here; (with_reducible show wpAny _ _ (call (Value.ref 49) [Value.bytes _ _]) _ _ _); k_dflt (refine' Ct.use (ascii_buffer_ok _ _ _ _ _ _) (by (k_asm)) (by (k_asm)) (by (k_asm)) (by (k_asm)) (by (k_asm)) (by (first | exact rfl | assumption)) (by (ktr_room)) (by (ktr_units)) trivial ?_; walk_at "M back"))
  k_with "call ref" => (k_here; (with_reducible show wpAny _ _ (call (Value.ref 49) [Value.ref _]) _ _ _); k_dflt (refine' Ct.use (ascii_buffer_ba _ _ _ _ _ _ (by (assumption))) (by (k_asm)) (by (k_asm)) (by (k_asm)) (by (k_asm)) (by (k_asm)) (by (first | exact rfl | assumption)) (by (ktr_room)) (by (ktr_units)) (by (walk_at "M ba")) ?_; walk_at "M back"))
  k_with "call ref" => (k_here; (with_reducible show wpAny _ _ (call (Value.ref 29) [Value.bytes _ _]) _ _ _); k_dflt (refine' Ct.use (from_bytes_ok _ _ _ _ _ _) (by (k_asm)) (by (k_asm)) (by (k_asm)) (by (k_asm)) (by (k_asm)) (by (first | exact rfl | assumption)) (by (ktr_room)) (by (ktr_units)) trivial ?_; walk_at "M back"))
  k_with "call ref" => (k_here; (with_reducible show wpAny _ _ (call (Value.ref 29) [Value.ref _]) _ _ _); k_dflt (refine' Ct.use (from_ba _ _ _ _ _ _) (by (k_asm)) (by (k_asm)) (by (k_asm)) (by (k_asm)) (by (k_asm)) (by (first | exact rfl | assumption)) (by (ktr_room)) (by (ktr_units)) (by (walk_at "M ba")) ?_; walk_at "M back"))
  k_with "call ref" => (k_here; (with_reducible show wpAny _ _ (call (Value.ref 29) [Value.str _ _]) _ _ _); k_dflt (refine' Ct.use (from_str _ _ _ _ _ _ (by (assumption)) (by (assumption))) (by (k_asm)) (by (k_asm)) (by (k_asm)) (by (k_asm)) (by (k_asm)) (by (first | exact rfl | assumption)) (by (ktr_room)) (by (ktr_units)) trivial ?_; walk_at "M back"))
  k_with "eval ListComp" => (k_here; k_dflt (refine ListComp_G (F₀ := by k_asm) (by with_unfolding_all rfl) (by decide) (by rfl) (by decide) (by rfl) ?_))
  k_with "pyIter ref" => (k_here; (with_reducible show wpAny _ _ (pyIter _) (CompIt _ _ _ _ _ _ _ _ _ _ _ _) _ _); k_dflt (refine' iter_tuple rfl (by (k_asm)) (by (k_asm)) (SrcT.made (by (k_mem))) (by (exact Nat.le_of_ble_eq_true rfl)) ?_; k_whole); intro g'; lcg_lit)
  k_with "CompEnd" => (refine' CompEnd.same (by (k_asm)) (by (k_asm)) (by ((simp only [LCg.Off3, and_true]; with_reducible assumption))) (by (first | exact True.intro | exact SrcT.made (by k_mem) | exact Or.inl (by assumption) | exact Or.inr ⟨_, by k_mem, rfl, _, rfl⟩)) ?_)
  k_with "call builtin:list.extend" => (k_here; (with_reducible show wpAny _ _ (call (Value.builtin _) [Value.ref _, Value.ref _]) _ _ _); k_dflt (refine' extM (by (k_asm)) (by (k_asm)) (by (k_mem)) (by (first | omega | (simp only [List.length_cons, List.length_nil, List.length_append]; omega))) (by (k_upd)) (by (first | omega | (simp only [List.length_cons, List.length_nil, List.length_append]; omega))) ?_; k_whole); intro h' F' N'; (try k_sweep))
  k_with "exec For Name Call" => (k_here; k_dflt (refine' For_unrF (by k_asm) ?_ (by intro _; with_unfolding_all rfl) (by passes_own)))
  k_with "subscriptTail" => (k_here; (with_reducible show wpAny _ _ (subscriptTail _ _ (Value.ref _) (Value.int _ _)) _ _ _); (refine' itemM (stays_list (stays_of (by (k_asm))) (by (with_reducible assumption))) (by (with_reducible assumption)) (by (with_reducible assumption)) (by (omega)) (by (omega)) (by (omega)) ?_); intro _ _ _)
  k_with "pyIter ref" => (k_here; (with_reducible show wpAny _ _ (pyIter _) (CompIt _ _ _ _ _ _ _ _ _ _ _ _) _ _); k_dflt (refine' iter_range rfl (by (k_asm)) (by (k_asm)) (by (assumption)) (by (first | decide | rfl)) (by (first | rfl | decide)) (by (exact Nat.le_of_ble_eq_true rfl)) ?_; k_whole); intro g'; lcg_lit)
  trivial
theorem due_ok (w : World) (mean : ExcName → Option Value) (mg mb : Str → Option Value) (x : Addr) (vs : List Value) (ns : List Int) (hA : IntsAre vs ns) (hI64 : In64 ns) (hlen : ns.length ≤ 4000) :
    Ct w mean mg mb 133 [.ref x] [] 10 100 (fun h => h.IsList x vs.toArray) (fun h h' r => match decR ns with | .ok bs => ∃ t, r = .bytes bs t | .error msg => ∃ t, r = .str msg t) := by
  have hvl : vs.length ≤ 4000 := by rw [hA.length]; exact hlen
  have hR : ∀ n ∈ ns, 0 ≤ n ∧ n < 256 := fun n hn => ⟨(hI64 n hn).1, by have := (hI64 n hn).2; omega⟩
  unfold Ct
  intro dp un gd cn cs a ccd cl outer A₀ base h₀ L m s Q E B F X T hk hdp hun hpre hret
  refine wpAny_call ?_
  dsimp only [TopM] at T
  dsimp only at hret hpre
  k_dflt (refine' code_defMC (binds := [(Str.ofString "figures", .ref x)]) ?k1 ?k2 ?k3 ?k5 ?kA ?kF ?kK ?k6 ?k7 ?k8 ?k9 ?kB ?kD ?_ ?c2 ?c3 ?c4; walk_at "M enterC")
  k_with "pyIter ref" => (
    (with_reducible rename IsRange _ _ _ _ _ _ _ _ => nR);
    (with_reducible rename Fr _ _ _ _ => nF); (with_reducible rename News _ _ _ _ => nN);
    (refine' due_loop hI64 hlen (due_four (by with_reducible assumption)) rfl rfl rfl rfl nR nF (swap23 nN) ?n1 ?n2 (by assumption) ?turn ?done);
    (case n1 => k_ne); (case n2 => k_ne);
    (case' turn => (intro i t vs fs k wv o h tk own hn0 hlv hfs hI hD hOff hF hN; clear nF nN nR; (try k_fold)));
    (case' done => (intro vs fs k wv o h tk hfs hlv hI hB hF hN; clear nF nN nR; (try k_fold))))
  k_steps
  all_goals (try dsimp only)
  all_goals (first
    | (refine' hret _ _ _ (stays_of (by assumption)) ?_; rw [due_one (by with_reducible assumption)]; exact ⟨_, rfl⟩)
    | (refine' hret _ _ _ (stays_of (by assumption)) ?_; rw [due_pad (by with_reducible assumption) (by with_reducible assumption)]; exact ⟨_, rfl⟩)
    | (refine' hret _ _ _ (stays_of (by assumption)) ?_; rw [due_bytes (by with_reducible assumption)]; exact ⟨_, by rw [hfs]⟩)
    | skip)
  refine' due_end (by assumption) (by assumption) ?hm hD (by k_mem) (by k_mem) (by k_mem) ?ho ?hi
  (case hm => intro y hy; (repeat (refine (if_neg (by with_reducible assumption)).trans ?_)); (repeat (refine Eq.trans ?_ (if_neg (by with_reducible assumption)).symm)); rfl)
  (case ho => intro p hp; (repeat (first | exact hp | refine List.mem_cons_of_mem _ ?_)))
  (case hi => refine' due_close hI hfs ?_; exact due_word (by omega) (by omega) (by omega) (by omega) (by omega) (by omega) (by omega) (by omega))
end
section
/-! str(e) of an exception of the text's own class -/
open PySem.Builtin PySem.Builtin.Str PySem.Builtin.BaseException PySem.Builtin.Exceptions
theorem slot_bexc : Slot "ValueError" "__str__" "BaseException.__str__" := PySem.F.excStr_ValueError.str
section
variable {prog : Program} {w : World} {M : Model} {A : Around} {E : Value → Shared → Prop} {s : Shared} {K : Frag} {e t C : Addr} {oe : Obj} {ws : Array Value}
theorem bexcArgs_own {items : List Value} {Q : Value × List Value → Shared → Prop} (he : s.heap.get? e = some oe) (hd : oe.data = .fields ws) (h0 : ws[0]? = some (.ref t)) (ht : s.heap.TupAt t items) (hq : Q (.ref t, items) s) :
    wpAny M A (bexcArgs (.ref e)) Q E s := by
  obtain ⟨ot, k, hto, _, htd⟩ := ht
  unfold bexcArgs
  refine wpAny_bind (wpAny_field he hd h0 (wpAny_bind (wpAny_seqItems hto htd ?_)))
  have : items.toArray.toList = items := by simp
  show wpAny M A (pure (Value.ref t, items.toArray.toList)) Q E s
  rw [this]; exact wpAny_pure hq
theorem bexcStr_own {m : Str} {tk : Tok} {Q : Fin → Shared → Prop} (he : s.heap.get? e = some oe) (hd : oe.data = .fields ws) (h0 : ws[0]? = some (.ref t)) (ht : s.heap.TupAt t [.str m tk]) (hq : Q (.done (.ret (.str m tk))) s) :
    wpAny (model prog w) A (Builtin.«BaseException.__str__» ⟨[.ref e], []⟩) Q E s := by
  unfold Builtin.«BaseException.__str__»
  repeat (first | with_reducible refine bexcArgs_own he hd h0 ht ?_ | wp_step)
  exact hq
theorem type_own (he : s.heap.get? e = some oe) (hc : oe.cls = .ref C) : Looks M s.heap (typeOf (.ref e)) (.ref C) := fun A Q E s k q => by
  refine wpAny_typeOf_ref (k _ _ he) ?_
  rw [hc]; exact q
theorem special_own {name : Str} {id : String} {args : List Value} {Q : Option Value → Shared → Prop} (X : K.In s.heap) (he : s.heap.get? e = some oe) (hc : oe.cls = .ref C) (hs : findIn K (.ref C) name = some (some (.builtin id)))
    (hb : ∀ self, bindSpecial (.builtin id) self = pure (.builtin id, [self])) (h : wpAny M A (call (.builtin id) (.ref e :: args)) (fun v => Q (some v)) E s) : wpAny M A (callSpecial? (.ref e) name args) Q E s :=
  wpAny_bind (wpAny_bind ((type_own he hc).here ((looks_findIn X hs).here (wpAny_holding (wpAny_bind ((Looks.of_pure (hb _)).here (wpAny_bind (wpAny_mono h (fun _ _ z => wpAny_pure z) fun _ _ z => z))))))))

theorem callBexc_own {m : Str} {tk : Tok} {Q : Value → Shared → Prop} (X : K.In s.heap) (he : s.heap.get? e = some oe) (hc : oe.cls = .ref C) (hd : oe.data = .fields ws) (h0 : ws[0]? = some (.ref t)) (ht : s.heap.TupAt t [.str m tk]) (hm : mroIn K C (.type "BaseException") = some true) (hq : Q (.str m tk) s) :
    wpAny (model prog w) A (call (.builtin "BaseException.__str__") [.ref e]) Q E s :=
  wpAny_call (codeAny_call_builtin slot_bexc.plain F.entry_bexc_str (check_slot (i := "BaseException.__str__") (owner := "BaseException") (n := "__str__") (by decide +kernel) (by decide +kernel) ((type_own he hc).andThen (looks_mroIn X hm)) (F.args_bexc_str _) (bexcStr_own he hd h0 ht hq)))
theorem str_own {m : Str} {tk : Tok} {Q : Value → Shared → Prop} (hu : A.in1.in1.units < cLine) (X : K.In s.heap) (he : s.heap.get? e = some oe) (hc : oe.cls = .ref C) (hd : oe.data = .fields ws) (h0 : ws[0]? = some (.ref t)) (ht : s.heap.TupAt t [.str m tk])
    (hs : findIn K (.ref C) "__str__" = some (some (.builtin "BaseException.__str__"))) (hm : mroIn K C (.type "BaseException") = some true) (hq : Q (.str m tk) s) :
    wpAny (model prog w) A (call (.type "str") [.ref e]) Q E s := by
  refine callType_codes (T := "str") (Bi := Builtin.«object.__init__») (Q₁ := fun r s₁ => ∃ y u, r = .str y u ∧ Q r s₁) PySem.F.called_str (PySem.F.typeCall_str_1 _) PySem.F.entry_object_init ?_ ?_
  · refine codeAny_of_tree ?_
    show wpAny _ A.in1.in1 (do checkBuiltinCall "str.__new__" ⟨[.type "str", .ref e], []⟩; again (.builtin "str.__new__" ⟨[.type "str", .ref e], []⟩)) _ _ s
    refine wpAny_bind (wpAny_of_eq (PySem.F.newCall_str_1 _) (wpAny_pure ⟨plainId_quiet (by decide +kernel) _, codeAny_builtin PySem.F.entry_str_new ?_⟩))
    rw [Around.under_plainId (by decide +kernel) _]
    rw [str_new_tree]
    refine wpAny_bind (wpAny_pure ?_)
    refine wpAny_bind (wpAny_of_eq isSubtype_str_str ?_)
    have key : wpAny (model prog w) A.in1.in1 (PySem.Builtin.Str.strOf (.ref e)) (fun r s₁ => ∃ y u, r = .str y u ∧ Q r s₁) E s := by
      unfold PySem.Builtin.Str.strOf
      rw [show isExactStr (.ref e) = false from rfl]
      refine wpAny_bind (m := cRoomFor _ _) (wpAny_cRoomFor hu ?_)
      refine wpAny_bind (m := callSpecial? (.ref e) (Str.ofString "__str__")) (special_own X he hc hs slot_bexc.bind (callBexc_own X he hc hd h0 ht hm ?_))
      exact wpAny_pure ⟨_, _, rfl, hq⟩
    exact wpAny_bind (wpAny_mono key (fun r s₁ hr => wpAny_pure hr) fun _ _ y => y)
  · rintro obj s₁ ⟨y, u, rfl, hq⟩
    exact ⟨typeIs_str _ _ _, PySem.F.args_object_init_2 _ _, object_init_meets PySem.F.called_str.init.lookup PySem.F.called_str.made (by decide) prog w A.in1 _ s₁ ⟨typeIs_str _ _ _, rfl, hq⟩⟩
theorem str_got {m : Str} {tk : Tok} {Q : Value → Shared → Prop} {h₀ : Heap} {L : Addr} {news : List (Addr × Obj)} (hu : A.in1.in1.units < cLine) (X : K.In s.heap) (N : News h₀ L s.heap news) (G : Got news e t (.ref C) [.str m tk])
    (hs : findIn K (.ref C) "__str__" = some (some (.builtin "BaseException.__str__"))) (hm : mroIn K C (.type "BaseException") = some true) (hq : Q (.str m tk) s) :
    wpAny (model prog w) A (call (.type "str") [.ref e]) Q E s := by
  obtain ⟨oe, ot, ws, nt, h1, h2, hc, hd, h0, htc, htd⟩ := G
  exact str_own hu X (N.get h1) hc hd h0 ⟨ot, nt, N.get h2, htc, htd⟩ hs hm hq
end
end
section
/-! a handler in a def that is called: from what its body's own contracts say -/
theorem below_hide {A₀ : Around} {base g : Heap} {outer : List Env} (K : Below A₀ base outer g) : Below A₀ (hideAll g (outer.filterMap (·.frame))) outer g :=
  ⟨K.stack, fun b o e => of_hideAll _ e, funFrames_hide K.frames fun env he b hb => List.mem_filterMap.mpr ⟨env, he, hb⟩⟩
theorem raised_hide {A₀ : Around} {base g G h : Heap} {outer : List Env} {name : Str} {scope : Scope} {L a e t : Addr} {cd cls : Value} {vs : List Value} (K : Below A₀ base outer g) (Hx : ∀ b o, G.get? b = some o → b = L ∨ g.get? b = some o)
    (R : RaisedK (hideAll g (outer.filterMap (·.frame))) (envOf name scope L a cd :: outer) e cls t vs [] h) : RaisedS base G (envOf name scope L a cd :: outer) e cls t vs [] h := by
  obtain ⟨⟨B, hB, _, hfl, hnew⟩, htup⟩ := R
  refine ⟨⟨B, fun b o q => hB b o (hideAll_get _ (K.stays b o q) fun hm => ?_), fun b o q nm => ?_, fun _ h => (nomatch h), hfl, hnew⟩, htup⟩
  · rw [(K.frames.mem hm).1] at q; cases q
  · rcases Hx b o q with rfl | q'
    · exact (nm (List.mem_filterMap.mpr ⟨envOf name scope b a cd, List.mem_cons_self, rfl⟩)).elim
    · refine hB b o (hideAll_get _ q' fun hm => nm ?_)
      obtain ⟨env, he, hf⟩ := List.mem_filterMap.mp hm
      exact List.mem_filterMap.mpr ⟨env, List.mem_cons_of_mem _ he, hf⟩
/-- back in the caller: its own frame has changed its slots alone -/
theorem turn_back {h₀ g g' h' : Heap} {L L' : Addr} {m m' : Str → Option Value} (F : Fr h₀ L g m) (T : KtsTurn [L] g g') (F' : Fr g' L' h' m') : Fr h₀ L h' m ∧ ∀ news, News h₀ L g news → News h₀ L h' news := by
  have hL : h₀.get? L = none := Heap.get?_none_of_le F.above
  refine ⟨⟨?_, fun b o e => F'.keep _ _ (T.other b o (F.keep b o e) fun hm => ?_), F.above⟩, fun news N p hp => ⟨F'.keep _ _ (T.other _ _ (N p hp).1 fun hm => (N p hp).2.1 (List.mem_singleton.mp hm)), (N p hp).2⟩⟩
  · obtain ⟨o, es, ep, ho, hd, r⟩ := F.ns
    obtain ⟨sl, hs⟩ := T.frame L o ho (List.mem_singleton.mpr rfl)
    exact ⟨_, es, ep, F'.keep _ _ hs, hd, r⟩
  · rw [List.mem_singleton.mp hm, hL] at e; cases e
theorem dicts_of {h₀ g : Heap} {L : Addr} {m : Str → Option Value} (F : Fr h₀ L g m) : KtsDicts [L] g := fun b hb => by
  obtain ⟨o, es, ep, ho, hd, _⟩ := F.ns
  rw [List.mem_singleton.mp hb]
  exact ⟨o, es, ep, ho, hd⟩
theorem code_defT {prog : Program} {w : World} {A A₀ : Around} {s : Shared} {K : Frag} {L : Addr} {h₀ base : Heap} {m mg mb : Str → Option Value} {p : Program} {loose : List Str} {mean : ExcName → Option Value}
    {env : Env} {outer : List Env} {R : Result → Shared → Prop} {name qual : Str} {params : Arguments} {body : List Stmt} {scope : Scope} {dV kV doc pm cdv ct oc : Value} {an od : Option Addr} {osl : Array (Option Value)} {f : Addr} {args : Args} {binds : List (Str × Value)}
    (B : Below A₀ base outer h₀) (F : Fr h₀ L s.heap m) (X₀ : K.In h₀) (T : Top p loose mean mg mb h₀) (hA : A.frames = some (env :: outer)) (hf : env.frame = some L) (hke : env.scope.kind = .function)
    (ho : K.lookup f = some ⟨oc, od, .func (fnOf name qual params body scope dV kV doc pm an cdv ct), osl⟩) (hcd : codeIn K cdv qual = true) (hroom : A.depth < recursionLimit)
    (hbind : BindsTo s (fnOf name qual params body scope dV kV doc pm an cdv ct) args binds) (hloc : ∀ y ∈ binds, scope.names.lookup y.1 = some .local)
    (h : ∀ L' h₁, (∀ b o, h₁.get? b = some o → b = L' ∨ s.heap.get? b = some o) → Fr s.heap L' h₁ (fun y => binds.reverse.lookup y) → News s.heap L' h₁ [] → Below A base (env :: outer) s.heap → K.In s.heap → Top p loose mean mg mb s.heap →
      wpAny (model prog w) (A.deeper (envOf qual scope L' f cdv)) (execs body (envOf qual scope L' f cdv))
        (fun fl s' => R (.ok (.ret (match fl with | .ret v => v | _ => .none))) s')
        (fun e s' => wpAny (model prog w) (A.deeper (envOf qual scope L' f cdv)) (leaving (envOf qual scope L' f cdv) e) (fun _ s'' => R (.error e) s'') (fun e' s'' => R (.error e') s'') s')
        { s with heap := h₁, toks := s.toks + binds.length })
    (hco : scope.isCoroutine = false) (hgen : scope.isGenerator = false) (hk : scope.kind = .function)
    (hcell : ∀ x ∈ scope.names, x.2 ≠ .cell) : codeAny (model prog w) A (.call (.ref f) args) R s := by
  have N : News h₀ L s.heap [] := News.nil
  obtain ⟨FG, BG, st, lv⟩ := groundX (R := R) B F N hA hf hke
  have X₁ : K.In s.heap := X₀.keeps F.keep
  refine codeAny_call_function hroom (X₁ _ _ ho) rfl hco hgen rfl (codeRec_of X₁ hcd) (hbind _ _ _ _ ?_)
  refine wpAny_newFunctionEnv hcell hloc (fun h₁ hns hsb => ?_) hk
  have hk₁ : ∀ b o, s.heap.get? b = some o → h₁.get? b = some o := fun b o e => hsb.extBut b o (Nat.ne_of_lt (Heap.lt_size e)) (Heap.get?_push_of_some _ e)
  refine ⟨(T.nolimit.keeps F.keep).keeps hk₁, codeAny_func ?_⟩
  refine h s.heap.objs.size h₁ (fun b o e => ?_) ⟨hns, hk₁, Nat.le_refl _⟩ News.nil BG X₁ (T.keeps F.keep)
  by_cases hb : b = s.heap.objs.size
  · exact .inl hb
  · refine .inr ?_
    rw [hsb.2 b hb] at e
    exact (Heap.get?_push_cases e).elim (fun x => absurd x.1 hb) id
/-- one call of _law_told from the outermost frame: its handler may have noted the frames -/
noncomputable def CtT (w : World) (mean : ExcName → Option Value) (mg mb : Str → Option Value) (f : Addr) (vs : List Value) (d u : Nat) (Pre : Heap → Prop) (R : Except Str (Array UInt8)) : Prop :=
  ∀ (dp un : Nat) (gd : Option (List Code)) (cn : Str) (cs : Scope) (a : Addr) (ccd : Value) (cl : List (Str × Addr)) (A₀ : Around) (h₀ : Heap) (L : Addr) (m : Str → Option Value) (s : Shared) (Q E : Value → Shared → Prop),
    Below A₀ h₀ [] h₀ → Fr h₀ L s.heap m → (hd.heap_39 w.params).In h₀ → TopM mean mg mb h₀ → cs.kind = .function → dp + d < recursionLimit → un + u < cLine → Pre s.heap →
      (∀ bs t h' tk', R = .ok bs → Fr h₀ L h' m → (∀ news, News h₀ L s.heap news → News h₀ L h' news) → Q (.bytes bs t) { s with heap := h', toks := tk' }) →
      (∀ msg t h' tk', R = .error msg → Fr h₀ L h' m → (∀ news, News h₀ L s.heap news → News h₀ L h' news) → Q (.str msg t) { s with heap := h', toks := tk' }) →
      wpAny (model PySem.Challenge.rw_ko0001_01.row.prog w) (ktrTop dp un gd cn cs L a ccd cl []) (call (.ref f) vs) Q E s
theorem stays_back {h₀ g h' : Heap} {L : Addr} {m : Str → Option Value} (F : Fr h₀ L g m) (st : g.StaysIn h') : Fr h₀ L h' m ∧ ∀ news, News h₀ L g news → News h₀ L h' news :=
  ⟨F.keeps st, fun _ N p hp => ⟨st _ _ (N p hp).1, (N p hp).2⟩⟩
end
section
theorem fill_D12_63 : True := by
  w_top off
  k_with_none
  k_with "M enter" => (refine' code_defM (by (k_asm)) (by (k_asm)) (by (k_asm)) (by (k_asm)) (by (exact rfl)) (by (exact rfl)) (by (assumption)) (by (k_is)) (by (k_is)) (by (ktr_room)) (by (first | exact BindsTo.of_eq rfl | exact binds_K (by k_in) rfl (by k_is) rfl rfl rfl)) (by (exact locs rfl)) ?_ (by (exact rfl)) (by (exact rfl)) (by (exact rfl)) (by (decide)); k_whole; intro L' h' F' N' B' X' T'; (try dsimp only); (try k_fold))
  k_with "M enter2" => ((case kA => exact rfl); (case kF => exact rfl); (case kK => assumption); (case k1 => k_asm); (case k2 => k_asm); (case k3 => k_asm); (case k5 => k_asm); (case k6 => k_is); (case k7 => k_is); (case k8 => ktr_room); (case k9 => first | exact BindsTo.of_eq rfl | exact binds_K (by k_in) rfl (by k_is) rfl rfl rfl); (case c5 => decide); (case kB => exact locs rfl); (case c2 => exact rfl); (case c3 => exact rfl); (case c4 => exact rfl); k_whole; intro L' h' F' N' B' X' T'; (try dsimp only); (try k_fold))
  k_with "call type:type" => (k_here; (with_reducible show wpAny _ _ (call (Value.type "type") [Value.bytes _ _]) _ _ _); refine call_type_of (PySem.W.typeIs_bytes _ _ _) (by decide +kernel) ?_)
  k_with "M ba" => (first | exact Fr.keep (by assumption) _ _ (by assumption) | assumption)
  k_with "call type:type" => (k_here; (with_reducible show wpAny _ _ (call (Value.type "type") [Value.ref _]) _ _ _); k_dflt (refine' kto_cont (T := "bytearray") (by ((refine' kitAt_ba (by (walk_at "M ba"))))) (by (decide +kernel)) ?_; k_whole))
  k_with "call builtin:isinstance" => (k_here; (with_reducible show wpAny _ _ (call _ [Value.ref _, Value.ref _]) _ _ _); kit_ncls; k_dflt (refine' kia_tup kitx_ba (by (k_in)) (by ((refine' kitAt_ba (by (walk_at "M ba"))))) (by (kit_tp)) (by (kit_is)) (by (kit_nb)) ?_; k_whole; intro _))
  k_with "call builtin:isinstance" => (k_here; (with_reducible show wpAny _ _ (call _ [Value.ref _, Value.type _]) _ _ _); k_dflt (refine' kia_one kitx_ba (by (k_in)) (by ((refine' kitAt_ba (by (walk_at "M ba"))))) (by (kit_is)) (by (kit_nb)) ?_; k_whole; intro _))
  k_with "call type:bytes" => (k_here; (with_reducible show wpAny _ _ (call (Value.type "bytes") [Value.ref _]) _ _ _); k_dflt (refine' ba_bytes (k := 0) (by (walk_at "M ba")) (by (assumption)) ?_; k_whole; intro _ _))
  k_with "getMethod str" => (k_here; with_reducible refine en_method ?_)
  k_with "call builtin:str.encode" => (k_here; (with_reducible show wpAny _ _ (call (Value.builtin "str.encode") [Value.str _ _, Value.str _ _]) _ _ _); refine' en_call (by (assumption)) (by (assumption)) ?_; intro _ _)
  k_with "getMethod bytes" => (k_here; with_reducible refine tr_method ?_)
  k_with "call builtin:bytes.translate" => (k_here; (with_reducible show wpAny _ _ (call (Value.builtin "bytes.translate") [Value.bytes _ _, Value.bytes _ _]) _ _ _); refine' trM (by (first | rfl | decide +kernel)) (by (decide +kernel)) (by (assumption)) ?_; intro _ _)
  k_with "binaryOp LShift int int" => (k_here; (with_reducible refine shlM (by (decide)) (by (decide)) (by (omega)) ?_))
  k_with "binaryOp RShift int int" => (k_here; (with_reducible refine shrM (by (first | decide | omega)) ?_))
  k_with "call builtin:list.append" => (k_here; (with_reducible show wpAny _ _ (call (Value.builtin _) [Value.ref _, Value.int _ _]) _ _ _); k_dflt (refine' append_K (by (k_asm)) (by (k_asm)) (by (k_upd)) ?_ (by ((simp only [List.size_toArray, List.length_append, List.length_cons, List.length_nil, sizeLine_eq]; omega))); k_whole); intro h' F' N'; (try simp only [List.push_toArray] at N'); (try k_sweep))
  k_with "call builtin:len" => (k_here; (with_reducible show wpAny _ _ (call (Value.builtin "len") [Value.ref _]) _ _ _); k_dflt (refine' lenM (News.isList (by (k_asm)) (by (k_mem))) (by (with_reducible assumption)) (by (omega)) ?_; k_whole))
  k_with "call type:bytes" => (k_here; (with_reducible show wpAny _ _ (call (Value.type "bytes") [Value.ref _]) _ _ _); k_dflt (refine' bytesM (by (k_asm)) (by (k_asm)) (News.isList (by (k_asm)) (by (k_mem))) (by (with_reducible assumption)) (by (with_reducible assumption)) (by (omega)) rfl ?_; k_whole); intro h' t' k' F' N'; (try k_sweep))
  k_with "binaryOp BitAnd int int" => (k_here; (with_reducible refine andM ?_))
  k_with "binaryOp BitOr int int" => (k_here; (with_reducible refine orM' ?_))
  k_with "M enterC" => ((case kA => exact rfl); (case kF => exact rfl); (case kK => assumption); (case k1 => k_asm); (case k2 => k_asm); (case k3 => k_asm); (case k5 => k_asm); (case k6 => k_is); (case k7 => k_is); (case k8 => ktr_room); (case k9 => first | exact BindsTo.of_eq rfl | exact binds_K (by k_in) rfl (by k_is) rfl rfl rfl); (case kB => exact rfl); (case kD => decide +kernel); (case c2 => exact rfl); (case c3 => exact rfl); (case c4 => exact rfl); k_whole; intro L' h' tk' cells' F' N' Y' B' X' T'; k_cells Y'; (try simp only [List.cons_append, List.nil_append] at N'); (try dsimp only); (try k_fold))
  k_with "call builtin:len" => (k_here; (with_reducible show wpAny _ _ (call (Value.builtin "len") [Value.ref _]) _ _ _); k_dflt (refine' lenM (stays_list (stays_of (by (k_asm))) (by (with_reducible assumption))) (by (with_reducible assumption)) (by (omega)) ?_; k_whole))
  k_with "eval Name" => (k_here; k_dflt (refine' nameX_L (by (k_asm)) (@rfl _ (some _)) ?_ (by (rfl)) (by (rfl)); k_whole))
  k_with "M call" => ((case k1 => k_asm); (case k2 => k_asm); (case k3 => k_asm); (case k4 => k_asm); (case k5 => k_asm); (case kK => first | exact rfl | assumption); (case kd => ktr_room); (case ku => ktr_units))
  k_with "M back" => (intro r9 h9 tk9 F9 N9 S9 P9; (try dsimp only at P9); (first | (obtain ⟨t9, e9⟩ := P9; subst e9) | subst P9); clear S9; (try dsimp only); (try k_sweep))
  k_with "M dat" => (first | exact Dat.keep (by assumption) (Fr.keep (by assumption)) | assumption)
  k_with "M giv" => (first | exact Giv.bytes _ _ _ | exact Giv.keep (by assumption) (Fr.keep (by assumption)) | assumption)
  k_with "call ref" => (k_here; (with_reducible show wpAny _ _ (call (Value.ref 70) [Value.int _ _]) _ _ _); k_dflt (refine' Ct.use (b64_value_ok _ _ _ _ _ _) (by (k_asm)) (by (k_asm)) (by (k_asm)) (by (k_asm)) (by (k_asm)) (by (first | exact rfl | assumption)) (by (ktr_room)) (by (ktr_units)) trivial ?_; walk_at "M back"))
  k_with "call ref" => (k_here; (with_reducible show wpAny _ _ (call (Value.ref 63) [Value.bool _]) _ _ _); k_dflt (refine' Ct.use (truth_ok _ _ _ _) (by (k_asm)) (by (k_asm)) (by (k_asm)) (by (k_asm)) (by (k_asm)) (by (first | exact rfl | assumption)) (by (ktr_room)) (by (ktr_units)) trivial ?_; walk_at "M back"))
  k_with "call ref" => (k_here; (with_reducible show wpAny _ _ (call (Value.ref 49) [_]) _ _ _); k_dflt (refine' Ct.use (ascii_any _ _ (by (assumption))) (by (k_asm)) (by (k_asm)) (by (k_asm)) (by (k_asm)) (by (k_asm)) (by (first | exact rfl | assumption)) (by (ktr_room)) (by (ktr_units)) (by (walk_at "M dat")) ?_; walk_at "M back"))
  k_with "call ref" => (k_here; (with_reducible show wpAny _ _ (call (Value.ref 29) [_]) _ _ _); k_dflt (refine' from_use (by (assumption)) (by (exact Fr.keep (by assumption))) (by (k_asm)) (by (k_asm)) (by (k_asm)) (by (k_asm)) (by (k_asm)) (by (first | exact rfl | assumption)) (by (ktr_room)) (by (ktr_units)) ?_); intro r9 h9 tk9 F9 N9 D9; (try dsimp only); (try k_sweep))
  k_with "call ref" => (k_here; (with_reducible show wpAny _ _ (call (Value.ref 29) [Value.bytes _ _]) _ _ _); k_dflt (refine' Ct.use (from_bytes_ok _ _ _ _ _ _) (by (k_asm)) (by (k_asm)) (by (k_asm)) (by (k_asm)) (by (k_asm)) (by (first | exact rfl | assumption)) (by (ktr_room)) (by (ktr_units)) trivial ?_; walk_at "M back"))
  k_with "exec Try" => (k_here; refine wpAny_Try_except ?_)
  k_with "call ref" => (k_here; (with_reducible show wpAny _ _ (call (Value.ref 116) [_]) _ _ _); k_dflt (refine' CtD.use (sdec_any _ _ _ _ _ _ (by (assumption)) (by (assumption))) (below_hide (by (k_asm))) (by (k_asm)) (by (k_asm)) (by (k_asm)) (by (k_asm)) (by (first | exact rfl | assumption)) (by (ktr_room)) (by (ktr_units)) (by (walk_at "M giv")) ?ret ?err; skip); (case' ret => (intro bs9 t9 h9 tk9 e9 F9 N9; (try dsimp only); (try k_sweep))); (case' err => (intro msg9 x9 tu9 tm9 h9 tk9 e9 R9 U9; (try dsimp only))))
  trivial
theorem told_giv (w : World) (mean : ExcName → Option Value) (mg mb : Str → Option Value) (b : Array UInt8) (v : Value) (hb : ∀ c ∈ b, c ≠ 61) (hz : b.size ≤ sizeLine) :
    CtT w mean mg mb 140 [v] 40 300 (fun h => Giv b h v) (decR (figs (KBw.bInts b))) := by
  unfold CtT
  intro dp un gd cn cs a ccd cl A₀ h₀ L m s Q E B F X T hk hdp hun hpre hok herr
  refine wpAny_call ?_
  have XB := X
  have TB := T
  dsimp only [TopM] at T
  (try dsimp only at hpre)
  k_dflt (refine' code_defT (binds := [(Str.ofString "given", v)]) ?k1 ?k2 ?k3 ?k5 ?kA ?kF ?kK ?k6 ?k7 ?k8 ?k9 ?kB ?_ ?c2 ?c3 ?c4 ?c5; (case kA => exact rfl); (case kF => exact rfl); (case kK => assumption); (case k1 => k_asm); (case k2 => k_asm); (case k3 => k_asm); (case k5 => k_asm); (case k6 => k_is); (case k7 => k_is); (case k8 => ktr_room); (case k9 => first | exact BindsTo.of_eq rfl | exact binds_K (by k_in) rfl (by k_is) rfl rfl rfl); (case c5 => decide); (case kB => exact locs rfl); (case c2 => exact rfl); (case c3 => exact rfl); (case c4 => exact rfl); k_whole; intro L' h' Hx F' N' B' X' T'; (try dsimp only); (try k_fold))
  k_steps
  case err => (
    dsimp only [TopM] at TB
    (with_reducible rename RaisedK _ _ _ _ _ _ _ _ => R8)
    (with_reducible rename Heap.UpToSlots _ _ => U8)
    (with_reducible rename Below _ _ [_] _ => B8)
    (with_reducible rename Fr s.heap _ _ _ => F8)
    have R7 := raised_hide B8 Hx R8
    refine' caught_SOB (KF := hd.heap_39 w.params) (g₀ := s.heap) R7 F8 B8 U8 XB TB (dicts_of F) KtsTurn.refl (by k_is) (by rfl) ?_
    intro h7 g7 news7 tk7 KT7 F7 N7 G7 M7 K7 X7 T7 D7
    (try dsimp only)
    k_steps
    refine' str_got ?u ?X ?N ?G ?s ?m ?_
    (case G => with_reducible assumption)
    (case u => ktr_units)
    (case X => k_in)
    (case N => k_asm)
    (case s => k_is)
    (case m => k_is)
    k_steps
    refine' herr _ _ _ _ (by with_reducible assumption) (turn_back F KT7 (by assumption)).1 (turn_back F KT7 (by assumption)).2)
  refine' hok _ _ _ _ (by with_reducible assumption) (stays_back F (stays_of (by assumption))).1 (stays_back F (stays_of (by assumption))).2
end
section
/-! an argument's own call on the clean stacks -/
section
variable {M : Model} {A : Around} {E : Value → Shared → Prop} {s : Shared} {env : Env}
theorem wpC_args_nil {pos : Pos} {Q : List Value → Shared → Prop} (h : Q [] s) : wpC M A (spliced (backTo pos (starEach [] env))) Q E s := wpC_of (Calls.spliced_nil h)
theorem wpC_args_cons {e : Expr} {rest : List Expr} {pos : Pos} {Q : List Value → Shared → Prop}
    (h : wpC M A (eval e env) (fun v s₁ => wpC M A (spliced (backTo pos (starEach rest env))) (fun vs s₂ => Q (v :: vs) s₂) E s₁) E s)
    (he : starEach (e :: rest) env = (false, eval e env) :: starEach rest env := by rfl) : wpC M A (spliced (backTo pos (starEach (e :: rest) env))) Q E s := by
  rw [he]
  show wpC M A (spliced ((false, eval e env) :: backTo pos (starEach rest env))) Q E s
  rw [spliced]
  refine wpC_bind (wpC_mono h (fun v s₁ h₁ => ?_) fun _ _ x => x)
  simp only [Bool.false_eq_true, if_false]
  exact wpC_then (wpAny_pure (wpC_bind (wpC_holding (wpC_mono h₁ (fun vs s₂ h₂ => wpC_pure h₂) fun _ _ x => x))))
theorem wpC_Tuple {elts : List Expr} {k : Nat} {pos : Pos} {Q : Value → Shared → Prop}
    (h : wpC M A (spliced (backTo pos (starEach elts env))) (fun vs s₁ => wpC M A (newTuple vs) Q E s₁) E s) : wpC M A (eval (.Tuple elts k pos) env) Q E s := by
  show wpC M A (do standAt pos; newTuple (← spliced (backTo pos (starEach elts env)))) Q E s
  exact wpC_then (wpAny_standAt (wpC_bind h))
/-- `T(e)` of a built-in type: its argument by the library's rules, its call on the clean stacks -/
theorem wpC_CallType {x : Str} {p pos : Pos} {T : String} {e : Expr} {Q : Value → Shared → Prop}
    (hf : ∀ {Q' : Value → Shared → Prop}, Q' (.type T) s → wpAny M A (eval (.Name x p) env) Q' E s)
    (h : wpAny M A (eval e env) (fun v s₁ => wpC M A (call (.type T) [v]) Q E s₁) E s)
    (he : starEach [e] env = [(false, eval e env)] := by rfl)
    (hc : eval (.Call (.Name x p) [e] [] pos) env = (do callWith pos (← eval (.Name x p) env) [] (backTo pos (starEach [e] env)) (backToKw pos (keywordEach [] env))) := by rfl) :
    wpC M A (eval (.Call (.Name x p) [e] [] pos) env) Q E s := by
  rw [hc]
  refine wpC_then (hf ?_)
  rw [he]
  show wpC M A (callWith pos (.type T) [] [(false, eval e env)] []) Q E s
  unfold callWith
  refine wpC_bind (wpC_holding (wpC_of (Calls.evalArgs_plain (Calls.spliced_cons (wpAny_mono h (fun v s₁ h₁ => Calls.spliced_nil ?_) fun _ _ x => x)))))
  refine wpC_then (wpAny_standAt ?_)
  simp only [List.any_cons, List.any_nil, Bool.or_false]
  refine wpC_then (wpAny_pure ?_)
  exact wpC_bind (wpC_mono h₁ (fun r s₂ hr => wpC_bind (wpC_holding (wpC_of (wpAny_point (wpC_pure hr))))) fun _ _ x => x)
end
end
section
/-! the mixed writing: plain facts and its loop -/
theorem sg43 : ∀ f : Fin 64, b64v (sg [43, 47] (f.val : Int)) = (f.val : Int) := by decide +kernel
theorem sg43' : ∀ f : Fin 64, 0 ≤ sg [43, 47] (f.val : Int) ∧ sg [43, 47] (f.val : Int) < 128 ∧ sg [43, 47] (f.val : Int) ≠ 61 := by decide +kernel
theorem sg45' : ∀ f : Fin 64, 0 ≤ sg [45, 95] (f.val : Int) ∧ sg [45, 95] (f.val : Int) < 128 ∧ sg [45, 95] (f.val : Int) ≠ 61 := by decide +kernel
theorem sg45 : ∀ f : Fin 64, b64v (sg [45, 95] (f.val : Int)) = if (f.val : Int) < 62 then (f.val : Int) else 64 := by decide +kernel
theorem getD_in64' {fs : List Int} (h : In64 fs) (k : Nat) : 0 ≤ fs.getD k 0 ∧ fs.getD k 0 < 64 := by
  rw [List.getD_eq_getElem?_getD]
  cases e : fs[k]? with
  | none => exact ⟨by decide, by decide⟩
  | some v => exact h v (List.mem_of_getElem? e)
structure PInv (k j : Nat) (ms ls : List Int) : Prop where
  fg : figs ms = ls
  fr : ∀ n ∈ ms, 0 ≤ n ∧ n < 128 ∧ n ≠ 61
  l64 : In64 ls
  ml : ms.length ≤ k
  ll : ls.length ≤ j
theorem PInv.nil : PInv 0 0 [] [] := ⟨rfl, (fun _ h => nomatch h), (fun _ h => nomatch h), Nat.le_refl _, Nat.le_refl _⟩
theorem PInv.weak {k j k' j' : Nat} {ms ls : List Int} (h : PInv k j ms ls) (h1 : k ≤ k') (h2 : j ≤ j') : PInv k' j' ms ls := ⟨h.fg, h.fr, h.l64, Nat.le_trans h.ml h1, Nat.le_trans h.ll h2⟩
theorem all_more {p : Int → Prop} {ms : List Int} {c : Int} (h : ∀ n ∈ ms, p n) (hc : p c) : ∀ n ∈ ms ++ [c], p n := fun n hn => by
  rcases List.mem_append.mp hn with hn | hn
  · exact h n hn
  · rw [List.mem_singleton.mp hn]; exact hc
theorem PInv.skip {k j : Nat} {ms ls : List Int} {c : Int} (h : PInv k j ms ls) (hc : 0 ≤ c ∧ c < 128 ∧ c ≠ 61) (hv : b64v c = 64) : PInv (k + 1) j (ms ++ [c]) ls :=
  ⟨by rw [figs_skip (by rw [hv]; decide)]; exact h.fg, all_more h.fr hc, h.l64, by have := h.ml; simp; omega, h.ll⟩
theorem PInv.more {k j : Nat} {ms ls : List Int} {c f : Int} (h : PInv k j ms ls) (hc : 0 ≤ c ∧ c < 128 ∧ c ≠ 61) (hv : b64v c = f) (h0 : 0 ≤ f) (h1 : f < 64) : PInv (k + 1) (j + 1) (ms ++ [c]) (ls ++ [f]) :=
  ⟨by rw [figs_more (by rw [hv]; exact h1), h.fg, hv], all_more h.fr hc, all_more h.l64 ⟨h0, h1⟩, by have := h.ml; simp; omega, by have := h.ll; simp; omega⟩
theorem map_getD {fs : List Int} {ms : List Int} {k : Nat} (h : k < fs.length) : (fs.map (sg ms)).getD k 0 = sg ms (fs.getD k 0) := by
  rw [List.getD_eq_getElem?_getD, List.getElem?_map, List.getD_eq_getElem?_getD, List.getElem?_eq_getElem h]; rfl
theorem PInv.plain {fs ms ls : List Int} {k j i : Nat} {x : Int} (h : PInv k j ms ls) (hB : In64 fs) (hx : x = (i : Int)) (hi : i < fs.length) : PInv (k + 1) (j + 1) (ms ++ [(fs.map (sg [43, 47])).getD x.toNat 0]) (ls ++ [fs.getD x.toNat 0]) := by
  subst hx
  rw [Int.toNat_natCast, map_getD hi]
  have hf := getD_in64' hB i
  exact h.more (lift64 (p := fun f => 0 ≤ sg [43, 47] f ∧ sg [43, 47] f < 128 ∧ sg [43, 47] f ≠ 61) sg43' hf.1 hf.2) (lift64 (p := fun f => b64v (sg [43, 47] f) = f) sg43 hf.1 hf.2) hf.1 hf.2
theorem PInv.other {fs ms ls : List Int} {k j i : Nat} {x : Int} (h : PInv k j ms ls) (hB : In64 fs) (hx : x = (i : Int)) (hi : i < fs.length) (hn : ¬ fs.getD x.toNat 0 < 62) : PInv (k + 1) j (ms ++ [(fs.map (sg [45, 95])).getD x.toNat 0]) ls := by
  subst hx
  rw [Int.toNat_natCast] at hn ⊢
  rw [map_getD hi]
  have hf := getD_in64' hB i
  refine h.skip (lift64 (p := fun f => 0 ≤ sg [45, 95] f ∧ sg [45, 95] f < 128 ∧ sg [45, 95] f ≠ 61) sg45' hf.1 hf.2) ?_
  rw [lift64 (p := fun f => b64v (sg [45, 95] f) = if f < 62 then f else 64) sg45 hf.1 hf.2, if_neg hn]
theorem stN : ∀ k : Fin 6, 0 ≤ [10, 32, 9, 0, 46, 127].getD k.val (0 : Int) ∧ [10, 32, 9, 0, 46, 127].getD k.val (0 : Int) < 128 ∧ [10, 32, 9, 0, 46, 127].getD k.val (0 : Int) ≠ 61 ∧ b64v ([10, 32, 9, 0, 46, 127].getD k.val (0 : Int)) = 64 := by decide +kernel
theorem PInv.strange {ms ls : List Int} {k j : Nat} {y : Int} (h : PInv k j ms ls) (h0 : 0 ≤ y) (h6 : y < 6) : PInv (k + 1) j (ms ++ [[10, 32, 9, 0, 46, 127].getD y.toNat 0]) ls := by
  have := stN ⟨y.toNat, by omega⟩
  exact h.skip ⟨this.1, this.2.1, this.2.2.1⟩ this.2.2.2
structure PSt where
  mv : List Value
  mn : List Int
  km : Nat
  lv : List Value
  ln : List Int
  kl : Nat
  tv : Option Value
noncomputable def pSt (m₀ : Str → Option Value) (c : PSt) (y : Str) : Option Value := if y = Str.ofString "turn" then c.tv else m₀ y
noncomputable def pLed (lf mx : Addr) (rest : List (Addr × Obj)) (c : PSt) : List (Addr × Obj) := (lf, listOf c.lv.toArray c.kl) :: (mx, listOf c.mv.toArray c.km) :: rest
noncomputable def pI (i : Nat) (c : PSt) : Prop := PInv (2 * i) i c.mn c.ln ∧ IntsAre c.mv c.mn ∧ IntsAre c.lv c.ln
theorem range1_size (n : Nat) : Builtin.Range.rangeSize 0 (n : Int) 1 = ((n : Nat) : Int) := by
  unfold Builtin.Range.rangeSize
  simp only [show ((1 : Int) > 0) by decide, if_true]
  split <;> omega
theorem range1_small (n : Nat) (hz : n ≤ 1000000) : Builtin.Range.small 0 (n : Int) 1 = true := by
  have hs : 0 ≤ Builtin.Range.rangeSize 0 (n : Int) 1 ∧ Builtin.Range.rangeSize 0 (n : Int) 1 ≤ n := by rw [range1_size]; omega
  unfold Builtin.Range.small
  generalize Builtin.Range.rangeSize 0 (n : Int) 1 = z at *
  rw [if_pos (by decide), rfits (by decide) (by decide), rfits (i := (n : Int)) (by omega) (by omega), rfits (by decide) (by decide), rfits (i := z) (by omega) (by omega), rfits (i := (n : Int) + (1 - 1)) (by omega) (by omega)]
  simp
theorem place_loop {prog : Program} {w : World} {A : Around} {E : Value → Shared → Prop} {s : Shared} {env : Env} {h₀ : Heap} {x : Str} {body : List Stmt} {Q : Flow → Shared → Prop}
    {r : Addr} {t₀ u₀ v₀ : Tok} {m₀ : Str → Option Value} {lf mx : Addr} {rest : List (Addr × Obj)} {n : Nat} (hz : n ≤ 300) (hh : A.handled = none)
    (hr : IsRange s.heap r 0 (n : Int) 1 t₀ u₀ v₀) (F : Fr h₀ env.locals s.heap m₀) (N : News h₀ env.locals s.heap ((lf, listOf #[] 0) :: (mx, listOf #[] 0) :: rest))
    (turn : ∀ (i : Nat) (t : Tok) (tv : Option Value) (mv : List Value) (mn : List Int) (km : Nat) (lv : List Value) (ln : List Int) (kl : Nat) h tk own, i < n → mv.length ≤ 1000 → lv.length ≤ 1000 → PInv (2 * i) i mn ln → IntsAre mv mn → IntsAre lv ln → OwnOff own (lf :: mx :: rest.map (·.1)) →
      Fr h₀ env.locals h (fun y => if y = x then some (.int (i : Int) t) else if y = Str.ofString "turn" then tv else m₀ y) → News h₀ env.locals h ((lf, listOf lv.toArray kl) :: (mx, listOf mv.toArray km) :: (rest ++ own)) →
      wpAny (model prog w) A (execs body env) (InvPostN h₀ env.locals (Lj x (pSt m₀) (pLed lf mx rest) (pI (i + 1))) own (lf :: mx :: rest.map (·.1)) { s with heap := h, toks := tk } Q) E { s with heap := h, toks := tk })
    (done : ∀ u tv (mv : List Value) (mn : List Int) (km : Nat) (lv : List Value) (ln : List Int) (kl : Nat) h tk, PInv (2 * n) n mn ln → IntsAre mv mn → IntsAre lv ln → Fr h₀ env.locals h (fun y => if y = x then u else if y = Str.ofString "turn" then tv else m₀ y) → News h₀ env.locals h ((lf, listOf lv.toArray kl) :: (mx, listOf mv.toArray km) :: rest) → Q .next { s with heap := h, toks := tk }) :
    wpAny (model prog w) A (pyIter (.ref r)) (fun it s₂ => LoopAtV prog w A h₀ env x body Q E it s₂) E s := by
  have em : ∀ y, m₀ y = pSt m₀ ⟨[], [], 0, [], [], 0, m₀ (Str.ofString "turn")⟩ y := by
    intro y
    unfold pSt
    by_cases hy : y = Str.ofString "turn"
    · rw [if_pos hy, hy]
    · rw [if_neg hy]
  refine loopR (pSt m₀) (pLed lf mx rest) pI ⟨[], [], 0, [], [], 0, m₀ (Str.ofString "turn")⟩ (n := n) hh hr (range1_small n (by omega)) (range1_size n) F N (fun y _ => em y) ⟨PInv.nil, .nil, .nil⟩ ?_ ?_
  · rintro i t ⟨mv, mn, km, lv, ln, kl, tv⟩ h tk own hi ⟨hP, hM, hL⟩ _ hoff F₁ N₁
    have h1 := hM.length
    have h2 := hL.length
    have h3 := hP.ml
    have h4 := hP.ll
    dsimp only at h1 h2 h3 h4
    rw [Int.zero_add, Int.mul_one] at F₁
    exact turn i t tv mv mn km lv ln kl h tk own hi (by omega) (by omega) hP hM hL hoff F₁ N₁
  · rintro ⟨mv, mn, km, lv, ln, kl, tv⟩ u h tk ⟨hP, hM, hL⟩ F₁ N₁
    exact done u tv mv mn km lv ln kl h tk hP hM hL F₁ N₁
theorem allLt_ne {D : Addr} {tl : List (Addr × Obj)} (h : AllLt D tl) : ∀ p ∈ tl, p.1 ≠ D := by
  induction tl with
  | nil => exact fun _ h => nomatch h
  | cons a r ih =>
    intro p hp
    rcases List.mem_cons.mp hp with rfl | hp
    · exact Nat.ne_of_lt h.1
    · exact ih h.2 p hp
theorem fm_in {n : Nat} {a b : Int} (hb : b = (n : Int)) (h : 0 < n) : 0 ≤ a.fmod b ∧ a.fmod b < (n : Int) := by
  subst hb
  exact ⟨Int.fmod_nonneg_of_pos a (by omega), Int.fmod_lt_of_pos a (by omega)⟩
theorem fm_lo {n : Nat} {a : Int} (h : 0 < n) : 0 ≤ a.fmod (n : Int) := (fm_in rfl h).1
theorem fm_hi {n : Nat} {a : Int} (h : 0 < n) : a.fmod (n : Int) < (n : Int) := (fm_in rfl h).2
theorem fm6_lo (a : Int) : 0 ≤ a.fmod 6 := Int.fmod_nonneg_of_pos a (by decide)
theorem fm6_hi (a : Int) : a.fmod 6 < 6 := Int.fmod_lt_of_pos a (by decide)
theorem place_end {h₀ h' : Heap} {L lf mx : Addr} {x : Str} {m₀ m' : Str → Option Value} {rest own news' : List (Addr × Obj)} {mv lv : List Value} {mn ln : List Int} {km kl i tk : Nat} {s₁ : Shared}
    (F : Fr h₀ L h' m') (N : News h₀ L h' news') (hm : ∀ y, y ≠ x → y ≠ Str.ofString "turn" → m' y = m₀ y) (n0 : (lf, listOf lv.toArray kl) ∈ news') (n1 : (mx, listOf mv.toArray km) ∈ news') (n2 : ∀ p ∈ rest, p ∈ news') (ho : ∀ p ∈ own, p ∈ news')
    (hM : IntsAre mv mn) (hL : IntsAre lv ln) (hP : PInv (2 * (i + 1)) (i + 1) mn ln) :
    InvEndN h₀ L (Lj x (pSt m₀) (pLed lf mx rest) (pI (i + 1))) own (lf :: mx :: rest.map (·.1)) s₁ { s₁ with heap := h', toks := tk } := by
  refine turn_end ⟨mv, mn, km, lv, ln, kl, m' (Str.ofString "turn")⟩ F N (fun y hy => ?_) (fun p hp => ?_) ho rfl ⟨hP, hM, hL⟩
  · unfold pSt
    by_cases h1 : y = Str.ofString "turn"
    · rw [if_pos h1, h1]
    · rw [if_neg h1]; exact hm y hy h1
  · rcases List.mem_cons.mp hp with rfl | hp
    · exact n0
    rcases List.mem_cons.mp hp with rfl | hp
    · exact n1
    exact n2 p hp
end
section
/-! the plain law: encoding, decoding -/
theorem and_two (x y : Int) : Builtin.bitAnd (2 * x) y = 2 * Builtin.bitAnd x (y / 2) := by
  rw [kbt_halves, if_neg (by omega)]
  rw [show 2 * x / 2 = x by omega]
  omega
theorem and_zero (x : Int) : Builtin.bitAnd x 0 = 0 := by
  have := PyProof.Rows.bitAnd_range x (y := 0) (by decide)
  omega
theorem and_high (a n : Int) (h0 : 0 ≤ n) (h1 : n < 256) : Builtin.bitAnd (a * 256) n = 0 := by
  rw [show a * 256 = 2 * (2 * (2 * (2 * (2 * (2 * (2 * (2 * a))))))) by omega]
  simp only [and_two]
  rw [show n / 2 / 2 / 2 / 2 / 2 / 2 / 2 / 2 = 0 by omega, and_zero]
  rfl
theorem or_add (x y : Int) (h : Builtin.bitAnd x y = 0) : Builtin.bitOr x y = x + y := by
  have := PyProof.Rows.bitXor_and x y
  unfold Builtin.bitXor at this
  rw [h] at this
  omega
theorem push8 (c n : Int) (h0 : 0 ≤ n) (h1 : n < 256) : bAnd (bOr (bShl c 8) n) 65535 = (c * 256 + n) % 65536 := by
  rw [bAnd_def, bOr_def, bShl_def, PyProof.Rows.bitAnd_m16, show (2 : Int) ^ Int.toNat 8 = 256 by decide, or_add _ _ (and_high c n h0 h1)]
theorem shr_and (c : Int) (k d : Int) (hd : (2 : Int) ^ k.toNat = d) (h : 0 ≤ d) : bAnd (bShr c k) 63 = c / d % 64 := by
  rw [bAnd_def, bShr_def, PyProof.Rows.bitAnd_m6, hd, Int.fdiv_eq_ediv_of_nonneg _ h]
theorem bStep3 {a b d c : Int} (o : List Int) (ha : 0 ≤ a ∧ a < 256) (hb : 0 ≤ b ∧ b < 256) (hd : 0 ≤ d ∧ d < 256) :
    ∃ c', bStep (bStep (bStep (0, c, o) a) b) d = (0, c', o ++ [b64c (a / 4), b64c (a % 4 * 16 + b / 16), b64c (b % 16 * 4 + d / 64), b64c (d % 64)]) := by
  simp only [bStep, if_true, if_false, show ¬ (2 : Int) = 0 by decide, show ¬ (4 : Int) = 0 by decide, show ¬ (4 : Int) = 2 by decide]
  simp only [push8 _ _ ha.1 ha.2, push8 _ _ hb.1 hb.2, push8 _ _ hd.1 hd.2]
  simp only [shr_and _ 2 4 (by decide) (by decide), shr_and _ 4 16 (by decide) (by decide), shr_and _ 6 64 (by decide) (by decide), shr_and _ 0 1 (by decide) (by decide)]
  refine ⟨_, Prod.ext rfl (Prod.ext rfl ?_)⟩
  dsimp only
  rw [List.append_assoc, List.append_assoc, List.append_assoc]
  rw [show (c * 256 + a) % 65536 / 4 % 64 = a / 4 by omega, show ((c * 256 + a) % 65536 * 256 + b) % 65536 / 16 % 64 = a % 4 * 16 + b / 16 by omega,
    show (((c * 256 + a) % 65536 * 256 + b) % 65536 * 256 + d) % 65536 / 64 % 64 = b % 16 * 4 + d / 64 by omega, show (((c * 256 + a) % 65536 * 256 + b) % 65536 * 256 + d) % 65536 / 1 % 64 = d % 64 by omega]
  rfl
/-- the figures, three bytes at a time -/
noncomputable def enc : List Int → List Int
  | a :: b :: d :: r => (a / 4) :: (a % 4 * 16 + b / 16) :: (b % 16 * 4 + d / 64) :: (d % 64) :: enc r
  | _ => []
theorem bRun_enc : ∀ (bs : List Int) (c : Int) (o : List Int), InB bs → bs.length % 3 = 0 → ∃ c', bs.foldl bStep (0, c, o) = (0, c', o ++ (enc bs).map b64c)
  | [], c, o, _, _ => ⟨c, by simp [enc]⟩
  | [_], _, _, _, h => by simp at h
  | [_, _], _, _, _, h => by simp at h
  | a :: b :: d :: r, c, o, h, hl => by
    obtain ⟨c1, e1⟩ := bStep3 (c := c) o (h a (by simp)) (h b (by simp)) (h d (by simp))
    obtain ⟨c2, e2⟩ := bRun_enc r c1 (o ++ [b64c (a / 4), b64c (a % 4 * 16 + b / 16), b64c (b % 16 * 4 + d / 64), b64c (d % 64)]) (fun n hn => h n (by simp [hn])) (by simp at hl; omega)
    refine ⟨c2, ?_⟩
    rw [List.foldl_cons, List.foldl_cons, List.foldl_cons, e1, e2]
    simp [enc]
theorem figT_cons3 (a b d : Int) (r : List Int) (i : Nat) : figT (a :: b :: d :: r) (i + 1) = figF (a * 65536 + b * 256 + d) ++ figT r i := by
  induction i with
  | zero => simp [figT, wordT]
  | succ i ih =>
    show figT (a :: b :: d :: r) (i + 1) ++ figF (wordT (a :: b :: d :: r) (i + 1)) = _ ++ (figT r i ++ figF (wordT r i))
    have e : wordT (a :: b :: d :: r) (i + 1) = wordT r i := by
      unfold wordT
      rw [show 3 * (i + 1) = 3 * i + 3 by omega]
      rfl
    rw [ih, List.append_assoc, e]
theorem figT_enc : ∀ (bs : List Int), InB bs → bs.length % 3 = 0 → figT bs (bs.length / 3) = enc bs
  | [], _, _ => rfl
  | [_], _, h => by simp at h
  | [_, _], _, h => by simp at h
  | a :: b :: d :: r, hin, h => by
    have hl : (a :: b :: d :: r).length = r.length + 3 := rfl
    rw [show (a :: b :: d :: r).length / 3 = r.length / 3 + 1 by omega, figT_cons3]
    rw [figT_enc r (fun n hn => hin n (by simp [hn])) (by omega)]
    have ha := hin a (by simp); have hb := hin b (by simp); have hd := hin d (by simp)
    show figF _ ++ enc r = (a / 4) :: (a % 4 * 16 + b / 16) :: (b % 16 * 4 + d / 64) :: (d % 64) :: enc r
    unfold figF
    rw [show (a * 65536 + b * 256 + d) / 262144 % 64 = a / 4 by omega, show (a * 65536 + b * 256 + d) / 4096 % 64 = a % 4 * 16 + b / 16 by omega, show (a * 65536 + b * 256 + d) / 64 % 64 = b % 16 * 4 + d / 64 by omega, show (a * 65536 + b * 256 + d) % 64 = d % 64 by omega]
    rfl
theorem enc_in64 : ∀ (bs : List Int), InB bs → In64 (enc bs)
  | [], _ => fun _ h => nomatch h
  | [_], _ => fun _ h => nomatch h
  | [_, _], _ => fun _ h => nomatch h
  | a :: b :: d :: r, hin => by
    have ha := hin a (by simp); have hb := hin b (by simp); have hd := hin d (by simp)
    have ih := enc_in64 r (fun n hn => hin n (by simp [hn]))
    intro n hn
    simp only [enc, List.mem_cons] at hn
    rcases hn with rfl | rfl | rfl | rfl | hn
    · omega
    · omega
    · omega
    · omega
    · exact ih n hn
theorem dec_enc : ∀ (bs : List Int), InB bs → bs.length % 3 = 0 → dec (enc bs) = bs
  | [], _, _ => rfl
  | [_], _, h => by simp at h
  | [_, _], _, h => by simp at h
  | a :: b :: d :: r, hin, h => by
    have ha := hin a (by simp); have hb := hin b (by simp); have hd := hin d (by simp)
    have ih := dec_enc r (fun n hn => hin n (by simp [hn])) (by simp at h; omega)
    simp only [enc, dec, ih]
    rw [show a / 4 * 4 + (a % 4 * 16 + b / 16) / 16 = a by omega, show (a % 4 * 16 + b / 16) % 16 * 16 + (b % 16 * 4 + d / 64) / 4 = b by omega, show (b % 16 * 4 + d / 64) % 4 * 64 + d % 64 = d by omega]
theorem enc_length : ∀ (bs : List Int), bs.length % 3 = 0 → (enc bs).length = bs.length / 3 * 4
  | [], _ => rfl
  | [_], h => by simp at h
  | [_, _], h => by simp at h
  | a :: b :: d :: r, h => by
    have ih := enc_length r (by simp at h; omega)
    simp only [enc, List.length_cons, ih]
    omega
theorem sg_b64c : ∀ f : Fin 64, sg [43, 47] (f.val : Int) = B64L.getD f.val 0 := by decide +kernel
theorem map_sg {fs : List Int} (h : In64 fs) : fs.map b64c = fs.map (sg [43, 47]) := by
  refine List.map_congr_left fun f hf => ?_
  have := h f hf
  rw [b64c_def]
  have e := sg_b64c ⟨f.toNat, by omega⟩
  dsimp only at e
  rw [← e, Int.toNat_of_nonneg this.1]
/-- what the encoder answers -/
theorem enc_plain {bs : List Int} (h : InB bs) (h3 : bs.length % 3 = 0) : byteArr (bRun (KBw.bInts (byteArr bs))).2.2 = byteArr ((enc bs).map (sg [43, 47])) := by
  rw [KBa.ints_make h]
  obtain ⟨c, e⟩ := bRun_enc bs 0 [] h h3
  unfold bRun
  rw [e]
  dsimp only
  rw [List.nil_append, map_sg (enc_in64 bs h)]
theorem figs_map {g : Int → Int} {p : Int → Bool} {fs : List Int} (hg : ∀ f ∈ fs, b64v (g f) = if p f = true then f else 64) (h : In64 fs) : figs (fs.map g) = fs.filter p := by
  induction fs with
  | nil => rfl
  | cons f r ih =>
    have ih' := ih (fun x hx => hg x (by simp [hx])) (fun x hx => h x (by simp [hx]))
    have hf := hg f (by simp)
    have h6 := h f (by simp)
    unfold figs at ih' ⊢
    simp only [List.map_cons, List.filter_cons, hf]
    cases hp : p f with
    | true =>
      simp only [if_true]
      rw [if_pos (by simpa using h6.2), ih']
    | false =>
      simp only [Bool.false_eq_true, if_false]
      rw [if_neg (by simp), ih']
theorem figs_plain {fs : List Int} (h : In64 fs) : figs (fs.map (sg [43, 47])) = fs := by
  rw [figs_map (p := fun _ => true) (fun f hf => ?_) h]
  · simp
  · simp only [if_true]
    have := h f hf
    exact lift64 (p := fun f => b64v (sg [43, 47] f) = f) sg43 this.1 this.2
theorem figs_other {fs : List Int} (h : In64 fs) : figs (fs.map (sg [45, 95])) = fs.filter (fun f => decide (f < 62)) := by
  refine figs_map (fun f hf => ?_) h
  have := h f hf
  rw [lift64 (p := fun f => b64v (sg [45, 95] f) = if f < 62 then f else 64) sg45 this.1 this.2]
  simp
theorem decR_enc {bs : List Int} (h : InB bs) (h3 : bs.length % 3 = 0) : decR (enc bs) = .ok (byteArr bs) := by
  have hl := enc_length bs h3
  unfold decR
  rw [if_neg (by omega), if_pos (by omega), dec_enc bs h h3]
theorem sgn43 {fs : List Int} (h : In64 fs) : ∀ n ∈ fs.map (sg [43, 47]), 0 ≤ n ∧ n < 128 ∧ n ≠ 61 := fun n hn => by
  obtain ⟨f, hf, rfl⟩ := List.mem_map.mp hn
  have := h f hf
  exact lift64 (p := fun f => 0 ≤ sg [43, 47] f ∧ sg [43, 47] f < 128 ∧ sg [43, 47] f ≠ 61) sg43' this.1 this.2
theorem sgn45 {fs : List Int} (h : In64 fs) : ∀ n ∈ fs.map (sg [45, 95]), 0 ≤ n ∧ n < 128 ∧ n ≠ 61 := fun n hn => by
  obtain ⟨f, hf, rfl⟩ := List.mem_map.mp hn
  have := h f hf
  exact lift64 (p := fun f => 0 ≤ sg [45, 95] f ∧ sg [45, 95] f < 128 ∧ sg [45, 95] f ≠ 61) sg45' this.1 this.2
/-- signs: what a text of them is made of -/
noncomputable def Signs (ns : List Int) : Prop := ∀ n ∈ ns, 0 ≤ n ∧ n < 128 ∧ n ≠ 61
theorem Signs.inB {ns : List Int} (h : Signs ns) : ∀ n ∈ ns, 0 ≤ n ∧ n < 256 := fun n hn => by have := h n hn; omega
theorem Signs.ints {ns : List Int} (h : Signs ns) : KBw.bInts (byteArr ns) = ns := KBa.ints_make h.inB
theorem Signs.no61 {ns : List Int} (h : Signs ns) : ∀ c ∈ byteArr ns, c ≠ 61 := fun c hc => by
  unfold byteArr at hc
  rw [Array.mem_def] at hc
  obtain ⟨n, hn, rfl⟩ := List.mem_map.mp hc
  have := h n hn
  intro e
  have e2 := congrArg UInt8.toNat e
  have e3 : n.toNat.toUInt8.toNat = n.toNat := by simp [Nat.toUInt8]; omega
  rw [e3] at e2
  have : n.toNat = 61 := e2
  omega
theorem tr43 : ∀ f : Fin 64, trC ((sg [43, 47] (f.val : Int)).toNat.toUInt8) = (sg [43, 47] (f.val : Int)).toNat.toUInt8 := by decide +kernel
theorem tr45 : ∀ f : Fin 64, trC ((sg [45, 95] (f.val : Int)).toNat.toUInt8) = (sg [43, 47] (f.val : Int)).toNat.toUInt8 := by decide +kernel
theorem trU_map {g k : Int → Int} {fs : List Int} (h : ∀ f ∈ fs, trC ((g f).toNat.toUInt8) = (k f).toNat.toUInt8) : trU (byteArr (fs.map g)) = byteArr (fs.map k) := by
  rw [trU_def]
  unfold byteArr
  rw [List.map_toArray, List.map_map, List.map_map, List.map_map]
  congr 1
  exact List.map_congr_left fun f hf => h f hf
theorem trU_plain {fs : List Int} (h : In64 fs) : trU (byteArr (fs.map (sg [43, 47]))) = byteArr (fs.map (sg [43, 47])) :=
  trU_map fun f hf => lift64 (p := fun f => trC ((sg [43, 47] f).toNat.toUInt8) = (sg [43, 47] f).toNat.toUInt8) tr43 (h f hf).1 (h f hf).2
theorem trU_other {fs : List Int} (h : In64 fs) : trU (byteArr (fs.map (sg [45, 95]))) = byteArr (fs.map (sg [43, 47])) :=
  trU_map fun f hf => lift64 (p := fun f => trC ((sg [45, 95] f).toNat.toUInt8) = (sg [43, 47] f).toNat.toUInt8) tr45 (h f hf).1 (h f hf).2
theorem bne_no {l : List UInt8} (h : (l != l) = true) : False := by simp at h
theorem text_url {bs : List Int} {t1 t2 : Tok} {i : Nat} {v : Value} (hB : InB bs) (h3 : bs.length % 3 = 0) (hz : bs.length ≤ 195)
    (h : #[Value.bytes (byteArr ((enc bs).map (sg [45, 95]))) t2, Value.bytes (byteArr ((enc bs).map (sg [43, 47]))) t1][i]? = some v) :
    ∃ ns t, v = .bytes (byteArr ns) t ∧ trU (byteArr ns) = byteArr ((enc bs).map (sg [43, 47])) ∧ ns.length ≤ 1000 := by
  have hl := enc_length bs h3
  match i, h with
  | 0, h => exact ⟨_, _, (Option.some.inj h).symm, trU_other (enc_in64 bs hB), by rw [List.length_map]; omega⟩
  | 1, h => exact ⟨_, _, (Option.some.inj h).symm, trU_plain (enc_in64 bs hB), by rw [List.length_map]; omega⟩
  | i + 2, h => simp at h
end
section
theorem fill_C8_70 : True := by
  w_top off
  k_with_none
  k_with "M enter" => (refine' code_defM (by (k_asm)) (by (k_asm)) (by (k_asm)) (by (k_asm)) (by (exact rfl)) (by (exact rfl)) (by (assumption)) (by (k_is)) (by (k_is)) (by (ktr_room)) (by (first | exact BindsTo.of_eq rfl | exact binds_K (by k_in) rfl (by k_is) rfl rfl rfl)) (by (exact locs rfl)) ?_ (by (exact rfl)) (by (exact rfl)) (by (exact rfl)) (by (decide)); k_whole; intro L' h' F' N' B' X' T'; (try dsimp only); (try k_fold))
  k_with "M enter2" => ((case kA => exact rfl); (case kF => exact rfl); (case kK => assumption); (case k1 => k_asm); (case k2 => k_asm); (case k3 => k_asm); (case k5 => k_asm); (case k6 => k_is); (case k7 => k_is); (case k8 => ktr_room); (case k9 => first | exact BindsTo.of_eq rfl | exact binds_K (by k_in) rfl (by k_is) rfl rfl rfl); (case c5 => decide); (case kB => exact locs rfl); (case c2 => exact rfl); (case c3 => exact rfl); (case c4 => exact rfl); k_whole; intro L' h' F' N' B' X' T'; (try dsimp only); (try k_fold))
  k_with "call type:type" => (k_here; (with_reducible show wpAny _ _ (call (Value.type "type") [Value.bytes _ _]) _ _ _); refine call_type_of (PySem.W.typeIs_bytes _ _ _) (by decide +kernel) ?_)
  k_with "M ba" => (first | exact Fr.keep (by assumption) _ _ (by assumption) | assumption)
  k_with "call type:type" => (k_here; (with_reducible show wpAny _ _ (call (Value.type "type") [Value.ref _]) _ _ _); k_dflt (refine' kto_cont (T := "bytearray") (by ((refine' kitAt_ba (by (walk_at "M ba"))))) (by (decide +kernel)) ?_; k_whole))
  k_with "call builtin:isinstance" => (k_here; (with_reducible show wpAny _ _ (call _ [Value.ref _, Value.ref _]) _ _ _); kit_ncls; k_dflt (refine' kia_tup kitx_ba (by (k_in)) (by ((refine' kitAt_ba (by (walk_at "M ba"))))) (by (kit_tp)) (by (kit_is)) (by (kit_nb)) ?_; k_whole; intro _))
  k_with "call builtin:isinstance" => (k_here; (with_reducible show wpAny _ _ (call _ [Value.ref _, Value.type _]) _ _ _); k_dflt (refine' kia_one kitx_ba (by (k_in)) (by ((refine' kitAt_ba (by (walk_at "M ba"))))) (by (kit_is)) (by (kit_nb)) ?_; k_whole; intro _))
  k_with "call type:bytes" => (k_here; (with_reducible show wpAny _ _ (call (Value.type "bytes") [Value.ref _]) _ _ _); k_dflt (refine' ba_bytes (k := 0) (by (walk_at "M ba")) (by (assumption)) ?_; k_whole; intro _ _))
  k_with "getMethod str" => (k_here; with_reducible refine en_method ?_)
  k_with "call builtin:str.encode" => (k_here; (with_reducible show wpAny _ _ (call (Value.builtin "str.encode") [Value.str _ _, Value.str _ _]) _ _ _); refine' en_call (by (assumption)) (by (assumption)) ?_; intro _ _)
  k_with "getMethod bytes" => (k_here; with_reducible refine tr_method ?_)
  k_with "call builtin:bytes.translate" => (k_here; (with_reducible show wpAny _ _ (call (Value.builtin "bytes.translate") [Value.bytes _ _, Value.bytes _ _]) _ _ _); refine' trM (by (first | rfl | decide +kernel)) (by (decide +kernel)) (by (assumption)) ?_; intro _ _)
  k_with "binaryOp LShift int int" => (k_here; (with_reducible refine shlM (by (decide)) (by (decide)) (by (omega)) ?_))
  k_with "binaryOp RShift int int" => (k_here; (with_reducible refine shrM (by (first | decide | omega)) ?_))
  k_with "call builtin:list.append" => (k_here; (with_reducible show wpAny _ _ (call (Value.builtin _) [Value.ref _, Value.int _ _]) _ _ _); k_dflt (refine' append_K (by (k_asm)) (by (k_asm)) (by (k_upd)) ?_ (by ((simp only [List.size_toArray, List.length_append, List.length_cons, List.length_nil, sizeLine_eq]; omega))); k_whole); intro h' F' N'; (try simp only [List.push_toArray] at N'); (try k_sweep))
  k_with "call builtin:len" => (k_here; (with_reducible show wpAny _ _ (call (Value.builtin "len") [Value.ref _]) _ _ _); k_dflt (refine' lenM (News.isList (by (k_asm)) (by (k_mem))) (by (with_reducible assumption)) (by (omega)) ?_; k_whole))
  k_with "call type:bytes" => (k_here; (with_reducible show wpAny _ _ (call (Value.type "bytes") [Value.ref _]) _ _ _); k_dflt (refine' bytesM (by (k_asm)) (by (k_asm)) (News.isList (by (k_asm)) (by (k_mem))) (by (with_reducible assumption)) (by (with_reducible assumption)) (by (omega)) rfl ?_; k_whole); intro h' t' k' F' N'; (try k_sweep))
  k_with "binaryOp BitAnd int int" => (k_here; (with_reducible refine andM ?_))
  k_with "binaryOp BitOr int int" => (k_here; (with_reducible refine orM' ?_))
  k_with "M enterC" => ((case kA => exact rfl); (case kF => exact rfl); (case kK => assumption); (case k1 => k_asm); (case k2 => k_asm); (case k3 => k_asm); (case k5 => k_asm); (case k6 => k_is); (case k7 => k_is); (case k8 => ktr_room); (case k9 => first | exact BindsTo.of_eq rfl | exact binds_K (by k_in) rfl (by k_is) rfl rfl rfl); (case kB => exact rfl); (case kD => decide +kernel); (case c2 => exact rfl); (case c3 => exact rfl); (case c4 => exact rfl); k_whole; intro L' h' tk' cells' F' N' Y' B' X' T'; k_cells Y'; (try simp only [List.cons_append, List.nil_append] at N'); (try dsimp only); (try k_fold))
  k_with "call builtin:len" => (k_here; (with_reducible show wpAny _ _ (call (Value.builtin "len") [Value.ref _]) _ _ _); k_dflt (refine' lenM (stays_list (stays_of (by (k_asm))) (by (with_reducible assumption))) (by (with_reducible assumption)) (by (omega)) ?_; k_whole))
  k_with "eval Name" => (k_here; k_dflt (refine' nameX_L (by (k_asm)) (@rfl _ (some _)) ?_ (by (rfl)) (by (rfl)); k_whole))
  k_with "M back" => (intro r9 h9 tk9 F9 N9 S9 P9; (try dsimp only at P9); (first | (obtain ⟨t9, e9⟩ := P9; subst e9) | subst P9); clear S9; (try dsimp only); (try k_sweep))
  k_with "M call" => ((case k1 => k_asm); (case k2 => k_asm); (case k3 => k_asm); (case k4 => k_asm); (case k5 => k_asm); (case kK => first | exact rfl | assumption); (case kd => ktr_room); (case ku => ktr_units))
  k_with "call ref" => (k_here; (with_reducible show wpAny _ _ (call (Value.ref 70) [Value.int _ _]) _ _ _); k_dflt (refine' Ct.use (b64_value_ok _ _ _ _ _ _) (by (k_asm)) (by (k_asm)) (by (k_asm)) (by (k_asm)) (by (k_asm)) (by (first | exact rfl | assumption)) (by (ktr_room)) (by (ktr_units)) trivial ?_; walk_at "M back"))
  k_with "call ref" => (k_here; (with_reducible show wpAny _ _ (call (Value.ref 63) [Value.bool _]) _ _ _); k_dflt (refine' Ct.use (truth_ok _ _ _ _) (by (k_asm)) (by (k_asm)) (by (k_asm)) (by (k_asm)) (by (k_asm)) (by (first | exact rfl | assumption)) (by (ktr_room)) (by (ktr_units)) trivial ?_; walk_at "M back"))
  k_with "call ref" => (k_here; (with_reducible show wpAny _ _ (call (Value.ref 56) [Value.bytes _ _]) _ _ _); k_dflt (refine' Ct.use (buffer_ok _ _ _ _ _ _) (by (k_asm)) (by (k_asm)) (by (k_asm)) (by (k_asm)) (by (k_asm)) (by (first | exact rfl | assumption)) (by (ktr_room)) (by (ktr_units)) trivial ?_; walk_at "M back"))
  k_with "call ref" => (k_here; (with_reducible show wpAny _ _ (call (Value.ref 49) [Value.bytes _ _]) _ _ _); k_dflt (refine' Ct.use (ascii_buffer_ok _ _ _ _ _ _) (by (k_asm)) (by (k_asm)) (by (k_asm)) (by (k_asm)) (by (k_asm)) (by (first | exact rfl | assumption)) (by (ktr_room)) (by (ktr_units)) trivial ?_; walk_at "M back"))
  k_with "call ref" => (k_here; (with_reducible show wpAny _ _ (call (Value.ref 49) [Value.ref _]) _ _ _); k_dflt (refine' Ct.use (ascii_buffer_ba _ _ _ _ _ _ (by (assumption))) (by (k_asm)) (by (k_asm)) (by (k_asm)) (by (k_asm)) (by (k_asm)) (by (first | exact rfl | assumption)) (by (ktr_room)) (by (ktr_units)) (by (walk_at "M ba")) ?_; walk_at "M back"))
  k_with "call ref" => (k_here; (with_reducible show wpAny _ _ (call (Value.ref 29) [Value.bytes _ _]) _ _ _); k_dflt (refine' Ct.use (from_bytes_ok _ _ _ _ _ _) (by (k_asm)) (by (k_asm)) (by (k_asm)) (by (k_asm)) (by (k_asm)) (by (first | exact rfl | assumption)) (by (ktr_room)) (by (ktr_units)) trivial ?_; walk_at "M back"))
  k_with "call ref" => (k_here; (with_reducible show wpAny _ _ (call (Value.ref 29) [Value.ref _]) _ _ _); k_dflt (refine' Ct.use (from_ba _ _ _ _ _ _) (by (k_asm)) (by (k_asm)) (by (k_asm)) (by (k_asm)) (by (k_asm)) (by (first | exact rfl | assumption)) (by (ktr_room)) (by (ktr_units)) (by (walk_at "M ba")) ?_; walk_at "M back"))
  k_with "call ref" => (k_here; (with_reducible show wpAny _ _ (call (Value.ref 29) [Value.str _ _]) _ _ _); k_dflt (refine' Ct.use (from_str _ _ _ _ _ _ (by (assumption)) (by (assumption))) (by (k_asm)) (by (k_asm)) (by (k_asm)) (by (k_asm)) (by (k_asm)) (by (first | exact rfl | assumption)) (by (ktr_room)) (by (ktr_units)) trivial ?_; walk_at "M back"))
  k_with "subscriptTail" => (k_here; (with_reducible show wpAny _ _ (subscriptTail _ _ (Value.bytes _ _) (Value.int (bAnd _ 63) _)) _ _ _); (refine' itemT (by (decide +kernel)) (and63 _).1 (and63 _).2 ?_); intro _ _)
  k_with "M turn b" => (refine' b_end (by assumption) (by assumption) (by k_mem) (by (intro p hp; (repeat (first | exact hp | refine List.mem_cons_of_mem _ ?_)))) (by rfl) (by rfl) (by (intro y h1 h2 h3; (repeat (refine (if_neg (by with_reducible assumption)).trans ?_)); (repeat (refine Eq.trans ?_ (if_neg (by with_reducible assumption)).symm)); rfl)) (by (first | exact IntsAre.append (IntsAre.append (by with_reducible assumption) (.cons _ _ .nil)) (.cons _ _ .nil) | exact IntsAre.append (by with_reducible assumption) (.cons _ _ .nil))) (by (first | exact bInv.way0 (by with_reducible assumption) | exact bInv.way2 (by with_reducible assumption) | exact bInv.way4 (by with_reducible assumption))))
  trivial
theorem b2a_ok (w : World) (mean : ExcName → Option Value) (mg mb : Str → Option Value) (b : Array UInt8) (t : Tok) (hz : b.size ≤ 1000000) (h3 : b.size % 3 = 0) :
    Ct w mean mg mb 86 [.bytes b t] [(Str.ofString "newline", .bool false)] 10 100 (fun _ => True) (fun _ _ r => ∃ t, r = .bytes (byteArr (bRun (KBw.bInts b)).2.2) t) := by
  unfold Ct
  intro dp un gd cn cs a ccd cl outer A₀ base h₀ L m s Q E B F X T hk hdp hun hpre hret
  refine wpAny_call ?_
  dsimp only [TopM] at T
  dsimp only at hret
  k_dflt (refine' code_defM (binds := [(Str.ofString "data", .bytes b t), (Str.ofString "newline", .bool false)]) ?k1 ?k2 ?k3 ?k5 ?kA ?kF ?kK ?k6 ?k7 ?k8 ?k9 ?kB ?_ ?c2 ?c3 ?c4 ?c5; walk_at "M enter2")
  k_with "pyIter bytes" => (
    (with_reducible rename Fr _ _ _ _ => nF); (with_reducible rename News _ _ _ _ => nN);
    (refine' b2a_loop hz h3 rfl nF nN rfl rfl ?turn ?done);
    (case' turn => (intro pre n t lb lc tb tc vs ns k h tk own hn0 hn1 hlb hc0 hc1 hlen hI hA hOff hF hN; clear nF nN; dsimp only [bSt] at hF; (rcases hlb with rfl | rfl | rfl) <;> (try k_fold)));
    (case' done => (intro u lc tb tc vs ns k h tk hlen hI hA hF hN; clear nF nN; have hR : ∀ n ∈ ns, 0 ≤ n ∧ n < 256 := hI.inB; dsimp only [bSt] at hF; (try k_fold))))
  k_steps
  all_goals (first
    | (refine' hret _ _ _ (stays_of (by assumption)) ?_; exact ⟨_, by rw [hI.out]⟩)
    | walk_at "M turn b"
    | w_report)
end
section
theorem fill_C9_74 : True := by
  w_top off
  k_with_none
  k_with "M enter" => (refine' code_defM (by (k_asm)) (by (k_asm)) (by (k_asm)) (by (k_asm)) (by (exact rfl)) (by (exact rfl)) (by (assumption)) (by (k_is)) (by (k_is)) (by (ktr_room)) (by (first | exact BindsTo.of_eq rfl | exact binds_K (by k_in) rfl (by k_is) rfl rfl rfl)) (by (exact locs rfl)) ?_ (by (exact rfl)) (by (exact rfl)) (by (exact rfl)) (by (decide)); k_whole; intro L' h' F' N' B' X' T'; (try dsimp only); (try k_fold))
  k_with "M enter2" => ((case kA => exact rfl); (case kF => exact rfl); (case kK => assumption); (case k1 => k_asm); (case k2 => k_asm); (case k3 => k_asm); (case k5 => k_asm); (case k6 => k_is); (case k7 => k_is); (case k8 => ktr_room); (case k9 => first | exact BindsTo.of_eq rfl | exact binds_K (by k_in) rfl (by k_is) rfl rfl rfl); (case c5 => decide); (case kB => exact locs rfl); (case c2 => exact rfl); (case c3 => exact rfl); (case c4 => exact rfl); k_whole; intro L' h' F' N' B' X' T'; (try dsimp only); (try k_fold))
  k_with "call type:type" => (k_here; (with_reducible show wpAny _ _ (call (Value.type "type") [Value.bytes _ _]) _ _ _); refine call_type_of (PySem.W.typeIs_bytes _ _ _) (by decide +kernel) ?_)
  k_with "M ba" => (first | exact Fr.keep (by assumption) _ _ (by assumption) | assumption)
  k_with "call type:type" => (k_here; (with_reducible show wpAny _ _ (call (Value.type "type") [Value.ref _]) _ _ _); k_dflt (refine' kto_cont (T := "bytearray") (by ((refine' kitAt_ba (by (walk_at "M ba"))))) (by (decide +kernel)) ?_; k_whole))
  k_with "call builtin:isinstance" => (k_here; (with_reducible show wpAny _ _ (call _ [Value.ref _, Value.ref _]) _ _ _); kit_ncls; k_dflt (refine' kia_tup kitx_ba (by (k_in)) (by ((refine' kitAt_ba (by (walk_at "M ba"))))) (by (kit_tp)) (by (kit_is)) (by (kit_nb)) ?_; k_whole; intro _))
  k_with "call builtin:isinstance" => (k_here; (with_reducible show wpAny _ _ (call _ [Value.ref _, Value.type _]) _ _ _); k_dflt (refine' kia_one kitx_ba (by (k_in)) (by ((refine' kitAt_ba (by (walk_at "M ba"))))) (by (kit_is)) (by (kit_nb)) ?_; k_whole; intro _))
  k_with "call type:bytes" => (k_here; (with_reducible show wpAny _ _ (call (Value.type "bytes") [Value.ref _]) _ _ _); k_dflt (refine' ba_bytes (k := 0) (by (walk_at "M ba")) (by (assumption)) ?_; k_whole; intro _ _))
  k_with "getMethod str" => (k_here; with_reducible refine en_method ?_)
  k_with "call builtin:str.encode" => (k_here; (with_reducible show wpAny _ _ (call (Value.builtin "str.encode") [Value.str _ _, Value.str _ _]) _ _ _); refine' en_call (by (assumption)) (by (assumption)) ?_; intro _ _)
  k_with "getMethod bytes" => (k_here; with_reducible refine tr_method ?_)
  k_with "call builtin:bytes.translate" => (k_here; (with_reducible show wpAny _ _ (call (Value.builtin "bytes.translate") [Value.bytes _ _, Value.bytes _ _]) _ _ _); refine' trM (by (first | rfl | decide +kernel)) (by (decide +kernel)) (by (assumption)) ?_; intro _ _)
  k_with "binaryOp LShift int int" => (k_here; (with_reducible refine shlM (by (decide)) (by (decide)) (by (omega)) ?_))
  k_with "binaryOp RShift int int" => (k_here; (with_reducible refine shrM (by (first | decide | omega)) ?_))
  k_with "call builtin:list.append" => (k_here; (with_reducible show wpAny _ _ (call (Value.builtin _) [Value.ref _, Value.int _ _]) _ _ _); k_dflt (refine' append_K (by (k_asm)) (by (k_asm)) (by (k_upd)) ?_ (by ((simp only [List.size_toArray, List.length_append, List.length_cons, List.length_nil, sizeLine_eq]; omega))); k_whole); intro h' F' N'; (try simp only [List.push_toArray] at N'); (try k_sweep))
  k_with "call builtin:len" => (k_here; (with_reducible show wpAny _ _ (call (Value.builtin "len") [Value.ref _]) _ _ _); k_dflt (refine' lenM (News.isList (by (k_asm)) (by (k_mem))) (by (with_reducible assumption)) (by (omega)) ?_; k_whole))
  k_with "call type:bytes" => (k_here; (with_reducible show wpAny _ _ (call (Value.type "bytes") [Value.ref _]) _ _ _); k_dflt (refine' bytesM (by (k_asm)) (by (k_asm)) (News.isList (by (k_asm)) (by (k_mem))) (by (with_reducible assumption)) (by (with_reducible assumption)) (by (omega)) rfl ?_; k_whole); intro h' t' k' F' N'; (try k_sweep))
  k_with "binaryOp BitAnd int int" => (k_here; (with_reducible refine andM ?_))
  k_with "binaryOp BitOr int int" => (k_here; (with_reducible refine orM' ?_))
  k_with "M enterC" => ((case kA => exact rfl); (case kF => exact rfl); (case kK => assumption); (case k1 => k_asm); (case k2 => k_asm); (case k3 => k_asm); (case k5 => k_asm); (case k6 => k_is); (case k7 => k_is); (case k8 => ktr_room); (case k9 => first | exact BindsTo.of_eq rfl | exact binds_K (by k_in) rfl (by k_is) rfl rfl rfl); (case kB => exact rfl); (case kD => decide +kernel); (case c2 => exact rfl); (case c3 => exact rfl); (case c4 => exact rfl); k_whole; intro L' h' tk' cells' F' N' Y' B' X' T'; k_cells Y'; (try simp only [List.cons_append, List.nil_append] at N'); (try dsimp only); (try k_fold))
  k_with "call builtin:len" => (k_here; (with_reducible show wpAny _ _ (call (Value.builtin "len") [Value.ref _]) _ _ _); k_dflt (refine' lenM (stays_list (stays_of (by (k_asm))) (by (with_reducible assumption))) (by (with_reducible assumption)) (by (omega)) ?_; k_whole))
  k_with "eval Name" => (k_here; k_dflt (refine' nameX_L (by (k_asm)) (@rfl _ (some _)) ?_ (by (rfl)) (by (rfl)); k_whole))
  k_with "M back" => (intro r9 h9 tk9 F9 N9 S9 P9; (try dsimp only at P9); (first | (obtain ⟨t9, e9⟩ := P9; subst e9) | subst P9); clear S9; (try dsimp only); (try k_sweep))
  k_with "M call" => ((case k1 => k_asm); (case k2 => k_asm); (case k3 => k_asm); (case k4 => k_asm); (case k5 => k_asm); (case kK => first | exact rfl | assumption); (case kd => ktr_room); (case ku => ktr_units))
  k_with "call ref" => (k_here; (with_reducible show wpAny _ _ (call (Value.ref 70) [Value.int _ _]) _ _ _); k_dflt (refine' Ct.use (b64_value_ok _ _ _ _ _ _) (by (k_asm)) (by (k_asm)) (by (k_asm)) (by (k_asm)) (by (k_asm)) (by (first | exact rfl | assumption)) (by (ktr_room)) (by (ktr_units)) trivial ?_; walk_at "M back"))
  k_with "call ref" => (k_here; (with_reducible show wpAny _ _ (call (Value.ref 63) [Value.bool _]) _ _ _); k_dflt (refine' Ct.use (truth_ok _ _ _ _) (by (k_asm)) (by (k_asm)) (by (k_asm)) (by (k_asm)) (by (k_asm)) (by (first | exact rfl | assumption)) (by (ktr_room)) (by (ktr_units)) trivial ?_; walk_at "M back"))
  k_with "call ref" => (k_here; (with_reducible show wpAny _ _ (call (Value.ref 56) [Value.bytes _ _]) _ _ _); k_dflt (refine' Ct.use (buffer_ok _ _ _ _ _ _) (by (k_asm)) (by (k_asm)) (by (k_asm)) (by (k_asm)) (by (k_asm)) (by (first | exact rfl | assumption)) (by (ktr_room)) (by (ktr_units)) trivial ?_; walk_at "M back"))
  k_with "call ref" => (k_here; (with_reducible show wpAny _ _ (call (Value.ref 49) [Value.bytes _ _]) _ _ _); k_dflt (refine' Ct.use (ascii_buffer_ok _ _ _ _ _ _) (by (k_asm)) (by (k_asm)) (by (k_asm)) (by (k_asm)) (by (k_asm)) (by (first | exact rfl | assumption)) (by (ktr_room)) (by (ktr_units)) trivial ?_; walk_at "M back"))
  k_with "call ref" => (k_here; (with_reducible show wpAny _ _ (call (Value.ref 49) [Value.ref _]) _ _ _); k_dflt (refine' Ct.use (ascii_buffer_ba _ _ _ _ _ _ (by (assumption))) (by (k_asm)) (by (k_asm)) (by (k_asm)) (by (k_asm)) (by (k_asm)) (by (first | exact rfl | assumption)) (by (ktr_room)) (by (ktr_units)) (by (walk_at "M ba")) ?_; walk_at "M back"))
  k_with "call ref" => (k_here; (with_reducible show wpAny _ _ (call (Value.ref 29) [Value.bytes _ _]) _ _ _); k_dflt (refine' Ct.use (from_bytes_ok _ _ _ _ _ _) (by (k_asm)) (by (k_asm)) (by (k_asm)) (by (k_asm)) (by (k_asm)) (by (first | exact rfl | assumption)) (by (ktr_room)) (by (ktr_units)) trivial ?_; walk_at "M back"))
  k_with "call ref" => (k_here; (with_reducible show wpAny _ _ (call (Value.ref 29) [Value.ref _]) _ _ _); k_dflt (refine' Ct.use (from_ba _ _ _ _ _ _) (by (k_asm)) (by (k_asm)) (by (k_asm)) (by (k_asm)) (by (k_asm)) (by (first | exact rfl | assumption)) (by (ktr_room)) (by (ktr_units)) (by (walk_at "M ba")) ?_; walk_at "M back"))
  k_with "call ref" => (k_here; (with_reducible show wpAny _ _ (call (Value.ref 29) [Value.str _ _]) _ _ _); k_dflt (refine' Ct.use (from_str _ _ _ _ _ _ (by (assumption)) (by (assumption))) (by (k_asm)) (by (k_asm)) (by (k_asm)) (by (k_asm)) (by (k_asm)) (by (first | exact rfl | assumption)) (by (ktr_room)) (by (ktr_units)) trivial ?_; walk_at "M back"))
  k_with "call ref" => (k_here; (with_reducible show wpAny _ _ (call (Value.ref 86) [Value.bytes _ _] _) _ _ _); k_dflt (refine' Ct.use (b2a_ok _ _ _ _ _ _ (by (assumption)) (by (assumption))) (by (k_asm)) (by (k_asm)) (by (k_asm)) (by (k_asm)) (by (k_asm)) (by (first | exact rfl | assumption)) (by (ktr_room)) (by (ktr_units)) trivial ?_; walk_at "M back"))
  trivial
theorem benc_ok (w : World) (mean : ExcName → Option Value) (mg mb : Str → Option Value) (b : Array UInt8) (t : Tok) (hz : b.size ≤ 1000000) (h3 : b.size % 3 = 0) :
    Ct w mean mg mb 94 [.bytes b t] [] 15 150 (fun _ => True) (fun _ _ r => ∃ t, r = .bytes (byteArr (bRun (KBw.bInts b)).2.2) t) := by
  unfold Ct
  intro dp un gd cn cs a ccd cl outer A₀ base h₀ L m s Q E B F X T hk hdp hun hpre hret
  refine wpAny_call ?_
  dsimp only [TopM] at T
  dsimp only at hret
  k_dflt (refine' code_defM (binds := [(Str.ofString "s", .bytes b t), (Str.ofString "altchars", .none)]) ?k1 ?k2 ?k3 ?k5 ?kA ?kF ?kK ?k6 ?k7 ?k8 ?k9 ?kB ?_ ?c2 ?c3 ?c4 ?c5; walk_at "M enter2")
  k_steps
  all_goals (first
    | (refine' hret _ _ _ (stays_of (by assumption)) ?_; exact ⟨_, rfl⟩)
    | w_report)
theorem fill_C9_76 : True := by
  k_with "call ref" => (k_here; (with_reducible show wpAny _ _ (call (Value.ref 94) [Value.bytes _ _]) _ _ _); k_dflt (refine' Ct.use (benc_ok _ _ _ _ _ _ (by (assumption)) (by (assumption))) (by (k_asm)) (by (k_asm)) (by (k_asm)) (by (k_asm)) (by (k_asm)) (by (first | exact rfl | assumption)) (by (ktr_room)) (by (ktr_units)) trivial ?_; walk_at "M back"))
  trivial
theorem senc_ok (w : World) (mean : ExcName → Option Value) (mg mb : Str → Option Value) (b : Array UInt8) (t : Tok) (hz : b.size ≤ 1000000) (h3 : b.size % 3 = 0) :
    Ct w mean mg mb 109 [.bytes b t] [] 20 200 (fun _ => True) (fun _ _ r => ∃ t, r = .bytes (byteArr (bRun (KBw.bInts b)).2.2) t) := by
  unfold Ct
  intro dp un gd cn cs a ccd cl outer A₀ base h₀ L m s Q E B F X T hk hdp hun hpre hret
  refine wpAny_call ?_
  dsimp only [TopM] at T
  dsimp only at hret
  k_dflt (refine' code_defM (binds := [(Str.ofString "s", .bytes b t)]) ?k1 ?k2 ?k3 ?k5 ?kA ?kF ?kK ?k6 ?k7 ?k8 ?k9 ?kB ?_ ?c2 ?c3 ?c4 ?c5; walk_at "M enter2")
  k_steps
  all_goals (first
    | (refine' hret _ _ _ (stays_of (by assumption)) ?_; exact ⟨_, rfl⟩)
    | w_report)
end
section
section
variable {w : World} {mean : ExcName → Option Value} {mg mb : Str → Option Value}
    {dp un : Nat} {gd : Option (List Code)} {cn : Str} {cs : Scope} {a : Addr} {ccd : Value} {cl : List (Str × Addr)} {outer : List Env} {A₀ : Around} {base h₀ : Heap} {L : Addr} {m : Str → Option Value} {news : List (Addr × Obj)} {s : Shared} {Q E : Value → Shared → Prop}
theorem senc_use {bs : List Int} {t : Tok} (hB : InB bs) (h3 : bs.length % 3 = 0) (hz : bs.length ≤ 195)
    (B : Below A₀ base outer h₀) (F : Fr h₀ L s.heap m) (X : (hd.heap_39 w.params).In h₀) (N : News h₀ L s.heap news) (T : TopM mean mg mb h₀) (hk : cs.kind = .function) (hd : dp + 20 < recursionLimit) (hu : un + 200 < cLine)
    (ret : ∀ t' h' tk', Fr h₀ L h' m → News h₀ L h' news → Q (.bytes (byteArr ((enc bs).map (sg [43, 47]))) t') { s with heap := h', toks := tk' }) :
    wpAny (model PySem.Challenge.rw_ko0001_01.row.prog w) (ktrTop dp un gd cn cs L a ccd cl outer) (call (.ref 109) [.bytes (byteArr bs) t]) Q E s := by
  refine Ct.use (senc_ok w mean mg mb (byteArr bs) t (by rw [byteArr_size]; omega) (by rw [byteArr_size]; exact h3)) B F X N T hk hd hu trivial ?_
  rintro r h' tk' F' N' st ⟨t', rfl⟩
  rw [enc_plain hB h3]
  exact ret t' h' tk' F' N'
/-- what a call told or was due -/
noncomputable def Tells (R : Except Str (Array UInt8)) (v : Value) : Prop := match R with
  | .ok bs => ∃ t, v = .bytes bs t
  | .error msg => ∃ t, v = .str msg t
theorem told_use {ns : List Int} {t : Tok} (hS : Signs ns) (hz : ns.length ≤ 1000)
    (B : Below A₀ h₀ [] h₀) (F : Fr h₀ L s.heap m) (X : (hd.heap_39 w.params).In h₀) (N : News h₀ L s.heap news) (T : TopM mean mg mb h₀) (hk : cs.kind = .function) (hd : dp + 40 < recursionLimit) (hu : un + 300 < cLine)
    (ret : ∀ v h' tk', Tells (decR (figs ns)) v → Fr h₀ L h' m → News h₀ L h' news → Q v { s with heap := h', toks := tk' }) :
    wpAny (model PySem.Challenge.rw_ko0001_01.row.prog w) (ktrTop dp un gd cn cs L a ccd cl []) (call (.ref 140) [.bytes (byteArr ns) t]) Q E s := by
  refine told_giv w mean mg mb (byteArr ns) (.bytes (byteArr ns) t) hS.no61 (by rw [byteArr_size, sizeLine_eq]; omega) dp un gd cn cs a ccd cl A₀ h₀ L m s Q E B F X T hk hd hu (Giv.bytes _ _ _) ?_ ?_
  · intro bs t' h' tk' e F' N'
    rw [hS.ints] at e
    exact ret _ h' tk' (by unfold Tells; rw [e]; exact ⟨t', rfl⟩) F' (N' news N)
  · intro msg t' h' tk' e F' N'
    rw [hS.ints] at e
    exact ret _ h' tk' (by unfold Tells; rw [e]; exact ⟨t', rfl⟩) F' (N' news N)
theorem told_plain {bs : List Int} {t : Tok} (hB : InB bs) (h3 : bs.length % 3 = 0) (hz : bs.length ≤ 195)
    (B : Below A₀ h₀ [] h₀) (F : Fr h₀ L s.heap m) (X : (hd.heap_39 w.params).In h₀) (N : News h₀ L s.heap news) (T : TopM mean mg mb h₀) (hk : cs.kind = .function) (hd : dp + 40 < recursionLimit) (hu : un + 300 < cLine)
    (ret : ∀ t' h' tk', Fr h₀ L h' m → News h₀ L h' news → Q (.bytes (byteArr bs) t') { s with heap := h', toks := tk' }) :
    wpAny (model PySem.Challenge.rw_ko0001_01.row.prog w) (ktrTop dp un gd cn cs L a ccd cl []) (call (.ref 140) [.bytes (byteArr ((enc bs).map (sg [43, 47]))) t]) Q E s := by
  refine told_use (sgn43 (enc_in64 bs hB)) (by rw [List.length_map, enc_length bs h3]; omega) B F X N T hk hd hu ?_
  intro v h' tk' hv F' N'
  rw [figs_plain (enc_in64 bs hB), decR_enc hB h3] at hv
  obtain ⟨t', rfl⟩ := hv
  exact ret t' h' tk' F' N'
theorem udec_use {ns bs : List Int} {t : Tok} (hB : InB bs) (h3 : bs.length % 3 = 0) (hz : bs.length ≤ 195) (hn : ns.length ≤ 1000) (ht : trU (byteArr ns) = byteArr ((enc bs).map (sg [43, 47])))
    (B : Below A₀ base outer h₀) (F : Fr h₀ L s.heap m) (X : (hd.heap_39 w.params).In h₀) (N : News h₀ L s.heap news) (T : TopM mean mg mb h₀) (hk : cs.kind = .function) (hd : dp + 20 < recursionLimit) (hu : un + 200 < cLine)
    (ret : ∀ t' h' tk', Fr h₀ L h' m → News h₀ L h' news → Q (.bytes (byteArr bs) t') { s with heap := h', toks := tk' }) :
    wpAny (model PySem.Challenge.rw_ko0001_01.row.prog w) (ktrTop dp un gd cn cs L a ccd cl outer) (call (.ref 123) [.bytes (byteArr ns) t]) Q E s := by
  have hS := sgn43 (enc_in64 bs hB)
  have hR : decR (figs (KBw.bInts (trU (byteArr ns)))) = .ok (byteArr bs) := by
    rw [ht, Signs.ints hS, figs_plain (enc_in64 bs hB), decR_enc hB h3]
  refine CtD.use (udec_ok w mean mg mb (byteArr ns) t (by rw [byteArr_size, sizeLine_eq]; omega) (by rw [ht]; exact Signs.no61 hS) (by rw [ht, byteArr_size, List.length_map, enc_length bs h3, sizeLine_eq]; omega)) B F X N T hk hd hu trivial ?_ ?_
  · intro bs' t' h' tk' e F' N'
    rw [hR] at e
    cases e
    exact ret t' h' tk' F' N'
  · intro msg e tu tm h' tk' e2
    rw [hR] at e2
    cases e2
end
end
section
/-! a loop over a tuple that the call has made -/
section
variable {prog : Program} {w : World} {A : Around} {E : Value → Shared → Prop} {s : Shared} {env : Env} {h₀ : Heap} {x : Str} {body : List Stmt} {Q : Flow → Shared → Prop}
theorem loopT {σ : Type} {ax : Addr} {its : Array Value} {m₀ : Str → Option Value} {rest : List (Addr × Obj)} {k₀ : Nat} (St : σ → Str → Option Value) (Inv : Nat → σ → Prop) (c₀ : σ)
    (hh : A.handled = none) (F : Fr h₀ env.locals s.heap m₀) (N : News h₀ env.locals s.heap ((ax, ({ cls := .type "tuple", data := .seq its k₀ } : Obj)) :: rest)) (hoff : ∀ p ∈ rest, p.1 ≠ ax)
    (hm : ∀ y, y ≠ x → m₀ y = St c₀ y) (hi : Inv 0 c₀)
    (turn : ∀ i v c h tk own, its[i]? = some v → Inv i c → OwnOff own (rest.map (·.1)) → Fr h₀ env.locals h (fun y => if y = x then some v else St c y) → News h₀ env.locals h (rest ++ own) →
      wpAny (model prog w) A (execs body env) (InvPostN h₀ env.locals (Lj x St (fun _ => rest) (Inv (i + 1))) own (rest.map (·.1)) { s with heap := h, toks := tk } Q) E { s with heap := h, toks := tk })
    (done : ∀ c u h tk, Inv its.size c → Fr h₀ env.locals h (fun y => if y = x then u else St c y) → News h₀ env.locals h rest → Q .next { s with heap := h, toks := tk }) :
    wpAny (model prog w) A (pyIter (.ref ax)) (fun it s₂ => LoopAtV prog w A h₀ env x body Q E it s₂) E s := by
  have hax := N _ (List.Mem.head _)
  have ht : s.heap.IsTuple ax its := ⟨_, hax.1, rfl, _, rfl⟩
  have hlt : ax < s.heap.objs.size := Heap.lt_size hax.1
  refine wpAny_pyIter_tuple ht ?_
  have up : ∀ b o, s.heap.get? b = some o → (s.heap.push { cls := .type "tuple_iterator", data := .fields #[.ref ax, .int 0 0] }).get? b = some o := fun b o e => Heap.get?_push_of_some _ e
  have Nr : News h₀ env.locals s.heap rest := fun p hp => N p (List.mem_cons_of_mem _ hp)
  refine loopG St (fun _ => rest) Inv c₀ (Walks.tuple hh s.heap.objs.size ax (Nat.ne_of_lt hlt) its) ?_ ?_ ?_ ?_ ⟨⟨_, Heap.get?_push_size _ rfl, rfl, rfl⟩, ?_⟩ (F.push _) (fun p hp => ⟨Heap.get?_push_of_some _ (Nr p hp).1, (Nr p hp).2⟩) hm hi ?_ ?_
  · intro hm
    rcases List.mem_cons.mp hm with e | hm
    · exact absurd F.ns.lt (e ▸ Nat.lt_irrefl _)
    · exact hax.2.1 (List.mem_singleton.mp hm).symm
  · intro b' hb
    rw [List.mem_singleton.mp hb]
    exact next_is_new F
  · intro p hp hI
    exact absurd (Heap.lt_size (Nr p hp).1) ((List.mem_singleton.mp hI) ▸ Nat.lt_irrefl _)
  · intro p hp hI
    rcases List.mem_cons.mp hI with e | hI
    · exact absurd (Heap.lt_size (Nr p hp).1) (e ▸ Nat.lt_irrefl _)
    · exact hoff p hp (List.mem_singleton.mp hI)
  · obtain ⟨o, e, r⟩ := ht
    exact ⟨o, up _ _ e, r⟩
  · intro i v c h tk own hlt hP hI _ hoff F₁ N₁
    exact turn i v c h tk own hP hI hoff F₁ N₁
  · exact fun c u h tk hI F₁ N₁ => done c u h tk hI F₁ N₁
end
end
section
section
variable {prog : Program} {w : World} {A : Around} {E : Value → Shared → Prop} {s : Shared} {env : Env} {h₀ : Heap} {target : Expr} {body : List Stmt} {Q : Flow → Shared → Prop}
theorem letOwned_tuple {elts : List Expr} {k : Nat} {pos : Pos} {I l : Addr} {v : Value} {i : Nat} {E : Value → Shared → Prop} {Q : Unit → Shared → Prop} (hit : s.heap.IsTupleIter I l i) (hQ : Q () s) :
    wpAny (model prog w) A (letOwnedTupleGo (.Tuple elts k pos) (.ref I) v) Q E s := by
  obtain ⟨o, ho, hc, hd⟩ := hit
  unfold letOwnedTupleGo
  cases v with
  | ref T =>
    refine wpAny_bind (wpAny_load ho ?_)
    rw [hc, hd]
    show wpAny _ A (if (["enumerate", "zip", "dict_itemiterator", "dict_reverseitemiterator", "odict_iterator", "itertools.zip_longest", "itertools.pairwise"].contains "tuple_iterator" &&
        _) = true then _ else _) Q E s
    rw [if_neg (by
      intro h
      rw [show (["enumerate", "zip", "dict_itemiterator", "dict_reverseitemiterator", "odict_iterator", "itertools.zip_longest", "itertools.pairwise"].contains "tuple_iterator") = false from by decide, Bool.false_and] at h
      cases h)]
    exact wpAny_pure hQ
  | _ => exact wpAny_pure hQ
theorem letOwned_name {x : Str} {px : Pos} {I : Addr} {v : Value} {Q : Unit → Shared → Prop} (hQ : Q () s) :
    wpAny (model prog w) A (letOwnedTupleGo (.Name x px) (.ref I) v) Q E s := by
  unfold letOwnedTupleGo
  exact wpAny_pure hQ
/-- a loop over a made tuple on the clean stacks -/
theorem forTC {ax : Addr} {its : Array Value} {m₀ : Str → Option Value} {rest : List (Addr × Obj)} {k₀ : Nat} (Inv : Nat → (Str → Option Value) → Prop)
    (hh : A.handled = none) (F : Fr h₀ env.locals s.heap m₀) (N : News h₀ env.locals s.heap ((ax, ({ cls := .type "tuple", data := .seq its k₀ } : Obj)) :: rest)) (hoff : ∀ p ∈ rest, p.1 ≠ ax)
    (hgo : ∀ i I (s' : Shared) v (Q' : Unit → Shared → Prop), s'.heap.IsTupleIter I ax i → Q' () s' → wpAny (model prog w) A (letOwnedTupleGo target (.ref I) v) Q' NoE s') (hi : Inv 0 m₀)
    (turn : ∀ i v m h tk own, its[i]? = some v → Inv i m → Fr h₀ env.locals h m → News h₀ env.locals h (own ++ rest) →
      wpAny (model prog w) A (assign target env v) (fun _ s₂ => wpC (model prog w) A (execs body env) (StepC h₀ env.locals own rest (fun m' nx => nx = rest ∧ Inv (i + 1) m') { s with heap := h, toks := tk } Q) NoE s₂) NoE { s with heap := h, toks := tk })
    (done : ∀ m h tk, Inv its.size m → Fr h₀ env.locals h m → News h₀ env.locals h rest → Q .next { s with heap := h, toks := tk }) :
    wpAny (model prog w) A (pyIter (.ref ax)) (fun it s₂ => codeC (model prog w) A (.forLoop target it body [] env) (fun r s' => match r with | .ok f => Q f s' | .error _ => False) s₂) NoE s := by
  have hax := N _ (List.Mem.head _)
  have ht : s.heap.IsTuple ax its := ⟨_, hax.1, rfl, _, rfl⟩
  have hlt : ax < s.heap.objs.size := Heap.lt_size hax.1
  refine wpAny_pyIter_tuple ht ?_
  have up : ∀ b o, s.heap.get? b = some o → (s.heap.push { cls := .type "tuple_iterator", data := .fields #[.ref ax, .int 0 0] }).get? b = some o := fun b o e => Heap.get?_push_of_some _ e
  have Nr : News h₀ env.locals s.heap rest := fun p hp => N p (List.mem_cons_of_mem _ hp)
  refine codeC_forUnr (P := fun i v => its[i]? = some v) (fp := [s.heap.objs.size, ax]) (wr := [s.heap.objs.size]) (n := its.size) (m := m₀) (nx := rest) (Walks.tuple hh s.heap.objs.size ax (Nat.ne_of_lt hlt) its) ?_ ?_ ?_ ⟨⟨_, Heap.get?_push_size _ rfl, rfl, rfl⟩, ?_⟩ (F.push _) (fun p hp => ⟨Heap.get?_push_of_some _ (Nr p hp).1, (Nr p hp).2⟩) ?_ ?_
  · intro hm
    rcases List.mem_cons.mp hm with e | hm
    · exact absurd F.ns.lt (e ▸ Nat.lt_irrefl _)
    · exact hax.2.1 (List.mem_singleton.mp hm).symm
  · intro b' hb
    rw [List.mem_singleton.mp hb]
    exact next_is_new F
  · intro p hp hI
    exact absurd (Heap.lt_size (Nr p hp).1) ((List.mem_singleton.mp hI) ▸ Nat.lt_irrefl _)
  · obtain ⟨o, e, r⟩ := ht
    exact ⟨o, up _ _ e, r⟩
  · intro i s' v Q' st hq
    exact hgo i _ s' v Q' st.1 hq
  · refine UnrC.inv (n := its.size) (fun i m nx => nx = rest ∧ Inv i m) ?_ ?_ its.size 0 m₀ rest (Nat.zero_add _) ⟨rfl, hi⟩
    · rintro i m nx v h tk own hlt ⟨rfl, hI⟩ hP hown F₁ N₁
      exact turn i v m h tk own hP hI F₁ N₁
    · rintro m nx h tk ⟨rfl, hI⟩ F₁ N₁
      exact done m h tk hI F₁ N₁
end
/-- the same signs as bytes, a bytearray or a text -/
noncomputable def Given (ns : List Int) (news : List (Addr × Obj)) (v : Value) : Prop :=
  (∃ t, v = .bytes (byteArr ns) t) ∨ (∃ x, v = .ref x ∧ (x, baObj (byteArr ns)) ∈ news) ∨ ∃ x t, v = .str x t ∧ x.cps = (ns.map Int.toNat).toArray
theorem Given.sub {ns : List Int} {news news' : List (Addr × Obj)} {v : Value} (h : Given ns news v) (hs : ∀ p ∈ news, p ∈ news') : Given ns news' v := by
  rcases h with h | ⟨x, e, hm⟩ | h
  · exact .inl h
  · exact .inr (.inl ⟨x, e, hs _ hm⟩)
  · exact .inr (.inr h)
theorem cps_bytes {ns : List Int} {x : Str} (h : x.cps = (ns.map Int.toNat).toArray) : x.cps.map (·.toUInt8) = byteArr ns := by
  rw [h]
  unfold byteArr
  rw [List.map_toArray, List.map_map]
  rfl
section
variable {w : World} {mean : ExcName → Option Value} {mg mb : Str → Option Value}
    {dp un : Nat} {gd : Option (List Code)} {cn : Str} {cs : Scope} {a : Addr} {ccd : Value} {cl : List (Str × Addr)} {outer : List Env} {A₀ : Around} {base h₀ : Heap} {L : Addr} {m : Str → Option Value} {news : List (Addr × Obj)} {s : Shared} {Q E : Value → Shared → Prop}
theorem told_any {ns : List Int} {v : Value}
    (B : Below A₀ h₀ [] h₀) (F : Fr h₀ L s.heap m) (X : (hd.heap_39 w.params).In h₀) (N : News h₀ L s.heap news) (T : TopM mean mg mb h₀) (hk : cs.kind = .function) (hd : dp + 40 < recursionLimit) (hu : un + 300 < cLine)
    (hG : Given ns news v) (hS : Signs ns) (hz : ns.length ≤ 1000)
    (ret : ∀ v h' tk', Tells (decR (figs ns)) v → Fr h₀ L h' m → News h₀ L h' news → Q v { s with heap := h', toks := tk' }) :
    wpAny (model PySem.Challenge.rw_ko0001_01.row.prog w) (ktrTop dp un gd cn cs L a ccd cl []) (call (.ref 140) [v]) Q E s := by
  have hsz : (byteArr ns).size ≤ sizeLine := by rw [byteArr_size, sizeLine_eq]; omega
  have ok : ∀ bs t' h' tk', decR (figs (KBw.bInts (byteArr ns))) = .ok bs → Fr h₀ L h' m → (∀ news, News h₀ L s.heap news → News h₀ L h' news) → Q (.bytes bs t') { s with heap := h', toks := tk' } := by
    intro bs t' h' tk' e F' N'
    rw [hS.ints] at e
    exact ret _ h' tk' (by unfold Tells; rw [e]; exact ⟨t', rfl⟩) F' (N' news N)
  have er : ∀ msg t' h' tk', decR (figs (KBw.bInts (byteArr ns))) = .error msg → Fr h₀ L h' m → (∀ news, News h₀ L s.heap news → News h₀ L h' news) → Q (.str msg t') { s with heap := h', toks := tk' } := by
    intro msg t' h' tk' e F' N'
    rw [hS.ints] at e
    exact ret _ h' tk' (by unfold Tells; rw [e]; exact ⟨t', rfl⟩) F' (N' news N)
  refine told_giv w mean mg mb (byteArr ns) v hS.no61 hsz dp un gd cn cs a ccd cl A₀ h₀ L m s Q E B F X T hk hd hu ?_ ok er
  rcases hG with ⟨t, rfl⟩ | ⟨x, rfl, hm⟩ | ⟨x, t, rfl, hx⟩
  · exact Giv.bytes _ _ _
  · exact .inl (.inr ⟨x, rfl, (N _ hm).1⟩)
  · refine .inr ⟨x, t, rfl, fun c hc => ?_, by rw [hx, List.size_toArray, List.length_map, sizeLine_eq]; omega, cps_bytes hx⟩
    rw [hx] at hc
    have hc := Array.mem_def.mp hc
    obtain ⟨n, hn, rfl⟩ := List.mem_map.mp hc
    have := hS n hn
    omega
theorem due_use {x : Addr} {vs : List Value} {ns : List Int} (hA : IntsAre vs ns) (hI64 : In64 ns) (hlen : ns.length ≤ 4000)
    (B : Below A₀ base outer h₀) (F : Fr h₀ L s.heap m) (X : (hd.heap_39 w.params).In h₀) (N : News h₀ L s.heap news) (T : TopM mean mg mb h₀) (hk : cs.kind = .function) (hd : dp + 10 < recursionLimit) (hu : un + 100 < cLine) (hp : s.heap.IsList x vs.toArray)
    (ret : ∀ v h' tk', Tells (decR ns) v → Fr h₀ L h' m → News h₀ L h' news → Q v { s with heap := h', toks := tk' }) :
    wpAny (model PySem.Challenge.rw_ko0001_01.row.prog w) (ktrTop dp un gd cn cs L a ccd cl outer) (call (.ref 133) [.ref x]) Q E s := by
  refine Ct.use (due_ok w mean mg mb x vs ns hA hI64 hlen) B F X N T hk hd hu hp ?_
  intro r h' tk' F' N' st hr
  refine ret r h' tk' ?_ F' N'
  unfold Tells
  cases hR : decR ns with
  | ok bs => rw [hR] at hr; exact hr
  | error msg => rw [hR] at hr; exact hr
end
/-- the bytearray itself, on the ledger -/
theorem ba_led {prog : Program} {w : World} {A : Around} {E : Value → Shared → Prop} {s : Shared} {h₀ : Heap} {L : Addr} {m : Str → Option Value} {news : List (Addr × Obj)} {b : Array UInt8} {t : Tok} {Q : Value → Shared → Prop} (hg : A.guards = some []) (hz : b.size ≤ sizeLine)
    (F : Fr h₀ L s.heap m) (N : News h₀ L s.heap news) (h : ∀ x h' k, Fr h₀ L h' m → News h₀ L h' ((x, baObj b) :: news) → Q (.ref x) { s with heap := h', toks := k }) :
    wpC (model prog w) A (call (.type "bytearray") [.bytes b t]) Q E s := by
  refine ba_call hg hz fun h' k st hx => h _ h' k (F.keeps st) (News.addNew F (fun p hp => ⟨st _ _ (N p hp).1, (N p hp).2⟩) ?_ hx)
  exact Heap.get?_none_of_le (Nat.le_refl _)
theorem Tells.two {R : Except Str (Array UInt8)} {v v' : Value} (h : Tells R v) (h' : Tells R v') : (∃ b t t', v = .bytes b t ∧ v' = .bytes b t') ∨ ∃ m t t', v = .str m t ∧ v' = .str m t' := by
  cases R with
  | ok b => obtain ⟨t, rfl⟩ := h; obtain ⟨t', rfl⟩ := h'; exact .inl ⟨b, t, t', rfl, rfl⟩
  | error m => obtain ⟨t, rfl⟩ := h; obtain ⟨t', rfl⟩ := h'; exact .inr ⟨m, t, t', rfl, rfl⟩
theorem figs_le (ns : List Int) : (figs ns).length ≤ ns.length := by
  unfold figs
  exact Nat.le_trans (List.length_filter_le _ _) (by rw [List.length_map]; exact Nat.le_refl _)
theorem bne_no' {l : Str} (h : (l != l) = true) : False := by simp at h
theorem ne_no {α : Sort u} {l : α} (h : l ≠ l) : False := h rfl
noncomputable def outFor : Stmt := match bodyFrom 9 with
  | st :: _ => st
  | [] => .Pass default
noncomputable def forOf : Stmt → Expr × Expr × List Stmt
  | .For t i b _ _ => (t, i, b)
  | _ => (default, default, [])
noncomputable def inFor : Stmt := match (forOf outFor).2.2 with
  | st :: _ => st
  | [] => .Pass default
/-- what a turn of the law's own leaves behind -/
noncomputable def Back (h₀ : Heap) (L : Addr) (s : Shared) (J : (Str → Option Value) → Prop) (news : List (Addr × Obj)) (f : Flow) (s₃ : Shared) : Prop :=
  f = .next ∧ ∃ h' tk m', s₃ = { s with heap := h', toks := tk } ∧ Fr h₀ L h' m' ∧ News h₀ L h' news ∧ J m'
theorem Back.mk {h₀ h' : Heap} {L : Addr} {s : Shared} {J : (Str → Option Value) → Prop} {news : List (Addr × Obj)} {tk : Nat} {m' : Str → Option Value} (F : Fr h₀ L h' m') (N : News h₀ L h' news) (hJ : J m') :
    Back h₀ L s J news .next { s with heap := h', toks := tk } := ⟨rfl, h', tk, m', rfl, F, N, hJ⟩
theorem Back.step {h₀ : Heap} {L : Addr} {s₁ : Shared} {J : (Str → Option Value) → Prop} {own nx news : List (Addr × Obj)} {Jn : (Str → Option Value) → List (Addr × Obj) → Prop} {Q : Flow → Shared → Prop} {f : Flow} {s₃ : Shared}
    (h : Back h₀ L s₁ J news f s₃) (hs : ∀ p ∈ own ++ nx, p ∈ news) (hJ : ∀ m', J m' → Jn m' nx) : StepC h₀ L own nx Jn s₁ Q f s₃ := by
  obtain ⟨rfl, h', tk, m', rfl, F, N, j⟩ := h
  exact ⟨h', tk, m', nx, rfl, F, fun p hp => N p (hs p hp), rfl, hJ m' j⟩
theorem boot_ba : bootBuiltins (Str.ofString "bytearray") = some (.type "bytearray") := by kernel_rfl
theorem given3 {ns : List Int} {t t8 : Tok} {xb : Addr} {x8 : Str} {i : Nat} {v : Value} {news : List (Addr × Obj)} (h : #[Value.bytes (byteArr ns) t, Value.ref xb, Value.str x8 t8][i]? = some v) (hm : (xb, baObj (byteArr ns)) ∈ news) (hx : x8.cps = (ns.map Int.toNat).toArray) : Given ns news v := by
  match i, h with
  | 0, h => exact .inl ⟨t, (Option.some.inj h).symm⟩
  | 1, h => exact .inr (.inl ⟨xb, (Option.some.inj h).symm, hm⟩)
  | 2, h => exact .inr (.inr ⟨x8, t8, (Option.some.inj h).symm, hx⟩)
  | i + 3, h => simp at h
end
section
theorem fill_LS5_83 : True := by
  w_top off
  k_with_none
  k_with "M enter" => (refine' code_defM (by (k_asm)) (by (k_asm)) (by (k_asm)) (by (k_asm)) (by (exact rfl)) (by (exact rfl)) (by (assumption)) (by (k_is)) (by (k_is)) (by (ktr_room)) (by (first | exact BindsTo.of_eq rfl | exact binds_K (by k_in) rfl (by k_is) rfl rfl rfl)) (by (exact locs rfl)) ?_ (by (exact rfl)) (by (exact rfl)) (by (exact rfl)) (by (decide)); k_whole; intro L' h' F' N' B' X' T'; (try dsimp only); (try k_fold))
  k_with "M enter2" => ((case kA => exact rfl); (case kF => exact rfl); (case kK => assumption); (case k1 => k_asm); (case k2 => k_asm); (case k3 => k_asm); (case k5 => k_asm); (case k6 => k_is); (case k7 => k_is); (case k8 => ktr_room); (case k9 => first | exact BindsTo.of_eq rfl | exact binds_K (by k_in) rfl (by k_is) rfl rfl rfl); (case c5 => decide); (case kB => exact locs rfl); (case c2 => exact rfl); (case c3 => exact rfl); (case c4 => exact rfl); k_whole; intro L' h' F' N' B' X' T'; (try dsimp only); (try k_fold))
  k_with "call type:type" => (k_here; (with_reducible show wpAny _ _ (call (Value.type "type") [Value.bytes _ _]) _ _ _); refine call_type_of (PySem.W.typeIs_bytes _ _ _) (by decide +kernel) ?_)
  k_with "M ba" => (first | exact Fr.keep (by assumption) _ _ (by assumption) | assumption)
  k_with "call type:type" => (k_here; (with_reducible show wpAny _ _ (call (Value.type "type") [Value.ref _]) _ _ _); k_dflt (refine' kto_cont (T := "bytearray") (by ((refine' kitAt_ba (by (walk_at "M ba"))))) (by (decide +kernel)) ?_; k_whole))
  k_with "call builtin:isinstance" => (k_here; (with_reducible show wpAny _ _ (call _ [Value.ref _, Value.ref _]) _ _ _); kit_ncls; k_dflt (refine' kia_tup kitx_ba (by (k_in)) (by ((refine' kitAt_ba (by (walk_at "M ba"))))) (by (kit_tp)) (by (kit_is)) (by (kit_nb)) ?_; k_whole; intro _))
  k_with "call builtin:isinstance" => (k_here; (with_reducible show wpAny _ _ (call _ [Value.ref _, Value.type _]) _ _ _); k_dflt (refine' kia_one kitx_ba (by (k_in)) (by ((refine' kitAt_ba (by (walk_at "M ba"))))) (by (kit_is)) (by (kit_nb)) ?_; k_whole; intro _))
  k_with "call type:bytes" => (k_here; (with_reducible show wpAny _ _ (call (Value.type "bytes") [Value.ref _]) _ _ _); k_dflt (refine' ba_bytes (k := 0) (by (walk_at "M ba")) (by (assumption)) ?_; k_whole; intro _ _))
  k_with "getMethod str" => (k_here; with_reducible refine en_method ?_)
  k_with "call builtin:str.encode" => (k_here; (with_reducible show wpAny _ _ (call (Value.builtin "str.encode") [Value.str _ _, Value.str _ _]) _ _ _); refine' en_call (by (assumption)) (by (assumption)) ?_; intro _ _)
  k_with "getMethod bytes" => (k_here; with_reducible refine tr_method ?_)
  k_with "call builtin:bytes.translate" => (k_here; (with_reducible show wpAny _ _ (call (Value.builtin "bytes.translate") [Value.bytes _ _, Value.bytes _ _]) _ _ _); refine' trM (by (first | rfl | decide +kernel)) (by (decide +kernel)) (by (assumption)) ?_; intro _ _)
  k_with "binaryOp LShift int int" => (k_here; (with_reducible refine shlM (by (decide)) (by (decide)) (by (omega)) ?_))
  k_with "binaryOp RShift int int" => (k_here; (with_reducible refine shrM (by (first | decide | omega)) ?_))
  k_with "call builtin:list.append" => (k_here; (with_reducible show wpAny _ _ (call (Value.builtin _) [Value.ref _, Value.int _ _]) _ _ _); k_dflt (refine' append_K (by (k_asm)) (by (k_asm)) (by (k_upd)) ?_ (by ((simp only [List.size_toArray, List.length_append, List.length_cons, List.length_nil, sizeLine_eq]; omega))); k_whole); intro h' F' N'; (try simp only [List.push_toArray] at N'); (try k_sweep))
  k_with "call builtin:len" => (k_here; (with_reducible show wpAny _ _ (call (Value.builtin "len") [Value.ref _]) _ _ _); k_dflt (refine' lenM (News.isList (by (k_asm)) (by (k_mem))) (by (with_reducible assumption)) (by (omega)) ?_; k_whole))
  k_with "call type:bytes" => (k_here; (with_reducible show wpAny _ _ (call (Value.type "bytes") [Value.ref _]) _ _ _); k_dflt (refine' bytesM (by (k_asm)) (by (k_asm)) (News.isList (by (k_asm)) (by (k_mem))) (by (with_reducible assumption)) (by (with_reducible assumption)) (by (omega)) rfl ?_; k_whole); intro h' t' k' F' N'; (try k_sweep))
  k_with "binaryOp BitAnd int int" => (k_here; (with_reducible refine andM ?_))
  k_with "binaryOp BitOr int int" => (k_here; (with_reducible refine orM' ?_))
  k_with "M enterC" => ((case kA => exact rfl); (case kF => exact rfl); (case kK => assumption); (case k1 => k_asm); (case k2 => k_asm); (case k3 => k_asm); (case k5 => k_asm); (case k6 => k_is); (case k7 => k_is); (case k8 => ktr_room); (case k9 => first | exact BindsTo.of_eq rfl | exact binds_K (by k_in) rfl (by k_is) rfl rfl rfl); (case kB => exact rfl); (case kD => decide +kernel); (case c2 => exact rfl); (case c3 => exact rfl); (case c4 => exact rfl); k_whole; intro L' h' tk' cells' F' N' Y' B' X' T'; k_cells Y'; (try simp only [List.cons_append, List.nil_append] at N'); (try dsimp only); (try k_fold))
  k_with "call builtin:len" => (k_here; (with_reducible show wpAny _ _ (call (Value.builtin "len") [Value.ref _]) _ _ _); k_dflt (refine' lenM (stays_list (stays_of (by (k_asm))) (by (with_reducible assumption))) (by (with_reducible assumption)) (by (omega)) ?_; k_whole))
  k_with "eval Name" => (k_here; k_dflt (refine' nameX_L (by (k_asm)) (@rfl _ (some _)) ?_ (by (rfl)) (by (rfl)); k_whole))
  k_with "M back" => (intro r9 h9 tk9 F9 N9 S9 P9; (try dsimp only at P9); (first | (obtain ⟨t9, e9⟩ := P9; subst e9) | subst P9); clear S9; (try dsimp only); (try k_sweep))
  k_with "M call" => ((case k1 => k_asm); (case k2 => k_asm); (case k3 => k_asm); (case k4 => k_asm); (case k5 => k_asm); (case kK => first | exact rfl | assumption); (case kd => ktr_room); (case ku => ktr_units))
  k_with "call ref" => (k_here; (with_reducible show wpAny _ _ (call (Value.ref 70) [Value.int _ _]) _ _ _); k_dflt (refine' Ct.use (b64_value_ok _ _ _ _ _ _) (by (k_asm)) (by (k_asm)) (by (k_asm)) (by (k_asm)) (by (k_asm)) (by (first | exact rfl | assumption)) (by (ktr_room)) (by (ktr_units)) trivial ?_; walk_at "M back"))
  k_with "call ref" => (k_here; (with_reducible show wpAny _ _ (call (Value.ref 63) [Value.bool _]) _ _ _); k_dflt (refine' Ct.use (truth_ok _ _ _ _) (by (k_asm)) (by (k_asm)) (by (k_asm)) (by (k_asm)) (by (k_asm)) (by (first | exact rfl | assumption)) (by (ktr_room)) (by (ktr_units)) trivial ?_; walk_at "M back"))
  k_with "call ref" => (k_here; (with_reducible show wpAny _ _ (call (Value.ref 56) [Value.bytes _ _]) _ _ _); k_dflt (refine' Ct.use (buffer_ok _ _ _ _ _ _) (by (k_asm)) (by (k_asm)) (by (k_asm)) (by (k_asm)) (by (k_asm)) (by (first | exact rfl | assumption)) (by (ktr_room)) (by (ktr_units)) trivial ?_; walk_at "M back"))
  k_with "call ref" => (k_here; (with_reducible show wpAny _ _ (call (Value.ref 49) [Value.bytes _ _]) _ _ _); k_dflt (refine' Ct.use (ascii_buffer_ok _ _ _ _ _ _) (by (k_asm)) (by (k_asm)) (by (k_asm)) (by (k_asm)) (by (k_asm)) (by (first | exact rfl | assumption)) (by (ktr_room)) (by (ktr_units)) trivial ?_; walk_at "M back"))
  k_with "call ref" => (k_here; (with_reducible show wpAny _ _ (call (Value.ref 49) [Value.ref _]) _ _ _); k_dflt (refine' Ct.use (ascii_buffer_ba _ _ _ _ _ _ (by (assumption))) (by (k_asm)) (by (k_asm)) (by (k_asm)) (by (k_asm)) (by (k_asm)) (by (first | exact rfl | assumption)) (by (ktr_room)) (by (ktr_units)) (by (walk_at "M ba")) ?_; walk_at "M back"))
  k_with "call ref" => (k_here; (with_reducible show wpAny _ _ (call (Value.ref 29) [Value.bytes _ _]) _ _ _); k_dflt (refine' Ct.use (from_bytes_ok _ _ _ _ _ _) (by (k_asm)) (by (k_asm)) (by (k_asm)) (by (k_asm)) (by (k_asm)) (by (first | exact rfl | assumption)) (by (ktr_room)) (by (ktr_units)) trivial ?_; walk_at "M back"))
  k_with "call ref" => (k_here; (with_reducible show wpAny _ _ (call (Value.ref 29) [Value.ref _]) _ _ _); k_dflt (refine' Ct.use (from_ba _ _ _ _ _ _) (by (k_asm)) (by (k_asm)) (by (k_asm)) (by (k_asm)) (by (k_asm)) (by (first | exact rfl | assumption)) (by (ktr_room)) (by (ktr_units)) (by (walk_at "M ba")) ?_; walk_at "M back"))
  k_with "call ref" => (k_here; (with_reducible show wpAny _ _ (call (Value.ref 29) [Value.str _ _]) _ _ _); k_dflt (refine' Ct.use (from_str _ _ _ _ _ _ (by (assumption)) (by (assumption))) (by (k_asm)) (by (k_asm)) (by (k_asm)) (by (k_asm)) (by (k_asm)) (by (first | exact rfl | assumption)) (by (ktr_room)) (by (ktr_units)) trivial ?_; walk_at "M back"))
  k_with "eval ListComp" => (k_here; k_dflt (refine ListComp_G (F₀ := by k_asm) (by with_unfolding_all rfl) (by decide) (by rfl) (by decide) (by rfl) ?_))
  k_with "pyIter ref" => (k_here; (with_reducible show wpAny _ _ (pyIter _) (CompIt _ _ _ _ _ _ _ _ _ _ _ _) _ _); k_dflt (refine' iter_tuple rfl (by (k_asm)) (by (k_asm)) (SrcT.made (by (k_mem))) (by (exact Nat.le_of_ble_eq_true rfl)) ?_; k_whole); intro g'; lcg_lit)
  k_with "CompEnd" => (refine' CompEnd.same (by (k_asm)) (by (k_asm)) (by ((simp only [LCg.Off3, and_true]; with_reducible assumption))) (by (first | exact True.intro | exact SrcT.made (by k_mem) | exact Or.inl (by assumption) | exact Or.inr ⟨_, by k_mem, rfl, _, rfl⟩)) ?_)
  k_with "call builtin:list.extend" => (k_here; (with_reducible show wpAny _ _ (call (Value.builtin _) [Value.ref _, Value.ref _]) _ _ _); k_dflt (refine' extM (by (k_asm)) (by (k_asm)) (by (k_mem)) (by (first | omega | (simp only [List.length_cons, List.length_nil, List.length_append]; omega))) (by (k_upd)) (by (first | omega | (simp only [List.length_cons, List.length_nil, List.length_append]; omega))) ?_; k_whole); intro h' F' N'; (try k_sweep))
  k_with "exec For Name Call" => (k_here; k_dflt (refine' For_unrF (by k_asm) ?_ (by intro _; with_unfolding_all rfl) (by passes_own)))
  k_with "L open" => (unfold lawA lawEnv; generalize hS9 : lawParts.2 = sc9; conv at hS9 => { lhs; whnf }; subst hS9)
  k_with "call type:bytes" => (k_here; (with_reducible show wpAny _ _ (call (Value.type "bytes") [Value.ref _]) _ _ _); k_dflt (refine' bytesM (by (k_asm)) (by (k_asm)) (News.isList (by (k_asm)) (by (k_mem))) (by (with_reducible assumption)) (by (with_reducible assumption)) (by (omega)) rfl ?_; k_whole); intro h' t' k' F' N'; (try k_sweep))
  k_with "call ref" => (k_here; (with_reducible show wpAny _ _ (call (Value.ref 128) [Value.ref _]) _ _ _); k_dflt (refine' figs_use (by (with_reducible assumption)) (by (with_reducible assumption)) (by (omega)) (by (omega)) (by (k_asm)) (by (k_asm)) (by (k_asm)) (by (k_asm)) (by (k_asm)) (by (first | exact rfl | assumption)) (by (ktr_room)) (by (ktr_units)) (News.isList (by (k_asm)) (by (k_mem))) ?_); intro l9 w9 k9 h9 tk9 F9 N9 hI9; (try k_sweep))
  k_with "L sub" => (intro p hp; (repeat (first | exact hp | (rcases List.mem_cons.mp hp with rfl | hp; k_mem) | refine List.mem_cons_of_mem _ ?_)))
  trivial
theorem ls5 {w : World} {mean : ExcName → Option Value} {mg mb : Str → Option Value} {h₀ : Heap} {L fa : Addr} {cd : Value} {s : Shared} {Q E : Value → Shared → Prop} {m : Str → Option Value} {bs : List Int} {vs : List Value} {Oc Sg T0 : Addr} {k : Nat} {oOc oSg so To : Obj}
    (K0 : Below callerA h₀ [] h₀) (KX : (hd.heap_39 w.params).In h₀) (T : TopM mean mg mb h₀) (hI : IntsAre vs bs) (hB : InB bs) (hlen : bs.length ≤ 195) (h3 : bs.length % 3 = 0) (dO : oOc.data = .cell (some (.ref Oc)))
    (F : Fr h₀ L s.heap m) (N : News h₀ L s.heap [(Oc, listOf vs.toArray k), (L + 1 + 1, oOc), (Sg, so), (L + 1, oSg), (T0, To)])
    (next : ∀ D (zs : List Value) zk rest h' tk, Fr h₀ L h' m → News h₀ L h' ((D, ({ cls := .type "list", data := .seq zs.toArray zk } : Obj)) :: rest) → (Sg, so) ∈ rest → (L + 1, oSg) ∈ rest → (T0, To) ∈ rest → (∀ p ∈ rest, p.1 ≠ D) → (∀ v ∈ zs, PieceOk rest v) → zs.length ≤ 1000 → Q (.ref D) { s with heap := h', toks := tk }) :
    wpAny (lawM w) (lawA L fa cd) (eval (forOf forStmt).2.1 (lawEnv L fa cd)) Q E s := by
  have hvl : vs.length ≤ 195 := by rw [hI.length]; exact hlen
  generalize hB9 : forOf forStmt = bd
  conv at hB9 => { lhs; whnf }
  subst hB9
  dsimp only [TopM, lawM] at T ⊢
  walk_at "L open"
  k_with "pyIter ref" => (
    (with_reducible rename IsRange _ _ _ _ _ _ _ _ => nR);
    (with_reducible rename Fr _ _ _ _ => nF); (with_reducible rename News _ _ _ _ => nN);
    (refine' iter_range (n := bs.length / 3 + 1) rfl nF nN nR (range3_small1 _ (by omega)) (range3_size1 _ h3) ?zP ?RP);
    (case zP => (simp only [sizeLine_eq]; omega));
    (case' RP => (intro g; refine' CompRest.inv (PieceAt bs _) ?turnP ?doneP _ 0 [] _ (Nat.zero_add _) (pieceAt_nil _ _)));
    (case' turnP => (intro i ys news v I oI C oC D m2 h tk E2 hin hP hv hC hx hF hN hO hne; clear nF nN nR; obtain ⟨t, rfl⟩ := hv; obtain ⟨made, hnews, hyl, hmade⟩ := id hP; subst hnews; (try simp only [List.cons_append, List.nil_append] at hN hO); (try dsimp only)));
    (case' doneP => (intro ys news hP; clear nF nN nR; obtain ⟨made, hnews, hyl, hmade⟩ := id hP; subst hnews; (try simp only [List.cons_append, List.nil_append]); (try dsimp only))))
  k_steps
  case turnP.refine'_11 =>
    exact piece_end (by with_reducible assumption) (by assumption) (fun p hp => List.mem_cons_of_mem _ hp) (List.Mem.head _) hO (Ne.symm (Nat.ne_of_lt (by assumption))) (Ne.symm (Nat.ne_of_lt (by assumption))) (Ne.symm (Nat.ne_of_lt (by assumption))) hP (by with_reducible assumption) (by omega)
  (with_reducible rename Fr _ _ _ _ => nF)
  (with_reducible rename News _ _ _ _ => nN)
  refine next _ _ _ _ _ _ nF nN (by k_mem) (by k_mem) (by k_mem) ?_ (pieces_ok hB hlen h3 hyl hmade ?_ (List.Mem.tail _ (List.Mem.head _)) (by with_reducible assumption)) ?_
  · (with_reducible rename News _ _ _ ((_, listOf #[Value.ref _] 0) :: _) => nM)
    intro p hp
    exact Nat.ne_of_lt (Heap.lt_size (nM p hp).1)
  · intro p hp
    (repeat (first | exact hp | refine List.mem_cons_of_mem _ ?_))
  · rw [List.length_append, hyl, List.length_singleton]; omega
end
section
/-! the text of the signs -/
open PyProof.Rows
noncomputable def chS (n : Int) : Str := ⟨#[n.toNat]⟩
theorem strs_app : ∀ {vs : List Value} {xs : List Str} {ws : List Value} {ys : List Str}, StrsAre vs xs → StrsAre ws ys → StrsAre (vs ++ ws) (xs ++ ys)
  | _, _, _, _, .nil, h => h
  | _, _, _, _, .cons y t h, h' => .cons y t (strs_app h h')
noncomputable def ChAt (ns : List Int) (news₀ : List (Addr × Obj)) (i : Nat) (ys : List Value) (news : List (Addr × Obj)) : Prop := news = news₀ ∧ StrsAre ys ((ns.take i).map chS)
theorem chAt_nil (ns : List Int) (news₀ : List (Addr × Obj)) : ChAt ns news₀ 0 [] news₀ := ⟨rfl, .nil⟩
theorem chAt_more {ns : List Int} {news₀ news : List (Addr × Obj)} {i : Nat} {ys : List Value} {n : Int} {t : Tok} (h : ChAt ns news₀ i ys news) (hn : ns[i]? = some n) : ChAt ns news₀ (i + 1) (ys ++ [.str ⟨#[n.toNat]⟩ t]) news := by
  refine ⟨h.1, ?_⟩
  rw [List.take_add_one, hn, List.map_append]
  exact strs_app h.2 (.cons _ _ .nil)
theorem chAt_done {ns : List Int} {news₀ news : List (Addr × Obj)} {k : Nat} {ys : List Value} (h : ChAt ns news₀ k ys news) (hk : k = ns.length) : StrsAre ys (ns.map chS) := by
  have := h.2
  rwa [hk, List.take_length] at this
theorem join_chs (ns : List Int) : (Str.join ⟨#[]⟩ (ns.map chS)).cps = (ns.map Int.toNat).toArray := by
  induction ns with
  | nil => rfl
  | cons n r ih =>
    rw [List.map_cons, join_nil_cons, List.map_cons]
    show (chS n).cps ++ (Str.join ⟨#[]⟩ (r.map chS)).cps = _
    rw [ih]
    show #[n.toNat] ++ (r.map Int.toNat).toArray = _
    simp
theorem strs_length : ∀ {vs : List Value} {xs : List Str}, StrsAre vs xs → vs.length = xs.length
  | _, _, .nil => rfl
  | _, _, .cons y t h => by rw [List.length_cons, List.length_cons, strs_length h]
theorem join_ch {prog : Program} {w : World} {A : Around} {E : Value → Shared → Prop} {s : Shared} {D : Addr} {ys : List Value} {ns : List Int} {t : Tok} {Q : Value → Shared → Prop} (hl : s.heap.IsList D ys.toArray) (hi : StrsAre ys (ns.map chS)) (hz : ns.length ≤ 1000)
    (h : ∀ x t' k, x.cps = (ns.map Int.toNat).toArray → Q (.str x t') { s with toks := k }) : wpAny (model prog w) A (call (.builtin "str.join") [.str (Str.ofString "") t, .ref D]) Q E s := by
  refine join_listW hl (ys := ns.map chS) (by simpa using hi) (by decide) ?_ fun t' k => h _ t' k (by rw [show Txt.join (Str.ofString "") (ns.map chS) = Str.join ⟨#[]⟩ (ns.map chS) from eq_of_beq (join_closes rfl)]; exact join_chs ns)
  have : ((ns.map chS).map (·.length)).sum = ns.length := by
    clear hl hi hz h
    induction ns with
    | nil => rfl
    | cons n r ih =>
      rw [List.map_cons, List.map_cons, List.sum_cons, ih, List.length_cons]
      show 1 + r.length = r.length + 1
      omega
  rw [this, List.length_map]
  omega
theorem frame_given {m : Str → Option Value} {ka : Addr} {u : Str → Option Value} (h : ∀ y, y ≠ Str.ofString "given" → m y = if y = Str.ofString "kept" then some (.ref ka) else u y) :
    m = fun y => if y = Str.ofString "given" then m (Str.ofString "given") else if y = Str.ofString "kept" then some (.ref ka) else u y := by
  funext y
  by_cases hy : y = Str.ofString "given"
  · rw [if_pos hy, hy]
  · rw [if_neg hy]; exact h y hy
theorem frame3 {m m₀ : Str → Option Value} (h : ∀ y, y ≠ Str.ofString "given" → y ≠ Str.ofString "kept" → y ≠ Str.ofString "text" → m y = m₀ y) :
    m = fun y => if y = Str.ofString "given" then m (Str.ofString "given") else if y = Str.ofString "kept" then m (Str.ofString "kept") else if y = Str.ofString "text" then m (Str.ofString "text") else m₀ y := by
  funext y
  by_cases h1 : y = Str.ofString "given"
  · rw [if_pos h1, h1]
  · rw [if_neg h1]
    by_cases h2 : y = Str.ofString "kept"
    · rw [if_pos h2, h2]
    · rw [if_neg h2]
      by_cases h3 : y = Str.ofString "text"
      · rw [if_pos h3, h3]
      · rw [if_neg h3]; exact h y h1 h2 h3
theorem two_refs {D1 D2 : Addr} {i : Nat} {v : Value} (h : #[Value.ref D2, Value.ref D1][i]? = some v) : v = .ref D2 ∨ v = .ref D1 := by
  match i, h with
  | 0, h => exact .inl (Option.some.inj h).symm
  | 1, h => exact .inr (Option.some.inj h).symm
  | i + 2, h => simp at h
end
section
theorem fill_LB1_88 : True := by
  w_top off
  k_with_none
  k_with "M enter" => (refine' code_defM (by (k_asm)) (by (k_asm)) (by (k_asm)) (by (k_asm)) (by (exact rfl)) (by (exact rfl)) (by (assumption)) (by (k_is)) (by (k_is)) (by (ktr_room)) (by (first | exact BindsTo.of_eq rfl | exact binds_K (by k_in) rfl (by k_is) rfl rfl rfl)) (by (exact locs rfl)) ?_ (by (exact rfl)) (by (exact rfl)) (by (exact rfl)) (by (decide)); k_whole; intro L' h' F' N' B' X' T'; (try dsimp only); (try k_fold))
  k_with "M enter2" => ((case kA => exact rfl); (case kF => exact rfl); (case kK => assumption); (case k1 => k_asm); (case k2 => k_asm); (case k3 => k_asm); (case k5 => k_asm); (case k6 => k_is); (case k7 => k_is); (case k8 => ktr_room); (case k9 => first | exact BindsTo.of_eq rfl | exact binds_K (by k_in) rfl (by k_is) rfl rfl rfl); (case c5 => decide); (case kB => exact locs rfl); (case c2 => exact rfl); (case c3 => exact rfl); (case c4 => exact rfl); k_whole; intro L' h' F' N' B' X' T'; (try dsimp only); (try k_fold))
  k_with "call type:type" => (k_here; (with_reducible show wpAny _ _ (call (Value.type "type") [Value.bytes _ _]) _ _ _); refine call_type_of (PySem.W.typeIs_bytes _ _ _) (by decide +kernel) ?_)
  k_with "M ba" => (first | exact Fr.keep (by assumption) _ _ (by assumption) | assumption)
  k_with "call type:type" => (k_here; (with_reducible show wpAny _ _ (call (Value.type "type") [Value.ref _]) _ _ _); k_dflt (refine' kto_cont (T := "bytearray") (by ((refine' kitAt_ba (by (walk_at "M ba"))))) (by (decide +kernel)) ?_; k_whole))
  k_with "call builtin:isinstance" => (k_here; (with_reducible show wpAny _ _ (call _ [Value.ref _, Value.ref _]) _ _ _); kit_ncls; k_dflt (refine' kia_tup kitx_ba (by (k_in)) (by ((refine' kitAt_ba (by (walk_at "M ba"))))) (by (kit_tp)) (by (kit_is)) (by (kit_nb)) ?_; k_whole; intro _))
  k_with "call builtin:isinstance" => (k_here; (with_reducible show wpAny _ _ (call _ [Value.ref _, Value.type _]) _ _ _); k_dflt (refine' kia_one kitx_ba (by (k_in)) (by ((refine' kitAt_ba (by (walk_at "M ba"))))) (by (kit_is)) (by (kit_nb)) ?_; k_whole; intro _))
  k_with "call type:bytes" => (k_here; (with_reducible show wpAny _ _ (call (Value.type "bytes") [Value.ref _]) _ _ _); k_dflt (refine' ba_bytes (k := 0) (by (walk_at "M ba")) (by (assumption)) ?_; k_whole; intro _ _))
  k_with "getMethod str" => (k_here; with_reducible refine en_method ?_)
  k_with "call builtin:str.encode" => (k_here; (with_reducible show wpAny _ _ (call (Value.builtin "str.encode") [Value.str _ _, Value.str _ _]) _ _ _); refine' en_call (by (assumption)) (by (assumption)) ?_; intro _ _)
  k_with "getMethod bytes" => (k_here; with_reducible refine tr_method ?_)
  k_with "call builtin:bytes.translate" => (k_here; (with_reducible show wpAny _ _ (call (Value.builtin "bytes.translate") [Value.bytes _ _, Value.bytes _ _]) _ _ _); refine' trM (by (first | rfl | decide +kernel)) (by (decide +kernel)) (by (assumption)) ?_; intro _ _)
  k_with "binaryOp LShift int int" => (k_here; (with_reducible refine shlM (by (decide)) (by (decide)) (by (omega)) ?_))
  k_with "binaryOp RShift int int" => (k_here; (with_reducible refine shrM (by (first | decide | omega)) ?_))
  k_with "call builtin:list.append" => (k_here; (with_reducible show wpAny _ _ (call (Value.builtin _) [Value.ref _, Value.int _ _]) _ _ _); k_dflt (refine' append_K (by (k_asm)) (by (k_asm)) (by (k_upd)) ?_ (by ((simp only [List.size_toArray, List.length_append, List.length_cons, List.length_nil, sizeLine_eq]; omega))); k_whole); intro h' F' N'; (try simp only [List.push_toArray] at N'); (try k_sweep))
  k_with "call builtin:len" => (k_here; (with_reducible show wpAny _ _ (call (Value.builtin "len") [Value.ref _]) _ _ _); k_dflt (refine' lenM (News.isList (by (k_asm)) (by (k_mem))) (by (with_reducible assumption)) (by (omega)) ?_; k_whole))
  k_with "call type:bytes" => (k_here; (with_reducible show wpAny _ _ (call (Value.type "bytes") [Value.ref _]) _ _ _); k_dflt (refine' bytesM (by (k_asm)) (by (k_asm)) (News.isList (by (k_asm)) (by (k_mem))) (by (with_reducible assumption)) (by (with_reducible assumption)) (by (omega)) rfl ?_; k_whole); intro h' t' k' F' N'; (try k_sweep))
  k_with "binaryOp BitAnd int int" => (k_here; (with_reducible refine andM ?_))
  k_with "binaryOp BitOr int int" => (k_here; (with_reducible refine orM' ?_))
  k_with "M enterC" => ((case kA => exact rfl); (case kF => exact rfl); (case kK => assumption); (case k1 => k_asm); (case k2 => k_asm); (case k3 => k_asm); (case k5 => k_asm); (case k6 => k_is); (case k7 => k_is); (case k8 => ktr_room); (case k9 => first | exact BindsTo.of_eq rfl | exact binds_K (by k_in) rfl (by k_is) rfl rfl rfl); (case kB => exact rfl); (case kD => decide +kernel); (case c2 => exact rfl); (case c3 => exact rfl); (case c4 => exact rfl); k_whole; intro L' h' tk' cells' F' N' Y' B' X' T'; k_cells Y'; (try simp only [List.cons_append, List.nil_append] at N'); (try dsimp only); (try k_fold))
  k_with "call builtin:len" => (k_here; (with_reducible show wpAny _ _ (call (Value.builtin "len") [Value.ref _]) _ _ _); k_dflt (refine' lenM (stays_list (stays_of (by (k_asm))) (by (with_reducible assumption))) (by (with_reducible assumption)) (by (omega)) ?_; k_whole))
  k_with "eval Name" => (k_here; k_dflt (refine' nameX_L (by (k_asm)) (@rfl _ (some _)) ?_ (by (rfl)) (by (rfl)); k_whole))
  k_with "M back" => (intro r9 h9 tk9 F9 N9 S9 P9; (try dsimp only at P9); (first | (obtain ⟨t9, e9⟩ := P9; subst e9) | subst P9); clear S9; (try dsimp only); (try k_sweep))
  k_with "M call" => ((case k1 => k_asm); (case k2 => k_asm); (case k3 => k_asm); (case k4 => k_asm); (case k5 => k_asm); (case kK => first | exact rfl | assumption); (case kd => ktr_room); (case ku => ktr_units))
  k_with "call ref" => (k_here; (with_reducible show wpAny _ _ (call (Value.ref 70) [Value.int _ _]) _ _ _); k_dflt (refine' Ct.use (b64_value_ok _ _ _ _ _ _) (by (k_asm)) (by (k_asm)) (by (k_asm)) (by (k_asm)) (by (k_asm)) (by (first | exact rfl | assumption)) (by (ktr_room)) (by (ktr_units)) trivial ?_; walk_at "M back"))
  k_with "call ref" => (k_here; (with_reducible show wpAny _ _ (call (Value.ref 63) [Value.bool _]) _ _ _); k_dflt (refine' Ct.use (truth_ok _ _ _ _) (by (k_asm)) (by (k_asm)) (by (k_asm)) (by (k_asm)) (by (k_asm)) (by (first | exact rfl | assumption)) (by (ktr_room)) (by (ktr_units)) trivial ?_; walk_at "M back"))
  k_with "call ref" => (k_here; (with_reducible show wpAny _ _ (call (Value.ref 56) [Value.bytes _ _]) _ _ _); k_dflt (refine' Ct.use (buffer_ok _ _ _ _ _ _) (by (k_asm)) (by (k_asm)) (by (k_asm)) (by (k_asm)) (by (k_asm)) (by (first | exact rfl | assumption)) (by (ktr_room)) (by (ktr_units)) trivial ?_; walk_at "M back"))
  k_with "call ref" => (k_here; (with_reducible show wpAny _ _ (call (Value.ref 49) [Value.bytes _ _]) _ _ _); k_dflt (refine' Ct.use (ascii_buffer_ok _ _ _ _ _ _) (by (k_asm)) (by (k_asm)) (by (k_asm)) (by (k_asm)) (by (k_asm)) (by (first | exact rfl | assumption)) (by (ktr_room)) (by (ktr_units)) trivial ?_; walk_at "M back"))
  k_with "call ref" => (k_here; (with_reducible show wpAny _ _ (call (Value.ref 49) [Value.ref _]) _ _ _); k_dflt (refine' Ct.use (ascii_buffer_ba _ _ _ _ _ _ (by (assumption))) (by (k_asm)) (by (k_asm)) (by (k_asm)) (by (k_asm)) (by (k_asm)) (by (first | exact rfl | assumption)) (by (ktr_room)) (by (ktr_units)) (by (walk_at "M ba")) ?_; walk_at "M back"))
  k_with "call ref" => (k_here; (with_reducible show wpAny _ _ (call (Value.ref 29) [Value.bytes _ _]) _ _ _); k_dflt (refine' Ct.use (from_bytes_ok _ _ _ _ _ _) (by (k_asm)) (by (k_asm)) (by (k_asm)) (by (k_asm)) (by (k_asm)) (by (first | exact rfl | assumption)) (by (ktr_room)) (by (ktr_units)) trivial ?_; walk_at "M back"))
  k_with "call ref" => (k_here; (with_reducible show wpAny _ _ (call (Value.ref 29) [Value.ref _]) _ _ _); k_dflt (refine' Ct.use (from_ba _ _ _ _ _ _) (by (k_asm)) (by (k_asm)) (by (k_asm)) (by (k_asm)) (by (k_asm)) (by (first | exact rfl | assumption)) (by (ktr_room)) (by (ktr_units)) (by (walk_at "M ba")) ?_; walk_at "M back"))
  k_with "call ref" => (k_here; (with_reducible show wpAny _ _ (call (Value.ref 29) [Value.str _ _]) _ _ _); k_dflt (refine' Ct.use (from_str _ _ _ _ _ _ (by (assumption)) (by (assumption))) (by (k_asm)) (by (k_asm)) (by (k_asm)) (by (k_asm)) (by (k_asm)) (by (first | exact rfl | assumption)) (by (ktr_room)) (by (ktr_units)) trivial ?_; walk_at "M back"))
  k_with "L open" => (unfold lawA lawEnv; generalize hS9 : lawParts.2 = sc9; conv at hS9 => { lhs; whnf }; subst hS9)
  k_with "call type:bytes" => (k_here; (with_reducible show wpAny _ _ (call (Value.type "bytes") [Value.ref _]) _ _ _); k_dflt (refine' bytesM (by (k_asm)) (by (k_asm)) (News.isList (by (k_asm)) (by (k_mem))) (by (with_reducible assumption)) (by (with_reducible assumption)) (by (omega)) rfl ?_; k_whole); intro h' t' k' F' N'; (try k_sweep))
  k_with "call ref" => (k_here; (with_reducible show wpAny _ _ (call (Value.ref 128) [Value.ref _]) _ _ _); k_dflt (refine' figs_use (by (with_reducible assumption)) (by (with_reducible assumption)) (by (omega)) (by (omega)) (by (k_asm)) (by (k_asm)) (by (k_asm)) (by (k_asm)) (by (k_asm)) (by (first | exact rfl | assumption)) (by (ktr_room)) (by (ktr_units)) (News.isList (by (k_asm)) (by (k_mem))) ?_); intro l9 w9 k9 h9 tk9 F9 N9 hI9; (try k_sweep))
  k_with "L sub" => (intro p hp; (repeat (first | exact hp | (rcases List.mem_cons.mp hp with rfl | hp; k_mem) | refine List.mem_cons_of_mem _ ?_)))
  trivial
theorem lb1 {w : World} {mean : ExcName → Option Value} {mg mb : Str → Option Value} {h₀ : Heap} {L fa : Addr} {cd : Value} {s : Shared} {Q : Flow → Shared → Prop} {u : Str → Option Value} {pa : Addr} {pvs : List Value} {pbs : List Int} {pk : Nat} {T0 : Addr} {tl : List (Addr × Obj)}
    (K0 : Below callerA h₀ [] h₀) (KX : (hd.heap_39 w.params).In h₀) (T : TopM mean mg mb h₀) (hI : IntsAre pvs pbs) (hB : InB pbs) (hlen : pbs.length ≤ 195) (h3 : pbs.length % 3 = 0)
    (F : Fr h₀ L s.heap (fun y => if y = Str.ofString "piece" then some (.ref pa) else if y = Str.ofString "turns" then some (.ref T0) else u y))
    (N : News h₀ L s.heap ((pa, listOf pvs.toArray pk) :: tl))
    (next : ∀ h' tk t l fvs fk, Fr h₀ L h' (fun y => if y = Str.ofString "figures" then some (.ref l) else if y = Str.ofString "data" then some (.bytes (byteArr pbs) t) else if y = Str.ofString "piece" then some (.ref pa) else if y = Str.ofString "turns" then some (.ref T0) else u y) →
      News h₀ L h' ((l, listOf fvs.toArray fk) :: (pa, listOf pvs.toArray pk) :: tl) → IntsAre fvs (figT pbs (pbs.length / 3)) → wpC (lawM w) (lawA L fa cd) (execs (bodyFrom 2) (lawEnv L fa cd)) Q NoE { s with heap := h', toks := tk }) :
    wpC (lawM w) (lawA L fa cd) (execs (bodyFrom 0) (lawEnv L fa cd)) Q NoE s := by
  have hvl : pvs.length ≤ 195 := by rw [hI.length]; exact hlen
  have hR : ∀ n ∈ pbs, 0 ≤ n ∧ n < 256 := hB
  generalize hB9 : bodyFrom 0 = bd
  conv at hB9 => { lhs; whnf }
  subst hB9
  refine wpC_step ?_
  dsimp only [TopM, lawM] at T ⊢
  walk_at "L open"
  k_steps
  refine wpC_step ?_
  k_steps
  refine' next _ _ _ _ _ _ (by with_reducible assumption) (by with_reducible assumption) (by assumption)
end
section
theorem fill_LB2_92 : True := by
  w_top off
  k_with_none
  k_with "M enter" => (refine' code_defM (by (k_asm)) (by (k_asm)) (by (k_asm)) (by (k_asm)) (by (exact rfl)) (by (exact rfl)) (by (assumption)) (by (k_is)) (by (k_is)) (by (ktr_room)) (by (first | exact BindsTo.of_eq rfl | exact binds_K (by k_in) rfl (by k_is) rfl rfl rfl)) (by (exact locs rfl)) ?_ (by (exact rfl)) (by (exact rfl)) (by (exact rfl)) (by (decide)); k_whole; intro L' h' F' N' B' X' T'; (try dsimp only); (try k_fold))
  k_with "M enter2" => ((case kA => exact rfl); (case kF => exact rfl); (case kK => assumption); (case k1 => k_asm); (case k2 => k_asm); (case k3 => k_asm); (case k5 => k_asm); (case k6 => k_is); (case k7 => k_is); (case k8 => ktr_room); (case k9 => first | exact BindsTo.of_eq rfl | exact binds_K (by k_in) rfl (by k_is) rfl rfl rfl); (case c5 => decide); (case kB => exact locs rfl); (case c2 => exact rfl); (case c3 => exact rfl); (case c4 => exact rfl); k_whole; intro L' h' F' N' B' X' T'; (try dsimp only); (try k_fold))
  k_with "call type:type" => (k_here; (with_reducible show wpAny _ _ (call (Value.type "type") [Value.bytes _ _]) _ _ _); refine call_type_of (PySem.W.typeIs_bytes _ _ _) (by decide +kernel) ?_)
  k_with "M ba" => (first | exact Fr.keep (by assumption) _ _ (by assumption) | assumption)
  k_with "call type:type" => (k_here; (with_reducible show wpAny _ _ (call (Value.type "type") [Value.ref _]) _ _ _); k_dflt (refine' kto_cont (T := "bytearray") (by ((refine' kitAt_ba (by (walk_at "M ba"))))) (by (decide +kernel)) ?_; k_whole))
  k_with "call builtin:isinstance" => (k_here; (with_reducible show wpAny _ _ (call _ [Value.ref _, Value.ref _]) _ _ _); kit_ncls; k_dflt (refine' kia_tup kitx_ba (by (k_in)) (by ((refine' kitAt_ba (by (walk_at "M ba"))))) (by (kit_tp)) (by (kit_is)) (by (kit_nb)) ?_; k_whole; intro _))
  k_with "call builtin:isinstance" => (k_here; (with_reducible show wpAny _ _ (call _ [Value.ref _, Value.type _]) _ _ _); k_dflt (refine' kia_one kitx_ba (by (k_in)) (by ((refine' kitAt_ba (by (walk_at "M ba"))))) (by (kit_is)) (by (kit_nb)) ?_; k_whole; intro _))
  k_with "call type:bytes" => (k_here; (with_reducible show wpAny _ _ (call (Value.type "bytes") [Value.ref _]) _ _ _); k_dflt (refine' ba_bytes (k := 0) (by (walk_at "M ba")) (by (assumption)) ?_; k_whole; intro _ _))
  k_with "getMethod str" => (k_here; with_reducible refine en_method ?_)
  k_with "call builtin:str.encode" => (k_here; (with_reducible show wpAny _ _ (call (Value.builtin "str.encode") [Value.str _ _, Value.str _ _]) _ _ _); refine' en_call (by (assumption)) (by (assumption)) ?_; intro _ _)
  k_with "getMethod bytes" => (k_here; with_reducible refine tr_method ?_)
  k_with "call builtin:bytes.translate" => (k_here; (with_reducible show wpAny _ _ (call (Value.builtin "bytes.translate") [Value.bytes _ _, Value.bytes _ _]) _ _ _); refine' trM (by (first | rfl | decide +kernel)) (by (decide +kernel)) (by (assumption)) ?_; intro _ _)
  k_with "binaryOp LShift int int" => (k_here; (with_reducible refine shlM (by (decide)) (by (decide)) (by (omega)) ?_))
  k_with "binaryOp RShift int int" => (k_here; (with_reducible refine shrM (by (first | decide | omega)) ?_))
  k_with "call builtin:list.append" => (k_here; (with_reducible show wpAny _ _ (call (Value.builtin _) [Value.ref _, Value.int _ _]) _ _ _); k_dflt (refine' append_K (by (k_asm)) (by (k_asm)) (by (k_upd)) ?_ (by ((simp only [List.size_toArray, List.length_append, List.length_cons, List.length_nil, sizeLine_eq]; omega))); k_whole); intro h' F' N'; (try simp only [List.push_toArray] at N'); (try k_sweep))
  k_with "call builtin:len" => (k_here; (with_reducible show wpAny _ _ (call (Value.builtin "len") [Value.ref _]) _ _ _); k_dflt (refine' lenM (News.isList (by (k_asm)) (by (k_mem))) (by (with_reducible assumption)) (by (omega)) ?_; k_whole))
  k_with "call type:bytes" => (k_here; (with_reducible show wpAny _ _ (call (Value.type "bytes") [Value.ref _]) _ _ _); k_dflt (refine' bytesM (by (k_asm)) (by (k_asm)) (News.isList (by (k_asm)) (by (k_mem))) (by (with_reducible assumption)) (by (with_reducible assumption)) (by (omega)) rfl ?_; k_whole); intro h' t' k' F' N'; (try k_sweep))
  k_with "binaryOp BitAnd int int" => (k_here; (with_reducible refine andM ?_))
  k_with "binaryOp BitOr int int" => (k_here; (with_reducible refine orM' ?_))
  k_with "M enterC" => ((case kA => exact rfl); (case kF => exact rfl); (case kK => assumption); (case k1 => k_asm); (case k2 => k_asm); (case k3 => k_asm); (case k5 => k_asm); (case k6 => k_is); (case k7 => k_is); (case k8 => ktr_room); (case k9 => first | exact BindsTo.of_eq rfl | exact binds_K (by k_in) rfl (by k_is) rfl rfl rfl); (case kB => exact rfl); (case kD => decide +kernel); (case c2 => exact rfl); (case c3 => exact rfl); (case c4 => exact rfl); k_whole; intro L' h' tk' cells' F' N' Y' B' X' T'; k_cells Y'; (try simp only [List.cons_append, List.nil_append] at N'); (try dsimp only); (try k_fold))
  k_with "call builtin:len" => (k_here; (with_reducible show wpAny _ _ (call (Value.builtin "len") [Value.ref _]) _ _ _); k_dflt (refine' lenM (stays_list (stays_of (by (k_asm))) (by (with_reducible assumption))) (by (with_reducible assumption)) (by (omega)) ?_; k_whole))
  k_with "eval Name" => (k_here; k_dflt (refine' nameX_L (by (k_asm)) (@rfl _ (some _)) ?_ (by (rfl)) (by (rfl)); k_whole))
  k_with "M back" => (intro r9 h9 tk9 F9 N9 S9 P9; (try dsimp only at P9); (first | (obtain ⟨t9, e9⟩ := P9; subst e9) | subst P9); clear S9; (try dsimp only); (try k_sweep))
  k_with "M call" => ((case k1 => k_asm); (case k2 => k_asm); (case k3 => k_asm); (case k4 => k_asm); (case k5 => k_asm); (case kK => first | exact rfl | assumption); (case kd => ktr_room); (case ku => ktr_units))
  k_with "call ref" => (k_here; (with_reducible show wpAny _ _ (call (Value.ref 70) [Value.int _ _]) _ _ _); k_dflt (refine' Ct.use (b64_value_ok _ _ _ _ _ _) (by (k_asm)) (by (k_asm)) (by (k_asm)) (by (k_asm)) (by (k_asm)) (by (first | exact rfl | assumption)) (by (ktr_room)) (by (ktr_units)) trivial ?_; walk_at "M back"))
  k_with "call ref" => (k_here; (with_reducible show wpAny _ _ (call (Value.ref 63) [Value.bool _]) _ _ _); k_dflt (refine' Ct.use (truth_ok _ _ _ _) (by (k_asm)) (by (k_asm)) (by (k_asm)) (by (k_asm)) (by (k_asm)) (by (first | exact rfl | assumption)) (by (ktr_room)) (by (ktr_units)) trivial ?_; walk_at "M back"))
  k_with "call ref" => (k_here; (with_reducible show wpAny _ _ (call (Value.ref 56) [Value.bytes _ _]) _ _ _); k_dflt (refine' Ct.use (buffer_ok _ _ _ _ _ _) (by (k_asm)) (by (k_asm)) (by (k_asm)) (by (k_asm)) (by (k_asm)) (by (first | exact rfl | assumption)) (by (ktr_room)) (by (ktr_units)) trivial ?_; walk_at "M back"))
  k_with "call ref" => (k_here; (with_reducible show wpAny _ _ (call (Value.ref 49) [Value.bytes _ _]) _ _ _); k_dflt (refine' Ct.use (ascii_buffer_ok _ _ _ _ _ _) (by (k_asm)) (by (k_asm)) (by (k_asm)) (by (k_asm)) (by (k_asm)) (by (first | exact rfl | assumption)) (by (ktr_room)) (by (ktr_units)) trivial ?_; walk_at "M back"))
  k_with "call ref" => (k_here; (with_reducible show wpAny _ _ (call (Value.ref 49) [Value.ref _]) _ _ _); k_dflt (refine' Ct.use (ascii_buffer_ba _ _ _ _ _ _ (by (assumption))) (by (k_asm)) (by (k_asm)) (by (k_asm)) (by (k_asm)) (by (k_asm)) (by (first | exact rfl | assumption)) (by (ktr_room)) (by (ktr_units)) (by (walk_at "M ba")) ?_; walk_at "M back"))
  k_with "call ref" => (k_here; (with_reducible show wpAny _ _ (call (Value.ref 29) [Value.bytes _ _]) _ _ _); k_dflt (refine' Ct.use (from_bytes_ok _ _ _ _ _ _) (by (k_asm)) (by (k_asm)) (by (k_asm)) (by (k_asm)) (by (k_asm)) (by (first | exact rfl | assumption)) (by (ktr_room)) (by (ktr_units)) trivial ?_; walk_at "M back"))
  k_with "call ref" => (k_here; (with_reducible show wpAny _ _ (call (Value.ref 29) [Value.ref _]) _ _ _); k_dflt (refine' Ct.use (from_ba _ _ _ _ _ _) (by (k_asm)) (by (k_asm)) (by (k_asm)) (by (k_asm)) (by (k_asm)) (by (first | exact rfl | assumption)) (by (ktr_room)) (by (ktr_units)) (by (walk_at "M ba")) ?_; walk_at "M back"))
  k_with "call ref" => (k_here; (with_reducible show wpAny _ _ (call (Value.ref 29) [Value.str _ _]) _ _ _); k_dflt (refine' Ct.use (from_str _ _ _ _ _ _ (by (assumption)) (by (assumption))) (by (k_asm)) (by (k_asm)) (by (k_asm)) (by (k_asm)) (by (k_asm)) (by (first | exact rfl | assumption)) (by (ktr_room)) (by (ktr_units)) trivial ?_; walk_at "M back"))
  k_with "eval ListComp" => (k_here; k_dflt (refine ListComp_G (F₀ := by k_asm) (by with_unfolding_all rfl) (by decide) (by rfl) (by decide) (by rfl) ?_))
  k_with "pyIter ref" => (k_here; (with_reducible show wpAny _ _ (pyIter _) (CompIt _ _ _ _ _ _ _ _ _ _ _ _) _ _); k_dflt (refine' iter_tuple rfl (by (k_asm)) (by (k_asm)) (SrcT.made (by (k_mem))) (by (exact Nat.le_of_ble_eq_true rfl)) ?_; k_whole); intro g'; lcg_lit)
  k_with "CompEnd" => (refine' CompEnd.same (by (k_asm)) (by (k_asm)) (by ((simp only [LCg.Off3, and_true]; with_reducible assumption))) (by (first | exact True.intro | exact SrcT.made (by k_mem) | exact Or.inl (by assumption) | exact Or.inr ⟨_, by k_mem, rfl, _, rfl⟩)) ?_)
  k_with "call builtin:list.extend" => (k_here; (with_reducible show wpAny _ _ (call (Value.builtin _) [Value.ref _, Value.ref _]) _ _ _); k_dflt (refine' extM (by (k_asm)) (by (k_asm)) (by (k_mem)) (by (first | omega | (simp only [List.length_cons, List.length_nil, List.length_append]; omega))) (by (k_upd)) (by (first | omega | (simp only [List.length_cons, List.length_nil, List.length_append]; omega))) ?_; k_whole); intro h' F' N'; (try k_sweep))
  k_with "exec For Name Call" => (k_here; k_dflt (refine' For_unrF (by k_asm) ?_ (by intro _; with_unfolding_all rfl) (by passes_own)))
  k_with "L open" => (unfold lawA lawEnv; generalize hS9 : lawParts.2 = sc9; conv at hS9 => { lhs; whnf }; subst hS9)
  k_with "call type:bytes" => (k_here; (with_reducible show wpAny _ _ (call (Value.type "bytes") [Value.ref _]) _ _ _); k_dflt (refine' bytesM (by (k_asm)) (by (k_asm)) (News.isList (by (k_asm)) (by (k_mem))) (by (with_reducible assumption)) (by (with_reducible assumption)) (by (omega)) rfl ?_; k_whole); intro h' t' k' F' N'; (try k_sweep))
  k_with "call ref" => (k_here; (with_reducible show wpAny _ _ (call (Value.ref 128) [Value.ref _]) _ _ _); k_dflt (refine' figs_use (by (with_reducible assumption)) (by (with_reducible assumption)) (by (omega)) (by (omega)) (by (k_asm)) (by (k_asm)) (by (k_asm)) (by (k_asm)) (by (k_asm)) (by (first | exact rfl | assumption)) (by (ktr_room)) (by (ktr_units)) (News.isList (by (k_asm)) (by (k_mem))) ?_); intro l9 w9 k9 h9 tk9 F9 N9 hI9; (try k_sweep))
  k_with "L sub" => (intro p hp; (repeat (first | exact hp | (rcases List.mem_cons.mp hp with rfl | hp; k_mem) | refine List.mem_cons_of_mem _ ?_)))
  k_with "subscriptTail" => (k_here; (with_reducible show wpAny _ _ (subscriptTail _ _ (Value.ref _) (Value.int _ _)) _ _ _); (refine' itemS (News.isList (by (k_asm)) (by (k_mem))) (by (with_reducible assumption)) (by (omega)) (by ((rw [sgL_length]; simp only [List.length_cons, List.length_nil]; omega))) (by ((rw [sgL_length]; simp only [List.length_cons, List.length_nil]; omega))) ?_); intro _)
  trivial
theorem lb2 {w : World} {mean : ExcName → Option Value} {mg mb : Str → Option Value} {h₀ : Heap} {L fa : Addr} {cd : Value} {s : Shared} {Q : Flow → Shared → Prop} {u : Str → Option Value} {l pa Sg : Addr} {fvs ws : List Value} {fs : List Int} {fk wk : Nat} {po oSg : Obj} {tl : List (Addr × Obj)}
    (K0 : Below callerA h₀ [] h₀) (KX : (hd.heap_39 w.params).In h₀) (T : TopM mean mg mb h₀) (hI : IntsAre fvs fs) (hB : In64 fs) (hlen : fs.length ≤ 260) (hS : IntsAre ws (rangeKs 65 26 ++ rangeKs 97 26 ++ rangeKs 48 10)) (dS : oSg.data = .cell (some (.ref Sg)))
    (F : Fr h₀ L s.heap (fun y => if y = Str.ofString "figures" then some (.ref l) else u y))
    (N : News h₀ L s.heap ((l, listOf fvs.toArray fk) :: (pa, po) :: (Sg, listOf ws.toArray wk) :: (L + 1, oSg) :: tl))
    (next : ∀ h' tk t, Fr h₀ L h' (fun y => if y = Str.ofString "plain" then some (.bytes (byteArr (fs.map (sg [43, 47]))) t) else if y = Str.ofString "figures" then some (.ref l) else u y) →
      News h₀ L h' ((l, listOf fvs.toArray fk) :: (pa, po) :: (Sg, listOf ws.toArray wk) :: (L + 1, oSg) :: tl) → wpC (lawM w) (lawA L fa cd) (execs (bodyFrom 3) (lawEnv L fa cd)) Q NoE { s with heap := h', toks := tk }) :
    wpC (lawM w) (lawA L fa cd) (execs (bodyFrom 2) (lawEnv L fa cd)) Q NoE s := by
  have hvl : fvs.length ≤ 260 := by rw [hI.length]; exact hlen
  generalize hB9 : bodyFrom 2 = bd
  conv at hB9 => { lhs; whnf }
  subst hB9
  refine wpC_step ?_
  dsimp only [TopM, lawM] at T ⊢
  walk_at "L open"
  k_with "pyIter ref" => (
    (with_reducible rename Fr _ _ _ _ => nF); (with_reducible rename News _ _ _ _ => nN);
    (refine' iter_list rfl nF nN (Or.inr ⟨_, List.Mem.head _, rfl, _, rfl⟩) ?zP ?RP);
    (case zP => (rw [List.size_toArray, sizeLine_eq]; omega));
    (case' RP => (intro g; refine' CompRest.inv (SgAt [43, 47] fs _) ?turnP ?doneP _ 0 [] _ (Nat.zero_add _) (sgAt_nil _ _ _)));
    (case' turnP => (intro i ys news v I oI C oC D m2 h tk E2 hin hP hv hC hx hF hN hO hne; clear nF nN; obtain ⟨n, t, hn, rfl⟩ := item_int hI hv; have hn64 := hB n (List.mem_of_getElem? hn); obtain rfl := hP.1; (try dsimp only)));
    (case' doneP => (intro ys news hP; obtain rfl := hP.1; clear nF nN; have hPI := sgAt_done hI hP; have hPR := sg_in (ms := [43, 47]) (fs := fs) (by decide); have hPl : ys.length ≤ 260 := (by rw [hPI.length, List.length_map]; exact hlen); (try dsimp only))))
  k_steps
  all_goals (first
    | (refine' next _ _ _ (by with_reducible assumption) (News.sub (by with_reducible assumption) ?_); exact fun p hp => List.mem_cons_of_mem _ hp)
    | skip)
  refine' LCg.CompEnd.intro (by with_reducible assumption) ?N _ ?sub hO (Or.inr ⟨_, List.Mem.head _, rfl, _, rfl⟩) (sgAt_more hP hn)
  (case N => with_reducible assumption)
  exact fun p hp => List.mem_cons_of_mem _ (List.mem_cons_of_mem _ hp)
end
section
theorem fill_LB3_96 : True := by
  w_top off
  k_with_none
  k_with "M enter" => (refine' code_defM (by (k_asm)) (by (k_asm)) (by (k_asm)) (by (k_asm)) (by (exact rfl)) (by (exact rfl)) (by (assumption)) (by (k_is)) (by (k_is)) (by (ktr_room)) (by (first | exact BindsTo.of_eq rfl | exact binds_K (by k_in) rfl (by k_is) rfl rfl rfl)) (by (exact locs rfl)) ?_ (by (exact rfl)) (by (exact rfl)) (by (exact rfl)) (by (decide)); k_whole; intro L' h' F' N' B' X' T'; (try dsimp only); (try k_fold))
  k_with "M enter2" => ((case kA => exact rfl); (case kF => exact rfl); (case kK => assumption); (case k1 => k_asm); (case k2 => k_asm); (case k3 => k_asm); (case k5 => k_asm); (case k6 => k_is); (case k7 => k_is); (case k8 => ktr_room); (case k9 => first | exact BindsTo.of_eq rfl | exact binds_K (by k_in) rfl (by k_is) rfl rfl rfl); (case c5 => decide); (case kB => exact locs rfl); (case c2 => exact rfl); (case c3 => exact rfl); (case c4 => exact rfl); k_whole; intro L' h' F' N' B' X' T'; (try dsimp only); (try k_fold))
  k_with "call type:type" => (k_here; (with_reducible show wpAny _ _ (call (Value.type "type") [Value.bytes _ _]) _ _ _); refine call_type_of (PySem.W.typeIs_bytes _ _ _) (by decide +kernel) ?_)
  k_with "M ba" => (first | exact Fr.keep (by assumption) _ _ (by assumption) | assumption)
  k_with "call type:type" => (k_here; (with_reducible show wpAny _ _ (call (Value.type "type") [Value.ref _]) _ _ _); k_dflt (refine' kto_cont (T := "bytearray") (by ((refine' kitAt_ba (by (walk_at "M ba"))))) (by (decide +kernel)) ?_; k_whole))
  k_with "call builtin:isinstance" => (k_here; (with_reducible show wpAny _ _ (call _ [Value.ref _, Value.ref _]) _ _ _); kit_ncls; k_dflt (refine' kia_tup kitx_ba (by (k_in)) (by ((refine' kitAt_ba (by (walk_at "M ba"))))) (by (kit_tp)) (by (kit_is)) (by (kit_nb)) ?_; k_whole; intro _))
  k_with "call builtin:isinstance" => (k_here; (with_reducible show wpAny _ _ (call _ [Value.ref _, Value.type _]) _ _ _); k_dflt (refine' kia_one kitx_ba (by (k_in)) (by ((refine' kitAt_ba (by (walk_at "M ba"))))) (by (kit_is)) (by (kit_nb)) ?_; k_whole; intro _))
  k_with "call type:bytes" => (k_here; (with_reducible show wpAny _ _ (call (Value.type "bytes") [Value.ref _]) _ _ _); k_dflt (refine' ba_bytes (k := 0) (by (walk_at "M ba")) (by (assumption)) ?_; k_whole; intro _ _))
  k_with "getMethod str" => (k_here; with_reducible refine en_method ?_)
  k_with "call builtin:str.encode" => (k_here; (with_reducible show wpAny _ _ (call (Value.builtin "str.encode") [Value.str _ _, Value.str _ _]) _ _ _); refine' en_call (by (assumption)) (by (assumption)) ?_; intro _ _)
  k_with "getMethod bytes" => (k_here; with_reducible refine tr_method ?_)
  k_with "call builtin:bytes.translate" => (k_here; (with_reducible show wpAny _ _ (call (Value.builtin "bytes.translate") [Value.bytes _ _, Value.bytes _ _]) _ _ _); refine' trM (by (first | rfl | decide +kernel)) (by (decide +kernel)) (by (assumption)) ?_; intro _ _)
  k_with "binaryOp LShift int int" => (k_here; (with_reducible refine shlM (by (decide)) (by (decide)) (by (omega)) ?_))
  k_with "binaryOp RShift int int" => (k_here; (with_reducible refine shrM (by (first | decide | omega)) ?_))
  k_with "call builtin:list.append" => (k_here; (with_reducible show wpAny _ _ (call (Value.builtin _) [Value.ref _, Value.int _ _]) _ _ _); k_dflt (refine' append_K (by (k_asm)) (by (k_asm)) (by (k_upd)) ?_ (by ((simp only [List.size_toArray, List.length_append, List.length_cons, List.length_nil, sizeLine_eq]; omega))); k_whole); intro h' F' N'; (try simp only [List.push_toArray] at N'); (try k_sweep))
  k_with "call builtin:len" => (k_here; (with_reducible show wpAny _ _ (call (Value.builtin "len") [Value.ref _]) _ _ _); k_dflt (refine' lenM (News.isList (by (k_asm)) (by (k_mem))) (by (with_reducible assumption)) (by (omega)) ?_; k_whole))
  k_with "call type:bytes" => (k_here; (with_reducible show wpAny _ _ (call (Value.type "bytes") [Value.ref _]) _ _ _); k_dflt (refine' bytesM (by (k_asm)) (by (k_asm)) (News.isList (by (k_asm)) (by (k_mem))) (by (with_reducible assumption)) (by (with_reducible assumption)) (by (omega)) rfl ?_; k_whole); intro h' t' k' F' N'; (try k_sweep))
  k_with "binaryOp BitAnd int int" => (k_here; (with_reducible refine andM ?_))
  k_with "binaryOp BitOr int int" => (k_here; (with_reducible refine orM' ?_))
  k_with "M enterC" => ((case kA => exact rfl); (case kF => exact rfl); (case kK => assumption); (case k1 => k_asm); (case k2 => k_asm); (case k3 => k_asm); (case k5 => k_asm); (case k6 => k_is); (case k7 => k_is); (case k8 => ktr_room); (case k9 => first | exact BindsTo.of_eq rfl | exact binds_K (by k_in) rfl (by k_is) rfl rfl rfl); (case kB => exact rfl); (case kD => decide +kernel); (case c2 => exact rfl); (case c3 => exact rfl); (case c4 => exact rfl); k_whole; intro L' h' tk' cells' F' N' Y' B' X' T'; k_cells Y'; (try simp only [List.cons_append, List.nil_append] at N'); (try dsimp only); (try k_fold))
  k_with "call builtin:len" => (k_here; (with_reducible show wpAny _ _ (call (Value.builtin "len") [Value.ref _]) _ _ _); k_dflt (refine' lenM (stays_list (stays_of (by (k_asm))) (by (with_reducible assumption))) (by (with_reducible assumption)) (by (omega)) ?_; k_whole))
  k_with "eval Name" => (k_here; k_dflt (refine' nameX_L (by (k_asm)) (@rfl _ (some _)) ?_ (by (rfl)) (by (rfl)); k_whole))
  k_with "M back" => (intro r9 h9 tk9 F9 N9 S9 P9; (try dsimp only at P9); (first | (obtain ⟨t9, e9⟩ := P9; subst e9) | subst P9); clear S9; (try dsimp only); (try k_sweep))
  k_with "M call" => ((case k1 => k_asm); (case k2 => k_asm); (case k3 => k_asm); (case k4 => k_asm); (case k5 => k_asm); (case kK => first | exact rfl | assumption); (case kd => ktr_room); (case ku => ktr_units))
  k_with "call ref" => (k_here; (with_reducible show wpAny _ _ (call (Value.ref 70) [Value.int _ _]) _ _ _); k_dflt (refine' Ct.use (b64_value_ok _ _ _ _ _ _) (by (k_asm)) (by (k_asm)) (by (k_asm)) (by (k_asm)) (by (k_asm)) (by (first | exact rfl | assumption)) (by (ktr_room)) (by (ktr_units)) trivial ?_; walk_at "M back"))
  k_with "call ref" => (k_here; (with_reducible show wpAny _ _ (call (Value.ref 63) [Value.bool _]) _ _ _); k_dflt (refine' Ct.use (truth_ok _ _ _ _) (by (k_asm)) (by (k_asm)) (by (k_asm)) (by (k_asm)) (by (k_asm)) (by (first | exact rfl | assumption)) (by (ktr_room)) (by (ktr_units)) trivial ?_; walk_at "M back"))
  k_with "call ref" => (k_here; (with_reducible show wpAny _ _ (call (Value.ref 56) [Value.bytes _ _]) _ _ _); k_dflt (refine' Ct.use (buffer_ok _ _ _ _ _ _) (by (k_asm)) (by (k_asm)) (by (k_asm)) (by (k_asm)) (by (k_asm)) (by (first | exact rfl | assumption)) (by (ktr_room)) (by (ktr_units)) trivial ?_; walk_at "M back"))
  k_with "call ref" => (k_here; (with_reducible show wpAny _ _ (call (Value.ref 49) [Value.bytes _ _]) _ _ _); k_dflt (refine' Ct.use (ascii_buffer_ok _ _ _ _ _ _) (by (k_asm)) (by (k_asm)) (by (k_asm)) (by (k_asm)) (by (k_asm)) (by (first | exact rfl | assumption)) (by (ktr_room)) (by (ktr_units)) trivial ?_; walk_at "M back"))
  k_with "call ref" => (k_here; (with_reducible show wpAny _ _ (call (Value.ref 49) [Value.ref _]) _ _ _); k_dflt (refine' Ct.use (ascii_buffer_ba _ _ _ _ _ _ (by (assumption))) (by (k_asm)) (by (k_asm)) (by (k_asm)) (by (k_asm)) (by (k_asm)) (by (first | exact rfl | assumption)) (by (ktr_room)) (by (ktr_units)) (by (walk_at "M ba")) ?_; walk_at "M back"))
  k_with "call ref" => (k_here; (with_reducible show wpAny _ _ (call (Value.ref 29) [Value.bytes _ _]) _ _ _); k_dflt (refine' Ct.use (from_bytes_ok _ _ _ _ _ _) (by (k_asm)) (by (k_asm)) (by (k_asm)) (by (k_asm)) (by (k_asm)) (by (first | exact rfl | assumption)) (by (ktr_room)) (by (ktr_units)) trivial ?_; walk_at "M back"))
  k_with "call ref" => (k_here; (with_reducible show wpAny _ _ (call (Value.ref 29) [Value.ref _]) _ _ _); k_dflt (refine' Ct.use (from_ba _ _ _ _ _ _) (by (k_asm)) (by (k_asm)) (by (k_asm)) (by (k_asm)) (by (k_asm)) (by (first | exact rfl | assumption)) (by (ktr_room)) (by (ktr_units)) (by (walk_at "M ba")) ?_; walk_at "M back"))
  k_with "call ref" => (k_here; (with_reducible show wpAny _ _ (call (Value.ref 29) [Value.str _ _]) _ _ _); k_dflt (refine' Ct.use (from_str _ _ _ _ _ _ (by (assumption)) (by (assumption))) (by (k_asm)) (by (k_asm)) (by (k_asm)) (by (k_asm)) (by (k_asm)) (by (first | exact rfl | assumption)) (by (ktr_room)) (by (ktr_units)) trivial ?_; walk_at "M back"))
  k_with "eval ListComp" => (k_here; k_dflt (refine ListComp_G (F₀ := by k_asm) (by with_unfolding_all rfl) (by decide) (by rfl) (by decide) (by rfl) ?_))
  k_with "pyIter ref" => (k_here; (with_reducible show wpAny _ _ (pyIter _) (CompIt _ _ _ _ _ _ _ _ _ _ _ _) _ _); k_dflt (refine' iter_tuple rfl (by (k_asm)) (by (k_asm)) (SrcT.made (by (k_mem))) (by (exact Nat.le_of_ble_eq_true rfl)) ?_; k_whole); intro g'; lcg_lit)
  k_with "CompEnd" => (refine' CompEnd.same (by (k_asm)) (by (k_asm)) (by ((simp only [LCg.Off3, and_true]; with_reducible assumption))) (by (first | exact True.intro | exact SrcT.made (by k_mem) | exact Or.inl (by assumption) | exact Or.inr ⟨_, by k_mem, rfl, _, rfl⟩)) ?_)
  k_with "call builtin:list.extend" => (k_here; (with_reducible show wpAny _ _ (call (Value.builtin _) [Value.ref _, Value.ref _]) _ _ _); k_dflt (refine' extM (by (k_asm)) (by (k_asm)) (by (k_mem)) (by (first | omega | (simp only [List.length_cons, List.length_nil, List.length_append]; omega))) (by (k_upd)) (by (first | omega | (simp only [List.length_cons, List.length_nil, List.length_append]; omega))) ?_; k_whole); intro h' F' N'; (try k_sweep))
  k_with "exec For Name Call" => (k_here; k_dflt (refine' For_unrF (by k_asm) ?_ (by intro _; with_unfolding_all rfl) (by passes_own)))
  k_with "L open" => (unfold lawA lawEnv; generalize hS9 : lawParts.2 = sc9; conv at hS9 => { lhs; whnf }; subst hS9)
  k_with "call type:bytes" => (k_here; (with_reducible show wpAny _ _ (call (Value.type "bytes") [Value.ref _]) _ _ _); k_dflt (refine' bytesM (by (k_asm)) (by (k_asm)) (News.isList (by (k_asm)) (by (k_mem))) (by (with_reducible assumption)) (by (with_reducible assumption)) (by (omega)) rfl ?_; k_whole); intro h' t' k' F' N'; (try k_sweep))
  k_with "call ref" => (k_here; (with_reducible show wpAny _ _ (call (Value.ref 128) [Value.ref _]) _ _ _); k_dflt (refine' figs_use (by (with_reducible assumption)) (by (with_reducible assumption)) (by (omega)) (by (omega)) (by (k_asm)) (by (k_asm)) (by (k_asm)) (by (k_asm)) (by (k_asm)) (by (first | exact rfl | assumption)) (by (ktr_room)) (by (ktr_units)) (News.isList (by (k_asm)) (by (k_mem))) ?_); intro l9 w9 k9 h9 tk9 F9 N9 hI9; (try k_sweep))
  k_with "L sub" => (intro p hp; (repeat (first | exact hp | (rcases List.mem_cons.mp hp with rfl | hp; k_mem) | refine List.mem_cons_of_mem _ ?_)))
  k_with "subscriptTail" => (k_here; (with_reducible show wpAny _ _ (subscriptTail _ _ (Value.ref _) (Value.int _ _)) _ _ _); (refine' itemS (News.isList (by (k_asm)) (by (k_mem))) (by (with_reducible assumption)) (by (omega)) (by ((rw [sgL_length]; simp only [List.length_cons, List.length_nil]; omega))) (by ((rw [sgL_length]; simp only [List.length_cons, List.length_nil]; omega))) ?_); intro _)
  trivial
theorem lb3 {w : World} {mean : ExcName → Option Value} {mg mb : Str → Option Value} {h₀ : Heap} {L fa : Addr} {cd : Value} {s : Shared} {Q : Flow → Shared → Prop} {u : Str → Option Value} {pv : Option Value} {l pa Sg : Addr} {fvs ws : List Value} {fs : List Int} {fk wk : Nat} {po oSg : Obj} {tl : List (Addr × Obj)}
    (K0 : Below callerA h₀ [] h₀) (KX : (hd.heap_39 w.params).In h₀) (T : TopM mean mg mb h₀) (hI : IntsAre fvs fs) (hB : In64 fs) (hlen : fs.length ≤ 260) (hS : IntsAre ws (rangeKs 65 26 ++ rangeKs 97 26 ++ rangeKs 48 10)) (dS : oSg.data = .cell (some (.ref Sg)))
    (F : Fr h₀ L s.heap (fun y => if y = Str.ofString "plain" then pv else if y = Str.ofString "figures" then some (.ref l) else u y))
    (N : News h₀ L s.heap ((l, listOf fvs.toArray fk) :: (pa, po) :: (Sg, listOf ws.toArray wk) :: (L + 1, oSg) :: tl))
    (next : ∀ h' tk t, Fr h₀ L h' (fun y => if y = Str.ofString "other" then some (.bytes (byteArr (fs.map (sg [45, 95]))) t) else if y = Str.ofString "plain" then pv else if y = Str.ofString "figures" then some (.ref l) else u y) →
      News h₀ L h' ((l, listOf fvs.toArray fk) :: (pa, po) :: (Sg, listOf ws.toArray wk) :: (L + 1, oSg) :: tl) → wpC (lawM w) (lawA L fa cd) (execs (bodyFrom 4) (lawEnv L fa cd)) Q NoE { s with heap := h', toks := tk }) :
    wpC (lawM w) (lawA L fa cd) (execs (bodyFrom 3) (lawEnv L fa cd)) Q NoE s := by
  have hvl : fvs.length ≤ 260 := by rw [hI.length]; exact hlen
  generalize hB9 : bodyFrom 3 = bd
  conv at hB9 => { lhs; whnf }
  subst hB9
  refine wpC_step ?_
  dsimp only [TopM, lawM] at T ⊢
  walk_at "L open"
  k_with "pyIter ref" => (
    (with_reducible rename Fr _ _ _ _ => nF); (with_reducible rename News _ _ _ _ => nN);
    (refine' iter_list rfl nF nN (Or.inr ⟨_, List.Mem.head _, rfl, _, rfl⟩) ?zP ?RP);
    (case zP => (rw [List.size_toArray, sizeLine_eq]; omega));
    (case' RP => (intro g; refine' CompRest.inv (SgAt [45, 95] fs _) ?turnP ?doneP _ 0 [] _ (Nat.zero_add _) (sgAt_nil _ _ _)));
    (case' turnP => (intro i ys news v I oI C oC D m2 h tk E2 hin hP hv hC hx hF hN hO hne; clear nF nN; obtain ⟨n, t, hn, rfl⟩ := item_int hI hv; have hn64 := hB n (List.mem_of_getElem? hn); obtain rfl := hP.1; (try dsimp only)));
    (case' doneP => (intro ys news hP; obtain rfl := hP.1; clear nF nN; have hPI := sgAt_done hI hP; have hPR := sg_in (ms := [45, 95]) (fs := fs) (by decide); have hPl : ys.length ≤ 260 := (by rw [hPI.length, List.length_map]; exact hlen); (try dsimp only))))
  k_steps
  all_goals (first
    | (refine' next _ _ _ (by with_reducible assumption) (News.sub (by with_reducible assumption) ?_); exact fun p hp => List.mem_cons_of_mem _ hp)
    | skip)
  refine' LCg.CompEnd.intro (by with_reducible assumption) ?N _ ?sub hO (Or.inr ⟨_, List.Mem.head _, rfl, _, rfl⟩) (sgAt_more hP hn)
  (case N => with_reducible assumption)
  exact fun p hp => List.mem_cons_of_mem _ (List.mem_cons_of_mem _ hp)
end
section
theorem fill_LB5_100 : True := by
  w_top off
  k_with_none
  k_with "M enter" => (refine' code_defM (by (k_asm)) (by (k_asm)) (by (k_asm)) (by (k_asm)) (by (exact rfl)) (by (exact rfl)) (by (assumption)) (by (k_is)) (by (k_is)) (by (ktr_room)) (by (first | exact BindsTo.of_eq rfl | exact binds_K (by k_in) rfl (by k_is) rfl rfl rfl)) (by (exact locs rfl)) ?_ (by (exact rfl)) (by (exact rfl)) (by (exact rfl)) (by (decide)); k_whole; intro L' h' F' N' B' X' T'; (try dsimp only); (try k_fold))
  k_with "M enter2" => ((case kA => exact rfl); (case kF => exact rfl); (case kK => assumption); (case k1 => k_asm); (case k2 => k_asm); (case k3 => k_asm); (case k5 => k_asm); (case k6 => k_is); (case k7 => k_is); (case k8 => ktr_room); (case k9 => first | exact BindsTo.of_eq rfl | exact binds_K (by k_in) rfl (by k_is) rfl rfl rfl); (case c5 => decide); (case kB => exact locs rfl); (case c2 => exact rfl); (case c3 => exact rfl); (case c4 => exact rfl); k_whole; intro L' h' F' N' B' X' T'; (try dsimp only); (try k_fold))
  k_with "call type:type" => (k_here; (with_reducible show wpAny _ _ (call (Value.type "type") [Value.bytes _ _]) _ _ _); refine call_type_of (PySem.W.typeIs_bytes _ _ _) (by decide +kernel) ?_)
  k_with "M ba" => (first | exact Fr.keep (by assumption) _ _ (by assumption) | assumption)
  k_with "call type:type" => (k_here; (with_reducible show wpAny _ _ (call (Value.type "type") [Value.ref _]) _ _ _); k_dflt (refine' kto_cont (T := "bytearray") (by ((refine' kitAt_ba (by (walk_at "M ba"))))) (by (decide +kernel)) ?_; k_whole))
  k_with "call builtin:isinstance" => (k_here; (with_reducible show wpAny _ _ (call _ [Value.ref _, Value.ref _]) _ _ _); kit_ncls; k_dflt (refine' kia_tup kitx_ba (by (k_in)) (by ((refine' kitAt_ba (by (walk_at "M ba"))))) (by (kit_tp)) (by (kit_is)) (by (kit_nb)) ?_; k_whole; intro _))
  k_with "call builtin:isinstance" => (k_here; (with_reducible show wpAny _ _ (call _ [Value.ref _, Value.type _]) _ _ _); k_dflt (refine' kia_one kitx_ba (by (k_in)) (by ((refine' kitAt_ba (by (walk_at "M ba"))))) (by (kit_is)) (by (kit_nb)) ?_; k_whole; intro _))
  k_with "call type:bytes" => (k_here; (with_reducible show wpAny _ _ (call (Value.type "bytes") [Value.ref _]) _ _ _); k_dflt (refine' ba_bytes (k := 0) (by (walk_at "M ba")) (by (assumption)) ?_; k_whole; intro _ _))
  k_with "getMethod str" => (k_here; with_reducible refine en_method ?_)
  k_with "call builtin:str.encode" => (k_here; (with_reducible show wpAny _ _ (call (Value.builtin "str.encode") [Value.str _ _, Value.str _ _]) _ _ _); refine' en_call (by (assumption)) (by (assumption)) ?_; intro _ _)
  k_with "getMethod bytes" => (k_here; with_reducible refine tr_method ?_)
  k_with "call builtin:bytes.translate" => (k_here; (with_reducible show wpAny _ _ (call (Value.builtin "bytes.translate") [Value.bytes _ _, Value.bytes _ _]) _ _ _); refine' trM (by (first | rfl | decide +kernel)) (by (decide +kernel)) (by (assumption)) ?_; intro _ _)
  k_with "binaryOp LShift int int" => (k_here; (with_reducible refine shlM (by (decide)) (by (decide)) (by (omega)) ?_))
  k_with "binaryOp RShift int int" => (k_here; (with_reducible refine shrM (by (first | decide | omega)) ?_))
  k_with "call builtin:list.append" => (k_here; (with_reducible show wpAny _ _ (call (Value.builtin _) [Value.ref _, Value.int _ _]) _ _ _); k_dflt (refine' append_K (by (k_asm)) (by (k_asm)) (by (k_upd)) ?_ (by ((simp only [List.size_toArray, List.length_append, List.length_cons, List.length_nil, sizeLine_eq]; omega))); k_whole); intro h' F' N'; (try simp only [List.push_toArray] at N'); (try k_sweep))
  k_with "call builtin:len" => (k_here; (with_reducible show wpAny _ _ (call (Value.builtin "len") [Value.ref _]) _ _ _); k_dflt (refine' lenM (News.isList (by (k_asm)) (by (k_mem))) (by (with_reducible assumption)) (by (omega)) ?_; k_whole))
  k_with "call type:bytes" => (k_here; (with_reducible show wpAny _ _ (call (Value.type "bytes") [Value.ref _]) _ _ _); k_dflt (refine' bytesM (by (k_asm)) (by (k_asm)) (News.isList (by (k_asm)) (by (k_mem))) (by (with_reducible assumption)) (by (with_reducible assumption)) (by (omega)) rfl ?_; k_whole); intro h' t' k' F' N'; (try k_sweep))
  k_with "binaryOp BitAnd int int" => (k_here; (with_reducible refine andM ?_))
  k_with "binaryOp BitOr int int" => (k_here; (with_reducible refine orM' ?_))
  k_with "M enterC" => ((case kA => exact rfl); (case kF => exact rfl); (case kK => assumption); (case k1 => k_asm); (case k2 => k_asm); (case k3 => k_asm); (case k5 => k_asm); (case k6 => k_is); (case k7 => k_is); (case k8 => ktr_room); (case k9 => first | exact BindsTo.of_eq rfl | exact binds_K (by k_in) rfl (by k_is) rfl rfl rfl); (case kB => exact rfl); (case kD => decide +kernel); (case c2 => exact rfl); (case c3 => exact rfl); (case c4 => exact rfl); k_whole; intro L' h' tk' cells' F' N' Y' B' X' T'; k_cells Y'; (try simp only [List.cons_append, List.nil_append] at N'); (try dsimp only); (try k_fold))
  k_with "call builtin:len" => (k_here; (with_reducible show wpAny _ _ (call (Value.builtin "len") [Value.ref _]) _ _ _); k_dflt (refine' lenM (stays_list (stays_of (by (k_asm))) (by (with_reducible assumption))) (by (with_reducible assumption)) (by (omega)) ?_; k_whole))
  k_with "eval Name" => (k_here; k_dflt (refine' nameX_L (by (k_asm)) (@rfl _ (some _)) ?_ (by (rfl)) (by (rfl)); k_whole))
  k_with "M back" => (intro r9 h9 tk9 F9 N9 S9 P9; (try dsimp only at P9); (first | (obtain ⟨t9, e9⟩ := P9; subst e9) | subst P9); clear S9; (try dsimp only); (try k_sweep))
  k_with "M call" => ((case k1 => k_asm); (case k2 => k_asm); (case k3 => k_asm); (case k4 => k_asm); (case k5 => k_asm); (case kK => first | exact rfl | assumption); (case kd => ktr_room); (case ku => ktr_units))
  k_with "call ref" => (k_here; (with_reducible show wpAny _ _ (call (Value.ref 70) [Value.int _ _]) _ _ _); k_dflt (refine' Ct.use (b64_value_ok _ _ _ _ _ _) (by (k_asm)) (by (k_asm)) (by (k_asm)) (by (k_asm)) (by (k_asm)) (by (first | exact rfl | assumption)) (by (ktr_room)) (by (ktr_units)) trivial ?_; walk_at "M back"))
  k_with "call ref" => (k_here; (with_reducible show wpAny _ _ (call (Value.ref 63) [Value.bool _]) _ _ _); k_dflt (refine' Ct.use (truth_ok _ _ _ _) (by (k_asm)) (by (k_asm)) (by (k_asm)) (by (k_asm)) (by (k_asm)) (by (first | exact rfl | assumption)) (by (ktr_room)) (by (ktr_units)) trivial ?_; walk_at "M back"))
  k_with "call ref" => (k_here; (with_reducible show wpAny _ _ (call (Value.ref 56) [Value.bytes _ _]) _ _ _); k_dflt (refine' Ct.use (buffer_ok _ _ _ _ _ _) (by (k_asm)) (by (k_asm)) (by (k_asm)) (by (k_asm)) (by (k_asm)) (by (first | exact rfl | assumption)) (by (ktr_room)) (by (ktr_units)) trivial ?_; walk_at "M back"))
  k_with "call ref" => (k_here; (with_reducible show wpAny _ _ (call (Value.ref 49) [Value.bytes _ _]) _ _ _); k_dflt (refine' Ct.use (ascii_buffer_ok _ _ _ _ _ _) (by (k_asm)) (by (k_asm)) (by (k_asm)) (by (k_asm)) (by (k_asm)) (by (first | exact rfl | assumption)) (by (ktr_room)) (by (ktr_units)) trivial ?_; walk_at "M back"))
  k_with "call ref" => (k_here; (with_reducible show wpAny _ _ (call (Value.ref 49) [Value.ref _]) _ _ _); k_dflt (refine' Ct.use (ascii_buffer_ba _ _ _ _ _ _ (by (assumption))) (by (k_asm)) (by (k_asm)) (by (k_asm)) (by (k_asm)) (by (k_asm)) (by (first | exact rfl | assumption)) (by (ktr_room)) (by (ktr_units)) (by (walk_at "M ba")) ?_; walk_at "M back"))
  k_with "call ref" => (k_here; (with_reducible show wpAny _ _ (call (Value.ref 29) [Value.bytes _ _]) _ _ _); k_dflt (refine' Ct.use (from_bytes_ok _ _ _ _ _ _) (by (k_asm)) (by (k_asm)) (by (k_asm)) (by (k_asm)) (by (k_asm)) (by (first | exact rfl | assumption)) (by (ktr_room)) (by (ktr_units)) trivial ?_; walk_at "M back"))
  k_with "call ref" => (k_here; (with_reducible show wpAny _ _ (call (Value.ref 29) [Value.ref _]) _ _ _); k_dflt (refine' Ct.use (from_ba _ _ _ _ _ _) (by (k_asm)) (by (k_asm)) (by (k_asm)) (by (k_asm)) (by (k_asm)) (by (first | exact rfl | assumption)) (by (ktr_room)) (by (ktr_units)) (by (walk_at "M ba")) ?_; walk_at "M back"))
  k_with "call ref" => (k_here; (with_reducible show wpAny _ _ (call (Value.ref 29) [Value.str _ _]) _ _ _); k_dflt (refine' Ct.use (from_str _ _ _ _ _ _ (by (assumption)) (by (assumption))) (by (k_asm)) (by (k_asm)) (by (k_asm)) (by (k_asm)) (by (k_asm)) (by (first | exact rfl | assumption)) (by (ktr_room)) (by (ktr_units)) trivial ?_; walk_at "M back"))
  k_with "L open" => (unfold lawA lawEnv; generalize hS9 : lawParts.2 = sc9; conv at hS9 => { lhs; whnf }; subst hS9)
  k_with "call type:bytes" => (k_here; (with_reducible show wpAny _ _ (call (Value.type "bytes") [Value.ref _]) _ _ _); k_dflt (refine' bytesM (by (k_asm)) (by (k_asm)) (News.isList (by (k_asm)) (by (k_mem))) (by (with_reducible assumption)) (by (with_reducible assumption)) (by (omega)) rfl ?_; k_whole); intro h' t' k' F' N'; (try k_sweep))
  k_with "call ref" => (k_here; (with_reducible show wpAny _ _ (call (Value.ref 128) [Value.ref _]) _ _ _); k_dflt (refine' figs_use (by (with_reducible assumption)) (by (with_reducible assumption)) (by (omega)) (by (omega)) (by (k_asm)) (by (k_asm)) (by (k_asm)) (by (k_asm)) (by (k_asm)) (by (first | exact rfl | assumption)) (by (ktr_room)) (by (ktr_units)) (News.isList (by (k_asm)) (by (k_mem))) ?_); intro l9 w9 k9 h9 tk9 F9 N9 hI9; (try k_sweep))
  k_with "L sub" => (intro p hp; (repeat (first | exact hp | (rcases List.mem_cons.mp hp with rfl | hp; k_mem) | refine List.mem_cons_of_mem _ ?_)))
  k_with "subscriptTail" => (k_here; (with_reducible show wpAny _ _ (subscriptTail _ _ (Value.ref _) (Value.int _ _)) _ _ _); (refine' itemS (News.isList (by (k_asm)) (by (k_mem))) (by (first | with_reducible assumption | exact IntsAre.cons _ _ (.cons _ _ (.cons _ _ (.cons _ _ (.cons _ _ (.cons _ _ .nil))))))) (by (first | omega | exact fm_lo (by omega) | exact fm6_lo _)) (by (first | omega | exact fm_hi (by omega) | exact fm6_hi _)) (by (first | omega | decide)) ?_); intro _)
  k_with "subscriptTail" => (k_here; (with_reducible show wpAny _ _ (subscriptTail _ _ (Value.bytes _ _) (Value.int _ _)) _ _ _); (refine' KBw.item_K (KBa.ints_make (sg_in (by (decide)))) (by ((rw [List.length_map]; omega))) (by (omega)) (by ((rw [List.length_map]; omega))) ?_); intro _ _ _ _)
  trivial
local macro_rules | `(tactic| k_all) => `(tactic| exact allLt_ne (by assumption))
local macro_rules | `(tactic| k_all) => `(tactic| exact fun p hp => (List.mem_append.mp hp).elim (allLt_ne (by assumption) p) (OwnOff.ne (by assumption) (by k_memK) p))
theorem fill_LB5_102 : True := by
  k_with "L pend" => (
    refine' place_end (by assumption) (by assumption) (by ((intro y h1 h2; (repeat (refine (if_neg (by with_reducible assumption)).trans ?_)); (repeat (refine Eq.trans ?_ (if_neg (by with_reducible assumption)).symm)); rfl))) (by k_mem) (by k_mem) (by ((intro p hp; (repeat (first | exact List.mem_append_left _ hp | refine List.mem_cons_of_mem _ ?_))))) (by ((intro p hp; (repeat (first | exact List.mem_append_right _ hp | refine List.mem_cons_of_mem _ ?_))))) (by (first | exact IntsAre.append (IntsAre.append (by with_reducible assumption) (.cons _ _ .nil)) (.cons _ _ .nil) | exact IntsAre.append (by with_reducible assumption) (.cons _ _ .nil))) (by (first | exact IntsAre.append (by with_reducible assumption) (.cons _ _ .nil) | with_reducible assumption)) (by ( first
      | (refine' PInv.weak (PInv.strange (PInv.plain (by (with_reducible assumption)) (by (with_reducible assumption)) rfl (by (with_reducible assumption))) (fm6_lo _) (fm6_hi _)) (by (omega)) (by (omega)))
      | (refine' PInv.weak (PInv.plain (by (with_reducible assumption)) (by (with_reducible assumption)) rfl (by (with_reducible assumption))) (by (omega)) (by (omega)))
      | (refine' PInv.weak (PInv.strange (PInv.other (by (with_reducible assumption)) (by (with_reducible assumption)) rfl (by (with_reducible assumption)) (by (with_reducible assumption))) (fm6_lo _) (fm6_hi _)) (by (omega)) (by (omega)))
      | (refine' PInv.weak (PInv.other (by (with_reducible assumption)) (by (with_reducible assumption)) rfl (by (with_reducible assumption)) (by (with_reducible assumption))) (by (omega)) (by (omega)))))
    
    
    
    
    
    )
  trivial
theorem lb5 {w : World} {mean : ExcName → Option Value} {mg mb : Str → Option Value} {h₀ : Heap} {L fa : Addr} {cd : Value} {s : Shared} {Q : Flow → Shared → Prop} {u : Str → Option Value} {l pa T0 : Addr} {fvs tvs : List Value} {fs ts : List Int} {fk tk0 : Nat} {po : Obj} {tl : List (Addr × Obj)} {t1 t2 : Tok} {dv pv : Option Value}
    (K0 : Below callerA h₀ [] h₀) (KX : (hd.heap_39 w.params).In h₀) (T : TopM mean mg mb h₀) (hI : IntsAre fvs fs) (hB : In64 fs) (hlen : fs.length ≤ 260) (hT : IntsAre tvs ts) (hT1 : 3 ≤ ts.length) (hT2 : ts.length ≤ 66)
    (F : Fr h₀ L s.heap (fun y => if y = Str.ofString "other" then some (.bytes (byteArr (fs.map (sg [45, 95]))) t2) else if y = Str.ofString "plain" then some (.bytes (byteArr (fs.map (sg [43, 47]))) t1) else if y = Str.ofString "figures" then some (.ref l)
      else if y = Str.ofString "data" then dv else if y = Str.ofString "piece" then pv else if y = Str.ofString "turns" then some (.ref T0) else u y))
    (N : News h₀ L s.heap ((l, listOf fvs.toArray fk) :: (pa, po) :: (T0, listOf tvs.toArray tk0) :: tl))
    (next : ∀ h' tk plv tnv lf mx lv ln lk mv mn mk, Fr h₀ L h' (fun y => if y = Str.ofString "place" then plv else if y = Str.ofString "turn" then tnv else if y = Str.ofString "left" then some (.ref lf) else if y = Str.ofString "mixed" then some (.ref mx) else
      if y = Str.ofString "other" then some (.bytes (byteArr (fs.map (sg [45, 95]))) t2) else if y = Str.ofString "plain" then some (.bytes (byteArr (fs.map (sg [43, 47]))) t1) else if y = Str.ofString "figures" then some (.ref l)
      else if y = Str.ofString "data" then dv else if y = Str.ofString "piece" then pv else if y = Str.ofString "turns" then some (.ref T0) else u y) →
      News h₀ L h' ((lf, listOf lv.toArray lk) :: (mx, listOf mv.toArray mk) :: (l, listOf fvs.toArray fk) :: (pa, po) :: (T0, listOf tvs.toArray tk0) :: tl) →
      PInv (2 * fs.length) fs.length mn ln → IntsAre mv mn → IntsAre lv ln → wpC (lawM w) (lawA L fa cd) (execs (bodyFrom 7) (lawEnv L fa cd)) Q NoE { s with heap := h', toks := tk }) :
    wpC (lawM w) (lawA L fa cd) (execs (bodyFrom 4) (lawEnv L fa cd)) Q NoE s := by
  have hvl : fvs.length ≤ 260 := by rw [hI.length]; exact hlen
  have hvt : tvs.length ≤ 66 := by rw [hT.length]; exact hT2
  generalize hB9 : bodyFrom 4 = bd
  conv at hB9 => { lhs; whnf }
  subst hB9
  refine wpC_step ?_
  dsimp only [TopM, lawM] at T ⊢
  walk_at "L open"
  k_with "pyIter ref" => (
    (with_reducible rename IsRange _ _ _ _ _ _ _ _ => nR);
    (with_reducible rename Fr _ _ _ _ => nF); (with_reducible rename News _ _ _ _ => nN);
    
    (refine' place_loop (n := fs.length) (by omega) rfl nR nF nN ?turn ?done);
    (case' turn => (intro i t tv mv mn mk lv ln lk h tk own hi hmv hlv hP hM hL hOff hF hN; clear nF nN nR; (try simp only [List.cons_append, List.nil_append] at hN); (try dsimp only)));
    (case' done => (intro u9 tv mv mn mk lv ln lk h tk hP hM hL hF hN; clear nF nN nR; (try dsimp only))))
  k_steps
  refine wpC_step ?_
  k_steps
  refine wpC_step ?_
  k_steps
  case done => exact next _ _ _ _ _ _ _ _ _ _ _ _ hF hN hP hM hL
  all_goals walk_at "L pend"
end
section
theorem fill_LB7_106 : True := by
  w_top off
  k_with_none
  k_with "M enter" => (refine' code_defM (by (k_asm)) (by (k_asm)) (by (k_asm)) (by (k_asm)) (by (exact rfl)) (by (exact rfl)) (by (assumption)) (by (k_is)) (by (k_is)) (by (ktr_room)) (by (first | exact BindsTo.of_eq rfl | exact binds_K (by k_in) rfl (by k_is) rfl rfl rfl)) (by (exact locs rfl)) ?_ (by (exact rfl)) (by (exact rfl)) (by (exact rfl)) (by (decide)); k_whole; intro L' h' F' N' B' X' T'; (try dsimp only); (try k_fold))
  k_with "M enter2" => ((case kA => exact rfl); (case kF => exact rfl); (case kK => assumption); (case k1 => k_asm); (case k2 => k_asm); (case k3 => k_asm); (case k5 => k_asm); (case k6 => k_is); (case k7 => k_is); (case k8 => ktr_room); (case k9 => first | exact BindsTo.of_eq rfl | exact binds_K (by k_in) rfl (by k_is) rfl rfl rfl); (case c5 => decide); (case kB => exact locs rfl); (case c2 => exact rfl); (case c3 => exact rfl); (case c4 => exact rfl); k_whole; intro L' h' F' N' B' X' T'; (try dsimp only); (try k_fold))
  k_with "call type:type" => (k_here; (with_reducible show wpAny _ _ (call (Value.type "type") [Value.bytes _ _]) _ _ _); refine call_type_of (PySem.W.typeIs_bytes _ _ _) (by decide +kernel) ?_)
  k_with "M ba" => (first | exact Fr.keep (by assumption) _ _ (by assumption) | assumption)
  k_with "call type:type" => (k_here; (with_reducible show wpAny _ _ (call (Value.type "type") [Value.ref _]) _ _ _); k_dflt (refine' kto_cont (T := "bytearray") (by ((refine' kitAt_ba (by (walk_at "M ba"))))) (by (decide +kernel)) ?_; k_whole))
  k_with "call builtin:isinstance" => (k_here; (with_reducible show wpAny _ _ (call _ [Value.ref _, Value.ref _]) _ _ _); kit_ncls; k_dflt (refine' kia_tup kitx_ba (by (k_in)) (by ((refine' kitAt_ba (by (walk_at "M ba"))))) (by (kit_tp)) (by (kit_is)) (by (kit_nb)) ?_; k_whole; intro _))
  k_with "call builtin:isinstance" => (k_here; (with_reducible show wpAny _ _ (call _ [Value.ref _, Value.type _]) _ _ _); k_dflt (refine' kia_one kitx_ba (by (k_in)) (by ((refine' kitAt_ba (by (walk_at "M ba"))))) (by (kit_is)) (by (kit_nb)) ?_; k_whole; intro _))
  k_with "call type:bytes" => (k_here; (with_reducible show wpAny _ _ (call (Value.type "bytes") [Value.ref _]) _ _ _); k_dflt (refine' ba_bytes (k := 0) (by (walk_at "M ba")) (by (assumption)) ?_; k_whole; intro _ _))
  k_with "getMethod str" => (k_here; with_reducible refine en_method ?_)
  k_with "call builtin:str.encode" => (k_here; (with_reducible show wpAny _ _ (call (Value.builtin "str.encode") [Value.str _ _, Value.str _ _]) _ _ _); refine' en_call (by (assumption)) (by (assumption)) ?_; intro _ _)
  k_with "getMethod bytes" => (k_here; with_reducible refine tr_method ?_)
  k_with "call builtin:bytes.translate" => (k_here; (with_reducible show wpAny _ _ (call (Value.builtin "bytes.translate") [Value.bytes _ _, Value.bytes _ _]) _ _ _); refine' trM (by (first | rfl | decide +kernel)) (by (decide +kernel)) (by (assumption)) ?_; intro _ _)
  k_with "binaryOp LShift int int" => (k_here; (with_reducible refine shlM (by (decide)) (by (decide)) (by (omega)) ?_))
  k_with "binaryOp RShift int int" => (k_here; (with_reducible refine shrM (by (first | decide | omega)) ?_))
  k_with "call builtin:list.append" => (k_here; (with_reducible show wpAny _ _ (call (Value.builtin _) [Value.ref _, Value.int _ _]) _ _ _); k_dflt (refine' append_K (by (k_asm)) (by (k_asm)) (by (k_upd)) ?_ (by ((simp only [List.size_toArray, List.length_append, List.length_cons, List.length_nil, sizeLine_eq]; omega))); k_whole); intro h' F' N'; (try simp only [List.push_toArray] at N'); (try k_sweep))
  k_with "call builtin:len" => (k_here; (with_reducible show wpAny _ _ (call (Value.builtin "len") [Value.ref _]) _ _ _); k_dflt (refine' lenM (News.isList (by (k_asm)) (by (k_mem))) (by (with_reducible assumption)) (by (omega)) ?_; k_whole))
  k_with "call type:bytes" => (k_here; (with_reducible show wpAny _ _ (call (Value.type "bytes") [Value.ref _]) _ _ _); k_dflt (refine' bytesM (by (k_asm)) (by (k_asm)) (News.isList (by (k_asm)) (by (k_mem))) (by (with_reducible assumption)) (by (with_reducible assumption)) (by (omega)) rfl ?_; k_whole); intro h' t' k' F' N'; (try k_sweep))
  k_with "binaryOp BitAnd int int" => (k_here; (with_reducible refine andM ?_))
  k_with "binaryOp BitOr int int" => (k_here; (with_reducible refine orM' ?_))
  k_with "M enterC" => ((case kA => exact rfl); (case kF => exact rfl); (case kK => assumption); (case k1 => k_asm); (case k2 => k_asm); (case k3 => k_asm); (case k5 => k_asm); (case k6 => k_is); (case k7 => k_is); (case k8 => ktr_room); (case k9 => first | exact BindsTo.of_eq rfl | exact binds_K (by k_in) rfl (by k_is) rfl rfl rfl); (case kB => exact rfl); (case kD => decide +kernel); (case c2 => exact rfl); (case c3 => exact rfl); (case c4 => exact rfl); k_whole; intro L' h' tk' cells' F' N' Y' B' X' T'; k_cells Y'; (try simp only [List.cons_append, List.nil_append] at N'); (try dsimp only); (try k_fold))
  k_with "call builtin:len" => (k_here; (with_reducible show wpAny _ _ (call (Value.builtin "len") [Value.ref _]) _ _ _); k_dflt (refine' lenM (stays_list (stays_of (by (k_asm))) (by (with_reducible assumption))) (by (with_reducible assumption)) (by (omega)) ?_; k_whole))
  k_with "eval Name" => (k_here; k_dflt (refine' nameX_L (by (k_asm)) (@rfl _ (some _)) ?_ (by (rfl)) (by (rfl)); k_whole))
  k_with "M back" => (intro r9 h9 tk9 F9 N9 S9 P9; (try dsimp only at P9); (first | (obtain ⟨t9, e9⟩ := P9; subst e9) | subst P9); clear S9; (try dsimp only); (try k_sweep))
  k_with "M call" => ((case k1 => k_asm); (case k2 => k_asm); (case k3 => k_asm); (case k4 => k_asm); (case k5 => k_asm); (case kK => first | exact rfl | assumption); (case kd => ktr_room); (case ku => ktr_units))
  k_with "call ref" => (k_here; (with_reducible show wpAny _ _ (call (Value.ref 70) [Value.int _ _]) _ _ _); k_dflt (refine' Ct.use (b64_value_ok _ _ _ _ _ _) (by (k_asm)) (by (k_asm)) (by (k_asm)) (by (k_asm)) (by (k_asm)) (by (first | exact rfl | assumption)) (by (ktr_room)) (by (ktr_units)) trivial ?_; walk_at "M back"))
  k_with "call ref" => (k_here; (with_reducible show wpAny _ _ (call (Value.ref 63) [Value.bool _]) _ _ _); k_dflt (refine' Ct.use (truth_ok _ _ _ _) (by (k_asm)) (by (k_asm)) (by (k_asm)) (by (k_asm)) (by (k_asm)) (by (first | exact rfl | assumption)) (by (ktr_room)) (by (ktr_units)) trivial ?_; walk_at "M back"))
  k_with "call ref" => (k_here; (with_reducible show wpAny _ _ (call (Value.ref 56) [Value.bytes _ _]) _ _ _); k_dflt (refine' Ct.use (buffer_ok _ _ _ _ _ _) (by (k_asm)) (by (k_asm)) (by (k_asm)) (by (k_asm)) (by (k_asm)) (by (first | exact rfl | assumption)) (by (ktr_room)) (by (ktr_units)) trivial ?_; walk_at "M back"))
  k_with "call ref" => (k_here; (with_reducible show wpAny _ _ (call (Value.ref 49) [Value.bytes _ _]) _ _ _); k_dflt (refine' Ct.use (ascii_buffer_ok _ _ _ _ _ _) (by (k_asm)) (by (k_asm)) (by (k_asm)) (by (k_asm)) (by (k_asm)) (by (first | exact rfl | assumption)) (by (ktr_room)) (by (ktr_units)) trivial ?_; walk_at "M back"))
  k_with "call ref" => (k_here; (with_reducible show wpAny _ _ (call (Value.ref 49) [Value.ref _]) _ _ _); k_dflt (refine' Ct.use (ascii_buffer_ba _ _ _ _ _ _ (by (assumption))) (by (k_asm)) (by (k_asm)) (by (k_asm)) (by (k_asm)) (by (k_asm)) (by (first | exact rfl | assumption)) (by (ktr_room)) (by (ktr_units)) (by (walk_at "M ba")) ?_; walk_at "M back"))
  k_with "call ref" => (k_here; (with_reducible show wpAny _ _ (call (Value.ref 29) [Value.bytes _ _]) _ _ _); k_dflt (refine' Ct.use (from_bytes_ok _ _ _ _ _ _) (by (k_asm)) (by (k_asm)) (by (k_asm)) (by (k_asm)) (by (k_asm)) (by (first | exact rfl | assumption)) (by (ktr_room)) (by (ktr_units)) trivial ?_; walk_at "M back"))
  k_with "call ref" => (k_here; (with_reducible show wpAny _ _ (call (Value.ref 29) [Value.ref _]) _ _ _); k_dflt (refine' Ct.use (from_ba _ _ _ _ _ _) (by (k_asm)) (by (k_asm)) (by (k_asm)) (by (k_asm)) (by (k_asm)) (by (first | exact rfl | assumption)) (by (ktr_room)) (by (ktr_units)) (by (walk_at "M ba")) ?_; walk_at "M back"))
  k_with "call ref" => (k_here; (with_reducible show wpAny _ _ (call (Value.ref 29) [Value.str _ _]) _ _ _); k_dflt (refine' Ct.use (from_str _ _ _ _ _ _ (by (assumption)) (by (assumption))) (by (k_asm)) (by (k_asm)) (by (k_asm)) (by (k_asm)) (by (k_asm)) (by (first | exact rfl | assumption)) (by (ktr_room)) (by (ktr_units)) trivial ?_; walk_at "M back"))
  k_with "L open" => (unfold lawA lawEnv; generalize hS9 : lawParts.2 = sc9; conv at hS9 => { lhs; whnf }; subst hS9)
  k_with "call type:bytes" => (k_here; (with_reducible show wpAny _ _ (call (Value.type "bytes") [Value.ref _]) _ _ _); k_dflt (refine' bytesM (by (k_asm)) (by (k_asm)) (News.isList (by (k_asm)) (by (k_mem))) (by (with_reducible assumption)) (by (with_reducible assumption)) (by (omega)) rfl ?_; k_whole); intro h' t' k' F' N'; (try k_sweep))
  k_with "call ref" => (k_here; (with_reducible show wpAny _ _ (call (Value.ref 128) [Value.ref _]) _ _ _); k_dflt (refine' figs_use (by (with_reducible assumption)) (by (with_reducible assumption)) (by (omega)) (by (omega)) (by (k_asm)) (by (k_asm)) (by (k_asm)) (by (k_asm)) (by (k_asm)) (by (first | exact rfl | assumption)) (by (ktr_room)) (by (ktr_units)) (News.isList (by (k_asm)) (by (k_mem))) ?_); intro l9 w9 k9 h9 tk9 F9 N9 hI9; (try k_sweep))
  k_with "L sub" => (intro p hp; (repeat (first | exact hp | (rcases List.mem_cons.mp hp with rfl | hp; k_mem) | refine List.mem_cons_of_mem _ ?_)))
  k_with "call ref" => (k_here; (with_reducible show wpAny _ _ (call (Value.ref 109) [Value.bytes _ _]) _ _ _); k_dflt (refine' senc_use (by (with_reducible assumption)) (by (with_reducible assumption)) (by (with_reducible assumption)) (by (k_asm)) (by (k_asm)) (by (k_asm)) (by (k_asm)) (by (k_asm)) (by (first | exact rfl | assumption)) (by (ktr_room)) (by (ktr_units)) ?_); intro t9 h9 tk9 F9 N9; (try k_sweep))
  k_with "call ref" => (k_here; (with_reducible show wpAny _ _ (call (Value.ref 140) [Value.bytes _ _]) _ _ _); k_dflt (refine' told_plain (by (with_reducible assumption)) (by (with_reducible assumption)) (by (with_reducible assumption)) (by (k_asm)) (by (k_asm)) (by (k_asm)) (by (k_asm)) (by (k_asm)) (by (first | exact rfl | assumption)) (by (ktr_room)) (by (ktr_units)) ?_); intro t9 h9 tk9 F9 N9; (try k_sweep))
  trivial
theorem lb7 {w : World} {mean : ExcName → Option Value} {mg mb : Str → Option Value} {h₀ : Heap} {L fa : Addr} {cd : Value} {s : Shared} {Q : Flow → Shared → Prop} {u : Str → Option Value} {pbs : List Int} {news : List (Addr × Obj)} {t1 t2 t3 : Tok} {plv tnv lfv mxv fgv : Option Value}
    (K0 : Below callerA h₀ [] h₀) (KX : (hd.heap_39 w.params).In h₀) (T : TopM mean mg mb h₀) (hB : InB pbs) (hlen : pbs.length ≤ 195) (h3 : pbs.length % 3 = 0)
    (F : Fr h₀ L s.heap (fun y => if y = Str.ofString "place" then plv else if y = Str.ofString "turn" then tnv else if y = Str.ofString "left" then lfv else if y = Str.ofString "mixed" then mxv else
      if y = Str.ofString "other" then some (.bytes (byteArr ((enc pbs).map (sg [45, 95]))) t2) else if y = Str.ofString "plain" then some (.bytes (byteArr ((enc pbs).map (sg [43, 47]))) t1) else if y = Str.ofString "figures" then fgv
      else if y = Str.ofString "data" then some (.bytes (byteArr pbs) t3) else u y))
    (N : News h₀ L s.heap news)
    (next : ∀ h' tk tdv, Fr h₀ L h' (fun y => if y = Str.ofString "told" then tdv else if y = Str.ofString "place" then plv else if y = Str.ofString "turn" then tnv else if y = Str.ofString "left" then lfv else if y = Str.ofString "mixed" then mxv else
      if y = Str.ofString "other" then some (.bytes (byteArr ((enc pbs).map (sg [45, 95]))) t2) else if y = Str.ofString "plain" then some (.bytes (byteArr ((enc pbs).map (sg [43, 47]))) t1) else if y = Str.ofString "figures" then fgv
      else if y = Str.ofString "data" then some (.bytes (byteArr pbs) t3) else u y) →
      News h₀ L h' news → wpC (lawM w) (lawA L fa cd) (execs (bodyFrom 9) (lawEnv L fa cd)) Q NoE { s with heap := h', toks := tk }) :
    wpC (lawM w) (lawA L fa cd) (execs (bodyFrom 7) (lawEnv L fa cd)) Q NoE s := by
  generalize hB9 : bodyFrom 7 = bd
  conv at hB9 => { lhs; whnf }
  subst hB9
  refine wpC_step ?_
  dsimp only [TopM, lawM] at T ⊢
  walk_at "L open"
  k_steps
  refine wpC_step ?_
  k_steps
  all_goals first
    | exact (bne_no (by with_reducible assumption)).elim
    | exact next _ _ _ (by with_reducible assumption) (by with_reducible assumption)
end
section
theorem fill_LB9i_110 : True := by
  w_top off
  k_with_none
  k_with "M enter" => (refine' code_defM (by (k_asm)) (by (k_asm)) (by (k_asm)) (by (k_asm)) (by (exact rfl)) (by (exact rfl)) (by (assumption)) (by (k_is)) (by (k_is)) (by (ktr_room)) (by (first | exact BindsTo.of_eq rfl | exact binds_K (by k_in) rfl (by k_is) rfl rfl rfl)) (by (exact locs rfl)) ?_ (by (exact rfl)) (by (exact rfl)) (by (exact rfl)) (by (decide)); k_whole; intro L' h' F' N' B' X' T'; (try dsimp only); (try k_fold))
  k_with "M enter2" => ((case kA => exact rfl); (case kF => exact rfl); (case kK => assumption); (case k1 => k_asm); (case k2 => k_asm); (case k3 => k_asm); (case k5 => k_asm); (case k6 => k_is); (case k7 => k_is); (case k8 => ktr_room); (case k9 => first | exact BindsTo.of_eq rfl | exact binds_K (by k_in) rfl (by k_is) rfl rfl rfl); (case c5 => decide); (case kB => exact locs rfl); (case c2 => exact rfl); (case c3 => exact rfl); (case c4 => exact rfl); k_whole; intro L' h' F' N' B' X' T'; (try dsimp only); (try k_fold))
  k_with "call type:type" => (k_here; (with_reducible show wpAny _ _ (call (Value.type "type") [Value.bytes _ _]) _ _ _); refine call_type_of (PySem.W.typeIs_bytes _ _ _) (by decide +kernel) ?_)
  k_with "M ba" => (first | exact Fr.keep (by assumption) _ _ (by assumption) | assumption)
  k_with "call type:type" => (k_here; (with_reducible show wpAny _ _ (call (Value.type "type") [Value.ref _]) _ _ _); k_dflt (refine' kto_cont (T := "bytearray") (by ((refine' kitAt_ba (by (walk_at "M ba"))))) (by (decide +kernel)) ?_; k_whole))
  k_with "call builtin:isinstance" => (k_here; (with_reducible show wpAny _ _ (call _ [Value.ref _, Value.ref _]) _ _ _); kit_ncls; k_dflt (refine' kia_tup kitx_ba (by (k_in)) (by ((refine' kitAt_ba (by (walk_at "M ba"))))) (by (kit_tp)) (by (kit_is)) (by (kit_nb)) ?_; k_whole; intro _))
  k_with "call builtin:isinstance" => (k_here; (with_reducible show wpAny _ _ (call _ [Value.ref _, Value.type _]) _ _ _); k_dflt (refine' kia_one kitx_ba (by (k_in)) (by ((refine' kitAt_ba (by (walk_at "M ba"))))) (by (kit_is)) (by (kit_nb)) ?_; k_whole; intro _))
  k_with "call type:bytes" => (k_here; (with_reducible show wpAny _ _ (call (Value.type "bytes") [Value.ref _]) _ _ _); k_dflt (refine' ba_bytes (k := 0) (by (walk_at "M ba")) (by (assumption)) ?_; k_whole; intro _ _))
  k_with "getMethod str" => (k_here; with_reducible refine en_method ?_)
  k_with "call builtin:str.encode" => (k_here; (with_reducible show wpAny _ _ (call (Value.builtin "str.encode") [Value.str _ _, Value.str _ _]) _ _ _); refine' en_call (by (assumption)) (by (assumption)) ?_; intro _ _)
  k_with "getMethod bytes" => (k_here; with_reducible refine tr_method ?_)
  k_with "call builtin:bytes.translate" => (k_here; (with_reducible show wpAny _ _ (call (Value.builtin "bytes.translate") [Value.bytes _ _, Value.bytes _ _]) _ _ _); refine' trM (by (first | rfl | decide +kernel)) (by (decide +kernel)) (by (assumption)) ?_; intro _ _)
  k_with "binaryOp LShift int int" => (k_here; (with_reducible refine shlM (by (decide)) (by (decide)) (by (omega)) ?_))
  k_with "binaryOp RShift int int" => (k_here; (with_reducible refine shrM (by (first | decide | omega)) ?_))
  k_with "call builtin:list.append" => (k_here; (with_reducible show wpAny _ _ (call (Value.builtin _) [Value.ref _, Value.int _ _]) _ _ _); k_dflt (refine' append_K (by (k_asm)) (by (k_asm)) (by (k_upd)) ?_ (by ((simp only [List.size_toArray, List.length_append, List.length_cons, List.length_nil, sizeLine_eq]; omega))); k_whole); intro h' F' N'; (try simp only [List.push_toArray] at N'); (try k_sweep))
  k_with "call builtin:len" => (k_here; (with_reducible show wpAny _ _ (call (Value.builtin "len") [Value.ref _]) _ _ _); k_dflt (refine' lenM (News.isList (by (k_asm)) (by (k_mem))) (by (with_reducible assumption)) (by (omega)) ?_; k_whole))
  k_with "call type:bytes" => (k_here; (with_reducible show wpAny _ _ (call (Value.type "bytes") [Value.ref _]) _ _ _); k_dflt (refine' bytesM (by (k_asm)) (by (k_asm)) (News.isList (by (k_asm)) (by (k_mem))) (by (with_reducible assumption)) (by (with_reducible assumption)) (by (omega)) rfl ?_; k_whole); intro h' t' k' F' N'; (try k_sweep))
  k_with "binaryOp BitAnd int int" => (k_here; (with_reducible refine andM ?_))
  k_with "binaryOp BitOr int int" => (k_here; (with_reducible refine orM' ?_))
  k_with "M enterC" => ((case kA => exact rfl); (case kF => exact rfl); (case kK => assumption); (case k1 => k_asm); (case k2 => k_asm); (case k3 => k_asm); (case k5 => k_asm); (case k6 => k_is); (case k7 => k_is); (case k8 => ktr_room); (case k9 => first | exact BindsTo.of_eq rfl | exact binds_K (by k_in) rfl (by k_is) rfl rfl rfl); (case kB => exact rfl); (case kD => decide +kernel); (case c2 => exact rfl); (case c3 => exact rfl); (case c4 => exact rfl); k_whole; intro L' h' tk' cells' F' N' Y' B' X' T'; k_cells Y'; (try simp only [List.cons_append, List.nil_append] at N'); (try dsimp only); (try k_fold))
  k_with "call builtin:len" => (k_here; (with_reducible show wpAny _ _ (call (Value.builtin "len") [Value.ref _]) _ _ _); k_dflt (refine' lenM (stays_list (stays_of (by (k_asm))) (by (with_reducible assumption))) (by (with_reducible assumption)) (by (omega)) ?_; k_whole))
  k_with "eval Name" => (k_here; k_dflt (refine' nameX_L (by (k_asm)) (@rfl _ (some _)) ?_ (by (rfl)) (by (rfl)); k_whole))
  k_with "M back" => (intro r9 h9 tk9 F9 N9 S9 P9; (try dsimp only at P9); (first | (obtain ⟨t9, e9⟩ := P9; subst e9) | subst P9); clear S9; (try dsimp only); (try k_sweep))
  k_with "M call" => ((case k1 => k_asm); (case k2 => k_asm); (case k3 => k_asm); (case k4 => k_asm); (case k5 => k_asm); (case kK => first | exact rfl | assumption); (case kd => ktr_room); (case ku => ktr_units))
  k_with "call ref" => (k_here; (with_reducible show wpAny _ _ (call (Value.ref 70) [Value.int _ _]) _ _ _); k_dflt (refine' Ct.use (b64_value_ok _ _ _ _ _ _) (by (k_asm)) (by (k_asm)) (by (k_asm)) (by (k_asm)) (by (k_asm)) (by (first | exact rfl | assumption)) (by (ktr_room)) (by (ktr_units)) trivial ?_; walk_at "M back"))
  k_with "call ref" => (k_here; (with_reducible show wpAny _ _ (call (Value.ref 63) [Value.bool _]) _ _ _); k_dflt (refine' Ct.use (truth_ok _ _ _ _) (by (k_asm)) (by (k_asm)) (by (k_asm)) (by (k_asm)) (by (k_asm)) (by (first | exact rfl | assumption)) (by (ktr_room)) (by (ktr_units)) trivial ?_; walk_at "M back"))
  k_with "call ref" => (k_here; (with_reducible show wpAny _ _ (call (Value.ref 56) [Value.bytes _ _]) _ _ _); k_dflt (refine' Ct.use (buffer_ok _ _ _ _ _ _) (by (k_asm)) (by (k_asm)) (by (k_asm)) (by (k_asm)) (by (k_asm)) (by (first | exact rfl | assumption)) (by (ktr_room)) (by (ktr_units)) trivial ?_; walk_at "M back"))
  k_with "call ref" => (k_here; (with_reducible show wpAny _ _ (call (Value.ref 49) [Value.bytes _ _]) _ _ _); k_dflt (refine' Ct.use (ascii_buffer_ok _ _ _ _ _ _) (by (k_asm)) (by (k_asm)) (by (k_asm)) (by (k_asm)) (by (k_asm)) (by (first | exact rfl | assumption)) (by (ktr_room)) (by (ktr_units)) trivial ?_; walk_at "M back"))
  k_with "call ref" => (k_here; (with_reducible show wpAny _ _ (call (Value.ref 49) [Value.ref _]) _ _ _); k_dflt (refine' Ct.use (ascii_buffer_ba _ _ _ _ _ _ (by (assumption))) (by (k_asm)) (by (k_asm)) (by (k_asm)) (by (k_asm)) (by (k_asm)) (by (first | exact rfl | assumption)) (by (ktr_room)) (by (ktr_units)) (by (walk_at "M ba")) ?_; walk_at "M back"))
  k_with "call ref" => (k_here; (with_reducible show wpAny _ _ (call (Value.ref 29) [Value.bytes _ _]) _ _ _); k_dflt (refine' Ct.use (from_bytes_ok _ _ _ _ _ _) (by (k_asm)) (by (k_asm)) (by (k_asm)) (by (k_asm)) (by (k_asm)) (by (first | exact rfl | assumption)) (by (ktr_room)) (by (ktr_units)) trivial ?_; walk_at "M back"))
  k_with "call ref" => (k_here; (with_reducible show wpAny _ _ (call (Value.ref 29) [Value.ref _]) _ _ _); k_dflt (refine' Ct.use (from_ba _ _ _ _ _ _) (by (k_asm)) (by (k_asm)) (by (k_asm)) (by (k_asm)) (by (k_asm)) (by (first | exact rfl | assumption)) (by (ktr_room)) (by (ktr_units)) (by (walk_at "M ba")) ?_; walk_at "M back"))
  k_with "call ref" => (k_here; (with_reducible show wpAny _ _ (call (Value.ref 29) [Value.str _ _]) _ _ _); k_dflt (refine' Ct.use (from_str _ _ _ _ _ _ (by (assumption)) (by (assumption))) (by (k_asm)) (by (k_asm)) (by (k_asm)) (by (k_asm)) (by (k_asm)) (by (first | exact rfl | assumption)) (by (ktr_room)) (by (ktr_units)) trivial ?_; walk_at "M back"))
  k_with "L open" => (unfold lawA lawEnv; generalize hS9 : lawParts.2 = sc9; conv at hS9 => { lhs; whnf }; subst hS9)
  k_with "call type:bytes" => (k_here; (with_reducible show wpAny _ _ (call (Value.type "bytes") [Value.ref _]) _ _ _); k_dflt (refine' bytesM (by (k_asm)) (by (k_asm)) (News.isList (by (k_asm)) (by (k_mem))) (by (with_reducible assumption)) (by (with_reducible assumption)) (by (omega)) rfl ?_; k_whole); intro h' t' k' F' N'; (try k_sweep))
  k_with "call ref" => (k_here; (with_reducible show wpAny _ _ (call (Value.ref 128) [Value.ref _]) _ _ _); k_dflt (refine' figs_use (by (with_reducible assumption)) (by (with_reducible assumption)) (by (omega)) (by (omega)) (by (k_asm)) (by (k_asm)) (by (k_asm)) (by (k_asm)) (by (k_asm)) (by (first | exact rfl | assumption)) (by (ktr_room)) (by (ktr_units)) (News.isList (by (k_asm)) (by (k_mem))) ?_); intro l9 w9 k9 h9 tk9 F9 N9 hI9; (try k_sweep))
  k_with "L sub" => (intro p hp; (repeat (first | exact hp | (rcases List.mem_cons.mp hp with rfl | hp; k_mem) | refine List.mem_cons_of_mem _ ?_)))
  k_with "call ref" => (k_here; (with_reducible show wpAny _ _ (call (Value.ref 140) [_]) _ _ _); k_dflt (refine' told_any (by (k_asm)) (by (k_asm)) (by (k_asm)) (by (k_asm)) (by (k_asm)) (by (first | exact rfl | assumption)) (by (ktr_room)) (by (ktr_units)) (Given.sub (by (with_reducible assumption)) (by (exact fun p hp => List.mem_cons_of_mem _ hp))) (by (with_reducible assumption)) (by (with_reducible assumption)) ?_); intro v9 h9 tk9 hv9 F9 N9; (try k_sweep))
  k_with "call ref" => (k_here; (with_reducible show wpAny _ _ (call (Value.ref 133) [Value.ref _]) _ _ _); k_dflt (refine' due_use (by (with_reducible assumption)) (by (with_reducible assumption)) (by (with_reducible assumption)) (by (k_asm)) (by (k_asm)) (by (k_asm)) (by (k_asm)) (by (k_asm)) (by (first | exact rfl | assumption)) (by (ktr_room)) (by (ktr_units)) (News.isList (by (k_asm)) (by (k_mem))) ?_); (with_reducible rename Tells _ _ => q1); intro v9 h9 tk9 hv9 F9 N9; (rcases Tells.two q1 hv9 with ⟨b9, t8, t9, e8, e9⟩ | ⟨b9, t8, t9, e8, e9⟩); (all_goals subst e8); (all_goals subst e9))
  trivial
theorem lb9i {w : World} {mean : ExcName → Option Value} {mg mb : Str → Option Value} {h₀ : Heap} {L fa : Addr} {cd : Value} {s : Shared} {u : Str → Option Value} {ns : List Int} {kvs : List Value} {ka : Addr} {kk : Nat} {news : List (Addr × Obj)} {v : Value} {gv : Option Value}
    (K0 : Below callerA h₀ [] h₀) (KX : (hd.heap_39 w.params).In h₀) (T : TopM mean mg mb h₀) (hG : Given ns news v) (hS : Signs ns) (hz : ns.length ≤ 1000) (hK : IntsAre kvs (figs ns))
    (F : Fr h₀ L s.heap (fun y => if y = Str.ofString "given" then gv else if y = Str.ofString "kept" then some (.ref ka) else u y))
    (N : News h₀ L s.heap ((ka, listOf kvs.toArray kk) :: news)) :
    wpAny (lawM w) (lawA L fa cd) (assign (forOf inFor).1 (lawEnv L fa cd) v) (fun _ s₂ => wpC (lawM w) (lawA L fa cd) (execs (forOf inFor).2.2 (lawEnv L fa cd)) (Back h₀ L s (fun m' => ∀ y, y ≠ Str.ofString "given" → m' y = if y = Str.ofString "kept" then some (.ref ka) else u y) ((ka, listOf kvs.toArray kk) :: news)) NoE s₂) NoE s := by
  have h64 := in64_figs ns
  have hfl : (figs ns).length ≤ 4000 := Nat.le_trans (figs_le ns) (by omega)
  generalize hB9 : forOf inFor = bd
  conv at hB9 => { lhs; whnf }
  subst hB9
  dsimp only [TopM, lawM] at T ⊢
  walk_at "L open"
  k_steps
  refine wpC_step ?_
  k_steps
  all_goals first
    | exact (bne_no (by with_reducible assumption)).elim
    | exact (bne_no' (by with_reducible assumption)).elim
    | exact (ne_no (by with_reducible assumption)).elim
    | (refine wpC_execs_nil ?_; exact Back.mk (by with_reducible assumption) (by with_reducible assumption) (fun y h1 => by simp only [h1, if_false]))
    | (trace_state; w_report)
end
section
theorem fill_LB9o_114 : True := by
  w_top off
  k_with_none
  k_with "M enter" => (refine' code_defM (by (k_asm)) (by (k_asm)) (by (k_asm)) (by (k_asm)) (by (exact rfl)) (by (exact rfl)) (by (assumption)) (by (k_is)) (by (k_is)) (by (ktr_room)) (by (first | exact BindsTo.of_eq rfl | exact binds_K (by k_in) rfl (by k_is) rfl rfl rfl)) (by (exact locs rfl)) ?_ (by (exact rfl)) (by (exact rfl)) (by (exact rfl)) (by (decide)); k_whole; intro L' h' F' N' B' X' T'; (try dsimp only); (try k_fold))
  k_with "M enter2" => ((case kA => exact rfl); (case kF => exact rfl); (case kK => assumption); (case k1 => k_asm); (case k2 => k_asm); (case k3 => k_asm); (case k5 => k_asm); (case k6 => k_is); (case k7 => k_is); (case k8 => ktr_room); (case k9 => first | exact BindsTo.of_eq rfl | exact binds_K (by k_in) rfl (by k_is) rfl rfl rfl); (case c5 => decide); (case kB => exact locs rfl); (case c2 => exact rfl); (case c3 => exact rfl); (case c4 => exact rfl); k_whole; intro L' h' F' N' B' X' T'; (try dsimp only); (try k_fold))
  k_with "call type:type" => (k_here; (with_reducible show wpAny _ _ (call (Value.type "type") [Value.bytes _ _]) _ _ _); refine call_type_of (PySem.W.typeIs_bytes _ _ _) (by decide +kernel) ?_)
  k_with "M ba" => (first | exact Fr.keep (by assumption) _ _ (by assumption) | assumption)
  k_with "call type:type" => (k_here; (with_reducible show wpAny _ _ (call (Value.type "type") [Value.ref _]) _ _ _); k_dflt (refine' kto_cont (T := "bytearray") (by ((refine' kitAt_ba (by (walk_at "M ba"))))) (by (decide +kernel)) ?_; k_whole))
  k_with "call builtin:isinstance" => (k_here; (with_reducible show wpAny _ _ (call _ [Value.ref _, Value.ref _]) _ _ _); kit_ncls; k_dflt (refine' kia_tup kitx_ba (by (k_in)) (by ((refine' kitAt_ba (by (walk_at "M ba"))))) (by (kit_tp)) (by (kit_is)) (by (kit_nb)) ?_; k_whole; intro _))
  k_with "call builtin:isinstance" => (k_here; (with_reducible show wpAny _ _ (call _ [Value.ref _, Value.type _]) _ _ _); k_dflt (refine' kia_one kitx_ba (by (k_in)) (by ((refine' kitAt_ba (by (walk_at "M ba"))))) (by (kit_is)) (by (kit_nb)) ?_; k_whole; intro _))
  k_with "call type:bytes" => (k_here; (with_reducible show wpAny _ _ (call (Value.type "bytes") [Value.ref _]) _ _ _); k_dflt (refine' ba_bytes (k := 0) (by (walk_at "M ba")) (by (assumption)) ?_; k_whole; intro _ _))
  k_with "getMethod str" => (k_here; with_reducible refine en_method ?_)
  k_with "call builtin:str.encode" => (k_here; (with_reducible show wpAny _ _ (call (Value.builtin "str.encode") [Value.str _ _, Value.str _ _]) _ _ _); refine' en_call (by (assumption)) (by (assumption)) ?_; intro _ _)
  k_with "getMethod bytes" => (k_here; with_reducible refine tr_method ?_)
  k_with "call builtin:bytes.translate" => (k_here; (with_reducible show wpAny _ _ (call (Value.builtin "bytes.translate") [Value.bytes _ _, Value.bytes _ _]) _ _ _); refine' trM (by (first | rfl | decide +kernel)) (by (decide +kernel)) (by (assumption)) ?_; intro _ _)
  k_with "binaryOp LShift int int" => (k_here; (with_reducible refine shlM (by (decide)) (by (decide)) (by (omega)) ?_))
  k_with "binaryOp RShift int int" => (k_here; (with_reducible refine shrM (by (first | decide | omega)) ?_))
  k_with "call builtin:list.append" => (k_here; (with_reducible show wpAny _ _ (call (Value.builtin _) [Value.ref _, Value.int _ _]) _ _ _); k_dflt (refine' append_K (by (k_asm)) (by (k_asm)) (by (k_upd)) ?_ (by ((simp only [List.size_toArray, List.length_append, List.length_cons, List.length_nil, sizeLine_eq]; omega))); k_whole); intro h' F' N'; (try simp only [List.push_toArray] at N'); (try k_sweep))
  k_with "call builtin:len" => (k_here; (with_reducible show wpAny _ _ (call (Value.builtin "len") [Value.ref _]) _ _ _); k_dflt (refine' lenM (News.isList (by (k_asm)) (by (k_mem))) (by (with_reducible assumption)) (by (omega)) ?_; k_whole))
  k_with "call type:bytes" => (k_here; (with_reducible show wpAny _ _ (call (Value.type "bytes") [Value.ref _]) _ _ _); k_dflt (refine' bytesM (by (k_asm)) (by (k_asm)) (News.isList (by (k_asm)) (by (k_mem))) (by (with_reducible assumption)) (by (with_reducible assumption)) (by (omega)) rfl ?_; k_whole); intro h' t' k' F' N'; (try k_sweep))
  k_with "binaryOp BitAnd int int" => (k_here; (with_reducible refine andM ?_))
  k_with "binaryOp BitOr int int" => (k_here; (with_reducible refine orM' ?_))
  k_with "M enterC" => ((case kA => exact rfl); (case kF => exact rfl); (case kK => assumption); (case k1 => k_asm); (case k2 => k_asm); (case k3 => k_asm); (case k5 => k_asm); (case k6 => k_is); (case k7 => k_is); (case k8 => ktr_room); (case k9 => first | exact BindsTo.of_eq rfl | exact binds_K (by k_in) rfl (by k_is) rfl rfl rfl); (case kB => exact rfl); (case kD => decide +kernel); (case c2 => exact rfl); (case c3 => exact rfl); (case c4 => exact rfl); k_whole; intro L' h' tk' cells' F' N' Y' B' X' T'; k_cells Y'; (try simp only [List.cons_append, List.nil_append] at N'); (try dsimp only); (try k_fold))
  k_with "call builtin:len" => (k_here; (with_reducible show wpAny _ _ (call (Value.builtin "len") [Value.ref _]) _ _ _); k_dflt (refine' lenM (stays_list (stays_of (by (k_asm))) (by (with_reducible assumption))) (by (with_reducible assumption)) (by (omega)) ?_; k_whole))
  k_with "eval Name" => (k_here; k_dflt (refine' nameX_L (by (k_asm)) (@rfl _ (some _)) ?_ (by (rfl)) (by (rfl)); k_whole))
  k_with "M back" => (intro r9 h9 tk9 F9 N9 S9 P9; (try dsimp only at P9); (first | (obtain ⟨t9, e9⟩ := P9; subst e9) | subst P9); clear S9; (try dsimp only); (try k_sweep))
  k_with "M call" => ((case k1 => k_asm); (case k2 => k_asm); (case k3 => k_asm); (case k4 => k_asm); (case k5 => k_asm); (case kK => first | exact rfl | assumption); (case kd => ktr_room); (case ku => ktr_units))
  k_with "call ref" => (k_here; (with_reducible show wpAny _ _ (call (Value.ref 70) [Value.int _ _]) _ _ _); k_dflt (refine' Ct.use (b64_value_ok _ _ _ _ _ _) (by (k_asm)) (by (k_asm)) (by (k_asm)) (by (k_asm)) (by (k_asm)) (by (first | exact rfl | assumption)) (by (ktr_room)) (by (ktr_units)) trivial ?_; walk_at "M back"))
  k_with "call ref" => (k_here; (with_reducible show wpAny _ _ (call (Value.ref 63) [Value.bool _]) _ _ _); k_dflt (refine' Ct.use (truth_ok _ _ _ _) (by (k_asm)) (by (k_asm)) (by (k_asm)) (by (k_asm)) (by (k_asm)) (by (first | exact rfl | assumption)) (by (ktr_room)) (by (ktr_units)) trivial ?_; walk_at "M back"))
  k_with "call ref" => (k_here; (with_reducible show wpAny _ _ (call (Value.ref 56) [Value.bytes _ _]) _ _ _); k_dflt (refine' Ct.use (buffer_ok _ _ _ _ _ _) (by (k_asm)) (by (k_asm)) (by (k_asm)) (by (k_asm)) (by (k_asm)) (by (first | exact rfl | assumption)) (by (ktr_room)) (by (ktr_units)) trivial ?_; walk_at "M back"))
  k_with "call ref" => (k_here; (with_reducible show wpAny _ _ (call (Value.ref 49) [Value.bytes _ _]) _ _ _); k_dflt (refine' Ct.use (ascii_buffer_ok _ _ _ _ _ _) (by (k_asm)) (by (k_asm)) (by (k_asm)) (by (k_asm)) (by (k_asm)) (by (first | exact rfl | assumption)) (by (ktr_room)) (by (ktr_units)) trivial ?_; walk_at "M back"))
  k_with "call ref" => (k_here; (with_reducible show wpAny _ _ (call (Value.ref 49) [Value.ref _]) _ _ _); k_dflt (refine' Ct.use (ascii_buffer_ba _ _ _ _ _ _ (by (assumption))) (by (k_asm)) (by (k_asm)) (by (k_asm)) (by (k_asm)) (by (k_asm)) (by (first | exact rfl | assumption)) (by (ktr_room)) (by (ktr_units)) (by (walk_at "M ba")) ?_; walk_at "M back"))
  k_with "call ref" => (k_here; (with_reducible show wpAny _ _ (call (Value.ref 29) [Value.bytes _ _]) _ _ _); k_dflt (refine' Ct.use (from_bytes_ok _ _ _ _ _ _) (by (k_asm)) (by (k_asm)) (by (k_asm)) (by (k_asm)) (by (k_asm)) (by (first | exact rfl | assumption)) (by (ktr_room)) (by (ktr_units)) trivial ?_; walk_at "M back"))
  k_with "call ref" => (k_here; (with_reducible show wpAny _ _ (call (Value.ref 29) [Value.ref _]) _ _ _); k_dflt (refine' Ct.use (from_ba _ _ _ _ _ _) (by (k_asm)) (by (k_asm)) (by (k_asm)) (by (k_asm)) (by (k_asm)) (by (first | exact rfl | assumption)) (by (ktr_room)) (by (ktr_units)) (by (walk_at "M ba")) ?_; walk_at "M back"))
  k_with "call ref" => (k_here; (with_reducible show wpAny _ _ (call (Value.ref 29) [Value.str _ _]) _ _ _); k_dflt (refine' Ct.use (from_str _ _ _ _ _ _ (by (assumption)) (by (assumption))) (by (k_asm)) (by (k_asm)) (by (k_asm)) (by (k_asm)) (by (k_asm)) (by (first | exact rfl | assumption)) (by (ktr_room)) (by (ktr_units)) trivial ?_; walk_at "M back"))
  k_with "eval ListComp" => (k_here; k_dflt (refine ListComp_G (F₀ := by k_asm) (by with_unfolding_all rfl) (by decide) (by rfl) (by decide) (by rfl) ?_))
  k_with "pyIter ref" => (k_here; (with_reducible show wpAny _ _ (pyIter _) (CompIt _ _ _ _ _ _ _ _ _ _ _ _) _ _); k_dflt (refine' iter_tuple rfl (by (k_asm)) (by (k_asm)) (SrcT.made (by (k_mem))) (by (exact Nat.le_of_ble_eq_true rfl)) ?_; k_whole); intro g'; lcg_lit)
  k_with "CompEnd" => (refine' CompEnd.same (by (k_asm)) (by (k_asm)) (by ((simp only [LCg.Off3, and_true]; with_reducible assumption))) (by (first | exact True.intro | exact SrcT.made (by k_mem) | exact Or.inl (by assumption) | exact Or.inr ⟨_, by k_mem, rfl, _, rfl⟩)) ?_)
  k_with "call builtin:list.extend" => (k_here; (with_reducible show wpAny _ _ (call (Value.builtin _) [Value.ref _, Value.ref _]) _ _ _); k_dflt (refine' extM (by (k_asm)) (by (k_asm)) (by (k_mem)) (by (first | omega | (simp only [List.length_cons, List.length_nil, List.length_append]; omega))) (by (k_upd)) (by (first | omega | (simp only [List.length_cons, List.length_nil, List.length_append]; omega))) ?_; k_whole); intro h' F' N'; (try k_sweep))
  k_with "exec For Name Call" => (k_here; k_dflt (refine' For_unrF (by k_asm) ?_ (by intro _; with_unfolding_all rfl) (by passes_own)))
  k_with "L open" => (unfold lawA lawEnv; generalize hS9 : lawParts.2 = sc9; conv at hS9 => { lhs; whnf }; subst hS9)
  k_with "call type:bytes" => (k_here; (with_reducible show wpAny _ _ (call (Value.type "bytes") [Value.ref _]) _ _ _); k_dflt (refine' bytesM (by (k_asm)) (by (k_asm)) (News.isList (by (k_asm)) (by (k_mem))) (by (with_reducible assumption)) (by (with_reducible assumption)) (by (omega)) rfl ?_; k_whole); intro h' t' k' F' N'; (try k_sweep))
  k_with "call ref" => (k_here; (with_reducible show wpAny _ _ (call (Value.ref 128) [Value.ref _]) _ _ _); k_dflt (refine' figs_use (by (with_reducible assumption)) (by (with_reducible assumption)) (by (omega)) (by (omega)) (by (k_asm)) (by (k_asm)) (by (k_asm)) (by (k_asm)) (by (k_asm)) (by (first | exact rfl | assumption)) (by (ktr_room)) (by (ktr_units)) (News.isList (by (k_asm)) (by (k_mem))) ?_); intro l9 w9 k9 h9 tk9 F9 N9 hI9; (try k_sweep))
  k_with "L sub" => (intro p hp; (repeat (first | exact hp | (rcases List.mem_cons.mp hp with rfl | hp; k_mem) | refine List.mem_cons_of_mem _ ?_)))
  trivial
theorem lb9o {w : World} {mean : ExcName → Option Value} {mg mb : Str → Option Value} {h₀ : Heap} {L fa : Addr} {cd : Value} {s : Shared} {u : Str → Option Value} {ns : List Int} {kvs : List Value} {ka pa : Addr} {kk pk : Nat} {tl : List (Addr × Obj)} {gv kv tv : Option Value} {t : Tok}
    (K0 : Below callerA h₀ [] h₀) (KX : (hd.heap_39 w.params).In h₀) (T : TopM mean mg mb h₀) (hS : Signs ns) (hz : ns.length ≤ 1000) (hK : IntsAre kvs (figs ns))
    (F : Fr h₀ L s.heap (fun y => if y = Str.ofString "given" then gv else if y = Str.ofString "kept" then kv else if y = Str.ofString "text" then tv else u y))
    (N : News h₀ L s.heap ((pa, ({ cls := .type "tuple", data := .seq #[.bytes (byteArr ns) t, .ref ka] pk } : Obj)) :: (ka, listOf kvs.toArray kk) :: tl)) :
    wpAny (lawM w) (lawA L fa cd) (assign (forOf outFor).1 (lawEnv L fa cd) (.ref pa)) (fun _ s₂ => wpC (lawM w) (lawA L fa cd) (execs (forOf outFor).2.2 (lawEnv L fa cd)) (Back h₀ L s (fun m' => ∀ y, y ≠ Str.ofString "given" → y ≠ Str.ofString "kept" → y ≠ Str.ofString "text" → m' y = u y)
      ((pa, ({ cls := .type "tuple", data := .seq #[.bytes (byteArr ns) t, .ref ka] pk } : Obj)) :: (ka, listOf kvs.toArray kk) :: tl)) NoE s₂) NoE s := by
  have hsz : (byteArr ns).size ≤ sizeLine := by rw [byteArr_size, sizeLine_eq]; omega
  generalize hB9 : forOf outFor = bd
  conv at hB9 => { lhs; whnf }
  subst hB9
  dsimp only [TopM, lawM] at T ⊢
  walk_at "L open"
  k_steps
  refine wpC_execs_cons (wpC_For (wpC_Tuple (wpC_args_cons (wpC_of ?_))) (by intro _; with_unfolding_all rfl))
  k_steps
  refine wpC_args_cons (wpC_CallType (T := "bytearray") (fun {Q'} hq => ?_) ?_)
  · k_dflt (refine' nameX_B ?F ?X ?T ?e ?v ?n ?_ ?a ?b)
    (case F => k_asm)
    (case X => k_asm)
    (case T => k_asm)
    (case a => rfl)
    (case b => rfl)
    (case e => k_is)
    (case v => exact boot_ba)
    (case n => decide)
    exact hq
  k_steps
  refine ba_led rfl hsz (by with_reducible assumption) (by with_reducible assumption) ?_
  intro xb h2 k2 F2 N2
  refine wpC_args_cons (wpC_of ?_)
  k_with "pyIter bytes" => (
    (with_reducible rename Fr _ _ _ _ => nF); (with_reducible rename News _ _ _ _ => nN);
    (refine' iter_bytes rfl nF nN hsz ?RP);
    (case' RP => (intro g; refine' CompRest.inv (ChAt ns _) ?turnP ?doneP _ 0 [] _ (Nat.zero_add _) (chAt_nil _ _)));
    (case' turnP => (intro i ys news v I oI C oC D m2 h tk E2 hin hP hv hC hx hF hN hO hne; clear nF nN; obtain ⟨n, t7, hn, hn0, hn1, rfl⟩ := hv; rw [hS.ints] at hn; obtain rfl := hP.1; (try dsimp only)));
    (case' doneP => (intro ys news hP; obtain rfl := hP.1; clear nF nN; have hPS := chAt_done hP (byteArr_size ns); (try dsimp only))))
  k_with "call builtin:str.join" => (k_dflt (refine' join_ch (News.isList ?N ?m) hPS hz ?_; (case N => k_asm); (case m => k_mem)); intro x8 t8 k8 hx8)
  k_steps
  case turnP => exact LCg.CompEnd.intro (by with_reducible assumption) (by with_reducible assumption) _ (fun p hp => hp) hO trivial (chAt_more hP hn)
  refine wpC_args_nil (wpC_of ?_)
  k_steps
  (with_reducible rename Fr _ _ _ _ => nF)
  (with_reducible rename News _ _ _ _ => nN)
  rename Addr => Dt
  have hx : ∃ rest, News h₀ L _ ((Dt, ({ cls := .type "tuple", data := .seq #[.bytes (byteArr ns) t, .ref xb, .str x8 t8] } : Obj)) :: rest) ∧ (xb, baObj (byteArr ns)) ∈ rest ∧ (ka, listOf kvs.toArray kk) ∈ rest ∧
      (∀ p ∈ (pa, ({ cls := .type "tuple", data := .seq #[.bytes (byteArr ns) t, .ref ka] pk } : Obj)) :: (ka, listOf kvs.toArray kk) :: tl, p ∈ rest) ∧ ∀ p ∈ rest, p.1 ≠ Dt :=
    ⟨_, nN, List.Mem.tail _ (List.Mem.head _), List.Mem.tail _ (List.Mem.tail _ (List.Mem.tail _ (List.Mem.head _))), fun p hp => List.mem_cons_of_mem _ (List.mem_cons_of_mem _ hp), allLt_ne ⟨by assumption, by assumption, by assumption, by assumption, by assumption⟩⟩
  clear nN
  obtain ⟨rest, nN, r1, r2, r3, r4⟩ := hx
  refine wpC_of (forTC (fun _ m => ∀ y, y ≠ Str.ofString "given" → m y = if y = Str.ofString "kept" then some (.ref ka) else if y = Str.ofString "text" then some (.bytes (byteArr ns) t) else u y) rfl nF nN r4 (fun _ _ _ _ _ _ hq => letOwned_name hq) ?hi ?turn ?done)
  case hi => exact fun y h1 => by simp only [h1, if_false]; split <;> first | rfl | (split <;> rfl)
  case turn =>
    intro i v m h tk own hv hI hF hN
    clear nF nN
    have hm := frame_given (u := fun y => if y = Str.ofString "text" then some (.bytes (byteArr ns) t) else u y) hI
    rw [hm] at hF
    have hG : Given ns (own ++ rest) v := given3 hv (List.mem_append_right own r1) hx8
    have hN2 : News h₀ L h ((ka, listOf kvs.toArray kk) :: (own ++ rest)) := by
      intro p hp
      rcases List.mem_cons.mp hp with rfl | hp
      · exact hN _ (List.mem_append_right own r2)
      · exact hN _ hp
    have key := lb9i (s := { s with heap := h, toks := tk }) (L := L) (fa := fa) (cd := cd) K0 KX T hG hS hz hK hF hN2
    exact wpAny_mono key (fun _ s₂ h₂ => wpC_mono h₂ (fun f s₃ h₃ => Back.step h₃ (fun p hp => List.mem_cons_of_mem _ hp) (fun m' h' => ⟨rfl, h'⟩)) fun _ _ e => e) fun _ _ e => e
  case done =>
    intro m h tk hI hF hN
    refine wpC_execs_nil ?_
    refine Back.mk hF (News.sub hN r3) ?_
    intro y h1 h2 h3
    rw [hI y h1, if_neg h2, if_neg h3]
end
section
/-! a comprehension with one test, by an invariant -/
open LCg LCt
section
variable {prog : Program} {w : World} {A : Around} {E : Value → Shared → Prop} {s : Shared} {h₀ : Heap} {L : Addr} {m : Str → Option Value} {env : Env}
noncomputable def CompItT (prog : Program) (w : World) (A : Around) (h₀ : Heap) (L : Addr) (m : Str → Option Value) (env : Env) (ct elt : Expr) (x : Str) (scope : Scope) (cl : List (Str × Addr)) (Fin : Shared → List Value → List (Addr × Obj) → Prop) (it : Value) (s₂ : Shared) : Prop :=
  ∃ (I : Addr) (fp : List Addr) (n : Nat) (P : Nat → Value → Prop) (St : Nat → Heap → Prop) (S : List (Addr × Obj) → Prop) (news : List (Addr × Obj)), it = .ref I ∧ Walks prog w A I fp [I] n P St ∧ n ≤ sizeLine ∧ (∀ i h, St i h → ∃ o, h.get? I = some o) ∧
    (∀ i h h' o nw, St i h → h.get? I = some o → h'.get? I = some o → (∀ b o, h₀.get? b = some o → h'.get? b = some o) → News h₀ L h' nw → S nw → St i h') ∧
    St 0 s₂.heap ∧ (∀ b ∈ fp, b < s₂.heap.objs.size) ∧ Fr h₀ L s₂.heap m ∧ News h₀ L s₂.heap news ∧ L ≠ I ∧ h₀.get? I = none ∧ (∀ p ∈ news, p.1 ≠ I) ∧ S news ∧
    CompRestT prog w A h₀ L m env ct elt x scope cl s₂ S P (Fin s₂) n 0 [] news
theorem ListCompT_G {ct elt iter : Expr} {x : Str} {px : Pos} {scope : Scope} {cl : List (Str × Addr)} {pos : Pos} {Q : Value → Shared → Prop} (F₀ : Fr h₀ L s.heap m)
    (hclos : closureFor scope env = pure cl) (hcell : ∀ y ∈ scope.names, y.2 ≠ .cell) (hkind : scope.kind = .function)
    (hnames : ∀ y ∈ scope.names, y.2 = .local → scope.names.lookup y.1 = some .local) (hx : scope.names.lookup x = some .local)
    (h : wpAny (model prog w) A (eval iter env) (fun xv s₁ => wpAny (model prog w) A (pyIter xv) (CompItT prog w A h₀ L m env ct elt x scope cl (fun s₂ => FinE h₀ L m s₂ Q)) E s₁) E s)
    (hs : ∀ x, foldedSetIterable iter env x = pure x := by intro _; rfl) :
    wpAny (model prog w) A (eval (.ListComp elt [⟨.Name x px, iter, [ct], 0⟩] scope pos) env) Q E s := by
  rw [eval_ListComp]
  refine wpAny_comprehension_free (use := none) rfl hs hclos hkind hnames (wpAny_mono h (fun xv s₁ h₁ => wpAny_mono h₁ (fun it s₂ h₂ => ?_) fun _ _ e => e) fun _ _ e => e)
  obtain ⟨I, fp, n, P, St, S, news, rfl, W, hsz, hIo, hSt, hst, hfp, F, N, hIL, hI₀, off, hS, R⟩ := h₂
  refine block_T W hsz hIo hSt hcell hkind hx hst hfp F N hIL hI₀ off hS R ?_
  intro D C h tk m' ys news' F' N' o1 hn hC₀ hD₀ hCL hDL hCD offC fin
  refine ⟨m', hn, fun h'' hs'' => fin D h'' tk (F'.change hs'' hCL hC₀) (fun p hp => ?_) o1⟩
  refine ⟨hs''.extBut _ _ ?_ (N' p hp).1, (N' p hp).2⟩
  rcases List.mem_cons.mp hp with rfl | hp
  · exact Ne.symm hCD
  · exact offC p hp
theorem CompRestT.inv {ct elt : Expr} {x : Str} {scope : Scope} {cl : List (Str × Addr)} {S : List (Addr × Obj) → Prop} {P : Nat → Value → Prop} {Fin : List Value → List (Addr × Obj) → Prop} {n : Nat} (Inv : Nat → List Value → List (Addr × Obj) → Prop)
    (turn : ∀ i ys news v I oI C oC D m₂ h tk (E' : Value → Shared → Prop), i < n → Inv i ys news → P i v → NsObj oC m₂ → m₂ x = some v → Fr h₀ L h m → News h₀ L h ((I, oI) :: (C, oC) :: (D, lst ys) :: news) → Off3 I C D news → ((@Ne Nat I C) ∧ (@Ne Nat I D) ∧ (@Ne Nat C D)) →
      wpAny (model prog w) A (isTrue ct (compEnvC scope cl C env) (eval ct (compEnvC scope cl C env))) (fun ok s' => if ok = true then
        wpAny (model prog w) A (eval elt (compEnvC scope cl C env)) (CompEnd h₀ L m { s with heap := h, toks := tk } I oI C oC D (lst ys) S (fun y news' => Inv (i + 1) (ys ++ [y]) news')) E' s'
        else CompEnd h₀ L m { s with heap := h, toks := tk } I oI C oC D (lst ys) S (fun _ news' => Inv (i + 1) ys news') Value.none s') E' { s with heap := h, toks := tk })
    (done : ∀ ys news, Inv n ys news → Fin ys news) :
    ∀ (k i : Nat) (ys : List Value) (news : List (Addr × Obj)), i + k = n → Inv i ys news → CompRestT prog w A h₀ L m env ct elt x scope cl s S P Fin k i ys news
  | 0, i, ys, news, e, hi => LCt.CompRestT.zero (done _ _ (by rw [Nat.add_zero] at e; rw [← e]; exact hi))
  | k + 1, i, ys, news, e, hi => LCt.CompRestT.succ fun v I oI C oC D m₂ h tk E' hP hC hx F N off ne =>
      wpAny_mono (turn i ys news v I oI C oC D m₂ h tk E' (by omega) hi hP hC hx F N off ne) (fun ok s₂ h₂ => by
        cases ok with
        | true =>
          simp only [if_true] at h₂ ⊢
          exact wpAny_mono h₂ (fun y s₃ ⟨h', tk', nw, es, F', N', off', hS, hr⟩ =>
            ⟨h', tk', nw, es, F', N', off', hS, CompRestT.inv Inv turn done k (i + 1) (ys ++ [y]) nw (by omega) hr⟩) fun _ _ e => e
        | false =>
          simp only [Bool.false_eq_true, if_false] at h₂ ⊢
          obtain ⟨h', tk', nw, es, F', N', off', hS, hr⟩ := h₂
          exact ⟨h', tk', nw, es, F', N', off', hS, CompRestT.inv Inv turn done k (i + 1) ys nw (by omega) hr⟩) fun _ _ e => e
theorem iter_listT {ct elt : Expr} {x : Str} {scope : Scope} {cl : List (Str × Addr)} {Fin : Shared → List Value → List (Addr × Obj) → Prop} {news : List (Addr × Obj)} {ax : Addr} {its : Array Value} (hh : A.handled = none) (F : Fr h₀ L s.heap m) (N : News h₀ L s.heap news) (S : SrcAt h₀ ax its news) (hsz : its.size ≤ sizeLine)
    (R : ∀ g, CompRestT prog w A h₀ L m env ct elt x scope cl { s with heap := g } (SrcAt h₀ ax its) (fun i v => its[i]? = some v) (Fin { s with heap := g }) its.size 0 [] news) :
    wpAny (model prog w) A (pyIter (.ref ax)) (CompItT prog w A h₀ L m env ct elt x scope cl Fin) E s := by
  have ht := S.list F.keep N
  have hlt : ax < s.heap.objs.size := by obtain ⟨_, e, _⟩ := ht; exact Heap.lt_size e
  refine wpAny_pyIter_list ht ?_
  have up : ∀ b o, s.heap.get? b = some o → (s.heap.push { cls := .type "list_iterator", data := .fields #[.ref ax, .int 0 0] }).get? b = some o := fun b o e => Heap.get?_push_of_some _ e
  refine ⟨_, _, _, _, _, SrcAt h₀ ax its, news, rfl, Walks.list hh s.heap.objs.size ax (Nat.ne_of_lt hlt) its, hsz, fun i h st => by obtain ⟨o, e, _⟩ := st.1; exact ⟨o, e⟩, list_st, ⟨⟨_, Heap.get?_push_size _ rfl, rfl, rfl⟩, ht.push _⟩, fun b hb => ?_,
    F.keeps up, N.grown up, Nat.ne_of_lt F.ns.lt, next_is_new F, fun p hp => Nat.ne_of_lt (Heap.lt_size (N p hp).1), S, R _⟩
  show b < (s.heap.push _).objs.size
  rw [Heap.size_push]
  rcases List.mem_cons.mp hb with rfl | hb
  · exact Nat.lt_succ_self _
  · rw [List.mem_singleton.mp hb]; exact Nat.lt_succ_of_lt hlt
end
/-- the figures below 62 so far -/
noncomputable def FiltAt (fs : List Int) (news₀ : List (Addr × Obj)) (i : Nat) (ys : List Value) (news : List (Addr × Obj)) : Prop := news = news₀ ∧ IntsAre ys ((fs.take i).filter fun f => decide (f < 62))
theorem filtAt_nil (fs : List Int) (news₀ : List (Addr × Obj)) : FiltAt fs news₀ 0 [] news₀ := ⟨rfl, .nil⟩
theorem filtAt_more {fs : List Int} {news₀ news : List (Addr × Obj)} {i : Nat} {ys : List Value} {f : Int} {t : Tok} (h : FiltAt fs news₀ i ys news) (hf : fs[i]? = some f) (hl : f < 62) : FiltAt fs news₀ (i + 1) (ys ++ [.int f t]) news := by
  refine ⟨h.1, ?_⟩
  rw [List.take_add_one, hf, List.filter_append, show (some f).toList.filter (fun f => decide (f < 62)) = [f] by simp [hl]]
  exact IntsAre.append h.2 (.cons _ _ .nil)
theorem filtAt_skip {fs : List Int} {news₀ news : List (Addr × Obj)} {i : Nat} {ys : List Value} {f : Int} (h : FiltAt fs news₀ i ys news) (hf : fs[i]? = some f) (hl : ¬ f < 62) : FiltAt fs news₀ (i + 1) ys news := by
  refine ⟨h.1, ?_⟩
  rw [List.take_add_one, hf, List.filter_append, show (some f).toList.filter (fun f => decide (f < 62)) = [] by simp [hl], List.append_nil]
  exact h.2
theorem filtAt_done {fs : List Int} {news₀ news : List (Addr × Obj)} {fvs ys : List Value} (hI : IntsAre fvs fs) (h : FiltAt fs news₀ fvs.toArray.size ys news) : IntsAre ys (fs.filter fun f => decide (f < 62)) := by
  have := h.2
  rwa [List.size_toArray, hI.length, List.take_length] at this
end
section
theorem fill_LB9_119 : True := by
  w_top off
  k_with_none
  k_with "M enter" => (refine' code_defM (by (k_asm)) (by (k_asm)) (by (k_asm)) (by (k_asm)) (by (exact rfl)) (by (exact rfl)) (by (assumption)) (by (k_is)) (by (k_is)) (by (ktr_room)) (by (first | exact BindsTo.of_eq rfl | exact binds_K (by k_in) rfl (by k_is) rfl rfl rfl)) (by (exact locs rfl)) ?_ (by (exact rfl)) (by (exact rfl)) (by (exact rfl)) (by (decide)); k_whole; intro L' h' F' N' B' X' T'; (try dsimp only); (try k_fold))
  k_with "M enter2" => ((case kA => exact rfl); (case kF => exact rfl); (case kK => assumption); (case k1 => k_asm); (case k2 => k_asm); (case k3 => k_asm); (case k5 => k_asm); (case k6 => k_is); (case k7 => k_is); (case k8 => ktr_room); (case k9 => first | exact BindsTo.of_eq rfl | exact binds_K (by k_in) rfl (by k_is) rfl rfl rfl); (case c5 => decide); (case kB => exact locs rfl); (case c2 => exact rfl); (case c3 => exact rfl); (case c4 => exact rfl); k_whole; intro L' h' F' N' B' X' T'; (try dsimp only); (try k_fold))
  k_with "call type:type" => (k_here; (with_reducible show wpAny _ _ (call (Value.type "type") [Value.bytes _ _]) _ _ _); refine call_type_of (PySem.W.typeIs_bytes _ _ _) (by decide +kernel) ?_)
  k_with "M ba" => (first | exact Fr.keep (by assumption) _ _ (by assumption) | assumption)
  k_with "call type:type" => (k_here; (with_reducible show wpAny _ _ (call (Value.type "type") [Value.ref _]) _ _ _); k_dflt (refine' kto_cont (T := "bytearray") (by ((refine' kitAt_ba (by (walk_at "M ba"))))) (by (decide +kernel)) ?_; k_whole))
  k_with "call builtin:isinstance" => (k_here; (with_reducible show wpAny _ _ (call _ [Value.ref _, Value.ref _]) _ _ _); kit_ncls; k_dflt (refine' kia_tup kitx_ba (by (k_in)) (by ((refine' kitAt_ba (by (walk_at "M ba"))))) (by (kit_tp)) (by (kit_is)) (by (kit_nb)) ?_; k_whole; intro _))
  k_with "call builtin:isinstance" => (k_here; (with_reducible show wpAny _ _ (call _ [Value.ref _, Value.type _]) _ _ _); k_dflt (refine' kia_one kitx_ba (by (k_in)) (by ((refine' kitAt_ba (by (walk_at "M ba"))))) (by (kit_is)) (by (kit_nb)) ?_; k_whole; intro _))
  k_with "call type:bytes" => (k_here; (with_reducible show wpAny _ _ (call (Value.type "bytes") [Value.ref _]) _ _ _); k_dflt (refine' ba_bytes (k := 0) (by (walk_at "M ba")) (by (assumption)) ?_; k_whole; intro _ _))
  k_with "getMethod str" => (k_here; with_reducible refine en_method ?_)
  k_with "call builtin:str.encode" => (k_here; (with_reducible show wpAny _ _ (call (Value.builtin "str.encode") [Value.str _ _, Value.str _ _]) _ _ _); refine' en_call (by (assumption)) (by (assumption)) ?_; intro _ _)
  k_with "getMethod bytes" => (k_here; with_reducible refine tr_method ?_)
  k_with "call builtin:bytes.translate" => (k_here; (with_reducible show wpAny _ _ (call (Value.builtin "bytes.translate") [Value.bytes _ _, Value.bytes _ _]) _ _ _); refine' trM (by (first | rfl | decide +kernel)) (by (decide +kernel)) (by (assumption)) ?_; intro _ _)
  k_with "binaryOp LShift int int" => (k_here; (with_reducible refine shlM (by (decide)) (by (decide)) (by (omega)) ?_))
  k_with "binaryOp RShift int int" => (k_here; (with_reducible refine shrM (by (first | decide | omega)) ?_))
  k_with "call builtin:list.append" => (k_here; (with_reducible show wpAny _ _ (call (Value.builtin _) [Value.ref _, Value.int _ _]) _ _ _); k_dflt (refine' append_K (by (k_asm)) (by (k_asm)) (by (k_upd)) ?_ (by ((simp only [List.size_toArray, List.length_append, List.length_cons, List.length_nil, sizeLine_eq]; omega))); k_whole); intro h' F' N'; (try simp only [List.push_toArray] at N'); (try k_sweep))
  k_with "call builtin:len" => (k_here; (with_reducible show wpAny _ _ (call (Value.builtin "len") [Value.ref _]) _ _ _); k_dflt (refine' lenM (News.isList (by (k_asm)) (by (k_mem))) (by (with_reducible assumption)) (by (omega)) ?_; k_whole))
  k_with "call type:bytes" => (k_here; (with_reducible show wpAny _ _ (call (Value.type "bytes") [Value.ref _]) _ _ _); k_dflt (refine' bytesM (by (k_asm)) (by (k_asm)) (News.isList (by (k_asm)) (by (k_mem))) (by (with_reducible assumption)) (by (with_reducible assumption)) (by (omega)) rfl ?_; k_whole); intro h' t' k' F' N'; (try k_sweep))
  k_with "binaryOp BitAnd int int" => (k_here; (with_reducible refine andM ?_))
  k_with "binaryOp BitOr int int" => (k_here; (with_reducible refine orM' ?_))
  k_with "M enterC" => ((case kA => exact rfl); (case kF => exact rfl); (case kK => assumption); (case k1 => k_asm); (case k2 => k_asm); (case k3 => k_asm); (case k5 => k_asm); (case k6 => k_is); (case k7 => k_is); (case k8 => ktr_room); (case k9 => first | exact BindsTo.of_eq rfl | exact binds_K (by k_in) rfl (by k_is) rfl rfl rfl); (case kB => exact rfl); (case kD => decide +kernel); (case c2 => exact rfl); (case c3 => exact rfl); (case c4 => exact rfl); k_whole; intro L' h' tk' cells' F' N' Y' B' X' T'; k_cells Y'; (try simp only [List.cons_append, List.nil_append] at N'); (try dsimp only); (try k_fold))
  k_with "call builtin:len" => (k_here; (with_reducible show wpAny _ _ (call (Value.builtin "len") [Value.ref _]) _ _ _); k_dflt (refine' lenM (stays_list (stays_of (by (k_asm))) (by (with_reducible assumption))) (by (with_reducible assumption)) (by (omega)) ?_; k_whole))
  k_with "eval Name" => (k_here; k_dflt (refine' nameX_L (by (k_asm)) (@rfl _ (some _)) ?_ (by (rfl)) (by (rfl)); k_whole))
  k_with "M back" => (intro r9 h9 tk9 F9 N9 S9 P9; (try dsimp only at P9); (first | (obtain ⟨t9, e9⟩ := P9; subst e9) | subst P9); clear S9; (try dsimp only); (try k_sweep))
  k_with "M call" => ((case k1 => k_asm); (case k2 => k_asm); (case k3 => k_asm); (case k4 => k_asm); (case k5 => k_asm); (case kK => first | exact rfl | assumption); (case kd => ktr_room); (case ku => ktr_units))
  k_with "call ref" => (k_here; (with_reducible show wpAny _ _ (call (Value.ref 70) [Value.int _ _]) _ _ _); k_dflt (refine' Ct.use (b64_value_ok _ _ _ _ _ _) (by (k_asm)) (by (k_asm)) (by (k_asm)) (by (k_asm)) (by (k_asm)) (by (first | exact rfl | assumption)) (by (ktr_room)) (by (ktr_units)) trivial ?_; walk_at "M back"))
  k_with "call ref" => (k_here; (with_reducible show wpAny _ _ (call (Value.ref 63) [Value.bool _]) _ _ _); k_dflt (refine' Ct.use (truth_ok _ _ _ _) (by (k_asm)) (by (k_asm)) (by (k_asm)) (by (k_asm)) (by (k_asm)) (by (first | exact rfl | assumption)) (by (ktr_room)) (by (ktr_units)) trivial ?_; walk_at "M back"))
  k_with "call ref" => (k_here; (with_reducible show wpAny _ _ (call (Value.ref 56) [Value.bytes _ _]) _ _ _); k_dflt (refine' Ct.use (buffer_ok _ _ _ _ _ _) (by (k_asm)) (by (k_asm)) (by (k_asm)) (by (k_asm)) (by (k_asm)) (by (first | exact rfl | assumption)) (by (ktr_room)) (by (ktr_units)) trivial ?_; walk_at "M back"))
  k_with "call ref" => (k_here; (with_reducible show wpAny _ _ (call (Value.ref 49) [Value.bytes _ _]) _ _ _); k_dflt (refine' Ct.use (ascii_buffer_ok _ _ _ _ _ _) (by (k_asm)) (by (k_asm)) (by (k_asm)) (by (k_asm)) (by (k_asm)) (by (first | exact rfl | assumption)) (by (ktr_room)) (by (ktr_units)) trivial ?_; walk_at "M back"))
  k_with "call ref" => (k_here; (with_reducible show wpAny _ _ (call (Value.ref 49) [Value.ref _]) _ _ _); k_dflt (refine' Ct.use (ascii_buffer_ba _ _ _ _ _ _ (by (assumption))) (by (k_asm)) (by (k_asm)) (by (k_asm)) (by (k_asm)) (by (k_asm)) (by (first | exact rfl | assumption)) (by (ktr_room)) (by (ktr_units)) (by (walk_at "M ba")) ?_; walk_at "M back"))
  k_with "call ref" => (k_here; (with_reducible show wpAny _ _ (call (Value.ref 29) [Value.bytes _ _]) _ _ _); k_dflt (refine' Ct.use (from_bytes_ok _ _ _ _ _ _) (by (k_asm)) (by (k_asm)) (by (k_asm)) (by (k_asm)) (by (k_asm)) (by (first | exact rfl | assumption)) (by (ktr_room)) (by (ktr_units)) trivial ?_; walk_at "M back"))
  k_with "call ref" => (k_here; (with_reducible show wpAny _ _ (call (Value.ref 29) [Value.ref _]) _ _ _); k_dflt (refine' Ct.use (from_ba _ _ _ _ _ _) (by (k_asm)) (by (k_asm)) (by (k_asm)) (by (k_asm)) (by (k_asm)) (by (first | exact rfl | assumption)) (by (ktr_room)) (by (ktr_units)) (by (walk_at "M ba")) ?_; walk_at "M back"))
  k_with "call ref" => (k_here; (with_reducible show wpAny _ _ (call (Value.ref 29) [Value.str _ _]) _ _ _); k_dflt (refine' Ct.use (from_str _ _ _ _ _ _ (by (assumption)) (by (assumption))) (by (k_asm)) (by (k_asm)) (by (k_asm)) (by (k_asm)) (by (k_asm)) (by (first | exact rfl | assumption)) (by (ktr_room)) (by (ktr_units)) trivial ?_; walk_at "M back"))
  k_with "L open" => (unfold lawA lawEnv; generalize hS9 : lawParts.2 = sc9; conv at hS9 => { lhs; whnf }; subst hS9)
  k_with "call type:bytes" => (k_here; (with_reducible show wpAny _ _ (call (Value.type "bytes") [Value.ref _]) _ _ _); k_dflt (refine' bytesM (by (k_asm)) (by (k_asm)) (News.isList (by (k_asm)) (by (k_mem))) (by (with_reducible assumption)) (by (with_reducible assumption)) (by (omega)) rfl ?_; k_whole); intro h' t' k' F' N'; (try k_sweep))
  k_with "call ref" => (k_here; (with_reducible show wpAny _ _ (call (Value.ref 128) [Value.ref _]) _ _ _); k_dflt (refine' figs_use (by (with_reducible assumption)) (by (with_reducible assumption)) (by (omega)) (by (omega)) (by (k_asm)) (by (k_asm)) (by (k_asm)) (by (k_asm)) (by (k_asm)) (by (first | exact rfl | assumption)) (by (ktr_room)) (by (ktr_units)) (News.isList (by (k_asm)) (by (k_mem))) ?_); intro l9 w9 k9 h9 tk9 F9 N9 hI9; (try k_sweep))
  k_with "L sub" => (intro p hp; (repeat (first | exact hp | (rcases List.mem_cons.mp hp with rfl | hp; k_mem) | refine List.mem_cons_of_mem _ ?_)))
  k_with "eval ListComp" => (k_here; k_dflt (refine ListCompT_G (F₀ := by k_asm) (by with_unfolding_all rfl) (by decide) (by rfl) (by decide) (by rfl) ?_))
  trivial
theorem lb9 {w : World} {mean : ExcName → Option Value} {mg mb : Str → Option Value} {h₀ : Heap} {L fa : Addr} {cd : Value} {s : Shared} {Q : Flow → Shared → Prop} {u : Str → Option Value} {fs mn ln : List Int} {fvs mv lv : List Value} {l lf mx : Addr} {fk mk lk kn jn : Nat} {tl : List (Addr × Obj)} {t2 : Tok} {tdv plv tnv pv : Option Value}
    (K0 : Below callerA h₀ [] h₀) (KX : (hd.heap_39 w.params).In h₀) (T : TopM mean mg mb h₀) (hI : IntsAre fvs fs) (hB : In64 fs) (hlen : fs.length ≤ 260) (hP : PInv kn jn mn ln) (hkn : kn ≤ 1000) (hM : IntsAre mv mn) (hL : IntsAre lv ln)
    (F : Fr h₀ L s.heap (fun y => if y = Str.ofString "told" then tdv else if y = Str.ofString "place" then plv else if y = Str.ofString "turn" then tnv else if y = Str.ofString "left" then some (.ref lf) else if y = Str.ofString "mixed" then some (.ref mx) else
      if y = Str.ofString "other" then some (.bytes (byteArr (fs.map (sg [45, 95]))) t2) else if y = Str.ofString "plain" then pv else if y = Str.ofString "figures" then some (.ref l) else u y))
    (N : News h₀ L s.heap ((lf, listOf lv.toArray lk) :: (mx, listOf mv.toArray mk) :: (l, listOf fvs.toArray fk) :: tl))
    (next : ∀ h' tk m', (∀ y, y ≠ Str.ofString "given" → y ≠ Str.ofString "kept" → y ≠ Str.ofString "text" → m' y = if y = Str.ofString "told" then tdv else if y = Str.ofString "place" then plv else if y = Str.ofString "turn" then tnv else if y = Str.ofString "left" then some (.ref lf) else if y = Str.ofString "mixed" then some (.ref mx) else
      if y = Str.ofString "other" then some (.bytes (byteArr (fs.map (sg [45, 95]))) t2) else if y = Str.ofString "plain" then pv else if y = Str.ofString "figures" then some (.ref l) else u y) → Fr h₀ L h' m' →
      News h₀ L h' ((lf, listOf lv.toArray lk) :: (mx, listOf mv.toArray mk) :: (l, listOf fvs.toArray fk) :: tl) → wpC (lawM w) (lawA L fa cd) (execs (bodyFrom 10) (lawEnv L fa cd)) Q NoE { s with heap := h', toks := tk }) :
    wpC (lawM w) (lawA L fa cd) (execs (bodyFrom 9) (lawEnv L fa cd)) Q NoE s := by
  have hvl : fvs.length ≤ 260 := by rw [hI.length]; exact hlen
  have hml : mv.length ≤ 1000 := by rw [hM.length]; exact Nat.le_trans hP.ml hkn
  have hmR : ∀ n ∈ mn, 0 ≤ n ∧ n < 256 := Signs.inB hP.fr
  generalize hB9 : bodyFrom 9 = bd
  conv at hB9 => { lhs; whnf }
  subst hB9
  refine wpC_execs_cons (wpC_For (wpC_of ?_) (by intro _; with_unfolding_all rfl))
  dsimp only [TopM, lawM] at T ⊢
  walk_at "L open"
  k_with "pyIter ref" => (
    (with_reducible rename Fr _ _ _ _ => nF); (with_reducible rename News _ _ _ _ => nN);
    (refine' iter_listT rfl nF nN (Or.inr ⟨_, List.Mem.tail _ (List.Mem.tail _ (List.Mem.head _)), rfl, _, rfl⟩) ?zP ?RP);
    (case zP => (rw [List.size_toArray, sizeLine_eq]; omega));
    (case' RP => (intro g; refine' CompRestT.inv (FiltAt fs _) ?turnP ?doneP _ 0 [] _ (Nat.zero_add _) (filtAt_nil _ _)));
    (case' turnP => (intro i ys news v I oI C oC D m2 h tk E2 hin hPP hv hC hx hF hN hO hne; clear nF nN; obtain ⟨n, t, hn, rfl⟩ := item_int hI hv; have hn64 := hB n (List.mem_of_getElem? hn); obtain rfl := hPP.1; (try dsimp only)));
    (case' doneP => (intro ys news hPP; obtain rfl := hPP.1; clear nF nN; have hPI := filtAt_done hI hPP; (try dsimp only))))
  k_steps
  case turnP.refine_1 => exact LCg.CompEnd.intro (by with_reducible assumption) (by with_reducible assumption) _ (fun p hp => hp) hO (Or.inr ⟨_, List.Mem.tail _ (List.Mem.tail _ (List.Mem.head _)), rfl, _, rfl⟩) (filtAt_more hPP hn (by with_reducible assumption))
  case turnP.refine_2 => exact LCg.CompEnd.intro (by with_reducible assumption) (by with_reducible assumption) _ (fun p hp => hp) hO (Or.inr ⟨_, List.Mem.tail _ (List.Mem.tail _ (List.Mem.head _)), rfl, _, rfl⟩) (filtAt_skip hPP hn (by with_reducible assumption))
  (with_reducible rename Fr _ _ _ _ => nF)
  (with_reducible rename News _ _ _ _ => nN)
  rename Addr => Dt
  have hx : ∃ rest D1 D2 D3 t1 k1 k2, News h₀ L _ ((Dt, ({ cls := .type "tuple", data := .seq #[.ref D2, .ref D1] } : Obj)) :: rest) ∧ (D1, ({ cls := .type "tuple", data := .seq #[.bytes (byteArr mn) t1, .ref lf] k1 } : Obj)) ∈ rest ∧
      (D2, ({ cls := .type "tuple", data := .seq #[.bytes (byteArr (fs.map (sg [45, 95]))) t2, .ref D3] k2 } : Obj)) ∈ rest ∧ (D3, listOf ys.toArray ys.length) ∈ rest ∧ (lf, listOf lv.toArray lk) ∈ rest ∧
      (∀ p ∈ (lf, listOf lv.toArray lk) :: (mx, listOf mv.toArray mk) :: (l, listOf fvs.toArray fk) :: tl, p ∈ rest) ∧ ∀ p ∈ rest, p.1 ≠ Dt :=
    ⟨_, _, _, _, _, _, _, nN, List.Mem.head _, List.Mem.tail _ (List.Mem.head _), List.Mem.tail _ (List.Mem.tail _ (List.Mem.head _)), List.Mem.tail _ (List.Mem.tail _ (List.Mem.tail _ (List.Mem.head _))),
      fun p hp => List.mem_cons_of_mem _ (List.mem_cons_of_mem _ (List.mem_cons_of_mem _ hp)), allLt_ne ⟨by assumption, by assumption, by assumption, by assumption, by assumption, by assumption, by assumption⟩⟩
  clear nN
  obtain ⟨rest, D1, D2, D3, t1, k1, k2, nN, r1, r2, r3, r4, r5, r6⟩ := hx
  refine wpC_of (forTC (fun _ m => ∀ y, y ≠ Str.ofString "given" → y ≠ Str.ofString "kept" → y ≠ Str.ofString "text" → m y = if y = Str.ofString "told" then tdv else if y = Str.ofString "place" then plv else if y = Str.ofString "turn" then tnv else if y = Str.ofString "left" then some (.ref lf) else if y = Str.ofString "mixed" then some (.ref mx) else
      if y = Str.ofString "other" then some (.bytes (byteArr (fs.map (sg [45, 95]))) t2) else if y = Str.ofString "plain" then pv else if y = Str.ofString "figures" then some (.ref l) else u y) rfl nF nN r6 (fun _ _ _ _ _ hi hq => letOwned_tuple hi hq) ?hi ?turn ?done)
  case hi => exact fun y h1 h2 h3 => rfl
  case turn =>
    intro i v m h tk own hv hI9 hF hN
    clear nF nN
    have hm := frame3 hI9
    rw [hm] at hF
    rcases two_refs hv with rfl | rfl
    · have hN2 : News h₀ L h ((D2, ({ cls := .type "tuple", data := .seq #[.bytes (byteArr (fs.map (sg [45, 95]))) t2, .ref D3] k2 } : Obj)) :: (D3, listOf ys.toArray ys.length) :: (own ++ rest)) := by
        intro p hp
        rcases List.mem_cons.mp hp with rfl | hp
        · exact hN _ (List.mem_append_right own r2)
        rcases List.mem_cons.mp hp with rfl | hp
        · exact hN _ (List.mem_append_right own r3)
        · exact hN _ hp
      have key := lb9o (s := { s with heap := h, toks := tk }) (L := L) (fa := fa) (cd := cd) K0 KX T (sgn45 hB) (by rw [List.length_map]; omega) (by rw [figs_other hB]; exact hPI) hF hN2
      exact wpAny_mono key (fun _ s₂ h₂ => wpC_mono h₂ (fun f s₃ h₃ => Back.step h₃ (fun p hp => List.mem_cons_of_mem _ (List.mem_cons_of_mem _ hp)) (fun m' h' => ⟨rfl, h'⟩)) fun _ _ e => e) fun _ _ e => e
    · have hN2 : News h₀ L h ((D1, ({ cls := .type "tuple", data := .seq #[.bytes (byteArr mn) t1, .ref lf] k1 } : Obj)) :: (lf, listOf lv.toArray lk) :: (own ++ rest)) := by
        intro p hp
        rcases List.mem_cons.mp hp with rfl | hp
        · exact hN _ (List.mem_append_right own r1)
        rcases List.mem_cons.mp hp with rfl | hp
        · exact hN _ (List.mem_append_right own r4)
        · exact hN _ hp
      have key := lb9o (s := { s with heap := h, toks := tk }) (L := L) (fa := fa) (cd := cd) K0 KX T hP.fr (Nat.le_trans hP.ml hkn) (by rw [hP.fg]; exact hL) hF hN2
      exact wpAny_mono key (fun _ s₂ h₂ => wpC_mono h₂ (fun f s₃ h₃ => Back.step h₃ (fun p hp => List.mem_cons_of_mem _ (List.mem_cons_of_mem _ hp)) (fun m' h' => ⟨rfl, h'⟩)) fun _ _ e => e) fun _ _ e => e
  case done =>
    intro m h tk hI9 hF hN
    exact next h tk m hI9 hF (News.sub hN r5)
end
section
theorem fill_LB10_123 : True := by
  w_top off
  k_with_none
  k_with "M enter" => (refine' code_defM (by (k_asm)) (by (k_asm)) (by (k_asm)) (by (k_asm)) (by (exact rfl)) (by (exact rfl)) (by (assumption)) (by (k_is)) (by (k_is)) (by (ktr_room)) (by (first | exact BindsTo.of_eq rfl | exact binds_K (by k_in) rfl (by k_is) rfl rfl rfl)) (by (exact locs rfl)) ?_ (by (exact rfl)) (by (exact rfl)) (by (exact rfl)) (by (decide)); k_whole; intro L' h' F' N' B' X' T'; (try dsimp only); (try k_fold))
  k_with "M enter2" => ((case kA => exact rfl); (case kF => exact rfl); (case kK => assumption); (case k1 => k_asm); (case k2 => k_asm); (case k3 => k_asm); (case k5 => k_asm); (case k6 => k_is); (case k7 => k_is); (case k8 => ktr_room); (case k9 => first | exact BindsTo.of_eq rfl | exact binds_K (by k_in) rfl (by k_is) rfl rfl rfl); (case c5 => decide); (case kB => exact locs rfl); (case c2 => exact rfl); (case c3 => exact rfl); (case c4 => exact rfl); k_whole; intro L' h' F' N' B' X' T'; (try dsimp only); (try k_fold))
  k_with "call type:type" => (k_here; (with_reducible show wpAny _ _ (call (Value.type "type") [Value.bytes _ _]) _ _ _); refine call_type_of (PySem.W.typeIs_bytes _ _ _) (by decide +kernel) ?_)
  k_with "M ba" => (first | exact Fr.keep (by assumption) _ _ (by assumption) | assumption)
  k_with "call type:type" => (k_here; (with_reducible show wpAny _ _ (call (Value.type "type") [Value.ref _]) _ _ _); k_dflt (refine' kto_cont (T := "bytearray") (by ((refine' kitAt_ba (by (walk_at "M ba"))))) (by (decide +kernel)) ?_; k_whole))
  k_with "call builtin:isinstance" => (k_here; (with_reducible show wpAny _ _ (call _ [Value.ref _, Value.ref _]) _ _ _); kit_ncls; k_dflt (refine' kia_tup kitx_ba (by (k_in)) (by ((refine' kitAt_ba (by (walk_at "M ba"))))) (by (kit_tp)) (by (kit_is)) (by (kit_nb)) ?_; k_whole; intro _))
  k_with "call builtin:isinstance" => (k_here; (with_reducible show wpAny _ _ (call _ [Value.ref _, Value.type _]) _ _ _); k_dflt (refine' kia_one kitx_ba (by (k_in)) (by ((refine' kitAt_ba (by (walk_at "M ba"))))) (by (kit_is)) (by (kit_nb)) ?_; k_whole; intro _))
  k_with "call type:bytes" => (k_here; (with_reducible show wpAny _ _ (call (Value.type "bytes") [Value.ref _]) _ _ _); k_dflt (refine' ba_bytes (k := 0) (by (walk_at "M ba")) (by (assumption)) ?_; k_whole; intro _ _))
  k_with "getMethod str" => (k_here; with_reducible refine en_method ?_)
  k_with "call builtin:str.encode" => (k_here; (with_reducible show wpAny _ _ (call (Value.builtin "str.encode") [Value.str _ _, Value.str _ _]) _ _ _); refine' en_call (by (assumption)) (by (assumption)) ?_; intro _ _)
  k_with "getMethod bytes" => (k_here; with_reducible refine tr_method ?_)
  k_with "call builtin:bytes.translate" => (k_here; (with_reducible show wpAny _ _ (call (Value.builtin "bytes.translate") [Value.bytes _ _, Value.bytes _ _]) _ _ _); refine' trM (by (first | rfl | decide +kernel)) (by (decide +kernel)) (by (assumption)) ?_; intro _ _)
  k_with "binaryOp LShift int int" => (k_here; (with_reducible refine shlM (by (decide)) (by (decide)) (by (omega)) ?_))
  k_with "binaryOp RShift int int" => (k_here; (with_reducible refine shrM (by (first | decide | omega)) ?_))
  k_with "call builtin:list.append" => (k_here; (with_reducible show wpAny _ _ (call (Value.builtin _) [Value.ref _, Value.int _ _]) _ _ _); k_dflt (refine' append_K (by (k_asm)) (by (k_asm)) (by (k_upd)) ?_ (by ((simp only [List.size_toArray, List.length_append, List.length_cons, List.length_nil, sizeLine_eq]; omega))); k_whole); intro h' F' N'; (try simp only [List.push_toArray] at N'); (try k_sweep))
  k_with "call builtin:len" => (k_here; (with_reducible show wpAny _ _ (call (Value.builtin "len") [Value.ref _]) _ _ _); k_dflt (refine' lenM (News.isList (by (k_asm)) (by (k_mem))) (by (with_reducible assumption)) (by (omega)) ?_; k_whole))
  k_with "call type:bytes" => (k_here; (with_reducible show wpAny _ _ (call (Value.type "bytes") [Value.ref _]) _ _ _); k_dflt (refine' bytesM (by (k_asm)) (by (k_asm)) (News.isList (by (k_asm)) (by (k_mem))) (by (with_reducible assumption)) (by (with_reducible assumption)) (by (omega)) rfl ?_; k_whole); intro h' t' k' F' N'; (try k_sweep))
  k_with "binaryOp BitAnd int int" => (k_here; (with_reducible refine andM ?_))
  k_with "binaryOp BitOr int int" => (k_here; (with_reducible refine orM' ?_))
  k_with "M enterC" => ((case kA => exact rfl); (case kF => exact rfl); (case kK => assumption); (case k1 => k_asm); (case k2 => k_asm); (case k3 => k_asm); (case k5 => k_asm); (case k6 => k_is); (case k7 => k_is); (case k8 => ktr_room); (case k9 => first | exact BindsTo.of_eq rfl | exact binds_K (by k_in) rfl (by k_is) rfl rfl rfl); (case kB => exact rfl); (case kD => decide +kernel); (case c2 => exact rfl); (case c3 => exact rfl); (case c4 => exact rfl); k_whole; intro L' h' tk' cells' F' N' Y' B' X' T'; k_cells Y'; (try simp only [List.cons_append, List.nil_append] at N'); (try dsimp only); (try k_fold))
  k_with "call builtin:len" => (k_here; (with_reducible show wpAny _ _ (call (Value.builtin "len") [Value.ref _]) _ _ _); k_dflt (refine' lenM (stays_list (stays_of (by (k_asm))) (by (with_reducible assumption))) (by (with_reducible assumption)) (by (omega)) ?_; k_whole))
  k_with "eval Name" => (k_here; k_dflt (refine' nameX_L (by (k_asm)) (@rfl _ (some _)) ?_ (by (rfl)) (by (rfl)); k_whole))
  k_with "M back" => (intro r9 h9 tk9 F9 N9 S9 P9; (try dsimp only at P9); (first | (obtain ⟨t9, e9⟩ := P9; subst e9) | subst P9); clear S9; (try dsimp only); (try k_sweep))
  k_with "M call" => ((case k1 => k_asm); (case k2 => k_asm); (case k3 => k_asm); (case k4 => k_asm); (case k5 => k_asm); (case kK => first | exact rfl | assumption); (case kd => ktr_room); (case ku => ktr_units))
  k_with "call ref" => (k_here; (with_reducible show wpAny _ _ (call (Value.ref 70) [Value.int _ _]) _ _ _); k_dflt (refine' Ct.use (b64_value_ok _ _ _ _ _ _) (by (k_asm)) (by (k_asm)) (by (k_asm)) (by (k_asm)) (by (k_asm)) (by (first | exact rfl | assumption)) (by (ktr_room)) (by (ktr_units)) trivial ?_; walk_at "M back"))
  k_with "call ref" => (k_here; (with_reducible show wpAny _ _ (call (Value.ref 63) [Value.bool _]) _ _ _); k_dflt (refine' Ct.use (truth_ok _ _ _ _) (by (k_asm)) (by (k_asm)) (by (k_asm)) (by (k_asm)) (by (k_asm)) (by (first | exact rfl | assumption)) (by (ktr_room)) (by (ktr_units)) trivial ?_; walk_at "M back"))
  k_with "call ref" => (k_here; (with_reducible show wpAny _ _ (call (Value.ref 56) [Value.bytes _ _]) _ _ _); k_dflt (refine' Ct.use (buffer_ok _ _ _ _ _ _) (by (k_asm)) (by (k_asm)) (by (k_asm)) (by (k_asm)) (by (k_asm)) (by (first | exact rfl | assumption)) (by (ktr_room)) (by (ktr_units)) trivial ?_; walk_at "M back"))
  k_with "call ref" => (k_here; (with_reducible show wpAny _ _ (call (Value.ref 49) [Value.bytes _ _]) _ _ _); k_dflt (refine' Ct.use (ascii_buffer_ok _ _ _ _ _ _) (by (k_asm)) (by (k_asm)) (by (k_asm)) (by (k_asm)) (by (k_asm)) (by (first | exact rfl | assumption)) (by (ktr_room)) (by (ktr_units)) trivial ?_; walk_at "M back"))
  k_with "call ref" => (k_here; (with_reducible show wpAny _ _ (call (Value.ref 49) [Value.ref _]) _ _ _); k_dflt (refine' Ct.use (ascii_buffer_ba _ _ _ _ _ _ (by (assumption))) (by (k_asm)) (by (k_asm)) (by (k_asm)) (by (k_asm)) (by (k_asm)) (by (first | exact rfl | assumption)) (by (ktr_room)) (by (ktr_units)) (by (walk_at "M ba")) ?_; walk_at "M back"))
  k_with "call ref" => (k_here; (with_reducible show wpAny _ _ (call (Value.ref 29) [Value.bytes _ _]) _ _ _); k_dflt (refine' Ct.use (from_bytes_ok _ _ _ _ _ _) (by (k_asm)) (by (k_asm)) (by (k_asm)) (by (k_asm)) (by (k_asm)) (by (first | exact rfl | assumption)) (by (ktr_room)) (by (ktr_units)) trivial ?_; walk_at "M back"))
  k_with "call ref" => (k_here; (with_reducible show wpAny _ _ (call (Value.ref 29) [Value.ref _]) _ _ _); k_dflt (refine' Ct.use (from_ba _ _ _ _ _ _) (by (k_asm)) (by (k_asm)) (by (k_asm)) (by (k_asm)) (by (k_asm)) (by (first | exact rfl | assumption)) (by (ktr_room)) (by (ktr_units)) (by (walk_at "M ba")) ?_; walk_at "M back"))
  k_with "call ref" => (k_here; (with_reducible show wpAny _ _ (call (Value.ref 29) [Value.str _ _]) _ _ _); k_dflt (refine' Ct.use (from_str _ _ _ _ _ _ (by (assumption)) (by (assumption))) (by (k_asm)) (by (k_asm)) (by (k_asm)) (by (k_asm)) (by (k_asm)) (by (first | exact rfl | assumption)) (by (ktr_room)) (by (ktr_units)) trivial ?_; walk_at "M back"))
  k_with "L open" => (unfold lawA lawEnv; generalize hS9 : lawParts.2 = sc9; conv at hS9 => { lhs; whnf }; subst hS9)
  k_with "call type:bytes" => (k_here; (with_reducible show wpAny _ _ (call (Value.type "bytes") [Value.ref _]) _ _ _); k_dflt (refine' bytesM (by (k_asm)) (by (k_asm)) (News.isList (by (k_asm)) (by (k_mem))) (by (with_reducible assumption)) (by (with_reducible assumption)) (by (omega)) rfl ?_; k_whole); intro h' t' k' F' N'; (try k_sweep))
  k_with "call ref" => (k_here; (with_reducible show wpAny _ _ (call (Value.ref 128) [Value.ref _]) _ _ _); k_dflt (refine' figs_use (by (with_reducible assumption)) (by (with_reducible assumption)) (by (omega)) (by (omega)) (by (k_asm)) (by (k_asm)) (by (k_asm)) (by (k_asm)) (by (k_asm)) (by (first | exact rfl | assumption)) (by (ktr_room)) (by (ktr_units)) (News.isList (by (k_asm)) (by (k_mem))) ?_); intro l9 w9 k9 h9 tk9 F9 N9 hI9; (try k_sweep))
  k_with "L sub" => (intro p hp; (repeat (first | exact hp | (rcases List.mem_cons.mp hp with rfl | hp; k_mem) | refine List.mem_cons_of_mem _ ?_)))
  k_with "call ref" => (k_here; (with_reducible show wpAny _ _ (call (Value.ref 123) [Value.bytes _ _]) _ _ _); k_dflt (refine' udec_use (by (with_reducible assumption)) (by (with_reducible assumption)) (by (with_reducible assumption)) (by (with_reducible assumption)) (by (with_reducible assumption)) (by (k_asm)) (by (k_asm)) (by (k_asm)) (by (k_asm)) (by (k_asm)) (by (first | exact rfl | assumption)) (by (ktr_room)) (by (ktr_units)) ?_); intro t9 h9 tk9 F9 N9; (try k_sweep))
  trivial
theorem lb10 {w : World} {mean : ExcName → Option Value} {mg mb : Str → Option Value} {h₀ : Heap} {L fa : Addr} {cd : Value} {s : Shared} {Q : Flow → Shared → Prop} {u : Str → Option Value} {pbs : List Int} {news : List (Addr × Obj)} {t1 t2 t3 : Tok} {gvv ktv txv tdv plv tnv lfv mxv fgv : Option Value}
    (K0 : Below callerA h₀ [] h₀) (KX : (hd.heap_39 w.params).In h₀) (T : TopM mean mg mb h₀) (hB : InB pbs) (hlen : pbs.length ≤ 195) (h3 : pbs.length % 3 = 0)
    (F : Fr h₀ L s.heap (fun y => if y = Str.ofString "given" then gvv else if y = Str.ofString "kept" then ktv else if y = Str.ofString "text" then txv else if y = Str.ofString "told" then tdv else if y = Str.ofString "place" then plv else if y = Str.ofString "turn" then tnv else if y = Str.ofString "left" then lfv else if y = Str.ofString "mixed" then mxv else
      if y = Str.ofString "other" then some (.bytes (byteArr ((enc pbs).map (sg [45, 95]))) t2) else if y = Str.ofString "plain" then some (.bytes (byteArr ((enc pbs).map (sg [43, 47]))) t1) else if y = Str.ofString "figures" then fgv
      else if y = Str.ofString "data" then some (.bytes (byteArr pbs) t3) else u y))
    (N : News h₀ L s.heap news)
    (next : ∀ h' tk m', (∀ y, y ≠ Str.ofString "given" → y ≠ Str.ofString "kept" → y ≠ Str.ofString "text" → y ≠ Str.ofString "told" → y ≠ Str.ofString "place" → y ≠ Str.ofString "turn" → y ≠ Str.ofString "left" → y ≠ Str.ofString "mixed" → y ≠ Str.ofString "other" → y ≠ Str.ofString "plain" → y ≠ Str.ofString "figures" → y ≠ Str.ofString "data" → m' y = u y) → Fr h₀ L h' m' → News h₀ L h' news → Q .next { s with heap := h', toks := tk }) :
    wpC (lawM w) (lawA L fa cd) (execs (bodyFrom 10) (lawEnv L fa cd)) Q NoE s := by
  have hE := enc_in64 pbs hB
  have hEl := enc_length pbs h3
  generalize hB9 : bodyFrom 10 = bd
  conv at hB9 => { lhs; whnf }
  subst hB9
  refine wpC_step ?_
  dsimp only [TopM, lawM] at T ⊢
  walk_at "L open"
  k_with "pyIter ref" => (
    (with_reducible rename Fr _ _ _ _ => nF); (with_reducible rename News _ _ _ _ => nN); (with_reducible rename ∀ p : Addr × Obj, p ∈ _ → p.1 < _ => l1);
    (refine' loopT (fun (c : Option Value) y => if y = Str.ofString "given" then gvv else if y = Str.ofString "kept" then ktv else if y = Str.ofString "told" then c else if y = Str.ofString "place" then plv else if y = Str.ofString "turn" then tnv else if y = Str.ofString "left" then lfv else if y = Str.ofString "mixed" then mxv else
      if y = Str.ofString "other" then some (.bytes (byteArr ((enc pbs).map (sg [45, 95]))) t2) else if y = Str.ofString "plain" then some (.bytes (byteArr ((enc pbs).map (sg [43, 47]))) t1) else if y = Str.ofString "figures" then fgv
      else if y = Str.ofString "data" then some (.bytes (byteArr pbs) t3) else u y) (fun _ _ => True) tdv rfl nF nN ?off ?hm trivial ?turn ?done);
    (case off => exact fun p hp => Nat.ne_of_lt (l1 p hp));
    (case hm => (intro y hy; simp only [hy, if_false]));
    (case' turn => (intro i v c h tk own hv _ hOff hF hN; clear nF nN; obtain ⟨ns, t, rfl, hns, hnl⟩ := text_url hB h3 hlen hv; (try dsimp only)));
    (case' done => (intro c u9 h tk _ hF hN; clear nF nN; (try dsimp only))))
  with_unfolding_all refine' For_invVF F rfl rfl ?_
  k_steps
  refine wpC_execs_nil ?_
  case done => exact next _ _ _ (fun y h1 h2 h3 h4 h5 h6 h7 h8 h9 h10 h11 h12 => by (repeat (refine (if_neg (by with_reducible assumption)).trans ?_)); (repeat (refine Eq.trans ?_ (if_neg (by with_reducible assumption)).symm)); rfl) hF hN
  all_goals first
    | exact (bne_no (by with_reducible assumption)).elim
    | skip
  refine' turn_end _ (by assumption) (by assumption) ?hm (fun p hp => List.mem_append_left _ hp) (fun p hp => List.mem_append_right _ hp) rfl trivial
  (case hm =>
    intro y hy
    by_cases n1 : y = Str.ofString "told"
    · subst n1; rfl
    simp only [n1, hy, if_false])
end
section
/-- one turn of the law's own loop -/
theorem lbt {w : World} {mean : ExcName → Option Value} {mg mb : Str → Option Value} {h₀ : Heap} {L fa : Addr} {cd : Value} {s : Shared} {u : Str → Option Value} {pbs ts : List Int} {pvs tvs ws : List Value} {pa T0 Sg : Addr} {pk tk0 wk : Nat} {oSg : Obj} {tl : List (Addr × Obj)}
    (K0 : Below callerA h₀ [] h₀) (KX : (hd.heap_39 w.params).In h₀) (T : TopM mean mg mb h₀) (hI : IntsAre pvs pbs) (hB : InB pbs) (hlen : pbs.length ≤ 195) (h3 : pbs.length % 3 = 0)
    (hT : IntsAre tvs ts) (hT1 : 3 ≤ ts.length) (hT2 : ts.length ≤ 66) (hS : IntsAre ws (rangeKs 65 26 ++ rangeKs 97 26 ++ rangeKs 48 10)) (dS : oSg.data = .cell (some (.ref Sg)))
    (F : Fr h₀ L s.heap (fun y => if y = Str.ofString "piece" then some (.ref pa) else if y = Str.ofString "turns" then some (.ref T0) else u y))
    (N : News h₀ L s.heap ((pa, listOf pvs.toArray pk) :: (Sg, listOf ws.toArray wk) :: (L + 1, oSg) :: (T0, listOf tvs.toArray tk0) :: tl)) :
    wpC (lawM w) (lawA L fa cd) (execs (bodyFrom 0) (lawEnv L fa cd)) (Back h₀ L s (fun m' => m' (Str.ofString "turns") = some (.ref T0)) ((pa, listOf pvs.toArray pk) :: (Sg, listOf ws.toArray wk) :: (L + 1, oSg) :: (T0, listOf tvs.toArray tk0) :: tl)) NoE s := by
  have hE := enc_in64 pbs hB
  have hEl : (enc pbs).length ≤ 260 := by rw [enc_length pbs h3]; omega
  refine lb1 K0 KX T hI hB hlen h3 F N ?_
  intro h1 tk1 t3 l fvs fk F1 N1 hF1
  rw [figT_enc pbs hB h3] at hF1
  refine lb2 K0 KX T hF1 hE hEl hS dS F1 N1 ?_
  intro h2 tk2 t1 F2 N2
  refine lb3 K0 KX T hF1 hE hEl hS dS F2 N2 ?_
  intro h4 tk4 t2 F4 N4
  have N5 : News h₀ L h4 ((l, listOf fvs.toArray fk) :: (pa, listOf pvs.toArray pk) :: (T0, listOf tvs.toArray tk0) :: (Sg, listOf ws.toArray wk) :: (L + 1, oSg) :: tl) := News.sub N4 fun p hp => by
    simp only [List.mem_cons] at hp ⊢
    rcases hp with h | h | h | h | h | h <;> simp [h]
  refine lb5 K0 KX T hF1 hE hEl hT hT1 hT2 F4 N5 ?_
  intro h5 tk5 plv tnv lf mx lv ln lk mv mn mk F5 N6 hP hM hL
  refine lb7 K0 KX T hB hlen h3 F5 N6 ?_
  intro h7 tk7 tdv F7 N7
  refine lb9 K0 KX T hF1 hE hEl hP (by omega) hM hL F7 N7 ?_
  intro h9 tk9 m9 hm9 F9 N9
  rw [frame3 hm9] at F9
  refine lb10 K0 KX T hB hlen h3 F9 N9 ?_
  intro h10 tk10 m10 hm10 F10 N10
  refine Back.mk F10 (News.sub N10 fun p hp => ?_) ?_
  · simp only [List.mem_cons] at hp ⊢
    rcases hp with h | h | h | h | h <;> simp [h]
  · rw [hm10 _ (by decide) (by decide) (by decide) (by decide) (by decide) (by decide) (by decide) (by decide) (by decide) (by decide) (by decide) (by decide)]
    rfl
end
section
theorem fill_LBu_128 : True := by
  w_top off
  k_with_none
  k_with "M enter" => (refine' code_defM (by (k_asm)) (by (k_asm)) (by (k_asm)) (by (k_asm)) (by (exact rfl)) (by (exact rfl)) (by (assumption)) (by (k_is)) (by (k_is)) (by (ktr_room)) (by (first | exact BindsTo.of_eq rfl | exact binds_K (by k_in) rfl (by k_is) rfl rfl rfl)) (by (exact locs rfl)) ?_ (by (exact rfl)) (by (exact rfl)) (by (exact rfl)) (by (decide)); k_whole; intro L' h' F' N' B' X' T'; (try dsimp only); (try k_fold))
  k_with "M enter2" => ((case kA => exact rfl); (case kF => exact rfl); (case kK => assumption); (case k1 => k_asm); (case k2 => k_asm); (case k3 => k_asm); (case k5 => k_asm); (case k6 => k_is); (case k7 => k_is); (case k8 => ktr_room); (case k9 => first | exact BindsTo.of_eq rfl | exact binds_K (by k_in) rfl (by k_is) rfl rfl rfl); (case c5 => decide); (case kB => exact locs rfl); (case c2 => exact rfl); (case c3 => exact rfl); (case c4 => exact rfl); k_whole; intro L' h' F' N' B' X' T'; (try dsimp only); (try k_fold))
  k_with "call type:type" => (k_here; (with_reducible show wpAny _ _ (call (Value.type "type") [Value.bytes _ _]) _ _ _); refine call_type_of (PySem.W.typeIs_bytes _ _ _) (by decide +kernel) ?_)
  k_with "M ba" => (first | exact Fr.keep (by assumption) _ _ (by assumption) | assumption)
  k_with "call type:type" => (k_here; (with_reducible show wpAny _ _ (call (Value.type "type") [Value.ref _]) _ _ _); k_dflt (refine' kto_cont (T := "bytearray") (by ((refine' kitAt_ba (by (walk_at "M ba"))))) (by (decide +kernel)) ?_; k_whole))
  k_with "call builtin:isinstance" => (k_here; (with_reducible show wpAny _ _ (call _ [Value.ref _, Value.ref _]) _ _ _); kit_ncls; k_dflt (refine' kia_tup kitx_ba (by (k_in)) (by ((refine' kitAt_ba (by (walk_at "M ba"))))) (by (kit_tp)) (by (kit_is)) (by (kit_nb)) ?_; k_whole; intro _))
  k_with "call builtin:isinstance" => (k_here; (with_reducible show wpAny _ _ (call _ [Value.ref _, Value.type _]) _ _ _); k_dflt (refine' kia_one kitx_ba (by (k_in)) (by ((refine' kitAt_ba (by (walk_at "M ba"))))) (by (kit_is)) (by (kit_nb)) ?_; k_whole; intro _))
  k_with "call type:bytes" => (k_here; (with_reducible show wpAny _ _ (call (Value.type "bytes") [Value.ref _]) _ _ _); k_dflt (refine' ba_bytes (k := 0) (by (walk_at "M ba")) (by (assumption)) ?_; k_whole; intro _ _))
  k_with "getMethod str" => (k_here; with_reducible refine en_method ?_)
  k_with "call builtin:str.encode" => (k_here; (with_reducible show wpAny _ _ (call (Value.builtin "str.encode") [Value.str _ _, Value.str _ _]) _ _ _); refine' en_call (by (assumption)) (by (assumption)) ?_; intro _ _)
  k_with "getMethod bytes" => (k_here; with_reducible refine tr_method ?_)
  k_with "call builtin:bytes.translate" => (k_here; (with_reducible show wpAny _ _ (call (Value.builtin "bytes.translate") [Value.bytes _ _, Value.bytes _ _]) _ _ _); refine' trM (by (first | rfl | decide +kernel)) (by (decide +kernel)) (by (assumption)) ?_; intro _ _)
  k_with "binaryOp LShift int int" => (k_here; (with_reducible refine shlM (by (decide)) (by (decide)) (by (omega)) ?_))
  k_with "binaryOp RShift int int" => (k_here; (with_reducible refine shrM (by (first | decide | omega)) ?_))
  k_with "call builtin:list.append" => (k_here; (with_reducible show wpAny _ _ (call (Value.builtin _) [Value.ref _, Value.int _ _]) _ _ _); k_dflt (refine' append_K (by (k_asm)) (by (k_asm)) (by (k_upd)) ?_ (by ((simp only [List.size_toArray, List.length_append, List.length_cons, List.length_nil, sizeLine_eq]; omega))); k_whole); intro h' F' N'; (try simp only [List.push_toArray] at N'); (try k_sweep))
  k_with "call builtin:len" => (k_here; (with_reducible show wpAny _ _ (call (Value.builtin "len") [Value.ref _]) _ _ _); k_dflt (refine' lenM (News.isList (by (k_asm)) (by (k_mem))) (by (with_reducible assumption)) (by (omega)) ?_; k_whole))
  k_with "call type:bytes" => (k_here; (with_reducible show wpAny _ _ (call (Value.type "bytes") [Value.ref _]) _ _ _); k_dflt (refine' bytesM (by (k_asm)) (by (k_asm)) (News.isList (by (k_asm)) (by (k_mem))) (by (with_reducible assumption)) (by (with_reducible assumption)) (by (omega)) rfl ?_; k_whole); intro h' t' k' F' N'; (try k_sweep))
  k_with "binaryOp BitAnd int int" => (k_here; (with_reducible refine andM ?_))
  k_with "binaryOp BitOr int int" => (k_here; (with_reducible refine orM' ?_))
  k_with "M enterC" => ((case kA => exact rfl); (case kF => exact rfl); (case kK => assumption); (case k1 => k_asm); (case k2 => k_asm); (case k3 => k_asm); (case k5 => k_asm); (case k6 => k_is); (case k7 => k_is); (case k8 => ktr_room); (case k9 => first | exact BindsTo.of_eq rfl | exact binds_K (by k_in) rfl (by k_is) rfl rfl rfl); (case kB => exact rfl); (case kD => decide +kernel); (case c2 => exact rfl); (case c3 => exact rfl); (case c4 => exact rfl); k_whole; intro L' h' tk' cells' F' N' Y' B' X' T'; k_cells Y'; (try simp only [List.cons_append, List.nil_append] at N'); (try dsimp only); (try k_fold))
  k_with "call builtin:len" => (k_here; (with_reducible show wpAny _ _ (call (Value.builtin "len") [Value.ref _]) _ _ _); k_dflt (refine' lenM (stays_list (stays_of (by (k_asm))) (by (with_reducible assumption))) (by (with_reducible assumption)) (by (omega)) ?_; k_whole))
  k_with "eval Name" => (k_here; k_dflt (refine' nameX_L (by (k_asm)) (@rfl _ (some _)) ?_ (by (rfl)) (by (rfl)); k_whole))
  k_with "M back" => (intro r9 h9 tk9 F9 N9 S9 P9; (try dsimp only at P9); (first | (obtain ⟨t9, e9⟩ := P9; subst e9) | subst P9); clear S9; (try dsimp only); (try k_sweep))
  k_with "M call" => ((case k1 => k_asm); (case k2 => k_asm); (case k3 => k_asm); (case k4 => k_asm); (case k5 => k_asm); (case kK => first | exact rfl | assumption); (case kd => ktr_room); (case ku => ktr_units))
  k_with "call ref" => (k_here; (with_reducible show wpAny _ _ (call (Value.ref 70) [Value.int _ _]) _ _ _); k_dflt (refine' Ct.use (b64_value_ok _ _ _ _ _ _) (by (k_asm)) (by (k_asm)) (by (k_asm)) (by (k_asm)) (by (k_asm)) (by (first | exact rfl | assumption)) (by (ktr_room)) (by (ktr_units)) trivial ?_; walk_at "M back"))
  k_with "call ref" => (k_here; (with_reducible show wpAny _ _ (call (Value.ref 63) [Value.bool _]) _ _ _); k_dflt (refine' Ct.use (truth_ok _ _ _ _) (by (k_asm)) (by (k_asm)) (by (k_asm)) (by (k_asm)) (by (k_asm)) (by (first | exact rfl | assumption)) (by (ktr_room)) (by (ktr_units)) trivial ?_; walk_at "M back"))
  k_with "call ref" => (k_here; (with_reducible show wpAny _ _ (call (Value.ref 56) [Value.bytes _ _]) _ _ _); k_dflt (refine' Ct.use (buffer_ok _ _ _ _ _ _) (by (k_asm)) (by (k_asm)) (by (k_asm)) (by (k_asm)) (by (k_asm)) (by (first | exact rfl | assumption)) (by (ktr_room)) (by (ktr_units)) trivial ?_; walk_at "M back"))
  k_with "call ref" => (k_here; (with_reducible show wpAny _ _ (call (Value.ref 49) [Value.bytes _ _]) _ _ _); k_dflt (refine' Ct.use (ascii_buffer_ok _ _ _ _ _ _) (by (k_asm)) (by (k_asm)) (by (k_asm)) (by (k_asm)) (by (k_asm)) (by (first | exact rfl | assumption)) (by (ktr_room)) (by (ktr_units)) trivial ?_; walk_at "M back"))
  k_with "call ref" => (k_here; (with_reducible show wpAny _ _ (call (Value.ref 49) [Value.ref _]) _ _ _); k_dflt (refine' Ct.use (ascii_buffer_ba _ _ _ _ _ _ (by (assumption))) (by (k_asm)) (by (k_asm)) (by (k_asm)) (by (k_asm)) (by (k_asm)) (by (first | exact rfl | assumption)) (by (ktr_room)) (by (ktr_units)) (by (walk_at "M ba")) ?_; walk_at "M back"))
  k_with "call ref" => (k_here; (with_reducible show wpAny _ _ (call (Value.ref 29) [Value.bytes _ _]) _ _ _); k_dflt (refine' Ct.use (from_bytes_ok _ _ _ _ _ _) (by (k_asm)) (by (k_asm)) (by (k_asm)) (by (k_asm)) (by (k_asm)) (by (first | exact rfl | assumption)) (by (ktr_room)) (by (ktr_units)) trivial ?_; walk_at "M back"))
  k_with "call ref" => (k_here; (with_reducible show wpAny _ _ (call (Value.ref 29) [Value.ref _]) _ _ _); k_dflt (refine' Ct.use (from_ba _ _ _ _ _ _) (by (k_asm)) (by (k_asm)) (by (k_asm)) (by (k_asm)) (by (k_asm)) (by (first | exact rfl | assumption)) (by (ktr_room)) (by (ktr_units)) (by (walk_at "M ba")) ?_; walk_at "M back"))
  k_with "call ref" => (k_here; (with_reducible show wpAny _ _ (call (Value.ref 29) [Value.str _ _]) _ _ _); k_dflt (refine' Ct.use (from_str _ _ _ _ _ _ (by (assumption)) (by (assumption))) (by (k_asm)) (by (k_asm)) (by (k_asm)) (by (k_asm)) (by (k_asm)) (by (first | exact rfl | assumption)) (by (ktr_room)) (by (ktr_units)) trivial ?_; walk_at "M back"))
  k_with "L open" => (unfold lawA lawEnv; generalize hS9 : lawParts.2 = sc9; conv at hS9 => { lhs; whnf }; subst hS9)
  k_with "call type:bytes" => (k_here; (with_reducible show wpAny _ _ (call (Value.type "bytes") [Value.ref _]) _ _ _); k_dflt (refine' bytesM (by (k_asm)) (by (k_asm)) (News.isList (by (k_asm)) (by (k_mem))) (by (with_reducible assumption)) (by (with_reducible assumption)) (by (omega)) rfl ?_; k_whole); intro h' t' k' F' N'; (try k_sweep))
  k_with "call ref" => (k_here; (with_reducible show wpAny _ _ (call (Value.ref 128) [Value.ref _]) _ _ _); k_dflt (refine' figs_use (by (with_reducible assumption)) (by (with_reducible assumption)) (by (omega)) (by (omega)) (by (k_asm)) (by (k_asm)) (by (k_asm)) (by (k_asm)) (by (k_asm)) (by (first | exact rfl | assumption)) (by (ktr_room)) (by (ktr_units)) (News.isList (by (k_asm)) (by (k_mem))) ?_); intro l9 w9 k9 h9 tk9 F9 N9 hI9; (try k_sweep))
  k_with "L sub" => (intro p hp; (repeat (first | exact hp | (rcases List.mem_cons.mp hp with rfl | hp; k_mem) | refine List.mem_cons_of_mem _ ?_)))
  trivial
theorem frame1 {m : Str → Option Value} {v : Value} (h : m (Str.ofString "turns") = some v) : m = fun y => if y = Str.ofString "turns" then some v else m y := by
  funext y
  by_cases hy : y = Str.ofString "turns"
  · rw [if_pos hy, hy, h]
  · rw [if_neg hy]
section
variable {prog : Program} {w : World} {A : Around} {E : Value → Shared → Prop} {s : Shared} {env : Env} {h₀ : Heap} {target : Expr} {body : List Stmt} {Q : Flow → Shared → Prop}
/-- a loop over a made list on the clean stacks: the list stays as it is -/
theorem forLC {ax : Addr} {its : Array Value} {m₀ : Str → Option Value} {rest : List (Addr × Obj)} {k₀ : Nat} {x : Str} {px : Pos} (Inv : Nat → (Str → Option Value) → Prop)
    (hh : A.handled = none) (F : Fr h₀ env.locals s.heap m₀) (N : News h₀ env.locals s.heap ((ax, ({ cls := .type "list", data := .seq its k₀ } : Obj)) :: rest)) (hoff : ∀ p ∈ rest, p.1 ≠ ax) (hi : Inv 0 m₀)
    (turn : ∀ i v m h tk own, its[i]? = some v → Inv i m → Fr h₀ env.locals h m → News h₀ env.locals h (own ++ rest) →
      wpAny (model prog w) A (assign (.Name x px) env v) (fun _ s₂ => wpC (model prog w) A (execs body env) (StepC h₀ env.locals own rest (fun m' nx => nx = rest ∧ Inv (i + 1) m') { s with heap := h, toks := tk } Q) NoE s₂) NoE { s with heap := h, toks := tk })
    (done : ∀ m h tk, Inv its.size m → Fr h₀ env.locals h m → News h₀ env.locals h rest → Q .next { s with heap := h, toks := tk }) :
    wpAny (model prog w) A (pyIter (.ref ax)) (fun it s₂ => codeC (model prog w) A (.forLoop (.Name x px) it body [] env) (fun r s' => match r with | .ok f => Q f s' | .error _ => False) s₂) NoE s := by
  have hax := N _ (List.Mem.head _)
  have ht : s.heap.IsList ax its := ⟨_, hax.1, rfl, _, rfl⟩
  have hlt : ax < s.heap.objs.size := Heap.lt_size hax.1
  refine wpAny_pyIter_list ht ?_
  have up : ∀ b o, s.heap.get? b = some o → (s.heap.push { cls := .type "list_iterator", data := .fields #[.ref ax, .int 0 0] }).get? b = some o := fun b o e => Heap.get?_push_of_some _ e
  have Nr : News h₀ env.locals s.heap rest := fun p hp => N p (List.mem_cons_of_mem _ hp)
  refine codeC_forUnr (P := fun i v => its[i]? = some v) (fp := [s.heap.objs.size, ax]) (wr := [s.heap.objs.size]) (n := its.size) (m := m₀) (nx := rest) (Walks.list hh s.heap.objs.size ax (Nat.ne_of_lt hlt) its) ?_ ?_ ?_ ⟨⟨_, Heap.get?_push_size _ rfl, rfl, rfl⟩, ?_⟩ (F.push _) (fun p hp => ⟨Heap.get?_push_of_some _ (Nr p hp).1, (Nr p hp).2⟩) ?_ ?_
  · intro hm
    rcases List.mem_cons.mp hm with e | hm
    · exact absurd F.ns.lt (e ▸ Nat.lt_irrefl _)
    · exact hax.2.1 (List.mem_singleton.mp hm).symm
  · intro b' hb
    rw [List.mem_singleton.mp hb]
    exact next_is_new F
  · intro p hp hI
    exact absurd (Heap.lt_size (Nr p hp).1) ((List.mem_singleton.mp hI) ▸ Nat.lt_irrefl _)
  · obtain ⟨o, e, r⟩ := ht
    exact ⟨o, up _ _ e, r⟩
  · intro i s' v Q' st hq
    exact letOwned_name hq
  · refine UnrC.inv (n := its.size) (fun i m nx => nx = rest ∧ Inv i m) ?_ ?_ its.size 0 m₀ rest (Nat.zero_add _) ⟨rfl, hi⟩
    · rintro i m nx v h tk own hlt ⟨rfl, hI⟩ hP hown F₁ N₁
      exact turn i v m h tk own hP hI F₁ N₁
    · rintro m nx h tk ⟨rfl, hI⟩ F₁ N₁
      exact done m h tk hI F₁ N₁
end
theorem lbu {w : World} {mean : ExcName → Option Value} {mg mb : Str → Option Value} {h₀ : Heap} {L fa : Addr} {cd : Value} {s : Shared} {Q : Flow → Shared → Prop} {m : Str → Option Value} {ts : List Int} {tvs ws : List Value} {T0 Sg : Addr} {tk0 wk : Nat} {oSg : Obj} {own rest : List (Addr × Obj)} {v : Value}
    (K0 : Below callerA h₀ [] h₀) (KX : (hd.heap_39 w.params).In h₀) (T : TopM mean mg mb h₀) (hv : PieceOk rest v)
    (hT : IntsAre tvs ts) (hT1 : 3 ≤ ts.length) (hT2 : ts.length ≤ 66) (hS : IntsAre ws (rangeKs 65 26 ++ rangeKs 97 26 ++ rangeKs 48 10)) (dS : oSg.data = .cell (some (.ref Sg)))
    (F : Fr h₀ L s.heap m) (hm : m (Str.ofString "turns") = some (.ref T0)) (N : News h₀ L s.heap (own ++ rest)) (m1 : (Sg, listOf ws.toArray wk) ∈ rest) (m2 : (L + 1, oSg) ∈ rest) (m3 : (T0, listOf tvs.toArray tk0) ∈ rest) :
    wpAny (lawM w) (lawA L fa cd) (assign (forOf forStmt).1 (lawEnv L fa cd) v) (fun _ s₂ => wpC (lawM w) (lawA L fa cd) (execs (forOf forStmt).2.2 (lawEnv L fa cd))
      (StepC h₀ L own rest (fun m' nx => nx = rest ∧ m' (Str.ofString "turns") = some (.ref T0)) s Q) NoE s₂) NoE s := by
  obtain ⟨a, pvs, pbs, pk, rfl, m4, hI, hB, hlen, h3⟩ := hv
  have N2 : News h₀ L s.heap ((a, listOf pvs.toArray pk) :: (Sg, listOf ws.toArray wk) :: (L + 1, oSg) :: (T0, listOf tvs.toArray tk0) :: (own ++ rest)) := fun p hp => by
    rcases List.mem_cons.mp hp with rfl | hp
    · exact N _ (List.mem_append_right own m4)
    rcases List.mem_cons.mp hp with rfl | hp
    · exact N _ (List.mem_append_right own m1)
    rcases List.mem_cons.mp hp with rfl | hp
    · exact N _ (List.mem_append_right own m2)
    rcases List.mem_cons.mp hp with rfl | hp
    · exact N _ (List.mem_append_right own m3)
    · exact N _ hp
  clear N m1 m2 m3 m4
  rw [frame1 hm] at F
  have go : ∀ (h' : Heap) tk, Fr h₀ L h' (fun y => if y = Str.ofString "piece" then some (.ref a) else if y = Str.ofString "turns" then some (.ref T0) else m y) →
      News h₀ L h' ((a, listOf pvs.toArray pk) :: (Sg, listOf ws.toArray wk) :: (L + 1, oSg) :: (T0, listOf tvs.toArray tk0) :: (own ++ rest)) →
      wpC (lawM w) (lawA L fa cd) (execs (bodyFrom 0) (lawEnv L fa cd)) (StepC h₀ L own rest (fun m' nx => nx = rest ∧ m' (Str.ofString "turns") = some (.ref T0)) s Q) NoE { s with heap := h', toks := tk } := fun h' tk F' N' =>
    wpC_mono (lbt (s := { s with heap := h', toks := tk }) K0 KX T hI hB hlen h3 hT hT1 hT2 hS dS F' N') (fun f s₃ h₃ =>
      Back.step (s₁ := s) h₃ (fun p hp => List.mem_cons_of_mem _ (List.mem_cons_of_mem _ (List.mem_cons_of_mem _ (List.mem_cons_of_mem _ hp)))) (fun m' h' => ⟨rfl, h'⟩)) fun _ _ e => e
  generalize hB9 : (forOf forStmt).1 = tg
  conv at hB9 => { lhs; whnf }
  subst hB9
  dsimp only [TopM, lawM] at T ⊢
  walk_at "L open"
  k_steps
  exact go _ _ (by with_reducible assumption) (by with_reducible assumption)
end
section
theorem same_tt : same (WData.bool true) (WData.bool true) = true := by decide +kernel
theorem has_tt : WShape.has [] (WData.bool true) .bool = true := by decide +kernel
theorem law_post (ns : List Int) : PySem.Challenge.rw_ko0001_01.row.claim.post [ofPy (PyData.list (List.map PyData.int ns))] (WData.bool true) [ofPy (PyData.list (List.map PyData.int ns))] = true := by
  show (WShape.has [] (WData.bool true) .bool && WTm.holds [] (.eq .res (.lit (.bool true))) { args := _, res := some (WData.bool true), after := _ }) = true
  rw [Bool.and_eq_true]
  refine ⟨has_tt, ?_⟩
  simp only [WTm.holds, WTm.value, same_tt]
end
section
theorem fill_L2_133 : True := by
  w_top off
  k_with_none
  k_with "M enter" => (refine' code_defM (by (k_asm)) (by (k_asm)) (by (k_asm)) (by (k_asm)) (by (exact rfl)) (by (exact rfl)) (by (assumption)) (by (k_is)) (by (k_is)) (by (ktr_room)) (by (first | exact BindsTo.of_eq rfl | exact binds_K (by k_in) rfl (by k_is) rfl rfl rfl)) (by (exact locs rfl)) ?_ (by (exact rfl)) (by (exact rfl)) (by (exact rfl)) (by (decide)); k_whole; intro L' h' F' N' B' X' T'; (try dsimp only); (try k_fold))
  k_with "M enter2" => ((case kA => exact rfl); (case kF => exact rfl); (case kK => assumption); (case k1 => k_asm); (case k2 => k_asm); (case k3 => k_asm); (case k5 => k_asm); (case k6 => k_is); (case k7 => k_is); (case k8 => ktr_room); (case k9 => first | exact BindsTo.of_eq rfl | exact binds_K (by k_in) rfl (by k_is) rfl rfl rfl); (case c5 => decide); (case kB => exact locs rfl); (case c2 => exact rfl); (case c3 => exact rfl); (case c4 => exact rfl); k_whole; intro L' h' F' N' B' X' T'; (try dsimp only); (try k_fold))
  k_with "call type:type" => (k_here; (with_reducible show wpAny _ _ (call (Value.type "type") [Value.bytes _ _]) _ _ _); refine call_type_of (PySem.W.typeIs_bytes _ _ _) (by decide +kernel) ?_)
  k_with "M ba" => (first | exact Fr.keep (by assumption) _ _ (by assumption) | assumption)
  k_with "call type:type" => (k_here; (with_reducible show wpAny _ _ (call (Value.type "type") [Value.ref _]) _ _ _); k_dflt (refine' kto_cont (T := "bytearray") (by ((refine' kitAt_ba (by (walk_at "M ba"))))) (by (decide +kernel)) ?_; k_whole))
  k_with "call builtin:isinstance" => (k_here; (with_reducible show wpAny _ _ (call _ [Value.ref _, Value.ref _]) _ _ _); kit_ncls; k_dflt (refine' kia_tup kitx_ba (by (k_in)) (by ((refine' kitAt_ba (by (walk_at "M ba"))))) (by (kit_tp)) (by (kit_is)) (by (kit_nb)) ?_; k_whole; intro _))
  k_with "call builtin:isinstance" => (k_here; (with_reducible show wpAny _ _ (call _ [Value.ref _, Value.type _]) _ _ _); k_dflt (refine' kia_one kitx_ba (by (k_in)) (by ((refine' kitAt_ba (by (walk_at "M ba"))))) (by (kit_is)) (by (kit_nb)) ?_; k_whole; intro _))
  k_with "call type:bytes" => (k_here; (with_reducible show wpAny _ _ (call (Value.type "bytes") [Value.ref _]) _ _ _); k_dflt (refine' ba_bytes (k := 0) (by (walk_at "M ba")) (by (assumption)) ?_; k_whole; intro _ _))
  k_with "getMethod str" => (k_here; with_reducible refine en_method ?_)
  k_with "call builtin:str.encode" => (k_here; (with_reducible show wpAny _ _ (call (Value.builtin "str.encode") [Value.str _ _, Value.str _ _]) _ _ _); refine' en_call (by (assumption)) (by (assumption)) ?_; intro _ _)
  k_with "getMethod bytes" => (k_here; with_reducible refine tr_method ?_)
  k_with "call builtin:bytes.translate" => (k_here; (with_reducible show wpAny _ _ (call (Value.builtin "bytes.translate") [Value.bytes _ _, Value.bytes _ _]) _ _ _); refine' trM (by (first | rfl | decide +kernel)) (by (decide +kernel)) (by (assumption)) ?_; intro _ _)
  k_with "binaryOp LShift int int" => (k_here; (with_reducible refine shlM (by (decide)) (by (decide)) (by (omega)) ?_))
  k_with "binaryOp RShift int int" => (k_here; (with_reducible refine shrM (by (first | decide | omega)) ?_))
  k_with "call builtin:list.append" => (k_here; (with_reducible show wpAny _ _ (call (Value.builtin _) [Value.ref _, Value.int _ _]) _ _ _); k_dflt (refine' append_K (by (k_asm)) (by (k_asm)) (by (k_upd)) ?_ (by ((simp only [List.size_toArray, List.length_append, List.length_cons, List.length_nil, sizeLine_eq]; omega))); k_whole); intro h' F' N'; (try simp only [List.push_toArray] at N'); (try k_sweep))
  k_with "call builtin:len" => (k_here; (with_reducible show wpAny _ _ (call (Value.builtin "len") [Value.ref _]) _ _ _); k_dflt (refine' lenM (News.isList (by (k_asm)) (by (k_mem))) (by (with_reducible assumption)) (by (omega)) ?_; k_whole))
  k_with "call type:bytes" => (k_here; (with_reducible show wpAny _ _ (call (Value.type "bytes") [Value.ref _]) _ _ _); k_dflt (refine' bytesM (by (k_asm)) (by (k_asm)) (News.isList (by (k_asm)) (by (k_mem))) (by (with_reducible assumption)) (by (with_reducible assumption)) (by (omega)) rfl ?_; k_whole); intro h' t' k' F' N'; (try k_sweep))
  k_with "binaryOp BitAnd int int" => (k_here; (with_reducible refine andM ?_))
  k_with "binaryOp BitOr int int" => (k_here; (with_reducible refine orM' ?_))
  k_with "M enterC" => ((case kA => exact rfl); (case kF => exact rfl); (case kK => assumption); (case k1 => k_asm); (case k2 => k_asm); (case k3 => k_asm); (case k5 => k_asm); (case k6 => k_is); (case k7 => k_is); (case k8 => ktr_room); (case k9 => first | exact BindsTo.of_eq rfl | exact binds_K (by k_in) rfl (by k_is) rfl rfl rfl); (case kB => exact rfl); (case kD => decide +kernel); (case c2 => exact rfl); (case c3 => exact rfl); (case c4 => exact rfl); k_whole; intro L' h' tk' cells' F' N' Y' B' X' T'; k_cells Y'; (try simp only [List.cons_append, List.nil_append] at N'); (try dsimp only); (try k_fold))
  k_with "call builtin:len" => (k_here; (with_reducible show wpAny _ _ (call (Value.builtin "len") [Value.ref _]) _ _ _); k_dflt (refine' lenM (stays_list (stays_of (by (k_asm))) (by (with_reducible assumption))) (by (with_reducible assumption)) (by (omega)) ?_; k_whole))
  k_with "eval Name" => (k_here; k_dflt (refine' nameX_L (by (k_asm)) (@rfl _ (some _)) ?_ (by (rfl)) (by (rfl)); k_whole))
  k_with "eval ListComp" => (k_here; k_dflt (refine ListComp_G (F₀ := by k_asm) (by with_unfolding_all rfl) (by decide) (by rfl) (by decide) (by rfl) ?_))
  k_with "pyIter ref" => (k_here; (with_reducible show wpAny _ _ (pyIter _) (CompIt _ _ _ _ _ _ _ _ _ _ _ _) _ _); k_dflt (refine' iter_tuple rfl (by (k_asm)) (by (k_asm)) (SrcT.made (by (k_mem))) (by (exact Nat.le_of_ble_eq_true rfl)) ?_; k_whole); intro g'; lcg_lit)
  k_with "CompEnd" => (refine' CompEnd.same (by (k_asm)) (by (k_asm)) (by ((simp only [LCg.Off3, and_true]; with_reducible assumption))) (by (first | exact True.intro | exact SrcT.made (by k_mem) | exact Or.inl (by assumption) | exact Or.inr ⟨_, by k_mem, rfl, _, rfl⟩)) ?_)
  k_with "call builtin:list.extend" => (k_here; (with_reducible show wpAny _ _ (call (Value.builtin _) [Value.ref _, Value.ref _]) _ _ _); k_dflt (refine' extM (by (k_asm)) (by (k_asm)) (by (k_mem)) (by (first | omega | (simp only [List.length_cons, List.length_nil, List.length_append]; omega))) (by (k_upd)) (by (first | omega | (simp only [List.length_cons, List.length_nil, List.length_append]; omega))) ?_; k_whole); intro h' F' N'; (try k_sweep))
  k_with "exec For Name Call" => (k_here; k_dflt (refine' For_unrF (by k_asm) ?_ (by intro _; with_unfolding_all rfl) (by passes_own)))
  k_with "call type:list" => (k_here; (with_reducible show wpAny _ _ (call (Value.type _) [Value.ref _]) _ _ _); (with_reducible rename IsRange _ _ _ _ _ _ _ _ => rgX); k_dflt (first | (refine' kll_range (n := 26) rfl (by k_asm) (by k_asm) rgX (by decide) (by decide) (by decide) ?_) | (refine' kll_range (n := 10) rfl (by k_asm) (by k_asm) rgX (by decide) (by decide) (by decide) ?_)); intro D' vs' c' h' tk' F' N' l1 hI'; clear rgX; (try k_lt l1); (try k_sweep))
  k_with "binaryOp Add ref ref" => (k_here; (with_reducible show wpAny _ _ (binaryOp _ (Value.ref _) (Value.ref _)) _ _ _); k_dflt (refine' kmk_add_ints (by (k_asm)) (by (k_asm)) (News.isList (by (k_asm)) (by (k_mem))) (News.isList (by (k_asm)) (by (k_mem))) (by (with_reducible assumption)) (by (first | with_reducible assumption | exact IntsAre.cons _ _ (IntsAre.cons _ _ (IntsAre.cons _ _ IntsAre.nil)))) ?_ (by ((simp only [sizeLine_eq, rangeKs_length, List.length_append, List.length_cons, List.length_nil]; omega)))); intro D' ws' h' F' N' l1 hI'; (try k_lt l1); (try k_sweep))
  k_with "pyIter ref" => (k_here; (with_reducible show wpAny _ _ (pyIter _) (CompIt _ _ _ _ _ _ _ _ _ _ _ _) _ _); k_dflt (refine' iter_range rfl (by (k_asm)) (by (k_asm)) (by (assumption)) (by (first | decide | rfl)) (by (first | rfl | decide)) (by (exact Nat.le_of_ble_eq_true rfl)) ?_; k_whole); intro g'; lcg_lit)
  k_with "exec For Name Name" => (k_here; k_dflt (refine' For_unrF (by k_asm) ?_ (by intro _; with_unfolding_all rfl) (by first | exact PassesOwn.never | passes_own)))
  trivial
theorem law_try : PySem.Challenge.rw_ko0001_01.Holds := by
  refine hd ?_
  intro w s₀ s₁ mg mb G Y fa o pm cd doc dV kV ho hd' hcd hD hmg hg args vals as hpre hlay hrd hwl hlo
  have KX : (hd.heap_39 w.params).In s₁.heap := box_eq ▸ kIn_of Y
  have X := (Ground.X G).1
  have V := (Ground.X G).2
  refine Ground.open G ?_
  intro T B D TE TW
  try (refine guard_noD D (by decide +kernel) ?_; clear D)
  wrow_args hpre hlay hrd hwl hlo
  (with_reducible rename IntsAre _ _ => hI)
  (with_reducible rename Heap.IsList _ _ _ => hLs)
  rename ¬ _ < _ => hsz
  rename List Int => ns
  clear G Y B TE TW
  have K0 := below_caller s₁.heap
  (have he := Dflts.none hD rfl; subst he); (have he := Dflts.noKw hD; subst he)
  have hd8 := fd_plain hd'
  dsimp only [docDef] at hd8
  rename Addr => la
  refine wpC_call ?_
  k_dflt (refine' code_lawC (qual := Str.ofString "law") (binds := [(Str.ofString "script", .ref la)]) T ho hd8 hcd ?k8 ?kb ?k9 ?kB ?kD ?kq ?kg ?kc ?ku ?_ ?c2 ?c3 ?c4)
  (case k9 => exact BindsTo.of_eq rfl)
  (case k8 => decide)
  (case kb => exact rfl)
  (case kB => exact rfl)
  (case kD => (try dsimp only); decide +kernel)
  (case kq => exact rfl)
  (case kg => exact rfl)
  (case kc => exact rfl)
  (case ku => exact rfl)
  (case c2 => exact rfl)
  (case c3 => exact rfl)
  (case c4 => exact rfl)
  intro L' h' tk' cells' F' N' Y'
  dsimp only at F' Y'
  k_cells Y'
  (try simp only [List.cons_append, List.nil_append] at N')
  (try dsimp only)
  clear hd8 ho hcd hsz hmg hd'
  refine wpC_step ?_
  k_steps
  refine wpC_step ?_
  k_steps
  refine wpC_step ?_
  k_steps
  refine wpC_step ?_
  k_dflt (refine' For_unrF (by k_asm) ?_ (by intro _; with_unfolding_all rfl) (by first | exact PassesOwn.never | passes_own))
  walk1
  try dsimp only
  (
    (with_reducible rename Fr _ _ _ _ => nF); (with_reducible rename News _ _ _ _ => nN);
    (refine' oct_loop (bs₀ := [251, 255, 191, 0, 16, 131]) (ns := List.take 63 ns) _ rfl rfl rfl rfl (News.isList nN (by k_mem)) (by with_reducible assumption) ?z nF (cut_oct nN) ?hL ?n1 ?n2 ?hlc (by with_reducible assumption) rfl ?hi ?hb ?turn ?done);
    (case z => (rw [List.length_take]; exact Nat.min_le_left _ _));
    (case hL => exact ne_of_news nN (by k_mem));
    (case n1 => k_ne);
    (case n2 => k_ne);
    (case hlc => (intro hm; simp only [List.map_cons, List.map_nil, List.mem_cons, List.not_mem_nil, or_false] at hm; (rcases hm with h | h | h | h | h) <;> exact absurd h (by k_ne)));
    (case hi => exact .cons _ _ (.cons _ _ (.cons _ _ (.cons _ _ (.cons _ _ (.cons _ _ .nil))))));
    (case hb => exact inb6);
    (case' turn => (intro n t vs bs k o h tk own i hlv hI hB hlb hD hOff hF hN; clear nF nN; (try simp only [List.cons_append, List.nil_append] at hN); (try k_fold)));
    (case' done => (intro vs bs k o h tk hI hB h3 hlb h6 hF hN; clear nF nN; (try simp only [List.cons_append, List.nil_append] at hN); (try k_fold))))
  k_steps
  all_goals (first
    | (refine' oct_end (by assumption) (by assumption) (fun _ => rfl) hD (by k_mem) (by lcg_sub) (by k_mem) ?ho hI hB hlb
       (case ho => intro p hp; (repeat (first | exact hp | refine List.mem_cons_of_mem _ ?_))))
    | skip)
  try dsimp only
  refine wpC_step ?_
  k_steps
  (with_reducible rename Fr _ _ _ _ => nF)
  (with_reducible rename News _ _ _ _ => nN)
  (with_reducible rename IntsAre _ (_ ++ [4, 1, 6]) => hT)
  (with_reducible rename IntsAre _ (rangeKs _ _ ++ rangeKs _ _ ++ rangeKs _ _) => hS)
  have hT1 : 3 ≤ (List.take 63 ns ++ [4, 1, 6]).length := by rw [List.length_append]; exact Nat.le_add_left _ _
  have hT2 : (List.take 63 ns ++ [4, 1, 6]).length ≤ 66 := by rw [List.length_append, List.length_take]; exact Nat.add_le_add_right (Nat.min_le_left _ _) 3
  refine wpC_execs_cons (wpC_For (wpC_of ?_) (by intro _; with_unfolding_all rfl))
  refine ls5 (L := L') (fa := fa) (cd := cd) K0 KX T hI hB hlb h3 (by with_reducible assumption) nF (cut_for nN) ?_
  intro D zs zk rest h8 tk8 F8 N8 m1 m2 m3 hoff hz hzl
  refine wpC_of (forLC (fun _ m => m (Str.ofString "turns") = some (.ref _)) rfl F8 N8 hoff rfl ?turn2 ?done2)
  case turn2 =>
    intro i v m h tk own hv hI8 hF hN
    exact lbu (L := L') (fa := fa) (cd := cd) K0 KX T (hz v (by rw [List.getElem?_toArray] at hv; exact List.mem_of_getElem? hv)) hT hT1 hT2 hS (by with_reducible assumption) hF hI8 hN m1 m2 m3
  case done2 =>
    intro m h tk hI8 hF hN
    dsimp only
    refine wpC_step ?_
    k_steps
    dsimp only
    exact GoodW.toG (goodW_bool (by with_reducible assumption) hg (fun _ => rfl) (law_post ns))
end
end Mine
theorem PySem.Challenge.cw_ko0001_01_holds : PySem.Challenge.rw_ko0001_01.Holds := by
  exact Mine.law_try
