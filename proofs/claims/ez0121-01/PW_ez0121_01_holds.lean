import PyProof.Rows.All
import Wide.All
import OpenK.AllK
import Wide.FinOn
import PySem.Challenge.RW_ez0121_01
set_option rowWalk.seconds 0
set_option maxRecDepth 100000
open PySem PySem.W PyProof.Rows
set_option Elab.async false
set_option maxRecDepth 100000
/-! The law's run, seen from the claim's own caller alone: the library's top asks for a proof from every caller, and one of the model's
refusals (int of a text) books itself where the caller is not the claim's. So the top is stated here for the claim's caller. -/

namespace Mine
abbrev Γc : Ctx := ⟨.builtin "claim.caller" {}, none, none, [], none⟩
/-- from the claim's caller -/
def wpT {α : Type} (M : Model) (t : Sem α) (Q : α → Shared → Prop) (E : Value → Shared → Prop) (s : Shared) : Prop := ∀ p, Sem.wp M Γc t (fun a _ s' => Q a s') (fun e _ s' => E e s') p s
section
variable {α β : Type} {M : Model} {s : Shared} {E : Value → Shared → Prop}
theorem wpT_of {t : Sem α} {Q : α → Shared → Prop} (h : wpAny M callerA t Q E s) : wpT M t Q E s := fun p => h _ p caller_in
theorem wpT_mono {t : Sem α} {Q Q' : α → Shared → Prop} {E' : Value → Shared → Prop} (h : wpT M t Q E s) (hQ : ∀ a s, Q a s → Q' a s) (hE : ∀ e s, E e s → E' e s) : wpT M t Q' E' s :=
  fun p => Sem.wp_mono M _ t (fun a _ s => hQ a s) (fun e _ s => hE e s) p s (h p)
theorem wpT_bind {m : Sem α} {f : α → Sem β} {Q : β → Shared → Prop} (h : wpT M m (fun a s' => wpT M (f a) Q E s') E s) : wpT M (m >>= f) Q E s := fun p => by
  rw [Sem.wp_bind']
  exact Sem.wp_mono M _ m (fun a p' s' h' => h' p') (fun _ _ _ h' => h') p s (h p)
end
theorem ends_T {prog : Program} {w : World} {t : Sem Fin} {s : Shared} {R : Result → Shared → Prop} (hreg : s.asleep)
    (h : wpT (model prog w) t (fun fin s' => ∃ f, fin = .done f ∧ (R (.ok f) s' ∧ leftWithCleanup s'.gens = false)) (fun e s' => R (.error e) s' ∧ leftWithCleanup s'.gens = false) s) :
    ∃ n r s' s'', runN (denote table) prog w n s ⟨t, .builtin "claim.caller" {}, default, []⟩ = .halted (outcomeOf r) s' ∧
      schedN (denote table) prog w n (.single s ⟨t, .builtin "claim.caller" {}, default, []⟩) = .halted (outcomeOf r) s' ∧ s'.forget = s''.forget ∧ R r s'' := by
  have h' : Sem.wp (model prog w) Γc t (Sem.finPost (model prog w) Γc fun r s' => R r s' ∧ leftWithCleanup s'.gens = false) (fun e _ s' => R (.error e) s' ∧ leftWithCleanup s'.gens = false) default s := by
    refine Sem.wp_mono _ _ t (fun fin p' s' x => ?_) (fun _ _ _ x => x) _ _ (h default)
    obtain ⟨f, rfl, hf⟩ := x
    exact hf
  obtain ⟨n, r, s₁, s₂, hs, hn, hfo, hR⟩ := wp_halts_full (M := model prog w) (R := R) hreg h'
  exact ⟨n, r, s₂, s₁, hn, hs, hfo, hR⟩
theorem from_T {c : ClaimW} {tree : List Value → Sem Fin} {w : World} {s : Shared} {free : Addr → Prop} {gens : Prop} {kept : Heap → Prop} (hz : s.asleep) (hgens : s.gens = #[])
    (hspec : ∀ args, c.pre args = true → WData.layableAll args = true → ∀ ord : List DictEntry → List DictEntry, (∀ l, (ord l).Perm l) →
      ∃ vs s₁, layAllW c.records (classAt s.heap) w.params ord args s = some (vs, s₁) ∧
        wpT (model c.prog w) (tree vs) (fun fin s' => ∃ f, fin = .done f ∧ (c.Ends s args vs s₁ (.ok f) s' ∧ s'.os = s.os ∧ AllBare s'.gens ∧ kept s'.heap))
          (fun e s' => c.Ends s args vs s₁ (.error e) s' ∧ s'.os = s.os ∧ AllBare s'.gens ∧ kept s'.heap) s₁) :
    c.CallFrom (fun vs => ⟨tree vs, .builtin "claim.caller" {}, default, []⟩) w free gens kept s := by
  intro args hpre hlay ord hord
  obtain ⟨vs, s₁, hlaid, hcode⟩ := hspec args hpre hlay ord hord
  have hal := layAllW_rest _ _ _ hlaid
  obtain ⟨k, r, s', s'', hrun, hsched, hfo, hcase, hos, hkp⟩ := ends_T (prog := c.prog) (w := w) (t := tree vs) (s := s₁) (R := fun r s' => c.Ends s args vs s₁ r s' ∧ s'.os = s.os ∧ kept s'.heap)
    (Shared.asleep_of_life hal.2.2.2 hz)
    (wpT_mono hcode (fun fin s' ⟨f, e, h1, h2, h3, h4⟩ => ⟨f, e, ⟨h1, h2, h4⟩, leftWithCleanup_false_of_bare h3⟩) (fun e s' ⟨h1, h2, h3, h4⟩ => ⟨⟨h1, h2, h4⟩, leftWithCleanup_false_of_bare h3⟩))
  obtain ⟨eh, _, _, eo, _⟩ := Shared.forget_eq hfo
  have hcase := hcase.congr eh
  have hkp : kept s'.heap := by rw [eh]; exact hkp
  rw [← eo] at hos
  have hlife : s'.heap.life = s.heap.life := (runN_life _ _ _ hrun).trans hal.2.2.2
  refine ⟨vs, s₁, hlaid, k, _, s', hsched, ?_, (fun _ i x hx => by rw [hgens] at hx; simp at hx), hkp, by rw [hlife], Shared.rest_eq hos⟩
  rcases hcase with ⟨v, rfl, d1, d2, d3, d4, d5⟩ | ⟨e, ob, cls, rfl, d1, d2, d3, d4, d5⟩
  · exact .inl ⟨v, rfl, d1, d2, d3, fun b o y _ => d4 b o y, d5⟩
  · exact .inr ⟨e, ob, cls, rfl, d1, d2, d3, d4, fun b o y _ => d5 b o y⟩
/-- what is asked of the law: from the claim's caller -/
abbrev WalkT (q : Program) (loose : List Str) (XP : (Str → Option Value) → Heap → Prop) (YP : World → Heap → Prop) (r : RowW) (d : DefRec) (kwd : List (Str × Expr)) : Prop :=
  ∀ (w : World) (s₀ s₁ : Shared) (mg mb : Str → Option Value), Ground q loose r.records XP w s₀ mg mb s₁.heap → YP w s₁.heap → ∀ (a : Addr) (o : Obj) (pm cd doc dV kV : Value), s₁.heap.get? a = some o →
    o.data = .func { PySem.Calls.docDef d.name d.params d.body d.scope pm cd doc with defaults := dV, kwdefaults := kV } → s₁.heap.CodeRec cd d.name → Dflts mg s₁.heap d.params kwd dV kV → mg d.name = some (.ref a) → s₁.gens = #[] →
    ∀ (args : List WData) (vals : List Value) (as : List Addr), r.claim.pre args = true → WData.layableAll args = true → ReadsAllW r.records (classAt s₀.heap) s₁.heap vals args as → WellAll w.params s₁.heap vals args → (∀ a ∈ as, (a == sysModules) = false) →
      wpT (model r.prog w) (call (.ref a) vals) (fun v s' => GoodWG r.claim (classAt s₀.heap) (ExcName.means s₀.heap) args s₁ (.ok (.ret v)) s')
        (fun e s' => GoodWG r.claim (classAt s₀.heap) (ExcName.means s₀.heap) args s₁ (.error e) s') s₁
theorem holds_T {r : OpenRow} {q : Program} {loose : List Str} {Xt : Shared → Bool} {XP : (Str → Option Value) → Heap → Prop} {α : Type} {Yf : Shared → α} {Ya : World → α} {YP : World → Heap → Prop} {d : DefRec} {kwd : List (Str × Expr)} {N : Nat}
    (left : LeftO r.prog q loose Xt Yf Ya N) (hY : ∀ w s, Yf s = Ya w → YP w s.heap) (hYk : ∀ w h h', YP w h → (∀ b o, h.get? b = some o → h'.get? b = some o) → YP w h')
    (hX : ∀ s, Xt s = true → XP (s.heap.nsMap mainGlobals) s.heap) (hXk : ∀ mg h h', XP mg h → (∀ b o, h.get? b = some o → h'.get? b = some o) → XP mg h')
    (hdef : defOf q r.name = some (d, kwd)) (hp : r.prog.theDef r.name = some (d.params, d.body, d.scope)) (hk : kwWritten? d.params.kwonlyargs d.params.kw_defaults = some kwd) (hRf : ∀ s, Xt s = true → RecFacts r.records s.heap) (hwr : (!r.writes || r.records.isEmpty) = true)
    (k1 : r.wellSaid = true) (ok : (chainsOk q && opensWell r.prog && (frees r.toRowW && r.within.isEmpty)) = true) (hb : r.prog.bare) (hw : r.toRowW.promised)
    (call : WalkT q loose XP YP r.toRowW d kwd) : r.Holds := by
  refine ⟨k1, hw, ?_⟩
  obtain ⟨ok, k5⟩ := Bool.and_eq_true_iff.mp ok
  obtain ⟨hch, o1⟩ := Bool.and_eq_true_iff.mp ok
  obtain ⟨k5, k6⟩ := Bool.and_eq_true_iff.mp k5
  obtain ⟨hsame, hu, ha, hap, hm⟩ := frees_parts k5
  refine ⟨⟨hb, o1, by show r.toRowW.makers.map _ = []; rw [hm]; rfl⟩, hw.witness, fun w => ⟨(left.behind hX hch w).1, fun s' hs' => ?_⟩⟩
  obtain ⟨s₀, hf, hg0, s, hT, hz, hgens, hg, G00, y⟩ := (left.behind (XP := fun mg h => XP mg h ∧ RecFacts r.records h) (fun s hs => ⟨hX s hs, hRf s hs⟩) hch w).2 s' hs'
  have G0 : Ground q loose [] XP w s (s.heap.nsMap mainGlobals) (s.heap.nsMap builtinsNs) s.heap := ⟨G00.T, G00.B, G00.D, G00.TE, G00.TD, G00.W, G00.X.1, G00.cls, G00.has, G00.apart, G00.once, G00.K⟩
  have RF := G00.X.2
  have hT' := hT
  refine ⟨s₀, hf, hg0, s, hT, (fun n hn => ?_), RF.1, RF.2.1, ?_⟩
  · obtain rfl : n = r.name := by split at hn <;> simp_all
    exact pinned_of_view hg G0 hdef hp hk
  have hgens : s.gens = #[] := Array.eq_empty_of_size_eq_zero (beq_iff_eq.mp hgens)
  have G : Ground q loose r.records XP w s _ _ s.heap := RF.ground G0
  refine from_T (c := r.toRowW.claim) hz hgens fun args hpre hlay ord hord => ?_
  obtain ⟨⟨vs, s₁⟩, hlaid⟩ := Option.isSome_iff_exists.mp (layAllW_isSome (P := w.params) (ord := ord) G.has args r.toRowW.args s (pre_splitW hpre).1)
  have keeps := layAllW_keeps _ _ _ hlaid
  have hal := layAllW_rest _ _ _ hlaid
  obtain ⟨as, hrd, hin, hold⟩ := reads_layAllW hord _ _ _ hlaid hlay s₁.heap (fun _ _ e => e)
  have L : Laid r.records w s s₁ args vs as := ⟨⟨ord, hord, hlaid⟩, hrd, hin, hold, keeps, hal.1.trans hgens, hal.2.2.1⟩
  have G₁ := G.keeps hXk keeps
  obtain ⟨a, o, pm, cd, doc, dV, kV, h1, h2, h3, h4, h5⟩ := G₁.fn hdef
  have h := call w s s₁ _ _ G₁ (hYk _ _ _ (hY w s y) keeps) a o pm cd doc dV kV h2 h3 h4 h5 (defOf_name hdef ▸ h1) L.gens args vs as hpre hlay L.reads L.well (L.low G.low)
  have hi := ident_freeW hu ha hap
  have hwi : r.toRowW.claim.within = [] := List.isEmpty_iff.mp k6
  refine ⟨vs, s₁, hlaid, wpT_bind (wpT_of (wpAny_nsGet G₁.T.g ?_))⟩
  rw [h1]
  exact wpT_bind (wpT_mono h (fun v s' g p => ⟨_, rfl, have z := g.laid (c := r.toRowW.claim) hsame hwi hi L; ⟨z.1, z.2.1, z.2.2, fun q => ⟨namesKept_of hT' hg _ keeps g.2.1.old, noTable hwr q⟩⟩⟩)
    fun e s' g => have z := g.laid (c := r.toRowW.claim) hsame hwi hi L; ⟨z.1, z.2.1, z.2.2, fun q => ⟨namesKept_of hT' hg _ keeps g.2.1.old, noTable hwr q⟩⟩)

end Mine
/-- the head's last step, with the claim's caller alone; within this namespace open_top finds it under this name -/
theorem Mine.PySem.W.holds_open : type_of% @Mine.holds_T := @Mine.holds_T
namespace Mine
set_option maxRecDepth 100000 in
set_option maxHeartbeats 8000000 in
open_top hd for PySem.Challenge.rw_ez0121_01
/-- the walk's switch, as a text without a head has it -/
theorem switch_off : True := by
  w_top off
  trivial
end Mine

/-! part MB -/
namespace Mine
noncomputable abbrev PR : Program := PySem.Challenge.rw_ez0121_01.row.prog
noncomputable abbrev LO : List Str := looseW hd.view_39 [Str.ofString "_THOUSANDS_SEPARATOR", Str.ofString "_DECIMAL_SEPARATOR", Str.ofString "intcomma", Str.ofString "Unit", Str.ofString "_UNITS", Str.ofString "naturaldelta"]

/-- what a call of the def at f gives, from whatever frame: a value v and a ledger news' with R v news' -/
abbrev ConG (k : Nat) (w : World) (f : Addr) (vs : List Value) (news : List (Addr × Obj)) (R : Value → List (Addr × Obj) → Prop) : Prop :=
  ∀ (dp un : Nat) (gd : Option (List Code)) (cn : Str) (cs : Scope) (a : Addr) (ccd : Value) (cl : List (Str × Addr)) (outer : List Env) (A₀ : Around) (base h₀ : Heap) (L : Addr) (m mg mb : Str → Option Value) (mean : ExcName → Option Value) (s : Shared) (Q E : Value → Shared → Prop),
    Below A₀ base outer h₀ → Fr h₀ L s.heap m → (hd.heap_39 w.params).In h₀ → News h₀ L s.heap news → Top hd.view_39 LO mean mg mb h₀ → cs.kind = .function →
    dp + k < recursionLimit → un + 10 * k < cLine →
    (∀ (v : Value) (news' : List (Addr × Obj)) (h' : Heap) (tk' : Nat), R v news' → Fr h₀ L h' m → News h₀ L h' news' → Q v { s with heap := h', toks := tk' }) →
    wpAny (model PR w) (ktrTop dp un gd cn cs L a ccd cl outer) (call (.ref f) vs) Q E s
/-- the same where the ledger is handed back as it was -/
abbrev Con (k : Nat) (w : World) (f : Addr) (vs : List Value) (news : List (Addr × Obj)) (R : Value → Prop) : Prop :=
  ∀ (dp un : Nat) (gd : Option (List Code)) (cn : Str) (cs : Scope) (a : Addr) (ccd : Value) (cl : List (Str × Addr)) (outer : List Env) (A₀ : Around) (base h₀ : Heap) (L : Addr) (m mg mb : Str → Option Value) (mean : ExcName → Option Value) (s : Shared) (Q E : Value → Shared → Prop),
    Below A₀ base outer h₀ → Fr h₀ L s.heap m → (hd.heap_39 w.params).In h₀ → News h₀ L s.heap news → Top hd.view_39 LO mean mg mb h₀ → cs.kind = .function →
    dp + k < recursionLimit → un + 10 * k < cLine →
    (∀ (v : Value) (h' : Heap) (tk' : Nat), R v → Fr h₀ L h' m → News h₀ L h' news → Q v { s with heap := h', toks := tk' }) →
    wpAny (model PR w) (ktrTop dp un gd cn cs L a ccd cl outer) (call (.ref f) vs) Q E s
section
variable {k : Nat} {w : World} {f : Addr} {vs : List Value} {news : List (Addr × Obj)} {dp un : Nat} {gd : Option (List Code)} {cn : Str} {cs : Scope} {a : Addr} {ccd : Value} {cl : List (Str × Addr)} {outer : List Env} {A₀ : Around} {base h₀ : Heap} {L : Addr} {m mg mb : Str → Option Value} {mean : ExcName → Option Value} {s : Shared} {Q E : Value → Shared → Prop}
theorem con_use {R : Value → Prop} (C : Con k w f vs news R) (B : Below A₀ base outer h₀) (F : Fr h₀ L s.heap m) (X : (hd.heap_39 w.params).In h₀) (N : News h₀ L s.heap news) (T : Top hd.view_39 LO mean mg mb h₀) (hk : cs.kind = .function)
    (hd : dp + k < recursionLimit) (hu : un + 10 * k < cLine)
    (ret : ∀ (v : Value) (h' : Heap) (tk' : Nat), R v → Fr h₀ L h' m → News h₀ L h' news → Q v { s with heap := h', toks := tk' }) :
    wpAny (model PR w) (ktrTop dp un gd cn cs L a ccd cl outer) (call (.ref f) vs) Q E s := C _ _ _ _ _ _ _ _ _ _ _ _ _ _ _ _ _ _ _ _ B F X N T hk hd hu ret
theorem conG_use {R : Value → List (Addr × Obj) → Prop} (C : ConG k w f vs news R) (B : Below A₀ base outer h₀) (F : Fr h₀ L s.heap m) (X : (hd.heap_39 w.params).In h₀) (N : News h₀ L s.heap news) (T : Top hd.view_39 LO mean mg mb h₀) (hk : cs.kind = .function)
    (hd : dp + k < recursionLimit) (hu : un + 10 * k < cLine)
    (ret : ∀ (v : Value) (news' : List (Addr × Obj)) (h' : Heap) (tk' : Nat), R v news' → Fr h₀ L h' m → News h₀ L h' news' → Q v { s with heap := h', toks := tk' }) :
    wpAny (model PR w) (ktrTop dp un gd cn cs L a ccd cl outer) (call (.ref f) vs) Q E s := C _ _ _ _ _ _ _ _ _ _ _ _ _ _ _ _ _ _ _ _ B F X N T hk hd hu ret
theorem con_str {x : Str} (C : Con k w f vs news (fun v => ∃ t, v = .str x t)) (B : Below A₀ base outer h₀) (F : Fr h₀ L s.heap m) (X : (hd.heap_39 w.params).In h₀) (N : News h₀ L s.heap news) (T : Top hd.view_39 LO mean mg mb h₀) (hk : cs.kind = .function)
    (hd : dp + k < recursionLimit) (hu : un + 10 * k < cLine)
    (ret : ∀ (t : Tok) (h' : Heap) (tk' : Nat), Fr h₀ L h' m → News h₀ L h' news → Q (.str x t) { s with heap := h', toks := tk' }) :
    wpAny (model PR w) (ktrTop dp un gd cn cs L a ccd cl outer) (call (.ref f) vs) Q E s := C _ _ _ _ _ _ _ _ _ _ _ _ _ _ _ _ _ _ _ _ B F X N T hk hd hu (by rintro v h' tk' ⟨t, rfl⟩ F' N'; exact ret t h' tk' F' N')
end
/-- a def that looks at none of the caller's made objects: its body is walked over the whole heap as it stands, its own ledger empty -/
theorem code_pure {prog : Program} {w : World} {A₀ A : Around} {s : Shared} {base h₀ : Heap} {outer : List Env} {L : Addr} {m : Str → Option Value} {K : Frag} {p : Program} {loose : List Str} {mean : ExcName → Option Value} {mg mb : Str → Option Value}
    {env : Env} {R : Result → Shared → Prop} {name qual : Str} {params : Arguments} {body : List Stmt} {scope : Scope} {dV kV doc pm cdv ct oc : Value} {an od : Option Addr} {osl : Array (Option Value)} {f : Addr} {args : Args} {binds : List (Str × Value)}
    (B : Below A₀ base outer h₀) (F : Fr h₀ L s.heap m) (X₀ : K.In h₀) (T : Top p loose mean mg mb h₀) (hA : A.frames = some (env :: outer)) (hf : env.frame = some L) (hke : env.scope.kind = .function)
    (ho : K.lookup f = some ⟨oc, od, .func (fnOf name qual params body scope dV kV doc pm an cdv ct), osl⟩) (hcd : codeIn K cdv qual = true) (hroom : A.depth < recursionLimit)
    (hbind : BindsTo s (fnOf name qual params body scope dV kV doc pm an cdv ct) args binds) (hloc : ∀ y ∈ binds, scope.names.lookup y.1 = some .local)
    (h : ∀ g L' h₁, (∀ b o, s.heap.get? b = some o → g.get? b = some o) → Fr h₀ L g m → Fr g L' h₁ (fun y => binds.reverse.lookup y) → News g L' h₁ [] → Below A base (env :: outer) g → K.In g → Top p loose mean mg mb g →
      wpAny (model prog w) (A.deeper (envOf qual scope L' f cdv)) (execs body (envOf qual scope L' f cdv))
        (fun fl s' => LeaveK h₀ L m g R (match fl with | .ret v => v | _ => .none) s')
        (fun e s' => wpAny (model prog w) (A.deeper (envOf qual scope L' f cdv)) (leaving (envOf qual scope L' f cdv) e) (fun _ s'' => R (.error e) s'') (fun e' s'' => R (.error e') s'') s')
        { s with heap := h₁, toks := s.toks + binds.length })
    (hco : scope.isCoroutine = false) (hgen : scope.isGenerator = false) (hk : scope.kind = .function)
    (hcell : ∀ x ∈ scope.names, x.2 ≠ .cell) : codeAny (model prog w) A (.call (.ref f) args) R s := by
  obtain ⟨FG, BG, st, lv⟩ := groundX (R := R) (news := []) B F News.nil hA hf hke
  refine codeAny_call_def (fd := fnOf name qual params body scope dV kV doc pm an cdv ct) (body := body) (binds := binds) hroom ((X₀.keeps F.keep) _ _ ho) rfl (T.nolimit.keeps F.keep) (codeRec_of (X₀.keeps F.keep) hcd) rfl hbind hcell hloc (fun h₁ hns hk₁ => ?_) hco hgen hk
  exact wpAny_mono (h s.heap s.heap.objs.size h₁ (fun _ _ e => e) FG ⟨hns, fun b o e => hk₁ b o e, Nat.le_refl _⟩ News.nil BG (X₀.keeps st) (T.keeps st)) (fun fl s' hl => lv _ _ hl) fun _ _ y => y
theorem pure_news {h₀ h g h' : Heap} {L L' : Addr} {m' : Str → Option Value} {news : List (Addr × Obj)} (N : News h₀ L h news) (hg : ∀ b o, h.get? b = some o → g.get? b = some o) (F : Fr g L' h' m') : News h₀ L h' news :=
  fun p hp => ⟨F.keep _ _ (hg _ _ (N p hp).1), (N p hp).2⟩
theorem vint {a b : Int} {t : Tok} (h : a = b) : ∃ t', Value.int a t = Value.int b t' := ⟨t, by rw [h]⟩
theorem vstr {a b : Str} {t : Tok} (h : a = b) : ∃ t', Value.str a t = Value.str b t' := ⟨t, by rw [h]⟩
-- room inside a contract: by the contract's own premise
local macro_rules | `(tactic| k_room) => `(tactic| ktr_room)

section
variable {prog : Program} {w : World} {A : Around} {E : Value → Shared → Prop} {s : Shared} {a n r : Int} {t u : Tok} {Q : Value → Shared → Prop}
theorem pow_lit (e : a ^ n.toNat = r) (hn : 0 ≤ n) (hn2 : n ≤ 1000000) (ha : a.natAbs < 2 ^ 64) (h : Q (.int r s.toks) { s with toks := s.toks + 1 }) : wpAny (model prog w) A (binaryOp .Pow (.int a t) (.int n u)) Q E s :=
  pow_int_small hn hn2 ha (by rw [e]; exact h)
theorem mul_lit {b : Int} (e : a * b = r) (h : Q (.int r s.toks) { s with toks := s.toks + 1 }) (hm : IntMulOk a b := by mul_fits) : wpAny (model prog w) A (binaryOp .Mult (.int a t) (.int b u)) Q E s :=
  PyProof.Rows.mul_int (by rw [e]; exact h) hm
end
def rnd (n d : Int) : Int := if 2 * n.fmod d > d ∨ (2 * n.fmod d = d ∧ (n.fdiv d).fmod 2 = 1) then n.fdiv d + 1 else n.fdiv d

theorem fd {a b : Int} (hb : 0 < b) (ha : 0 ≤ a) : 0 ≤ a.fdiv b ∧ a.fdiv b * b ≤ a ∧ a < a.fdiv b * b + b := by
  have h1 := (fdiv_fmod_facts a b).1
  have h2 := (fdiv_fmod_facts a b).2.2.1 hb
  have h3 : 0 ≤ a.fdiv b := Int.fdiv_nonneg ha (by omega)
  omega
theorem rnd_bd {n d : Int} (h0 : 0 ≤ n) (hd : 0 < d) : 0 ≤ rnd n d ∧ 2 * (rnd n d * d) ≤ 2 * n + d ∧ 2 * n - d ≤ 2 * (rnd n d * d) := by
  have hq := (fdiv_fmod_facts n d).1
  have hr := (fdiv_fmod_facts n d).2.2.1 hd
  have h2 : 0 ≤ n.fdiv d := Int.fdiv_nonneg h0 (by omega)
  have hm : (n.fdiv d + 1) * d = n.fdiv d * d + d := by rw [Int.add_mul, Int.one_mul]
  unfold rnd
  split
  · rw [hm]; omega
  · omega
def RndIs (n d : Int) (v : Value) : Prop := ∃ t, v = .int (rnd n d) t ∧ 0 ≤ rnd n d ∧ 2 * (rnd n d * d) ≤ 2 * n + d ∧ 2 * n - d ≤ 2 * (rnd n d * d)
theorem con_rnd {k : Nat} {w : World} {f : Addr} {vs : List Value} {news : List (Addr × Obj)} {dp un : Nat} {gd : Option (List Code)} {cn : Str} {cs : Scope} {a : Addr} {ccd : Value} {cl : List (Str × Addr)} {outer : List Env} {A₀ : Around} {base h₀ : Heap} {L : Addr} {m mg mb : Str → Option Value} {mean : ExcName → Option Value} {s : Shared} {Q E : Value → Shared → Prop}
    {n d : Int} (C : Con k w f vs news (RndIs n d)) (B : Below A₀ base outer h₀) (F : Fr h₀ L s.heap m) (X : (hd.heap_39 w.params).In h₀) (N : News h₀ L s.heap news) (T : Top hd.view_39 LO mean mg mb h₀) (hk : cs.kind = .function)
    (hd : dp + k < recursionLimit) (hu : un + 10 * k < cLine)
    (ret : ∀ (t : Tok) (h' : Heap) (tk' : Nat), (0 ≤ rnd n d ∧ 2 * (rnd n d * d) ≤ 2 * n + d ∧ 2 * n - d ≤ 2 * (rnd n d * d)) → Fr h₀ L h' m → News h₀ L h' news → Q (.int (rnd n d) t) { s with heap := h', toks := tk' }) :
    wpAny (model PR w) (ktrTop dp un gd cn cs L a ccd cl outer) (call (.ref f) vs) Q E s := C _ _ _ _ _ _ _ _ _ _ _ _ _ _ _ _ _ _ _ _ B F X N T hk hd hu (by rintro v h' tk' ⟨t, rfl, hb⟩ F' N'; exact ret t h' tk' hb F' N')
theorem rndIs {n d r : Int} {t : Tok} (h0 : 0 ≤ n) (hd : 0 < d) (e : r = rnd n d) : RndIs n d (.int r t) := ⟨t, by rw [e], rnd_bd h0 hd⟩

set_option maxHeartbeats 8000000 in
theorem c_rounded (w : World) (news : List (Addr × Obj)) (n d : Int) (tn td : Tok) (h0 : 0 ≤ n) (hd0 : 0 < d) (hd1 : d < 1073741824) : Con 2 w 57 [.int n tn, .int d td] news (RndIs n d) := by
  unfold Con PR; k_fill; intro dp un gd cn cs a ccd cl outer A₀ base h₀ L m mg mb mean s Q E B F X N T hk hdp hun hret; refine wpAny_call ?_; k_dflt (refine' code_def ?k1 ?k2 ?k3 ?k4 ?k5 ?kA ?kF ?kK ?k6 ?k7 ?k8 ?k9 ?kB ?_ ?c2 ?c3 ?c4 ?c5; (case kA => exact rfl); (case kF => exact rfl); (case kK => assumption); (case k1 => k_asm); (case k2 => k_asm); (case k3 => k_asm); (case k4 => k_asm); (case k5 => k_asm); (case k6 => k_is); (case k7 => k_is); (case k8 => ktr_room); (case k9 => first | exact BindsTo.of_eq rfl | exact binds_K (by k_in) rfl (by k_is) rfl rfl rfl); (case c5 => decide); (case kB => exact locs rfl); (case c2 => exact rfl); (case c3 => exact rfl); (case c4 => exact rfl); k_whole; intro g' L' h' FG' F' N' B' X' T'; (try dsimp only); (try k_lift B'); (try k_fold))
  k_steps
  all_goals (refine' hret _ _ _ ?_ (by k_asm) (by first | k_asm | exact cb_drop (by assumption) (by kcj_all)))
  all_goals (refine rndIs h0 hd0 ?_; unfold rnd; split <;> omega)
end Mine
/-! part MC -/
namespace Mine
local macro_rules | `(tactic| k_room) => `(tactic| ktr_room)
theorem ne_kind {h₀ h : Heap} {L a b : Addr} {news : List (Addr × Obj)} {o o' : Obj} (N : News h₀ L h news) (ha : (a, o) ∈ news) (hb : (b, o') ∈ news) (hc : o.cls ≠ o'.cls) : a ≠ b := by
  rintro rfl
  have := (N _ ha).1.symm.trans (N _ hb).1
  cases this
  exact hc rfl
local macro_rules | `(tactic| k_ne) => `(tactic| (refine' ne_kind ?nkN ?nka ?nkb ?nkc; (case nkN => assumption); (case nka => k_mem); (case nkb => k_mem); (case nkc => (intro hnk; first | exact absurd (Value.type.inj hnk) (by decide) | cases hnk))))
local macro_rules | `(tactic| k_all) => `(tactic| exact fun p9 h9 => Nat.ne_of_lt ((by assumption : ∀ p ∈ _, p.1 < _) p9 h9))
/-- a span of the text's own: its class's object and the dict of its three ints -/
abbrev tdDict (w : World) (D S U : Int) (k1 k2 k3 t1 t2 t3 : Tok) : Obj :=
  dictOf [⟨PyData.keyHash w.params (Str.ofString "days"), .str (Str.ofString "days") k1, .int D t1⟩, ⟨PyData.keyHash w.params (Str.ofString "seconds"), .str (Str.ofString "seconds") k2, .int S t2⟩, ⟨PyData.keyHash w.params (Str.ofString "microseconds"), .str (Str.ofString "microseconds") k3, .int U t3⟩] 3

/-- W microseconds, not negative, as days, seconds, microseconds -/
def Parts (W D S U : Int) : Prop := 0 ≤ S ∧ S < 86400 ∧ 0 ≤ U ∧ U < 1000000 ∧ (D * 86400 + S) * 1000000 + U = W
theorem td_ret {w : World} {news led : List (Addr × Obj)} {y dy : Addr} {W D' S' U' : Int} {k1 k2 k3 t1 t2 t3 : Tok} {h₀ h' : Heap} {L : Addr} {m : Str → Option Value} {s : Shared} {tk' : Nat} {Q : Value → Shared → Prop}
    (hret : ∀ (v : Value) (news' : List (Addr × Obj)) (h' : Heap) (tk' : Nat), (∃ y dy D' S' U' k1 k2 k3 t1 t2 t3, v = .ref y ∧ news' = (y, instObj 46 dy) :: (dy, tdDict w D' S' U' k1 k2 k3 t1 t2 t3) :: news ∧ Parts W D' S' U') → Fr h₀ L h' m → News h₀ L h' news' → Q v { s with heap := h', toks := tk' })
    (F : Fr h₀ L h' m) (N : News h₀ L h' led) (h1 : (y, instObj 46 dy) ∈ led) (h2 : (dy, tdDict w D' S' U' k1 k2 k3 t1 t2 t3) ∈ led) (h3 : ∀ p ∈ news, p ∈ led) (hp : Parts W D' S' U') : Q (.ref y) { s with heap := h', toks := tk' } :=
  hret _ _ _ _ ⟨y, dy, D', S', U', k1, k2, k3, t1, t2, t3, rfl, rfl, hp⟩ F (fun p hp => by
    rcases List.mem_cons.mp hp with rfl | hp
    · exact N _ h1
    · rcases List.mem_cons.mp hp with rfl | hp
      · exact N _ h2
      · exact N _ (h3 _ hp))

set_option maxHeartbeats 8000000 in
theorem c_size (w : World) (news : List (Addr × Obj)) (x dx : Addr) (D S U W : Int) (k1 k2 k3 t1 t2 t3 : Tok)
    (hx : (x, instObj 46 dx) ∈ news) (hdx : (dx, tdDict w D S U k1 k2 k3 t1 t2 t3) ∈ news) (hlo : -1000000000 < D ∧ D < 1000000000) (hP : Parts W D S U) :
    ConG 4 w 43 [.ref x] news (fun v news' => ∃ y dy D' S' U' k1 k2 k3 t1 t2 t3, v = .ref y ∧ news' = (y, instObj 46 dy) :: (dy, tdDict w D' S' U' k1 k2 k3 t1 t2 t3) :: news ∧ Parts (if W < 0 then -W else W) D' S' U') := by
  obtain ⟨hS0, hS1, hU0, hU1, hW⟩ := hP
  have kM := kstMark
  unfold ConG PR; k_fill; intro dp un gd cn cs a ccd cl outer A₀ base h₀ L m mg mb mean s Q E B F X N T hk hdp hun hret; refine wpAny_call ?_; k_dflt (refine' code_def ?k1 ?k2 ?k3 ?k4 ?k5 ?kA ?kF ?kK ?k6 ?k7 ?k8 ?k9 ?kB ?_ ?c2 ?c3 ?c4 ?c5; (case kA => exact rfl); (case kF => exact rfl); (case kK => assumption); (case k1 => k_asm); (case k2 => k_asm); (case k3 => k_asm); (case k4 => k_asm); (case k5 => k_asm); (case k6 => k_is); (case k7 => k_is); (case k8 => ktr_room); (case k9 => first | exact BindsTo.of_eq rfl | exact binds_K (by k_in) rfl (by k_is) rfl rfl rfl); (case c5 => decide); (case kB => exact locs rfl); (case c2 => exact rfl); (case c3 => exact rfl); (case c4 => exact rfl); k_whole; intro g' L' h' FG' F' N' B' X' T'; (try dsimp only); (try k_lift B'); (try k_fold))
  k_steps
  all_goals (refine' td_ret hret (by k_asm) (by k_asm) (by k_mem) (by k_mem) (by kcj_all) ?_)
  all_goals (subst hW; unfold Parts; law_fm; split <;> omega)
end Mine
/-! part MQ -/
namespace Mine
theorem execs_append (env : Env) (b : List Stmt) : ∀ a : List Stmt, execs (a ++ b) env = (do match ← execs a env with | .next => execs b env | f => pure f)
  | [] => by
    show execs b env = _
    unfold execs
    simp only [pure_bind]
  | st :: a => by
    show execs (st :: (a ++ b)) env = _
    rw [execs, execs]
    rw [bind_assoc]
    refine congrArg _ (funext fun f => ?_)
    cases f <;> simp [execs_append env b a]
section
variable {M : Model} {A : Around} {E : Value → Shared → Prop} {s : Shared}
/-- the first n statements by themselves; what is behind them from whatever they leave (J: what that is) -/
theorem exec_join {env : Env} {l : List Stmt} {Q : Flow → Shared → Prop} (n : Nat) (J : (Flow → Shared → Prop) → Prop)
    (head : ∀ PP : Flow → Shared → Prop, J PP → wpAny M A (execs (l.take n) env) PP E s)
    (tail : J (fun fl s' => match fl with | .next => wpAny M A (execs (l.drop n) env) Q E s' | f => Q f s')) : wpAny M A (execs l env) Q E s := by
  have e : execs l env = execs (l.take n ++ l.drop n) env := by rw [List.take_append_drop]
  rw [e, execs_append]
  refine wpAny_bind (wpAny_mono (head _ tail) (fun f s' h => ?_) fun _ _ x => x)
  cases f with
  | next => exact h
  | cont => exact wpAny_pure h
  | brk => exact wpAny_pure h
  | ret v => exact wpAny_pure h
end
end Mine
/-! part MD -/
namespace Mine
local macro_rules | `(tactic| k_room) => `(tactic| ktr_room)
abbrev dg (n : Int) : Str := Str.ofString (toString n)
theorem dg_len {n : Int} (h0 : 0 ≤ n) (h1 : n < 10 ^ 10) : (dg n).length ≤ 10 := PyProof.Rows.toString_length_le h0 (by decide) h1
theorem rj_len (x : Str) (i : Int) (c : Nat) : (Txt.rjustF x i c).length = (i.toNat - x.length) + x.length := by
  rw [len_of_list (rjustF_list x i c)]
  simp [Str.length]
/-- a whole number with its commas (below a million), a word behind it -/
def digs (n : Int) : Str := if n < 1000 then dg n else dg (n.fdiv 1000) ++ Str.ofString "," ++ Txt.rjustF (dg (n.fmod 1000)) 3 48
def many (n : Int) (x : Str) : Str := digs n ++ Str.ofString " " ++ x ++ (if n = 1 then Str.ofString "" else Str.ofString "s")
theorem zero_code : (Str.ofString "0").cps.getD 0 0 = 48 := by decide +kernel
local macro_rules | `(tactic| walk_at "binaryOp Add str str") => `(tactic| (k_here; (with_reducible show wpAny _ _ (binaryOp Operator.Add (Value.str _ _) (Value.str _ _)) _ _ _); (refine add_str (hsz := ?hsz9) ?_; (case hsz9 => ((simp only [Str.length_append, rj_len, sizeLine_eq]); omega)));  intro _ _))
set_option maxHeartbeats 8000000 in
theorem c_many (w : World) (news : List (Addr × Obj)) (n : Int) (x : Str) (tn tx : Tok) (h0 : 0 ≤ n) (h1 : n < 1000000) (hx : x.length ≤ 100) : Con 2 w 292 [.int n tn, .str x tx] news (fun v => ∃ t, v = .str (many n x) t) := by
  have kM := kstMark
  have hA : (Str.ofString (toString (n.fdiv 1000))).length ≤ 10 := dg_len (by law_fm; omega) (by law_fm; omega)
  have hB : (Str.ofString (toString (n.fmod 1000))).length ≤ 10 := dg_len (by law_fm; omega) (by law_fm; omega)
  have hC : (Str.ofString ",").length = 1 := by decide +kernel
  have hD : (Str.ofString " ").length = 1 := by decide +kernel
  have hE : (Str.ofString "s").length = 1 := by decide +kernel
  have hF : (Str.ofString "").length = 0 := by decide +kernel
  unfold Con PR; k_fill; intro dp un gd cn cs a ccd cl outer A₀ base h₀ L m mg mb mean s Q E B F X N T hk hdp hun hret; refine wpAny_call ?_; k_dflt (refine' code_def ?k1 ?k2 ?k3 ?k4 ?k5 ?kA ?kF ?kK ?k6 ?k7 ?k8 ?k9 ?kB ?_ ?c2 ?c3 ?c4 ?c5; (case kA => exact rfl); (case kF => exact rfl); (case kK => assumption); (case k1 => k_asm); (case k2 => k_asm); (case k3 => k_asm); (case k4 => k_asm); (case k5 => k_asm); (case k6 => k_is); (case k7 => k_is); (case k8 => ktr_room); (case k9 => first | exact BindsTo.of_eq rfl | exact binds_K (by k_in) rfl (by k_is) rfl rfl rfl); (case c5 => decide); (case kB => exact locs rfl); (case c2 => exact rfl); (case c3 => exact rfl); (case c4 => exact rfl); k_whole; intro g' L' h' FG' F' N' B' X' T'; (try dsimp only); (try k_lift B'); (try k_fold))
  k_steps
  all_goals (refine' hret _ _ _ ?_ (by k_asm) (by first | k_asm | exact cb_drop (by assumption) (by kcj_all)))
  all_goals (refine vstr ?_)
  all_goals (unfold many digs; (try rw [zero_code]); (repeat' split) <;> first | rfl | (exfalso; omega))
/-- with the article where it is one -/
def one (n : Int) (x : Str) : Str := if n = 1 then (if x = Str.ofString "hour" then Str.ofString "an " else Str.ofString "a ") ++ x else many n x
local macro_rules | `(tactic| walk_at "call ref") => `(tactic| (k_here; (with_reducible show wpAny _ _ (call (Value.ref 292) [Value.int _ _, Value.str _ _]) _ _ _); k_dflt (refine' con_str (c_many _ _ _ _ _ _ ?p1 ?p2 ?p3) ?k1 ?k2 ?k3 ?k4 ?k5 ?k6 ?k7 ?k8 ?_); (case p1 => omega); (case p2 => omega); (case p3 => first | assumption | decide +kernel); (case k1 => k_asm); (case k2 => k_asm); (case k3 => k_asm); (case k4 => k_asm); (case k5 => k_asm); (case k6 => first | exact rfl | assumption); (case k7 => ktr_room); (case k8 => ktr_units); intro t9 h9 tk9 F9 N9; (try dsimp only); (try k_fold)))
set_option maxHeartbeats 8000000 in
theorem c_one (w : World) (news : List (Addr × Obj)) (n : Int) (x : Str) (tn tx : Tok) (h0 : 0 ≤ n) (h1 : n < 1000000) (hx : x.length ≤ 100) : Con 4 w 299 [.int n tn, .str x tx] news (fun v => ∃ t, v = .str (one n x) t) := by
  have kM := kstMark
  have hC : (Str.ofString "a ").length = 2 := by decide +kernel
  have hD : (Str.ofString "an ").length = 3 := by decide +kernel
  unfold Con PR; k_fill; intro dp un gd cn cs a ccd cl outer A₀ base h₀ L m mg mb mean s Q E B F X N T hk hdp hun hret; refine wpAny_call ?_; k_dflt (refine' code_def ?k1 ?k2 ?k3 ?k4 ?k5 ?kA ?kF ?kK ?k6 ?k7 ?k8 ?k9 ?kB ?_ ?c2 ?c3 ?c4 ?c5; (case kA => exact rfl); (case kF => exact rfl); (case kK => assumption); (case k1 => k_asm); (case k2 => k_asm); (case k3 => k_asm); (case k4 => k_asm); (case k5 => k_asm); (case k6 => k_is); (case k7 => k_is); (case k8 => ktr_room); (case k9 => first | exact BindsTo.of_eq rfl | exact binds_K (by k_in) rfl (by k_is) rfl rfl rfl); (case c5 => decide); (case kB => exact locs rfl); (case c2 => exact rfl); (case c3 => exact rfl); (case c4 => exact rfl); k_whole; intro g' L' h' FG' F' N' B' X' T'; (try dsimp only); (try k_lift B'); (try k_fold))
  k_steps
  all_goals (refine' hret _ _ _ ?_ (by k_asm) (by first | k_asm | exact cb_drop (by assumption) (by kcj_all)))
  all_goals (refine vstr ?_)
  all_goals (unfold one; (repeat' split) <;> first | rfl | (exfalso; first | omega | contradiction | (simp_all; done)))
end Mine
/-! part MF -/
namespace Mine
section
open PySem.Calls
variable {prog : Program} {w : World} {A : Around} {E : Value → Shared → Prop} {s : Shared}
theorem tup2_lt_tree {a b : Addr} {oa ob : Obj} {na nb : Nat} {p q p' q' : Int} {t u t' u' : Tok} {P : Fin → Shared → Prop}
    (hoa : s.heap.get? a = some oa) (hda : oa.data = .seq #[.int p t, .int q u] na) (hob : s.heap.get? b = some ob) (hcb : ob.cls = .type "tuple") (hdb : ob.data = .seq #[.int p' t', .int q' u'] nb)
    (h : P (.done (.ret (.bool (decide (p < p' ∨ (p = p' ∧ q < q')))))) s) :
    wpAny (model prog w) A (Builtin.«tuple.__lt__» ⟨[.ref a, .ref b], []⟩) P E s := by
  have hTb : s.TypeIs (.ref b) "tuple" := ⟨_, hob, hcb⟩
  show wpAny _ _ (isInstance (.ref b) (.type "tuple") >>= _) _ _ s
  refine wpAny_bind (wpAny_isInstance hTb isSubtype_tuple_tuple ?_)
  simp only [Bool.not_true, Bool.false_eq_true, if_false]
  refine wpAny_bind (wpAny_tupleItemsOf hoa hda ?_)
  refine wpAny_bind (wpAny_tupleItemsOf hob hdb ?_)
  refine wpAny_bind ?_
  simp only [List.zip_cons_cons, List.zip_nil_right, List.forIn_cons, List.forIn_nil]
  have lt1 : ∀ {x y : Int} {t u : Tok} {Q : Value → Shared → Prop}, Q (.bool (decide (x < y))) s → wpAny (model prog w) A (richCompare .Lt (.int x t) (.int y u)) Q E s := fun hq => lt_int hq
  refine wpAny_bind (wpAny_bind (wpAny_eqBool_int ?_))
  by_cases e1 : p = p'
  · have b1 : (p == p') = true := beq_iff_eq.mpr e1
    simp only [b1, Bool.not_true, Bool.false_eq_true, if_false]
    refine wpAny_pure ?_
    refine wpAny_bind (wpAny_bind (wpAny_eqBool_int ?_))
    by_cases e2 : q = q'
    · have b2 : (q == q') = true := beq_iff_eq.mpr e2
      simp only [b2, Bool.not_true, Bool.false_eq_true, if_false]
      refine wpAny_pure (wpAny_pure ?_)
      have hd : decide (p < p' ∨ (p = p' ∧ q < q')) = false := decide_eq_false (by omega)
      rw [hd] at h
      exact wpAny_pure h
    · have b2 : (q == q') = false := beq_eq_false_iff_ne.mpr e2
      simp only [b2, Bool.not_false, if_true]
      refine wpAny_bind (wpAny_rule (wpAny_bind (lt1 (wpAny_bind (wpAny_pure (wpAny_pure (wpAny_pure ?_)))))))
      have hd : decide (p < p' ∨ (p = p' ∧ q < q')) = decide (q < q') := decide_eq_decide.mpr (by omega)
      rw [hd] at h
      exact wpAny_pure h
  · have b1 : (p == p') = false := beq_eq_false_iff_ne.mpr e1
    simp only [b1, Bool.not_false, if_true]
    refine wpAny_bind (wpAny_rule (wpAny_bind (lt1 (wpAny_bind (wpAny_pure (wpAny_pure (wpAny_pure ?_)))))))
    have hd : decide (p < p' ∨ (p = p' ∧ q < q')) = decide (p < p') := decide_eq_decide.mpr (by omega)
    rw [hd] at h
    exact wpAny_pure h
/-- two made pairs of ints, by < -/
theorem tup2_lt {h₀ : Heap} {L : Addr} {news : List (Addr × Obj)} {a b : Addr} {na nb : Nat} {p q p' q' : Int} {t u t' u' : Tok} {Q : Value → Shared → Prop} (hu : A.units < cLine)
    (N : News h₀ L s.heap news) (ha : (a, ({ cls := .type "tuple", data := .seq #[.int p t, .int q u] na } : Obj)) ∈ news) (hb : (b, ({ cls := .type "tuple", data := .seq #[.int p' t', .int q' u'] nb } : Obj)) ∈ news)
    (h : Q (.bool (decide (p < p' ∨ (p = p' ∧ q < q')))) s) : wpAny (model prog w) A (compareOp .Lt (.ref a) (.ref b)) Q E s := by
  have hoa := (N _ ha).1
  have hob := (N _ hb).1
  have hTa : s.TypeIs (.ref a) "tuple" := ⟨_, hoa, rfl⟩
  have hTb : s.TypeIs (.ref b) "tuple" := ⟨_, hob, rfl⟩
  exact wpAny_richCompare_same_room (op := .Lt) hTa hTb F.slot_tuple_lt
    (wpAny_call_entry F.slot_tuple_lt hTa F.entry_tuple_lt (tup2_lt_tree hoa rfl hob rfl rfl ⟨_, rfl, (fun e => nomatch e), h⟩) (F.args_tuple_lt_2 _ _)) hu
end
def nearC (n d : Int) : Prop := ((if n - (n.fdiv d + 1) * d < 0 then -(n - (n.fdiv d + 1) * d) else n - (n.fdiv d + 1) * d) < (if n - n.fdiv d * d < 0 then -(n - n.fdiv d * d) else n - n.fdiv d * d) ∨
  ((if n - (n.fdiv d + 1) * d < 0 then -(n - (n.fdiv d + 1) * d) else n - (n.fdiv d + 1) * d) = (if n - n.fdiv d * d < 0 then -(n - n.fdiv d * d) else n - n.fdiv d * d) ∧ (n.fdiv d + 1).fmod 2 < (n.fdiv d).fmod 2))
theorem near_iff {n d : Int} (hd : 0 < d) : nearC n d ↔ (2 * n.fmod d > d ∨ (2 * n.fmod d = d ∧ (n.fdiv d).fmod 2 = 1)) := by
  have hq := (fdiv_fmod_facts n d).1
  have hr := (fdiv_fmod_facts n d).2.2.1 hd
  have hm : (n.fdiv d + 1) * d = n.fdiv d * d + d := by rw [Int.add_mul, Int.one_mul]
  have h1 := (fdiv_fmod_facts (n.fdiv d) 2).1
  have h2 := (fdiv_fmod_facts (n.fdiv d) 2).2.2.1 (by decide)
  have h3 := (fdiv_fmod_facts (n.fdiv d + 1) 2).1
  have h4 := (fdiv_fmod_facts (n.fdiv d + 1) 2).2.2.1 (by decide)
  unfold nearC
  rw [hm]
  generalize n.fdiv d * d = P at *
  generalize n.fdiv d = q at *
  generalize n.fmod d = r at *
  generalize q.fmod 2 = a at *
  generalize (q + 1).fmod 2 = b at *
  split <;> split <;> omega
theorem near_yes {n d : Int} (hd : 0 < d) (h : nearC n d) : n.fdiv d + 1 = rnd n d := by
  unfold rnd
  rw [if_pos ((near_iff hd).mp h)]
theorem near_no {n d : Int} (hd : 0 < d) (h : ¬ nearC n d) : n.fdiv d = rnd n d := by
  unfold rnd
  rw [if_neg fun e => h ((near_iff hd).mpr e)]
local macro_rules | `(tactic| k_room) => `(tactic| ktr_room)
local macro_rules | `(tactic| walk_at "compareOp Lt ref ref") => `(tactic| (k_here; k_dflt (refine' tup2_lt ?k0 ?k1 ?k2 ?k3 ?_; (case k1 => k_asm); (case k2 => k_mem); (case k3 => k_mem); (case k0 => ktr_units); k_whole)))
set_option maxHeartbeats 8000000 in
theorem c_nearest (w : World) (news : List (Addr × Obj)) (n d : Int) (tn td : Tok) (h0 : 0 ≤ n) (h1 : n < 10000000000) (hd0 : 0 < d) (hd1 : d < 5000) : Con 2 w 285 [.int n tn, .int d td] news (RndIs n d) := by
  have kM := kstMark
  unfold Con PR; k_fill; intro dp un gd cn cs a ccd cl outer A₀ base h₀ L m mg mb mean s Q E B F X N T hk hdp hun hret; refine wpAny_call ?_; k_dflt (refine' code_pure ?k1 ?k2 ?k3 ?k5 ?kA ?kF ?kK ?k6 ?k7 ?k8 ?k9 ?kB ?_ ?c2 ?c3 ?c4 ?c5; (case kA => exact rfl); (case kF => exact rfl); (case kK => assumption); (case k1 => k_asm); (case k2 => k_asm); (case k3 => k_asm); (case k5 => k_asm); (case k6 => k_is); (case k7 => k_is); (case k8 => ktr_room); (case k9 => first | exact BindsTo.of_eq rfl | exact binds_K (by k_in) rfl (by k_is) rfl rfl rfl); (case c5 => decide); (case kB => exact locs rfl); (case c2 => exact rfl); (case c3 => exact rfl); (case c4 => exact rfl); k_whole; intro g' L' h' hg9 FG' F' N' B' X' T'; (try dsimp only); (try k_lift B'); (try k_fold))
  k_steps
  all_goals (refine' hret _ _ _ ?_ (by k_asm) (pure_news N hg9 (by assumption)))
  all_goals refine rndIs h0 hd0 ?_
  all_goals first | exact near_yes hd0 (by assumption) | exact near_no hd0 (by assumption) | exact absurd rfl (by assumption : n.fdiv d ≠ n.fdiv d) | (exfalso; omega)
end Mine
/-! part MG -/
namespace Mine
theorem many_len {n : Int} {x : Str} (h0 : 0 ≤ n) (h1 : n < 1000000) : (many n x).length ≤ 40 + x.length := by
  have hA : (Str.ofString (toString n)).length ≤ 10 := dg_len h0 (by omega)
  have f1 := fd (b := 1000) (by decide) h0
  have f2 := (fdiv_fmod_facts n 1000).2.2.1 (by decide)
  have hB : (Str.ofString (toString (n.fdiv 1000))).length ≤ 10 := dg_len (by omega) (by omega)
  have hC : (Str.ofString (toString (n.fmod 1000))).length ≤ 10 := dg_len (by omega) (by omega)
  have h2 : (Str.ofString ",").length = 1 := by decide +kernel
  have h3 : (Str.ofString " ").length = 1 := by decide +kernel
  have h4 : (Str.ofString "s").length = 1 := by decide +kernel
  have h5 : (Str.ofString "").length = 0 := by decide +kernel
  unfold many digs
  (repeat' split) <;> (simp only [dg, Str.length_append, rj_len]; omega)
theorem add_many {prog : Program} {w : World} {A : Around} {E : Value → Shared → Prop} {s : Shared} {y x : Str} {n : Int} {t u : Tok} {Q : Value → Shared → Prop} (h0 : 0 ≤ n) (h1 : n < 1000000) (hx : x.length ≤ 100) (hy : y.length ≤ 100)
    (h : ∀ t' tk, Q (.str (y ++ many n x) t') { s with toks := tk }) : wpAny (model prog w) A (binaryOp .Add (.str y t) (.str (many n x) u)) Q E s := by
  refine add_str h ?_
  have := many_len (x := x) h0 h1
  rw [sizeLine_eq]
  omega
theorem max_gt (d : Int) : (if 1 > d then 1 else d) = max d 1 := by
  rw [Int.max_def]; split <;> split <;> omega
def said (span : Int) (months : Bool) (least : Int) : Str :=
  if span.fdiv 1000000 = 0 then
    (if least = 2 then (if span < 1000 then many span (Str.ofString "microsecond") else many (span.fdiv 1000) (Str.ofString "millisecond"))
     else if least = 1 then many (span.fdiv 1000) (Str.ofString "millisecond") else Str.ofString "a moment")
  else if span.fdiv 1000000 < 60 then one (span.fdiv 1000000) (Str.ofString "second")
  else if span.fdiv 1000000 < 3600 ∧ rnd (span.fdiv 1000000) 60 < 60 then one (rnd (span.fdiv 1000000) 60) (Str.ofString "minute")
  else if span.fdiv 1000000 < 86400 ∧ rnd (span.fdiv 1000000) 3600 < 24 then one (rnd (span.fdiv 1000000) 3600) (Str.ofString "hour")
  else if span.fdiv 86400000000 ≥ 730 then many (rnd (span.fdiv 86400000000) 365) (Str.ofString "year")
  else if months = true ∧ rnd (2 * (span.fdiv 86400000000).fmod 365) 61 ≠ 0 then
    (if rnd (2 * (span.fdiv 86400000000).fmod 365) 61 = 12 then (if span.fdiv 86400000000 ≥ 365 then Str.ofString "2 years" else Str.ofString "a year")
     else if span.fdiv 86400000000 ≥ 365 then Str.ofString "1 year, " ++ many (rnd (2 * (span.fdiv 86400000000).fmod 365) 61) (Str.ofString "month")
     else one (rnd (2 * (span.fdiv 86400000000).fmod 365) 61) (Str.ofString "month"))
  else if span.fdiv 86400000000 ≥ 365 then
    (if (span.fdiv 86400000000).fmod 365 = 0 then Str.ofString "a year" else Str.ofString "1 year, " ++ many ((span.fdiv 86400000000).fmod 365) (Str.ofString "day"))
  else one (max (span.fdiv 86400000000) 1) (Str.ofString "day")
local macro_rules | `(tactic| k_room) => `(tactic| ktr_room)
local macro_rules | `(tactic| walk_at "call ref") => `(tactic| (k_here; (with_reducible show wpAny _ _ (call (Value.ref 292) [Value.int _ _, Value.str _ _]) _ _ _); k_dflt (refine' con_str (c_many _ _ _ _ _ _ ?p1 ?p2 ?p3) ?k1 ?k2 ?k3 ?k4 ?k5 ?k6 ?k7 ?k8 ?_); (case p1 => omega); (case p2 => omega); (case p3 => first | assumption | decide +kernel); (case k1 => k_asm); (case k2 => k_asm); (case k3 => k_asm); (case k4 => k_asm); (case k5 => k_asm); (case k6 => first | exact rfl | assumption); (case k7 => ktr_room); (case k8 => ktr_units); intro t9 h9 tk9 F9 N9; (try dsimp only); (try k_fold)))
local macro_rules | `(tactic| walk_at "call ref") => `(tactic| (k_here; (with_reducible show wpAny _ _ (call (Value.ref 299) [Value.int _ _, Value.str _ _]) _ _ _); k_dflt (refine' con_str (c_one _ _ _ _ _ _ ?p1 ?p2 ?p3) ?k1 ?k2 ?k3 ?k4 ?k5 ?k6 ?k7 ?k8 ?_); (case p1 => omega); (case p2 => omega); (case p3 => first | assumption | decide +kernel); (case k1 => k_asm); (case k2 => k_asm); (case k3 => k_asm); (case k4 => k_asm); (case k5 => k_asm); (case k6 => first | exact rfl | assumption); (case k7 => ktr_room); (case k8 => ktr_units); intro t9 h9 tk9 F9 N9; (try dsimp only); (try k_fold)))
local macro_rules | `(tactic| walk_at "call ref") => `(tactic| (k_here; (with_reducible show wpAny _ _ (call (Value.ref 285) [Value.int _ _, Value.int _ _]) _ _ _); k_dflt (refine' con_rnd (c_nearest _ _ _ _ _ _ ?p1 ?p2 ?p3 ?p4) ?k1 ?k2 ?k3 ?k4 ?k5 ?k6 ?k7 ?k8 ?_); (case p1 => omega); (case p2 => omega); (case p3 => omega); (case p4 => omega); (case k1 => k_asm); (case k2 => k_asm); (case k3 => k_asm); (case k4 => k_asm); (case k5 => k_asm); (case k6 => first | exact rfl | assumption); (case k7 => ktr_room); (case k8 => ktr_units); intro t9 h9 tk9 hb9 F9 N9; (try dsimp only); (try k_fold)))
local macro_rules | `(tactic| walk_at "binaryOp Pow int int") => `(tactic| (k_here; (with_reducible show wpAny _ _ (binaryOp Operator.Pow (Value.int 10 _) (Value.int 6 _)) _ _ _); refine pow_lit (r := 1000000) (by decide) (by decide) (by decide) (by decide) ?_))
local macro_rules | `(tactic| walk_at "binaryOp Mult int int") => `(tactic| (k_here; (with_reducible show wpAny _ _ (binaryOp Operator.Mult (Value.int 86400 _) (Value.int 1000000 _)) _ _ _); refine mul_lit (r := 86400000000) (by decide) ?_))
local macro_rules | `(tactic| walk_at "binaryOp Add str str") => `(tactic| (k_here; (with_reducible show wpAny _ _ (binaryOp Operator.Add (Value.str _ _) (Value.str (many _ _) _)) _ _ _); (refine' add_many ?p1 ?p2 ?p3 ?p4 ?_; (case p1 => omega); (case p2 => omega); (case p3 => decide +kernel); (case p4 => decide +kernel)); intro t9 tk9; (try dsimp only)))
set_option maxHeartbeats 8000000 in
theorem c_said (w : World) (news : List (Addr × Obj)) (span : Int) (months : Bool) (least : Int) (tn tl : Tok) (h0 : 0 ≤ span) (h1 : span < 86400000000 * 1000000) : Con 6 w 306 [.int span tn, .bool months, .int least tl] news (fun v => ∃ t, v = .str (said span months least) t) := by
  have kM := kstMark
  have hs := fd (b := 1000000) (by decide) h0
  have hd := fd (b := 86400000000) (by decide) h0
  have hk := fd (b := 1000) (by decide) h0
  have hr := fdiv_fmod_facts (span.fdiv 86400000000) 365
  have hr2 := hr.2.2.1 (by decide)
  unfold Con PR; k_fill; intro dp un gd cn cs a ccd cl outer A₀ base h₀ L m mg mb mean s Q E B F X N T hk hdp hun hret; refine wpAny_call ?_; k_dflt (refine' code_pure ?k1 ?k2 ?k3 ?k5 ?kA ?kF ?kK ?k6 ?k7 ?k8 ?k9 ?kB ?_ ?c2 ?c3 ?c4 ?c5; (case kA => exact rfl); (case kF => exact rfl); (case kK => assumption); (case k1 => k_asm); (case k2 => k_asm); (case k3 => k_asm); (case k5 => k_asm); (case k6 => k_is); (case k7 => k_is); (case k8 => ktr_room); (case k9 => first | exact BindsTo.of_eq rfl | exact binds_K (by k_in) rfl (by k_is) rfl rfl rfl); (case c5 => decide); (case kB => exact locs rfl); (case c2 => exact rfl); (case c3 => exact rfl); (case c4 => exact rfl); k_whole; intro g' L' h' hg9 FG' F' N' B' X' T'; (try dsimp only); (try k_lift B'); (try k_fold))
  k_steps
  all_goals (refine' hret _ _ _ ?_ (by k_asm) (pure_news N hg9 (by assumption)))
  all_goals (refine vstr ?_; (try rw [max_gt]))
  all_goals (unfold said; cases months <;> first | contradiction | ((try simp only [true_and, Bool.false_eq_true, false_and, if_false, ne_eq]); (repeat' (first | rfl | (rw [if_pos (by first | assumption | omega)]) | (rw [if_neg (by first | assumption | omega)])))); (try (exfalso; omega)))
end Mine
/-! part MH -/
namespace Mine
section
open PySem.Calls
variable {prog : Program} {w : World} {A : Around} {E : Value → Shared → Prop} {s : Shared}
def noneHash : Int := 0xfca86420
theorem pyHash_none {Q : Int → Shared → Prop} (h : Q noneHash { s with toks := s.toks + 1 }) : wpAny (model prog w) A (pyHash .none) Q E s := by
  have hT : s.TypeIs Value.none "NoneType" := rfl
  unfold pyHash
  have hv : [Value.none].any Value.onHeap = false := rfl
  refine wpAny_bind ?_
  rw [cRoomFor, if_neg (by rw [hv]; exact Bool.false_ne_true)]; refine wpAny_pure ?_
  refine wpAny_bind (wpAny_specialOf hT PySem.F.slot_NoneType_hash.lookup ?_)
  show wpAny _ _ (if (some (Value.builtin "NoneType.__hash__") == some Value.none) = true then _ else _) Q E s
  rw [if_neg (by rw [beq_builtin_none]; exact Bool.false_ne_true)]
  refine wpAny_bind (wpAny_specialOf hT PySem.F.slot_NoneType_hash.lookup ?_)
  show wpAny _ _ (callSpecialIfBoundUnlessNone? .none "__hash__" _ >>= _) Q E s
  refine wpAny_bind (wpAny_callSpecialIfBoundUnlessNone?_slot hT PySem.F.slot_NoneType_hash
    (wpAny_call_entry PySem.F.slot_NoneType_hash hT PySem.F.entry_NoneType_hash
      (show wpAny _ _ (do ret (← mkInt noneHash)) _ _ s from wpAny_ret_mkInt ?_) (PySem.F.args_NoneType_hash_1 _)))
  show wpAny _ _ (if (decide (-(2 : Int) ^ 63 ≤ noneHash) && decide (noneHash < 2 ^ 63)) = true then _ else _) Q E _
  rw [if_pos (by decide)]
  exact wpAny_pure h
theorem eqBool_str_none {x : Str} {t : Tok} {Q : Bool → Shared → Prop} (h : Q false s) : wpAny (model prog w) A (eqBool (.str x t) .none) Q E s := by
  unfold eqBool
  refine wpAny_holding ?_
  rw [if_neg (by intro e; cases (eq_of_beq e))]
  exact wpAny_bind (EqNone.eq_str_none (wpAny_truthy_bool h))
theorem eqBool_none_str {x : Str} {t : Tok} {Q : Bool → Shared → Prop} (h : Q false s) : wpAny (model prog w) A (eqBool .none (.str x t)) Q E s := by
  unfold eqBool
  refine wpAny_holding ?_
  rw [if_neg (by intro e; cases (eq_of_beq e))]
  exact wpAny_bind (EqNone.eq_none_str (wpAny_truthy_bool h))
theorem eqBool_none_none {Q : Bool → Shared → Prop} (h : Q true s) : wpAny (model prog w) A (eqBool .none .none) Q E s := by
  unfold eqBool
  refine wpAny_holding ?_
  rw [if_pos (show (Value.none == Value.none) = true by decide)]
  exact wpAny_bind (wpAny_rule (wpAny_pure h))
def isOpt : Option Str → Value → Bool
  | none, .none => true
  | some x, v => Value.isStrOf x v
  | _, _ => false
theorem isOpt_none {v : Value} (h : isOpt none v = true) : v = .none := by cases v <;> first | rfl | cases h
def optHash (w : World) : Option Str → Int
  | none => noneHash
  | some x => hashStr w x
theorem opt_inj (v : Value) (a b : Option Str) (ha : isOpt a v = true) (hb : isOpt b v = true) : a = b := by
  cases a with
  | none =>
    cases isOpt_none ha
    cases b with
    | none => rfl
    | some y => cases hb
  | some x =>
    cases b with
    | none => cases isOpt_none hb; cases ha
    | some y => exact congrArg some (Value.isStrOf_inj v x y ha hb)
theorem opt_byValue (k : Option Str) (v : Value) (h : isOpt k v = true) : carriedByValue v = true := by
  cases k with
  | none => cases isOpt_none h; rfl
  | some x => obtain ⟨t, rfl⟩ := Value.isStrOf_shape (show Value.isStrOf x v = true from h); rfl
theorem opt_pyHash {k : Option Str} {v : Value} {Q : Int → Shared → Prop} (hv : isOpt k v = true) (h : Q (optHash w k) { s with toks := s.toks + 1 }) : wpAny (model prog w) A (PySem.pyHash v) Q E s := by
  cases k with
  | none => cases isOpt_none hv; exact pyHash_none h
  | some x => exact (PySem.strKind prog w).pyHash (k := x) hv h
theorem opt_eqBool {a b : Option Str} {u v : Value} {Q : Bool → Shared → Prop} (hu : isOpt a u = true) (hv : isOpt b v = true) (h : Q (decide (a = b)) s) : wpAny (model prog w) A (PySem.eqBool u v) Q E s := by
  cases a with
  | none =>
    cases isOpt_none hu
    cases b with
    | none => cases isOpt_none hv; exact eqBool_none_none h
    | some y => obtain ⟨t, rfl⟩ := Value.isStrOf_shape (show Value.isStrOf y v = true from hv); exact eqBool_none_str h
  | some x =>
    cases b with
    | none => obtain ⟨t, rfl⟩ := Value.isStrOf_shape (show Value.isStrOf x u = true from hu); cases isOpt_none hv; exact eqBool_str_none h
    | some y =>
      refine (PySem.strKind prog w).eqBool (a := x) (b := y) hu hv ?_
      have e : decide (x = y) = decide (some x = some y) := decide_eq_decide.mpr (by simp)
      rw [e]
      exact h
theorem opt_strs {prog : Program} {w : World} (k : Option Str) (x : Str) (t : Tok) (v : Value) (h : isOpt k (.str x t) = true) : isOpt k v = v.isStr x := by
  cases k with
  | none => cases h
  | some y => exact (PySem.strKind prog w).«strs» y x t v h
/-- keys that are None or a str -/
def optKind (prog : Program) (w : World) : KeyKind prog w (Option Str) :=
  ⟨isOpt, optHash w, opt_inj, opt_byValue, opt_pyHash, opt_eqBool, opt_strs (prog := prog) (w := w)⟩
/-- get of None off a table that stands at the top, its keys written strs: the default -/
theorem get_none_K {K : Frag} {L a : Addr} {h₀ : Heap} {m : Str → Option Value} {es : Array DictEntry} {n : Nat} {v : Value} {Q : Value → Shared → Prop} (F : Fr h₀ L s.heap m) (X₀ : K.In h₀) (hl : K.lookup a = some ⟨.type "dict", none, .dict es n, #[]⟩) (hk : KeysLit w.params es.toList)
    (lo : (a == sysModules) = false) (h : Q v { s with toks := s.toks + 1 }) : wpAny (model prog w) A (call (.builtin "dict.get") [.ref a, .none, v]) Q E s := by
  have ho := (X₀.keeps F.keep) _ _ hl
  have hm : s.heap.MapOf (optKind prog w) a (fun k => findBy isOpt es k) := ⟨_, es, n, ho, ⟨rfl, rfl, rfl⟩, rfl, fun e he => by
    obtain ⟨x, t, e1, e2⟩ := hk.all e (Array.mem_toList_iff.mpr he)
    exact ⟨some x, by rw [e1]; exact strKind_is prog w x t, e2⟩, fun _ => rfl⟩
  have hf : findBy isOpt es none = none := by
    unfold findBy
    rw [Option.map_eq_none_iff, Array.find?_eq_none]
    intro e he
    obtain ⟨x, t, e1, e2⟩ := hk.all e (Array.mem_toList_iff.mpr he)
    rw [e1]
    exact fun q => by cases q
  refine call_meetsIn PySem.F.slot_dict_get hm.typeIs PySem.F.entry_dict_get (PySem.F.args_dict_get_3 _ _ _) (meets_dict_get_default (optKind prog w) a (k := none) rfl lo v) ⟨_, hm, ?_⟩
  rw [hf]
  exact h
end
local macro_rules | `(tactic| k_room) => `(tactic| ktr_room)
local macro_rules | `(tactic| walk_at "call builtin:dict.get") => `(tactic| (k_here; (with_reducible show wpAny _ _ (call (Value.builtin "dict.get") [Value.ref _, Value.none, _]) _ _ _); k_dflt (refine' get_none_K ?F ?X ?l ?k ?o ?_; (case F => k_asm); (case X => k_asm); (case l => k_is); (case k => k_keys); (case o => decide))))
set_option maxHeartbeats 8000000 in
theorem c_sep (w : World) (news : List (Addr × Obj)) : Con 2 w 226 [] news (fun v => ∃ t, v = .str (Str.ofString ",") t) := by
  have kM := kstMark
  unfold Con PR; k_fill; intro dp un gd cn cs a ccd cl outer A₀ base h₀ L m mg mb mean s Q E B F X N T hk hdp hun hret; refine wpAny_call ?_; k_dflt (refine' code_pure ?k1 ?k2 ?k3 ?k5 ?kA ?kF ?kK ?k6 ?k7 ?k8 ?k9 ?kB ?_ ?c2 ?c3 ?c4 ?c5; (case kA => exact rfl); (case kF => exact rfl); (case kK => assumption); (case k1 => k_asm); (case k2 => k_asm); (case k3 => k_asm); (case k5 => k_asm); (case k6 => k_is); (case k7 => k_is); (case k8 => ktr_room); (case k9 => first | exact BindsTo.of_eq rfl | exact binds_K (by k_in) rfl (by k_is) rfl rfl rfl); (case c5 => decide); (case kB => exact locs rfl); (case c2 => exact rfl); (case c3 => exact rfl); (case c4 => exact rfl); k_whole; intro g' L' h' hg9 FG' F' N' B' X' T'; (try dsimp only); (try k_lift B'); (try k_fold))
  k_steps
  all_goals (refine' hret _ _ _ ?_ (by k_asm) (pure_news N hg9 (by assumption)))
  all_goals exact vstr rfl
set_option maxHeartbeats 8000000 in
theorem c_dec (w : World) (news : List (Addr × Obj)) : Con 2 w 233 [] news (fun v => ∃ t, v = .str (Str.ofString ".") t) := by
  have kM := kstMark
  unfold Con PR; k_fill; intro dp un gd cn cs a ccd cl outer A₀ base h₀ L m mg mb mean s Q E B F X N T hk hdp hun hret; refine wpAny_call ?_; k_dflt (refine' code_pure ?k1 ?k2 ?k3 ?k5 ?kA ?kF ?kK ?k6 ?k7 ?k8 ?k9 ?kB ?_ ?c2 ?c3 ?c4 ?c5; (case kA => exact rfl); (case kF => exact rfl); (case kK => assumption); (case k1 => k_asm); (case k2 => k_asm); (case k3 => k_asm); (case k5 => k_asm); (case k6 => k_is); (case k7 => k_is); (case k8 => ktr_room); (case k9 => first | exact BindsTo.of_eq rfl | exact binds_K (by k_in) rfl (by k_is) rfl rfl rfl); (case c5 => decide); (case kB => exact locs rfl); (case c2 => exact rfl); (case c3 => exact rfl); (case c4 => exact rfl); k_whole; intro g' L' h' hg9 FG' F' N' B' X' T'; (try dsimp only); (try k_lift B'); (try k_fold))
  k_steps
  all_goals (refine' hret _ _ _ ?_ (by k_asm) (pure_news N hg9 (by assumption)))
  all_goals exact vstr rfl
end Mine
/-! part MI -/
namespace Mine
theorem empty_left (x : Str) : Str.ofString "" ++ x = x := str_of_list (by rw [KT.app_list]; rfl)
theorem empty_right (x : Str) : x ++ Str.ofString "" = x := str_of_list (by rw [KT.app_list]; exact List.append_nil _)
theorem two_of_map {α β : Type} {a b : α} : ∀ {l : List (α × β)}, l.map (·.1) = [a, b] → ∃ t u, l = [(a, t), (b, u)]
  | [(_, t), (_, u)], h => by
    simp only [List.map_cons, List.map_nil, List.cons.injEq, and_true] at h
    obtain ⟨rfl, rfl⟩ := h
    exact ⟨t, u, rfl⟩
  | [], h => by cases h
  | [_], h => by simp at h
  | _ :: _ :: _ :: _, h => by simp at h
theorem pct_split : Txt.splitMax (Str.ofString "%d") (Str.ofString "%") 1 = [Str.ofString "", Str.ofString "d"] := by decide +kernel
theorem split_pct {prog : Program} {w : World} {A : Around} {E : Value → Shared → Prop} {s : Shared} {h₀ : Heap} {L : Addr} {m : Str → Option Value} {news : List (Addr × Obj)} {t u v : Tok} {Q : Value → Shared → Prop} (F : Fr h₀ L s.heap m) (N : News h₀ L s.heap news)
    (h : ∀ l t u h' tk, Fr h₀ L h' m → News h₀ L h' ((l, ({ cls := .type "list", data := .seq #[.str (Str.ofString "") t, .str (Str.ofString "d") u] } : Obj)) :: news) → (∀ p ∈ news, p.1 < l) → Q (.ref l) { s with heap := h', toks := tk }) :
    wpAny (model prog w) A (call (.builtin "str.split") [.str (Str.ofString "%d") t, .str (Str.ofString "%") u, .int 1 v]) Q E s := by
  refine splitN2A F N (by decide +kernel) (by decide +kernel) (fun l h' tk hl _ _ _ F' N' => ?_) (by decide +kernel)
  rw [pct_split] at hl
  obtain ⟨t, u, rfl⟩ := two_of_map hl
  exact h _ t u h' tk F' N' fun p hp => Heap.lt_size (N p hp).1
local macro_rules | `(tactic| k_room) => `(tactic| ktr_room)
local macro_rules | `(tactic| walk_at "call builtin:str.split") => `(tactic| (k_here; (with_reducible show wpAny _ _ (call (Value.builtin "str.split") [Value.str (Str.ofString "%d") _, Value.str _ _, Value.int _ _]) _ _ _); refine' split_pct ?k1 ?k2 ?_; (case k1 => k_asm); (case k2 => k_asm); intro l9 t9 u9 h9 tk9 F9 N9 l1; (try k_lt l1); (try k_sweep)))
local macro_rules | `(tactic| walk_at "ite") => `(tactic| (k_closed; first | refine ite_pos (by decide +kernel) ?_ | refine ite_neg (by decide +kernel) ?_))
set_option maxHeartbeats 8000000 in
theorem c_laid (w : World) (news : List (Addr × Obj)) (y : Int) (t ty : Tok) (h0 : 0 ≤ y) (h1 : y < 10000000) : Con 2 w 196 [.str (Str.ofString "%d") t, .int y ty] news (fun v => ∃ t, v = .str (Str.ofString (toString y)) t) := by
  have kM := kstMark
  unfold Con PR; k_fill; intro dp un gd cn cs a ccd cl outer A₀ base h₀ L m mg mb mean s Q E B F X N T hk hdp hun hret; refine wpAny_call ?_; k_dflt (refine' code_pure ?k1 ?k2 ?k3 ?k5 ?kA ?kF ?kK ?k6 ?k7 ?k8 ?k9 ?kB ?_ ?c2 ?c3 ?c4 ?c5; (case kA => exact rfl); (case kF => exact rfl); (case kK => assumption); (case k1 => k_asm); (case k2 => k_asm); (case k3 => k_asm); (case k5 => k_asm); (case k6 => k_is); (case k7 => k_is); (case k8 => ktr_room); (case k9 => first | exact BindsTo.of_eq rfl | exact binds_K (by k_in) rfl (by k_is) rfl rfl rfl); (case c5 => decide); (case kB => exact locs rfl); (case c2 => exact rfl); (case c3 => exact rfl); (case c4 => exact rfl); k_whole; intro g' L' h' hg9 FG' F' N' B' X' T'; (try dsimp only); (try k_lift B'); (try k_fold))
  k_steps
  all_goals (refine' hret _ _ _ ?_ (by k_asm) (pure_news N hg9 (by assumption)))
  all_goals exact vstr (by rw [empty_left, empty_right])
end Mine
/-! part MK -/
namespace Mine
/-! texts of digits: cut, grouped -/
theorem pick_run {α : Type} (l : List α) (a m : Nat) (h : a + m ≤ l.length) : ((List.range m).map (fun k => a + k)).filterMap (fun i => l[i]?) = (l.drop a).take m := by
  induction m with
  | zero => simp
  | succ m ih =>
    rw [List.range_succ, List.map_append, List.filterMap_append, ih (by omega), List.take_add_one, List.getElem?_drop]
    have hl : a + m < l.length := by omega
    simp [List.getElem?_eq_getElem hl]
theorem slice_cut (x : Str) (lo hi : Option Int) (a b : Nat) (hb : b ≤ x.length) (e : PySem.Builtin.Str.strSliceIndices lo hi 1 x.length = (List.range (b - a)).map (fun k => a + k)) (hab : a ≤ b) :
    (Txt.slice x lo hi).cps.toList = (x.cps.toList.drop a).take (b - a) := by
  have hn : x.cps.toList.length = x.length := by simp [Str.length]
  unfold Txt.slice
  rw [e]
  split
  · rename_i h
    simp only [BEq.rfl, Bool.true_and, List.length_map, List.length_range, beq_iff_eq] at h
    have h1 : b - a = x.length := h
    have ha : a = 0 := by omega
    have hb' : b = x.length := by omega
    subst ha
    rw [hb', List.drop_zero, Nat.sub_zero, ← hn, List.take_length]
  · have := pick_run x.cps.toList a (b - a) (by omega)
    rw [← this]
    simp
theorem idx_last3 (n : Nat) (h : 3 ≤ n) : PySem.Builtin.Str.strSliceIndices (some (-3)) none 1 n = (List.range (n - (n - 3))).map (fun k => (n - 3) + k) := by
  unfold PySem.Builtin.Str.strSliceIndices sliceRange
  simp only [show (1 : Int) > 0 by decide, if_true, show ((-3 : Int) < 0) by decide]
  have e1 : max (0 : Int) (min (-3 + (n : Int)) (n : Int)) = ((n - 3 : Nat) : Int) := by omega
  rw [e1, if_pos (by omega)]
  have e2 : (((n : Int) - ((n - 3 : Nat) : Int) + 1 - 1) / 1).toNat = n - (n - 3) := by omega
  rw [e2]
  refine List.map_congr_left fun k _ => ?_
  omega
theorem idx_init3 (n : Nat) (h : 3 < n) : PySem.Builtin.Str.strSliceIndices none (some (-3)) 1 n = (List.range ((n - 3) - 0)).map (fun k => 0 + k) := by
  unfold PySem.Builtin.Str.strSliceIndices sliceRange
  simp only [show (1 : Int) > 0 by decide, if_true, show ((-3 : Int) < 0) by decide]
  have e1 : max (0 : Int) (min (-3 + (n : Int)) (n : Int)) = ((n - 3 : Nat) : Int) := by omega
  rw [e1, if_pos (by omega)]
  have e2 : ((((n - 3 : Nat) : Int) - 0 + 1 - 1) / 1).toNat = (n - 3) - 0 := by omega
  rw [e2]
  refine List.map_congr_left fun k _ => ?_
  omega
theorem idx_zero (n : Nat) : PySem.Builtin.Str.strSliceIndices (some ((0 : Nat) : Int)) none 1 n = (List.range (n - 0)).map (fun k => 0 + k) := by
  unfold PySem.Builtin.Str.strSliceIndices sliceRange
  simp only [show (1 : Int) > 0 by decide, if_true, show ¬(((0 : Nat) : Int) < 0) by decide, if_false]
  have e1 : max (0 : Int) (min ((0 : Nat) : Int) (n : Int)) = 0 := by omega
  rw [e1]
  split
  · have e2 : (((n : Int) - 0 + 1 - 1) / 1).toNat = n - 0 := by omega
    rw [e2]
    refine List.map_congr_left fun k _ => ?_
    omega
  · have : n = 0 := by omega
    subst this
    rfl
theorem idx_one (n : Nat) (h : 1 ≤ n) : PySem.Builtin.Str.strSliceIndices none (some 1) 1 n = (List.range (1 - 0)).map (fun k => 0 + k) := by
  unfold PySem.Builtin.Str.strSliceIndices sliceRange
  simp only [show (1 : Int) > 0 by decide, if_true, show ¬((1 : Int) < 0) by decide, if_false]
  have e1 : max (0 : Int) (min 1 (n : Int)) = 1 := by omega
  rw [e1, if_pos (by omega)]
  have e2 : (((1 : Int) - 0 + 1 - 1) / 1).toNat = 1 - 0 := by omega
  rw [e2]
  refine List.map_congr_left fun k _ => ?_
  omega
theorem len_eq (x : Str) : x.length = x.cps.toList.length := by simp [Str.length]
theorem sl_last (a b : Str) (h : b.length = 3) : Txt.slice (a ++ b) (some (-3)) none = b := by
  have hl : (a ++ b).length = a.length + 3 := by rw [Str.length_append, h]
  refine str_of_list ?_
  rw [slice_cut (a ++ b) _ _ ((a ++ b).length - 3) ((a ++ b).length) (Nat.le_refl _) (idx_last3 _ (by omega)) (by omega), KT.app_list]
  have e1 : (a ++ b).length - 3 = a.cps.toList.length := by rw [← len_eq]; omega
  have e2 : (a ++ b).length - a.cps.toList.length = b.cps.toList.length := by rw [← len_eq, ← len_eq]; omega
  rw [e1, e2, List.drop_left, List.take_length]
theorem sl_init (a b : Str) (h : b.length = 3) (ha : 1 ≤ a.length) : Txt.slice (a ++ b) none (some (-3)) = a := by
  have hl : (a ++ b).length = a.length + 3 := by rw [Str.length_append, h]
  refine str_of_list ?_
  rw [slice_cut (a ++ b) _ _ 0 ((a ++ b).length - 3) (by omega) (idx_init3 _ (by omega)) (by omega), KT.app_list, List.drop_zero]
  have e1 : (a ++ b).length - 3 - 0 = a.cps.toList.length := by rw [← len_eq]; omega
  rw [e1, List.take_left]
theorem sl_zero (x : Str) : Txt.slice x (some ((0 : Nat) : Int)) none = x := by
  refine str_of_list ?_
  rw [slice_cut x _ _ 0 x.length (Nat.le_refl _) (idx_zero _) (by omega), List.drop_zero, Nat.sub_zero, len_eq, List.take_length]
/-- all signs are digits, and there is one -/
def Dig (x : Str) : Prop := 1 ≤ x.length ∧ ∀ c ∈ x.cps.toList, 48 ≤ c ∧ c ≤ 57
theorem Dig.app {x y : Str} (h : Dig x) (g : Dig y) : Dig (x ++ y) := by
  refine ⟨by rw [Str.length_append]; have := h.1; omega, fun c hc => ?_⟩
  rw [KT.app_list] at hc
  rcases List.mem_append.mp hc with hc | hc
  · exact h.2 c hc
  · exact g.2 c hc
theorem sl_head {x : Str} (h : Dig x) : (Txt.slice x none (some 1) == Str.ofString "-") = false := by
  have hl := h.1
  refine beq_eq_false_iff_ne.mpr fun e => ?_
  have e2 : (Txt.slice x none (some 1)).cps.toList = (Str.ofString "-").cps.toList := by rw [e]
  rw [slice_cut x _ _ 0 1 hl (idx_one _ hl) (by omega), List.drop_zero, Nat.sub_zero] at e2
  have hm : (45 : Nat) ∈ x.cps.toList.take 1 := by rw [e2]; decide +kernel
  have := h.2 45 (List.mem_of_mem_take hm)
  omega
theorem part_dot {x : Str} (h : Dig x) : Txt.partition x (Str.ofString ".") = (x, Str.empty, Str.empty) := by
  unfold Txt.partition
  cases hq : Builtin.Str.occurrences x (Str.ofString ".") 0 x.length 1 with
  | nil => rfl
  | cons i r =>
    exfalso
    obtain ⟨hb, hs⟩ := StrLaws.occ_spec x (Str.ofString ".") 0 x.length 1 i (by rw [hq]; exact List.mem_cons_self ..)
    have hh := StrLaws.subAt_eq x (Str.ofString ".") i
    rw [hs] at hh
    have hy := (eq_of_beq hh.symm)
    have hm : (46 : Nat) ∈ (x.cps.toList.drop i).take (Str.ofString ".").length := by rw [hy]; decide +kernel
    have := h.2 46 (List.mem_of_mem_drop (List.mem_of_mem_take hm))
    omega
end Mine
/-! part MJ -/
namespace Mine
section
variable {M : Model} {A : Around} {E : Value → Shared → Prop} {s : Shared}
theorem st_cast {env : Env} {x : Str} {v v' : Value} {Q : Unit → Shared → Prop} (e : v = v') (h : wpAny M A (storeName env x v') Q E s) : wpAny M A (storeName env x v) Q E s := e ▸ h
theorem call_cast {f : Value} {vs vs' : List Value} {Q : Value → Shared → Prop} (e : vs = vs') (h : wpAny M A (call f vs') Q E s) : wpAny M A (call f vs) Q E s := e ▸ h
theorem bin_cast {op : Operator} {a b b' : Value} {Q : Value → Shared → Prop} (e : b = b') (h : wpAny M A (binaryOp op a b') Q E s) : wpAny M A (binaryOp op a b) Q E s := e ▸ h
theorem join1 (c x : Str) : Txt.join c [x] = x := by simp [Txt.join, StrLaws.glued_eq_join, Str.join]
theorem join2 (c x y : Str) : Txt.join c [x, y] = x ++ c ++ y := by simp [Txt.join, StrLaws.glued_eq_join, Str.join]
theorem join3 (c x y z : Str) : Txt.join c [x, y, z] = x ++ c ++ (y ++ c ++ z) := by simp [Txt.join, StrLaws.glued_eq_join, Str.join]
theorem part1 {x : Str} (h : Dig x) : (Txt.partition x (Str.ofString ".")).fst = x := by rw [part_dot h]
theorem part2 {x : Str} (h : Dig x) : (Txt.partition x (Str.ofString ".")).snd.fst = Str.ofString "" := by rw [part_dot h]; rfl
theorem part3 {x : Str} (h : Dig x) : (Txt.partition x (Str.ofString ".")).snd.snd = Str.ofString "" := by rw [part_dot h]; rfl
theorem cmp_dash {prog : Program} {w : World} {x : Str} {t u : Tok} {Q : Value → Shared → Prop} (h : Dig x) (hq : Q (.bool false) s) : wpAny (model prog w) A (compareOp .Eq (.str (Txt.slice x none (some 1)) t) (.str (Str.ofString "-") u)) Q E s :=
  eq_str (by rw [sl_head h]; exact hq)
end
local macro_rules | `(tactic| k_room) => `(tactic| ktr_room)
local macro_rules | `(tactic| walk_at "binaryOp Add str str") => `(tactic| (k_here; (with_reducible show wpAny _ _ (binaryOp _ _ (Value.str (Txt.join _ _) _)) _ _ _); (with_reducible refine bin_cast (congrArg (fun z => Value.str z _) (join1 _ _)) ?_); (try dsimp only)))
local macro_rules | `(tactic| walk_at "binaryOp Add str str") => `(tactic| (k_here; (with_reducible show wpAny _ _ (binaryOp _ _ (Value.str (Txt.join _ _) _)) _ _ _); (with_reducible refine bin_cast (congrArg (fun z => Value.str z _) (join2 _ _ _)) ?_); (try dsimp only)))
local macro_rules | `(tactic| walk_at "binaryOp Add str str") => `(tactic| (k_here; (with_reducible show wpAny _ _ (binaryOp _ _ (Value.str (Txt.join _ _) _)) _ _ _); (with_reducible refine bin_cast (congrArg (fun z => Value.str z _) (join3 _ _ _ _)) ?_); (try dsimp only)))
local macro_rules | `(tactic| walk_at "storeName") => `(tactic| (k_here; (with_reducible show wpAny _ _ (storeName _ _ (Value.str (Prod.fst (Txt.partition _ _)) _)) _ _ _); refine st_cast (congrArg (fun z => Value.str z _) (part1 (by assumption))) ?_; (try dsimp only)))
local macro_rules | `(tactic| walk_at "storeName") => `(tactic| (k_here; (with_reducible show wpAny _ _ (storeName _ _ (Value.str (Prod.fst (Prod.snd (Txt.partition _ _))) _)) _ _ _); refine st_cast (congrArg (fun z => Value.str z _) (part2 (by assumption))) ?_; (try dsimp only)))
local macro_rules | `(tactic| walk_at "storeName") => `(tactic| (k_here; (with_reducible show wpAny _ _ (storeName _ _ (Value.str (Prod.snd (Prod.snd (Txt.partition _ _))) _)) _ _ _); refine st_cast (congrArg (fun z => Value.str z _) (part3 (by assumption))) ?_; (try dsimp only)))
local macro_rules | `(tactic| walk_at "storeName") => `(tactic| (k_here; (with_reducible show wpAny _ _ (storeName _ _ (Value.str (Txt.slice _ (some _) none) _)) _ _ _); refine st_cast (congrArg (fun z => Value.str z _) (sl_zero _)) ?_; (try dsimp only)))
local macro_rules | `(tactic| walk_at "storeName") => `(tactic| (k_here; (with_reducible show wpAny _ _ (storeName _ _ (Value.str (Txt.slice (_ ++ _) none (some _)) _)) _ _ _); refine st_cast (congrArg (fun z => Value.str z _) (sl_init _ _ (by assumption) (by assumption))) ?_; (try dsimp only)))
local macro_rules | `(tactic| walk_at "call builtin:list.insert") => `(tactic| (k_here; (with_reducible show wpAny _ _ (call _ [_, _, Value.str (Txt.slice (_ ++ _) (some _) none) _]) _ _ _); (refine call_cast (congrArg (fun z => [Value.ref _, Value.int _ _, Value.str z _]) (sl_last _ _ (by assumption))) ?_); (try dsimp only)))
local macro_rules | `(tactic| walk_at "compareOp Eq str str") => `(tactic| (k_here; (with_reducible show wpAny _ _ (compareOp _ (Value.str (Txt.slice _ none (some _)) _) _) _ _ _); (refine cmp_dash (by assumption) ?_)))
local macro_rules | `(tactic| walk_at "ite") => `(tactic| (k_closed; first | refine ite_pos (by decide +kernel) ?_ | refine ite_neg (by decide +kernel) ?_))
local macro_rules | `(tactic| walk_at "WhlIf") => `(tactic| first | (refine WhlIf.yes (decide_eq_true (by omega)) ?_) | (refine WhlIf.no (decide_eq_false (by omega)) ?_))
set_option maxHeartbeats 8000000 in
theorem c_grouped1 (w : World) (news : List (Addr × Obj)) (x : Str) (t : Tok) (hx : x.length ≤ 3) (hD : Dig x) : Con 2 w 203 [.str x t] news (fun v => ∃ t, v = .str x t) := by
  have kM := kstMark
  unfold Con PR; k_fill; intro dp un gd cn cs a ccd cl outer A₀ base h₀ L m mg mb mean s Q E B F X N T hk hdp hun hret; refine wpAny_call ?_; k_dflt (refine' code_pure ?k1 ?k2 ?k3 ?k5 ?kA ?kF ?kK ?k6 ?k7 ?k8 ?k9 ?kB ?_ ?c2 ?c3 ?c4 ?c5; (case kA => exact rfl); (case kF => exact rfl); (case kK => assumption); (case k1 => k_asm); (case k2 => k_asm); (case k3 => k_asm); (case k5 => k_asm); (case k6 => k_is); (case k7 => k_is); (case k8 => ktr_room); (case k9 => first | exact BindsTo.of_eq rfl | exact binds_K (by k_in) rfl (by k_is) rfl rfl rfl); (case c5 => decide); (case kB => exact locs rfl); (case c2 => exact rfl); (case c3 => exact rfl); (case c4 => exact rfl); k_whole; intro g' L' h' hg9 FG' F' N' B' X' T'; (try dsimp only); (try k_lift B'); (try k_fold))
  k_steps
  all_goals (refine' hret _ _ _ ?_ (by k_asm) (pure_news N hg9 (by assumption)))
  all_goals exact vstr (by rw [empty_left, empty_right, empty_right])
set_option maxHeartbeats 8000000 in
theorem c_grouped2 (w : World) (news : List (Addr × Obj)) (x y : Str) (t : Tok) (hx : x.length ≤ 3) (hx1 : 1 ≤ x.length) (hy : y.length = 3) (hD : Dig (x ++ y)) : Con 2 w 203 [.str (x ++ y) t] news (fun v => ∃ t, v = .str (x ++ Str.ofString "," ++ y) t) := by
  have kM := kstMark
  have hl : (x ++ y).length = x.length + 3 := by rw [Str.length_append, hy]
  unfold Con PR; k_fill; intro dp un gd cn cs a ccd cl outer A₀ base h₀ L m mg mb mean s Q E B F X N T hk hdp hun hret; refine wpAny_call ?_; k_dflt (refine' code_pure ?k1 ?k2 ?k3 ?k5 ?kA ?kF ?kK ?k6 ?k7 ?k8 ?k9 ?kB ?_ ?c2 ?c3 ?c4 ?c5; (case kA => exact rfl); (case kF => exact rfl); (case kK => assumption); (case k1 => k_asm); (case k2 => k_asm); (case k3 => k_asm); (case k5 => k_asm); (case k6 => k_is); (case k7 => k_is); (case k8 => ktr_room); (case k9 => first | exact BindsTo.of_eq rfl | exact binds_K (by k_in) rfl (by k_is) rfl rfl rfl); (case c5 => decide); (case kB => exact locs rfl); (case c2 => exact rfl); (case c3 => exact rfl); (case c4 => exact rfl); k_whole; intro g' L' h' hg9 FG' F' N' B' X' T'; (try dsimp only); (try k_lift B'); (try k_fold))
  k_steps
  all_goals (refine' hret _ _ _ ?_ (by k_asm) (pure_news N hg9 (by assumption)))
  all_goals exact vstr (by rw [empty_left, empty_right, empty_right])
set_option maxHeartbeats 8000000 in
theorem c_grouped3 (w : World) (news : List (Addr × Obj)) (x y z : Str) (t : Tok) (hx : x.length ≤ 3) (hx1 : 1 ≤ x.length) (hy : y.length = 3) (hz : z.length = 3) (hD : Dig (x ++ y ++ z)) : Con 2 w 203 [.str (x ++ y ++ z) t] news (fun v => ∃ t, v = .str (x ++ Str.ofString "," ++ (y ++ Str.ofString "," ++ z)) t) := by
  have kM := kstMark
  have hl2 : (x ++ y).length = x.length + 3 := by rw [Str.length_append, hy]
  have hl3 : 1 ≤ (x ++ y).length := by omega
  have hl : (x ++ y ++ z).length = x.length + 3 + 3 := by rw [Str.length_append, hl2, hz]
  unfold Con PR; k_fill; intro dp un gd cn cs a ccd cl outer A₀ base h₀ L m mg mb mean s Q E B F X N T hk hdp hun hret; refine wpAny_call ?_; k_dflt (refine' code_pure ?k1 ?k2 ?k3 ?k5 ?kA ?kF ?kK ?k6 ?k7 ?k8 ?k9 ?kB ?_ ?c2 ?c3 ?c4 ?c5; (case kA => exact rfl); (case kF => exact rfl); (case kK => assumption); (case k1 => k_asm); (case k2 => k_asm); (case k3 => k_asm); (case k5 => k_asm); (case k6 => k_is); (case k7 => k_is); (case k8 => ktr_room); (case k9 => first | exact BindsTo.of_eq rfl | exact binds_K (by k_in) rfl (by k_is) rfl rfl rfl); (case c5 => decide); (case kB => exact locs rfl); (case c2 => exact rfl); (case c3 => exact rfl); (case c4 => exact rfl); k_whole; intro g' L' h' hg9 FG' F' N' B' X' T'; (try dsimp only); (try k_lift B'); (try k_fold))
  k_steps
  all_goals (refine' hret _ _ _ ?_ (by k_asm) (pure_news N hg9 (by assumption)))
  all_goals exact vstr (by rw [empty_left, empty_right, empty_right])
end Mine
/-! part MN -/
namespace Mine
/-! a number's digits, cut by thousands -/
def sgn (n : Int) : List Nat := (dg n).cps.toList
theorem sgn_nat (m : Nat) : sgn (m : Int) = (Nat.toDigits 10 m).map Char.toNat := KIN.signs_num m
theorem dgt : ∀ d : Nat, d < 10 → (Nat.digitChar d).toNat = 48 + d := by decide
theorem sgn_small {m : Nat} (h : m < 10) : sgn (m : Int) = [48 + m] := by
  rw [sgn_nat, Nat.toDigits_of_lt_base h, List.map_cons, List.map_nil, dgt m h]
theorem sgn_step {m : Nat} (h : 10 ≤ m) : sgn (m : Int) = sgn ((m / 10 : Nat) : Int) ++ [48 + m % 10] := by
  rw [sgn_nat, sgn_nat, Nat.toDigits_of_base_le (by decide) h, List.map_append, List.map_cons, List.map_nil, dgt _ (Nat.mod_lt _ (by decide))]
theorem sgn_digit {m : Nat} : ∀ c ∈ sgn (m : Int), 48 ≤ c ∧ c ≤ 57 := by
  intro c hc
  rw [sgn_nat] at hc
  obtain ⟨ch, hch, e⟩ := List.mem_map.mp hc
  have r := digit_range (Nat.isDigit_of_mem_toDigits (by decide) (by decide) hch)
  rw [← e]
  exact r
theorem dig_dg {n : Int} (h : 0 ≤ n) : Dig (dg n) := by
  obtain ⟨m, rfl⟩ := Int.eq_ofNat_of_zero_le h
  refine ⟨?_, sgn_digit⟩
  rw [len_eq]
  show 1 ≤ (sgn (m : Int)).length
  rw [sgn_nat, List.length_map]
  exact Nat.length_toDigits_pos
theorem dg_len3 {n : Int} (h : 0 ≤ n) (h1 : n < 1000) : (dg n).length ≤ 3 := toString_length_le h (by decide) h1
abbrev rj (n : Int) : Str := Txt.rjustF (dg n) 3 48
theorem rj_list {m : Nat} (h : m < 1000) : (rj (m : Int)).cps.toList = [48 + m / 100, 48 + m / 10 % 10, 48 + m % 10] := by
  rw [rjustF_list]
  show List.replicate ((3 : Int).toNat - (dg (m : Int)).length) 48 ++ sgn (m : Int) = _
  rw [len_eq]
  show List.replicate (3 - (sgn (m : Int)).length) 48 ++ sgn (m : Int) = _
  by_cases h1 : m < 10
  · rw [sgn_small h1]
    have e1 : m / 100 = 0 := by omega
    have e2 : m / 10 % 10 = 0 := by omega
    have e3 : m % 10 = m := by omega
    rw [e1, e2, e3]
    rfl
  · by_cases h2 : m < 100
    · rw [sgn_step (by omega), sgn_small (by omega)]
      have e1 : m / 100 = 0 := by omega
      have e2 : m / 10 % 10 = m / 10 := by omega
      rw [e1, e2]
      rfl
    · rw [sgn_step (by omega), sgn_step (by omega), sgn_small (by omega)]
      have e1 : m / 10 / 10 = m / 100 := by omega
      rw [e1]
      rfl
theorem rj_len3 {n : Int} (h : 0 ≤ n) (h1 : n < 1000) : (rj n).length = 3 := by
  obtain ⟨m, rfl⟩ := Int.eq_ofNat_of_zero_le h
  rw [len_eq, rj_list (by omega)]
  rfl
theorem dig_rj {n : Int} (h : 0 ≤ n) (h1 : n < 1000) : Dig (rj n) := by
  refine ⟨by rw [rj_len3 h h1]; decide, ?_⟩
  obtain ⟨m, rfl⟩ := Int.eq_ofNat_of_zero_le h
  rw [rj_list (by omega)]
  intro c hc
  simp only [List.mem_cons, List.not_mem_nil, or_false] at hc
  omega
theorem dg_split {n : Int} (h : 1000 ≤ n) : dg n = dg (n.fdiv 1000) ++ rj (n.fmod 1000) := by
  obtain ⟨m, rfl⟩ := Int.eq_ofNat_of_zero_le (show 0 ≤ n by omega)
  have e1 : ((m : Int)).fdiv 1000 = ((m / 1000 : Nat) : Int) := by rw [Int.fdiv_eq_ediv_of_nonneg _ (by decide)]; omega
  have e2 : ((m : Int)).fmod 1000 = ((m % 1000 : Nat) : Int) := by rw [Int.fmod_eq_emod_of_nonneg _ (by decide)]; omega
  rw [e1, e2]
  refine str_of_list ?_
  rw [KT.app_list, rj_list (Nat.mod_lt _ (by decide))]
  show sgn (m : Int) = sgn _ ++ _
  rw [sgn_step (by omega), sgn_step (by omega), sgn_step (by omega)]
  have f1 : m / 10 / 10 / 10 = m / 1000 := by omega
  have f2 : m / 10 / 10 % 10 = m % 1000 / 100 := by omega
  have f3 : m / 10 % 10 = m % 1000 / 10 % 10 := by omega
  have f4 : m % 10 = m % 1000 % 10 := by omega
  rw [f1, f2, ← f3, ← f4]
  simp
/-- a whole number with its commas, below a thousand million -/
def commas (n : Int) : Str := if n < 1000 then dg n else if n < 1000000 then dg (n.fdiv 1000) ++ Str.ofString "," ++ rj (n.fmod 1000)
  else dg ((n.fdiv 1000).fdiv 1000) ++ Str.ofString "," ++ (rj ((n.fdiv 1000).fmod 1000) ++ Str.ofString "," ++ rj (n.fmod 1000))
theorem c_grouped (w : World) (news : List (Addr × Obj)) (n : Int) (t : Tok) (h0 : 0 ≤ n) (h1 : n < 1000000000) : Con 2 w 203 [.str (Str.ofString (toString n)) t] news (fun v => ∃ t, v = .str (commas n) t) := by
  show Con 2 w 203 [.str (dg n) t] news _
  have f1 := fd (b := 1000) (by decide) h0
  have f2 := (fdiv_fmod_facts n 1000).2.2.1 (by decide)
  have f3 := fd (b := 1000) (by decide) f1.1
  have f4 := (fdiv_fmod_facts (n.fdiv 1000) 1000).2.2.1 (by decide)
  unfold commas
  by_cases h2 : n < 1000
  · rw [if_pos h2]
    exact c_grouped1 w news _ t (dg_len3 h0 h2) (dig_dg h0)
  · rw [if_neg h2]
    by_cases h3 : n < 1000000
    · rw [if_pos h3]
      have hd : Dig (dg (n.fdiv 1000) ++ rj (n.fmod 1000)) := (dig_dg f1.1).app (dig_rj f2.1 f2.2)
      have := c_grouped2 w news (dg (n.fdiv 1000)) (rj (n.fmod 1000)) t (dg_len3 f1.1 (by omega)) (dig_dg f1.1).1 (rj_len3 f2.1 f2.2) hd
      rw [← dg_split (by omega)] at this
      exact this
    · rw [if_neg h3]
      have hd : Dig (dg ((n.fdiv 1000).fdiv 1000) ++ rj ((n.fdiv 1000).fmod 1000) ++ rj (n.fmod 1000)) := ((dig_dg f3.1).app (dig_rj f4.1 f4.2)).app (dig_rj f2.1 f2.2)
      have := c_grouped3 w news (dg ((n.fdiv 1000).fdiv 1000)) (rj ((n.fdiv 1000).fmod 1000)) (rj (n.fmod 1000)) t (dg_len3 f3.1 (by omega)) (dig_dg f3.1).1 (rj_len3 f4.1 f4.2) (rj_len3 f2.1 f2.2) hd
      rw [← dg_split (n := n.fdiv 1000) (by omega), ← dg_split (by omega)] at this
      exact this
end Mine
/-! part MO -/
namespace Mine
local macro_rules | `(tactic| k_room) => `(tactic| ktr_room)
local macro_rules | `(tactic| walk_at "call ref") => `(tactic| (k_here; (with_reducible show wpAny _ _ (call (Value.ref 226) _) _ _ _); k_dflt (refine' con_str (c_sep _ _) ?k1 ?k2 ?k3 ?k4 ?k5 ?k6 ?k7 ?k8 ?_); (case k1 => k_asm); (case k2 => k_asm); (case k3 => k_asm); (case k4 => k_asm); (case k5 => k_asm); (case k6 => first | exact rfl | assumption); (case k7 => ktr_room); (case k8 => ktr_units); intro t9 h9 tk9 F9 N9; (try dsimp only); (try k_fold)))
local macro_rules | `(tactic| walk_at "call ref") => `(tactic| (k_here; (with_reducible show wpAny _ _ (call (Value.ref 233) _) _ _ _); k_dflt (refine' con_str (c_dec _ _) ?k1 ?k2 ?k3 ?k4 ?k5 ?k6 ?k7 ?k8 ?_); (case k1 => k_asm); (case k2 => k_asm); (case k3 => k_asm); (case k4 => k_asm); (case k5 => k_asm); (case k6 => first | exact rfl | assumption); (case k7 => ktr_room); (case k8 => ktr_units); intro t9 h9 tk9 F9 N9; (try dsimp only); (try k_fold)))
local macro_rules | `(tactic| walk_at "call ref") => `(tactic| (k_here; (with_reducible show wpAny _ _ (call (Value.ref 196) [Value.str _ _, Value.int _ _]) _ _ _); k_dflt (refine' con_str (c_laid _ _ _ _ _ ?p1 ?p2) ?k1 ?k2 ?k3 ?k4 ?k5 ?k6 ?k7 ?k8 ?_); (case p1 => omega); (case p2 => omega); (case k1 => k_asm); (case k2 => k_asm); (case k3 => k_asm); (case k4 => k_asm); (case k5 => k_asm); (case k6 => first | exact rfl | assumption); (case k7 => ktr_room); (case k8 => ktr_units); intro t9 h9 tk9 F9 N9; (try dsimp only); (try k_fold)))
local macro_rules | `(tactic| walk_at "call ref") => `(tactic| (k_here; (with_reducible show wpAny _ _ (call (Value.ref 203) [Value.str _ _]) _ _ _); k_dflt (refine' con_str (c_grouped _ _ _ _ ?p1 ?p2) ?k1 ?k2 ?k3 ?k4 ?k5 ?k6 ?k7 ?k8 ?_); (case p1 => omega); (case p2 => omega); (case k1 => k_asm); (case k2 => k_asm); (case k3 => k_asm); (case k4 => k_asm); (case k5 => k_asm); (case k6 => first | exact rfl | assumption); (case k7 => ktr_room); (case k8 => ktr_units); intro t9 h9 tk9 F9 N9; (try dsimp only); (try k_fold)))
set_option maxHeartbeats 8000000 in
theorem c_comma (w : World) (news : List (Addr × Obj)) (n : Int) (t : Tok) (h0 : 0 ≤ n) (h1 : n < 10000000) : Con 5 w 248 [.int n t] news (fun v => ∃ t, v = .str (commas n) t) := by
  have kM := kstMark
  unfold Con PR; k_fill; intro dp un gd cn cs a ccd cl outer A₀ base h₀ L m mg mb mean s Q E B F X N T hk hdp hun hret; refine wpAny_call ?_; k_dflt (refine' code_pure ?k1 ?k2 ?k3 ?k5 ?kA ?kF ?kK ?k6 ?k7 ?k8 ?k9 ?kB ?_ ?c2 ?c3 ?c4 ?c5; (case kA => exact rfl); (case kF => exact rfl); (case kK => assumption); (case k1 => k_asm); (case k2 => k_asm); (case k3 => k_asm); (case k5 => k_asm); (case k6 => k_is); (case k7 => k_is); (case k8 => ktr_room); (case k9 => first | exact BindsTo.of_eq rfl | exact binds_K (by k_in) rfl (by k_is) rfl rfl rfl); (case c5 => decide); (case kB => exact locs rfl); (case c2 => exact rfl); (case c3 => exact rfl); (case c4 => exact rfl); k_whole; intro g' L' h' hg9 FG' F' N' B' X' T'; (try dsimp only); (try k_lift B'); (try k_fold))
  k_steps
  all_goals (refine' hret _ _ _ ?_ (by k_asm) (pure_news N hg9 (by assumption)))
  all_goals exact vstr rfl
end Mine
/-! part MS -/
namespace Mine
section
open PySem.NumText
theorem space_seen {cs : List Nat} {y : Str} (hy : y.cps.toList = 32 :: cs) (h : AllDigits cs) : numTextOf y = 32 :: cs ∧ numSeenOf y = 32 :: cs := by
  have e1 : numTextOf y = y.cps.toList := by
    refine if_pos ?_
    rw [← Array.all_toList, List.all_eq_true, hy]
    intro c hc
    rcases List.mem_cons.mp hc with rfl | hc
    · decide
    · have := h c hc
      exact decide_eq_true (by omega)
  rw [hy] at e1
  refine ⟨e1, ?_⟩
  show (numTextOf y).takeWhile _ = _
  rw [e1]
  refine takeWhile_all fun c hc => ?_
  rcases List.mem_cons.mp hc with rfl | hc
  · decide
  · have := h c hc
    exact bne_iff_ne.mpr (by omega)
theorem drop_space (cs : List Nat) : (32 :: cs).dropWhile blank = cs.dropWhile blank := by
  rw [List.dropWhile_cons]
  rfl
theorem space_reads {x : Str} (h : AllDigits x.cps.toList) (h1 : x.cps.toList ≠ []) (h2 : x.length ≤ 4300) : PySem.intText? (Str.ofString " " ++ x) = some ((digitsVal x.cps.toList : Nat) : Int) := by
  have hy : (Str.ofString " " ++ x).cps.toList = 32 :: x.cps.toList := by rw [KT.app_list]; rfl
  obtain ⟨e1, e2⟩ := space_seen hy h
  rw [← intText_digits h h1 h2, intText_of fun c hc => Or.inr (h c hc)]
  unfold PySem.intText?
  rw [e1, e2, drop_space]
  have ec : core (32 :: x.cps.toList) = core x.cps.toList := by
    unfold core
    rw [drop_space]
  rw [ec]
  exact if_pos (beq_self_eq_true _)
theorem num_space {n : Int} (h0 : 0 ≤ n) (h1 : n < 80000000000000) : PySem.intText? (Str.ofString " " ++ Str.ofString (toString n)) = some n := by
  have hl : (dg n).length ≤ 14 := toString_length_le h0 (by decide) (by omega)
  obtain ⟨m, rfl⟩ := Int.eq_ofNat_of_zero_le h0
  have hd : AllDigits (Str.ofString (toString ((m : Nat) : Int))).cps.toList := fun c hc => sgn_digit c hc
  have hne : (Str.ofString (toString ((m : Nat) : Int))).cps.toList ≠ [] := by
    intro e
    have := (dig_dg (n := (m : Int)) h0).1
    rw [len_eq] at this
    rw [show (dg (m : Int)).cps.toList = [] from e] at this
    exact absurd this (by decide)
  have e := space_reads hd hne (Nat.le_trans hl (by decide))
  rw [KIN.signs_num, KIN.val_back] at e
  exact e
end
theorem int_space {prog : Program} {w : World} {A : Around} {E : Value → Shared → Prop} {s : Shared} {Q : Value → Shared → Prop} {n : Int} {t : Tok} (h0 : 0 ≤ n) (h1 : n < 80000000000000) (h : Q (.int n s.toks) { s with toks := s.toks + 1 }) :
    wpAny (model prog w) A (call (.type "int") [.str (Str.ofString " " ++ Str.ofString (toString n)) t]) Q E s := by
  refine KIN.call_text (num_space h0 h1) ?_ h
  have hl : (Str.ofString (toString n)).length ≤ 14 := toString_length_le h0 (by decide) (by omega)
  rw [Str.length_append, show (Str.ofString " ").length = 1 by decide +kernel]
  omega
end Mine
/-! part MV -/
namespace Mine
section
variable {prog : Program} {w : World} {A : Around} {E : Value → Shared → Prop} {s : Shared} {n : Int} {t u : Tok} {Q : Value → Shared → Prop}
theorem fm0 (h0 : 0 ≤ n) (h1 : n < 10 ^ 10) (h : ∀ t' k, Q (.str (Str.ofString (toString n) ++ Str.ofString " microsecond") t') { s with toks := k }) : wpAny (model prog w) A (binaryOp .Mod (.str (Str.ofString "%d microsecond") t) (.int n u)) Q E s := by
  refine' KPc.mod_int (T := fun n => Str.ofString (toString n) ++ Str.ofString " microsecond") ?kpcF h0 h1 ?kpcm h
  case kpcF => kpc_eq
  case kpcm => k_dflt kpc_run
theorem fm1 (h0 : 0 ≤ n) (h1 : n < 10 ^ 10) (h : ∀ t' k, Q (.str (Str.ofString (toString n) ++ Str.ofString " microseconds") t') { s with toks := k }) : wpAny (model prog w) A (binaryOp .Mod (.str (Str.ofString "%d microseconds") t) (.int n u)) Q E s := by
  refine' KPc.mod_int (T := fun n => Str.ofString (toString n) ++ Str.ofString " microseconds") ?kpcF h0 h1 ?kpcm h
  case kpcF => kpc_eq
  case kpcm => k_dflt kpc_run
theorem fm2 (h0 : 0 ≤ n) (h1 : n < 10 ^ 10) (h : ∀ t' k, Q (.str (Str.ofString (toString n) ++ Str.ofString " millisecond") t') { s with toks := k }) : wpAny (model prog w) A (binaryOp .Mod (.str (Str.ofString "%d millisecond") t) (.int n u)) Q E s := by
  refine' KPc.mod_int (T := fun n => Str.ofString (toString n) ++ Str.ofString " millisecond") ?kpcF h0 h1 ?kpcm h
  case kpcF => kpc_eq
  case kpcm => k_dflt kpc_run
theorem fm3 (h0 : 0 ≤ n) (h1 : n < 10 ^ 10) (h : ∀ t' k, Q (.str (Str.ofString (toString n) ++ Str.ofString " milliseconds") t') { s with toks := k }) : wpAny (model prog w) A (binaryOp .Mod (.str (Str.ofString "%d milliseconds") t) (.int n u)) Q E s := by
  refine' KPc.mod_int (T := fun n => Str.ofString (toString n) ++ Str.ofString " milliseconds") ?kpcF h0 h1 ?kpcm h
  case kpcF => kpc_eq
  case kpcm => k_dflt kpc_run
theorem fm4 (h0 : 0 ≤ n) (h1 : n < 10 ^ 10) (h : ∀ t' k, Q (.str (Str.ofString (toString n) ++ Str.ofString " seconds") t') { s with toks := k }) : wpAny (model prog w) A (binaryOp .Mod (.str (Str.ofString "%d seconds") t) (.int n u)) Q E s := by
  refine' KPc.mod_int (T := fun n => Str.ofString (toString n) ++ Str.ofString " seconds") ?kpcF h0 h1 ?kpcm h
  case kpcF => kpc_eq
  case kpcm => k_dflt kpc_run
theorem fm5 (h0 : 0 ≤ n) (h1 : n < 10 ^ 10) (h : ∀ t' k, Q (.str (Str.ofString (toString n) ++ Str.ofString " minutes") t') { s with toks := k }) : wpAny (model prog w) A (binaryOp .Mod (.str (Str.ofString "%d minutes") t) (.int n u)) Q E s := by
  refine' KPc.mod_int (T := fun n => Str.ofString (toString n) ++ Str.ofString " minutes") ?kpcF h0 h1 ?kpcm h
  case kpcF => kpc_eq
  case kpcm => k_dflt kpc_run
theorem fm6 (h0 : 0 ≤ n) (h1 : n < 10 ^ 10) (h : ∀ t' k, Q (.str (Str.ofString (toString n) ++ Str.ofString " hours") t') { s with toks := k }) : wpAny (model prog w) A (binaryOp .Mod (.str (Str.ofString "%d hours") t) (.int n u)) Q E s := by
  refine' KPc.mod_int (T := fun n => Str.ofString (toString n) ++ Str.ofString " hours") ?kpcF h0 h1 ?kpcm h
  case kpcF => kpc_eq
  case kpcm => k_dflt kpc_run
theorem fm7 (h0 : 0 ≤ n) (h1 : n < 10 ^ 10) (h : ∀ t' k, Q (.str (Str.ofString (toString n) ++ Str.ofString " days") t') { s with toks := k }) : wpAny (model prog w) A (binaryOp .Mod (.str (Str.ofString "%d days") t) (.int n u)) Q E s := by
  refine' KPc.mod_int (T := fun n => Str.ofString (toString n) ++ Str.ofString " days") ?kpcF h0 h1 ?kpcm h
  case kpcF => kpc_eq
  case kpcm => k_dflt kpc_run
theorem fm8 (h0 : 0 ≤ n) (h1 : n < 10 ^ 10) (h : ∀ t' k, Q (.str (Str.ofString (toString n) ++ Str.ofString " months") t') { s with toks := k }) : wpAny (model prog w) A (binaryOp .Mod (.str (Str.ofString "%d months") t) (.int n u)) Q E s := by
  refine' KPc.mod_int (T := fun n => Str.ofString (toString n) ++ Str.ofString " months") ?kpcF h0 h1 ?kpcm h
  case kpcF => kpc_eq
  case kpcm => k_dflt kpc_run
theorem fm9 (h0 : 0 ≤ n) (h1 : n < 10 ^ 10) (h : ∀ t' k, Q (.str (Str.ofString (toString n) ++ Str.ofString " years") t') { s with toks := k }) : wpAny (model prog w) A (binaryOp .Mod (.str (Str.ofString "%d years") t) (.int n u)) Q E s := by
  refine' KPc.mod_int (T := fun n => Str.ofString (toString n) ++ Str.ofString " years") ?kpcF h0 h1 ?kpcm h
  case kpcF => kpc_eq
  case kpcm => k_dflt kpc_run
theorem fm10 (h0 : 0 ≤ n) (h1 : n < 10 ^ 10) (h : ∀ t' k, Q (.str (Str.ofString "1 year, " ++ Str.ofString (toString n) ++ Str.ofString " day") t') { s with toks := k }) : wpAny (model prog w) A (binaryOp .Mod (.str (Str.ofString "1 year, %d day") t) (.int n u)) Q E s := by
  refine' KPc.mod_int (T := fun n => Str.ofString "1 year, " ++ Str.ofString (toString n) ++ Str.ofString " day") ?kpcF h0 h1 ?kpcm h
  case kpcF => kpc_eq
  case kpcm => k_dflt kpc_run
theorem fm11 (h0 : 0 ≤ n) (h1 : n < 10 ^ 10) (h : ∀ t' k, Q (.str (Str.ofString "1 year, " ++ Str.ofString (toString n) ++ Str.ofString " days") t') { s with toks := k }) : wpAny (model prog w) A (binaryOp .Mod (.str (Str.ofString "1 year, %d days") t) (.int n u)) Q E s := by
  refine' KPc.mod_int (T := fun n => Str.ofString "1 year, " ++ Str.ofString (toString n) ++ Str.ofString " days") ?kpcF h0 h1 ?kpcm h
  case kpcF => kpc_eq
  case kpcm => k_dflt kpc_run
theorem fm12 (h0 : 0 ≤ n) (h1 : n < 10 ^ 10) (h : ∀ t' k, Q (.str (Str.ofString "1 year, " ++ Str.ofString (toString n) ++ Str.ofString " months") t') { s with toks := k }) : wpAny (model prog w) A (binaryOp .Mod (.str (Str.ofString "1 year, %d months") t) (.int n u)) Q E s := by
  refine' KPc.mod_int (T := fun n => Str.ofString "1 year, " ++ Str.ofString (toString n) ++ Str.ofString " months") ?kpcF h0 h1 ?kpcm h
  case kpcF => kpc_eq
  case kpcm => k_dflt kpc_run
variable {y : Str}
theorem fmS (hy : y.length ≤ 1000000) (h : ∀ t' k, Q (.str (y ++ Str.ofString " years") t') { s with toks := k }) : wpAny (model prog w) A (binaryOp .Mod (.str (Str.ofString "%s years") t) (.str y u)) Q E s := by
  refine' KPc.mod_str (T := fun y => y ++ Str.ofString " years") ?kpcF hy ?kpcm h
  case kpcF => kpc_eq
  case kpcm => k_dflt kpc_run_s
theorem pct_repl : Txt.replace (Str.ofString "%d years") (Str.ofString "%d") (Str.ofString "%s") = Str.ofString "%s years" := by decide +kernel
theorem pct_replace {v : Tok} (hu : u ≠ 0) (hv : v ≠ 0) (huv : u ≠ v) (h : ∀ t' k, Q (.str (Str.ofString "%s years") t') { s with toks := k }) :
    wpAny (model prog w) A (call (.builtin "str.replace") [.str (Str.ofString "%d years") t, .str (Str.ofString "%d") u, .str (Str.ofString "%s") v]) Q E s :=
  SC.replace hu hv huv (by decide +kernel) (by decide +kernel) (by rw [pct_repl]; exact h)
end
theorem commas_len {n : Int} (h0 : 0 ≤ n) (h1 : n < 1000000000) : (commas n).length ≤ 40 := by
  have f1 := fd (b := 1000) (by decide) h0
  have f2 := (fdiv_fmod_facts n 1000).2.2.1 (by decide)
  have f3 := fd (b := 1000) (by decide) f1.1
  have f4 := (fdiv_fmod_facts (n.fdiv 1000) 1000).2.2.1 (by decide)
  have hA : (dg n).length ≤ 10 := dg_len h0 (by omega)
  have hB : (dg (n.fdiv 1000)).length ≤ 10 := dg_len f1.1 (by omega)
  have hC : (dg ((n.fdiv 1000).fdiv 1000)).length ≤ 10 := dg_len f3.1 (by omega)
  have hD : (rj (n.fmod 1000)).length = 3 := rj_len3 f2.1 f2.2
  have hE : (rj ((n.fdiv 1000).fmod 1000)).length = 3 := rj_len3 f4.1 f4.2
  have h2 : (Str.ofString ",").length = 1 := by decide +kernel
  unfold commas
  split
  · omega
  · split
    · rw [Str.length_append, Str.length_append, hD, h2]; omega
    · rw [Str.length_append, Str.length_append, Str.length_append, Str.length_append, hD, hE, h2]; omega
end Mine
/-! part ML -/
namespace Mine
/-- what is known of a span that is not negative, its parts taken -/
def TdFacts (span D S U : Int) : Prop := 0 ≤ D ∧ D < 1000000000 ∧ 0 ≤ S ∧ S < 86400 ∧ 0 ≤ U ∧ U < 1000000 ∧ (D * 86400 + S) * 1000000 + U = span ∧
  D.fdiv 365 * 365 + D.fmod 365 = D ∧ 0 ≤ D.fmod 365 ∧ D.fmod 365 < 365 ∧ 0 ≤ D.fdiv 365 ∧ U.fdiv 1000 * 1000 ≤ U ∧ U < U.fdiv 1000 * 1000 + 1000 ∧ 0 ≤ U.fdiv 1000
theorem tdFacts {span D S U : Int} (h0 : 0 ≤ span) (h1 : span < 86400000000 * 1000000000) (h : Parts span D S U) : TdFacts span D S U := by
  obtain ⟨a, b, c, d, e⟩ := h
  have hD : 0 ≤ D := by omega
  have f1 := fdiv_fmod_facts D 365
  have f2 := f1.2.2.1 (by decide)
  have f3 := fd (b := 365) (by decide) hD
  have f4 := fd (b := 1000) (by decide) c
  exact ⟨hD, by omega, a, b, c, d, e, f1.1, f2.1, f2.2, f3.1, f4.2.1, f4.2.2, f4.1⟩

/-- what naturaldelta says, in the order of its own tests -/
def ndT (D S U : Int) (b : Bool) (least : Int) : Str :=
  if D = 0 then
    (if S = 0 then
      (if least = 2 ∧ U < 1000 then (if U = 1 then Str.ofString (toString U) ++ Str.ofString " microsecond" else Str.ofString (toString U) ++ Str.ofString " microseconds")
       else if least ≠ 0 then (if U.fdiv 1000 = 1 then Str.ofString (toString (U.fdiv 1000)) ++ Str.ofString " millisecond" else Str.ofString (toString (U.fdiv 1000)) ++ Str.ofString " milliseconds")
       else Str.ofString "a moment")
     else if S = 1 then Str.ofString "a second"
     else if S < 60 then Str.ofString (toString S) ++ Str.ofString " seconds"
     else if S < 3600 then (if rnd S 60 = 1 then Str.ofString "a minute" else if rnd S 60 = 60 then Str.ofString "an hour" else Str.ofString (toString (rnd S 60)) ++ Str.ofString " minutes")
     else if rnd S 3600 = 1 then Str.ofString "an hour" else if rnd S 3600 = 24 then Str.ofString "a day" else Str.ofString (toString (rnd S 3600)) ++ Str.ofString " hours")
  else if D < 365 then
    (if D.fmod 365 = 1 then Str.ofString "a day"
     else if b = true ∧ rnd (2 * D.fmod 365) 61 ≠ 0 then
       (if rnd (2 * D.fmod 365) 61 = 1 then Str.ofString "a month" else if rnd (2 * D.fmod 365) 61 = 12 then Str.ofString "a year" else Str.ofString (toString (rnd (2 * D.fmod 365) 61)) ++ Str.ofString " months")
     else Str.ofString (toString (D.fmod 365)) ++ Str.ofString " days")
  else if D < 730 then
    (if D.fmod 365 = 0 then Str.ofString "a year"
     else if b = true ∧ rnd (2 * D.fmod 365) 61 ≠ 0 then
       (if rnd (2 * D.fmod 365) 61 = 1 then Str.ofString "1 year, 1 month" else if rnd (2 * D.fmod 365) 61 = 12 then Str.ofString (toString (D.fdiv 365 + 1)) ++ Str.ofString " years"
        else Str.ofString "1 year, " ++ Str.ofString (toString (rnd (2 * D.fmod 365) 61)) ++ Str.ofString " months")
     else if D.fmod 365 = 1 then Str.ofString "1 year, " ++ Str.ofString (toString (D.fmod 365)) ++ Str.ofString " day"
     else Str.ofString "1 year, " ++ Str.ofString (toString (D.fmod 365)) ++ Str.ofString " days")
  else commas (rnd D 365) ++ Str.ofString " years"
def nds (span : Int) (b : Bool) (least : Int) : Str :=
  if 730 ≤ span.fdiv 86400000000 then commas (rnd (span.fdiv 86400000000) 365) ++ Str.ofString " years" else said span b least
theorem app_assoc (a b c : Str) : a ++ b ++ c = a ++ (b ++ c) := str_of_list (by simp only [KT.app_list, List.append_assoc])
theorem many_one {n : Int} {x z : Str} (h : n = 1) (hz : Str.ofString " " ++ (x ++ Str.ofString "") = z) : many n x = Str.ofString (toString n) ++ z := by
  subst h
  unfold many digs
  rw [if_pos (by decide), if_pos rfl, app_assoc, app_assoc, hz]
theorem many_more {n : Int} {x z : Str} (h : n ≠ 1) (h1 : n < 1000) (hz : Str.ofString " " ++ (x ++ Str.ofString "s") = z) : many n x = Str.ofString (toString n) ++ z := by
  unfold many digs
  rw [if_pos h1, if_neg h, app_assoc, app_assoc, hz]
theorem one_one {x z : Str} {n : Int} (h : n = 1) (hz : (if x = Str.ofString "hour" then Str.ofString "an " else Str.ofString "a ") ++ x = z) : one n x = z := by
  unfold one
  rw [if_pos h, hz]
theorem one_more {n : Int} {x z : Str} (h : n ≠ 1) (h1 : n < 1000) (hz : Str.ofString " " ++ (x ++ Str.ofString "s") = z) : one n x = Str.ofString (toString n) ++ z := by
  unfold one
  rw [if_neg h, many_more h h1 hz]
theorem rnd_zero : rnd (2 * (0 : Int).fmod 365) 61 = 0 := by decide
theorem nds_eq {span D S U : Int} (b : Bool) {least : Int} (hT : TdFacts span D S U) (hl : 0 ≤ least ∧ least ≤ 2) : nds span b least = ndT D S U b least := by
  obtain ⟨a1, a2, a3, a4, a5, a6, a7, a8, a9, a10, a11, a12, a13, a14⟩ := hT
  have q1 : span.fdiv 1000000 = D * 86400 + S := by
    have := fdiv_fmod_facts span 1000000
    have h2 := this.2.2.1 (by decide)
    have h1 := this.1
    omega
  have q2 : span.fdiv 86400000000 = D := by
    have := fdiv_fmod_facts span 86400000000
    have h2 := this.2.2.1 (by decide)
    have h1 := this.1
    omega
  unfold nds said
  rw [q1, q2]
  clear q1 q2
  by_cases hD : D = 0
  · subst hD
    have e0 : (0 : Int) * 86400 + S = S := by omega
    rw [e0]
    unfold ndT
    by_cases hS : S = 0
    · have hu : span = U := by omega
      subst hu
      by_cases l2 : least = 2
      · by_cases hk : span < 1000
        · by_cases h1 : span = 1
          · (repeat (first | rw [if_pos (by first | assumption | omega)] | rw [if_neg (by first | assumption | omega)]))
            exact many_one h1 (by decide +kernel)
          · (repeat (first | rw [if_pos (by first | assumption | omega)] | rw [if_neg (by first | assumption | omega)]))
            exact many_more h1 (by omega) (by decide +kernel)
        · by_cases h1 : span.fdiv 1000 = 1
          · (repeat (first | rw [if_pos (by first | assumption | omega)] | rw [if_neg (by first | assumption | omega)]))
            exact many_one h1 (by decide +kernel)
          · (repeat (first | rw [if_pos (by first | assumption | omega)] | rw [if_neg (by first | assumption | omega)]))
            exact many_more h1 (by omega) (by decide +kernel)
      · by_cases l1 : least = 1
        · by_cases h1 : span.fdiv 1000 = 1
          · (repeat (first | rw [if_pos (by first | assumption | omega)] | rw [if_neg (by first | assumption | omega)]))
            exact many_one h1 (by decide +kernel)
          · (repeat (first | rw [if_pos (by first | assumption | omega)] | rw [if_neg (by first | assumption | omega)]))
            exact many_more h1 (by omega) (by decide +kernel)
        · (repeat (first | rw [if_pos (by first | assumption | omega)] | rw [if_neg (by first | assumption | omega)]))
    · by_cases h60 : S < 60
      · by_cases h1 : S = 1
        · (repeat (first | rw [if_pos (by first | assumption | omega)] | rw [if_neg (by first | assumption | omega)]))
          exact one_one h1 (by decide +kernel)
        · (repeat (first | rw [if_pos (by first | assumption | omega)] | rw [if_neg (by first | assumption | omega)]))
          exact one_more h1 (by omega) (by decide +kernel)
      · have r1 := rnd_bd (n := S) (d := 60) a3 (by decide)
        have r2 := rnd_bd (n := S) (d := 3600) a3 (by decide)
        by_cases h36 : S < 3600
        · by_cases hm : rnd S 60 = 60
          · (repeat (first | rw [if_pos (by first | assumption | omega)] | rw [if_neg (by first | assumption | omega)]))
            exact one_one (by omega) (by decide +kernel)
          · by_cases h1 : rnd S 60 = 1
            · (repeat (first | rw [if_pos (by first | assumption | omega)] | rw [if_neg (by first | assumption | omega)]))
              exact one_one h1 (by decide +kernel)
            · (repeat (first | rw [if_pos (by first | assumption | omega)] | rw [if_neg (by first | assumption | omega)]))
              exact one_more h1 (by omega) (by decide +kernel)
        · by_cases hm : rnd S 3600 = 24
          · have hr : ¬ (b = true ∧ rnd (2 * (0 : Int).fmod 365) 61 ≠ 0) := by rw [rnd_zero]; simp
            (repeat (first | rw [if_pos (by first | assumption | omega)] | rw [if_neg (by first | assumption | omega)]))
            exact one_one (by decide) (by decide +kernel)
          · by_cases h1 : rnd S 3600 = 1
            · (repeat (first | rw [if_pos (by first | assumption | omega)] | rw [if_neg (by first | assumption | omega)]))
              exact one_one h1 (by decide +kernel)
            · (repeat (first | rw [if_pos (by first | assumption | omega)] | rw [if_neg (by first | assumption | omega)]))
              exact one_more h1 (by omega) (by decide +kernel)
  · have r1 := rnd_bd (n := 2 * D.fmod 365) (d := 61) (by omega) (by decide)
    unfold ndT
    by_cases h730 : 730 ≤ D
    · (repeat (first | rw [if_pos (by first | assumption | omega)] | rw [if_neg (by first | assumption | omega)]))
    · by_cases h365 : D < 365
      · have em : D.fmod 365 = D := by omega
        by_cases hm : b = true ∧ rnd (2 * D.fmod 365) 61 ≠ 0
        · have hm2 := hm.2
          by_cases h12 : rnd (2 * D.fmod 365) 61 = 12
          · (repeat (first | rw [if_pos (by first | assumption | omega)] | rw [if_neg (by first | assumption | omega)]))
          · by_cases h1 : rnd (2 * D.fmod 365) 61 = 1
            · (repeat (first | rw [if_pos (by first | assumption | omega)] | rw [if_neg (by first | assumption | omega)]))
              exact one_one h1 (by decide +kernel)
            · (repeat (first | rw [if_pos (by first | assumption | omega)] | rw [if_neg (by first | assumption | omega)]))
              exact one_more h1 (by omega) (by decide +kernel)
        · have ex : max D 1 = D := by omega
          rw [ex]
          by_cases h1 : D.fmod 365 = 1
          · (repeat (first | rw [if_pos (by first | assumption | omega)] | rw [if_neg (by first | assumption | omega)]))
            exact one_one (by omega) (by decide +kernel)
          · (repeat (first | rw [if_pos (by first | assumption | omega)] | rw [if_neg (by first | assumption | omega)]))
            rw [em]
            exact one_more (by omega) (by omega) (by decide +kernel)
      · by_cases hz : D.fmod 365 = 0
        · have hr : rnd (2 * D.fmod 365) 61 = 0 := by omega
          have hm : ¬ (b = true ∧ rnd (2 * D.fmod 365) 61 ≠ 0) := by rw [hr]; simp
          (repeat (first | rw [if_pos (by first | assumption | omega)] | rw [if_neg (by first | assumption | omega)]))
        · by_cases hm : b = true ∧ rnd (2 * D.fmod 365) 61 ≠ 0
          · have hm2 := hm.2
            by_cases h12 : rnd (2 * D.fmod 365) 61 = 12
            · have e2 : D.fdiv 365 + 1 = 2 := by omega
              (repeat (first | rw [if_pos (by first | assumption | omega)] | rw [if_neg (by first | assumption | omega)]))
              rw [e2]
              decide +kernel
            · by_cases h1 : rnd (2 * D.fmod 365) 61 = 1
              · (repeat (first | rw [if_pos (by first | assumption | omega)] | rw [if_neg (by first | assumption | omega)]))
                rw [h1]
                decide +kernel
              · (repeat (first | rw [if_pos (by first | assumption | omega)] | rw [if_neg (by first | assumption | omega)]))
                rw [app_assoc]
                exact congrArg _ (many_more h1 (by omega) (by decide +kernel))
          · by_cases h1 : D.fmod 365 = 1
            · (repeat (first | rw [if_pos (by first | assumption | omega)] | rw [if_neg (by first | assumption | omega)]))
              rw [app_assoc]
              exact congrArg _ (many_one h1 (by decide +kernel))
            · (repeat (first | rw [if_pos (by first | assumption | omega)] | rw [if_neg (by first | assumption | omega)]))
              rw [app_assoc]
              exact congrArg _ (many_more h1 (by omega) (by decide +kernel))
end Mine
/-! part MU -/
namespace Mine
local macro_rules | `(tactic| k_room) => `(tactic| ktr_room)
local macro_rules | `(tactic| walk_at "binaryOp Pow int int") => `(tactic| (k_here; (with_reducible show wpAny _ _ (binaryOp Operator.Pow (Value.int 10 _) (Value.int 6 _)) _ _ _); refine pow_lit (r := 1000000) (by decide) (by decide) (by decide) (by decide) ?_))
theorem fr_knownU {h₀ h : Heap} {L : Addr} {m : Str → Option Value} {ps : List (Str × Value)} (F : Fr h₀ L h m) (hp : ∀ p ∈ ps, m p.1 = some p.2) : Fr h₀ L h (kstB m ps) := by
  have e : kstB m ps = m := funext fun z => kstB_eq hp fun _ => rfl
  rw [e]
  exact F
theorem unit_bd {x : Int} : 1 ≤ [(1 : Int), 1000, 1000000, 30 * 1000000, 60 * 1000000, 1800 * 1000000, 3600 * 1000000, 12 * 3600 * 1000000, 86400 * 1000000, 15 * 86400 * 1000000, 61 * 43200 * 1000000, 365 * 86400 * 1000000].getD (x.fmod 12).toNat 0 ∧
    [(1 : Int), 1000, 1000000, 30 * 1000000, 60 * 1000000, 1800 * 1000000, 3600 * 1000000, 12 * 3600 * 1000000, 86400 * 1000000, 15 * 86400 * 1000000, 61 * 43200 * 1000000, 365 * 86400 * 1000000].getD (x.fmod 12).toNat 0 ≤ 31536000000000 := by
  have h := (fdiv_fmod_facts x 12).2.2.1 (by decide)
  have hi : (x.fmod 12).toNat < 12 := by omega
  generalize (x.fmod 12).toNat = i at hi
  revert i
  decide
theorem span_bd {U N y z : Int} (h0 : 1 ≤ U) (h1 : U ≤ 31536000000000) (h2 : -86400000000 ≤ N) (h3 : N ≤ 86400000000) :
    U * y.fmod 1300 + N + (z.fdiv 8).fmod 3 * (z.fdiv 24).fmod U < 86400000000 * 1000000 := by
  have a := (fdiv_fmod_facts y 1300).2.2.1 (by decide)
  have b := (fdiv_fmod_facts (z.fdiv 8) 3).2.2.1 (by decide)
  have c := (fdiv_fmod_facts (z.fdiv 24) U).2.2.1 (by omega)
  generalize y.fmod 1300 = p at *
  generalize (z.fdiv 8).fmod 3 = q at *
  generalize (z.fdiv 24).fmod U = r at *
  have e1 : U * p ≤ 31536000000000 * 1300 := Int.mul_le_mul h1 (by omega) a.1 (by decide)
  have e2 : q * r ≤ 3 * 31536000000000 := Int.mul_le_mul (by omega) (by omega) c.1 (by decide)
  omega
theorem vint_max {a : Int} {t u : Tok} (h : a < 86400000000 * 1000000) : ∃ r t', Value.int (if 0 > a then 0 else a) (if 0 > a then u else t) = Value.int r t' ∧ 0 ≤ r ∧ r < 86400000000 * 1000000 := by
  refine ⟨_, _, rfl, ?_, ?_⟩ <;> split <;> omega
set_option maxHeartbeats 2000000 in
theorem c_span (w : World) (news : List (Addr × Obj)) (x y z : Int) (tx ty tz : Tok) : Con 2 w 278 [.int x tx, .int y ty, .int z tz] news (fun v => ∃ r t, v = .int r t ∧ 0 ≤ r ∧ r < 86400000000 * 1000000) := by
  have kM := kstMark
  unfold Con PR; k_fill; intro dp un gd cn cs a ccd cl outer A₀ base h₀ L m mg mb mean s Q E B F X N T hk hdp hun hret; refine wpAny_call ?_; k_dflt (refine' code_pure ?k1 ?k2 ?k3 ?k5 ?kA ?kF ?kK ?k6 ?k7 ?k8 ?k9 ?kB ?_ ?c2 ?c3 ?c4 ?c5; (case kA => exact rfl); (case kF => exact rfl); (case kK => assumption); (case k1 => k_asm); (case k2 => k_asm); (case k3 => k_asm); (case k5 => k_asm); (case k6 => k_is); (case k7 => k_is); (case k8 => ktr_room); (case k9 => first | exact BindsTo.of_eq rfl | exact binds_K (by k_in) rfl (by k_is) rfl rfl rfl); (case c5 => decide); (case kB => exact locs rfl); (case c2 => exact rfl); (case c3 => exact rfl); (case c4 => exact rfl); k_whole; intro g' L' h' hg9 FG' F' N' B' X' T'; (try dsimp only); (try k_lift B'); (try k_fold))
  refine exec_join 1 (fun PP => ∀ (U : Int) (tU : Tok) (h' : Heap) (tk' : Nat) (m' : Str → Option Value), 1 ≤ U → U ≤ 31536000000000 → Fr g' L' h' m' → m' (Str.ofString "unit") = some (.int U tU) → m' (Str.ofString "y") = some (.int y ty) → m' (Str.ofString "z") = some (.int z tz) → News g' L' h' [] → PP .next { s with heap := h', toks := tk' }) ?head ?tail
  case head =>
    intro PP hPP
    dsimp only [List.take]
    k_steps
    all_goals exact hPP _ _ _ _ _ unit_bd.1 unit_bd.2 (by k_asm) rfl rfl rfl (cb_drop (by assumption) (by kcj_all))
  case tail =>
    clear F' N'
    intro U tU h1 tk1 m1 hU0 hU1 F1 hm1 hm2 hm3 N1
    dsimp only [List.drop]
    replace F1 := fr_knownU (ps := [(Str.ofString "unit", .int U tU), (Str.ofString "y", .int y ty), (Str.ofString "z", .int z tz)]) F1 (by intro p hp; simp only [List.mem_cons, List.not_mem_nil, or_false] at hp; rcases hp with rfl | rfl | rfl <;> assumption)
    dsimp only [kstB] at F1
    clear hm1 hm2 hm3
    refine exec_join 1 (fun PP => ∀ (N : Int) (tN : Tok) (h' : Heap) (tk' : Nat) (m' : Str → Option Value), -86400000000 ≤ N → N ≤ 86400000000 → Fr g' L' h' m' → m' (Str.ofString "near") = some (.int N tN) → m' (Str.ofString "unit") = some (.int U tU) → m' (Str.ofString "y") = some (.int y ty) → m' (Str.ofString "z") = some (.int z tz) → News g' L' h' [] → PP .next { s with heap := h', toks := tk' }) ?head2 ?tail2
    case head2 =>
      intro PP hPP
      dsimp only [List.take]
      k_steps
      all_goals (refine hPP _ _ _ _ _ ?_ ?_ (by k_asm) rfl rfl rfl rfl (cb_drop (by assumption) (by kcj_all)) <;> decide)
    case tail2 =>
      clear F1 N1
      intro V tV h2 tk2 m2 hV0 hV1 F2 hm1 hm2 hm3 hm4 N2
      dsimp only [List.drop]
      replace F2 := fr_knownU (ps := [(Str.ofString "near", .int V tV), (Str.ofString "unit", .int U tU), (Str.ofString "y", .int y ty), (Str.ofString "z", .int z tz)]) F2 (by intro p hp; simp only [List.mem_cons, List.not_mem_nil, or_false] at hp; rcases hp with rfl | rfl | rfl | rfl <;> assumption)
      dsimp only [kstB] at F2
      clear hm1 hm2 hm3 hm4
      k_steps
      all_goals (refine' hret _ _ _ ?_ (by k_asm) (pure_news N hg9 (by assumption)))
      all_goals exact vint_max (span_bd hU0 hU1 hV0 hV1)
end Mine
/-! part MR -/
namespace Mine
def IsAbs (W span : Int) : Prop := (if W < 0 then -W else W) = span ∧ 0 ≤ span ∧ span < 86400000000 * 1000000000
theorem size_use {w : World} {news : List (Addr × Obj)} {dp un : Nat} {gd : Option (List Code)} {cn : Str} {cs : Scope} {a : Addr} {ccd : Value} {cl : List (Str × Addr)} {outer : List Env} {A₀ : Around} {base h₀ : Heap} {L : Addr} {m mg mb : Str → Option Value} {mean : ExcName → Option Value} {s : Shared} {Q E : Value → Shared → Prop}
    {x dx : Addr} {D S U W span : Int} {k1 k2 k3 t1 t2 t3 : Tok} (B : Below A₀ base outer h₀) (F : Fr h₀ L s.heap m) (X : (hd.heap_39 w.params).In h₀) (N : News h₀ L s.heap news) (T : Top hd.view_39 LO mean mg mb h₀) (hk : cs.kind = .function)
    (hd : dp + 4 < recursionLimit) (hu : un + 10 * 4 < cLine)
    (hx : (x, instObj 46 dx) ∈ news) (hdx : (dx, tdDict w D S U k1 k2 k3 t1 t2 t3) ∈ news) (hlo : -1000000000 < D ∧ D < 1000000000) (hP : Parts W D S U) (hA : IsAbs W span)
    (ret : ∀ (y dy : Addr) (D' S' U' : Int) (k1 k2 k3 t1 t2 t3 : Tok) (h' : Heap) (tk' : Nat), TdFacts span D' S' U' → Fr h₀ L h' m → News h₀ L h' ((y, instObj 46 dy) :: (dy, tdDict w D' S' U' k1 k2 k3 t1 t2 t3) :: news) → Q (.ref y) { s with heap := h', toks := tk' }) :
    wpAny (model PR w) (ktrTop dp un gd cn cs L a ccd cl outer) (call (.ref 43) [.ref x]) Q E s := c_size w news x dx D S U W k1 k2 k3 t1 t2 t3 hx hdx hlo hP _ _ _ _ _ _ _ _ _ _ _ _ _ _ _ _ _ _ _ _ B F X N T hk hd hu (by
      rintro v news' h' tk' ⟨y, dy, D', S', U', k1, k2, k3, t1, t2, t3, rfl, rfl, hp⟩ F' N'
      rw [hA.1] at hp
      exact ret y dy D' S' U' k1 k2 k3 t1 t2 t3 h' tk' (tdFacts hA.2.1 hA.2.2 hp) F' N')
local macro_rules | `(tactic| k_room) => `(tactic| ktr_room)
local macro_rules | `(tactic| walk_at "call ref") => `(tactic| (k_here; (with_reducible show wpAny _ _ (call (Value.ref 57) [Value.int _ _, Value.int _ _]) _ _ _); k_dflt (refine' con_rnd (c_rounded _ _ _ _ _ _ ?p1 ?p2 ?p3) ?k1 ?k2 ?k3 ?k4 ?k5 ?k6 ?k7 ?k8 ?_); (case p1 => omega); (case p2 => omega); (case p3 => omega); (case k1 => k_asm); (case k2 => k_asm); (case k3 => k_asm); (case k4 => k_asm); (case k5 => k_asm); (case k6 => first | exact rfl | assumption); (case k7 => ktr_room); (case k8 => ktr_units); intro t9 h9 tk9 hb9 F9 N9; (try dsimp only); (try k_fold)))
local macro_rules | `(tactic| walk_at "call ref") => `(tactic| (k_here; (with_reducible show wpAny _ _ (call (Value.ref 248) [Value.int _ _]) _ _ _); k_dflt (refine' con_str (c_comma _ _ _ _ ?p1 ?p2) ?k1 ?k2 ?k3 ?k4 ?k5 ?k6 ?k7 ?k8 ?_); (case p1 => omega); (case p2 => omega); (case k1 => k_asm); (case k2 => k_asm); (case k3 => k_asm); (case k4 => k_asm); (case k5 => k_asm); (case k6 => first | exact rfl | assumption); (case k7 => ktr_room); (case k8 => ktr_units); intro t9 h9 tk9 F9 N9; (try dsimp only); (try k_fold)))
local macro_rules | `(tactic| k_mem) => `(tactic| first | (refine' List.mem_cons_of_mem _ ?_; ktr_member) | (refine' List.mem_cons_of_mem _ (List.mem_cons_of_mem _ ?_); ktr_member) | (refine' List.mem_cons_of_mem _ (List.mem_cons_of_mem _ (List.mem_cons_of_mem _ ?_)); ktr_member) | (refine' List.mem_cons_of_mem _ (List.mem_cons_of_mem _ (List.mem_cons_of_mem _ (List.mem_cons_of_mem _ ?_))); ktr_member) | (refine' List.mem_cons_of_mem _ (List.mem_cons_of_mem _ (List.mem_cons_of_mem _ (List.mem_cons_of_mem _ (List.mem_cons_of_mem _ ?_)))); ktr_member) | (refine' List.mem_cons_of_mem _ (List.mem_cons_of_mem _ (List.mem_cons_of_mem _ (List.mem_cons_of_mem _ (List.mem_cons_of_mem _ (List.mem_cons_of_mem _ ?_))))); ktr_member))
local macro_rules | `(tactic| walk_at "call ref") => `(tactic| (k_here; (with_reducible show wpAny _ _ (call (Value.ref 43) _) _ _ _); k_dflt (refine' size_use ?k1 ?k2 ?k3 ?k4 ?k5 ?k6 ?k7 ?k8 ?q1 ?q2 ?q3 ?q4 ?q5 ?_); (case k1 => k_asm); (case k2 => k_asm); (case k3 => k_asm); (case k4 => k_asm); (case k5 => k_asm); (case k6 => first | exact rfl | assumption); (case k7 => ktr_room); (case k8 => ktr_units); (case q1 => k_mem); (case q2 => k_mem); (case q3 => assumption); (case q4 => assumption); (case q5 => assumption); intro y9 dy9 D9 S9 U9 k19 k29 k39 t19 t29 t39 h9 tk9 hP9 F9 N9; (have hP8 := hP9); k_dflt (obtain ⟨hP1, hP2, hP3, hP4, hP5, hP6, hP7, hPg, hPa, hPb, hPc, hPd, hPe, hPf⟩ := hP8); (try k_sweep); (try dsimp only); (try k_fold)))

local macro_rules | `(tactic| walk_at "binaryOp Mod str int") => `(tactic| (k_here; (first | (with_reducible refine' fm0 ?fa ?fb ?_) | (with_reducible refine' fm1 ?fa ?fb ?_) | (with_reducible refine' fm2 ?fa ?fb ?_) | (with_reducible refine' fm3 ?fa ?fb ?_) | (with_reducible refine' fm4 ?fa ?fb ?_) | (with_reducible refine' fm5 ?fa ?fb ?_) | (with_reducible refine' fm6 ?fa ?fb ?_) | (with_reducible refine' fm7 ?fa ?fb ?_) | (with_reducible refine' fm8 ?fa ?fb ?_) | (with_reducible refine' fm9 ?fa ?fb ?_) | (with_reducible refine' fm10 ?fa ?fb ?_) | (with_reducible refine' fm11 ?fa ?fb ?_) | (with_reducible refine' fm12 ?fa ?fb ?_)); (case fa => omega); (case fb => omega); intro t9 tk9; (try dsimp only)))
local macro_rules | `(tactic| walk_at "call builtin:str.replace") => `(tactic| (k_here; (with_reducible refine' pct_replace ?ra ?rb ?rc ?_); (case ra => ((show @Ne Nat _ _); omega)); (case rb => ((show @Ne Nat _ _); omega)); (case rc => ((show @Ne Nat _ _); omega)); intro t9 tk9; (try dsimp only)))
local macro_rules | `(tactic| walk_at "binaryOp Mod str str") => `(tactic| (k_here; (with_reducible refine' fmS ?ra ?_); (case ra => exact Nat.le_trans (commas_len (by omega) (by omega)) (by decide)); intro t9 tk9; (try dsimp only)))
-- omega_ite: a test that the facts decide
local macro_rules | `(tactic| walk_at "ite") => `(tactic| (k_here; k_openite; first
  | (refine ite_pos (by first | with_reducible assumption | ((try simp only [decide_eq_true_eq, decide_eq_false_iff_not, beq_iff_eq, bne_iff_ne, ne_eq, Bool.and_eq_true, Bool.or_eq_true]); omega)) ?_; walk_say "PRUNED by omega")
  | (refine ite_neg (by first | with_reducible assumption | ((try simp only [decide_eq_true_eq, decide_eq_false_iff_not, beq_iff_eq, bne_iff_ne, ne_eq, Bool.and_eq_true, Bool.or_eq_true]); omega)) ?_; walk_say "PRUNED by omega")))
theorem fr_known {h₀ h : Heap} {L : Addr} {m : Str → Option Value} {ps : List (Str × Value)} (F : Fr h₀ L h m) (hp : ∀ p ∈ ps, m p.1 = some p.2) : Fr h₀ L h (kstB m ps) := by
  have e : kstB m ps = m := funext fun z => kstB_eq hp fun _ => rfl
  rw [e]
  exact F
/-- what naturaldelta asks of its unit's word: least is 0, 1, 2 -/
def UnitIs (u : Str) (least : Int) : Prop := (u = Str.ofString "seconds" ∧ least = 0) ∨ (u = Str.ofString "milliseconds" ∧ least = 1) ∨ (u = Str.ofString "microseconds" ∧ least = 2)
def Handed (w : World) (news : List (Addr × Obj)) (v : Value) (span : Int) : Prop :=
  (∃ x dx D S U W k1 k2 k3 t1 t2 t3, v = .ref x ∧ (x, instObj 46 dx) ∈ news ∧ (dx, tdDict w D S U k1 k2 k3 t1 t2 t3) ∈ news ∧ (-1000000000 < D ∧ D < 1000000000) ∧ Parts W D S U ∧ IsAbs W span)
  ∨ (∃ n t, v = .int n t ∧ -80000000000000 < n ∧ n < 80000000000000 ∧ IsAbs (n * 1000000) span)
  ∨ (∃ n t, v = .str (Str.ofString " " ++ Str.ofString (toString n)) t ∧ 0 ≤ n ∧ n < 80000000000000 ∧ IsAbs (n * 1000000) span)
local macro_rules | `(tactic| walk_at "call type:int") => `(tactic| (k_here; (with_reducible show wpAny _ _ (call (Value.type "int") [Value.str (_ ++ _) _]) _ _ _); refine int_space (by assumption) (by assumption) ?_))
local macro_rules | `(tactic| k_ne) => `(tactic| (refine' ne_kind ?nkN ?nka ?nkb ?nkc; (case nkN => assumption); (case nka => k_mem); (case nkb => k_mem); (case nkc => (intro hnk; first | exact absurd (Value.type.inj hnk) (by decide) | cases hnk))))
theorem parts_of (W : Int) : Parts W (W.fdiv 86400000000) ((W.fmod 86400000000).fdiv 1000000) ((W.fmod 86400000000).fmod 1000000) := by
  have h1 := fdiv_fmod_facts W 86400000000
  have h2 := h1.2.2.1 (by decide)
  have h3 := fdiv_fmod_facts (W.fmod 86400000000) 1000000
  have h4 := h3.2.2.1 (by decide)
  have h5 := h1.1
  have h6 := h3.1
  refine ⟨?_, ?_, ?_, ?_, ?_⟩ <;> omega
theorem parts_of' {V W : Int} (e : V = W) : Parts W (V.fdiv 86400000000) ((V.fmod 86400000000).fdiv 1000000) ((V.fmod 86400000000).fmod 1000000) := e ▸ parts_of V
theorem days_of {V : Int} (h0 : -80000000000000000000 < V) (h1 : V < 80000000000000000000) : -1000000000 < V.fdiv 86400000000 ∧ V.fdiv 86400000000 < 1000000000 := by
  have h1 := fdiv_fmod_facts V 86400000000
  have h2 := h1.2.2.1 (by decide)
  have h5 := h1.1
  omega
local macro_rules | `(tactic| k_all) => `(tactic| exact fun p9 h9 => Nat.ne_of_lt ((by assumption : ∀ p ∈ _, p.1 < _) p9 h9))
set_option rowWalk.seconds 0
set_option maxHeartbeats 8000000 in
theorem nd_gen (w : World) (news : List (Addr × Obj)) (args : List Value) (v : Value) (b : Bool) (u : Str) (tu : Tok) (least span : Int)
    (hb : ∀ (s : Shared) (oc : Value) (od : Option Addr) (fd : FuncData) (osl : Array (Option Value)), (hd.heap_39 w.params).In s.heap → (hd.heap_39 w.params).lookup 271 = some ⟨oc, od, .func fd, osl⟩ → BindsTo s fd ⟨args, []⟩ [(Str.ofString "value", v), (Str.ofString "months", .bool b), (Str.ofString "minimum_unit", .str u tu)])
    (hU : UnitIs u least) (hV : Handed w news v span) : Con 8 w 271 args news (fun r => ∃ t, r = .str (nds span b least) t) := by
  have kM := kstMark
  have hl : 0 ≤ least ∧ least ≤ 2 := by rcases hU with ⟨_, h⟩ | ⟨_, h⟩ | ⟨_, h⟩ <;> omega
  unfold Con PR; k_fill; intro dp un gd cn cs a ccd cl outer A₀ base h₀ L m mg mb mean s Q E B F X N T hk hdp hun hret; refine wpAny_call ?_
  k_dflt (refine' code_def (binds := [(Str.ofString "value", v), (Str.ofString "months", .bool b), (Str.ofString "minimum_unit", .str u tu)]) ?k1 ?k2 ?k3 ?k4 ?k5 ?kA ?kF ?kK ?k6 ?k7 ?k8 ?k9 ?kB ?_ ?c2 ?c3 ?c4 ?c5; (case kA => exact rfl); (case kF => exact rfl); (case kK => assumption); (case k1 => k_asm); (case k2 => k_asm); (case k3 => k_asm); (case k4 => k_asm); (case k5 => k_asm); (case k6 => k_is); (case k7 => k_is); (case k8 => ktr_room); (case k9 => exact hb _ _ _ _ _ (by k_in) (by k_is)); (case c5 => decide); (case kB => exact locs rfl); (case c2 => exact rfl); (case c3 => exact rfl); (case c4 => exact rfl); k_whole; intro g' L' h' FG' F' N' B' X' T'; (try dsimp only); (try k_lift B'); (try k_fold))
  clear hb
  refine exec_join 3 (fun PP => ∀ (tl : Tok) (h' : Heap) (tk' : Nat) (m' : Str → Option Value), Fr g' L' h' m' → m' (Str.ofString "min_unit") = some (.int (2 - least) tl) → m' (Str.ofString "months") = some (.bool b) → m' (Str.ofString "value") = some v → News g' L' h' news → PP .next { s with heap := h', toks := tk' }) ?head ?tail
  case head =>
    intro PP hPP
    dsimp only [List.take]
    rcases hU with ⟨rfl, rfl⟩ | ⟨rfl, rfl⟩ | ⟨rfl, rfl⟩
    all_goals k_steps
    all_goals exact hPP _ _ _ _ (by k_asm) rfl rfl rfl (cb_drop (by assumption) (by kcj_all))
  case tail =>
    clear hU F' N'
    intro tl h1 tk1 m1 F1 hm1 hm2 hm3 N1
    dsimp only [List.drop]
    replace F1 := fr_known (ps := [(Str.ofString "value", v), (Str.ofString "min_unit", .int (2 - least) tl), (Str.ofString "months", .bool b)]) F1 (by intro p hp; simp only [List.mem_cons, List.not_mem_nil, or_false] at hp; rcases hp with rfl | rfl | rfl <;> assumption)
    dsimp only [kstB] at F1
    clear hm1 hm2 hm3
    refine exec_join 1 (fun PP => ∀ (x dx : Addr) (D S U W : Int) (k1 k2 k3 t1 t2 t3 : Tok) (h' : Heap) (tk' : Nat) (m' : Str → Option Value) (led : List (Addr × Obj)), Fr g' L' h' m' → m' (Str.ofString "min_unit") = some (.int (2 - least) tl) → m' (Str.ofString "months") = some (.bool b) → m' (Str.ofString "delta") = some (.ref x) → News g' L' h' led → (x, instObj 46 dx) ∈ led → (dx, tdDict w D S U k1 k2 k3 t1 t2 t3) ∈ led → (∀ p ∈ news, p ∈ led) → (-1000000000 < D ∧ D < 1000000000) → Parts W D S U → IsAbs W span → PP .next { s with heap := h', toks := tk' }) ?head2 ?tail2
    case head2 =>
      intro PP hPP
      dsimp only [List.take]
      rcases hV with ⟨x, dx, D, S, U, W, k1, k2, k3, t1, t2, t3, rfl, hx, hdx, hlo, hP, hA⟩ | ⟨n, t, rfl, hn0, hn1, hA⟩ | ⟨n, t, rfl, hn0, hn1, hA⟩
      · k_steps
        all_goals exact hPP _ _ _ _ _ _ _ _ _ _ _ _ _ _ _ _ (by k_asm) rfl rfl rfl (cb_drop (by assumption) (by kcj_all)) hx hdx (fun _ h => h) hlo hP hA
      · k_steps
        all_goals (refine' hPP _ _ _ _ _ (n * 1000000) _ _ _ _ _ _ _ _ _ _ (by k_asm) rfl rfl rfl (by k_asm) (by k_mem) (by k_mem) (by kcj_all) ?_ ?_ hA)
        all_goals first | exact days_of (by omega) (by omega) | exact parts_of' (by omega)
      · k_steps
        all_goals (refine' hPP _ _ _ _ _ (n * 1000000) _ _ _ _ _ _ _ _ _ _ (by k_asm) rfl rfl rfl (by k_asm) (by k_mem) (by k_mem) (by kcj_all) ?_ ?_ hA)
        all_goals first | exact days_of (by omega) (by omega) | exact parts_of' (by omega)
    case tail2 =>
      clear hV F1 N1 F N
      intro x dx D S U W k1 k2 k3 t1 t2 t3 h2 tk2 m2 led F2 hm1 hm2 hm3 N2 hx hdx hsub hlo hP hA
      dsimp only [List.drop]
      replace F2 := fr_known (ps := [(Str.ofString "delta", .ref x), (Str.ofString "min_unit", .int (2 - least) tl), (Str.ofString "months", .bool b)]) F2 (by intro p hp; simp only [List.mem_cons, List.not_mem_nil, or_false] at hp; rcases hp with rfl | rfl | rfl <;> assumption)
      dsimp only [kstB] at F2
      clear hm1 hm2 hm3
      refine exec_join 5 (fun PP => ∀ (D S U : Int) (y dy : Addr) (k1 k2 k3 t1 t2 t3 ty td tn : Tok) (h' : Heap) (tk' : Nat) (m' : Str → Option Value) (led : List (Addr × Obj)), TdFacts span D S U → (0 ≤ rnd (2 * D.fmod 365) 61 ∧ 2 * (rnd (2 * D.fmod 365) 61 * 61) ≤ 2 * (2 * D.fmod 365) + 61 ∧ 2 * (2 * D.fmod 365) - 61 ≤ 2 * (rnd (2 * D.fmod 365) 61 * 61)) → Fr g' L' h' m' → m' (Str.ofString "min_unit") = some (.int (2 - least) tl) → m' (Str.ofString "use_months") = some (.bool b) → m' (Str.ofString "delta") = some (.ref y) → m' (Str.ofString "years") = some (.int (D.fdiv 365) ty) → m' (Str.ofString "days") = some (.int (D.fmod 365) td) → m' (Str.ofString "num_months") = some (.int (rnd (2 * D.fmod 365) 61) tn) → News g' L' h' led → (y, instObj 46 dy) ∈ led → (dy, tdDict w D S U k1 k2 k3 t1 t2 t3) ∈ led → (∀ p ∈ news, p ∈ led) → PP .next { s with heap := h', toks := tk' }) ?head3 ?tail3
      case head3 =>
        intro PP hPP
        dsimp only [List.take]
        k_steps
        all_goals exact hPP _ _ _ _ _ _ _ _ _ _ _ _ _ _ _ _ _ _ (by assumption) (by assumption) (by k_asm) rfl rfl rfl rfl rfl rfl (by k_asm) (by k_mem) (by k_mem) (fun p hp => List.mem_cons_of_mem _ (List.mem_cons_of_mem _ (hsub p hp)))
      case tail3 =>
        clear F2 N2 hx hdx hlo hP hA hsub
        intro D S U y dy j1 j2 j3 u1 u2 u3 ty td tn h3 tk3 m3 led3 hT hR F3 hn1 hn2 hn3 hn4 hn5 hn6 N3 hy hdy hsub
        dsimp only [List.drop]
        replace F3 := fr_known (ps := [(Str.ofString "delta", .ref y), (Str.ofString "years", .int (D.fdiv 365) ty), (Str.ofString "days", .int (D.fmod 365) td), (Str.ofString "num_months", .int (rnd (2 * D.fmod 365) 61) tn), (Str.ofString "use_months", .bool b), (Str.ofString "min_unit", .int (2 - least) tl)]) F3 (by intro p hp; simp only [List.mem_cons, List.not_mem_nil, or_false] at hp; rcases hp with rfl | rfl | rfl | rfl | rfl | rfl <;> assumption)
        dsimp only [kstB] at F3
        clear hn1 hn2 hn3 hn4 hn5 hn6
        have hT2 := hT
        obtain ⟨hP1, hP2, hP3, hP4, hP5, hP6, hP7, hPg, hPa, hPb, hPc, hPd, hPe, hPf⟩ := hT2
        k_steps
        all_goals (refine' hret _ _ _ ?_ (by k_asm) (cb_drop (by assumption) (by first | exact hsub | exact fun p hp => List.mem_cons_of_mem _ (hsub p hp) | exact fun p hp => List.mem_cons_of_mem _ (List.mem_cons_of_mem _ (hsub p hp)))))
        all_goals (refine vstr ?_; rw [nds_eq b hT hl]; unfold ndT; cases b <;> first | contradiction | ((try simp only [true_and, Bool.false_eq_true, false_and, if_false, ne_eq]); (repeat (first | rw [if_pos (by first | assumption | omega)] | rw [if_neg (by first | assumption | omega)])); (try first | rfl | (exfalso; omega))))
end Mine
/-! part MW -/
namespace Mine
theorem digs_commas {n : Int} (h : n < 1000000) : commas n = digs n := by
  unfold commas digs
  by_cases h1 : n < 1000
  · rw [if_pos h1, if_pos h1]
  · rw [if_neg h1, if_neg h1, if_pos h]
theorem nds_said {span : Int} (b : Bool) (least : Int) (h0 : 0 ≤ span) (h1 : span < 86400000000 * 1000000) : nds span b least = said span b least := by
  unfold nds
  have f := fd (b := 86400000000) (by decide) h0
  have g := fd (b := 1000000) (by decide) h0
  by_cases h : 730 ≤ span.fdiv 86400000000
  · rw [if_pos h]
    have r := rnd_bd (n := span.fdiv 86400000000) (d := 365) f.1 (by decide)
    unfold said
    rw [if_neg (by omega), if_neg (by omega), if_neg (by omega), if_neg (by omega), if_pos (by omega)]
    unfold many
    rw [digs_commas (by omega), if_neg (by omega), app_assoc, app_assoc]
    exact congrArg _ (by decide +kernel)
  · rw [if_neg h]
theorem fill_it (w : World) (P : Program → Frag → Prop) : P PySem.Challenge.rw_ez0121_01.row.prog (hd.heap_39 w.params) → True := by
  k_fill
  intro _
  trivial
theorem lk {K : Frag} {f : Addr} {oc oc' : Value} {od od' : Option Addr} {osl osl' : Array (Option Value)} {fd fd' : FuncData} (h : K.lookup f = some ⟨oc, od, .func fd, osl⟩) (h2 : K.lookup f = some ⟨oc', od', .func fd', osl'⟩) : fd = fd' := by
  have h3 := h.symm.trans h2
  injection h3 with h3
  injection h3 with e1 e2 e3 e4
  injection e3 with e3
local macro_rules | `(tactic| k_room) => `(tactic| ktr_room)
set_option maxHeartbeats 2000000 in
theorem nd_bind3 (w : World) (v : Value) (b : Bool) (u : Str) (tu : Tok) (s : Shared) (oc : Value) (od : Option Addr) (fd : FuncData) (osl : Array (Option Value)) (X : (hd.heap_39 w.params).In s.heap) (h : (hd.heap_39 w.params).lookup 271 = some ⟨oc, od, .func fd, osl⟩) :
    BindsTo s fd ⟨[v, .bool b, .str u tu], []⟩ [(Str.ofString "value", v), (Str.ofString "months", .bool b), (Str.ofString "minimum_unit", .str u tu)] := by
  obtain rfl := lk h (by k_is)
  first | exact BindsTo.of_eq rfl | exact binds_K X rfl (by k_is) rfl rfl rfl
set_option maxHeartbeats 2000000 in
theorem nd_bind1 (w : World) (v : Value) (s : Shared) (oc : Value) (od : Option Addr) (fd : FuncData) (osl : Array (Option Value)) (X : (hd.heap_39 w.params).In s.heap) (h : (hd.heap_39 w.params).lookup 271 = some ⟨oc, od, .func fd, osl⟩) :
    BindsTo s fd ⟨[v], []⟩ [(Str.ofString "value", v), (Str.ofString "months", .bool true), (Str.ofString "minimum_unit", .str (Str.ofString "seconds") 614)] := by
  obtain rfl := lk h (by k_is)
  exact binds_K X rfl (by k_is) rfl rfl rfl
/-- naturaldelta by three arguments; by one -/
theorem c_nd3 {w : World} {news : List (Addr × Obj)} {v : Value} {b : Bool} {u : Str} {tu : Tok} {least span : Int} (hU : UnitIs u least) (hV : Handed w news v span) : Con 8 w 271 [v, .bool b, .str u tu] news (fun r => ∃ t, r = .str (nds span b least) t) :=
  nd_gen w news _ v b u tu least span (fun s oc od fd osl X h => nd_bind3 w v b u tu s oc od fd osl X h) hU hV
theorem c_nd1 {w : World} {news : List (Addr × Obj)} {v : Value} {span : Int} (hV : Handed w news v span) : Con 8 w 271 [v] news (fun r => ∃ t, r = .str (nds span true 0) t) :=
  nd_gen w news _ v true _ 614 0 span (fun s oc od fd osl X h => nd_bind1 w v s oc od fd osl X h) (Or.inl ⟨rfl, rfl⟩) hV
end Mine
/-! part LC -/
namespace Mine
section
variable {prog : Program} {w : World} {A : Around} {E : Value → Shared → Prop} {s : Shared} {env : Env} {h₀ : Heap} {target : Expr} {body : List Stmt} {Q : Flow → Shared → Prop} {P : Nat → Value → Prop} {fp : List Addr}
/-- a written loop whose every turn keeps Good and the ledger -/
theorem unr_all {Good : (Str → Option Value) → Prop} {news : List (Addr × Obj)}
    (hturn : ∀ (i : Nat) (v : Value) (h₁ : Heap) (tk₁ : Nat) (own : List (Addr × Obj)) (m₁ : Str → Option Value) (PP : Flow → Shared → Prop), P i v → Good m₁ → Fr h₀ env.locals h₁ m₁ → News h₀ env.locals h₁ (own ++ news) →
      (∀ (h' : Heap) (tk' : Nat) (m' : Str → Option Value), Good m' → Fr h₀ env.locals h' m' → News h₀ env.locals h' (own ++ news) → PP .next { s with heap := h', toks := tk' }) →
      wpAny (model prog w) A (assign target env v) (fun _ s₂ => wpAny (model prog w) A (execs body env) PP E s₂) E { s with heap := h₁, toks := tk₁ })
    (hend : ∀ (h' : Heap) (tk' : Nat) (m' : Str → Option Value), Good m' → Fr h₀ env.locals h' m' → News h₀ env.locals h' news → Q .next { s with heap := h', toks := tk' }) :
    ∀ (n i : Nat) (m : Str → Option Value), Good m → Unr prog w A E h₀ env target body Q P fp s n i m news
  | 0, _, m, hG => fun h' tk F N => hend h' tk m hG F N
  | n + 1, i, m, hG => fun v h₁ tk₁ own hP _ F N =>
    hturn i v h₁ tk₁ own m _ hP hG F N fun h' tk' m' hG' F' N' => LoopStep3.next (LoopStep2.intro F' N' rfl (unr_all hturn hend n (i + 1) m' hG'))
theorem assign_k {name : Str} {scope : Scope} {L a : Addr} {cd : Value} {x : Str} {pos : Pos} {v : Value} {m : Str → Option Value} {news : List (Addr × Obj)} {Q : Unit → Shared → Prop} (F : Fr h₀ L s.heap m) (N : News h₀ L s.heap news)
    (h : ∀ h', Fr h₀ L h' (fun y => if y = x then some v else m y) → News h₀ L h' news → Q () { s with heap := h', toks := s.toks + 1 })
    (hk : scope.kind = .function) (hl : (envOf name scope L a cd).kindOf x = some .local) :
    wpAny (model prog w) A (assign (.Name x pos) (envOf name scope L a cd) v) Q E s := by
  exact PyProof.Rows.assign_Name (stN F N h hk hl)
end

/-- where the walk is to stand still -/
def Halt (P : Prop) : Prop := P
theorem Halt.out {P : Prop} (h : Halt P) : P := h
theorem Halt.mk {P : Prop} (h : P) : Halt P := h
end Mine
/-! part LD -/
namespace Mine
def BodyIs (w : World) (f : Addr) (body : List Stmt) (sc : Scope) : Prop := ∃ oc od osl name qual params dV kV doc pm an cdv ct, (hd.heap_39 w.params).lookup f = some ⟨oc, od, .func (fnOf name qual params body sc dV kV doc pm an cdv ct), osl⟩
theorem body_eq {w : World} {f : Addr} {body body' : List Stmt} {sc sc' : Scope} {oc : Value} {od : Option Addr} {osl : Array (Option Value)} {name qual : Str} {params : Arguments} {dV kV doc pm cdv ct : Value} {an : Option Addr}
    (h : BodyIs w f body sc) (h2 : (hd.heap_39 w.params).lookup f = some ⟨oc, od, .func (fnOf name qual params body' sc' dV kV doc pm an cdv ct), osl⟩) : body = body' ∧ sc = sc' := by
  obtain ⟨oc2, od2, osl2, name2, qual2, params2, dV2, kV2, doc2, pm2, an2, cdv2, ct2, h⟩ := h
  have e := lk h h2
  injection e with e1 e2 e3 e4 e5
  injection e4 with e4
  exact ⟨e4, e5⟩
section
variable {prog : Program} {w : World} {A : Around} {E : Value → Shared → Prop} {s : Shared} {env : Env} {h₀ : Heap} {target : Expr} {body : List Stmt} {Q : Flow → Shared → Prop}
/-- a loop over a written tuple of which every turn keeps Good and the ledger -/
theorem items_all {Good : (Str → Option Value) → Prop} {V : Value → Prop} {I ax : Addr} {lo : Obj} {cn : String} {news : List (Addr × Obj)} (hI : ∀ p ∈ news, p.1 < I) (hax : (ax, lo) ∈ news)
    (hturn : ∀ (v : Value) (h₁ : Heap) (tk₁ : Nat) (o : Obj) (m₁ : Str → Option Value) (PP : Flow → Shared → Prop), V v → Good m₁ → Fr h₀ env.locals h₁ m₁ → News h₀ env.locals h₁ ((I, o) :: news) →
      (∀ (h' : Heap) (tk' : Nat) (m' : Str → Option Value), Good m' → Fr h₀ env.locals h' m' → News h₀ env.locals h' ((I, o) :: news) → PP .next { s with heap := h', toks := tk' }) →
      wpAny (model prog w) A (assign target env v) (fun _ s₂ => wpAny (model prog w) A (execs body env) PP E s₂) E { s with heap := h₁, toks := tk₁ })
    (hend : ∀ (h' : Heap) (tk' : Nat) (m' : Str → Option Value), Good m' → Fr h₀ env.locals h' m' → News h₀ env.locals h' news → Q .next { s with heap := h', toks := tk' }) :
    ∀ (vs : List Value) (m : Str → Option Value), (∀ v ∈ vs, V v) → Good m → ItemsRest prog w A E h₀ env target body Q s [(I, cn)] [(ax, lo)] (vs.map .val) m news
  | [], m, _, hG => fun h tk F N => hend h tk m hG F N
  | v :: vs, m, hV, hG => by
    refine ItemsRest.val fun h tk F => AllObj.cons fun o hc => AllObj.nil fun N => hturn v h tk o m _ (hV v (List.Mem.head _)) hG F N fun h' tk' m' hG' F' N' => ?_
    exact ⟨h', tk', m', news, rfl, F', N', (fun p hp q hq => by rw [List.mem_singleton.mp hq]; exact Nat.ne_of_lt (hI p hp)), And.intro hax trivial, items_all hI hax hturn hend vs m' (fun v h => hV v (List.mem_cons_of_mem _ h)) hG'⟩
end
theorem con_span {k : Nat} {w : World} {f : Addr} {vs : List Value} {news : List (Addr × Obj)} {dp un : Nat} {gd : Option (List Code)} {cn : Str} {cs : Scope} {a : Addr} {ccd : Value} {cl : List (Str × Addr)} {outer : List Env} {A₀ : Around} {base h₀ : Heap} {L : Addr} {m mg mb : Str → Option Value} {mean : ExcName → Option Value} {s : Shared} {Q E : Value → Shared → Prop}
    (C : Con k w f vs news (fun v => ∃ r t, v = .int r t ∧ 0 ≤ r ∧ r < 86400000000 * 1000000)) (B : Below A₀ base outer h₀) (F : Fr h₀ L s.heap m) (X : (hd.heap_39 w.params).In h₀) (N : News h₀ L s.heap news) (T : Top hd.view_39 LO mean mg mb h₀) (hk : cs.kind = .function)
    (hd : dp + k < recursionLimit) (hu : un + 10 * k < cLine)
    (ret : ∀ (r : Int) (t : Tok) (h' : Heap) (tk' : Nat), 0 ≤ r → r < 86400000000 * 1000000 → Fr h₀ L h' m → News h₀ L h' news → Q (.int r t) { s with heap := h', toks := tk' }) :
    wpAny (model PR w) (ktrTop dp un gd cn cs L a ccd cl outer) (call (.ref f) vs) Q E s := C _ _ _ _ _ _ _ _ _ _ _ _ _ _ _ _ _ _ _ _ B F X N T hk hd hu (by rintro v h' tk' ⟨r, t, rfl, h0, h1⟩ F' N'; exact ret r t h' tk' h0 h1 F' N')
end Mine
/-! part WK -/
namespace Mine
/-! a run never takes a token back -/
theorem runs_toks {M : Model} {Γ : Ctx} {p : Pos} {t : Sem Fin} {fs : List Frame} {s : Shared} {e : End} {s' : Shared} (h : Runs M Γ p t fs s e s') : s.toks ≤ s'.toks := by
  induction h <;> (try simp only [Shared.setGen] at *) <;> omega
theorem call_toks {M : Model} {A : Around} {s : Shared} {f : Value} {vs : List Value} {Q E : Value → Shared → Prop}
    (h : wpAny M A (call f vs) (fun v s' => s.toks ≤ s'.toks → Q v s') (fun e s' => s.toks ≤ s'.toks → E e s') s) : wpAny M A (call f vs) Q E s := by
  intro Γ p hΓ
  have h0 := h Γ p hΓ
  show Sem.wp M Γ (runValue (.call f ⟨vs, []⟩)) _ _ p s
  have h1 : Sem.wp M Γ (runValue (.call f ⟨vs, []⟩)) (fun a _ s' => s.toks ≤ s'.toks → Q a s') (fun e _ s' => s.toks ≤ s'.toks → E e s') p s := h0
  rw [Sem.wp_runValue] at h1 ⊢
  obtain ⟨r, s', hr, hR⟩ := h1
  refine ⟨r, s', hr, ?_⟩
  have ht := runs_toks hr
  cases r with
  | error e => exact hR ht
  | ok f => cases f <;> first | exact hR ht | exact hR
end Mine
/-! part WC -/
namespace Mine
/-! runs under the claim's caller: what is asked of every context that has it beneath -/
def Has (l : List (Code × Pos)) : Prop := (l.map (·.1)).any Code.isCaller = true
theorem Has.cons {x : Code × Pos} {l : List (Code × Pos)} (h : Has l) : Has (x :: l) := by
  unfold Has at h ⊢
  rw [List.map_cons, List.any_cons, h, Bool.or_true]
theorem Has.at {c : Code} {p p' : Pos} {l : List (Code × Pos)} (h : Has ((c, p) :: l)) : Has ((c, p') :: l) := h
def wpC {α : Type} (M : Model) (A : Around) (t : Sem α) (Q : α → Shared → Prop) (E : Value → Shared → Prop) (s : Shared) : Prop :=
  ∀ Γ p, Γ.In A → Has ((Γ.code, p) :: Γ.below) → Sem.wp M Γ t (fun a _ s' => Q a s') (fun e _ s' => E e s') p s
def codeC (M : Model) (A : Around) (c : Code) (R : Result → Shared → Prop) (s : Shared) : Prop :=
  ∀ Γ p, Γ.code = c → Γ.Below A → Has Γ.below → wpCode M Γ R p s
section
variable {α β : Type} {M : Model} {A : Around} {s : Shared} {E : Value → Shared → Prop}
theorem wpC_of {t : Sem α} {Q : α → Shared → Prop} (h : wpAny M A t Q E s) : wpC M A t Q E s := fun Γ p hΓ _ => h Γ p hΓ
theorem wpC_mono {t : Sem α} {Q Q' : α → Shared → Prop} {E' : Value → Shared → Prop} (h : wpC M A t Q E s) (hQ : ∀ a s, Q a s → Q' a s) (hE : ∀ e s, E e s → E' e s) : wpC M A t Q' E' s :=
  fun Γ p hΓ hc => Sem.wp_mono M Γ t (fun a _ s => hQ a s) (fun e _ s => hE e s) p s (h Γ p hΓ hc)
theorem wpC_bind {m : Sem α} {f : α → Sem β} {Q : β → Shared → Prop} (h : wpC M A m (fun a s' => wpC M A (f a) Q E s') E s) : wpC M A (m >>= f) Q E s := fun Γ p hΓ hc => by
  rw [Sem.wp_bind']
  exact Sem.wp_mono M Γ m (fun a p' s' h' => h' Γ p' hΓ hc.at) (fun _ _ _ h' => h') p s (h Γ p hΓ hc)
theorem wpC_onRaise {m : Sem α} {k : Value → Sem Unit} {Q : α → Shared → Prop}
    (h : wpC M A m Q (fun e s' => wpAny M A (k e) (fun _ s'' => E e s'') E s') s) : wpC M A (m.onRaise k) Q E s := fun Γ p hΓ hc => by
  rw [Sem.wp_onRaise]
  exact Sem.wp_mono M Γ m (fun _ _ _ h' => h') (fun e p' s' h' => h' Γ p' hΓ) p s (h Γ p hΓ hc)
theorem wpC_attempt {m : Sem α} {Q : Except Value α → Shared → Prop} (h : wpC M A m (fun a => Q (.ok a)) (fun e => Q (.error e)) s) : wpC M A m.attempt Q E s := fun Γ p hΓ hc => by
  rw [Sem.wp_attempt]
  exact h Γ p hΓ hc
theorem wpC_holding {vs : List Value} {m : Sem α} {Q : α → Shared → Prop} (h : wpC M A m Q E s) : wpC M A (holding vs m) Q E s := fun Γ p hΓ hc => by
  rw [Sem.wp_holding]
  exact h Γ p hΓ hc
theorem wpC_keep {vs : List Value} {m : Sem α} {Q : α → Shared → Prop} (h : wpC M A m Q E s) : wpC M A (m.keep vs) Q E s := fun Γ p hΓ hc => by
  rw [Sem.wp_keep]
  exact h Γ p hΓ hc
theorem wpC_stack {Q : List (Code × Pos) → Shared → Prop} (h : ∀ l, Has l → Q l s) : wpC M A stack Q E s := fun _ _ _ hc => h _ hc
theorem wpC_runValue {c : Code} {Q : Value → Shared → Prop}
    (hc : codeC M A c (fun r s' => match r with | .ok (.ret v) => Q v s' | .ok _ => False | .error e => E e s') s) : wpC M A (runValue c) Q E s := fun Γ p hΓ h => by
  rw [Sem.wp_runValue]
  exact hc _ p rfl (hΓ.enter c none p (by intro x; cases x)) h
theorem wpC_call {f : Value} {pos : List Value} {kw : List (Str × Value)} {Q : Value → Shared → Prop}
    (hc : codeC M A (.call f ⟨pos, kw⟩) (fun r s' => match r with | .ok (.ret v) => Q v s' | .ok _ => False | .error e => E e s') s) : wpC M A (call f pos kw) Q E s := wpC_runValue hc
theorem codeC_of {c : Code} {R : Result → Shared → Prop} (h : codeAny M A c R s) : codeC M A c R s := fun Γ p hc hΓ _ => h Γ p hc hΓ
theorem codeC_mono {c : Code} {R R' : Result → Shared → Prop} (h : codeC M A c R s) (hR : ∀ r s, R r s → R' r s) : codeC M A c R' s := fun Γ p hc hΓ hh => wpCode_mono hR (h Γ p hc hΓ hh)
theorem codeC_of_tree {c : Code} {R : Result → Shared → Prop}
    (h : wpC M (A.under c) (M.den c) (fun fin s' => match fin with | .done f => R (.ok f) s' | .again c' => c'.quiet = true ∧ codeC M A c' R s') (fun e s' => R (.error e) s') s) : codeC M A c R s := fun Γ p hc hΓ hh => by
  rw [wpCode_iff_wp, hc]
  refine Sem.wp_mono M Γ _ (fun fin p' s' h' => ?_) (fun _ _ _ h' => h') p s (h Γ p (hc ▸ hΓ.in) hh.cons)
  cases fin with
  | done f => exact h'
  | again c' => exact ⟨h'.1, h'.2 (Γ.goto c') p' rfl (hΓ.goto c') hh⟩
end
section
variable {prog : Program} {w : World} {A : Around} {s : Shared} {R : Result → Shared → Prop} {E : Value → Shared → Prop} {env : Env}
theorem codeC_func {body : List Stmt} {env : Env}
    (h : wpC (model prog w) (A.deeper env) (execs body env) (fun f s' => R (.ok (.ret (match f with | .ret v => v | _ => .none))) s')
      (fun e s' => wpAny (model prog w) (A.deeper env) (leaving env e) (fun _ s'' => R (.error e) s'') (fun e' s'' => R (.error e') s'') s') s) : codeC (model prog w) A (.func body env) R s := by
  refine codeC_of_tree ?_
  show wpC _ (A.deeper env) (do point; match ← (execs body env).onRaise (leaving env) with | .ret v => ret v | _ => ret .none) _ _ s
  refine wpC_bind (wpC_of (wpAny_point (wpC_bind (wpC_onRaise (wpC_mono h (fun f s' h' => ?_) fun _ _ h' => h')))))
  cases f <;> exact wpC_of (wpAny_pure h')
theorem codeC_call_def {a : Addr} {o : Obj} {fd : FuncData} {body : List Stmt} {args : Args} {binds : List (Str × Value)}
    (hroom : A.depth < recursionLimit) (ho : s.heap.get? a = some o) (hdata : o.data = .func fd) (hlim : s.heap.NoLimit) (hcd : s.heap.CodeRec fd.code fd.qualname)
    (hbody : fd.body = .stmts body) (hbind : BindsTo s fd args binds)
    (hcell : ∀ x ∈ fd.scope.names, x.2 ≠ .cell) (hloc : ∀ x ∈ binds, fd.scope.names.lookup x.1 = some .local)
    (h : ∀ h₀, h₀.Ns s.heap.objs.size (fun x => binds.reverse.lookup x) → (∀ b o, s.heap.get? b = some o → h₀.get? b = some o) →
      wpC (model prog w) (A.deeper (callEnv fd s.heap.objs.size a)) (execs body (callEnv fd s.heap.objs.size a)) (fun f s' => R (.ok (.ret (match f with | .ret v => v | _ => .none))) s')
        (fun e s' => wpAny (model prog w) (A.deeper (callEnv fd s.heap.objs.size a)) (leaving (callEnv fd s.heap.objs.size a) e) (fun _ s'' => R (.error e) s'') (fun e' s'' => R (.error e') s'') s')
        { s with heap := h₀, toks := s.toks + binds.length })
    (hco : fd.scope.isCoroutine = false := by rfl) (hgen : fd.scope.isGenerator = false := by rfl) (hk : fd.scope.kind = .function := by rfl) :
    codeC (model prog w) A (.call (.ref a) args) R s := by
  refine codeC_of_tree (wpC_of ?_)
  show wpAny _ A.in1 (callAny (.ref a) args) _ _ s
  simp only [callAny]
  refine wpAny_bind (wpAny_load ho ?_)
  have hcd' := hcd
  obtain ⟨c, oc, vs, tq, hc, hoc, hdc, hq⟩ := hcd'
  simp only [hdata, callFunction, hco, hgen, hbody, hc]
  refine wpAny_bind (m := field (.ref c) 1) (wpAny_field hoc hdc hq (wpAny_bind (wpAny_pure ?_)))
  refine wpAny_bind (hbind _ _ _ _ ?_)
  refine wpAny_bind (wpAny_newFunctionEnv hcell hloc (fun h₀ hns₀ hsb₀ => ?_) hk)
  have keep : ∀ b o, s.heap.get? b = some o → h₀.get? b = some o := fun b o e => hsb₀.extBut b o (Nat.ne_of_lt (Heap.lt_size e)) (Heap.get?_push_of_some _ e)
  refine wpAny_bind (wpAny_enterFrame (hlim.fresh _ hsb₀) hroom (wpAny_pure (And.intro rfl ?_)))
  have hh := codeC_func (h h₀ hns₀ keep)
  unfold callEnv at hh
  rw [hc] at hh
  exact hh
theorem codeC_builtin {id : String} {args : Args} {b : Builtin} (hb : entryFor table id = some b)
    (h : wpC (model prog w) (A.under (.builtin id args)) (b args)
      (fun fin s' => match fin with | .done f => R (.ok f) s' | .again c' => c'.quiet = true ∧ codeC (model prog w) A c' R s') (fun e s' => R (.error e) s') s) :
    codeC (model prog w) A (.builtin id args) R s := by
  refine codeC_of_tree ?_
  show wpC _ _ (match entryFor table id with | some b => b args | none => unsupported ((withoutEnding? id "#data").getD id)) _ _ s
  rw [hb]
  exact h
theorem execsC_cons {st : Stmt} {rest : List Stmt} {Q : Flow → Shared → Prop}
    (h : wpC (model prog w) A (exec st env) (fun f s' => match f with | .next => wpC (model prog w) A (execs rest env) Q E s' | f => Q f s') E s) : wpC (model prog w) A (execs (st :: rest) env) Q E s := by
  rw [execs_cons]
  refine wpC_bind (wpC_mono h (fun f s' h' => ?_) fun _ _ x => x)
  cases f <;> first | exact h' | exact wpC_of (wpAny_pure h')
theorem ifC {test : Expr} {body orelse : List Stmt} {pos : Pos} {Q : Flow → Shared → Prop}
    (h : wpC (model prog w) A (isTrue test env (eval test env)) (fun b s₂ => if b then wpC (model prog w) A (execs body env) Q E s₂ else wpC (model prog w) A (execs orelse env) Q E s₂) E s) :
    wpC (model prog w) A (exec (.If test body orelse pos) env) Q E s := by
  rw [exec_If]
  refine wpC_bind (wpC_of (wpAny_standAt (wpC_bind (wpC_mono h (fun b s₂ h₂ => ?_) fun _ _ x => x))))
  cases b <;> exact h₂
theorem compareC {l : Expr} {op : CmpOp} {r : Expr} {pos : Pos} {whole : Sem Value} {Q : Bool → Shared → Prop}
    (h : wpC (model prog w) A (eval l env) (fun a s₁ => wpAny (model prog w) A (eval r env) (fun b s₂ => wpAny (model prog w) A (compareOp op a b) (fun c s₃ => wpAny (model prog w) A (truthy c) Q E s₃) E s₂) E s₁) E s)
    (hm : behindInMarks op r = false := by with_unfolding_all rfl) : wpC (model prog w) A (isTrue (.Compare l [op] [r] pos) env whole) Q E s := by
  rw [isTrue_Compare1]
  refine wpC_bind (wpC_mono h (fun a s₁ h₁ => wpC_of ?_) fun _ _ x => x)
  simp only [markedBehindIn_of_false hm]
  refine wpAny_bind (wpAny_holding (wpAny_mono h₁ (fun b s₂ h₂ => wpAny_bind (wpAny_standAt (wpAny_bind ?_))) fun _ _ x => x))
  exact fun Γ p hΓ => by
    rw [Sem.wp_operate]
    exact Sem.wp_mono _ Γ _ (fun c p₃ s₃ h₃ => wpAny_holding h₃) (fun _ _ _ x => x) _ _ (h₂ Γ p hΓ)
theorem callC_ {func : Expr} {args : List Expr} {pos : Pos} {Q : Value → Shared → Prop}
    (h : wpAny (model prog w) A (eval func env) (fun f s₁ => wpC (model prog w) A (callWith pos f [] (backTo pos (starEach args env)) []) Q E s₁) E s)
    (he : eval (.Call func args [] pos) env = (do callWith pos (← eval func env) [] (backTo pos (starEach args env)) (backToKw pos (keywordEach [] env))) := by rfl) :
    wpC (model prog w) A (eval (.Call func args [] pos) env) Q E s := by
  rw [he]
  exact wpC_bind (wpC_of h)
theorem exprC {e : Expr} {pos : Pos} {Q : Flow → Shared → Prop} (h : wpC (model prog w) A (eval e env) (fun _ => Q .next) E s)
    (hi : interactive env = false := by rfl) (hs : swapsWith e none pos.line env = pure false := by rfl) : wpC (model prog w) A (exec (.Expr e pos) env) Q E s := by
  rw [exec_Expr env e pos hi hs]
  exact wpC_bind (wpC_of (wpAny_standAt (wpC_bind (wpC_mono h (fun v s' h' => wpC_of (wpAny_dropValue h')) fun _ _ x => x))))
theorem tryC {body orelse : List Stmt} {h₀ : ExceptHandler} {hs : List ExceptHandler} {pos : Pos} {Q : Flow → Shared → Prop}
    (h : wpC (model prog w) A (execs body env) (fun f s₁ => match f with | .next => wpC (model prog w) A (execs orelse env) Q E s₁ | f => Q f s₁)
      (fun e s₁ => wpAny (model prog w) A (noteFrame e env) (fun _ s₂ => wpAny (model prog w) A (setFlight e none) (fun _ s₃ => wpAny (model prog w) A (handleBy e env (h₀ :: hs)) Q E s₃) E s₂) E s₁) s) :
    wpC (model prog w) A (exec (.Try body (h₀ :: hs) orelse [] pos) env) Q E s := by
  rw [arm_exec_Try]
  refine wpC_bind (wpC_of (wpAny_standAt ?_))
  unfold tryStmt
  simp only [List.isEmpty_nil, if_true, List.isEmpty_cons, Bool.false_and, Bool.false_eq_true, if_false]
  refine wpC_bind (wpC_attempt (wpC_mono h (fun f s₁ h₁ => ?_) fun e s₁ h₁ => ?_))
  · cases f <;> first | exact h₁ | exact wpC_of (wpAny_pure h₁)
  · exact wpC_of (wpAny_bind (wpAny_mono h₁ (fun _ _ h₂ => wpAny_bind h₂) fun _ _ x => x))
theorem callWithC {P : Heap → Prop} {pos : Pos} {f : Value} {first : List Value} {args : List (Bool × Sem Value)} {keywords : List (Option Str × Sem Value)} {Q : Value → Shared → Prop} (hplain : (args.any (·.1) || keywords.any (·.1.isNone)) = false)
    (hk : ∀ h, P h → ∃ k, (k = Keeper.frame ∨ k = Keeper.machine ∨ k = Keeper.boundFrame) ∧ Looks (model prog w) h (keeperOf f) k)
    (h : wpAny (model prog w) A (evalArgs f true args keywords) (fun a s₁ => P s₁.heap ∧ wpC (model prog w) A (call f (first ++ a.pos) a.kw) Q E s₁) E s) : wpC (model prog w) A (callWith pos f first args keywords) Q E s := by
  unfold callWith
  refine wpC_bind (wpC_holding (wpC_of (wpAny_mono h (fun a s₁ h₁ => wpC_bind (wpC_of (wpAny_standAt ?_))) fun _ _ x => x)))
  obtain ⟨k, hk', L⟩ := hk _ h₁.1
  simp only [hplain]
  refine wpC_bind (wpC_of (L.here ?_))
  have tail : ∀ {t : Sem Value}, wpC (model prog w) A t Q E s₁ → wpC (model prog w) A (t >>= fun r => holding [r] point >>= fun _ => pure r) Q E s₁ :=
    fun ht => wpC_bind (wpC_mono ht (fun r s₂ hr => wpC_of (wpAny_bind (wpAny_holding (wpAny_point (wpAny_pure hr))))) fun _ _ x => x)
  have marked (mk : Value) : wpC (model prog w) A (callMarked mk f (first ++ a.pos) a.kw) Q E s₁ := by unfold callMarked; exact wpC_keep h₁.2
  rcases hk' with rfl | rfl | rfl <;> dsimp only <;> first | exact tail h₁.2 | (split <;> first | exact tail h₁.2 | exact tail (marked _))
end
end Mine
/-! part WI -/
namespace Mine
/-! int(text) of a text that is no number: ValueError; under the claim's caller nothing is booked -/
section
variable {prog : Program} {w : World} {A : Around} {s : Shared} {E : Value → Shared → Prop}
theorem wpC_ite_pos {α : Type} {c : Prop} [Decidable c] {a b : Sem α} {Q : α → Shared → Prop} (hc : c) (h : wpC (model prog w) A a Q E s) : wpC (model prog w) A (if c then a else b) Q E s := by
  rw [if_pos hc]
  exact h
theorem wpC_ite_neg {α : Type} {c : Prop} [Decidable c] {a b : Sem α} {Q : α → Shared → Prop} (hc : ¬ c) (h : wpC (model prog w) A b Q E s) : wpC (model prog w) A (if c then a else b) Q E s := by
  rw [if_neg hc]
  exact h
theorem cut_fits (y : Str) : (Str.ofString (toString "invalid literal for int() with base " ++ toString 10 ++ toString ": ") ++ (⟨y.cps.extract 0 200⟩ : Str)).length ≤ sizeLine := by
  have h1 : (Str.ofString (toString "invalid literal for int() with base " ++ toString 10 ++ toString ": ")).length ≤ 100 := by decide +kernel
  have h2 : (⟨y.cps.extract 0 200⟩ : Str).length ≤ 200 := by
    show (y.cps.extract 0 200).size ≤ 200
    rw [Array.size_extract]
    omega
  have h3 : (300 : Nat) ≤ sizeLine := by decide +kernel
  rw [Str.length_append]
  omega
theorem and3 {a b c : Bool} (h : a = true) : ((!a && b) && c) = false := by subst h; rfl
theorem markC {own : List String} {e : Value} {Q : Unit → Shared → Prop} (h : Q () s) : wpC (model prog w) A (markTheRefusal own e) Q E s := by
  unfold markTheRefusal
  refine wpC_bind (wpC_stack fun l hl => ?_)
  have e1 : pythonCodeMadeTheCall own (l.map (·.1)) = false := by
    unfold pythonCodeMadeTheCall
    exact and3 hl
  rw [e1]
  exact wpC_of (wpAny_pure h)
theorem newExcC {cls : String} {args : List Value} {Q : Value → Shared → Prop} (hp : PlainExc cls)
    (h : ∀ h' e, Heap.NewExc s.heap h' e cls → Q (.ref e) { s with heap := h' }) (hsz : args.length ≤ sizeLine := by size_fits) : wpAny (model prog w) A (newExc (.type cls) args) Q E s := by
  unfold newExc newTuple
  refine wpAny_bind (wpAny_newObj_type ?_ (show args.toArray.size ≤ sizeLine by simpa using hsz))
  refine wpAny_bind (m := firstArgMember _ _) (wpAny_of_eq (a := Value.none) (by simp only [firstArgMember, hp.first]; rfl) ?_)
  rw [hp.own]
  refine wpAny_newObj_type ?_ (by size_fits)
  exact h _ _ ⟨fun b o hb => Heap.get?_push_of_some _ (Heap.get?_push_of_some _ hb), Heap.get?_none_of_le (by simp), _, .ref s.heap.objs.size, Heap.get?_push_size _ rfl, rfl, by simp⟩
theorem raiseNewC {α : Type} {e : Addr} {Q : α → Shared → Prop} (hh : A.handled = none) (h : E (.ref e) s) : wpAny (model prog w) A (raiseNew (.ref e) : Sem α) Q E s := by
  unfold raiseNew
  refine wpAny_bind (wpAny_handled ?_)
  rw [hh]
  first
    | refine wpAny_throw ?_
    | refine wpAny_bind (wpAny_pure (wpAny_throw ?_))
  exact h
theorem textC {x : Str} {t : Tok} {text : List Nat} {Q : Value → Shared → Prop} (hh : A.handled = none) (hx : (reprText x).length ≤ 1000)
    (hs : (text.takeWhile (· != 0)).length ≤ 640) (hr : (int_private% "readNumeral") 0 10 (text.takeWhile (· != 0)) = (int_private% "Numeral.invalid"))
    (h : ∀ h' tk e, Heap.NewExc s.heap h' e "ValueError" → E (.ref e) { s with heap := h', toks := tk }) :
    wpC (model prog w) A ((int_private% "intFromText") (.str x t) text 10) Q E s := by
  refine wpC_ite_pos hs ?_
  refine wpC_bind (wpC_of (wpAny_pure ?_))
  dsimp only
  rw [hr]
  dsimp only
  refine wpC_bind (wpC_of (wpAny_pure ?_))
  refine wpC_ite_neg (by rw [Option.isSome_none, Bool.false_and]; exact Bool.false_ne_true) ?_
  refine wpC_bind (wpC_of (wpAny_rule ?_))
  refine wpC_bind (wpC_of (wpAny_pure ?_))
  dsimp only
  refine wpC_bind (wpC_of (wpAny_pyRepr_str ?_ (Nat.le_trans hx (by decide +kernel))))
  refine wpC_bind (wpC_of (wpAny_mkStr ?_ (cut_fits _)))
  refine wpC_bind (wpC_of (newExcC plainExc_ValueError (fun h' e hx' => ?_)))
  refine wpC_bind (markC (wpC_of (raiseNewC hh ?_)))
  exact h _ _ _ hx'
def TextGoes (prog : Program) (w : World) (A : Around) (E : Value → Shared → Prop) (t : Tok) (x : Str) (s : Shared) : Prop :=
  ∀ Q : Value → Shared → Prop, wpC (model prog w) A ((int_private% "intFromText") (.str x t) (numTextOf x) 10) Q E s
theorem objC {x : Str} {t : Tok} {Q : Value → Shared → Prop} (hh : A.handled = none) (hx : (reprText x).length ≤ 1000)
    (hs : (numSeenOf x).length ≤ 640) (hr : (int_private% "readNumeral") 0 10 (numSeenOf x) = (int_private% "Numeral.invalid"))
    (h : ∀ h' tk e, Heap.NewExc s.heap h' e "ValueError" → E (.ref e) { s with heap := h', toks := tk }) :
    wpC (model prog w) A ((int_private% "intFromObject") (.str x t)) Q E s := by
  obtain ⟨hp, g, d, tk, os⟩ := s
  have f3 := KIN.str_int
  have f4 := KIN.str_idx
  have f5 := KIN.str_trunc
  have f6 : typeOf (.str x t) = pure (.type "str") := rfl
  have hk : TextGoes prog w A E t x ⟨hp, g, d, tk, os⟩ := fun Q => textC hh hx hs hr h
  clear hh hx hs hr h
  refine wpC_bind (wpC_of ?_)
  repeat (any_goals (first
    | assumption
    | wp_step
    | with_reducible refine wpC_bind (hk _)
    | exact hk _
    | with_reducible refine wpC_bind (wpC_of ?_)
    | (with_reducible refine wpC_ite_neg ?_ ?_; focus (simp; done))
    | (with_reducible refine wpC_ite_pos ?_ ?_; focus (simp; done))
    | ((with_reducible show wpC _ _ _ _ _ _); dsimp only)))
def ObjGoes (prog : Program) (w : World) (A : Around) (E : Value → Shared → Prop) (t : Tok) (x : Str) (s : Shared) : Prop :=
  ∀ Q : Value → Shared → Prop, wpC (model prog w) A ((int_private% "intFromObject") (.str x t)) Q E s
theorem newC {x : Str} {t : Tok} {Q : Fin → Shared → Prop} (hh : A.handled = none) (hx : (reprText x).length ≤ 1000)
    (hs : (numSeenOf x).length ≤ 640) (hr : (int_private% "readNumeral") 0 10 (numSeenOf x) = (int_private% "Numeral.invalid"))
    (h : ∀ h' tk e, Heap.NewExc s.heap h' e "ValueError" → E (.ref e) { s with heap := h', toks := tk }) :
    wpC (model prog w) A (Builtin.«int.__new__» ⟨[.type "int", .str x t], []⟩) Q E s := by
  have hk : ObjGoes prog w A E t x s := fun Q => objC hh hx hs hr h
  clear hh hx hs hr h
  obtain ⟨hp, g, d, tk, os⟩ := s
  have f1 := F.conv_sub_int
  have f2 := F.madeHere_int
  have f6 : typeOf (.str x t) = pure (.type "str") := rfl
  unfold Builtin.«int.__new__»
  dsimp only
  repeat (any_goals (first
    | assumption
    | wp_step
    | with_reducible refine wpC_bind (hk _)
    | with_reducible refine wpC_bind (wpC_of ?_)
    | (with_reducible refine wpC_ite_neg ?_ ?_; focus (simp; done))
    | (with_reducible refine wpC_ite_pos ?_ ?_; focus (simp; done))
    | ((with_reducible show wpC _ _ _ _ _ _); dsimp only)))
  all_goals exact wpC_bind (hk _)
/-- int of a text that is no number, under the claim's caller -/
theorem codeC_call_builtin {id : String} {args : Args} {b : Builtin} {R : Result → Shared → Prop} (hq : plainId id = true) (hb : entryFor table id = some b) (hcn : checkBuiltinCall id args = pure ())
    (h : wpC (model prog w) A.in1 (b args) (fun fin s' => match fin with | .done f => R (.ok f) s' | .again c' => c'.quiet = true ∧ codeC (model prog w) A c' R s') (fun e s' => R (.error e) s') s) : codeC (model prog w) A (.call (.builtin id) args) R s := by
  refine codeC_of_tree ?_
  show wpC _ A.in1 (do checkBuiltinCall id args; again (.builtin id args)) _ _ s
  refine wpC_bind (wpC_of (wpAny_of_eq hcn (wpC_of (wpAny_pure (And.intro (plainId_quiet hq args) (codeC_builtin hb ?_))))))
  rw [Around.under_plainId hq args]
  exact h
theorem intC {x : Str} {t : Tok} {Q : Value → Shared → Prop} (hh : A.handled = none) (hx : (reprText x).length ≤ 1000)
    (hs : (numSeenOf x).length ≤ 640) (hr : (int_private% "readNumeral") 0 10 (numSeenOf x) = (int_private% "Numeral.invalid"))
    (h : ∀ h' tk e, Heap.NewExc s.heap h' e "ValueError" → E (.ref e) { s with heap := h', toks := tk }) :
    wpC (model prog w) A (call (.type "int") [.str x t]) Q E s := by
  have ft := F.called_int
  obtain ⟨c, tl, hmro⟩ := ft.mro
  have hmade := ft.made
  have hsub := ft.sub
  have h1 := ft.notType
  have h2 := ft.canCreate
  have hct := F.typeCall_int_1 (.str x t)
  have hcn := F.newCall_int_1 (.str x t)
  refine wpC_call (codeC_of_tree ?_)
  show wpC _ _ (callAny (.type "int") _) _ _ _
  refine wpC_of (wpAny_pure ⟨Code.quiet_builtin _ (by decide +kernel), codeC_builtin F.entry_type_call ?_⟩)
  rw [Around.under_plain (weight_type_call_type "int" _ []) (units_type_call_type "int" _ [])]
  unfold Builtin.«type.__call__»
  dsimp only
  repeat (any_goals (first
    | assumption
    | wp_step
    | with_reducible refine wpC_bind (wpC_holding (wpC_call ?_))
    | with_reducible refine wpC_bind (wpC_of ?_)
    | (with_reducible refine wpC_ite_neg ?_ ?_; focus (simp [*]; done))
    | (with_reducible refine wpC_ite_pos ?_ ?_; focus (simp [*]; done))
    | ((with_reducible show wpC _ _ _ _ _ _); dsimp only)))
  exact codeC_call_builtin ft.plain F.entry_int_new hcn (newC (A := A.in1.in1) hh hx hs hr h)
end
end Mine
/-! part WN -/
namespace Mine
section
variable {prog : Program} {w : World} {A : Around} {s : Shared} {E : Value → Shared → Prop}
theorem none_int : typeLookup (.type "NoneType") "__int__" = pure none := by rw [typeLookup_type, builtinLookup_eq_fast]; kernel_rfl
theorem none_idx : typeLookup (.type "NoneType") "__index__" = pure none := by rw [typeLookup_type, builtinLookup_eq_fast]; kernel_rfl
theorem none_trunc : typeLookup (.type "NoneType") "__trunc__" = pure none := by rw [typeLookup_type, builtinLookup_eq_fast]; kernel_rfl
theorem none_buf : typeLookup (.type "NoneType") "__buffer__" = pure none := by rw [typeLookup_type, builtinLookup_eq_fast]; kernel_rfl
theorem list_int : typeLookup (.type "list") "__int__" = pure none := by rw [typeLookup_type, builtinLookup_eq_fast]; kernel_rfl
theorem list_idx : typeLookup (.type "list") "__index__" = pure none := by rw [typeLookup_type, builtinLookup_eq_fast]; kernel_rfl
theorem list_trunc : typeLookup (.type "list") "__trunc__" = pure none := by rw [typeLookup_type, builtinLookup_eq_fast]; kernel_rfl
theorem list_buf : typeLookup (.type "list") "__buffer__" = pure none := by rw [typeLookup_type, builtinLookup_eq_fast]; kernel_rfl
set_option maxHeartbeats 4000000 in
theorem int_of_none {Q : Value → Shared → Prop} (hh : A.handled = none)
    (h : ∀ h' tk e, Heap.NewExc s.heap h' e "TypeError" → E (.ref e) { s with heap := h', toks := tk }) : wpAny (model prog w) A (call (.type "int") [.none]) Q E s := by
  have ft := F.called_int
  obtain ⟨c, tl, hmro⟩ := ft.mro
  have hmade := ft.made
  have hsub := ft.sub
  have h1 := ft.notType
  have h2 := ft.canCreate
  have hct := F.typeCall_int_1 .none
  have hcn := F.newCall_int_1 .none
  refine wpAny_call (codeAny_of_tree ?_)
  show wpAny _ _ (callAny (.type "int") _) _ _ _
  refine wpAny_pure ⟨Code.quiet_builtin _ (by decide +kernel), codeAny_builtin F.entry_type_call ?_⟩
  rw [Around.under_plain (weight_type_call_type "int" _ []) (units_type_call_type "int" _ [])]
  obtain ⟨hp, g, d, tk, os⟩ := s
  repeat (any_goals (first | assumption | wp_step))
  refine codeAny_call_builtin ft.plain F.entry_int_new (wpAny_of_eq hcn ?_)
  have f1 := F.conv_sub_int
  have f2 := F.madeHere_int
  have f3 := none_int
  have f4 := none_idx
  have f5 := none_trunc
  have f7 := none_buf
  have f6 : typeOf .none = pure (.type "NoneType") := rfl
  repeat (any_goals (first | assumption | wp_step))
  refine wpAny_raiseTypeError hh ?_ (by decide +kernel)
  intro h' tk' e hx
  exact h h' tk' e hx
set_option maxHeartbeats 4000000 in
theorem int_of_list {l : Addr} {items : Array Value} {c : Nat} {Q : Value → Shared → Prop} (hh : A.handled = none) (ho : s.heap.get? l = some (W.listOf items c))
    (h : ∀ h' tk e, Heap.NewExc s.heap h' e "TypeError" → E (.ref e) { s with heap := h', toks := tk }) : wpAny (model prog w) A (call (.type "int") [.ref l]) Q E s := by
  have ft := F.called_int
  obtain ⟨c, tl, hmro⟩ := ft.mro
  have hmade := ft.made
  have hsub := ft.sub
  have h1 := ft.notType
  have h2 := ft.canCreate
  have hct := F.typeCall_int_1 (.ref l)
  have hcn := F.newCall_int_1 (.ref l)
  have hT : s.TypeIs (.ref l) "list" := ⟨_, ho, rfl⟩
  refine wpAny_call (codeAny_of_tree ?_)
  show wpAny _ _ (callAny (.type "int") _) _ _ _
  refine wpAny_pure ⟨Code.quiet_builtin _ (by decide +kernel), codeAny_builtin F.entry_type_call ?_⟩
  rw [Around.under_plain (weight_type_call_type "int" _ []) (units_type_call_type "int" _ [])]
  obtain ⟨hp, g, d, tk, os⟩ := s
  repeat (any_goals (first | assumption | wp_step))
  refine codeAny_call_builtin ft.plain F.entry_int_new (wpAny_of_eq hcn ?_)
  have f1 := F.conv_sub_int
  have f2 := F.madeHere_int
  have f3 := list_int
  have f4 := list_idx
  have f5 := list_trunc
  have f7 := list_buf
  repeat (any_goals (first | assumption | wp_step))
  refine wpAny_raiseTypeError hh ?_ (by decide +kernel)
  intro h' tk' e hx
  exact h h' tk' e hx
end
end Mine
/-! part LE -/
namespace Mine
theorem fill_it2 (w : World) (P : Program → Frag → Prop) : P PySem.Challenge.rw_ez0121_01.row.prog (hd.heap_39 w.params) → True := by
  k_fill
  intro _
  trivial
theorem span_use {w : World} {news : List (Addr × Obj)} {x y z : Int} {tx ty tz : Tok} {dp un : Nat} {gd : Option (List Code)} {cn : Str} {cs : Scope} {a : Addr} {ccd : Value} {cl : List (Str × Addr)} {outer : List Env} {A₀ : Around} {base h₀ : Heap} {L : Addr} {m mg mb : Str → Option Value} {mean : ExcName → Option Value} {s : Shared} {Q E : Value → Shared → Prop}
    (B : Below A₀ base outer h₀) (F : Fr h₀ L s.heap m) (X : (hd.heap_39 w.params).In h₀) (N : News h₀ L s.heap news) (T : Top hd.view_39 LO mean mg mb h₀) (hk : cs.kind = .function)
    (hd : dp + 2 < recursionLimit) (hu : un + 10 * 2 < cLine)
    (ret : ∀ (r : Int) (t : Tok) (h' : Heap) (tk' : Nat), 0 ≤ r → r < 86400000000 * 1000000 → Fr h₀ L h' m → News h₀ L h' news → Q (.int r t) { s with heap := h', toks := tk' }) :
    wpAny (model PR w) (ktrTop dp un gd cn cs L a ccd cl outer) (call (.ref 278) [.int x tx, .int y ty, .int z tz]) Q E s := con_span (c_span w news x y z tx ty tz) B F X N T hk hd hu ret
theorem whole_sp {span : Int} (h0 : 0 ≤ span) (h1 : span < 86400000000 * 1000000) : 0 ≤ (span - span.fmod 1000000).fdiv 1000000 ∧ (span - span.fmod 1000000).fdiv 1000000 < 86400000000 ∧ (span - span.fmod 1000000).fdiv 1000000 * 1000000 = span - span.fmod 1000000 ∧
    (-(span - span.fmod 1000000)).fdiv 1000000 * 1000000 = -(span - span.fmod 1000000) ∧ 0 ≤ span - span.fmod 1000000 ∧ span - span.fmod 1000000 < 86400000000 * 1000000 := by
  have a := fdiv_fmod_facts span 1000000
  have a2 := a.2.2.1 (by decide)
  have a1 := a.1
  have b := fdiv_fmod_facts (span - span.fmod 1000000) 1000000
  have b2 := b.2.2.1 (by decide)
  have b1 := b.1
  have c := fdiv_fmod_facts (-(span - span.fmod 1000000)) 1000000
  have c2 := c.2.2.1 (by decide)
  have c1 := c.1
  generalize span.fmod 1000000 = f at *
  generalize span.fdiv 1000000 = q at *
  generalize (span - f).fdiv 1000000 = q2 at *
  generalize (span - f).fmod 1000000 = r2 at *
  generalize (-(span - f)).fdiv 1000000 = q3 at *
  generalize (-(span - f)).fmod 1000000 = r3 at *
  omega
theorem handed_td2 {w : World} {news : List (Addr × Obj)} {x dx : Addr} {D S U W span : Int} {k1 k2 k3 t1 t2 t3 : Tok} (hx : (x, instObj 46 dx) ∈ news) (hdx : (dx, tdDict w D S U k1 k2 k3 t1 t2 t3) ∈ news) (hP : Parts W D S U) (hlo : -1000000000 < D ∧ D < 1000000000) (hA : IsAbs W span) : Handed w news (.ref x) span :=
  Or.inl ⟨x, dx, D, S, U, W, k1, k2, k3, t1, t2, t3, rfl, hx, hdx, hlo, hP, hA⟩
theorem isAbs {W span : Int} (h : W = span ∨ W = -span) (h0 : 0 ≤ span) (h1 : span < 86400000000 * 1000000) : IsAbs W span := by
  unfold IsAbs
  refine ⟨?_, h0, by omega⟩
  split <;> omega
theorem add_sp {prog : Program} {w : World} {A : Around} {E : Value → Shared → Prop} {s : Shared} {n : Int} {t u : Tok} {Q : Value → Shared → Prop} (h0 : 0 ≤ n) (h1 : n < 86400000000)
    (h : ∀ (t' : Tok) (k : Nat), Q (.str (Str.ofString " " ++ Str.ofString (toString n)) t') { s with toks := k }) : wpAny (model prog w) A (binaryOp .Add (.str (Str.ofString " ") t) (.str (Str.ofString (toString n)) u)) Q E s := by
  have hl : (Str.ofString (toString n)).length ≤ 14 := toString_length_le h0 (by decide) (by omega)
  have h2 : (Str.ofString " ").length = 1 := by decide +kernel
  exact KXadd.add (K := 1) (L := 14) (Nat.le_of_eq h2) hl (by decide +kernel) (fun t' k _ => h t' k)
theorem nd3_use {w : World} {news : List (Addr × Obj)} {dp un : Nat} {gd : Option (List Code)} {cn : Str} {cs : Scope} {a : Addr} {ccd : Value} {cl : List (Str × Addr)} {outer : List Env} {A₀ : Around} {base h₀ : Heap} {L : Addr} {m mg mb : Str → Option Value} {mean : ExcName → Option Value} {s : Shared} {Q E : Value → Shared → Prop} {v : Value} {b : Bool} {u : Str} {tu : Tok} {least sp : Int}
    (B : Below A₀ base outer h₀) (F : Fr h₀ L s.heap m) (X : (hd.heap_39 w.params).In h₀) (N : News h₀ L s.heap news) (T : Top hd.view_39 LO mean mg mb h₀) (hk : cs.kind = .function) (hd : dp + 8 < recursionLimit) (hu : un + 10 * 8 < cLine)
    (hU : UnitIs u least) (hV : Handed w news v sp) (h0 : 0 ≤ sp) (h1 : sp < 86400000000 * 1000000)
    (ret : ∀ (t : Tok) (h' : Heap) (tk' : Nat), Fr h₀ L h' m → News h₀ L h' news → Q (.str (said sp b least) t) { s with heap := h', toks := tk' }) :
    wpAny (model PR w) (ktrTop dp un gd cn cs L a ccd cl outer) (call (.ref 271) [v, .bool b, .str u tu]) Q E s := by
  have h := c_nd3 (b := b) (tu := tu) hU hV
  rw [nds_said b least h0 h1] at h
  exact con_str h B F X N T hk hd hu ret
theorem nd1_use {w : World} {news : List (Addr × Obj)} {dp un : Nat} {gd : Option (List Code)} {cn : Str} {cs : Scope} {a : Addr} {ccd : Value} {cl : List (Str × Addr)} {outer : List Env} {A₀ : Around} {base h₀ : Heap} {L : Addr} {m mg mb : Str → Option Value} {mean : ExcName → Option Value} {s : Shared} {Q E : Value → Shared → Prop} {v : Value} {sp : Int}
    (B : Below A₀ base outer h₀) (F : Fr h₀ L s.heap m) (X : (hd.heap_39 w.params).In h₀) (N : News h₀ L s.heap news) (T : Top hd.view_39 LO mean mg mb h₀) (hk : cs.kind = .function) (hd : dp + 8 < recursionLimit) (hu : un + 10 * 8 < cLine)
    (hV : Handed w news v sp) (h0 : 0 ≤ sp) (h1 : sp < 86400000000 * 1000000)
    (ret : ∀ (t : Tok) (h' : Heap) (tk' : Nat), Fr h₀ L h' m → News h₀ L h' news → Q (.str (said sp true 0) t) { s with heap := h', toks := tk' }) :
    wpAny (model PR w) (ktrTop dp un gd cn cs L a ccd cl outer) (call (.ref 271) [v]) Q E s := by
  have h := c_nd1 hV
  rw [nds_said true 0 h0 h1] at h
  exact con_str h B F X N T hk hd hu ret
theorem said_use {w : World} {news : List (Addr × Obj)} {dp un : Nat} {gd : Option (List Code)} {cn : Str} {cs : Scope} {a : Addr} {ccd : Value} {cl : List (Str × Addr)} {outer : List Env} {A₀ : Around} {base h₀ : Heap} {L : Addr} {m mg mb : Str → Option Value} {mean : ExcName → Option Value} {s : Shared} {Q E : Value → Shared → Prop} {b : Bool} {least sp : Int} {tn tl : Tok}
    (B : Below A₀ base outer h₀) (F : Fr h₀ L s.heap m) (X : (hd.heap_39 w.params).In h₀) (N : News h₀ L s.heap news) (T : Top hd.view_39 LO mean mg mb h₀) (hk : cs.kind = .function) (hd : dp + 6 < recursionLimit) (hu : un + 10 * 6 < cLine) (h0 : 0 ≤ sp) (h1 : sp < 86400000000 * 1000000)
    (ret : ∀ (t : Tok) (h' : Heap) (tk' : Nat), Fr h₀ L h' m → News h₀ L h' news → Q (.str (said sp b least) t) { s with heap := h', toks := tk' }) :
    wpAny (model PR w) (ktrTop dp un gd cn cs L a ccd cl outer) (call (.ref 306) [.int sp tn, .bool b, .int least tl]) Q E s := con_str (c_said w news sp b least tn tl h0 h1) B F X N T hk hd hu ret
theorem no_ne2 {x : Str} (h : (x != x) = true) : False := by
  rw [bne_self_eq_false] at h
  cases h
local macro_rules | `(tactic| k_room) => `(tactic| ktr_room)
local macro_rules | `(tactic| k_mem) => `(tactic| first | (refine' List.mem_cons_of_mem _ ?_; ktr_member) | (refine' List.mem_cons_of_mem _ (List.mem_cons_of_mem _ ?_); ktr_member) | (refine' List.mem_cons_of_mem _ (List.mem_cons_of_mem _ (List.mem_cons_of_mem _ ?_)); ktr_member) | (refine' List.mem_cons_of_mem _ (List.mem_cons_of_mem _ (List.mem_cons_of_mem _ (List.mem_cons_of_mem _ ?_))); ktr_member) | (refine' List.mem_cons_of_mem _ (List.mem_cons_of_mem _ (List.mem_cons_of_mem _ (List.mem_cons_of_mem _ (List.mem_cons_of_mem _ ?_)))); ktr_member) | (refine' List.mem_cons_of_mem _ (List.mem_cons_of_mem _ (List.mem_cons_of_mem _ (List.mem_cons_of_mem _ (List.mem_cons_of_mem _ (List.mem_cons_of_mem _ ?_))))); ktr_member))
local macro_rules | `(tactic| k_ne) => `(tactic| (refine' ne_kind ?nkN ?nka ?nkb ?nkc; (case nkN => assumption); (case nka => k_mem); (case nkb => k_mem); (case nkc => (intro hnk; first | exact absurd (Value.type.inj hnk) (by decide) | cases hnk))))
local macro_rules | `(tactic| k_all) => `(tactic| exact fun p9 h9 => Nat.ne_of_lt ((by assumption : ∀ p ∈ _, p.1 < _) p9 h9))
local macro_rules | `(tactic| walk_at "call ref") => `(tactic| (k_here; (with_reducible show wpAny _ _ (call (Value.ref 278) _) _ _ _); k_dflt (refine' span_use ?k1 ?k2 ?k3 ?k4 ?k5 ?k6 ?k7 ?k8 ?_); (case k1 => k_asm); (case k2 => k_asm); (case k3 => k_asm); (case k4 => k_asm); (case k5 => k_asm); (case k6 => first | exact rfl | assumption); (case k7 => ktr_room); (case k8 => ktr_units); intro r9 t9 h9 tk9 h90 h91 F9 N9; (try dsimp only); (try k_fold)))
local macro_rules | `(tactic| walk_at "binaryOp Pow int int") => `(tactic| (k_here; first
  | ((with_reducible show wpAny _ _ (binaryOp Operator.Pow (Value.int 3 _) (Value.int (Int.fdiv 1 3) _)) _ _ _); refine pow_lit (r := 1) (by decide) (by decide) (by decide) (by decide) ?_)
  | ((with_reducible show wpAny _ _ (binaryOp Operator.Pow (Value.int 3 _) (Value.int (Int.fdiv 4 3) _)) _ _ _); refine pow_lit (r := 3) (by decide) (by decide) (by decide) (by decide) ?_)
  | ((with_reducible show wpAny _ _ (binaryOp Operator.Pow (Value.int 3 _) (Value.int (Int.fdiv 7 3) _)) _ _ _); refine pow_lit (r := 9) (by decide) (by decide) (by decide) (by decide) ?_)
  | ((with_reducible show wpAny _ _ (binaryOp Operator.Pow (Value.int 3 _) (Value.int (Int.fdiv 10 3) _)) _ _ _); refine pow_lit (r := 27) (by decide) (by decide) (by decide) (by decide) ?_)
  | ((with_reducible show wpAny _ _ (binaryOp Operator.Pow (Value.int 10 _) (Value.int 6 _)) _ _ _); refine pow_lit (r := 1000000) (by decide) (by decide) (by decide) (by decide) ?_)))
local macro_rules | `(tactic| walk_at "binaryOp Add str str") => `(tactic| (k_here; (with_reducible refine' add_sp ?aa ?ab ?_); (case aa => exact (whole_sp (by assumption) (by assumption)).1); (case ab => exact (whole_sp (by assumption) (by assumption)).2.1); intro t9 tk9; (try dsimp only)))
local macro_rules | `(tactic| walk_at "call ref") => `(tactic| (k_here; (with_reducible show wpAny _ _ (call (Value.ref 271) [_, Value.bool _, Value.str _ _]) _ _ _); k_dflt (refine' nd3_use (by k_asm) (by k_asm) (by k_asm) (by k_asm) (by k_asm) ?k6 ?k7 ?k8 (by assumption) (by assumption) (by assumption) (by assumption) ?_); (case k6 => first | exact rfl | assumption); (case k7 => ktr_room); (case k8 => ktr_units); intro t9 h9 tk9 F9 N9; (try dsimp only); (try k_fold)))
local macro_rules | `(tactic| walk_at "call ref") => `(tactic| (k_here; (with_reducible show wpAny _ _ (call (Value.ref 271) [_]) _ _ _); k_dflt (refine' nd1_use (by k_asm) (by k_asm) (by k_asm) (by k_asm) (by k_asm) ?k6 ?k7 ?k8 (by assumption) (by assumption) (by assumption) ?_); (case k6 => first | exact rfl | assumption); (case k7 => ktr_room); (case k8 => ktr_units); intro t9 h9 tk9 F9 N9; (try dsimp only); (try k_fold)))
local macro_rules | `(tactic| walk_at "call ref") => `(tactic| (k_here; (with_reducible show wpAny _ _ (call (Value.ref 306) [Value.int _ _, Value.bool _, Value.int _ _]) _ _ _); k_dflt (refine' said_use (by k_asm) (by k_asm) (by k_asm) (by k_asm) (by k_asm) ?k6 ?k7 ?k8 (by assumption) (by assumption) ?_); (case k6 => first | exact rfl | assumption); (case k7 => ktr_room); (case k8 => ktr_units); intro t9 h9 tk9 F9 N9; (try dsimp only); (try k_fold)))
set_option rowWalk.seconds 0
set_option maxHeartbeats 2000000 in
theorem turn_a {w : World} {mean : ExcName → Option Value} {mg mb : Str → Option Value} {h₀ : Heap} {L fa r : Addr} {cd : Value} {name : Str} {sc : Scope} {lb body els : List Stmt} {target iter : Expr} {pos : Pos} {rv : List Value} {rs : List Int} {s : Shared} {PP : Flow → Shared → Prop} {E : Value → Shared → Prop} {k : Int} {tk : Tok} {m : Str → Option Value} {I ax : Addr} {o lo : Obj}
    (hB : BodyIs w 313 lb sc) (hl : lb[1]? = some (.For target iter body els pos)) (T : Top hd.view_39 LO mean mg mb h₀) (X : (hd.heap_39 w.params).In h₀) (B : Below callerA h₀ [] h₀) (hk : k = 1 ∨ k = 4 ∨ k = 7 ∨ k = 10)
    (F : Fr h₀ L s.heap m) (hm : m (Str.ofString "row") = some (.ref r)) (N : News h₀ L s.heap [(r, W.listOf rv.toArray 0), (I, o), (ax, lo)]) (hI : IntsAre rv rs) (hlen : rs.length = 16)
    (hPO : PassesOwn (model PR w) (callerA.deeper (envOf name sc L fa cd)) (envOf name sc L fa cd) E)
    (hend : ∀ (h' : Heap) (tk' : Nat) (m' : Str → Option Value), m' (Str.ofString "row") = some (.ref r) → Fr h₀ L h' m' → News h₀ L h' [(r, W.listOf rv.toArray 0), (I, o), (ax, lo)] → PP .next { s with heap := h', toks := tk' }) :
    wpAny (model PR w) (callerA.deeper (envOf name sc L fa cd)) (assign target (envOf name sc L fa cd) (.int k tk)) (fun _ s₂ => wpAny (model PR w) (callerA.deeper (envOf name sc L fa cd)) (execs body (envOf name sc L fa cd)) PP E s₂) E s := by
  have kM := kstMark
  obtain ⟨rfl, rfl⟩ := body_eq hB (by k_is)
  clear hB
  injection hl with hl
  injection hl with e1 e2 e3 e4 e5
  subst e1 e2 e3 e4 e5
  refine assign_k F N ?_ rfl rfl
  intro h1 F1 N1
  replace F1 := fr_known (ps := [(Str.ofString "row", .ref r), (Str.ofString "k", .int k tk)]) F1 (by intro p hp; simp only [List.mem_cons, List.not_mem_nil, or_false] at hp; rcases hp with rfl | rfl <;> first | rfl | exact hm)
  dsimp only [kstB] at F1
  clear F N hm
  refine exec_join 4 (fun PP => ∀ (span least : Int) (b : Bool) (u : Str) (ts tl tu : Tok) (h' : Heap) (tk' : Nat) (m' : Str → Option Value), 0 ≤ span → span < 86400000000 * 1000000 → UnitIs u least → Fr h₀ L h' m' → m' (Str.ofString "row") = some (.ref r) → m' (Str.ofString "k") = some (.int k tk) → m' (Str.ofString "span") = some (.int span ts) → m' (Str.ofString "least") = some (.int least tl) → m' (Str.ofString "months") = some (.bool b) → m' (Str.ofString "unit") = some (.str u tu) → News h₀ L h' [(r, W.listOf rv.toArray 0), (I, o), (ax, lo)] → PP .next { s with heap := h', toks := tk' }) ?head ?tail
  case head =>
    intro PP hPP
    dsimp only [List.take]
    rcases hk with rfl | rfl | rfl | rfl
    all_goals k_steps
    all_goals (refine hPP _ _ _ _ _ _ _ _ _ _ ?_ ?_ ?_ (by k_asm) rfl rfl rfl rfl rfl rfl (cb_drop (by assumption) (by kcj_all)))
    all_goals first | assumption | exact Or.inl ⟨rfl, by assumption⟩ | exact Or.inr (Or.inl ⟨rfl, by assumption⟩) | exact Or.inr (Or.inr ⟨rfl, by assumption⟩)
  case tail =>
    clear F1
    intro span least b u ts tl tu h2 tk2 m2 hs0 hs1 hU F2 hm1 hm2 hm3 hm4 hm5 hm6 N2
    dsimp only [List.drop]
    replace F2 := fr_known (ps := [(Str.ofString "row", .ref r), (Str.ofString "k", .int k tk), (Str.ofString "span", .int span ts), (Str.ofString "least", .int least tl), (Str.ofString "months", .bool b), (Str.ofString "unit", .str u tu)]) F2 (by intro p hp; simp only [List.mem_cons, List.not_mem_nil, or_false] at hp; rcases hp with rfl | rfl | rfl | rfl | rfl | rfl <;> assumption)
    dsimp only [kstB] at F2
    clear hm1 hm2 hm3 hm4 hm5 hm6
    refine exec_join 3 (fun PP => ∀ (v : Value) (sp : Int) (tsp : Tok) (led : List (Addr × Obj)) (h' : Heap) (tk' : Nat) (m' : Str → Option Value), 0 ≤ sp → sp < 86400000000 * 1000000 → Handed w led v sp → (∀ p ∈ [(r, W.listOf rv.toArray 0), (I, o), (ax, lo)], p ∈ led) → Fr h₀ L h' m' → m' (Str.ofString "row") = some (.ref r) → m' (Str.ofString "span") = some (.int sp tsp) → m' (Str.ofString "least") = some (.int least tl) → m' (Str.ofString "months") = some (.bool b) → m' (Str.ofString "unit") = some (.str u tu) → m' (Str.ofString "handed") = some v → News h₀ L h' led → PP .next { s with heap := h', toks := tk' }) ?head2 ?tail2
    case head2 =>
      intro PP hPP
      dsimp only [List.take]
      k_steps
      all_goals have hw := whole_sp hs0 hs1
      all_goals (refine hPP _ _ _ _ _ _ _ ?_ ?_ ?_ ?_ (by k_asm) rfl rfl rfl rfl rfl rfl (by k_asm))
      all_goals first
        | assumption
        | exact hw.2.2.2.2.1
        | exact hw.2.2.2.2.2
        | exact handed_td2 (by k_mem) (by k_mem) (by exact parts_of _) (by exact days_of (by omega) (by omega)) (isAbs (by omega) hs0 hs1)
        | (refine Or.inr (Or.inl ⟨_, _, rfl, ?_, ?_, isAbs ?_ hw.2.2.2.2.1 hw.2.2.2.2.2⟩) <;> omega)
        | (refine Or.inr (Or.inr ⟨_, _, rfl, ?_, ?_, isAbs ?_ hw.2.2.2.2.1 hw.2.2.2.2.2⟩) <;> omega)
        | kcj_all
        | skip
    case tail2 =>
      clear F2 N2
      intro v sp tsp led h3 tk3 m3 hs2 hs3 hV hsub F3 hm1 hm2 hm3 hm4 hm5 hm6 N3
      dsimp only [List.drop]
      replace F3 := fr_known (ps := [(Str.ofString "row", .ref r), (Str.ofString "span", .int sp tsp), (Str.ofString "least", .int least tl), (Str.ofString "months", .bool b), (Str.ofString "unit", .str u tu), (Str.ofString "handed", v)]) F3 (by intro p hp; simp only [List.mem_cons, List.not_mem_nil, or_false] at hp; rcases hp with rfl | rfl | rfl | rfl | rfl | rfl <;> assumption)
      dsimp only [kstB] at F3
      clear hm1 hm2 hm3 hm4 hm5 hm6
      k_steps
      all_goals first | exact (no_ne2 (by assumption)).elim | exact hend _ _ _ rfl (by k_asm) (cb_drop (by assumption) hsub) | skip
end Mine
/-! part LF -/
namespace Mine
/-! the law's days: from two years on -/
theorem free44 {x : Str} (h : Dig x) : x.cps.toList.filter (· != 44) = x.cps.toList :=
  filter_free 44 _ fun hm => by have := (h.2 44 hm).1; omega
theorem strike_commas {n : Int} (h0 : 0 ≤ n) (h1 : n < 1000000000) : (commas n).cps.toList.filter (· != 44) = (dg n).cps.toList := by
  have e44 : (Str.ofString ",").cps.toList.filter (· != 44) = [] := by decide +kernel
  have f1 := fd (b := 1000) (by decide) h0
  have f2 := (fdiv_fmod_facts n 1000).2.2.1 (by decide)
  have f3 := fd (b := 1000) (by decide) f1.1
  have f4 := (fdiv_fmod_facts (n.fdiv 1000) 1000).2.2.1 (by decide)
  unfold commas
  split
  · exact free44 (dig_dg h0)
  · split
    · rw [KT.app_list, KT.app_list, List.filter_append, List.filter_append, e44, free44 (dig_dg f1.1), free44 (dig_rj f2.1 f2.2), List.append_nil, dg_split (n := n) (by omega), KT.app_list]
    · rw [KT.app_list, KT.app_list, KT.app_list, KT.app_list, List.filter_append, List.filter_append, List.filter_append, List.filter_append, e44, free44 (dig_dg f3.1), free44 (dig_rj f2.1 f2.2), free44 (dig_rj f4.1 f4.2), List.append_nil, List.append_nil, dg_split (n := n) (by omega), KT.app_list, dg_split (n := n.fdiv 1000) (by omega), KT.app_list, List.append_assoc]
theorem strike_years {n : Int} (h0 : 0 ≤ n) (h1 : n < 1000000000) : Txt.replace (commas n ++ Str.ofString " years") (Str.ofString ",") (Str.ofString "") = Str.ofString (toString n) ++ Str.ofString " years" := by
  have e1 : Str.ofString "," = ⟨#[44]⟩ := by decide +kernel
  have e2 : Str.ofString "" = ⟨#[]⟩ := by decide +kernel
  have e3 : (Str.ofString " years").cps.toList.filter (· != 44) = (Str.ofString " years").cps.toList := by decide +kernel
  refine str_of_list ?_
  rw [e2, e1, replace_strikes, KT.app_list, List.filter_append, e3, strike_commas h0 h1, KT.app_list]
section
variable {prog : Program} {w : World} {A : Around} {E : Value → Shared → Prop} {s : Shared} {n : Int} {t u v : Tok} {Q : Value → Shared → Prop}
theorem strike_call (hu : u ≠ 0) (hv : v ≠ 0) (huv : u ≠ v) (h0 : 0 ≤ n) (h1 : n < 1000000000) (h : ∀ t' k, Q (.str (Str.ofString (toString n) ++ Str.ofString " years") t') { s with toks := k }) :
    wpAny (model prog w) A (call (.builtin "str.replace") [.str (commas n ++ Str.ofString " years") t, .str (Str.ofString ",") u, .str (Str.ofString "") v]) Q E s :=
  SC.replace hu hv huv (by decide +kernel) (by
    have h2 : (Str.ofString "").length = 0 := by decide +kernel
    have h3 : (Str.ofString " years").length = 6 := by decide +kernel
    have h4 := commas_len h0 h1
    rw [h2, Str.length_append, h3]
    omega) (by rw [strike_years h0 h1]; exact h)
end
theorem c_ndY {w : World} {news : List (Addr × Obj)} {v : Value} {span D : Int} (hV : Handed w news v span) (hD : span.fdiv 86400000000 = D) (h7 : 730 ≤ D) : Con 8 w 271 [v] news (fun r => ∃ t, r = .str (commas (rnd D 365) ++ Str.ofString " years") t) := by
  have h := c_nd1 hV
  unfold nds at h
  rw [hD, if_pos h7] at h
  exact h
theorem fmod9 (x : Int) : x.fmod 999999270 = x % 999999270 := Int.fmod_eq_emod_of_nonneg x (by decide)
theorem fmod8 (x : Int) : x.fmod 86400 = x % 86400 := Int.fmod_eq_emod_of_nonneg x (by decide)
theorem handed_td {w : World} {news : List (Addr × Obj)} {x dx : Addr} {D S U W : Int} {k1 k2 k3 t1 t2 t3 : Tok} (hx : (x, instObj 46 dx) ∈ news) (hdx : (dx, tdDict w D S U k1 k2 k3 t1 t2 t3) ∈ news) (hP : Parts W D S U) (hlo : -1000000000 < D ∧ D < 1000000000) (h0 : 0 ≤ W) (h1 : W < 86400000000 * 1000000000) : Handed w news (.ref x) W :=
  Or.inl ⟨x, dx, D, S, U, W, k1, k2, k3, t1, t2, t3, rfl, hx, hdx, hlo, hP, by unfold IsAbs; rw [if_neg (by omega)]; exact ⟨rfl, h0, h1⟩⟩
theorem fdiv_is {a q : Int} (h0 : q * 86400000000 ≤ a) (h1 : a < q * 86400000000 + 86400000000) : a.fdiv 86400000000 = q := by
  have f := fdiv_fmod_facts a 86400000000
  have g := f.2.2.1 (by decide)
  have e := f.1
  omega
theorem yr_bd {x : Int} : 0 ≤ rnd (x.fmod 999999270 + 730) 365 ∧ rnd (x.fmod 999999270 + 730) 365 < 1000000000 := by
  have f := (fdiv_fmod_facts x 999999270).2.2.1 (by decide)
  have g := rnd_bd (n := x.fmod 999999270 + 730) (d := 365) (by omega) (by decide)
  omega
theorem no_ne {x : Str} (h : (x != x) = true) : False := by
  rw [bne_self_eq_false] at h
  cases h
theorem day_of {d x : Int} : ((d * 86400 + x.fmod 86400) * 1000000 + 0).fdiv 86400000000 = d := by
  have f := (fdiv_fmod_facts x 86400).2.2.1 (by decide)
  exact fdiv_is (by omega) (by omega)
theorem ndY_use {w : World} {news : List (Addr × Obj)} {dp un : Nat} {gd : Option (List Code)} {cn : Str} {cs : Scope} {a : Addr} {ccd : Value} {cl : List (Str × Addr)} {outer : List Env} {A₀ : Around} {base h₀ : Heap} {L : Addr} {m mg mb : Str → Option Value} {mean : ExcName → Option Value} {s : Shared} {Q E : Value → Shared → Prop}
    {x dx : Addr} {D0 S U W D : Int} {k1 k2 k3 t1 t2 t3 : Tok} (B : Below A₀ base outer h₀) (F : Fr h₀ L s.heap m) (X : (hd.heap_39 w.params).In h₀) (N : News h₀ L s.heap news) (T : Top hd.view_39 LO mean mg mb h₀) (hk : cs.kind = .function)
    (hd : dp + 8 < recursionLimit) (hu : un + 10 * 8 < cLine)
    (hx : (x, instObj 46 dx) ∈ news) (hdx : (dx, tdDict w D0 S U k1 k2 k3 t1 t2 t3) ∈ news) (hP : Parts W D0 S U) (hlo : -1000000000 < D0 ∧ D0 < 1000000000) (h0 : 0 ≤ W) (h1 : W < 86400000000 * 1000000000) (hD : W.fdiv 86400000000 = D) (h7 : 730 ≤ D)
    (ret : ∀ (t : Tok) (h' : Heap) (tk' : Nat), Fr h₀ L h' m → News h₀ L h' news → Q (.str (commas (rnd D 365) ++ Str.ofString " years") t) { s with heap := h', toks := tk' }) :
    wpAny (model PR w) (ktrTop dp un gd cn cs L a ccd cl outer) (call (.ref 271) [.ref x]) Q E s := con_str (c_ndY (handed_td hx hdx hP hlo h0 h1) hD h7) B F X N T hk hd hu ret
theorem fill_it3 (w : World) (P : Program → Frag → Prop) : P PySem.Challenge.rw_ez0121_01.row.prog (hd.heap_39 w.params) → True := by
  k_fill
  intro _
  trivial
local macro_rules | `(tactic| k_room) => `(tactic| ktr_room)
local macro_rules | `(tactic| k_mem) => `(tactic| first | (refine' List.mem_cons_of_mem _ ?_; ktr_member) | (refine' List.mem_cons_of_mem _ (List.mem_cons_of_mem _ ?_); ktr_member) | (refine' List.mem_cons_of_mem _ (List.mem_cons_of_mem _ (List.mem_cons_of_mem _ ?_)); ktr_member) | (refine' List.mem_cons_of_mem _ (List.mem_cons_of_mem _ (List.mem_cons_of_mem _ (List.mem_cons_of_mem _ ?_))); ktr_member) | (refine' List.mem_cons_of_mem _ (List.mem_cons_of_mem _ (List.mem_cons_of_mem _ (List.mem_cons_of_mem _ (List.mem_cons_of_mem _ ?_)))); ktr_member) | (refine' List.mem_cons_of_mem _ (List.mem_cons_of_mem _ (List.mem_cons_of_mem _ (List.mem_cons_of_mem _ (List.mem_cons_of_mem _ (List.mem_cons_of_mem _ ?_))))); ktr_member))
local macro_rules | `(tactic| k_ne) => `(tactic| (refine' ne_kind ?nkN ?nka ?nkb ?nkc; (case nkN => assumption); (case nka => k_mem); (case nkb => k_mem); (case nkc => (intro hnk; first | exact absurd (Value.type.inj hnk) (by decide) | cases hnk))))
local macro_rules | `(tactic| k_all) => `(tactic| exact fun p9 h9 => Nat.ne_of_lt ((by assumption : ∀ p ∈ _, p.1 < _) p9 h9))
local macro_rules | `(tactic| walk_at "call ref") => `(tactic| (k_here; (with_reducible show wpAny _ _ (call (Value.ref 285) [Value.int _ _, Value.int _ _]) _ _ _); k_dflt (refine' con_rnd (c_nearest _ _ _ _ _ _ ?p1 ?p2 ?p3 ?p4) ?k1 ?k2 ?k3 ?k4 ?k5 ?k6 ?k7 ?k8 ?_); (case p1 => ((try simp only [fmod9, fmod8]); omega)); (case p2 => ((try simp only [fmod9, fmod8]); omega)); (case p3 => ((try simp only [fmod9, fmod8]); omega)); (case p4 => ((try simp only [fmod9, fmod8]); omega)); (case k1 => k_asm); (case k2 => k_asm); (case k3 => k_asm); (case k4 => k_asm); (case k5 => k_asm); (case k6 => first | exact rfl | assumption); (case k7 => ktr_room); (case k8 => ktr_units); intro t9 h9 tk9 hb9 F9 N9; (try dsimp only); (try k_fold)))
local macro_rules | `(tactic| walk_at "call ref") => `(tactic| (k_here; (with_reducible show wpAny _ _ (call (Value.ref 271) [Value.ref _]) _ _ _); refine call_toks ?_; k_dflt (refine' ndY_use (by k_asm) (by k_asm) (by k_asm) (by k_asm) (by k_asm) ?k6 ?k7 ?k8 (by k_mem) (by k_mem) (by exact parts_of _) ?q4 ?q5 ?q6 (by exact day_of) ?q8 ?_); (case k6 => first | exact rfl | assumption); (case k7 => ktr_room); (case k8 => ktr_units); (case q4 => (rw [day_of]; (constructor <;> ((try simp only [fmod9, fmod8]); omega)))); (case q5 => ((try simp only [fmod9, fmod8]); omega)); (case q6 => ((try simp only [fmod9, fmod8]); omega)); (case q8 => ((try simp only [fmod9, fmod8]); omega)); intro t9 h9 tk9 F9 N9; (try dsimp only); intro ht9; (try dsimp only at ht9); (try k_fold)))
local macro_rules | `(tactic| walk_at "call builtin:str.replace") => `(tactic| (k_here; (with_reducible refine' strike_call ?ra ?rb ?rc ?rd ?re ?_); (case ra => ((show @Ne Nat _ _); omega)); (case rb => ((show @Ne Nat _ _); omega)); (case rc => ((show @Ne Nat _ _); omega)); (case rd => exact yr_bd.1); (case re => exact yr_bd.2); intro t9 tk9; (try dsimp only)))
local macro_rules | `(tactic| walk_at "call ref") => `(tactic| (k_here; (with_reducible show wpAny _ _ (call (Value.ref 46) _) _ _ _); (fail_if_success (with_reducible show wpAny _ _ _ (fun _ _ => (_ : Nat) ≤ _ → _) _ _)); refine call_toks ?_))
set_option rowWalk.seconds 0
set_option maxHeartbeats 1000000 in
theorem days_a {w : World} {mean : ExcName → Option Value} {mg mb : Str → Option Value} {h₀ : Heap} {L fa r : Addr} {cd : Value} {name : Str} {sc : Scope} {lb : List Stmt} {rv : List Value} {rs : List Int} {s : Shared} {PP : Flow → Shared → Prop} {E : Value → Shared → Prop} {m : Str → Option Value}
    (hB : BodyIs w 313 lb sc) (T : Top hd.view_39 LO mean mg mb h₀) (X : (hd.heap_39 w.params).In h₀) (B : Below callerA h₀ [] h₀)
    (F : Fr h₀ L s.heap m) (hm : m (Str.ofString "row") = some (.ref r)) (N : News h₀ L s.heap [(r, W.listOf rv.toArray 0)]) (hI : IntsAre rv rs) (hlen : rs.length = 16)
    (hPO : PassesOwn (model PR w) (callerA.deeper (envOf name sc L fa cd)) (envOf name sc L fa cd) E)
    (hend : ∀ (h' : Heap) (tk' : Nat) (m' : Str → Option Value), m' (Str.ofString "row") = some (.ref r) → Fr h₀ L h' m' → News h₀ L h' [(r, W.listOf rv.toArray 0)] → PP .next { s with heap := h', toks := tk' }) :
    wpAny (model PR w) (callerA.deeper (envOf name sc L fa cd)) (execs ((lb.drop 2).take 2) (envOf name sc L fa cd)) PP E s := by
  have kM := kstMark
  obtain ⟨rfl, rfl⟩ := body_eq hB (by k_is)
  clear hB
  replace F := fr_known (ps := [(Str.ofString "row", .ref r)]) F (by intro p hp; simp only [List.mem_cons, List.not_mem_nil, or_false] at hp; rcases hp with rfl; exact hm)
  dsimp only [kstB] at F
  clear hm
  dsimp only [List.drop, List.take]
  k_steps
  all_goals first | exact (no_ne (by assumption)).elim | exact hend _ _ _ rfl (by k_asm) (cb_drop (by assumption) (by kcj_all))
end Mine
/-! part LG -/
namespace Mine
theorem fill_it4 (w : World) (P : Program → Frag → Prop) : P PySem.Challenge.rw_ez0121_01.row.prog (hd.heap_39 w.params) → True := by
  k_fill
  intro _
  trivial
/-- the words that are no numbers -/
def NoNum (x : Str) : Prop := x = Str.ofString "ten" ∨ x = Str.ofString "1.5" ∨ x = Str.ofString "" ∨ x = Str.ofString "nan"
theorem noNum_reads {x : Str} (h : NoNum x) : (reprText x).length ≤ 1000 ∧ (numSeenOf x).length ≤ 640 ∧ (int_private% "readNumeral") 0 10 (numSeenOf x) = (int_private% "Numeral.invalid") := by
  rcases h with rfl | rfl | rfl | rfl
  · exact ⟨by decide +kernel, by decide +kernel, by kernel_rfl⟩
  · exact ⟨by decide +kernel, by decide +kernel, by kernel_rfl⟩
  · exact ⟨by decide +kernel, by decide +kernel, by kernel_rfl⟩
  · exact ⟨by decide +kernel, by decide +kernel, by kernel_rfl⟩
section
variable {M : Model} {A : Around} {E : Value → Shared → Prop} {s : Shared}
/-- the first n statements by themselves, the rest under the claim's caller -/
theorem exec_joinC {env : Env} {l : List Stmt} {Q : Flow → Shared → Prop} (n : Nat) (J : (Flow → Shared → Prop) → Prop)
    (head : ∀ PP : Flow → Shared → Prop, J PP → wpC M A (execs (l.take n) env) PP E s)
    (tail : J (fun fl s' => match fl with | .next => wpC M A (execs (l.drop n) env) Q E s' | f => Q f s')) : wpC M A (execs l env) Q E s := by
  have e : execs l env = execs (l.take n ++ l.drop n) env := by rw [List.take_append_drop]
  rw [e, execs_append]
  refine wpC_bind (wpC_mono (head _ tail) (fun f s' h => ?_) fun _ _ x => x)
  cases f with
  | next => exact h
  | cont => exact wpC_of (wpAny_pure h)
  | brk => exact wpC_of (wpAny_pure h)
  | ret v => exact wpC_of (wpAny_pure h)
end
/-- a def called from the law's own frame, under the claim's caller: the frame of the law stands in the ledger -/
theorem enterC {prog : Program} {w : World} {A : Around} {s : Shared} {h₀ : Heap} {L a : Addr} {m : Str → Option Value} {cn : Str} {cs : Scope} {ccd : Value} {news : List (Addr × Obj)} {K : Frag} {p : Program} {loose : List Str} {mean : ExcName → Option Value} {mg mb : Str → Option Value}
    {R : Result → Shared → Prop} {name qual : Str} {params : Arguments} {body : List Stmt} {scope : Scope} {dV kV doc pm cdv ct oc : Value} {an od : Option Addr} {osl : Array (Option Value)} {f : Addr} {args : Args} {binds : List (Str × Value)}
    (F : Fr h₀ L s.heap m) (X₀ : K.In h₀) (N : News h₀ L s.heap news) (T : Top p loose mean mg mb h₀) (hck : cs.kind = .function)
    (ho : K.lookup f = some ⟨oc, od, .func (fnOf name qual params body scope dV kV doc pm an cdv ct), osl⟩) (hcd : codeIn K cdv qual = true) (hroom : A.depth < recursionLimit)
    (hbind : BindsTo s (fnOf name qual params body scope dV kV doc pm an cdv ct) args binds) (hloc : ∀ y ∈ binds, scope.names.lookup y.1 = some .local)
    (h : ∀ oL L' h₁, TI.Caller h₀ L m oL → TI.Frs [envOf cn cs L a ccd] [(L, oL)] → (∀ p ∈ news, p.1 ≠ L) → Fr h₀ L' h₁ (fun y => binds.reverse.lookup y) → News h₀ L' h₁ (news ++ [(L, oL)]) →
      wpC (model prog w) (A.deeper (envOf qual scope L' f cdv)) (execs body (envOf qual scope L' f cdv))
        (fun fl s' => TI.LeaveI s' (R (.ok (.ret (match fl with | .ret v => v | _ => .none))) s'))
        (fun e s' => wpAny (model prog w) (A.deeper (envOf qual scope L' f cdv)) (leaving (envOf qual scope L' f cdv) e) (fun _ s'' => R (.error e) s'') (fun e' s'' => R (.error e') s'') s')
        { s with heap := h₁, toks := s.toks + binds.length })
    (hco : scope.isCoroutine = false) (hgen : scope.isGenerator = false) (hk : scope.kind = .function)
    (hcell : ∀ x ∈ scope.names, x.2 ≠ .cell) : codeC (model prog w) A (.call (.ref f) args) R s := by
  have X := X₀.keeps F.keep
  obtain ⟨oL, es, ep, hL, hLd, hLk, hLf⟩ := F.ns
  have hLt := Heap.lt_size hL
  have hkind : (envOf cn cs L a ccd).scope.kind ≠ .module := by
    show cs.kind ≠ .module
    rw [hck]; decide
  refine codeC_call_def (fd := fnOf name qual params body scope dV kV doc pm an cdv ct) (body := body) (binds := binds) hroom (X _ _ ho) rfl (T.nolimit.keeps F.keep) (codeRec_of X hcd) rfl hbind hcell hloc (fun h₁ hns hk₁ => ?_) hco hgen hk
  have up : ∀ b o, s.heap.get? b = some o → h₁.get? b = some o := fun b o e => hk₁ b o e
  refine wpC_mono (h oL s.heap.objs.size h₁ ⟨fun h' sl e => ⟨_, es, ep, e, hLd, hLk, hLf⟩, ⟨es, ep, hLd⟩, F.above⟩ ⟨hkind, rfl, ⟨es, ep, hLd⟩, trivial⟩ (fun p hp => (N p hp).2.1)
    ⟨hns, fun b o e => up b o (F.keep b o e), Nat.le_trans F.above (Nat.le_of_lt hLt)⟩ (fun p hp => ?_)) (fun _ _ x => x) fun _ _ x => x
  rcases List.mem_append.mp hp with hp | hp
  · obtain ⟨h1, h2, h3⟩ := N p hp
    exact ⟨up _ _ h1, Nat.ne_of_lt (Heap.lt_size h1), h3⟩
  · rcases List.mem_cons.mp hp with rfl | hp
    · exact ⟨up _ _ hL, Nat.ne_of_lt hLt, Heap.get?_none_of_le F.above⟩
    · exact nomatch hp
theorem held_push {h₀ h : Heap} {L e : Addr} {m : Str → Option Value} {X : String} {news : List (Addr × Obj)} {fl : Value} (H : TT.HeldNA h₀ L h m e X news fl) (o : Obj) : TT.HeldNA h₀ L (h.push o) m e X news fl := by
  refine ⟨H.held.push o, fun p hp => ⟨Heap.get?_push_of_some _ (H.made p hp).1, (H.made p hp).2⟩, fun ob vs tb e1 e2 e3 => ?_⟩
  obtain ⟨ob0, _, _, _, _, he, _⟩ := H.held.there
  have e4 := (Heap.get?_push_of_some o he).symm.trans e1
  cases e4
  exact H.apart ob vs tb he e2 e3
section
variable {prog : Program} {w : World} {A₀ : Around} {E : Value → Shared → Prop} {s' : Shared} {h₀ : Heap} {L a e : Addr} {m : Str → Option Value} {name : Str} {scope : Scope} {cd : Value} {news : List (Addr × Obj)}
  {b₀ : Stmt} {suite : List Stmt} {pos tpos p1 p2 : Pos} {kk : Nat} {rest : List ExceptHandler} {Q : Flow → Shared → Prop} {X : String} {x1 x2 : Str} {p : Program} {loose : List Str} {mean : ExcName → Option Value} {mg mb : Str → Option Value}
/-- a clause of two built-in classes that takes what is held -/
theorem clause_two {fl : Value} (H : TT.HeldNA h₀ L s'.heap m e X news fl) (T : Top p loose mean mg mb h₀)
    (k : ∀ h', Fr h₀ L h' m → News h₀ L h' news → wpAny (model prog w) ((A₀.deeper (envOf name scope L a cd)).mark (some (.ref e))) (execs (b₀ :: suite) (envOf name scope L a cd)) Q E { s' with heap := h' })
    (hb : subB2 X x1.toString x2.toString = some true)
    (hv1 : bootBuiltins x1 = some (.type x1.toString)) (hv2 : bootBuiltins x2 = some (.type x2.toString))
    (h11 : subB x1.toString (.type "BaseException") = some true) (h12 : subB ((Manifest.find? x1.toString).elim "type" fun y => y.metatype) (.type "tuple") = some false)
    (h21 : subB x2.toString (.type "BaseException") = some true) (h22 : subB ((Manifest.find? x2.toString).elim "type" fun y => y.metatype) (.type "tuple") = some false)
    (t1 : x1 ∉ startupNames) (t2 : x1 ∉ loose) (t3 : x1 ∉ (recsOf p).map (·.name)) (t4 : x1 ∉ (litsOf p).map (·.1)) (t5 : x1 ∉ (clssOf p loose).map (·.name)) (hn1 : x1 ≠ "__name__") (hxk1 : (envOf name scope L a cd).kindOf x1 = some .globalImplicit) (hd1 : (x1 == ("__debug__" : Str)) = false)
    (u1 : x2 ∉ startupNames) (u2 : x2 ∉ loose) (u3 : x2 ∉ (recsOf p).map (·.name)) (u4 : x2 ∉ (litsOf p).map (·.1)) (u5 : x2 ∉ (clssOf p loose).map (·.name)) (hn2 : x2 ≠ "__name__") (hxk2 : (envOf name scope L a cd).kindOf x2 = some .globalImplicit) (hd2 : (x2 == ("__debug__" : Str)) = false)
    (hk : scope.kind = .function)
    (hE : PassesOwnAt (model prog w) ((A₀.deeper (envOf name scope L a cd)).mark (some (.ref e))) (A₀.deeper (envOf name scope L a cd)) (envOf name scope L a cd) E) :
    wpAny (model prog w) (A₀.deeper (envOf name scope L a cd)) (handleBy (.ref e) (envOf name scope L a cd) (.ExceptHandler (some (.Tuple [.Name x1 p1, .Name x2 p2] kk tpos)) none (b₀ :: suite) pos :: rest)) Q E s' := by
  obtain ⟨b1, b2, hs1, hs2, hb'⟩ := subB2_some hb
  have F := H.held.fr
  obtain ⟨ob, he, hcls⟩ := H.isA
  refine wpAny_handleBy_tup2 (T1 := x1.toString) (T2 := x2.toString) (isSubtype_of_subB h11) (isSubtype_of_subB h12) (isSubtype_of_subB h21) (isSubtype_of_subB h22) (isSubtype_of_subB hs1) (isSubtype_of_subB hs2) ?_
  refine Tuple_ (spliced_more (tp_builtin F T hv1 (spliced_more (tp_builtin F T hv2 (spliced_none ?_) u1 u2 u3 u4 u5 hn2 hk hxk2 hd2)) t1 t2 t3 t4 t5 hn1 hk hxk1 hd1))
  refine wpAny_newObj_type ⟨_, rfl, IsTup.new _ _, ⟨ob, Heap.get?_push_of_some _ he, hcls⟩, ?_⟩
  rw [if_pos hb']
  refine (held_push H _).lands fun h' F' N' => ?_
  exact wpAny_passesOwnAt hE (k h' F' N')
end
section
variable {prog : Program} {w : World} {A : Around} {s : Shared} {E : Value → Shared → Prop} {env : Env}
theorem callTypeC {pos : Pos} {T : String} {first : List Value} {args : List (Bool × Sem Value)} {Q : Value → Shared → Prop} (hplain : args.any (·.1) = false)
    (h : wpAny (model prog w) A (evalArgs (.type T) true args []) (fun a s₁ => wpC (model prog w) A (call (.type T) (first ++ a.pos) a.kw) Q E s₁) E s) : wpC (model prog w) A (callWith pos (.type T) first args []) Q E s := by
  unfold callWith
  refine wpC_bind (wpC_holding (wpC_of (wpAny_mono h (fun a s₁ h₁ => wpC_bind (wpC_of (wpAny_standAt ?_))) fun _ _ x => x)))
  simp only [hplain, List.any_nil, Bool.or_false]
  refine wpC_bind (wpC_of (wpAny_pure ?_))
  exact wpC_bind (wpC_mono h₁ (fun r s₂ hr => wpC_of (wpAny_bind (wpAny_holding (wpAny_point (wpAny_pure hr))))) fun _ _ x => x)
theorem callTypeC1 {pos : Pos} {T : String} {e : Expr} {rest : List Expr} {Q : Value → Shared → Prop}
    (h : wpAny (model prog w) A (spliced (backTo pos (starEach (e :: rest) env))) (fun vs s₁ => wpC (model prog w) A (call (.type T) vs) Q E s₁) E s)
    (he : starEach (e :: rest) env = (false, eval e env) :: starEach rest env := by rfl) (hplain : (backTo pos (starEach rest env)).any (·.1) = false := by rfl) :
    wpC (model prog w) A (callWith pos (.type T) [] (backTo pos (starEach (e :: rest) env)) []) Q E s := by
  rw [he] at h ⊢
  exact callTypeC (by show (false || (backTo pos (starEach rest env)).any (·.1)) = false; rw [hplain]; rfl) (Calls.evalArgs_plain h)
end
def AllNe1 (L r : Addr) : Prop := @Ne Nat r L
local macro_rules | `(tactic| k_room) => `(tactic| ktr_room)
set_option rowWalk.seconds 0
set_option maxHeartbeats 4000000 in
/-- naturaldelta of a text that is no number, from the law's frame: the text -/
theorem word_use {w : World} {cn : Str} {cs : Scope} {L a r : Addr} {ccd : Value} {o : Obj} {h₀ : Heap} {m mg mb : Str → Option Value} {mean : ExcName → Option Value} {s : Shared} {Q E : Value → Shared → Prop} {x : Str} {t : Tok} (hx : NoNum x)
    (F : Fr h₀ L s.heap m) (X : (hd.heap_39 w.params).In h₀) (N : News h₀ L s.heap [(r, o)]) (T : Top hd.view_39 LO mean mg mb h₀) (hck : cs.kind = .function)
    (ret : ∀ (t : Tok) (h' : Heap) (tk' : Nat), Fr h₀ L h' m → News h₀ L h' [(r, o)] → Q (.str x t) { s with heap := h', toks := tk' }) :
    wpC (model PR w) (callerA.deeper (envOf cn cs L a ccd)) (call (.ref 271) [.str x t]) Q E s := by
  have kM := kstMark
  unfold PR; k_fill
  refine wpC_call ?_
  k_dflt (refine' enterC (cn := cn) (cs := cs) (ccd := ccd) (a := a) ?k1 ?k2 ?k3 ?k4 ?kH ?k6 ?k7 ?k8 ?k9 ?kB ?_ ?c2 ?c3 ?c4 ?c5; (case k1 => k_asm); (case k2 => k_asm); (case k3 => k_asm); (case k4 => k_asm); (case kH => assumption); (case k6 => k_is); (case k7 => k_is); (case k8 => ((show 1 + claimMargin + 1 < recursionLimit); decide)); (case k9 => first | exact BindsTo.of_eq rfl | exact binds_K (by k_in) rfl (by k_is) rfl rfl rfl); (case c5 => decide); (case kB => exact locs rfl); (case c2 => exact rfl); (case c3 => exact rfl); (case c4 => exact rfl))
  intro oL L' h1 C Fs hne F' N'
  have hrL : AllNe1 L r := hne _ (List.Mem.head _)
  clear hne
  replace N' : News h₀ L' h1 [(r, o), (L, oL)] := N'
  dsimp only at F' ⊢
  refine exec_joinC 3 (fun PP => ∀ (h' : Heap) (tk' : Nat) (m' : Str → Option Value), Fr h₀ L' h' m' → m' (Str.ofString "value") = some (.str x t) → News h₀ L' h' [(r, o), (L, oL)] → PP .next { s with heap := h', toks := tk' }) ?head ?tail
  case head =>
    intro PP hPP
    dsimp only [List.take]
    refine wpC_of ?_
    k_steps
    all_goals exact hPP _ _ _ (by k_asm) rfl (cb_drop (by assumption) (by kcj_all))
  case tail =>
    clear F' N'
    intro h1 tk1 m1 F1 hm1 N1
    dsimp only [List.drop]
    replace F1 := fr_known (ps := [(Str.ofString "value", .str x t)]) F1 (by intro p hp; simp only [List.mem_cons, List.not_mem_nil, or_false] at hp; rcases hp with rfl; exact hm1)
    dsimp only [kstB] at F1
    clear hm1
    refine execsC_cons (ifC (wpC_of ?_))
    k_steps
    refine execsC_cons (tryC (execsC_cons (exprC (callC_ ?_))))
    k_steps
    refine callTypeC1 ?_
    k_steps
    obtain ⟨hx1, hx2, hx3⟩ := noNum_reads hx
    refine intC rfl hx1 hx2 hx3 ?_
    clear hx1 hx2 hx3
    intro h2 tk2 e hX
    dsimp only
    refine TLg.noted_new1 (new := [(r, o)]) (by rfl) Fs hX (by k_asm) (by k_asm) ⟨hrL, trivial⟩ ?_
    clear hX
    intro h3 sl Fs3 H3
    dsimp only
    refine TT.HeldNA.land H3 ?_
    clear H3
    intro h4 H4
    dsimp only
    refine clause_two H4 T ?_ (by decide +kernel) (by decide +kernel) (by decide +kernel) (by decide +kernel) (by decide +kernel) (by decide +kernel) (by decide +kernel) (by decide +kernel) (by decide +kernel) (by decide +kernel) (by decide +kernel) (by decide +kernel) (by decide) rfl (by decide) (by decide +kernel) (by decide +kernel) (by decide +kernel) (by decide +kernel) (by decide +kernel) (by decide) rfl (by decide) rfl (by passes_own)
    clear H4
    intro h5 F5 N5
    k_steps
    exact TLg.leave_back (new := [(r, o)]) C F5 N5 ⟨hrL, trivial⟩ fun F6 N6 => ret _ _ _ F6 N6
end Mine
/-! part LI -/
namespace Mine
theorem fill_it6 (w : World) (P : Program → Frag → Prop) : P PySem.Challenge.rw_ez0121_01.row.prog (hd.heap_39 w.params) → True := by
  k_fill
  intro _
  trivial
local macro_rules | `(tactic| k_room) => `(tactic| ktr_room)
set_option rowWalk.seconds 0
set_option maxHeartbeats 4000000 in
/-- of None -/
theorem word_none {w : World} {cn : Str} {cs : Scope} {L a r : Addr} {ccd : Value} {o : Obj} {h₀ : Heap} {m mg mb : Str → Option Value} {mean : ExcName → Option Value} {s : Shared} {Q E : Value → Shared → Prop} 
    (F : Fr h₀ L s.heap m) (X : (hd.heap_39 w.params).In h₀) (N : News h₀ L s.heap [(r, o)]) (T : Top hd.view_39 LO mean mg mb h₀) (hck : cs.kind = .function)
    (ret : ∀ (t : Tok) (h' : Heap) (tk' : Nat), Fr h₀ L h' m → News h₀ L h' [(r, o)] → Q (.str (Str.ofString "None") t) { s with heap := h', toks := tk' }) :
    wpC (model PR w) (callerA.deeper (envOf cn cs L a ccd)) (call (.ref 271) [.none]) Q E s := by
  have kM := kstMark
  unfold PR; k_fill
  refine wpC_call ?_
  k_dflt (refine' enterC (cn := cn) (cs := cs) (ccd := ccd) (a := a) ?k1 ?k2 ?k3 ?k4 ?kH ?k6 ?k7 ?k8 ?k9 ?kB ?_ ?c2 ?c3 ?c4 ?c5; (case k1 => k_asm); (case k2 => k_asm); (case k3 => k_asm); (case k4 => k_asm); (case kH => assumption); (case k6 => k_is); (case k7 => k_is); (case k8 => ((show 1 + claimMargin + 1 < recursionLimit); decide)); (case k9 => first | exact BindsTo.of_eq rfl | exact binds_K (by k_in) rfl (by k_is) rfl rfl rfl); (case c5 => decide); (case kB => exact locs rfl); (case c2 => exact rfl); (case c3 => exact rfl); (case c4 => exact rfl))
  intro oL L' h1 C Fs hne F' N'
  have hrL : AllNe1 L r := hne _ (List.Mem.head _)
  clear hne
  replace N' : News h₀ L' h1 [(r, o), (L, oL)] := N'
  dsimp only at F' ⊢
  refine exec_joinC 3 (fun PP => ∀ (h' : Heap) (tk' : Nat) (m' : Str → Option Value), Fr h₀ L' h' m' → m' (Str.ofString "value") = some (.none) → News h₀ L' h' [(r, o), (L, oL)] → PP .next { s with heap := h', toks := tk' }) ?head ?tail
  case head =>
    intro PP hPP
    dsimp only [List.take]
    refine wpC_of ?_
    k_steps
    all_goals exact hPP _ _ _ (by k_asm) rfl (cb_drop (by assumption) (by kcj_all))
  case tail =>
    clear F' N'
    intro h1 tk1 m1 F1 hm1 N1
    dsimp only [List.drop]
    replace F1 := fr_known (ps := [(Str.ofString "value", .none)]) F1 (by intro p hp; simp only [List.mem_cons, List.not_mem_nil, or_false] at hp; rcases hp with rfl; exact hm1)
    dsimp only [kstB] at F1
    clear hm1
    refine execsC_cons (ifC (wpC_of ?_))
    k_steps
    refine execsC_cons (tryC (execsC_cons (exprC (callC_ ?_))))
    k_steps
    refine callTypeC1 ?_
    k_steps
    refine wpC_of (int_of_none rfl ?_)
    intro h2 tk2 e hX
    dsimp only
    refine TLg.noted_new1 (new := [(r, o)]) (by rfl) Fs hX (by k_asm) (by k_asm) ⟨hrL, trivial⟩ ?_
    clear hX
    intro h3 sl Fs3 H3
    dsimp only
    refine TT.HeldNA.land H3 ?_
    clear H3
    intro h4 H4
    dsimp only
    refine clause_two H4 T ?_ (by decide +kernel) (by decide +kernel) (by decide +kernel) (by decide +kernel) (by decide +kernel) (by decide +kernel) (by decide +kernel) (by decide +kernel) (by decide +kernel) (by decide +kernel) (by decide +kernel) (by decide +kernel) (by decide) rfl (by decide) (by decide +kernel) (by decide +kernel) (by decide +kernel) (by decide +kernel) (by decide +kernel) (by decide) rfl (by decide) rfl (by passes_own)
    clear H4
    intro h5 F5 N5
    k_steps
    exact TLg.leave_back (new := [(r, o)]) C F5 N5 ⟨hrL, trivial⟩ fun F6 N6 => ret _ _ _ F6 N6
end Mine
/-! part LJ -/
namespace Mine
theorem fill_it7 (w : World) (P : Program → Frag → Prop) : P PySem.Challenge.rw_ez0121_01.row.prog (hd.heap_39 w.params) → True := by
  k_fill
  intro _
  trivial
local macro_rules | `(tactic| k_room) => `(tactic| ktr_room)
set_option rowWalk.seconds 0
set_option maxHeartbeats 4000000 in
/-- of [3] -/
theorem word_list {w : World} {cn : Str} {cs : Scope} {L a r : Addr} {ccd : Value} {o : Obj} {h₀ : Heap} {m mg mb : Str → Option Value} {mean : ExcName → Option Value} {s : Shared} {Q E : Value → Shared → Prop} {l : Addr} {t3 : Tok}
    (F : Fr h₀ L s.heap m) (X : (hd.heap_39 w.params).In h₀) (N : News h₀ L s.heap [(l, W.listOf #[.int 3 t3] 0), (r, o)]) (T : Top hd.view_39 LO mean mg mb h₀) (hck : cs.kind = .function)
    (ret : ∀ (t : Tok) (h' : Heap) (tk' : Nat), Fr h₀ L h' m → News h₀ L h' [(l, W.listOf #[.int 3 t3] 0), (r, o)] → Q (.str (Str.ofString "[" ++ Str.ofString (toString (3 : Int)) ++ Str.ofString "]") t) { s with heap := h', toks := tk' }) :
    wpC (model PR w) (callerA.deeper (envOf cn cs L a ccd)) (call (.ref 271) [.ref l]) Q E s := by
  have kM := kstMark
  unfold PR; k_fill
  refine wpC_call ?_
  k_dflt (refine' enterC (cn := cn) (cs := cs) (ccd := ccd) (a := a) ?k1 ?k2 ?k3 ?k4 ?kH ?k6 ?k7 ?k8 ?k9 ?kB ?_ ?c2 ?c3 ?c4 ?c5; (case k1 => k_asm); (case k2 => k_asm); (case k3 => k_asm); (case k4 => k_asm); (case kH => assumption); (case k6 => k_is); (case k7 => k_is); (case k8 => ((show 1 + claimMargin + 1 < recursionLimit); decide)); (case k9 => first | exact BindsTo.of_eq rfl | exact binds_K (by k_in) rfl (by k_is) rfl rfl rfl); (case c5 => decide); (case kB => exact locs rfl); (case c2 => exact rfl); (case c3 => exact rfl); (case c4 => exact rfl))
  intro oL L' h1 C Fs hne F' N'
  have hlL : AllNe1 L l := hne _ (List.Mem.head _)
  have hrL : AllNe1 L r := hne _ (List.Mem.tail _ (List.Mem.head _))
  clear hne
  replace N' : News h₀ L' h1 [(l, W.listOf #[.int 3 t3] 0), (r, o), (L, oL)] := N'
  dsimp only at F' ⊢
  refine exec_joinC 3 (fun PP => ∀ (h' : Heap) (tk' : Nat) (m' : Str → Option Value), Fr h₀ L' h' m' → m' (Str.ofString "value") = some (.ref l) → News h₀ L' h' [(l, W.listOf #[.int 3 t3] 0), (r, o), (L, oL)] → PP .next { s with heap := h', toks := tk' }) ?head ?tail
  case head =>
    intro PP hPP
    dsimp only [List.take]
    refine wpC_of ?_
    k_steps
    all_goals exact hPP _ _ _ (by k_asm) rfl (cb_drop (by assumption) (by kcj_all))
  case tail =>
    clear F' N'
    intro h1 tk1 m1 F1 hm1 N1
    dsimp only [List.drop]
    replace F1 := fr_known (ps := [(Str.ofString "value", .ref l)]) F1 (by intro p hp; simp only [List.mem_cons, List.not_mem_nil, or_false] at hp; rcases hp with rfl; exact hm1)
    dsimp only [kstB] at F1
    clear hm1
    refine execsC_cons (ifC (wpC_of ?_))
    k_steps
    refine execsC_cons (tryC (execsC_cons (exprC (callC_ ?_))))
    k_steps
    refine callTypeC1 ?_
    k_steps
    refine wpC_of (int_of_list (items := #[.int 3 t3]) (c := 0) rfl (N1 _ (List.Mem.head _)).1 ?_)
    intro h2 tk2 e hX
    dsimp only
    refine TLg.noted_new1 (new := [(l, W.listOf #[.int 3 t3] 0), (r, o)]) (by rfl) Fs hX (by k_asm) (by k_asm) ⟨hlL, hrL, trivial⟩ ?_
    clear hX
    intro h3 sl Fs3 H3
    dsimp only
    refine TT.HeldNA.land H3 ?_
    clear H3
    intro h4 H4
    dsimp only
    refine clause_two H4 T ?_ (by decide +kernel) (by decide +kernel) (by decide +kernel) (by decide +kernel) (by decide +kernel) (by decide +kernel) (by decide +kernel) (by decide +kernel) (by decide +kernel) (by decide +kernel) (by decide +kernel) (by decide +kernel) (by decide) rfl (by decide) (by decide +kernel) (by decide +kernel) (by decide +kernel) (by decide +kernel) (by decide +kernel) (by decide) rfl (by decide) rfl (by passes_own)
    clear H4
    intro h5 F5 N5
    k_steps
    exact TLg.leave_back (new := [(l, W.listOf #[.int 3 t3] 0), (r, o)]) C (by k_asm) (by k_asm) ⟨hlL, hrL, trivial⟩ fun F6 N6 => ret _ _ _ F6 N6
end Mine
/-! part LK -/
namespace Mine
theorem fill_it9 (w : World) (P : Program → Frag → Prop) : P PySem.Challenge.rw_ez0121_01.row.prog (hd.heap_39 w.params) → True := by
  k_fill
  intro _
  trivial
section
variable {prog : Program} {w : World} {A : Around} {s : Shared} {E : Value → Shared → Prop} {env : Env}
theorem callKC {K : Frag} {pos : Pos} {f : Value} {first : List Value} {h₀ : Heap} {e : Expr} {rest : List Expr} {Q : Value → Shared → Prop} (_X : K.In h₀) (hk : keepIn K f = true)
    (h : wpAny (model prog w) A (spliced (backTo pos (starEach (e :: rest) env))) (fun vs s₁ => K.In s₁.heap ∧ wpC (model prog w) A (call f (first ++ vs)) Q E s₁) E s)
    (he : starEach (e :: rest) env = (false, eval e env) :: starEach rest env := by rfl) (hplain : (backTo pos (starEach rest env)).any (·.1) = false := by rfl) :
    wpC (model prog w) A (callWith pos f first (backTo pos (starEach (e :: rest) env)) []) Q E s := by
  rw [he] at h ⊢
  exact callWithC (by show ((false || (backTo pos (starEach rest env)).any (·.1)) || false) = false; rw [hplain]; rfl) (keeps_K hk) (Calls.evalArgs_plain h)
end
theorem no_ne3 {x : Str} (h : (x != x) = true) : False := by
  rw [bne_self_eq_false] at h
  cases h
/-- the words: what v is, what the ledger holds -/
def WordIs (r : Addr) (row : Obj) (v : Value) (led : List (Addr × Obj)) : Prop := (∃ x t, v = .str x t ∧ NoNum x ∧ led = [(r, row)]) ∨ (v = .none ∧ led = [(r, row)]) ∨ (∃ l t3, v = .ref l ∧ led = [(l, W.listOf #[.int 3 t3] 0), (r, row)])
local macro_rules | `(tactic| k_room) => `(tactic| ktr_room)
set_option rowWalk.seconds 0
set_option maxHeartbeats 4000000 in
theorem word_a {w : World} {mean : ExcName → Option Value} {mg mb : Str → Option Value} {h₀ : Heap} {L fa r : Addr} {cd : Value} {name : Str} {sc : Scope} {lb : List Stmt} {rv : List Value} {rs : List Int} {s : Shared} {PP : Flow → Shared → Prop} {E : Value → Shared → Prop} {m : Str → Option Value}
    (hB : BodyIs w 313 lb sc) (T : Top hd.view_39 LO mean mg mb h₀) (X : (hd.heap_39 w.params).In h₀) (B : Below callerA h₀ [] h₀)
    (F : Fr h₀ L s.heap m) (hm : m (Str.ofString "row") = some (.ref r)) (N : News h₀ L s.heap [(r, W.listOf rv.toArray 0)]) (hI : IntsAre rv rs) (hlen : rs.length = 16)
    (hPO : PassesOwn (model PR w) (callerA.deeper (envOf name sc L fa cd)) (envOf name sc L fa cd) E)
    (hend : ∀ (h' : Heap) (tk' : Nat) (m' : Str → Option Value), m' (Str.ofString "row") = some (.ref r) → Fr h₀ L h' m' → News h₀ L h' [(r, W.listOf rv.toArray 0)] → PP .next { s with heap := h', toks := tk' }) :
    wpC (model PR w) (callerA.deeper (envOf name sc L fa cd)) (execs ((lb.drop 4).take 2) (envOf name sc L fa cd)) PP E s := by
  have kM := kstMark
  obtain ⟨rfl, rfl⟩ := body_eq hB (by k_is)
  clear hB
  replace F := fr_known (ps := [(Str.ofString "row", .ref r)]) F (by intro p hp; simp only [List.mem_cons, List.not_mem_nil, or_false] at hp; rcases hp with rfl; exact hm)
  dsimp only [kstB] at F
  clear hm
  dsimp only [List.drop, List.take]
  refine exec_joinC 1 (fun PP => ∀ (v : Value) (led : List (Addr × Obj)) (h' : Heap) (tk' : Nat) (m' : Str → Option Value), WordIs r (W.listOf rv.toArray 0) v led → Fr h₀ L h' m' → m' (Str.ofString "row") = some (.ref r) → m' (Str.ofString "word") = some v → News h₀ L h' led → PP .next { s with heap := h', toks := tk' }) ?head ?tail
  case head =>
    intro PP hPP
    dsimp only [List.take]
    refine wpC_of ?_
    k_steps
    all_goals first
      | exact hPP _ _ _ _ _ (Or.inl ⟨_, _, rfl, Or.inl rfl, rfl⟩) (by k_asm) rfl rfl (cb_drop (by assumption) (by kcj_all))
      | exact hPP _ _ _ _ _ (Or.inl ⟨_, _, rfl, Or.inr (Or.inl rfl), rfl⟩) (by k_asm) rfl rfl (cb_drop (by assumption) (by kcj_all))
      | exact hPP _ _ _ _ _ (Or.inl ⟨_, _, rfl, Or.inr (Or.inr (Or.inl rfl)), rfl⟩) (by k_asm) rfl rfl (cb_drop (by assumption) (by kcj_all))
      | exact hPP _ _ _ _ _ (Or.inl ⟨_, _, rfl, Or.inr (Or.inr (Or.inr rfl)), rfl⟩) (by k_asm) rfl rfl (cb_drop (by assumption) (by kcj_all))
      | exact hPP _ _ _ _ _ (Or.inr (Or.inl ⟨rfl, rfl⟩)) (by k_asm) rfl rfl (cb_drop (by assumption) (by kcj_all))
      | exact hPP _ _ _ _ _ (Or.inr (Or.inr ⟨_, _, rfl, rfl⟩)) (by k_asm) rfl rfl (cb_drop (by assumption) (by kcj_all))
      | skip
  case tail =>
    clear F N
    intro v led h1 tk1 m1 hW F1 hm1 hm2 N1
    dsimp only [List.drop]
    replace F1 := fr_known (ps := [(Str.ofString "row", .ref r), (Str.ofString "word", v)]) F1 (by intro p hp; simp only [List.mem_cons, List.not_mem_nil, or_false] at hp; rcases hp with rfl | rfl <;> assumption)
    dsimp only [kstB] at F1
    clear hm1 hm2
    rcases hW with ⟨x, t, rfl, hx, rfl⟩ | ⟨rfl, rfl⟩ | ⟨l, t3, rfl, rfl⟩
    · refine execsC_cons (ifC (compareC (callC_ ?_)))
      k_steps
      refine callKC X (by k_is) ?_
      k_steps
      refine word_use hx F1 X N1 T rfl ?_
      intro t2 h2 tk2 F2 N2
      dsimp only
      k_steps
      all_goals first | exact (no_ne3 (by assumption)).elim | skip
      all_goals refine wpC_of ?_
      all_goals k_steps
      all_goals dsimp only
      all_goals refine wpC_of ?_
      all_goals k_steps
      all_goals first | exact hend _ _ _ rfl (by k_asm) (cb_drop (by assumption) (by kcj_all)) | skip
    · refine execsC_cons (ifC (compareC (callC_ ?_)))
      k_steps
      refine callKC X (by k_is) ?_
      k_steps
      refine word_none F1 X N1 T rfl ?_
      intro t2 h2 tk2 F2 N2
      dsimp only
      k_steps
      all_goals first | exact (no_ne3 (by assumption)).elim | skip
      all_goals refine wpC_of ?_
      all_goals k_steps
      all_goals dsimp only
      all_goals refine wpC_of ?_
      all_goals k_steps
      all_goals first | exact hend _ _ _ rfl (by k_asm) (cb_drop (by assumption) (by kcj_all)) | skip
    · refine execsC_cons (ifC (compareC (callC_ ?_)))
      k_steps
      refine callKC X (by k_is) ?_
      k_steps
      refine word_list F1 X N1 T rfl ?_
      intro t2 h2 tk2 F2 N2
      dsimp only
      k_steps
      all_goals first | exact (no_ne3 (by assumption)).elim | skip
      all_goals refine wpC_of ?_
      all_goals k_steps
      all_goals dsimp only
      all_goals refine wpC_of ?_
      all_goals k_steps
      all_goals first | exact hend _ _ _ rfl (by k_asm) (cb_drop (by assumption) (by kcj_all)) | skip
end Mine
/-! part LP -/
namespace Mine
theorem fill_it8 (w : World) (P : Program → Frag → Prop) : P PySem.Challenge.rw_ez0121_01.row.prog (hd.heap_39 w.params) → True := by
  k_fill
  intro _
  trivial
local macro_rules | `(tactic| k_room) => `(tactic| ktr_room)
local macro_rules | `(tactic| k_mem) => `(tactic| first | (refine' List.mem_cons_of_mem _ ?_; ktr_member) | (refine' List.mem_cons_of_mem _ (List.mem_cons_of_mem _ ?_); ktr_member) | (refine' List.mem_cons_of_mem _ (List.mem_cons_of_mem _ (List.mem_cons_of_mem _ ?_)); ktr_member) | (refine' List.mem_cons_of_mem _ (List.mem_cons_of_mem _ (List.mem_cons_of_mem _ (List.mem_cons_of_mem _ ?_))); ktr_member) | (refine' List.mem_cons_of_mem _ (List.mem_cons_of_mem _ (List.mem_cons_of_mem _ (List.mem_cons_of_mem _ (List.mem_cons_of_mem _ ?_)))); ktr_member) | (refine' List.mem_cons_of_mem _ (List.mem_cons_of_mem _ (List.mem_cons_of_mem _ (List.mem_cons_of_mem _ (List.mem_cons_of_mem _ (List.mem_cons_of_mem _ ?_))))); ktr_member))
local macro_rules | `(tactic| k_ne) => `(tactic| (refine' ne_kind ?nkN ?nka ?nkb ?nkc; (case nkN => assumption); (case nka => k_mem); (case nkb => k_mem); (case nkc => (intro hnk; first | exact absurd (Value.type.inj hnk) (by decide) | cases hnk))))
local macro_rules | `(tactic| k_all) => `(tactic| exact fun p9 h9 => Nat.ne_of_lt ((by assumption : ∀ p ∈ _, p.1 < _) p9 h9))
set_option rowWalk.seconds 0
set_option maxHeartbeats 4000000 in
/-- timedelta(1) from the law's frame: an object, the ledger kept -/
theorem td_one {w : World} {mean : ExcName → Option Value} {mg mb : Str → Option Value} {h₀ : Heap} {L fa : Addr} {cd : Value} {name : Str} {ns : List (Str × NameKind)} {s : Shared} {Q E : Value → Shared → Prop} {m : Str → Option Value} {news : List (Addr × Obj)} {t : Tok}
    (B : Below callerA h₀ [] h₀) (F : Fr h₀ L s.heap m) (X : (hd.heap_39 w.params).In h₀) (N : News h₀ L s.heap news) (T : Top hd.view_39 LO mean mg mb h₀)
    (ret : ∀ (x : Addr) (h' : Heap) (tk' : Nat), Fr h₀ L h' m → News h₀ L h' news → Q (.ref x) { s with heap := h', toks := tk' }) :
    wpAny (model PR w) (callerA.deeper (envOf name { kind := .function, names := ns, isGenerator := false, isCoroutine := false } L fa cd)) (call (.ref 46) [.int 1 t]) Q E s := by
  have kM := kstMark
  k_steps
  all_goals exact ret _ _ _ (by k_asm) (cb_drop (by assumption) (by kcj_all))
end Mine
/-! part LH -/
namespace Mine
theorem fill_it5 (w : World) (P : Program → Frag → Prop) : P PySem.Challenge.rw_ez0121_01.row.prog (hd.heap_39 w.params) → True := by
  k_fill
  intro _
  trivial
local macro_rules | `(tactic| k_mem) => `(tactic| first | (refine' List.mem_cons_of_mem _ ?_; ktr_member) | (refine' List.mem_cons_of_mem _ (List.mem_cons_of_mem _ ?_); ktr_member) | (refine' List.mem_cons_of_mem _ (List.mem_cons_of_mem _ (List.mem_cons_of_mem _ ?_)); ktr_member) | (refine' List.mem_cons_of_mem _ (List.mem_cons_of_mem _ (List.mem_cons_of_mem _ (List.mem_cons_of_mem _ ?_))); ktr_member) | (refine' List.mem_cons_of_mem _ (List.mem_cons_of_mem _ (List.mem_cons_of_mem _ (List.mem_cons_of_mem _ (List.mem_cons_of_mem _ ?_)))); ktr_member) | (refine' List.mem_cons_of_mem _ (List.mem_cons_of_mem _ (List.mem_cons_of_mem _ (List.mem_cons_of_mem _ (List.mem_cons_of_mem _ (List.mem_cons_of_mem _ ?_))))); ktr_member))
local macro_rules | `(tactic| k_ne) => `(tactic| (refine' ne_kind ?nkN ?nka ?nkb ?nkc; (case nkN => assumption); (case nka => k_mem); (case nkb => k_mem); (case nkc => (intro hnk; first | exact absurd (Value.type.inj hnk) (by decide) | cases hnk))))
local macro_rules | `(tactic| k_all) => `(tactic| exact fun p9 h9 => Nat.ne_of_lt ((by assumption : ∀ p ∈ _, p.1 < _) p9 h9))
local macro_rules | `(tactic| walk_at "joinParts") => `(tactic| (k_here; (with_reducible show wpAny _ _ (joinParts _ (evalEach [] _)) _ _ _); k_dflt (refine' joinParts_nil (hsz := ?jz) ?_); (case jz => decide +kernel)))
def BadIs (k : Int) (u : Str) (v : Value) : Prop := (k = 0 ∧ u = Str.ofString "minutes" ∧ ∃ t, v = .int 60 t) ∨ (k = 1 ∧ u = Str.ofString "weeks" ∧ ∃ t, v = .int 60 t) ∨ (k = 2 ∧ u = Str.ofString "YEARS" ∧ ∃ t, v = .str (Str.ofString "x") t)
  ∨ (k = 3 ∧ u = Str.ofString "seconds" ∧ ∃ n t, v = .int n t ∧ 86400000000000 ≤ n ∧ n < 86400000001000) ∨ (k = 4 ∧ u = Str.ofString "second") ∨ (k = 5 ∧ u = Str.ofString "Hours" ∧ v = .none)
local macro_rules | `(tactic| walk_at "call ref") => `(tactic| (k_here; (with_reducible show wpAny _ _ (call (Value.ref 46) [Value.int 1 _]) _ _ _); k_dflt (refine' td_one (by k_asm) (by k_asm) (by k_asm) (by k_asm) (by k_asm) ?_); intro x9 h9 tk9 F9 N9; (try dsimp only)))
local macro_rules | `(tactic| walk_at "binaryOp Pow int int") => `(tactic| (k_here; (with_reducible show wpAny _ _ (binaryOp Operator.Pow (Value.int 10 _) (Value.int 9 _)) _ _ _); refine pow_lit (r := 1000000000) (by decide) (by decide) (by decide) (by decide) ?_))
local macro_rules | `(tactic| walk_at "binaryOp Mult int int") => `(tactic| (k_here; (with_reducible show wpAny _ _ (binaryOp Operator.Mult (Value.int 86400 _) (Value.int 1000000000 _)) _ _ _); refine mul_lit (r := 86400000000000) (by decide) ?_))
section
variable {prog : Program} {w : World} {A : Around} {E : Value → Shared → Prop} {s : Shared}
/-- a key that a table at the top does not hold -/
theorem topMiss_K {K : Frag} {L a : Addr} {h₀ : Heap} {m : Str → Option Value} {es : Array DictEntry} {n : Nat} {x : Str} {t : Tok} {value slice : Expr} {Q : Value → Shared → Prop} (F : Fr h₀ L s.heap m) (X₀ : K.In h₀) (hl : K.lookup a = some ⟨.type "dict", none, .dict es n, #[]⟩) (hk : KeysLit w.params es.toList)
    (e : nsIn K a x = some none) (lo : (a == sysModules) = false) (hh : A.handled = none) (h : ∀ h' e, Heap.NewExc s.heap h' e "KeyError" → E (.ref e) { s with heap := h', toks := s.toks + 1 })
    (hs : subscripted slice false (.ref a) (.str x t) = operate [.ref a, .str x t] (getItem (.ref a) (.str x t)) := by with_unfolding_all rfl) :
    wpAny (model prog w) A (subscriptTail value slice (.ref a) (.str x t)) Q E s :=
  have hm := mapOf_K (prog := prog) (X₀.keeps F.keep) hl hk
  tail_any hm.typeIs slot_dict_getitem.lookup (wpAny_getItem_missing_of (strKind_is prog w x t) lo hh hm (find_K hl e) h) hs
end
local macro_rules | `(tactic| walk_at "subscriptTail") => `(tactic| (k_here; (with_reducible show wpAny _ _ (subscriptTail _ _ (Value.ref _) (Value.str _ _)) _ _ _); k_dflt (refine' topMiss_K ?F ?X ?l ?k ?e ?o ?hh ?_; (case F => k_asm); (case X => k_asm); (case l => k_is); (case k => k_keys); (case e => k_is); (case o => decide); (case hh => exact rfl); k_whole); intro h' e' x'; (try dsimp only)))
theorem fr_back {h₀ g h : Heap} {L : Addr} {m : Str → Option Value} (T : KtsTurn (([] : List Env).filterMap (·.frame)) h₀ g) (F : Fr g L h m) : Fr h₀ L h m :=
  ⟨F.ns, fun b o e => F.keep b o (T.other b o e (fun q => nomatch q)), by have := F.above; rw [T.size] at this; exact this⟩
theorem big_bd {x : Int} : 86400000000000 ≤ 86400000000000 + x.fmod 1000 ∧ 86400000000000 + x.fmod 1000 < 86400000001000 := by
  have f := (fdiv_fmod_facts x 1000).2.2.1 (by decide)
  omega
set_option rowWalk.seconds 0
set_option maxHeartbeats 8000000 in
theorem bad_a {w : World} {mean : ExcName → Option Value} {mg mb : Str → Option Value} {h₀ : Heap} {L fa r : Addr} {cd : Value} {name : Str} {sc : Scope} {lb : List Stmt} {rv : List Value} {rs : List Int} {s : Shared} {Q : Flow → Shared → Prop} {E Q₁ E₁ : Value → Shared → Prop} {m : Str → Option Value}
    (hB : BodyIs w 313 lb sc) (T : Top hd.view_39 LO mean mg mb h₀) (X : (hd.heap_39 w.params).In h₀) (B : Below callerA h₀ [] h₀)
    (F : Fr h₀ L s.heap m) (hm : m (Str.ofString "row") = some (.ref r)) (N : News h₀ L s.heap [(r, W.listOf rv.toArray 0)]) (hI : IntsAre rv rs) (hlen : rs.length = 16)
    (hE : E = fun e s' => wpAny (model PR w) (callerA.deeper (envOf name sc L fa cd)) (leaving (envOf name sc L fa cd) e) (fun _ s'' => Q₁ e s'') E₁ s')
    (ret : ∀ (h' : Heap) (tk' : Nat) (m' : Str → Option Value), Fr h₀ L h' m' → Q (.ret (.bool true)) { s with heap := h', toks := tk' }) :
    wpAny (model PR w) (callerA.deeper (envOf name sc L fa cd)) (execs (lb.drop 6) (envOf name sc L fa cd)) Q E s := by
  have kM := kstMark
  refine exec_join 1 (fun PP => ∀ (b : Addr) (u : Str) (v : Value) (tu : Tok) (h' : Heap) (tk' : Nat) (m' : Str → Option Value), BadIs ((rs.getD 14 0).fmod 6) u v → Fr h₀ L h' m' → m' (Str.ofString "bad") = some (.ref b) → m' (Str.ofString "row") = some (.ref r) → News h₀ L h' [(b, { cls := .type "tuple", data := .seq #[.str u tu, v] }), (r, W.listOf rv.toArray 0)] → PP .next { s with heap := h', toks := tk' }) ?head ?tail
  case head =>
    intro PP hPP
    obtain ⟨rfl, rfl⟩ := body_eq hB (by k_is)
    clear hB hE ret
    replace F := fr_known (ps := [(Str.ofString "row", .ref r)]) F (by intro p hp; simp only [List.mem_cons, List.not_mem_nil, or_false] at hp; rcases hp with rfl; exact hm)
    dsimp only [kstB] at F
    clear hm
    dsimp only [List.drop, List.take]
    k_steps
    all_goals first
      | exact hPP _ _ _ _ _ _ _ (Or.inl ⟨by assumption, rfl, _, rfl⟩) (by k_asm) rfl rfl (cb_drop (by assumption) (by kcj_all))
      | exact hPP _ _ _ _ _ _ _ (Or.inr (Or.inl ⟨by assumption, rfl, _, rfl⟩)) (by k_asm) rfl rfl (cb_drop (by assumption) (by kcj_all))
      | exact hPP _ _ _ _ _ _ _ (Or.inr (Or.inr (Or.inl ⟨by assumption, rfl, _, rfl⟩))) (by k_asm) rfl rfl (cb_drop (by assumption) (by kcj_all))
      | exact hPP _ _ _ _ _ _ _ (Or.inr (Or.inr (Or.inr (Or.inl ⟨by assumption, rfl, _, _, rfl, big_bd.1, big_bd.2⟩)))) (by k_asm) rfl rfl (cb_drop (by assumption) (by kcj_all))
      | exact hPP _ _ _ _ _ _ _ (Or.inr (Or.inr (Or.inr (Or.inr (Or.inl ⟨by assumption, rfl⟩))))) (by k_asm) rfl rfl (cb_drop (by assumption) (by kcj_all))
      | exact hPP _ _ _ _ _ _ _ (Or.inr (Or.inr (Or.inr (Or.inr (Or.inr ⟨by assumption, rfl, rfl⟩))))) (by k_asm) rfl rfl (cb_drop (by assumption) (by kcj_all))
      | skip
  case tail =>
    subst hE
    have D0 : KtsDicts (([] : List Env).filterMap (·.frame)) h₀ := ktsDicts_nil
    clear F N
    intro b u v tu h1 tk1 m1 hbad F1 hm1 hm2 N1
    obtain ⟨rfl, rfl⟩ := body_eq hB (by k_is)
    clear hB
    replace F1 := fr_known (ps := [(Str.ofString "bad", .ref b), (Str.ofString "row", .ref r)]) F1 (by intro p hp; simp only [List.mem_cons, List.not_mem_nil, or_false] at hp; rcases hp with rfl | rfl <;> assumption)
    dsimp only [kstB] at F1
    clear hm1 hm2
    dsimp only [List.drop]
    rcases hbad with ⟨hk, rfl, t, rfl⟩ | ⟨hk, rfl, t, rfl⟩ | ⟨hk, rfl, t, rfl⟩ | ⟨hk, rfl, n, t, rfl, hn0, hn1⟩ | ⟨hk, rfl⟩ | ⟨hk, rfl, rfl⟩
    · k_steps
      all_goals first | (rw [show (rs.getD (Int.toNat 14) 0).fmod 6 = 0 from hk]; exact ret _ _ _ (by first | k_asm | exact fr_back (by assumption) (by assumption))) | skip
    · k_steps
      all_goals first | (rw [show (rs.getD (Int.toNat 14) 0).fmod 6 = 1 from hk]; exact ret _ _ _ (by first | k_asm | exact fr_back (by assumption) (by assumption))) | skip
    · k_steps
      all_goals first | (rw [show (rs.getD (Int.toNat 14) 0).fmod 6 = 2 from hk]; exact ret _ _ _ (by first | k_asm | exact fr_back (by assumption) (by assumption))) | skip
    · k_steps
      all_goals (try dsimp only [InitBack])
      all_goals k_steps
      all_goals first | (rw [show (rs.getD (Int.toNat 14) 0).fmod 6 = 3 from hk]; exact ret _ _ _ (by first | k_asm | exact fr_back (by assumption) (by assumption))) | skip
    · k_steps
      all_goals first | (rw [show (rs.getD (Int.toNat 14) 0).fmod 6 = 4 from hk]; exact ret _ _ _ (by first | k_asm | exact fr_back (by assumption) (by assumption))) | skip
    · k_steps
      all_goals first | (rw [show (rs.getD (Int.toNat 14) 0).fmod 6 = 5 from hk]; exact ret _ _ _ (by first | k_asm | exact fr_back (by assumption) (by assumption))) | skip
end Mine
/-! part LL -/
namespace Mine
theorem fill_it10 (w : World) (P : Program → Frag → Prop) : P PySem.Challenge.rw_ez0121_01.row.prog (hd.heap_39 w.params) → True := by
  k_fill
  intro _
  trivial
local macro_rules | `(tactic| k_room) => `(tactic| ktr_room)
set_option rowWalk.seconds 0
set_option maxHeartbeats 4000000 in
/-- the law's first statement: sixteen ints -/
theorem row_a {w : World} {mean : ExcName → Option Value} {mg mb : Str → Option Value} {h₀ : Heap} {L fa l : Addr} {cd : Value} {name : Str} {sc : Scope} {lb : List Stmt} {vs : List Value} {ns : List Int} {s : Shared} {PP : Flow → Shared → Prop} {E : Value → Shared → Prop}
    (hB : BodyIs w 313 lb sc) (T : Top hd.view_39 LO mean mg mb h₀) (X : (hd.heap_39 w.params).In h₀) (B : Below callerA h₀ [] h₀) (F : Fr h₀ L s.heap (fun x => List.lookup x [(Str.ofString "script", Value.ref l)])) (N : News h₀ L s.heap [])
    (hL : h₀.IsList l vs.toArray) (hI : IntsAre vs ns) (hlen : ns.length ≤ 63)
    (hPP : ∀ (r : Addr) (rv : List Value) (rs : List Int) (h' : Heap) (tk' : Nat) (m' : Str → Option Value), Fr h₀ L h' m' → m' (Str.ofString "row") = some (.ref r) → News h₀ L h' [(r, W.listOf rv.toArray 0)] → IntsAre rv rs → rs.length = 16 → PP .next { s with heap := h', toks := tk' }) :
    wpAny (model PR w) (callerA.deeper (envOf name sc L fa cd)) (execs (lb.take 1) (envOf name sc L fa cd)) PP E s := by
  have kM := kstMark
  obtain ⟨rfl, rfl⟩ := body_eq hB (by k_is)
  clear hB
  dsimp only [List.take]
  k_steps
  all_goals exact hPP _ _ _ _ _ _ (by k_asm) rfl (cb_drop (by assumption) (by kcj_all)) (by assumption) (by simp)
end Mine
/-! part LM -/
namespace Mine
theorem perm3 {h₀ h : Heap} {L : Addr} {a b c : Addr × Obj} (N : News h₀ L h [a, b, c]) : News h₀ L h [c, a, b] := fun p hp => N p (by
  simp only [List.mem_cons, List.not_mem_nil, or_false] at hp ⊢
  rcases hp with h | h | h <;> simp [h])
theorem fill_it11 (w : World) (P : Program → Frag → Prop) : P PySem.Challenge.rw_ez0121_01.row.prog (hd.heap_39 w.params) → True := by
  k_fill
  intro _
  trivial
local macro_rules | `(tactic| k_room) => `(tactic| ktr_room)
local macro_rules | `(tactic| walk_at "pyIter ref") => `(tactic| (k_here; refine Halt.out ?_))
set_option rowWalk.seconds 0
set_option maxHeartbeats 4000000 in
/-- the law's loop: four turns -/
theorem loop_a {w : World} {mean : ExcName → Option Value} {mg mb : Str → Option Value} {h₀ : Heap} {L fa r : Addr} {cd : Value} {name : Str} {sc : Scope} {lb : List Stmt} {rv : List Value} {rs : List Int} {s : Shared} {PP : Flow → Shared → Prop} {E : Value → Shared → Prop} {m : Str → Option Value}
    (hB : BodyIs w 313 lb sc) (T : Top hd.view_39 LO mean mg mb h₀) (X : (hd.heap_39 w.params).In h₀) (B : Below callerA h₀ [] h₀)
    (F : Fr h₀ L s.heap m) (hm : m (Str.ofString "row") = some (.ref r)) (N : News h₀ L s.heap [(r, W.listOf rv.toArray 0)]) (hI : IntsAre rv rs) (hlen : rs.length = 16)
    (hPO : PassesOwn (model PR w) (callerA.deeper (envOf name sc L fa cd)) (envOf name sc L fa cd) E)
    (hend : ∀ (h' : Heap) (tk' : Nat) (m' : Str → Option Value), m' (Str.ofString "row") = some (.ref r) → Fr h₀ L h' m' → News h₀ L h' [(r, W.listOf rv.toArray 0)] → PP .next { s with heap := h', toks := tk' }) :
    wpAny (model PR w) (callerA.deeper (envOf name sc L fa cd)) (execs ((lb.drop 1).take 1) (envOf name sc L fa cd)) PP E s := by
  have kM := kstMark
  have hB2 := hB
  obtain ⟨rfl, rfl⟩ := body_eq hB (by k_is)
  clear hB
  replace F := fr_known (ps := [(Str.ofString "row", .ref r)]) F (by intro p hp; simp only [List.mem_cons, List.not_mem_nil, or_false] at hp; rcases hp with rfl; exact hm)
  dsimp only [kstB] at F
  clear hm
  dsimp only [List.drop, List.take]
  k_steps
  refine Halt.mk ?_
  rename Fr _ _ _ _ => F2
  rename News _ _ _ _ => N2
  with_unfolding_all refine iter_tupTurns (vs := [.int 1 _, .int 4 _, .int 7 _, .int 10 _]) (by rfl) F2 N2 (List.Mem.head _) (by rfl) (by rfl) ?_
  intro I hI2
  refine items_all (Good := fun m => m (Str.ofString "row") = some (.ref r)) (V := fun v => ∃ k t, v = .int k t ∧ (k = 1 ∨ k = 4 ∨ k = 7 ∨ k = 10)) hI2 (List.Mem.head _) ?_ ?_ _ _ ?_ rfl
  · rintro v h3 tk3 o m3 PP3 ⟨k, t, rfl, hk⟩ hg F3 N3 hend3
    refine turn_a hB2 rfl T X B hk F3 hg (perm3 N3) hI hlen hPO ?_
    intro h4 tk4 m4 hg4 F4 N4
    exact hend3 h4 tk4 m4 hg4 F4 (perm3 (perm3 N4))
  · intro h3 tk3 m3 hg F3 N3
    try dsimp only
    k_steps
    all_goals exact hend h3 tk3 m3 hg F3 (cb_drop N3 (by kcj_all))
  · intro v hv
    simp only [List.mem_cons, List.not_mem_nil, or_false] at hv
    rcases hv with rfl | rfl | rfl | rfl
    · exact ⟨_, _, rfl, Or.inl rfl⟩
    · exact ⟨_, _, rfl, Or.inr (Or.inl rfl)⟩
    · exact ⟨_, _, rfl, Or.inr (Or.inr (Or.inl rfl))⟩
    · exact ⟨_, _, rfl, Or.inr (Or.inr (Or.inr rfl))⟩
end Mine
/-! part LQ -/
namespace Mine
/-- the law's body, under the claim's caller -/
theorem law_bodyC {w : World} {mean : ExcName → Option Value} {mg mb : Str → Option Value} {h₀ : Heap} {L fa l : Addr} {cd : Value} {name : Str} {sc : Scope} {body : List Stmt} {vs : List Value} {ns : List Int} {s : Shared} {Q : Flow → Shared → Prop} {E Q₁ E₁ : Value → Shared → Prop}
    (hB : BodyIs w 313 body sc) (T : Top hd.view_39 LO mean mg mb h₀) (X : (hd.heap_39 w.params).In h₀) (B : Below callerA h₀ [] h₀) (F : Fr h₀ L s.heap (fun x => List.lookup x [(Str.ofString "script", Value.ref l)])) (N : News h₀ L s.heap [])
    (hL : h₀.IsList l vs.toArray) (hI : IntsAre vs ns) (hlen : ns.length ≤ 63)
    (hE : E = fun e s' => wpAny (model PR w) (callerA.deeper (envOf name sc L fa cd)) (leaving (envOf name sc L fa cd) e) (fun _ s'' => Q₁ e s'') E₁ s')
    (ret : ∀ (h' : Heap) (tk' : Nat) (m' : Str → Option Value), Fr h₀ L h' m' → Q (.ret (.bool true)) { s with heap := h', toks := tk' }) :
    wpC (model PR w) (callerA.deeper (envOf name sc L fa cd)) (execs body (envOf name sc L fa cd)) Q E s := by
  have hPO : PassesOwn (model PR w) (callerA.deeper (envOf name sc L fa cd)) (envOf name sc L fa cd) E := by
    subst hE
    passes_own
  refine exec_joinC 1 (fun PP => ∀ (r : Addr) (rv : List Value) (rs : List Int) (h' : Heap) (tk' : Nat) (m' : Str → Option Value), Fr h₀ L h' m' → m' (Str.ofString "row") = some (.ref r) → News h₀ L h' [(r, W.listOf rv.toArray 0)] → IntsAre rv rs → rs.length = 16 → PP .next { s with heap := h', toks := tk' }) ?row ?t1
  case row =>
    intro PP hPP
    exact wpC_of (row_a hB T X B F N hL hI hlen hPP)
  case t1 =>
    clear F N hL hI hlen
    intro r rv rs h1 tk1 m1 F1 hm1 N1 hI hlen
    dsimp only
    refine exec_joinC 1 (fun PP => ∀ (h' : Heap) (tk' : Nat) (m' : Str → Option Value), m' (Str.ofString "row") = some (.ref r) → Fr h₀ L h' m' → News h₀ L h' [(r, W.listOf rv.toArray 0)] → PP .next { s with heap := h', toks := tk' }) ?loop ?t2
    case loop =>
      intro PP hPP
      exact wpC_of (loop_a hB T X B F1 hm1 N1 hI hlen hPO hPP)
    case t2 =>
      clear F1 hm1 N1
      intro h1 tk1 m1 hm1 F1 N1
      dsimp only
      rw [List.drop_drop]
      refine exec_joinC 2 (fun PP => ∀ (h' : Heap) (tk' : Nat) (m' : Str → Option Value), m' (Str.ofString "row") = some (.ref r) → Fr h₀ L h' m' → News h₀ L h' [(r, W.listOf rv.toArray 0)] → PP .next { s with heap := h', toks := tk' }) ?days ?t3
      case days =>
        intro PP hPP
        exact wpC_of (days_a hB T X B F1 hm1 N1 hI hlen hPO hPP)
      case t3 =>
        clear F1 hm1 N1
        intro h1 tk1 m1 hm1 F1 N1
        dsimp only
        rw [List.drop_drop]
        refine exec_joinC 2 (fun PP => ∀ (h' : Heap) (tk' : Nat) (m' : Str → Option Value), m' (Str.ofString "row") = some (.ref r) → Fr h₀ L h' m' → News h₀ L h' [(r, W.listOf rv.toArray 0)] → PP .next { s with heap := h', toks := tk' }) ?word ?t4
        case word =>
          intro PP hPP
          exact word_a hB T X B F1 hm1 N1 hI hlen hPO hPP
        case t4 =>
          clear F1 hm1 N1
          intro h1 tk1 m1 hm1 F1 N1
          dsimp only
          rw [List.drop_drop]
          exact wpC_of (bad_a hB T X B F1 hm1 N1 hI hlen hE ret)
end Mine
/-! part LR -/
namespace Mine
theorem wpT_of_C {α : Type} {M : Model} {t : Sem α} {Q : α → Shared → Prop} {E : Value → Shared → Prop} {s : Shared} (h : wpC M callerA t Q E s) : wpT M t Q E s :=
  fun p => h Γc p caller_in rfl
theorem law_enter {prog : Program} {w : World} {A : Around} {s : Shared} {R : Result → Shared → Prop} {name : Str} {params : Arguments} {body : List Stmt} {scope : Scope} {pm cd doc dV kV : Value} {a : Addr} {o : Obj} {args : Args} {binds : List (Str × Value)}
    (hroom : A.depth < recursionLimit) (ho : s.heap.get? a = some o) (hdata : o.data = .func { PySem.Calls.docDef name params body scope pm cd doc with defaults := dV, kwdefaults := kV }) (hlim : s.heap.NoLimit) (hcd : s.heap.CodeRec cd name)
    (hbind : BindsTo s { PySem.Calls.docDef name params body scope pm cd doc with defaults := dV, kwdefaults := kV } args binds) (hloc : ∀ x ∈ binds, scope.names.lookup x.1 = some .local)
    (h : ∀ h₁, Fr s.heap s.heap.objs.size h₁ (fun x => binds.reverse.lookup x) →
      wpC (model prog w) (A.deeper (envOf name scope s.heap.objs.size a cd)) (execs body (envOf name scope s.heap.objs.size a cd))
        (fun f s' => R (.ok (.ret (match f with | .ret v => v | _ => .none))) s')
        (fun e s' => wpAny (model prog w) (A.deeper (envOf name scope s.heap.objs.size a cd)) (leaving (envOf name scope s.heap.objs.size a cd) e) (fun _ s'' => R (.error e) s'') (fun e' s'' => R (.error e') s'') s')
        { s with heap := h₁, toks := s.toks + binds.length })
    (hcell : ∀ x ∈ scope.names, x.2 ≠ .cell) (hco : scope.isCoroutine = false) (hgen : scope.isGenerator = false) (hk : scope.kind = .function) : codeC (model prog w) A (.call (.ref a) args) R s :=
  codeC_call_def hroom ho hdata hlim hcd rfl hbind hcell hloc (fun h₁ hns hk₁ => h h₁ ⟨hns, fun b o e => hk₁ b o e, Nat.le_refl _⟩) hco hgen hk
set_option maxHeartbeats 4000000 in
theorem final : PySem.Challenge.rw_ez0121_01.Holds := Mine.hd (by
  k_fill
  intro w s₀ s₁ mg mb G Y fa o pm cd doc dV kV ho hd hcd hD hmg hg args vals as hpre hlay hrd hwl hlo
  have KX := kIn_of Y
  refine Ground.open G ?_
  intro T B D TE TW
  have K0 := below_caller s₁.heap
  clear B D TE TW hmg
  wrow_args hpre hlay hrd hwl hlo
  rename (¬ _ < _) => hcond
  rename (IntsAre _ _) => hI
  have he := Dflts.none hD rfl
  subst he
  refine wpT_of_C (wpC_call ?_)
  refine law_enter (by show 1 + claimMargin < recursionLimit; decide) ho hd (Top.nolimit T) hcd (BindsTo.of_eq rfl) (locs rfl) (fun h₁ F => ?_) (by decide) rfl rfl rfl
  refine law_bodyC ⟨_, _, _, _, _, _, _, _, _, _, _, _, _, by k_is⟩ T KX K0 F News.nil (by assumption) hI (by omega) rfl ?_
  intro h' tk' m' F'
  dsimp only
  refine GoodW.toG ?_
  wrow_close)
end Mine
/-- the claim -/
theorem PySem.Challenge.cw_ez0121_01_holds : PySem.Challenge.rw_ez0121_01.Holds :=
  Mine.final
