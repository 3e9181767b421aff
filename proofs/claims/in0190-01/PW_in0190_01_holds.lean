import PyProof.Rows.All
import Wide.All
import OpenK.AllK
import OpenK.XRun
import Wide.FinOn
import PySem.Challenge.RW_in0190_01
open PySem PySem.W PyProof.Rows
set_option Elab.async false
set_option maxRecDepth 100000
set_option maxHeartbeats 8000000
set_option linter.all false
set_option compiler.extract_closed false
namespace Mine
section
set_option maxRecDepth 1000000
set_option maxHeartbeats 0
noncomputable def HasC (Γ : Ctx) : Prop := (Γ.below.map (·.1)).any (fun c => match c with | .builtin "claim.caller" _ => true | _ => false) = true
noncomputable def codeC (M : Model) (A : Around) (c : Code) (R : Result → Shared → Prop) (s : Shared) : Prop :=
  ∀ Γ p, Γ.code = c → HasC Γ → Γ.Below A → wpCode M Γ R p s
noncomputable abbrev top0 : Ctx := ⟨.builtin "claim.caller" {}, none, none, [], none⟩
theorem hasC_top (c : Code) (hd : Option Value) (p : Pos) : HasC (top0.enter c hd p) := rfl
theorem stub_ends {prog : Program} {w : World} {name : Str} {vs : List Value} {s : Shared} {mg : Str → Option Value} {f : Value} {R : Result → Shared → Prop} (hz : s.asleep) (hg : s.heap.Ns mainGlobals mg) (hf : mg name = some f)
    (h : codeC (model prog w) callerA (.call f ⟨vs, []⟩) (fun r s' => (∀ fl, r = .ok fl → ∃ v, fl = .ret v) ∧ R r s' ∧ leftWithCleanup s'.gens = false) s) :
    ∃ n r s' s'', runN (denote table) prog w n s (callStub name vs) = .halted (outcomeOf r) s' ∧ schedN (denote table) prog w n (.single s (callStub name vs)) = .halted (outcomeOf r) s' ∧ s'.forget = s''.forget ∧ R r s'' := by
  have t0 : ∀ p, Sem.wp (model prog w) top0 (callStub name vs).cur (Sem.finPost (model prog w) top0 fun r s' => R r s' ∧ leftWithCleanup s'.gens = false)
      (fun e _ s' => R (.error e) s' ∧ leftWithCleanup s'.gens = false) p s := fun p => by
    show Sem.wp _ _ (nsGet mainNs name >>= _) _ _ p s
    rw [Sem.wp_bind']
    have hn : Sem.wp (model prog w) top0 (nsGet mainNs name) (fun a _ s' => a = some f ∧ s' = s) (fun _ _ _ => False) p s :=
      wpAny_nsGet (M := model prog w) (A := callerA) (Q := fun a s' => a = some f ∧ s' = s) (E := fun _ _ => False) hg ⟨hf, rfl⟩ top0 p caller_in
    refine Sem.wp_mono _ _ (nsGet mainNs name) (fun a p' s' q => ?_) (fun _ _ _ q => q.elim) p s hn
    obtain ⟨e1, e2⟩ := q
    rw [e1, e2]
    dsimp only
    rw [Sem.wp_bind']
    show Sem.wp _ _ (runValue (.call f ⟨vs, []⟩)) _ _ p' s
    rw [Sem.wp_runValue]
    refine wpCode_mono (fun r s' q => ?_) (h _ p' rfl (hasC_top _ _ _) (caller_in.enter _ none p' (by intro x; cases x)))
    rcases r with e | fl
    · exact q.2
    · obtain ⟨v, rfl⟩ := q.1 fl rfl
      exact q.2
  obtain ⟨n, r, s₁, s₂, a, b, c, d⟩ := wp_halts_full (M := model prog w) (R := R) hz (t0 default)
  exact ⟨n, r, s₂, s₁, b, a, c, d⟩
noncomputable abbrev WalkC (q : Program) (loose : List Str) (XP : (Str → Option Value) → Heap → Prop) (YP : World → Heap → Prop) (r : RowW) (d : DefRec) (kwd : List (Str × PySem.Expr)) : Prop :=
  ∀ (w : World) (s₀ s₁ : Shared) (mg mb : Str → Option Value), Ground q loose r.records XP w s₀ mg mb s₁.heap → YP w s₁.heap → ∀ (a : Addr) (o : Obj) (pm cd doc dV kV : Value), s₁.heap.get? a = some o →
    o.data = .func { Calls.docDef d.name d.params d.body d.scope pm cd doc with defaults := dV, kwdefaults := kV } → s₁.heap.CodeRec cd d.name → Dflts mg s₁.heap d.params kwd dV kV → mg d.name = some (.ref a) → s₁.gens = #[] →
    ∀ (args : List WData) (vals : List Value) (as : List Addr), r.claim.pre args = true → WData.layableAll args = true → ReadsAllW r.records (classAt s₀.heap) s₁.heap vals args as → WellAll w.params s₁.heap vals args → (∀ a ∈ as, (a == sysModules) = false) →
      codeC (model r.prog w) callerA (.call (.ref a) ⟨vals, []⟩) (GoodWG r.claim (classAt s₀.heap) (ExcName.means s₀.heap) args s₁) s₁
theorem holds_c {r : OpenRow} {q : Program} {loose : List Str} {Xt : Shared → Bool} {XP : (Str → Option Value) → Heap → Prop} {α : Type} {Yf : Shared → α} {Ya : World → α} {YP : World → Heap → Prop} {d : DefRec} {kwd : List (Str × PySem.Expr)} {N : Nat}
    (left : LeftO r.prog q loose Xt Yf Ya N) (hY : ∀ w s, Yf s = Ya w → YP w s.heap) (hYk : ∀ w h h', YP w h → (∀ b o, h.get? b = some o → h'.get? b = some o) → YP w h')
    (hX : ∀ s, Xt s = true → XP (s.heap.nsMap mainGlobals) s.heap) (hXk : ∀ mg h h', XP mg h → (∀ b o, h.get? b = some o → h'.get? b = some o) → XP mg h')
    (hdef : defOf q r.name = some (d, kwd)) (hp : r.prog.theDef r.name = some (d.params, d.body, d.scope)) (hk : kwWritten? d.params.kwonlyargs d.params.kw_defaults = some kwd) (hRf : ∀ s, Xt s = true → RecFacts r.records s.heap) (hwr : (!r.writes || r.records.isEmpty) = true)
    (k1 : r.wellSaid = true) (ok : (chainsOk q && opensWell r.prog && (frees r.toRowW && r.within.isEmpty)) = true) (hb : r.prog.bare) (hw : r.toRowW.promised)
    (call : WalkC q loose XP YP r.toRowW d kwd) : r.Holds := by
  simp only [Bool.and_eq_true] at ok
  obtain ⟨⟨hch, how⟩, hfree, hin⟩ := ok
  obtain ⟨hsame, hu, ha, hap, hm⟩ := frees_parts hfree
  refine ⟨k1, hw, ⟨hb, how, by show r.makers.map _ = []; rw [hm]; rfl⟩, hw.witness, fun w => ?_⟩
  have L0 := left.behind (XP := fun mg h => XP mg h ∧ RecFacts r.records h) (fun s e => ⟨hX s e, hRf s e⟩) hch w
  refine ⟨L0.1, fun s' hs' => ?_⟩
  obtain ⟨s₀, hfen, hg0, s, hT, hz, hgens, hg, G1, y⟩ := L0.2 s' hs'
  have RF := G1.X.2
  have G0 : Ground q loose [] XP w s (s.heap.nsMap mainGlobals) (s.heap.nsMap builtinsNs) s.heap := ⟨G1.T, G1.B, G1.D, G1.TE, G1.TD, G1.W, G1.X.1, G1.cls, G1.has, G1.apart, G1.once, G1.K⟩
  have hgn : s.gens = #[] := Array.eq_empty_of_size_eq_zero (beq_iff_eq.mp hgens)
  refine ⟨s₀, hfen, hg0, s, hT, fun n hn => ?_, RF.1, RF.2.1, fun args hpre hlay ord hord => ?_⟩
  · obtain rfl : n = r.name := by split at hn <;> simp_all
    exact pinned_of_view hg G0 hdef hp hk
  · have G := RF.ground G0
    obtain ⟨⟨vs, s₁⟩, hlaid⟩ := Option.isSome_iff_exists.mp (layAllW_isSome (P := w.params) (ord := ord) G.has args r.args s (pre_splitW hpre).1)
    have keeps := layAllW_keeps _ _ _ hlaid
    have rest := layAllW_rest _ _ _ hlaid
    obtain ⟨as, hrd, hwi, hold⟩ := reads_layAllW hord _ _ _ hlaid hlay s₁.heap (fun _ _ e => e)
    have L : Laid r.records w s s₁ args vs as := ⟨⟨ord, hord, hlaid⟩, hrd, hwi, hold, keeps, rest.1.trans hgn, rest.2.2.1⟩
    have G₁ := G.keeps hXk keeps
    obtain ⟨a, o, pm, cd, doc, dV, kV, e1, e2, e3, e4, e5⟩ := G₁.fn hdef
    have c0 := call w s s₁ _ _ G₁ (hYk _ _ _ (hY w s y) keeps) a o pm cd doc dV kV e2 e3 e4 e5 (defOf_name hdef ▸ e1) L.gens args vs as hpre hlay L.reads L.well (L.low G.low)
    obtain ⟨n, res, s2, s3, hrun, hsched, hfo, hend, hos, hkp⟩ := stub_ends (R := fun res s' => r.claim.Ends s args vs s₁ res s' ∧ s'.os = s.os ∧ (r.writes = true → namesKept r.prog r.keeps s.heap s'.heap ∧ ∀ x ∈ r.records, ∀ a, classAt s.heap x.1 = some a → recordClass s'.heap a x.1 (x.2.map (·.1)) = true))
      (Shared.asleep_of_life rest.2.2.2 hz) G₁.T.g e1 (fun Γ p x1 x2 x3 => wpCode_mono (fun res s' g => by
        have z := g.laid (c := r.claim) hsame (List.isEmpty_iff.mp hin) (ident_freeW hu ha hap) L
        refine ⟨fun fl e => ?_, ⟨z.1, z.2.1, fun hq => ⟨namesKept_of hT hg r.keeps keeps g.2.1.old, noTable hwr hq⟩⟩, leftWithCleanup_false_of_bare z.2.2⟩
        rcases g.1 with ⟨v, _, _, rfl, _⟩ | ⟨_, _, _, rfl, _⟩
        · exact ⟨v, (Except.ok.inj e).symm⟩
        · cases e) (c0 Γ p x1 x2 x3))
    obtain ⟨eh, _, _, eo, _⟩ := Shared.forget_eq hfo
    have hlife : s2.heap.life = s.heap.life := (runN_life _ _ _ hrun).trans rest.2.2.2
    refine ⟨vs, s₁, hlaid, n, _, s2, hsched, ?_, fun _ i x hx => by rw [hgn] at hx; simp at hx, by rw [eh]; exact hkp, by rw [hlife], Shared.rest_eq (eo.trans hos)⟩
    rcases hend.congr eh with ⟨v, rfl, d1, d2, d3, d4, d5⟩ | ⟨e, ob, cls, rfl, d1, d2, d3, d4, d5⟩
    · exact .inl ⟨v, rfl, d1, d2, d3, fun b o y _ => d4 b o y, d5⟩
    · exact .inr ⟨e, ob, cls, rfl, d1, d2, d3, d4, fun b o y _ => d5 b o y⟩
noncomputable def rwB : List Stmt := PySem.Challenge.pw_in0190_01.main.body
noncomputable def nthS (l : List Stmt) (i : Nat) : Stmt := l.getD i (.Pass default)
noncomputable def clsB : Stmt → List Stmt
  | .ClassDef _ _ _ b _ _ _ _ _ _ _ => b
  | _ => []
noncomputable def fnP : Stmt → Arguments × List Stmt × Scope
  | .FunctionDef _ a b _ _ _ c _ _ _ => (a, b, c)
  | _ => (default, [], default)
noncomputable def docB : List Stmt → Str
  | .Expr (.Constant (.str x) _ _) _ :: _ => x
  | _ => default
noncomputable abbrev S (x : String) : Str := Str.ofString x
noncomputable def ob41 (P : Params) : Obj := { cls := Value.type "dict", data := Data.dict #[{ hash := PyData.keyHash P (Str.ofString "__name__"), key := Value.str (Str.ofString "__name__") 1, val := Value.str (Str.ofString "builtins") 160 }, { hash := PyData.keyHash P (Str.ofString "__doc__"), key := Value.str (Str.ofString "__doc__") 2, val := Value.builtin "builtins.__doc__:str#opaque" }, { hash := PyData.keyHash P (Str.ofString "__package__"), key := Value.str (Str.ofString "__package__") 3, val := Value.builtin "builtins.__package__:str#opaque" }, { hash := PyData.keyHash P (Str.ofString "__loader__"), key := Value.str (Str.ofString "__loader__") 4, val := Value.builtin "builtins.__loader__:shared#opaque" }, { hash := PyData.keyHash P (Str.ofString "__spec__"), key := Value.str (Str.ofString "__spec__") 5, val := Value.builtin "builtins.__spec__#opaque" }, { hash := PyData.keyHash P (Str.ofString "__build_class__"), key := Value.str (Str.ofString "__build_class__") 6, val := Value.builtin "__build_class__" }, { hash := PyData.keyHash P (Str.ofString "__import__"), key := Value.str (Str.ofString "__import__") 7, val := Value.builtin "__import__" }, { hash := PyData.keyHash P (Str.ofString "abs"), key := Value.str (Str.ofString "abs") 8, val := Value.builtin "abs" }, { hash := PyData.keyHash P (Str.ofString "all"), key := Value.str (Str.ofString "all") 9, val := Value.builtin "all" }, { hash := PyData.keyHash P (Str.ofString "any"), key := Value.str (Str.ofString "any") 10, val := Value.builtin "any" }, { hash := PyData.keyHash P (Str.ofString "ascii"), key := Value.str (Str.ofString "ascii") 11, val := Value.builtin "ascii" }, { hash := PyData.keyHash P (Str.ofString "bin"), key := Value.str (Str.ofString "bin") 12, val := Value.builtin "bin" }, { hash := PyData.keyHash P (Str.ofString "breakpoint"), key := Value.str (Str.ofString "breakpoint") 13, val := Value.builtin "breakpoint" }, { hash := PyData.keyHash P (Str.ofString "callable"), key := Value.str (Str.ofString "callable") 14, val := Value.builtin "callable" }, { hash := PyData.keyHash P (Str.ofString "chr"), key := Value.str (Str.ofString "chr") 15, val := Value.builtin "chr" }, { hash := PyData.keyHash P (Str.ofString "compile"), key := Value.str (Str.ofString "compile") 16, val := Value.builtin "compile" }, { hash := PyData.keyHash P (Str.ofString "delattr"), key := Value.str (Str.ofString "delattr") 17, val := Value.builtin "delattr" }, { hash := PyData.keyHash P (Str.ofString "dir"), key := Value.str (Str.ofString "dir") 18, val := Value.builtin "dir" }, { hash := PyData.keyHash P (Str.ofString "divmod"), key := Value.str (Str.ofString "divmod") 19, val := Value.builtin "divmod" }, { hash := PyData.keyHash P (Str.ofString "eval"), key := Value.str (Str.ofString "eval") 20, val := Value.builtin "eval" }, { hash := PyData.keyHash P (Str.ofString "exec"), key := Value.str (Str.ofString "exec") 21, val := Value.builtin "exec" }, { hash := PyData.keyHash P (Str.ofString "format"), key := Value.str (Str.ofString "format") 22, val := Value.builtin "format" }, { hash := PyData.keyHash P (Str.ofString "getattr"), key := Value.str (Str.ofString "getattr") 23, val := Value.builtin "getattr" }, { hash := PyData.keyHash P (Str.ofString "globals"), key := Value.str (Str.ofString "globals") 24, val := Value.builtin "globals" }, { hash := PyData.keyHash P (Str.ofString "hasattr"), key := Value.str (Str.ofString "hasattr") 25, val := Value.builtin "hasattr" }, { hash := PyData.keyHash P (Str.ofString "hash"), key := Value.str (Str.ofString "hash") 26, val := Value.builtin "hash" }, { hash := PyData.keyHash P (Str.ofString "hex"), key := Value.str (Str.ofString "hex") 27, val := Value.builtin "hex" }, { hash := PyData.keyHash P (Str.ofString "id"), key := Value.str (Str.ofString "id") 28, val := Value.builtin "id" }, { hash := PyData.keyHash P (Str.ofString "input"), key := Value.str (Str.ofString "input") 29, val := Value.builtin "input" }, { hash := PyData.keyHash P (Str.ofString "isinstance"), key := Value.str (Str.ofString "isinstance") 30, val := Value.builtin "isinstance" }, { hash := PyData.keyHash P (Str.ofString "issubclass"), key := Value.str (Str.ofString "issubclass") 31, val := Value.builtin "issubclass" }, { hash := PyData.keyHash P (Str.ofString "iter"), key := Value.str (Str.ofString "iter") 32, val := Value.builtin "iter" }, { hash := PyData.keyHash P (Str.ofString "aiter"), key := Value.str (Str.ofString "aiter") 33, val := Value.builtin "aiter" }, { hash := PyData.keyHash P (Str.ofString "len"), key := Value.str (Str.ofString "len") 34, val := Value.builtin "len" }, { hash := PyData.keyHash P (Str.ofString "locals"), key := Value.str (Str.ofString "locals") 35, val := Value.builtin "locals" }, { hash := PyData.keyHash P (Str.ofString "max"), key := Value.str (Str.ofString "max") 36, val := Value.builtin "max" }, { hash := PyData.keyHash P (Str.ofString "min"), key := Value.str (Str.ofString "min") 37, val := Value.builtin "min" }, { hash := PyData.keyHash P (Str.ofString "next"), key := Value.str (Str.ofString "next") 38, val := Value.builtin "next" }, { hash := PyData.keyHash P (Str.ofString "anext"), key := Value.str (Str.ofString "anext") 39, val := Value.builtin "anext" }, { hash := PyData.keyHash P (Str.ofString "oct"), key := Value.str (Str.ofString "oct") 40, val := Value.builtin "oct" }, { hash := PyData.keyHash P (Str.ofString "ord"), key := Value.str (Str.ofString "ord") 41, val := Value.builtin "ord" }, { hash := PyData.keyHash P (Str.ofString "pow"), key := Value.str (Str.ofString "pow") 42, val := Value.builtin "pow" }, { hash := PyData.keyHash P (Str.ofString "print"), key := Value.str (Str.ofString "print") 43, val := Value.builtin "print" }, { hash := PyData.keyHash P (Str.ofString "repr"), key := Value.str (Str.ofString "repr") 44, val := Value.builtin "repr" }, { hash := PyData.keyHash P (Str.ofString "round"), key := Value.str (Str.ofString "round") 45, val := Value.builtin "round" }, { hash := PyData.keyHash P (Str.ofString "setattr"), key := Value.str (Str.ofString "setattr") 46, val := Value.builtin "setattr" }, { hash := PyData.keyHash P (Str.ofString "sorted"), key := Value.str (Str.ofString "sorted") 47, val := Value.builtin "sorted" }, { hash := PyData.keyHash P (Str.ofString "sum"), key := Value.str (Str.ofString "sum") 48, val := Value.builtin "sum" }, { hash := PyData.keyHash P (Str.ofString "vars"), key := Value.str (Str.ofString "vars") 49, val := Value.builtin "vars" }, { hash := PyData.keyHash P (Str.ofString "None"), key := Value.str (Str.ofString "None") 50, val := Value.none }, { hash := PyData.keyHash P (Str.ofString "Ellipsis"), key := Value.str (Str.ofString "Ellipsis") 51, val := Value.ellipsis }, { hash := PyData.keyHash P (Str.ofString "NotImplemented"), key := Value.str (Str.ofString "NotImplemented") 52, val := Value.notImplemented }, { hash := PyData.keyHash P (Str.ofString "False"), key := Value.str (Str.ofString "False") 53, val := Value.bool false }, { hash := PyData.keyHash P (Str.ofString "True"), key := Value.str (Str.ofString "True") 54, val := Value.bool true }, { hash := PyData.keyHash P (Str.ofString "bool"), key := Value.str (Str.ofString "bool") 55, val := Value.type "bool" }, { hash := PyData.keyHash P (Str.ofString "memoryview"), key := Value.str (Str.ofString "memoryview") 56, val := Value.type "memoryview" }, { hash := PyData.keyHash P (Str.ofString "bytearray"), key := Value.str (Str.ofString "bytearray") 57, val := Value.type "bytearray" }, { hash := PyData.keyHash P (Str.ofString "bytes"), key := Value.str (Str.ofString "bytes") 58, val := Value.type "bytes" }, { hash := PyData.keyHash P (Str.ofString "classmethod"), key := Value.str (Str.ofString "classmethod") 59, val := Value.type "classmethod" }, { hash := PyData.keyHash P (Str.ofString "complex"), key := Value.str (Str.ofString "complex") 60, val := Value.type "complex" }, { hash := PyData.keyHash P (Str.ofString "dict"), key := Value.str (Str.ofString "dict") 61, val := Value.type "dict" }, { hash := PyData.keyHash P (Str.ofString "enumerate"), key := Value.str (Str.ofString "enumerate") 62, val := Value.type "enumerate" }, { hash := PyData.keyHash P (Str.ofString "filter"), key := Value.str (Str.ofString "filter") 63, val := Value.type "filter" }, { hash := PyData.keyHash P (Str.ofString "float"), key := Value.str (Str.ofString "float") 64, val := Value.type "float" }, { hash := PyData.keyHash P (Str.ofString "frozenset"), key := Value.str (Str.ofString "frozenset") 65, val := Value.type "frozenset" }, { hash := PyData.keyHash P (Str.ofString "property"), key := Value.str (Str.ofString "property") 66, val := Value.type "property" }, { hash := PyData.keyHash P (Str.ofString "int"), key := Value.str (Str.ofString "int") 67, val := Value.type "int" }, { hash := PyData.keyHash P (Str.ofString "list"), key := Value.str (Str.ofString "list") 68, val := Value.type "list" }, { hash := PyData.keyHash P (Str.ofString "map"), key := Value.str (Str.ofString "map") 69, val := Value.type "map" }, { hash := PyData.keyHash P (Str.ofString "object"), key := Value.str (Str.ofString "object") 70, val := Value.type "object" }, { hash := PyData.keyHash P (Str.ofString "range"), key := Value.str (Str.ofString "range") 71, val := Value.type "range" }, { hash := PyData.keyHash P (Str.ofString "reversed"), key := Value.str (Str.ofString "reversed") 72, val := Value.type "reversed" }, { hash := PyData.keyHash P (Str.ofString "set"), key := Value.str (Str.ofString "set") 73, val := Value.type "set" }, { hash := PyData.keyHash P (Str.ofString "slice"), key := Value.str (Str.ofString "slice") 74, val := Value.type "slice" }, { hash := PyData.keyHash P (Str.ofString "staticmethod"), key := Value.str (Str.ofString "staticmethod") 75, val := Value.type "staticmethod" }, { hash := PyData.keyHash P (Str.ofString "str"), key := Value.str (Str.ofString "str") 76, val := Value.type "str" }, { hash := PyData.keyHash P (Str.ofString "super"), key := Value.str (Str.ofString "super") 77, val := Value.type "super" }, { hash := PyData.keyHash P (Str.ofString "tuple"), key := Value.str (Str.ofString "tuple") 78, val := Value.type "tuple" }, { hash := PyData.keyHash P (Str.ofString "type"), key := Value.str (Str.ofString "type") 79, val := Value.type "type" }, { hash := PyData.keyHash P (Str.ofString "zip"), key := Value.str (Str.ofString "zip") 80, val := Value.type "zip" }, { hash := PyData.keyHash P (Str.ofString "__debug__"), key := Value.str (Str.ofString "__debug__") 81, val := Value.bool true }, { hash := PyData.keyHash P (Str.ofString "BaseException"), key := Value.str (Str.ofString "BaseException") 82, val := Value.type "BaseException" }, { hash := PyData.keyHash P (Str.ofString "BaseExceptionGroup"), key := Value.str (Str.ofString "BaseExceptionGroup") 83, val := Value.type "BaseExceptionGroup" }, { hash := PyData.keyHash P (Str.ofString "Exception"), key := Value.str (Str.ofString "Exception") 84, val := Value.type "Exception" }, { hash := PyData.keyHash P (Str.ofString "GeneratorExit"), key := Value.str (Str.ofString "GeneratorExit") 85, val := Value.type "GeneratorExit" }, { hash := PyData.keyHash P (Str.ofString "KeyboardInterrupt"), key := Value.str (Str.ofString "KeyboardInterrupt") 86, val := Value.type "KeyboardInterrupt" }, { hash := PyData.keyHash P (Str.ofString "SystemExit"), key := Value.str (Str.ofString "SystemExit") 87, val := Value.type "SystemExit" }, { hash := PyData.keyHash P (Str.ofString "ArithmeticError"), key := Value.str (Str.ofString "ArithmeticError") 88, val := Value.type "ArithmeticError" }, { hash := PyData.keyHash P (Str.ofString "AssertionError"), key := Value.str (Str.ofString "AssertionError") 89, val := Value.type "AssertionError" }, { hash := PyData.keyHash P (Str.ofString "AttributeError"), key := Value.str (Str.ofString "AttributeError") 90, val := Value.type "AttributeError" }, { hash := PyData.keyHash P (Str.ofString "BufferError"), key := Value.str (Str.ofString "BufferError") 91, val := Value.type "BufferError" }, { hash := PyData.keyHash P (Str.ofString "EOFError"), key := Value.str (Str.ofString "EOFError") 92, val := Value.type "EOFError" }, { hash := PyData.keyHash P (Str.ofString "ImportError"), key := Value.str (Str.ofString "ImportError") 93, val := Value.type "ImportError" }, { hash := PyData.keyHash P (Str.ofString "LookupError"), key := Value.str (Str.ofString "LookupError") 94, val := Value.type "LookupError" }, { hash := PyData.keyHash P (Str.ofString "MemoryError"), key := Value.str (Str.ofString "MemoryError") 95, val := Value.type "MemoryError" }, { hash := PyData.keyHash P (Str.ofString "NameError"), key := Value.str (Str.ofString "NameError") 96, val := Value.type "NameError" }, { hash := PyData.keyHash P (Str.ofString "OSError"), key := Value.str (Str.ofString "OSError") 97, val := Value.type "OSError" }, { hash := PyData.keyHash P (Str.ofString "ReferenceError"), key := Value.str (Str.ofString "ReferenceError") 98, val := Value.type "ReferenceError" }, { hash := PyData.keyHash P (Str.ofString "RuntimeError"), key := Value.str (Str.ofString "RuntimeError") 99, val := Value.type "RuntimeError" }, { hash := PyData.keyHash P (Str.ofString "StopAsyncIteration"), key := Value.str (Str.ofString "StopAsyncIteration") 100, val := Value.type "StopAsyncIteration" }, { hash := PyData.keyHash P (Str.ofString "StopIteration"), key := Value.str (Str.ofString "StopIteration") 101, val := Value.type "StopIteration" }, { hash := PyData.keyHash P (Str.ofString "SyntaxError"), key := Value.str (Str.ofString "SyntaxError") 102, val := Value.type "SyntaxError" }, { hash := PyData.keyHash P (Str.ofString "SystemError"), key := Value.str (Str.ofString "SystemError") 103, val := Value.type "SystemError" }, { hash := PyData.keyHash P (Str.ofString "TypeError"), key := Value.str (Str.ofString "TypeError") 104, val := Value.type "TypeError" }, { hash := PyData.keyHash P (Str.ofString "ValueError"), key := Value.str (Str.ofString "ValueError") 105, val := Value.type "ValueError" }, { hash := PyData.keyHash P (Str.ofString "Warning"), key := Value.str (Str.ofString "Warning") 106, val := Value.type "Warning" }, { hash := PyData.keyHash P (Str.ofString "FloatingPointError"), key := Value.str (Str.ofString "FloatingPointError") 107, val := Value.type "FloatingPointError" }, { hash := PyData.keyHash P (Str.ofString "OverflowError"), key := Value.str (Str.ofString "OverflowError") 108, val := Value.type "OverflowError" }, { hash := PyData.keyHash P (Str.ofString "ZeroDivisionError"), key := Value.str (Str.ofString "ZeroDivisionError") 109, val := Value.type "ZeroDivisionError" }, { hash := PyData.keyHash P (Str.ofString "BytesWarning"), key := Value.str (Str.ofString "BytesWarning") 110, val := Value.type "BytesWarning" }, { hash := PyData.keyHash P (Str.ofString "DeprecationWarning"), key := Value.str (Str.ofString "DeprecationWarning") 111, val := Value.type "DeprecationWarning" }, { hash := PyData.keyHash P (Str.ofString "EncodingWarning"), key := Value.str (Str.ofString "EncodingWarning") 112, val := Value.type "EncodingWarning" }, { hash := PyData.keyHash P (Str.ofString "FutureWarning"), key := Value.str (Str.ofString "FutureWarning") 113, val := Value.type "FutureWarning" }, { hash := PyData.keyHash P (Str.ofString "ImportWarning"), key := Value.str (Str.ofString "ImportWarning") 114, val := Value.type "ImportWarning" }, { hash := PyData.keyHash P (Str.ofString "PendingDeprecationWarning"), key := Value.str (Str.ofString "PendingDeprecationWarning") 115, val := Value.type "PendingDeprecationWarning" }, { hash := PyData.keyHash P (Str.ofString "ResourceWarning"), key := Value.str (Str.ofString "ResourceWarning") 116, val := Value.type "ResourceWarning" }, { hash := PyData.keyHash P (Str.ofString "RuntimeWarning"), key := Value.str (Str.ofString "RuntimeWarning") 117, val := Value.type "RuntimeWarning" }, { hash := PyData.keyHash P (Str.ofString "SyntaxWarning"), key := Value.str (Str.ofString "SyntaxWarning") 118, val := Value.type "SyntaxWarning" }, { hash := PyData.keyHash P (Str.ofString "UnicodeWarning"), key := Value.str (Str.ofString "UnicodeWarning") 119, val := Value.type "UnicodeWarning" }, { hash := PyData.keyHash P (Str.ofString "UserWarning"), key := Value.str (Str.ofString "UserWarning") 120, val := Value.type "UserWarning" }, { hash := PyData.keyHash P (Str.ofString "BlockingIOError"), key := Value.str (Str.ofString "BlockingIOError") 121, val := Value.type "BlockingIOError" }, { hash := PyData.keyHash P (Str.ofString "ChildProcessError"), key := Value.str (Str.ofString "ChildProcessError") 122, val := Value.type "ChildProcessError" }, { hash := PyData.keyHash P (Str.ofString "ConnectionError"), key := Value.str (Str.ofString "ConnectionError") 123, val := Value.type "ConnectionError" }, { hash := PyData.keyHash P (Str.ofString "FileExistsError"), key := Value.str (Str.ofString "FileExistsError") 124, val := Value.type "FileExistsError" }, { hash := PyData.keyHash P (Str.ofString "FileNotFoundError"), key := Value.str (Str.ofString "FileNotFoundError") 125, val := Value.type "FileNotFoundError" }, { hash := PyData.keyHash P (Str.ofString "InterruptedError"), key := Value.str (Str.ofString "InterruptedError") 126, val := Value.type "InterruptedError" }, { hash := PyData.keyHash P (Str.ofString "IsADirectoryError"), key := Value.str (Str.ofString "IsADirectoryError") 127, val := Value.type "IsADirectoryError" }, { hash := PyData.keyHash P (Str.ofString "NotADirectoryError"), key := Value.str (Str.ofString "NotADirectoryError") 128, val := Value.type "NotADirectoryError" }, { hash := PyData.keyHash P (Str.ofString "PermissionError"), key := Value.str (Str.ofString "PermissionError") 129, val := Value.type "PermissionError" }, { hash := PyData.keyHash P (Str.ofString "ProcessLookupError"), key := Value.str (Str.ofString "ProcessLookupError") 130, val := Value.type "ProcessLookupError" }, { hash := PyData.keyHash P (Str.ofString "TimeoutError"), key := Value.str (Str.ofString "TimeoutError") 131, val := Value.type "TimeoutError" }, { hash := PyData.keyHash P (Str.ofString "IndentationError"), key := Value.str (Str.ofString "IndentationError") 132, val := Value.type "IndentationError" }, { hash := PyData.keyHash P (Str.ofString "_IncompleteInputError"), key := Value.str (Str.ofString "_IncompleteInputError") 133, val := Value.type "_IncompleteInputError" }, { hash := PyData.keyHash P (Str.ofString "IndexError"), key := Value.str (Str.ofString "IndexError") 134, val := Value.type "IndexError" }, { hash := PyData.keyHash P (Str.ofString "KeyError"), key := Value.str (Str.ofString "KeyError") 135, val := Value.type "KeyError" }, { hash := PyData.keyHash P (Str.ofString "ModuleNotFoundError"), key := Value.str (Str.ofString "ModuleNotFoundError") 136, val := Value.type "ModuleNotFoundError" }, { hash := PyData.keyHash P (Str.ofString "NotImplementedError"), key := Value.str (Str.ofString "NotImplementedError") 137, val := Value.type "NotImplementedError" }, { hash := PyData.keyHash P (Str.ofString "PythonFinalizationError"), key := Value.str (Str.ofString "PythonFinalizationError") 138, val := Value.type "PythonFinalizationError" }, { hash := PyData.keyHash P (Str.ofString "RecursionError"), key := Value.str (Str.ofString "RecursionError") 139, val := Value.type "RecursionError" }, { hash := PyData.keyHash P (Str.ofString "UnboundLocalError"), key := Value.str (Str.ofString "UnboundLocalError") 140, val := Value.type "UnboundLocalError" }, { hash := PyData.keyHash P (Str.ofString "UnicodeError"), key := Value.str (Str.ofString "UnicodeError") 141, val := Value.type "UnicodeError" }, { hash := PyData.keyHash P (Str.ofString "BrokenPipeError"), key := Value.str (Str.ofString "BrokenPipeError") 142, val := Value.type "BrokenPipeError" }, { hash := PyData.keyHash P (Str.ofString "ConnectionAbortedError"), key := Value.str (Str.ofString "ConnectionAbortedError") 143, val := Value.type "ConnectionAbortedError" }, { hash := PyData.keyHash P (Str.ofString "ConnectionRefusedError"), key := Value.str (Str.ofString "ConnectionRefusedError") 144, val := Value.type "ConnectionRefusedError" }, { hash := PyData.keyHash P (Str.ofString "ConnectionResetError"), key := Value.str (Str.ofString "ConnectionResetError") 145, val := Value.type "ConnectionResetError" }, { hash := PyData.keyHash P (Str.ofString "TabError"), key := Value.str (Str.ofString "TabError") 146, val := Value.type "TabError" }, { hash := PyData.keyHash P (Str.ofString "UnicodeDecodeError"), key := Value.str (Str.ofString "UnicodeDecodeError") 147, val := Value.type "UnicodeDecodeError" }, { hash := PyData.keyHash P (Str.ofString "UnicodeEncodeError"), key := Value.str (Str.ofString "UnicodeEncodeError") 148, val := Value.type "UnicodeEncodeError" }, { hash := PyData.keyHash P (Str.ofString "UnicodeTranslateError"), key := Value.str (Str.ofString "UnicodeTranslateError") 149, val := Value.type "UnicodeTranslateError" }, { hash := PyData.keyHash P (Str.ofString "ExceptionGroup"), key := Value.str (Str.ofString "ExceptionGroup") 150, val := Value.type "ExceptionGroup" }, { hash := PyData.keyHash P (Str.ofString "EnvironmentError"), key := Value.str (Str.ofString "EnvironmentError") 151, val := Value.type "OSError" }, { hash := PyData.keyHash P (Str.ofString "IOError"), key := Value.str (Str.ofString "IOError") 152, val := Value.type "OSError" }, { hash := PyData.keyHash P (Str.ofString "open"), key := Value.str (Str.ofString "open") 153, val := Value.builtin "open" }, { hash := PyData.keyHash P (Str.ofString "quit"), key := Value.str (Str.ofString "quit") 154, val := Value.builtin "builtins.quit#opaque" }, { hash := PyData.keyHash P (Str.ofString "exit"), key := Value.str (Str.ofString "exit") 155, val := Value.builtin "builtins.exit#opaque" }, { hash := PyData.keyHash P (Str.ofString "copyright"), key := Value.str (Str.ofString "copyright") 156, val := Value.builtin "builtins.copyright#opaque" }, { hash := PyData.keyHash P (Str.ofString "credits"), key := Value.str (Str.ofString "credits") 157, val := Value.builtin "builtins.credits#opaque" }, { hash := PyData.keyHash P (Str.ofString "license"), key := Value.str (Str.ofString "license") 158, val := Value.builtin "builtins.license#opaque" }, { hash := PyData.keyHash P (Str.ofString "help"), key := Value.str (Str.ofString "help") 159, val := Value.builtin "builtins.help#opaque" }] 159 }
noncomputable def ob42 (P : Params) : Obj := { cls := Value.type "dict", data := Data.dict #[{ hash := PyData.keyHash P (Str.ofString "builtins"), key := Value.str (Str.ofString "builtins") 162, val := Value.ref 4 }, { hash := PyData.keyHash P (Str.ofString "__main__"), key := Value.str (Str.ofString "__main__") 163, val := Value.ref 5 }, { hash := PyData.keyHash P (Str.ofString "_collections"), key := Value.str (Str.ofString "_collections") 246, val := Value.ref 13 }] 3 }
noncomputable def ob43 (P : Params) : Obj := { cls := Value.none, data := Data.dict #[{ hash := PyData.keyHash P (Str.ofString "\x69mport.loaded._collections"), key := Value.str (Str.ofString "\x69mport.loaded._collections") 185, val := Value.bool true }, { hash := PyData.keyHash P (Str.ofString "class._frozen_importlib.BuiltinImporter"), key := Value.str (Str.ofString "class._frozen_importlib.BuiltinImporter") 187, val := Value.ref 15 }, { hash := PyData.keyHash P (Str.ofString "watched.\x69mport"), key := Value.str (Str.ofString "watched.\x69mport") 208, val := Value.ref 19 }, { hash := PyData.keyHash P (Str.ofString "class._frozen_importlib.ModuleSpec"), key := Value.str (Str.ofString "class._frozen_importlib.ModuleSpec") 218, val := Value.ref 23 }, { hash := PyData.keyHash P (Str.ofString "sys.modules.booked-epoch"), key := Value.str (Str.ofString "sys.modules.booked-epoch") 247, val := Value.int 3 0 }, { hash := PyData.keyHash P (Str.ofString "sys.modules.landed._collections"), key := Value.str (Str.ofString "sys.modules.landed._collections") 248, val := Value.bool true }, { hash := PyData.keyHash P (Str.ofString "\x69mport.later-laid._collections"), key := Value.str (Str.ofString "\x69mport.later-laid._collections") 263, val := Value.bool true }, { hash := PyData.keyHash P (Str.ofString "watched.library"), key := Value.str (Str.ofString "watched.library") 265, val := Value.ref 28 }, { hash := PyData.keyHash P (Str.ofString "watched.library-objects"), key := Value.str (Str.ofString "watched.library-objects") 0, val := Value.str (Str.ofString "\x0d") 0 }, { hash := PyData.keyHash P (Str.ofString "watched.library-deep._collections"), key := Value.str (Str.ofString "watched.library-deep._collections") 266, val := Value.str (Str.ofString "\x04\x00\x00\x0c\x04\x00\x00\x0c\x04\x00\x00\x03\x04\x00\x00\x0c\x08\x04dict\x02") 0 }] 10 }
noncomputable def ob44 (P : Params) : Obj := { cls := Value.type "dict", data := Data.dict #[{ hash := PyData.keyHash P (Str.ofString "__name__"), key := Value.str (Str.ofString "__name__") 165, val := Value.str (Str.ofString "__main__") 164 }, { hash := PyData.keyHash P (Str.ofString "__doc__"), key := Value.str (Str.ofString "__doc__") 166, val := Value.none }, { hash := PyData.keyHash P (Str.ofString "__package__"), key := Value.str (Str.ofString "__package__") 167, val := Value.none }, { hash := PyData.keyHash P (Str.ofString "__loader__"), key := Value.str (Str.ofString "__loader__") 168, val := Value.builtin "__main__.__loader__#opaque" }, { hash := PyData.keyHash P (Str.ofString "__spec__"), key := Value.str (Str.ofString "__spec__") 169, val := Value.none }, { hash := PyData.keyHash P (Str.ofString "__annotations__"), key := Value.str (Str.ofString "__annotations__") 170, val := Value.ref 6 }, { hash := PyData.keyHash P (Str.ofString "__builtins__"), key := Value.str (Str.ofString "__builtins__") 171, val := Value.ref 4 }, { hash := PyData.keyHash P (Str.ofString "__file__"), key := Value.str (Str.ofString "__file__") 173, val := Value.str (Str.ofString "/claim/cut.py") 172 }, { hash := PyData.keyHash P (Str.ofString "__cached__"), key := Value.str (Str.ofString "__cached__") 174, val := Value.none }, { hash := PyData.keyHash P (Str.ofString "defaultdict"), key := Value.str (Str.ofString "defaultdict") 272, val := Value.type "collections.defaultdict" }] 10 }
noncomputable def ob45 (_ : Params) : Obj := { cls := Value.type "module", dict := some 0 }
noncomputable def ob46 (_ : Params) : Obj := { cls := Value.type "module", dict := some 3 }
noncomputable def ob47 (_ : Params) : Obj := { cls := Value.type "dict", data := Data.dict #[] }
noncomputable def ob48 (_ : Params) : Obj := { cls := Value.type "tuple", data := Data.seq #[] }
noncomputable def ob49 (_ : Params) : Obj := { cls := Value.none, data := Data.fields #[] }
noncomputable def ob50 (_ : Params) : Obj := { cls := Value.type "code", data := Data.fields #[Value.str (Str.ofString "<module>") 176, Value.str (Str.ofString "<module>") 177, Value.str (Str.ofString "/claim/cut.py") 178, Value.int 1 0, Value.int 0 0, Value.int 0 0, Value.int 0 0, Value.int 0 0, Value.ref 7, Value.bool false, Value.int 175 0, Value.ref 8, Value.none, Value.none, Value.none, Value.none, Value.int 179 0, Value.int 1 0, Value.str (Str.ofString "/claim/cut.py") 180] }
noncomputable def ob51 (_ : Params) : Obj := { cls := Value.type "frame", slots := #[some (Value.ref 9), some (Value.ref 3), some (Value.ref 3), none, some (Value.str (Str.ofString "__main__") 164), none, some (Value.ref 0)] }
noncomputable def ob52 (_ : Params) : Obj := { cls := Value.type "tuple", data := Data.seq #[Value.str (Str.ofString "defaultdict") 182] }
noncomputable def ob53 (P : Params) : Obj := { cls := Value.type "dict", data := Data.dict #[{ hash := PyData.keyHash P (Str.ofString "__name__"), key := Value.str (Str.ofString "__name__") 250, val := Value.str (Str.ofString "_collections") 249 }, { hash := PyData.keyHash P (Str.ofString "__doc__"), key := Value.str (Str.ofString "__doc__") 251, val := Value.builtin "off-the-table:_collections.__doc__:shared#opaque" }, { hash := PyData.keyHash P (Str.ofString "__package__"), key := Value.str (Str.ofString "__package__") 253, val := Value.str (Str.ofString "") 252 }, { hash := PyData.keyHash P (Str.ofString "__loader__"), key := Value.str (Str.ofString "__loader__") 254, val := Value.builtin "off-the-table:_collections.__loader__:shared#opaque" }, { hash := PyData.keyHash P (Str.ofString "__spec__"), key := Value.str (Str.ofString "__spec__") 255, val := Value.builtin "off-the-table:_collections.__spec__:shared#opaque" }, { hash := PyData.keyHash P (Str.ofString "_count_elements"), key := Value.str (Str.ofString "_count_elements") 256, val := Value.builtin "_collections._count_elements" }, { hash := PyData.keyHash P (Str.ofString "deque"), key := Value.str (Str.ofString "deque") 257, val := Value.type "collections.deque" }, { hash := PyData.keyHash P (Str.ofString "defaultdict"), key := Value.str (Str.ofString "defaultdict") 258, val := Value.type "collections.defaultdict" }, { hash := PyData.keyHash P (Str.ofString "_deque_iterator"), key := Value.str (Str.ofString "_deque_iterator") 259, val := Value.builtin "off-the-table:_collections._deque_iterator:shared#opaque" }, { hash := PyData.keyHash P (Str.ofString "_deque_reverse_iterator"), key := Value.str (Str.ofString "_deque_reverse_iterator") 260, val := Value.builtin "off-the-table:_collections._deque_reverse_iterator:shared#opaque" }, { hash := PyData.keyHash P (Str.ofString "_tuplegetter"), key := Value.str (Str.ofString "_tuplegetter") 261, val := Value.type "collections._tuplegetter" }, { hash := PyData.keyHash P (Str.ofString "OrderedDict"), key := Value.str (Str.ofString "OrderedDict") 262, val := Value.type "collections.OrderedDict" }] 12 }
noncomputable def ob54 (_ : Params) : Obj := { cls := Value.type "module", dict := some 12 }
noncomputable def ob55 (P : Params) : Obj := { cls := Value.type "dict", data := Data.dict #[{ hash := PyData.keyHash P (Str.ofString "__module__"), key := Value.str (Str.ofString "__module__") 191, val := Value.str (Str.ofString "_frozen_importlib") 188 }, { hash := PyData.keyHash P (Str.ofString "__firstlineno__"), key := Value.str (Str.ofString "__firstlineno__") 192, val := Value.int 971 189 }, { hash := PyData.keyHash P (Str.ofString "__doc__"), key := Value.str (Str.ofString "__doc__") 193, val := Value.builtin "_frozen_importlib.BuiltinImporter.__doc__:str#opaque" }, { hash := PyData.keyHash P (Str.ofString "_ORIGIN"), key := Value.str (Str.ofString "_ORIGIN") 194, val := Value.str (Str.ofString "built-in") 190 }, { hash := PyData.keyHash P (Str.ofString "find_spec"), key := Value.str (Str.ofString "find_spec") 195, val := Value.builtin "_frozen_importlib.BuiltinImporter.find_spec#opaque" }, { hash := PyData.keyHash P (Str.ofString "create_module"), key := Value.str (Str.ofString "create_module") 196, val := Value.builtin "_frozen_importlib.BuiltinImporter.create_module#opaque" }, { hash := PyData.keyHash P (Str.ofString "exec_module"), key := Value.str (Str.ofString "exec_module") 197, val := Value.builtin "_frozen_importlib.BuiltinImporter.exec_module#opaque" }, { hash := PyData.keyHash P (Str.ofString "get_code"), key := Value.str (Str.ofString "get_code") 198, val := Value.builtin "_frozen_importlib.BuiltinImporter.get_code#opaque" }, { hash := PyData.keyHash P (Str.ofString "get_source"), key := Value.str (Str.ofString "get_source") 199, val := Value.builtin "_frozen_importlib.BuiltinImporter.get_source#opaque" }, { hash := PyData.keyHash P (Str.ofString "is_package"), key := Value.str (Str.ofString "is_package") 200, val := Value.builtin "_frozen_importlib.BuiltinImporter.is_package#opaque" }, { hash := PyData.keyHash P (Str.ofString "load_module"), key := Value.str (Str.ofString "load_module") 201, val := Value.builtin "_frozen_importlib.BuiltinImporter.load_module#opaque" }, { hash := PyData.keyHash P (Str.ofString "__static_attributes__"), key := Value.str (Str.ofString "__static_attributes__") 202, val := Value.ref 16 }, { hash := PyData.keyHash P (Str.ofString "__dict__"), key := Value.str (Str.ofString "__dict__") 204, val := Value.ref 17 }, { hash := PyData.keyHash P (Str.ofString "__weakref__"), key := Value.str (Str.ofString "__weakref__") 206, val := Value.ref 18 }] 14 }
noncomputable def ob56 (_ : Params) : Obj := { cls := Value.type "type", data := Data.cls { name := Str.ofString "BuiltinImporter", bases := [Value.type "object"], mro := [Value.ref 15, Value.type "object"], ns := 14, qualname := Str.ofString "BuiltinImporter" } }
noncomputable def ob58 (_ : Params) : Obj := { cls := Value.type "getset_descriptor", data := Data.fields #[Value.str (Str.ofString "__dict__") 203, Value.ref 15, Value.builtin "function.__dict__", Value.builtin "function.__dict__#set"] }
noncomputable def ob59 (_ : Params) : Obj := { cls := Value.type "getset_descriptor", data := Data.fields #[Value.str (Str.ofString "__weakref__") 205, Value.ref 15, Value.builtin "ExceptionGroup.__weakref__", Value.none] }
noncomputable def ob60 (_ : Params) : Obj := { cls := Value.none, data := Data.seq #[.int (14) 0, Builtin.packed #[.str (Str.ofString "__module__") 191, .str (Str.ofString "_frozen_importlib") 188, .str (Str.ofString "__firstlineno__") 192, .int (971) 189, .str (Str.ofString "__doc__") 193, .builtin "_frozen_importlib.BuiltinImporter.__doc__:str#opaque", .str (Str.ofString "_ORIGIN") 194, .str (Str.ofString "built-in") 190, .str (Str.ofString "find_spec") 195, .builtin "_frozen_importlib.BuiltinImporter.find_spec#opaque", .str (Str.ofString "create_module") 196, .builtin "_frozen_importlib.BuiltinImporter.create_module#opaque", .str (Str.ofString "exec_module") 197, .builtin "_frozen_importlib.BuiltinImporter.exec_module#opaque", .str (Str.ofString "get_code") 198, .builtin "_frozen_importlib.BuiltinImporter.get_code#opaque", .str (Str.ofString "get_source") 199, .builtin "_frozen_importlib.BuiltinImporter.get_source#opaque", .str (Str.ofString "is_package") 200, .builtin "_frozen_importlib.BuiltinImporter.is_package#opaque", .str (Str.ofString "load_module") 201, .builtin "_frozen_importlib.BuiltinImporter.load_module#opaque", .str (Str.ofString "__static_attributes__") 202, .int (16) 0, .str (Str.ofString "__dict__") 204, .int (17) 0, .str (Str.ofString "__weakref__") 206, .int (18) 0], .bool true, .bool true, .str (Str.ofString "") 207, .int (22) 0, Builtin.packed #[.str (Str.ofString "__module__") 229, .str (Str.ofString "_frozen_importlib") 219, .str (Str.ofString "__firstlineno__") 230, .int (562) 220, .str (Str.ofString "__doc__") 231, .builtin "_frozen_importlib.ModuleSpec.__doc__:str#opaque", .str (Str.ofString "__init__") 232, .builtin "_frozen_importlib.ModuleSpec.__init__#opaque", .str (Str.ofString "__repr__") 233, .builtin "_frozen_importlib.ModuleSpec.__repr__#opaque", .str (Str.ofString "__eq__") 234, .builtin "_frozen_importlib.ModuleSpec.__eq__#opaque", .str (Str.ofString "cached") 235, .builtin "_frozen_importlib.ModuleSpec.cached#opaque", .str (Str.ofString "parent") 236, .builtin "_frozen_importlib.ModuleSpec.parent#opaque", .str (Str.ofString "has_location") 237, .builtin "_frozen_importlib.ModuleSpec.has_location#opaque", .str (Str.ofString "__static_attributes__") 238, .int (24) 0, .str (Str.ofString "__dict__") 240, .int (25) 0, .str (Str.ofString "__weakref__") 242, .int (26) 0, .str (Str.ofString "__hash__") 243, .none], .bool true, .bool true, .str (Str.ofString "") 244] 1 }
noncomputable def ob61 (_ : Params) : Obj := { cls := Value.type "list", data := Data.seq #[] }
noncomputable def ob62 (P : Params) : Obj := { cls := Value.type "dict", data := Data.dict #[{ hash := PyData.keyHash P (Str.ofString "name"), key := Value.str (Str.ofString "name") 210, val := Value.str (Str.ofString "_collections") 209 }, { hash := PyData.keyHash P (Str.ofString "loader"), key := Value.str (Str.ofString "loader") 211, val := Value.ref 15 }, { hash := PyData.keyHash P (Str.ofString "origin"), key := Value.str (Str.ofString "origin") 212, val := Value.str (Str.ofString "built-in") 186 }, { hash := PyData.keyHash P (Str.ofString "loader_state"), key := Value.str (Str.ofString "loader_state") 213, val := Value.none }, { hash := PyData.keyHash P (Str.ofString "submodule_search_locations"), key := Value.str (Str.ofString "submodule_search_locations") 214, val := Value.none }, { hash := PyData.keyHash P (Str.ofString "_uninitialized_submodules"), key := Value.str (Str.ofString "_uninitialized_submodules") 215, val := Value.ref 20 }, { hash := PyData.keyHash P (Str.ofString "_set_fileattr"), key := Value.str (Str.ofString "_set_fileattr") 216, val := Value.bool false }, { hash := PyData.keyHash P (Str.ofString "_cached"), key := Value.str (Str.ofString "_cached") 217, val := Value.none }, { hash := PyData.keyHash P (Str.ofString "_initializing"), key := Value.str (Str.ofString "_initializing") 245, val := Value.bool false }] 9 }
noncomputable def ob63 (P : Params) : Obj := { cls := Value.type "dict", data := Data.dict #[{ hash := PyData.keyHash P (Str.ofString "__module__"), key := Value.str (Str.ofString "__module__") 229, val := Value.str (Str.ofString "_frozen_importlib") 219 }, { hash := PyData.keyHash P (Str.ofString "__firstlineno__"), key := Value.str (Str.ofString "__firstlineno__") 230, val := Value.int 562 220 }, { hash := PyData.keyHash P (Str.ofString "__doc__"), key := Value.str (Str.ofString "__doc__") 231, val := Value.builtin "_frozen_importlib.ModuleSpec.__doc__:str#opaque" }, { hash := PyData.keyHash P (Str.ofString "__init__"), key := Value.str (Str.ofString "__init__") 232, val := Value.builtin "_frozen_importlib.ModuleSpec.__init__#opaque" }, { hash := PyData.keyHash P (Str.ofString "__repr__"), key := Value.str (Str.ofString "__repr__") 233, val := Value.builtin "_frozen_importlib.ModuleSpec.__repr__#opaque" }, { hash := PyData.keyHash P (Str.ofString "__eq__"), key := Value.str (Str.ofString "__eq__") 234, val := Value.builtin "_frozen_importlib.ModuleSpec.__eq__#opaque" }, { hash := PyData.keyHash P (Str.ofString "cached"), key := Value.str (Str.ofString "cached") 235, val := Value.builtin "_frozen_importlib.ModuleSpec.cached#opaque" }, { hash := PyData.keyHash P (Str.ofString "parent"), key := Value.str (Str.ofString "parent") 236, val := Value.builtin "_frozen_importlib.ModuleSpec.parent#opaque" }, { hash := PyData.keyHash P (Str.ofString "has_location"), key := Value.str (Str.ofString "has_location") 237, val := Value.builtin "_frozen_importlib.ModuleSpec.has_location#opaque" }, { hash := PyData.keyHash P (Str.ofString "__static_attributes__"), key := Value.str (Str.ofString "__static_attributes__") 238, val := Value.ref 24 }, { hash := PyData.keyHash P (Str.ofString "__dict__"), key := Value.str (Str.ofString "__dict__") 240, val := Value.ref 25 }, { hash := PyData.keyHash P (Str.ofString "__weakref__"), key := Value.str (Str.ofString "__weakref__") 242, val := Value.ref 26 }, { hash := PyData.keyHash P (Str.ofString "__hash__"), key := Value.str (Str.ofString "__hash__") 243, val := Value.none }] 13 }
noncomputable def ob64 (_ : Params) : Obj := { cls := Value.type "type", data := Data.cls { name := Str.ofString "ModuleSpec", bases := [Value.type "object"], mro := [Value.ref 23, Value.type "object"], ns := 22, qualname := Str.ofString "ModuleSpec" } }
noncomputable def ob65 (_ : Params) : Obj := { cls := Value.type "tuple", data := Data.seq #[Value.str (Str.ofString "_cached") 221, Value.str (Str.ofString "_set_fileattr") 222, Value.str (Str.ofString "_uninitialized_submodules") 223, Value.str (Str.ofString "loader") 224, Value.str (Str.ofString "loader_state") 225, Value.str (Str.ofString "name") 226, Value.str (Str.ofString "origin") 227, Value.str (Str.ofString "submodule_search_locations") 228] }
noncomputable def ob66 (_ : Params) : Obj := { cls := Value.type "getset_descriptor", data := Data.fields #[Value.str (Str.ofString "__dict__") 239, Value.ref 23, Value.builtin "function.__dict__", Value.builtin "function.__dict__#set"] }
noncomputable def ob67 (_ : Params) : Obj := { cls := Value.type "getset_descriptor", data := Data.fields #[Value.str (Str.ofString "__weakref__") 241, Value.ref 23, Value.builtin "ExceptionGroup.__weakref__", Value.none] }
noncomputable def ob68 (_ : Params) : Obj := { cls := Value.ref 23, dict := some 21 }
noncomputable def ob69 (_ : Params) : Obj := { cls := Value.none, data := Data.seq #[.int (12) 0, Builtin.packed #[.str (Str.ofString "__name__") 250, .str (Str.ofString "_collections") 249, .str (Str.ofString "__doc__") 251, .builtin "_collections.__doc__:str#opaque", .str (Str.ofString "__package__") 253, .str (Str.ofString "") 252, .str (Str.ofString "__loader__") 254, .int (15) 0, .str (Str.ofString "__spec__") 255, .int (27) 0, .str (Str.ofString "_count_elements") 256, .builtin "_collections._count_elements", .str (Str.ofString "deque") 257, .type "collections.deque", .str (Str.ofString "defaultdict") 258, .type "collections.defaultdict", .str (Str.ofString "_deque_iterator") 259, .type "collections._deque_iterator", .str (Str.ofString "_deque_reverse_iterator") 260, .type "collections._deque_reverse_iterator", .str (Str.ofString "_tuplegetter") 261, .type "collections._tuplegetter", .str (Str.ofString "OrderedDict") 262, .type "collections.OrderedDict"], .bool true, .bool false, .str (Str.ofString "_collections") 264] 0 }
noncomputable def ob128 (P : Params) : Obj := { cls := Value.none, data := Data.dict #[{ hash := PyData.keyHash P (Str.ofString "\x69mport.loaded._collections"), key := Value.str (Str.ofString "\x69mport.loaded._collections") 185, val := Value.bool true }, { hash := PyData.keyHash P (Str.ofString "class._frozen_importlib.BuiltinImporter"), key := Value.str (Str.ofString "class._frozen_importlib.BuiltinImporter") 187, val := Value.ref 15 }, { hash := PyData.keyHash P (Str.ofString "watched.\x69mport"), key := Value.str (Str.ofString "watched.\x69mport") 208, val := Value.ref 19 }, { hash := PyData.keyHash P (Str.ofString "class._frozen_importlib.ModuleSpec"), key := Value.str (Str.ofString "class._frozen_importlib.ModuleSpec") 218, val := Value.ref 23 }, { hash := PyData.keyHash P (Str.ofString "sys.modules.booked-epoch"), key := Value.str (Str.ofString "sys.modules.booked-epoch") 247, val := Value.int 3 0 }, { hash := PyData.keyHash P (Str.ofString "sys.modules.landed._collections"), key := Value.str (Str.ofString "sys.modules.landed._collections") 248, val := Value.bool true }, { hash := PyData.keyHash P (Str.ofString "\x69mport.later-laid._collections"), key := Value.str (Str.ofString "\x69mport.later-laid._collections") 263, val := Value.bool true }, { hash := PyData.keyHash P (Str.ofString "watched.library"), key := Value.str (Str.ofString "watched.library") 265, val := Value.ref 28 }, { hash := PyData.keyHash P (Str.ofString "watched.library-objects"), key := Value.str (Str.ofString "watched.library-objects") 0, val := Value.str (Str.ofString "\x0d") 0 }, { hash := PyData.keyHash P (Str.ofString "watched.library-deep._collections"), key := Value.str (Str.ofString "watched.library-deep._collections") 266, val := Value.str (Str.ofString "\x04\x00\x00\x0c\x04\x00\x00\x0c\x04\x00\x00\x03\x04\x00\x00\x0c\x08\x04dict\x02") 0 }, { hash := PyData.keyHash P (Str.ofString "type.__subclasses__.collections.defaultdict.0"), key := Value.str (Str.ofString "type.__subclasses__.collections.defaultdict.0") 384, val := Value.int 108 0 }, { hash := PyData.keyHash P (Str.ofString "type.__subclasses__.collections.defaultdict.n"), key := Value.str (Str.ofString "type.__subclasses__.collections.defaultdict.n") 385, val := Value.int 1 0 }] 12 }
noncomputable def ob362 (P : Params) : Obj := { cls := Value.type "dict", data := Data.dict #[{ hash := PyData.keyHash P (Str.ofString "__name__"), key := Value.str (Str.ofString "__name__") 165, val := Value.str (Str.ofString "law_in0190_01") 628 }, { hash := PyData.keyHash P (Str.ofString "__doc__"), key := Value.str (Str.ofString "__doc__") 166, val := Value.none }, { hash := PyData.keyHash P (Str.ofString "__package__"), key := Value.str (Str.ofString "__package__") 167, val := Value.none }, { hash := PyData.keyHash P (Str.ofString "__loader__"), key := Value.str (Str.ofString "__loader__") 168, val := Value.builtin "__main__.__loader__#opaque" }, { hash := PyData.keyHash P (Str.ofString "__spec__"), key := Value.str (Str.ofString "__spec__") 169, val := Value.none }, { hash := PyData.keyHash P (Str.ofString "__annotations__"), key := Value.str (Str.ofString "__annotations__") 170, val := Value.ref 6 }, { hash := PyData.keyHash P (Str.ofString "__builtins__"), key := Value.str (Str.ofString "__builtins__") 171, val := Value.ref 4 }, { hash := PyData.keyHash P (Str.ofString "__file__"), key := Value.str (Str.ofString "__file__") 173, val := Value.str (Str.ofString "/claim/cut.py") 172 }, { hash := PyData.keyHash P (Str.ofString "__cached__"), key := Value.str (Str.ofString "__cached__") 174, val := Value.none }, { hash := PyData.keyHash P (Str.ofString "defaultdict"), key := Value.str (Str.ofString "defaultdict") 272, val := Value.type "collections.defaultdict" }, { hash := PyData.keyHash P (Str.ofString "_wall"), key := Value.str (Str.ofString "_wall") 285, val := Value.ref 39 }, { hash := PyData.keyHash P (Str.ofString "_tuplegetter"), key := Value.str (Str.ofString "_tuplegetter") 344, val := Value.ref 78 }, { hash := PyData.keyHash P (Str.ofString "FreezableDefaultDict"), key := Value.str (Str.ofString "FreezableDefaultDict") 387, val := Value.ref 108 }, { hash := PyData.keyHash P (Str.ofString "Pair"), key := Value.str (Str.ofString "Pair") 502, val := Value.ref 203 }, { hash := PyData.keyHash P (Str.ofString "S_IFMT"), key := Value.str (Str.ofString "S_IFMT") 550, val := Value.ref 213 }, { hash := PyData.keyHash P (Str.ofString "S_IFDIR"), key := Value.str (Str.ofString "S_IFDIR") 552, val := Value.int 16384 551 }, { hash := PyData.keyHash P (Str.ofString "S_IFCHR"), key := Value.str (Str.ofString "S_IFCHR") 554, val := Value.int 8192 553 }, { hash := PyData.keyHash P (Str.ofString "S_IFBLK"), key := Value.str (Str.ofString "S_IFBLK") 556, val := Value.int 24576 555 }, { hash := PyData.keyHash P (Str.ofString "S_IFREG"), key := Value.str (Str.ofString "S_IFREG") 558, val := Value.int 32768 557 }, { hash := PyData.keyHash P (Str.ofString "S_IFIFO"), key := Value.str (Str.ofString "S_IFIFO") 560, val := Value.int 4096 559 }, { hash := PyData.keyHash P (Str.ofString "S_IFLNK"), key := Value.str (Str.ofString "S_IFLNK") 562, val := Value.int 40960 561 }, { hash := PyData.keyHash P (Str.ofString "S_IFSOCK"), key := Value.str (Str.ofString "S_IFSOCK") 564, val := Value.int 49152 563 }, { hash := PyData.keyHash P (Str.ofString "S_ISUID"), key := Value.str (Str.ofString "S_ISUID") 566, val := Value.int 2048 565 }, { hash := PyData.keyHash P (Str.ofString "S_ISGID"), key := Value.str (Str.ofString "S_ISGID") 568, val := Value.int 1024 567 }, { hash := PyData.keyHash P (Str.ofString "S_ISVTX"), key := Value.str (Str.ofString "S_ISVTX") 570, val := Value.int 512 569 }, { hash := PyData.keyHash P (Str.ofString "S_IRUSR"), key := Value.str (Str.ofString "S_IRUSR") 572, val := Value.int 256 571 }, { hash := PyData.keyHash P (Str.ofString "S_IWUSR"), key := Value.str (Str.ofString "S_IWUSR") 574, val := Value.int 128 573 }, { hash := PyData.keyHash P (Str.ofString "S_IXUSR"), key := Value.str (Str.ofString "S_IXUSR") 576, val := Value.int 64 575 }, { hash := PyData.keyHash P (Str.ofString "S_IRGRP"), key := Value.str (Str.ofString "S_IRGRP") 578, val := Value.int 32 577 }, { hash := PyData.keyHash P (Str.ofString "S_IWGRP"), key := Value.str (Str.ofString "S_IWGRP") 580, val := Value.int 16 579 }, { hash := PyData.keyHash P (Str.ofString "S_IXGRP"), key := Value.str (Str.ofString "S_IXGRP") 582, val := Value.int 8 581 }, { hash := PyData.keyHash P (Str.ofString "S_IROTH"), key := Value.str (Str.ofString "S_IROTH") 584, val := Value.int 4 583 }, { hash := PyData.keyHash P (Str.ofString "S_IWOTH"), key := Value.str (Str.ofString "S_IWOTH") 586, val := Value.int 2 585 }, { hash := PyData.keyHash P (Str.ofString "S_IXOTH"), key := Value.str (Str.ofString "S_IXOTH") 588, val := Value.int 1 587 }, { hash := PyData.keyHash P (Str.ofString "_filemode_table"), key := Value.str (Str.ofString "_filemode_table") 614, val := Value.ref 246 }, { hash := PyData.keyHash P (Str.ofString "filemode"), key := Value.str (Str.ofString "filemode") 627, val := Value.ref 253 }, { hash := PyData.keyHash P (Str.ofString "_law_step"), key := Value.str (Str.ofString "_law_step") 635, val := Value.ref 258 }, { hash := PyData.keyHash P (Str.ofString "_law_line"), key := Value.str (Str.ofString "_law_line") 646, val := Value.ref 265 }, { hash := PyData.keyHash P (Str.ofString "_law_pair"), key := Value.str (Str.ofString "_law_pair") 653, val := Value.ref 272 }, { hash := PyData.keyHash P (Str.ofString "_law_number"), key := Value.str (Str.ofString "_law_number") 662, val := Value.ref 279 }, { hash := PyData.keyHash P (Str.ofString "_law_left"), key := Value.str (Str.ofString "_law_left") 670, val := Value.ref 286 }, { hash := PyData.keyHash P (Str.ofString "_law_play"), key := Value.str (Str.ofString "_law_play") 676, val := Value.ref 291 }, { hash := PyData.keyHash P (Str.ofString "_law_signs"), key := Value.str (Str.ofString "_law_signs") 686, val := Value.ref 298 }, { hash := PyData.keyHash P (Str.ofString "_law_shown"), key := Value.str (Str.ofString "_law_shown") 692, val := Value.ref 303 }, { hash := PyData.keyHash P (Str.ofString "_law_due"), key := Value.str (Str.ofString "_law_due") 698, val := Value.ref 308 }, { hash := PyData.keyHash P (Str.ofString "law"), key := Value.str (Str.ofString "law") 704, val := Value.ref 313 }] 46 }
noncomputable def ob363 (_ : Params) : Obj := { cls := Value.none, data := Data.fields #[Value.int 2 0, Value.int 0 0, Value.ref 38, Value.int 6 0, Value.int 0 0, Value.ref 45, Value.int 24 0, Value.int 0 0, Value.ref 89, Value.int 44 0, Value.int 0 0, Value.ref 119, Value.int 86 0, Value.int 0 0, Value.ref 189, Value.int 92 0, Value.int 0 0, Value.ref 212, Value.int 117 0, Value.int 0 0, Value.ref 252, Value.int 136 0, Value.int 0 0, Value.ref 257, Value.int 141 0, Value.int 0 0, Value.ref 264, Value.int 152 0, Value.int 0 0, Value.ref 271, Value.int 157 0, Value.int 0 0, Value.ref 278, Value.int 162 0, Value.int 0 0, Value.ref 285, Value.int 165 0, Value.int 0 0, Value.ref 290, Value.int 183 0, Value.int 0 0, Value.ref 297, Value.int 191 0, Value.int 0 0, Value.ref 302, Value.int 194 0, Value.int 0 0, Value.ref 307, Value.int 218 0, Value.int 0 0, Value.ref 312] }
noncomputable def ob72 (_ : Params) : Obj := { cls := Value.type "code", data := Data.fields #[Value.str (Str.ofString "<module>") 274, Value.str (Str.ofString "<module>") 275, Value.str (Str.ofString "/claim/cut.py") 276, Value.int 1 0, Value.int 0 0, Value.int 0 0, Value.int 0 0, Value.int 0 0, Value.ref 29, Value.bool false, Value.int 273 0, Value.ref 30, Value.none, Value.none, Value.none, Value.none, Value.int 277 0, Value.int 1 0, Value.str (Str.ofString "/claim/cut.py") 278] }
noncomputable def ob73 (_ : Params) : Obj := { cls := Value.type "frame", slots := #[some (Value.ref 31), some (Value.ref 3), some (Value.ref 3), none, some (Value.str (Str.ofString "__main__") 164), none, some (Value.ref 0)] }
noncomputable def ob80 (_ : Params) : Obj := { cls := Value.type "tuple", data := Data.seq #[Value.str (Str.ofString "k") 282] }
noncomputable def ob82 (P : Params) : Obj := by
  refine (?f : (qa : Arguments) → (qb : List Stmt) → (qc : Scope) → (qa, qb, qc) = fnP (nthS rwB 1) → Obj) ⟨_, _, _, _, _, _, _⟩ [_] ⟨_, _, _, _, _⟩ rfl
  exact fun qa qb qc _ => { cls := Value.none, data := Data.func { name := Str.ofString "_wall", qualname := Str.ofString "_wall", params := qa, body := FuncBody.stmts qb, scope := qc, globals := 0, closure := [], defaults := Value.none, kwdefaults := Value.none } }
noncomputable def ob83 (_ : Params) : Obj := { cls := Value.type "code", data := Data.fields #[Value.str (Str.ofString "_wall") 279, Value.str (Str.ofString "_wall") 280, Value.str (Str.ofString "/claim/cut.py") 281, Value.int 2 0, Value.int 1 0, Value.int 0 0, Value.int 0 0, Value.int 3 0, Value.ref 33, Value.bool true, Value.int 273 0, Value.ref 34, Value.none, Value.ref 35, Value.ref 36, Value.ref 37, Value.int 283 0, Value.int 2 0, Value.str (Str.ofString "/claim/cut.py") 284] }
noncomputable def ob84 (P : Params) : Obj := by
  refine (?f : (qa : Arguments) → (qb : List Stmt) → (qc : Scope) → (qa, qb, qc) = fnP (nthS rwB 1) → Obj) ⟨_, _, _, _, _, _, _⟩ [_] ⟨_, _, _, _, _⟩ rfl
  exact fun qa qb qc _ => { cls := Value.type "function", data := Data.func { name := Str.ofString "_wall", qualname := Str.ofString "_wall", params := qa, body := FuncBody.stmts qb, scope := qc, globals := 3, closure := [], defaults := Value.none, kwdefaults := Value.none, pyModule := Value.str (Str.ofString "__main__") 164, code := Value.ref 38 } }
noncomputable def ob86 (_ : Params) : Obj := { cls := Value.type "builtin_function_or_method", data := Data.fields #[Value.builtin "type.__prepare__", Value.type "type"] }
noncomputable def ob87 (P : Params) : Obj := { cls := Value.type "dict", data := Data.dict #[{ hash := PyData.keyHash P (Str.ofString "__module__"), key := Value.str (Str.ofString "__module__") 295, val := Value.str (Str.ofString "cpy313.importlib.metadata._collections") 286 }, { hash := PyData.keyHash P (Str.ofString "__qualname__"), key := Value.str (Str.ofString "__qualname__") 297, val := Value.str (Str.ofString "_tuplegetter") 296 }, { hash := PyData.keyHash P (Str.ofString "__firstlineno__"), key := Value.str (Str.ofString "__firstlineno__") 299, val := Value.int 6 298 }, { hash := PyData.keyHash P (Str.ofString "__init__"), key := Value.str (Str.ofString "__init__") 308, val := Value.ref 53 }, { hash := PyData.keyHash P (Str.ofString "__get__"), key := Value.str (Str.ofString "__get__") 317, val := Value.ref 61 }, { hash := PyData.keyHash P (Str.ofString "__set__"), key := Value.str (Str.ofString "__set__") 326, val := Value.ref 68 }, { hash := PyData.keyHash P (Str.ofString "__delete__"), key := Value.str (Str.ofString "__delete__") 334, val := Value.ref 75 }, { hash := PyData.keyHash P (Str.ofString "__static_attributes__"), key := Value.str (Str.ofString "__static_attributes__") 337, val := Value.ref 76 }] 8 }
noncomputable def ob89 (_ : Params) : Obj := { cls := Value.none, data := Data.fields #[Value.int 8 0, Value.int 4 0, Value.ref 52, Value.int 12 0, Value.int 4 0, Value.ref 60, Value.int 19 0, Value.int 4 0, Value.ref 67, Value.int 22 0, Value.int 4 0, Value.ref 74] }
noncomputable def ob90 (_ : Params) : Obj := { cls := Value.type "code", data := Data.fields #[Value.str (Str.ofString "_tuplegetter") 290, Value.str (Str.ofString "_tuplegetter") 291, Value.str (Str.ofString "/claim/cut.py") 292, Value.int 6 0, Value.int 0 0, Value.int 0 0, Value.int 0 0, Value.int 0 0, Value.ref 43, Value.bool false, Value.int 273 0, Value.ref 44, Value.none, Value.none, Value.none, Value.none, Value.int 293 0, Value.int 6 0, Value.str (Str.ofString "/claim/cut.py") 294] }
noncomputable def ob91 (_ : Params) : Obj := { cls := Value.type "frame", slots := #[some (Value.ref 45), some (Value.ref 3), some (Value.ref 42), none, some (Value.str (Str.ofString "cpy313.importlib.metadata._collections") 286), none, some (Value.ref 0)] }
noncomputable def ob94 (_ : Params) : Obj := { cls := Value.type "tuple", data := Data.seq #[Value.str (Str.ofString "self") 303, Value.str (Str.ofString "index") 304, Value.str (Str.ofString "doc") 305] }
noncomputable def ob96 (P : Params) : Obj := by
  refine (?f : (qa : Arguments) → (qb : List Stmt) → (qc : Scope) → (qa, qb, qc) = fnP (nthS (clsB (nthS rwB 3)) 0) → Obj) ⟨_, _, _, _, _, _, _⟩ [_, _] ⟨_, _, _, _, _⟩ rfl
  exact fun qa qb qc _ => { cls := Value.none, data := Data.func { name := Str.ofString "__init__", qualname := Str.ofString "_tuplegetter.__init__", params := qa, body := FuncBody.stmts qb, scope := qc, globals := 0, closure := [], defaults := Value.none, kwdefaults := Value.none } }
noncomputable def ob97 (_ : Params) : Obj := { cls := Value.type "code", data := Data.fields #[Value.str (Str.ofString "__init__") 300, Value.str (Str.ofString "_tuplegetter.__init__") 301, Value.str (Str.ofString "/claim/cut.py") 302, Value.int 8 0, Value.int 3 0, Value.int 0 0, Value.int 0 0, Value.int 3 0, Value.ref 47, Value.bool true, Value.int 273 0, Value.ref 48, Value.none, Value.ref 49, Value.ref 50, Value.ref 51, Value.int 306 0, Value.int 8 0, Value.str (Str.ofString "/claim/cut.py") 307] }
noncomputable def ob98 (P : Params) : Obj := by
  refine (?f : (qa : Arguments) → (qb : List Stmt) → (qc : Scope) → (qa, qb, qc) = fnP (nthS (clsB (nthS rwB 3)) 0) → Obj) ⟨_, _, _, _, _, _, _⟩ [_, _] ⟨_, _, _, _, _⟩ rfl
  exact fun qa qb qc _ => { cls := Value.type "function", data := Data.func { name := Str.ofString "__init__", qualname := Str.ofString "_tuplegetter.__init__", params := qa, body := FuncBody.stmts qb, scope := qc, globals := 3, closure := [], defaults := Value.none, kwdefaults := Value.none, pyModule := Value.str (Str.ofString "cpy313.importlib.metadata._collections") 286, code := Value.ref 52 } }
noncomputable def ob99 (_ : Params) : Obj := { cls := Value.type "tuple", data := Data.seq #[Value.none] }
noncomputable def ob102 (_ : Params) : Obj := { cls := Value.type "tuple", data := Data.seq #[Value.str (Str.ofString "self") 312, Value.str (Str.ofString "obj") 313, Value.str (Str.ofString "objtype") 314] }
noncomputable def ob104 (P : Params) : Obj := by
  refine (?f : (qa : Arguments) → (qb : List Stmt) → (qc : Scope) → (qa, qb, qc) = fnP (nthS (clsB (nthS rwB 3)) 1) → Obj) ⟨_, _, _, _, _, _, _⟩ [_, _, _] ⟨_, _, _, _, _⟩ rfl
  exact fun qa qb qc _ => { cls := Value.none, data := Data.func { name := Str.ofString "__get__", qualname := Str.ofString "_tuplegetter.__get__", params := qa, body := FuncBody.stmts qb, scope := qc, globals := 0, closure := [], defaults := Value.none, kwdefaults := Value.none } }
noncomputable def ob105 (_ : Params) : Obj := { cls := Value.type "code", data := Data.fields #[Value.str (Str.ofString "__get__") 309, Value.str (Str.ofString "_tuplegetter.__get__") 310, Value.str (Str.ofString "/claim/cut.py") 311, Value.int 12 0, Value.int 3 0, Value.int 0 0, Value.int 0 0, Value.int 3 0, Value.ref 55, Value.bool true, Value.int 273 0, Value.ref 56, Value.none, Value.ref 57, Value.ref 58, Value.ref 59, Value.int 315 0, Value.int 12 0, Value.str (Str.ofString "/claim/cut.py") 316] }
noncomputable def ob106 (P : Params) : Obj := by
  refine (?f : (qa : Arguments) → (qb : List Stmt) → (qc : Scope) → (qa, qb, qc) = fnP (nthS (clsB (nthS rwB 3)) 1) → Obj) ⟨_, _, _, _, _, _, _⟩ [_, _, _] ⟨_, _, _, _, _⟩ rfl
  exact fun qa qb qc _ => { cls := Value.type "function", data := Data.func { name := Str.ofString "__get__", qualname := Str.ofString "_tuplegetter.__get__", params := qa, body := FuncBody.stmts qb, scope := qc, globals := 3, closure := [], defaults := Value.ref 54, kwdefaults := Value.none, pyModule := Value.str (Str.ofString "cpy313.importlib.metadata._collections") 286, code := Value.ref 60 } }
noncomputable def ob109 (_ : Params) : Obj := { cls := Value.type "tuple", data := Data.seq #[Value.str (Str.ofString "self") 321, Value.str (Str.ofString "obj") 322, Value.str (Str.ofString "value") 323] }
noncomputable def ob111 (P : Params) : Obj := by
  refine (?f : (qa : Arguments) → (qb : List Stmt) → (qc : Scope) → (qa, qb, qc) = fnP (nthS (clsB (nthS rwB 3)) 2) → Obj) ⟨_, _, _, _, _, _, _⟩ [_] ⟨_, _, _, _, _⟩ rfl
  exact fun qa qb qc _ => { cls := Value.none, data := Data.func { name := Str.ofString "__set__", qualname := Str.ofString "_tuplegetter.__set__", params := qa, body := FuncBody.stmts qb, scope := qc, globals := 0, closure := [], defaults := Value.none, kwdefaults := Value.none } }
noncomputable def ob112 (_ : Params) : Obj := { cls := Value.type "code", data := Data.fields #[Value.str (Str.ofString "__set__") 318, Value.str (Str.ofString "_tuplegetter.__set__") 319, Value.str (Str.ofString "/claim/cut.py") 320, Value.int 19 0, Value.int 3 0, Value.int 0 0, Value.int 0 0, Value.int 3 0, Value.ref 62, Value.bool true, Value.int 273 0, Value.ref 63, Value.none, Value.ref 64, Value.ref 65, Value.ref 66, Value.int 324 0, Value.int 19 0, Value.str (Str.ofString "/claim/cut.py") 325] }
noncomputable def ob113 (P : Params) : Obj := by
  refine (?f : (qa : Arguments) → (qb : List Stmt) → (qc : Scope) → (qa, qb, qc) = fnP (nthS (clsB (nthS rwB 3)) 2) → Obj) ⟨_, _, _, _, _, _, _⟩ [_] ⟨_, _, _, _, _⟩ rfl
  exact fun qa qb qc _ => { cls := Value.type "function", data := Data.func { name := Str.ofString "__set__", qualname := Str.ofString "_tuplegetter.__set__", params := qa, body := FuncBody.stmts qb, scope := qc, globals := 3, closure := [], defaults := Value.none, kwdefaults := Value.none, pyModule := Value.str (Str.ofString "cpy313.importlib.metadata._collections") 286, code := Value.ref 67 } }
noncomputable def ob116 (_ : Params) : Obj := { cls := Value.type "tuple", data := Data.seq #[Value.str (Str.ofString "self") 330, Value.str (Str.ofString "obj") 331] }
noncomputable def ob118 (P : Params) : Obj := by
  refine (?f : (qa : Arguments) → (qb : List Stmt) → (qc : Scope) → (qa, qb, qc) = fnP (nthS (clsB (nthS rwB 3)) 3) → Obj) ⟨_, _, _, _, _, _, _⟩ [_] ⟨_, _, _, _, _⟩ rfl
  exact fun qa qb qc _ => { cls := Value.none, data := Data.func { name := Str.ofString "__delete__", qualname := Str.ofString "_tuplegetter.__delete__", params := qa, body := FuncBody.stmts qb, scope := qc, globals := 0, closure := [], defaults := Value.none, kwdefaults := Value.none } }
noncomputable def ob119 (_ : Params) : Obj := { cls := Value.type "code", data := Data.fields #[Value.str (Str.ofString "__delete__") 327, Value.str (Str.ofString "_tuplegetter.__delete__") 328, Value.str (Str.ofString "/claim/cut.py") 329, Value.int 22 0, Value.int 2 0, Value.int 0 0, Value.int 0 0, Value.int 3 0, Value.ref 69, Value.bool true, Value.int 273 0, Value.ref 70, Value.none, Value.ref 71, Value.ref 72, Value.ref 73, Value.int 332 0, Value.int 22 0, Value.str (Str.ofString "/claim/cut.py") 333] }
noncomputable def ob120 (P : Params) : Obj := by
  refine (?f : (qa : Arguments) → (qb : List Stmt) → (qc : Scope) → (qa, qb, qc) = fnP (nthS (clsB (nthS rwB 3)) 3) → Obj) ⟨_, _, _, _, _, _, _⟩ [_] ⟨_, _, _, _, _⟩ rfl
  exact fun qa qb qc _ => { cls := Value.type "function", data := Data.func { name := Str.ofString "__delete__", qualname := Str.ofString "_tuplegetter.__delete__", params := qa, body := FuncBody.stmts qb, scope := qc, globals := 3, closure := [], defaults := Value.none, kwdefaults := Value.none, pyModule := Value.str (Str.ofString "cpy313.importlib.metadata._collections") 286, code := Value.ref 74 } }
noncomputable def ob121 (_ : Params) : Obj := { cls := Value.type "tuple", data := Data.seq #[Value.str (Str.ofString "__doc__") 335, Value.str (Str.ofString "index") 336] }
noncomputable def ob122 (P : Params) : Obj := { cls := Value.type "dict", data := Data.dict #[{ hash := PyData.keyHash P (Str.ofString "__module__"), key := Value.str (Str.ofString "__module__") 295, val := Value.str (Str.ofString "cpy313.importlib.metadata._collections") 286 }, { hash := PyData.keyHash P (Str.ofString "__firstlineno__"), key := Value.str (Str.ofString "__firstlineno__") 299, val := Value.int 6 298 }, { hash := PyData.keyHash P (Str.ofString "__init__"), key := Value.str (Str.ofString "__init__") 308, val := Value.ref 53 }, { hash := PyData.keyHash P (Str.ofString "__get__"), key := Value.str (Str.ofString "__get__") 317, val := Value.ref 61 }, { hash := PyData.keyHash P (Str.ofString "__set__"), key := Value.str (Str.ofString "__set__") 326, val := Value.ref 68 }, { hash := PyData.keyHash P (Str.ofString "__delete__"), key := Value.str (Str.ofString "__delete__") 334, val := Value.ref 75 }, { hash := PyData.keyHash P (Str.ofString "__static_attributes__"), key := Value.str (Str.ofString "__static_attributes__") 337, val := Value.ref 76 }, { hash := PyData.keyHash P (Str.ofString "__dict__"), key := Value.str (Str.ofString "__dict__") 339, val := Value.ref 79 }, { hash := PyData.keyHash P (Str.ofString "__weakref__"), key := Value.str (Str.ofString "__weakref__") 341, val := Value.ref 80 }, { hash := PyData.keyHash P (Str.ofString "__doc__"), key := Value.str (Str.ofString "__doc__") 342, val := Value.none }] 4 }
noncomputable def ob123 (_ : Params) : Obj := { cls := Value.type "type", data := Data.cls { name := Str.ofString "_tuplegetter", bases := [Value.type "object"], mro := [Value.ref 78, Value.type "object"], ns := 77, qualname := Str.ofString "_tuplegetter" }, slots := #[none, none, some (Value.str (Str.ofString "_tuplegetter") 288), some (Value.str (Str.ofString "_tuplegetter") 296), some (Value.builtin "object.__new__"), some (Value.bool true)] }
noncomputable def ob124 (_ : Params) : Obj := { cls := Value.type "getset_descriptor", data := Data.fields #[Value.str (Str.ofString "__dict__") 338, Value.ref 78, Value.builtin "function.__dict__", Value.builtin "function.__dict__#set"] }
noncomputable def ob125 (_ : Params) : Obj := { cls := Value.type "getset_descriptor", data := Data.fields #[Value.str (Str.ofString "__weakref__") 340, Value.ref 78, Value.builtin "ExceptionGroup.__weakref__", Value.none] }
noncomputable def ob126 (_ : Params) : Obj := { cls := Value.type "super", data := Data.fields #[Value.ref 78, Value.ref 78, Value.ref 78] }
noncomputable def ob127 (_ : Params) : Obj := { cls := Value.type "builtin_function_or_method", data := Data.fields #[Value.builtin "object.__init_subclass__", Value.ref 78] }
noncomputable def ob131 (_ : Params) : Obj := { cls := Value.type "tuple", data := Data.seq #[Value.type "collections.defaultdict"] }
noncomputable def ob133 (P : Params) : Obj := { cls := Value.type "dict", data := Data.dict #[{ hash := PyData.keyHash P (Str.ofString "__module__"), key := Value.str (Str.ofString "__module__") 352, val := Value.str (Str.ofString "cpy313.importlib.metadata._collections") 286 }, { hash := PyData.keyHash P (Str.ofString "__qualname__"), key := Value.str (Str.ofString "__qualname__") 354, val := Value.str (Str.ofString "FreezableDefaultDict") 353 }, { hash := PyData.keyHash P (Str.ofString "__firstlineno__"), key := Value.str (Str.ofString "__firstlineno__") 356, val := Value.int 24 355 }, { hash := PyData.keyHash P (Str.ofString "__doc__"), key := Value.str (Str.ofString "__doc__") 358, val := Value.str (Str.ofString "\nOften it is desirable to prevent the mutation of\na default dict after its initial construction, such\nas to prevent mutation during iteration.\n\n>>> dd = FreezableDefaultDict(list)\n>>> dd[0].append('1')\n>>> dd.freeze()\n>>> dd[1]\n[]\n>>> len(dd)\n1\n") 357 }, { hash := PyData.keyHash P (Str.ofString "__missing__"), key := Value.str (Str.ofString "__missing__") 368, val := Value.ref 98 }, { hash := PyData.keyHash P (Str.ofString "freeze"), key := Value.str (Str.ofString "freeze") 376, val := Value.ref 105 }, { hash := PyData.keyHash P (Str.ofString "__static_attributes__"), key := Value.str (Str.ofString "__static_attributes__") 378, val := Value.ref 106 }, { hash := PyData.keyHash P (Str.ofString "__classcell__"), key := Value.str (Str.ofString "__classcell__") 379, val := Value.ref 86 }] 8 }
noncomputable def ob134 (_ : Params) : Obj := { cls := Value.type "cell", data := Data.cell (some (Value.ref 108)) }
noncomputable def ob136 (_ : Params) : Obj := { cls := Value.none, data := Data.fields #[Value.int 39 0, Value.int 4 0, Value.ref 97, Value.int 42 0, Value.int 4 0, Value.ref 104] }
noncomputable def ob137 (_ : Params) : Obj := { cls := Value.type "code", data := Data.fields #[Value.str (Str.ofString "FreezableDefaultDict") 347, Value.str (Str.ofString "FreezableDefaultDict") 348, Value.str (Str.ofString "/claim/cut.py") 349, Value.int 24 0, Value.int 0 0, Value.int 0 0, Value.int 0 0, Value.int 0 0, Value.ref 87, Value.bool false, Value.int 273 0, Value.ref 88, Value.none, Value.none, Value.none, Value.none, Value.int 350 0, Value.int 24 0, Value.str (Str.ofString "/claim/cut.py") 351] }
noncomputable def ob138 (_ : Params) : Obj := { cls := Value.type "frame", slots := #[some (Value.ref 89), some (Value.ref 3), some (Value.ref 85), none, some (Value.str (Str.ofString "cpy313.importlib.metadata._collections") 286), none, some (Value.ref 0)] }
noncomputable def ob139 (_ : Params) : Obj := { cls := Value.type "tuple", data := Data.seq #[Value.ref 86] }
noncomputable def ob140 (_ : Params) : Obj := { cls := Value.type "tuple", data := Data.seq #[Value.str (Str.ofString "__class__") 363] }
noncomputable def ob142 (_ : Params) : Obj := { cls := Value.type "tuple", data := Data.seq #[Value.str (Str.ofString "self") 364, Value.str (Str.ofString "key") 365] }
noncomputable def ob144 (P : Params) : Obj := by
  refine (?f : (qa : Arguments) → (qb : List Stmt) → (qc : Scope) → (qa, qb, qc) = fnP (nthS (clsB (nthS rwB 4)) 1) → Obj) ⟨_, _, _, _, _, _, _⟩ [_] ⟨_, _, _, _, _⟩ rfl
  exact fun qa qb qc _ => { cls := Value.none, data := Data.func { name := Str.ofString "__missing__", qualname := Str.ofString "FreezableDefaultDict.__missing__", params := qa, body := FuncBody.stmts qb, scope := qc, globals := 0, closure := [], defaults := Value.none, kwdefaults := Value.none } }
noncomputable def ob145 (_ : Params) : Obj := { cls := Value.type "code", data := Data.fields #[Value.str (Str.ofString "__missing__") 360, Value.str (Str.ofString "FreezableDefaultDict.__missing__") 361, Value.str (Str.ofString "/claim/cut.py") 362, Value.int 39 0, Value.int 2 0, Value.int 0 0, Value.int 0 0, Value.int 3 0, Value.ref 92, Value.bool true, Value.int 273 0, Value.ref 93, Value.none, Value.ref 94, Value.ref 95, Value.ref 96, Value.int 366 0, Value.int 39 0, Value.str (Str.ofString "/claim/cut.py") 367] }
noncomputable def ob146 (P : Params) : Obj := by
  refine (?f : (qa : Arguments) → (qb : List Stmt) → (qc : Scope) → (qa, qb, qc) = fnP (nthS (clsB (nthS rwB 4)) 1) → Obj) ⟨_, _, _, _, _, _, _⟩ [_] ⟨_, _, _, _, _⟩ rfl
  exact fun qa qb qc _ => { cls := Value.type "function", data := Data.func { name := Str.ofString "__missing__", qualname := Str.ofString "FreezableDefaultDict.__missing__", params := qa, body := FuncBody.stmts qb, scope := qc, globals := 3, closure := [(Str.ofString "__class__", 86)], defaults := Value.none, kwdefaults := Value.none, pyModule := Value.str (Str.ofString "cpy313.importlib.metadata._collections") 286, code := Value.ref 97, closureTuple := Value.ref 91 } }
noncomputable def ob149 (_ : Params) : Obj := { cls := Value.type "tuple", data := Data.seq #[Value.str (Str.ofString "self") 372] }
noncomputable def ob150 (_ : Params) : Obj := { cls := Value.type "tuple", data := Data.seq #[Value.str (Str.ofString "self") 373] }
noncomputable def ob151 (P : Params) : Obj := by
  refine (?f : (qa : Arguments) → (qb : List Stmt) → (qc : Scope) → (qa, qb, qc) = fnP (nthS (clsB (nthS rwB 4)) 2) → Obj) ⟨_, _, _, _, _, _, _⟩ [_] ⟨_, _, _, _, _⟩ rfl
  exact fun qa qb qc _ => { cls := Value.none, data := Data.func { name := Str.ofString "freeze", qualname := Str.ofString "FreezableDefaultDict.freeze", params := qa, body := FuncBody.stmts qb, scope := qc, globals := 0, closure := [], defaults := Value.none, kwdefaults := Value.none } }
noncomputable def ob152 (_ : Params) : Obj := { cls := Value.type "code", data := Data.fields #[Value.str (Str.ofString "freeze") 369, Value.str (Str.ofString "FreezableDefaultDict.freeze") 370, Value.str (Str.ofString "/claim/cut.py") 371, Value.int 42 0, Value.int 1 0, Value.int 0 0, Value.int 0 0, Value.int 3 0, Value.ref 99, Value.bool true, Value.int 273 0, Value.ref 100, Value.none, Value.ref 101, Value.ref 102, Value.ref 103, Value.int 374 0, Value.int 42 0, Value.str (Str.ofString "/claim/cut.py") 375] }
noncomputable def ob153 (P : Params) : Obj := by
  refine (?f : (qa : Arguments) → (qb : List Stmt) → (qc : Scope) → (qa, qb, qc) = fnP (nthS (clsB (nthS rwB 4)) 2) → Obj) ⟨_, _, _, _, _, _, _⟩ [_] ⟨_, _, _, _, _⟩ rfl
  exact fun qa qb qc _ => { cls := Value.type "function", data := Data.func { name := Str.ofString "freeze", qualname := Str.ofString "FreezableDefaultDict.freeze", params := qa, body := FuncBody.stmts qb, scope := qc, globals := 3, closure := [], defaults := Value.none, kwdefaults := Value.none, pyModule := Value.str (Str.ofString "cpy313.importlib.metadata._collections") 286, code := Value.ref 104 } }
noncomputable def ob154 (_ : Params) : Obj := { cls := Value.type "tuple", data := Data.seq #[Value.str (Str.ofString "_frozen") 377] }
noncomputable def ob155 (P : Params) : Obj := { cls := Value.type "dict", data := Data.dict #[{ hash := PyData.keyHash P (Str.ofString "__module__"), key := Value.str (Str.ofString "__module__") 352, val := Value.str (Str.ofString "cpy313.importlib.metadata._collections") 286 }, { hash := PyData.keyHash P (Str.ofString "__firstlineno__"), key := Value.str (Str.ofString "__firstlineno__") 356, val := Value.int 24 355 }, { hash := PyData.keyHash P (Str.ofString "__doc__"), key := Value.str (Str.ofString "__doc__") 358, val := Value.str (Str.ofString "\nOften it is desirable to prevent the mutation of\na default dict after its initial construction, such\nas to prevent mutation during iteration.\n\n>>> dd = FreezableDefaultDict(list)\n>>> dd[0].append('1')\n>>> dd.freeze()\n>>> dd[1]\n[]\n>>> len(dd)\n1\n") 357 }, { hash := PyData.keyHash P (Str.ofString "__missing__"), key := Value.str (Str.ofString "__missing__") 368, val := Value.ref 98 }, { hash := PyData.keyHash P (Str.ofString "freeze"), key := Value.str (Str.ofString "freeze") 376, val := Value.ref 105 }, { hash := PyData.keyHash P (Str.ofString "__static_attributes__"), key := Value.str (Str.ofString "__static_attributes__") 378, val := Value.ref 106 }, { hash := PyData.keyHash P (Str.ofString "__dict__"), key := Value.str (Str.ofString "__dict__") 381, val := Value.ref 109 }, { hash := PyData.keyHash P (Str.ofString "__weakref__"), key := Value.str (Str.ofString "__weakref__") 383, val := Value.ref 110 }] 4 }
noncomputable def ob156 (_ : Params) : Obj := { cls := Value.type "type", data := Data.cls { name := Str.ofString "FreezableDefaultDict", bases := [Value.type "collections.defaultdict"], mro := [Value.ref 108, Value.type "collections.defaultdict", Value.type "dict", Value.type "object"], ns := 107, qualname := Str.ofString "FreezableDefaultDict", slotNames := [Str.ofString ""] }, slots := #[some (Value.ref 83), none, some (Value.str (Str.ofString "FreezableDefaultDict") 345), some (Value.str (Str.ofString "FreezableDefaultDict") 353), some (Value.builtin "dict.__new__"), some (Value.bool true)] }
noncomputable def ob157 (_ : Params) : Obj := { cls := Value.type "getset_descriptor", data := Data.fields #[Value.str (Str.ofString "__dict__") 380, Value.ref 108, Value.builtin "function.__dict__", Value.builtin "function.__dict__#set"] }
noncomputable def ob158 (_ : Params) : Obj := { cls := Value.type "getset_descriptor", data := Data.fields #[Value.str (Str.ofString "__weakref__") 382, Value.ref 108, Value.builtin "ExceptionGroup.__weakref__", Value.none] }
noncomputable def ob159 (_ : Params) : Obj := { cls := Value.type "super", data := Data.fields #[Value.ref 108, Value.ref 108, Value.ref 108] }
noncomputable def ob160 (_ : Params) : Obj := { cls := Value.type "builtin_function_or_method", data := Data.fields #[Value.builtin "object.__init_subclass__", Value.ref 108] }
noncomputable def ob163 (_ : Params) : Obj := { cls := Value.type "tuple", data := Data.seq #[Value.type "tuple"] }
noncomputable def ob165 (P : Params) : Obj := { cls := Value.type "dict", data := Data.dict #[{ hash := PyData.keyHash P (Str.ofString "__module__"), key := Value.str (Str.ofString "__module__") 395, val := Value.str (Str.ofString "cpy313.importlib.metadata._collections") 286 }, { hash := PyData.keyHash P (Str.ofString "__qualname__"), key := Value.str (Str.ofString "__qualname__") 397, val := Value.str (Str.ofString "Pair") 396 }, { hash := PyData.keyHash P (Str.ofString "__firstlineno__"), key := Value.str (Str.ofString "__firstlineno__") 399, val := Value.int 44 398 }, { hash := PyData.keyHash P (Str.ofString "__doc__"), key := Value.str (Str.ofString "__doc__") 401, val := Value.str (docB (clsB (nthS rwB 5))) 400 }, { hash := PyData.keyHash P (Str.ofString "__slots__"), key := Value.str (Str.ofString "__slots__") 403, val := Value.ref 121 }, { hash := PyData.keyHash P (Str.ofString "_fields"), key := Value.str (Str.ofString "_fields") 406, val := Value.ref 122 }, { hash := PyData.keyHash P (Str.ofString "_field_defaults"), key := Value.str (Str.ofString "_field_defaults") 407, val := Value.ref 123 }, { hash := PyData.keyHash P (Str.ofString "__new__"), key := Value.str (Str.ofString "__new__") 417, val := Value.ref 130 }, { hash := PyData.keyHash P (Str.ofString "_make"), key := Value.str (Str.ofString "_make") 439, val := Value.ref 139 }, { hash := PyData.keyHash P (Str.ofString "_replace"), key := Value.str (Str.ofString "_replace") 450, val := Value.ref 148 }, { hash := PyData.keyHash P (Str.ofString "__replace__"), key := Value.str (Str.ofString "__replace__") 451, val := Value.ref 148 }, { hash := PyData.keyHash P (Str.ofString "__repr__"), key := Value.str (Str.ofString "__repr__") 459, val := Value.ref 155 }, { hash := PyData.keyHash P (Str.ofString "_asdict"), key := Value.str (Str.ofString "_asdict") 466, val := Value.ref 162 }, { hash := PyData.keyHash P (Str.ofString "__getnewargs__"), key := Value.str (Str.ofString "__getnewargs__") 474, val := Value.ref 169 }, { hash := PyData.keyHash P (Str.ofString "__match_args__"), key := Value.str (Str.ofString "__match_args__") 477, val := Value.ref 170 }, { hash := PyData.keyHash P (Str.ofString "name"), key := Value.str (Str.ofString "name") 487, val := Value.ref 172 }, { hash := PyData.keyHash P (Str.ofString "value"), key := Value.str (Str.ofString "value") 497, val := Value.ref 175 }, { hash := PyData.keyHash P (Str.ofString "__static_attributes__"), key := Value.str (Str.ofString "__static_attributes__") 498, val := Value.ref 177 }, { hash := PyData.keyHash P (Str.ofString "__classcell__"), key := Value.str (Str.ofString "__classcell__") 499, val := Value.ref 116 }] 19 }
noncomputable def ob166 (_ : Params) : Obj := { cls := Value.type "cell", data := Data.cell (some (Value.ref 180)) }
noncomputable def ob168 (_ : Params) : Obj := { cls := Value.none, data := Data.fields #[Value.int 50 0, Value.int 4 0, Value.ref 129, Value.int 55 0, Value.int 4 0, Value.ref 136, Value.int 62 0, Value.int 4 0, Value.ref 147, Value.int 73 0, Value.int 4 0, Value.ref 154, Value.int 77 0, Value.int 4 0, Value.ref 161, Value.int 80 0, Value.int 4 0, Value.ref 168] }
noncomputable def ob169 (_ : Params) : Obj := { cls := Value.type "code", data := Data.fields #[Value.str (Str.ofString "Pair") 390, Value.str (Str.ofString "Pair") 391, Value.str (Str.ofString "/claim/cut.py") 392, Value.int 44 0, Value.int 0 0, Value.int 0 0, Value.int 0 0, Value.int 0 0, Value.ref 117, Value.bool false, Value.int 273 0, Value.ref 118, Value.none, Value.none, Value.none, Value.none, Value.int 393 0, Value.int 44 0, Value.str (Str.ofString "/claim/cut.py") 394] }
noncomputable def ob170 (_ : Params) : Obj := { cls := Value.type "frame", slots := #[some (Value.ref 119), some (Value.ref 3), some (Value.ref 115), none, some (Value.str (Str.ofString "cpy313.importlib.metadata._collections") 286), none, some (Value.ref 0)] }
noncomputable def ob172 (_ : Params) : Obj := { cls := Value.type "tuple", data := Data.seq #[Value.str (Str.ofString "name") 404, Value.str (Str.ofString "value") 405] }
noncomputable def ob176 (_ : Params) : Obj := { cls := Value.type "tuple", data := Data.seq #[Value.str (Str.ofString "_cls") 411, Value.str (Str.ofString "name") 412, Value.str (Str.ofString "value") 413] }
noncomputable def ob178 (P : Params) : Obj := by
  refine (?f : (qa : Arguments) → (qb : List Stmt) → (qc : Scope) → (qa, qb, qc) = fnP (nthS (clsB (nthS rwB 5)) 4) → Obj) ⟨_, _, _, _, _, _, _⟩ [_, _] ⟨_, _, _, _, _⟩ rfl
  exact fun qa qb qc _ => { cls := Value.none, data := Data.func { name := Str.ofString "__new__", qualname := Str.ofString "Pair.__new__", params := qa, body := FuncBody.stmts qb, scope := qc, globals := 0, closure := [], defaults := Value.none, kwdefaults := Value.none } }
noncomputable def ob179 (_ : Params) : Obj := { cls := Value.type "code", data := Data.fields #[Value.str (Str.ofString "__new__") 408, Value.str (Str.ofString "Pair.__new__") 409, Value.str (Str.ofString "/claim/cut.py") 410, Value.int 50 0, Value.int 3 0, Value.int 0 0, Value.int 0 0, Value.int 3 0, Value.ref 124, Value.bool true, Value.int 273 0, Value.ref 125, Value.none, Value.ref 126, Value.ref 127, Value.ref 128, Value.int 414 0, Value.int 50 0, Value.str (Str.ofString "/claim/cut.py") 415] }
noncomputable def ob180 (P : Params) : Obj := by
  refine (?f : (qa : Arguments) → (qb : List Stmt) → (qc : Scope) → (qa, qb, qc) = fnP (nthS (clsB (nthS rwB 5)) 4) → Obj) ⟨_, _, _, _, _, _, _⟩ [_, _] ⟨_, _, _, _, _⟩ rfl
  exact fun qa qb qc _ => { cls := Value.type "function", data := Data.func { name := Str.ofString "__new__", qualname := Str.ofString "Pair.__new__", params := qa, body := FuncBody.stmts qb, scope := qc, globals := 3, closure := [], defaults := Value.none, kwdefaults := Value.none, doc := Value.str (docB ((fnP (nthS (clsB (nthS rwB 5)) 4)).2.1)) 416, pyModule := Value.str (Str.ofString "cpy313.importlib.metadata._collections") 286, code := Value.ref 129 } }
noncomputable def ob183 (_ : Params) : Obj := { cls := Value.type "tuple", data := Data.seq #[Value.str (Str.ofString "cls") 421, Value.str (Str.ofString "iterable") 422, Value.str (Str.ofString "result") 423] }
noncomputable def ob185 (P : Params) : Obj := by
  refine (?f : (qa : Arguments) → (qb : List Stmt) → (qc : Scope) → (qa, qb, qc) = fnP (nthS (clsB (nthS rwB 5)) 5) → Obj) ⟨_, _, _, _, _, _, _⟩ [_, _, _, _] ⟨_, _, _, _, _⟩ rfl
  exact fun qa qb qc _ => { cls := Value.none, data := Data.func { name := Str.ofString "_make", qualname := Str.ofString "Pair._make", params := qa, body := FuncBody.stmts qb, scope := qc, globals := 0, closure := [], defaults := Value.none, kwdefaults := Value.none } }
noncomputable def ob186 (_ : Params) : Obj := { cls := Value.type "code", data := Data.fields #[Value.str (Str.ofString "_make") 418, Value.str (Str.ofString "Pair._make") 419, Value.str (Str.ofString "/claim/cut.py") 420, Value.int 54 0, Value.int 2 0, Value.int 0 0, Value.int 0 0, Value.int 3 0, Value.ref 131, Value.bool true, Value.int 273 0, Value.ref 132, Value.none, Value.ref 133, Value.ref 134, Value.ref 135, Value.int 424 0, Value.int 54 0, Value.str (Str.ofString "/claim/cut.py") 425] }
noncomputable def ob187 (P : Params) : Obj := by
  refine (?f : (qa : Arguments) → (qb : List Stmt) → (qc : Scope) → (qa, qb, qc) = fnP (nthS (clsB (nthS rwB 5)) 5) → Obj) ⟨_, _, _, _, _, _, _⟩ [_, _, _, _] ⟨_, _, _, _, _⟩ rfl
  exact fun qa qb qc _ => { cls := Value.type "function", data := Data.func { name := Str.ofString "_make", qualname := Str.ofString "Pair._make", params := qa, body := FuncBody.stmts qb, scope := qc, globals := 3, closure := [], defaults := Value.none, kwdefaults := Value.none, doc := Value.str (docB ((fnP (nthS (clsB (nthS rwB 5)) 5)).2.1)) 426, pyModule := Value.str (Str.ofString "cpy313.importlib.metadata._collections") 286, annotations := some 140, code := Value.ref 136 } }
noncomputable def ob188 (P : Params) : Obj := { cls := Value.type "dict", data := Data.dict #[{ hash := PyData.keyHash P (Str.ofString "__module__"), key := Value.str (Str.ofString "__module__") 428, val := Value.str (Str.ofString "cpy313.importlib.metadata._collections") 286 }, { hash := PyData.keyHash P (Str.ofString "__name__"), key := Value.str (Str.ofString "__name__") 431, val := Value.str (Str.ofString "_make") 430 }, { hash := PyData.keyHash P (Str.ofString "__qualname__"), key := Value.str (Str.ofString "__qualname__") 434, val := Value.str (Str.ofString "Pair._make") 433 }, { hash := PyData.keyHash P (Str.ofString "__doc__"), key := Value.str (Str.ofString "__doc__") 436, val := Value.str (docB ((fnP (nthS (clsB (nthS rwB 5)) 5)).2.1)) 426 }, { hash := PyData.keyHash P (Str.ofString "__annotations__"), key := Value.str (Str.ofString "__annotations__") 438, val := Value.ref 140 }] 5 }
noncomputable def ob189 (_ : Params) : Obj := { cls := Value.type "classmethod", dict := some 138, data := Data.fields #[Value.ref 137, Value.bool false] }
noncomputable def ob191 (_ : Params) : Obj := { cls := Value.type "tuple", data := Data.seq #[Value.ref 116] }
noncomputable def ob192 (_ : Params) : Obj := { cls := Value.type "tuple", data := Data.seq #[Value.str (Str.ofString "__class__") 443] }
noncomputable def ob194 (_ : Params) : Obj := { cls := Value.type "tuple", data := Data.seq #[Value.str (Str.ofString "self") 444, Value.str (Str.ofString "kwds") 445, Value.str (Str.ofString "result") 446] }
noncomputable def ob196 (P : Params) : Obj := by
  refine (?f : (qa : Arguments) → (qb : List Stmt) → (qc : Scope) → (qa, qb, qc) = fnP (nthS (clsB (nthS rwB 5)) 6) → Obj) ⟨_, _, _, _, _, _, _⟩ [_, _, _, _] ⟨_, _, _, _, _⟩ rfl
  exact fun qa qb qc _ => { cls := Value.none, data := Data.func { name := Str.ofString "_replace", qualname := Str.ofString "Pair._replace", params := qa, body := FuncBody.stmts qb, scope := qc, globals := 0, closure := [], defaults := Value.none, kwdefaults := Value.none } }
noncomputable def ob197 (_ : Params) : Obj := { cls := Value.type "code", data := Data.fields #[Value.str (Str.ofString "_replace") 440, Value.str (Str.ofString "Pair._replace") 441, Value.str (Str.ofString "/claim/cut.py") 442, Value.int 62 0, Value.int 1 0, Value.int 1 0, Value.int 0 0, Value.int 11 0, Value.ref 142, Value.bool true, Value.int 273 0, Value.ref 143, Value.none, Value.ref 144, Value.ref 145, Value.ref 146, Value.int 447 0, Value.int 62 0, Value.str (Str.ofString "/claim/cut.py") 448] }
noncomputable def ob198 (P : Params) : Obj := by
  refine (?f : (qa : Arguments) → (qb : List Stmt) → (qc : Scope) → (qa, qb, qc) = fnP (nthS (clsB (nthS rwB 5)) 6) → Obj) ⟨_, _, _, _, _, _, _⟩ [_, _, _, _] ⟨_, _, _, _, _⟩ rfl
  exact fun qa qb qc _ => { cls := Value.type "function", data := Data.func { name := Str.ofString "_replace", qualname := Str.ofString "Pair._replace", params := qa, body := FuncBody.stmts qb, scope := qc, globals := 3, closure := [(Str.ofString "__class__", 116)], defaults := Value.none, kwdefaults := Value.none, doc := Value.str (docB ((fnP (nthS (clsB (nthS rwB 5)) 6)).2.1)) 449, pyModule := Value.str (Str.ofString "cpy313.importlib.metadata._collections") 286, code := Value.ref 147, closureTuple := Value.ref 141 } }
noncomputable def ob201 (_ : Params) : Obj := { cls := Value.type "tuple", data := Data.seq #[Value.str (Str.ofString "self") 455] }
noncomputable def ob203 (P : Params) : Obj := by
  refine (?f : (qa : Arguments) → (qb : List Stmt) → (qc : Scope) → (qa, qb, qc) = fnP (nthS (clsB (nthS rwB 5)) 8) → Obj) ⟨_, _, _, _, _, _, _⟩ [_, _] ⟨_, _, _, _, _⟩ rfl
  exact fun qa qb qc _ => { cls := Value.none, data := Data.func { name := Str.ofString "__repr__", qualname := Str.ofString "Pair.__repr__", params := qa, body := FuncBody.stmts qb, scope := qc, globals := 0, closure := [], defaults := Value.none, kwdefaults := Value.none } }
noncomputable def ob204 (_ : Params) : Obj := { cls := Value.type "code", data := Data.fields #[Value.str (Str.ofString "__repr__") 452, Value.str (Str.ofString "Pair.__repr__") 453, Value.str (Str.ofString "/claim/cut.py") 454, Value.int 73 0, Value.int 1 0, Value.int 0 0, Value.int 0 0, Value.int 3 0, Value.ref 149, Value.bool true, Value.int 273 0, Value.ref 150, Value.none, Value.ref 151, Value.ref 152, Value.ref 153, Value.int 456 0, Value.int 73 0, Value.str (Str.ofString "/claim/cut.py") 457] }
noncomputable def ob205 (P : Params) : Obj := by
  refine (?f : (qa : Arguments) → (qb : List Stmt) → (qc : Scope) → (qa, qb, qc) = fnP (nthS (clsB (nthS rwB 5)) 8) → Obj) ⟨_, _, _, _, _, _, _⟩ [_, _] ⟨_, _, _, _, _⟩ rfl
  exact fun qa qb qc _ => { cls := Value.type "function", data := Data.func { name := Str.ofString "__repr__", qualname := Str.ofString "Pair.__repr__", params := qa, body := FuncBody.stmts qb, scope := qc, globals := 3, closure := [], defaults := Value.none, kwdefaults := Value.none, doc := Value.str (docB ((fnP (nthS (clsB (nthS rwB 5)) 8)).2.1)) 458, pyModule := Value.str (Str.ofString "cpy313.importlib.metadata._collections") 286, code := Value.ref 154 } }
noncomputable def ob208 (_ : Params) : Obj := { cls := Value.type "tuple", data := Data.seq #[Value.str (Str.ofString "self") 463] }
noncomputable def ob210 (P : Params) : Obj := by
  refine (?f : (qa : Arguments) → (qb : List Stmt) → (qc : Scope) → (qa, qb, qc) = fnP (nthS (clsB (nthS rwB 5)) 9) → Obj) ⟨_, _, _, _, _, _, _⟩ [_] ⟨_, _, _, _, _⟩ rfl
  exact fun qa qb qc _ => { cls := Value.none, data := Data.func { name := Str.ofString "_asdict", qualname := Str.ofString "Pair._asdict", params := qa, body := FuncBody.stmts qb, scope := qc, globals := 0, closure := [], defaults := Value.none, kwdefaults := Value.none } }
noncomputable def ob211 (_ : Params) : Obj := { cls := Value.type "code", data := Data.fields #[Value.str (Str.ofString "_asdict") 460, Value.str (Str.ofString "Pair._asdict") 461, Value.str (Str.ofString "/claim/cut.py") 462, Value.int 77 0, Value.int 1 0, Value.int 0 0, Value.int 0 0, Value.int 3 0, Value.ref 156, Value.bool true, Value.int 273 0, Value.ref 157, Value.none, Value.ref 158, Value.ref 159, Value.ref 160, Value.int 464 0, Value.int 77 0, Value.str (Str.ofString "/claim/cut.py") 465] }
noncomputable def ob212 (P : Params) : Obj := by
  refine (?f : (qa : Arguments) → (qb : List Stmt) → (qc : Scope) → (qa, qb, qc) = fnP (nthS (clsB (nthS rwB 5)) 9) → Obj) ⟨_, _, _, _, _, _, _⟩ [_] ⟨_, _, _, _, _⟩ rfl
  exact fun qa qb qc _ => { cls := Value.type "function", data := Data.func { name := Str.ofString "_asdict", qualname := Str.ofString "Pair._asdict", params := qa, body := FuncBody.stmts qb, scope := qc, globals := 3, closure := [], defaults := Value.none, kwdefaults := Value.none, pyModule := Value.str (Str.ofString "cpy313.importlib.metadata._collections") 286, code := Value.ref 161 } }
noncomputable def ob215 (_ : Params) : Obj := { cls := Value.type "tuple", data := Data.seq #[Value.str (Str.ofString "self") 470] }
noncomputable def ob217 (P : Params) : Obj := by
  refine (?f : (qa : Arguments) → (qb : List Stmt) → (qc : Scope) → (qa, qb, qc) = fnP (nthS (clsB (nthS rwB 5)) 10) → Obj) ⟨_, _, _, _, _, _, _⟩ [_, _] ⟨_, _, _, _, _⟩ rfl
  exact fun qa qb qc _ => { cls := Value.none, data := Data.func { name := Str.ofString "__getnewargs__", qualname := Str.ofString "Pair.__getnewargs__", params := qa, body := FuncBody.stmts qb, scope := qc, globals := 0, closure := [], defaults := Value.none, kwdefaults := Value.none } }
noncomputable def ob218 (_ : Params) : Obj := { cls := Value.type "code", data := Data.fields #[Value.str (Str.ofString "__getnewargs__") 467, Value.str (Str.ofString "Pair.__getnewargs__") 468, Value.str (Str.ofString "/claim/cut.py") 469, Value.int 80 0, Value.int 1 0, Value.int 0 0, Value.int 0 0, Value.int 3 0, Value.ref 163, Value.bool true, Value.int 273 0, Value.ref 164, Value.none, Value.ref 165, Value.ref 166, Value.ref 167, Value.int 471 0, Value.int 80 0, Value.str (Str.ofString "/claim/cut.py") 472] }
noncomputable def ob219 (P : Params) : Obj := by
  refine (?f : (qa : Arguments) → (qb : List Stmt) → (qc : Scope) → (qa, qb, qc) = fnP (nthS (clsB (nthS rwB 5)) 10) → Obj) ⟨_, _, _, _, _, _, _⟩ [_, _] ⟨_, _, _, _, _⟩ rfl
  exact fun qa qb qc _ => { cls := Value.type "function", data := Data.func { name := Str.ofString "__getnewargs__", qualname := Str.ofString "Pair.__getnewargs__", params := qa, body := FuncBody.stmts qb, scope := qc, globals := 3, closure := [], defaults := Value.none, kwdefaults := Value.none, doc := Value.str (docB ((fnP (nthS (clsB (nthS rwB 5)) 10)).2.1)) 473, pyModule := Value.str (Str.ofString "cpy313.importlib.metadata._collections") 286, code := Value.ref 168 } }
noncomputable def ob220 (_ : Params) : Obj := { cls := Value.type "tuple", data := Data.seq #[Value.str (Str.ofString "name") 475, Value.str (Str.ofString "value") 476] }
noncomputable def ob221 (P : Params) : Obj := { cls := Value.type "dict", data := Data.dict #[{ hash := PyData.keyHash P (Str.ofString "index"), key := Value.str (Str.ofString "index") 484, val := Value.int 0 478 }, { hash := PyData.keyHash P (Str.ofString "__doc__"), key := Value.str (Str.ofString "__doc__") 486, val := Value.str (Str.ofString "Alias for field number 0") 479 }] 2 }
noncomputable def ob222 (_ : Params) : Obj := { cls := Value.ref 78, dict := some 171 }
noncomputable def ob223 (P : Params) : Obj := { cls := Value.type "frame", data := Data.dict #[{ hash := PyData.keyHash P (Str.ofString "self"), key := Value.str (Str.ofString "self") 480, val := Value.ref 172 }, { hash := PyData.keyHash P (Str.ofString "index"), key := Value.str (Str.ofString "index") 481, val := Value.int 0 478 }, { hash := PyData.keyHash P (Str.ofString "doc"), key := Value.str (Str.ofString "doc") 482, val := Value.str (Str.ofString "Alias for field number 0") 479 }] 3 }
noncomputable def ob224 (P : Params) : Obj := { cls := Value.type "dict", data := Data.dict #[{ hash := PyData.keyHash P (Str.ofString "index"), key := Value.str (Str.ofString "index") 494, val := Value.int 1 488 }, { hash := PyData.keyHash P (Str.ofString "__doc__"), key := Value.str (Str.ofString "__doc__") 496, val := Value.str (Str.ofString "Alias for field number 1") 489 }] 2 }
noncomputable def ob225 (_ : Params) : Obj := { cls := Value.ref 78, dict := some 174 }
noncomputable def ob226 (P : Params) : Obj := { cls := Value.type "frame", data := Data.dict #[{ hash := PyData.keyHash P (Str.ofString "self"), key := Value.str (Str.ofString "self") 490, val := Value.ref 175 }, { hash := PyData.keyHash P (Str.ofString "index"), key := Value.str (Str.ofString "index") 491, val := Value.int 1 488 }, { hash := PyData.keyHash P (Str.ofString "doc"), key := Value.str (Str.ofString "doc") 492, val := Value.str (Str.ofString "Alias for field number 1") 489 }] 3 }
noncomputable def ob229 (P : Params) : Obj := { cls := Value.type "dict", data := Data.dict #[{ hash := PyData.keyHash P (Str.ofString "__module__"), key := Value.str (Str.ofString "__module__") 395, val := Value.str (Str.ofString "cpy313.importlib.metadata._collections") 286 }, { hash := PyData.keyHash P (Str.ofString "__firstlineno__"), key := Value.str (Str.ofString "__firstlineno__") 399, val := Value.int 44 398 }, { hash := PyData.keyHash P (Str.ofString "__doc__"), key := Value.str (Str.ofString "__doc__") 401, val := Value.str (docB (clsB (nthS rwB 5))) 400 }, { hash := PyData.keyHash P (Str.ofString "__slots__"), key := Value.str (Str.ofString "__slots__") 403, val := Value.ref 121 }, { hash := PyData.keyHash P (Str.ofString "_fields"), key := Value.str (Str.ofString "_fields") 406, val := Value.ref 122 }, { hash := PyData.keyHash P (Str.ofString "_field_defaults"), key := Value.str (Str.ofString "_field_defaults") 407, val := Value.ref 123 }, { hash := PyData.keyHash P (Str.ofString "__new__"), key := Value.str (Str.ofString "__new__") 417, val := Value.ref 181 }, { hash := PyData.keyHash P (Str.ofString "_make"), key := Value.str (Str.ofString "_make") 439, val := Value.ref 139 }, { hash := PyData.keyHash P (Str.ofString "_replace"), key := Value.str (Str.ofString "_replace") 450, val := Value.ref 148 }, { hash := PyData.keyHash P (Str.ofString "__replace__"), key := Value.str (Str.ofString "__replace__") 451, val := Value.ref 148 }, { hash := PyData.keyHash P (Str.ofString "__repr__"), key := Value.str (Str.ofString "__repr__") 459, val := Value.ref 155 }, { hash := PyData.keyHash P (Str.ofString "_asdict"), key := Value.str (Str.ofString "_asdict") 466, val := Value.ref 162 }, { hash := PyData.keyHash P (Str.ofString "__getnewargs__"), key := Value.str (Str.ofString "__getnewargs__") 474, val := Value.ref 169 }, { hash := PyData.keyHash P (Str.ofString "__match_args__"), key := Value.str (Str.ofString "__match_args__") 477, val := Value.ref 170 }, { hash := PyData.keyHash P (Str.ofString "name"), key := Value.str (Str.ofString "name") 487, val := Value.ref 172 }, { hash := PyData.keyHash P (Str.ofString "value"), key := Value.str (Str.ofString "value") 497, val := Value.ref 175 }, { hash := PyData.keyHash P (Str.ofString "__static_attributes__"), key := Value.str (Str.ofString "__static_attributes__") 498, val := Value.ref 177 }] 2 }
noncomputable def ob289 (_ : Params) : Obj := { cls := Value.type "type", data := Data.cls { name := Str.ofString "Pair", bases := [Value.type "tuple"], mro := [Value.ref 180, Value.type "tuple", Value.type "object"], ns := 179, qualname := Str.ofString "Pair", hasDict := false, subclasses := [Value.ref 203] }, slots := #[some (Value.ref 113), none, some (Value.str (Str.ofString "Pair") 388), some (Value.str (Str.ofString "Pair") 396), some Value.none, some (Value.bool false)] }
noncomputable def ob231 (_ : Params) : Obj := { cls := Value.type "staticmethod", data := Data.fields #[Value.ref 130] }
noncomputable def ob232 (_ : Params) : Obj := { cls := Value.type "super", data := Data.fields #[Value.ref 180, Value.ref 180, Value.ref 180] }
noncomputable def ob233 (_ : Params) : Obj := { cls := Value.type "builtin_function_or_method", data := Data.fields #[Value.builtin "object.__init_subclass__", Value.ref 180] }
noncomputable def ob290 (_ : Params) : Obj := { cls := Value.type "tuple", data := Data.seq #[Value.ref 180] }
noncomputable def ob292 (P : Params) : Obj := { cls := Value.type "dict", data := Data.dict #[{ hash := PyData.keyHash P (Str.ofString "__module__"), key := Value.str (Str.ofString "__module__") 510, val := Value.str (Str.ofString "cpy313.importlib.metadata._collections") 286 }, { hash := PyData.keyHash P (Str.ofString "__qualname__"), key := Value.str (Str.ofString "__qualname__") 512, val := Value.str (Str.ofString "Pair") 511 }, { hash := PyData.keyHash P (Str.ofString "__firstlineno__"), key := Value.str (Str.ofString "__firstlineno__") 514, val := Value.int 86 513 }, { hash := PyData.keyHash P (Str.ofString "parse"), key := Value.str (Str.ofString "parse") 534, val := Value.ref 199 }, { hash := PyData.keyHash P (Str.ofString "__static_attributes__"), key := Value.str (Str.ofString "__static_attributes__") 535, val := Value.ref 201 }] 5 }
noncomputable def ob294 (_ : Params) : Obj := { cls := Value.none, data := Data.fields #[Value.int 89 0, Value.int 4 0, Value.ref 196] }
noncomputable def ob295 (_ : Params) : Obj := { cls := Value.type "code", data := Data.fields #[Value.str (Str.ofString "Pair") 505, Value.str (Str.ofString "Pair") 506, Value.str (Str.ofString "/claim/cut.py") 507, Value.int 86 0, Value.int 0 0, Value.int 0 0, Value.int 0 0, Value.int 0 0, Value.ref 187, Value.bool false, Value.int 273 0, Value.ref 188, Value.none, Value.none, Value.none, Value.none, Value.int 508 0, Value.int 86 0, Value.str (Str.ofString "/claim/cut.py") 509] }
noncomputable def ob296 (_ : Params) : Obj := { cls := Value.type "frame", slots := #[some (Value.ref 189), some (Value.ref 3), some (Value.ref 186), none, some (Value.str (Str.ofString "cpy313.importlib.metadata._collections") 286), none, some (Value.ref 0)] }
noncomputable def ob299 (_ : Params) : Obj := { cls := Value.type "tuple", data := Data.seq #[Value.str (Str.ofString "cls") 518, Value.str (Str.ofString "text") 519] }
noncomputable def ob301 (P : Params) : Obj := by
  refine (?f : (qa : Arguments) → (qb : List Stmt) → (qc : Scope) → (qa, qb, qc) = fnP (nthS (clsB (nthS rwB 6)) 0) → Obj) ⟨_, _, _, _, _, _, _⟩ [_] ⟨_, _, _, _, _⟩ rfl
  exact fun qa qb qc _ => { cls := Value.none, data := Data.func { name := Str.ofString "parse", qualname := Str.ofString "Pair.parse", params := qa, body := FuncBody.stmts qb, scope := qc, globals := 0, closure := [], defaults := Value.none, kwdefaults := Value.none } }
noncomputable def ob302 (_ : Params) : Obj := { cls := Value.type "code", data := Data.fields #[Value.str (Str.ofString "parse") 515, Value.str (Str.ofString "Pair.parse") 516, Value.str (Str.ofString "/claim/cut.py") 517, Value.int 88 0, Value.int 2 0, Value.int 0 0, Value.int 0 0, Value.int 3 0, Value.ref 191, Value.bool true, Value.int 273 0, Value.ref 192, Value.none, Value.ref 193, Value.ref 194, Value.ref 195, Value.int 520 0, Value.int 88 0, Value.str (Str.ofString "/claim/cut.py") 521] }
noncomputable def ob303 (P : Params) : Obj := by
  refine (?f : (qa : Arguments) → (qb : List Stmt) → (qc : Scope) → (qa, qb, qc) = fnP (nthS (clsB (nthS rwB 6)) 0) → Obj) ⟨_, _, _, _, _, _, _⟩ [_] ⟨_, _, _, _, _⟩ rfl
  exact fun qa qb qc _ => { cls := Value.type "function", data := Data.func { name := Str.ofString "parse", qualname := Str.ofString "Pair.parse", params := qa, body := FuncBody.stmts qb, scope := qc, globals := 3, closure := [], defaults := Value.none, kwdefaults := Value.none, pyModule := Value.str (Str.ofString "cpy313.importlib.metadata._collections") 286, annotations := some 200, code := Value.ref 196 } }
noncomputable def ob304 (P : Params) : Obj := { cls := Value.type "dict", data := Data.dict #[{ hash := PyData.keyHash P (Str.ofString "__module__"), key := Value.str (Str.ofString "__module__") 523, val := Value.str (Str.ofString "cpy313.importlib.metadata._collections") 286 }, { hash := PyData.keyHash P (Str.ofString "__name__"), key := Value.str (Str.ofString "__name__") 526, val := Value.str (Str.ofString "parse") 525 }, { hash := PyData.keyHash P (Str.ofString "__qualname__"), key := Value.str (Str.ofString "__qualname__") 529, val := Value.str (Str.ofString "Pair.parse") 528 }, { hash := PyData.keyHash P (Str.ofString "__doc__"), key := Value.str (Str.ofString "__doc__") 531, val := Value.none }, { hash := PyData.keyHash P (Str.ofString "__annotations__"), key := Value.str (Str.ofString "__annotations__") 533, val := Value.ref 200 }] 5 }
noncomputable def ob305 (_ : Params) : Obj := { cls := Value.type "classmethod", dict := some 198, data := Data.fields #[Value.ref 197, Value.bool false] }
noncomputable def ob308 (P : Params) : Obj := { cls := Value.type "dict", data := Data.dict #[{ hash := PyData.keyHash P (Str.ofString "__module__"), key := Value.str (Str.ofString "__module__") 510, val := Value.str (Str.ofString "cpy313.importlib.metadata._collections") 286 }, { hash := PyData.keyHash P (Str.ofString "__firstlineno__"), key := Value.str (Str.ofString "__firstlineno__") 514, val := Value.int 86 513 }, { hash := PyData.keyHash P (Str.ofString "parse"), key := Value.str (Str.ofString "parse") 534, val := Value.ref 199 }, { hash := PyData.keyHash P (Str.ofString "__static_attributes__"), key := Value.str (Str.ofString "__static_attributes__") 535, val := Value.ref 201 }, { hash := PyData.keyHash P (Str.ofString "__dict__"), key := Value.str (Str.ofString "__dict__") 537, val := Value.ref 204 }, { hash := PyData.keyHash P (Str.ofString "__doc__"), key := Value.str (Str.ofString "__doc__") 538, val := Value.none }] 3 }
noncomputable def ob309 (_ : Params) : Obj := { cls := Value.type "type", data := Data.cls { name := Str.ofString "Pair", bases := [Value.ref 180], mro := [Value.ref 203, Value.ref 180, Value.type "tuple", Value.type "object"], ns := 202, qualname := Str.ofString "Pair" }, slots := #[some (Value.ref 184), none, some (Value.str (Str.ofString "Pair") 503), some (Value.str (Str.ofString "Pair") 511), some Value.none, some (Value.bool false)] }
noncomputable def ob310 (_ : Params) : Obj := { cls := Value.type "getset_descriptor", data := Data.fields #[Value.str (Str.ofString "__dict__") 536, Value.ref 203, Value.builtin "function.__dict__", Value.builtin "function.__dict__#set"] }
noncomputable def ob311 (_ : Params) : Obj := { cls := Value.type "super", data := Data.fields #[Value.ref 203, Value.ref 203, Value.ref 203] }
noncomputable def ob312 (_ : Params) : Obj := { cls := Value.type "builtin_function_or_method", data := Data.fields #[Value.builtin "object.__init_subclass__", Value.ref 203] }
noncomputable def ob317 (_ : Params) : Obj := { cls := Value.type "tuple", data := Data.seq #[Value.str (Str.ofString "mode") 546] }
noncomputable def ob319 (P : Params) : Obj := by
  refine (?f : (qa : Arguments) → (qb : List Stmt) → (qc : Scope) → (qa, qb, qc) = fnP (nthS rwB 8) → Obj) ⟨_, _, _, _, _, _, _⟩ [_, _] ⟨_, _, _, _, _⟩ rfl
  exact fun qa qb qc _ => { cls := Value.none, data := Data.func { name := Str.ofString "S_IFMT", qualname := Str.ofString "S_IFMT", params := qa, body := FuncBody.stmts qb, scope := qc, globals := 0, closure := [], defaults := Value.none, kwdefaults := Value.none } }
noncomputable def ob320 (_ : Params) : Obj := { cls := Value.type "code", data := Data.fields #[Value.str (Str.ofString "S_IFMT") 543, Value.str (Str.ofString "S_IFMT") 544, Value.str (Str.ofString "/claim/cut.py") 545, Value.int 92 0, Value.int 1 0, Value.int 0 0, Value.int 0 0, Value.int 3 0, Value.ref 207, Value.bool true, Value.int 273 0, Value.ref 208, Value.none, Value.ref 209, Value.ref 210, Value.ref 211, Value.int 547 0, Value.int 92 0, Value.str (Str.ofString "/claim/cut.py") 548] }
noncomputable def ob321 (P : Params) : Obj := by
  refine (?f : (qa : Arguments) → (qb : List Stmt) → (qc : Scope) → (qa, qb, qc) = fnP (nthS rwB 8) → Obj) ⟨_, _, _, _, _, _, _⟩ [_, _] ⟨_, _, _, _, _⟩ rfl
  exact fun qa qb qc _ => { cls := Value.type "function", data := Data.func { name := Str.ofString "S_IFMT", qualname := Str.ofString "S_IFMT", params := qa, body := FuncBody.stmts qb, scope := qc, globals := 3, closure := [], defaults := Value.none, kwdefaults := Value.none, doc := Value.str (docB ((fnP (nthS rwB 8)).2.1)) 549, pyModule := Value.str (Str.ofString "cpy313.stat") 541, code := Value.ref 212 } }
noncomputable def ob322 (_ : Params) : Obj := { cls := Value.type "tuple", data := Data.seq #[Value.int 40960 561, Value.str (Str.ofString "l") 589] }
noncomputable def ob323 (_ : Params) : Obj := { cls := Value.type "tuple", data := Data.seq #[Value.int 49152 563, Value.str (Str.ofString "s") 590] }
noncomputable def ob324 (_ : Params) : Obj := { cls := Value.type "tuple", data := Data.seq #[Value.int 32768 557, Value.str (Str.ofString "-") 591] }
noncomputable def ob325 (_ : Params) : Obj := { cls := Value.type "tuple", data := Data.seq #[Value.int 24576 555, Value.str (Str.ofString "b") 592] }
noncomputable def ob326 (_ : Params) : Obj := { cls := Value.type "tuple", data := Data.seq #[Value.int 16384 551, Value.str (Str.ofString "d") 593] }
noncomputable def ob327 (_ : Params) : Obj := { cls := Value.type "tuple", data := Data.seq #[Value.int 8192 553, Value.str (Str.ofString "c") 594] }
noncomputable def ob328 (_ : Params) : Obj := { cls := Value.type "tuple", data := Data.seq #[Value.int 4096 559, Value.str (Str.ofString "p") 595] }
noncomputable def ob329 (_ : Params) : Obj := { cls := Value.type "tuple", data := Data.seq #[Value.ref 214, Value.ref 215, Value.ref 216, Value.ref 217, Value.ref 218, Value.ref 219, Value.ref 220] }
noncomputable def ob330 (_ : Params) : Obj := { cls := Value.type "tuple", data := Data.seq #[Value.int 256 571, Value.str (Str.ofString "r") 596] }
noncomputable def ob331 (_ : Params) : Obj := { cls := Value.type "tuple", data := Data.seq #[Value.ref 222] }
noncomputable def ob332 (_ : Params) : Obj := { cls := Value.type "tuple", data := Data.seq #[Value.int 128 573, Value.str (Str.ofString "w") 597] }
noncomputable def ob333 (_ : Params) : Obj := { cls := Value.type "tuple", data := Data.seq #[Value.ref 224] }
noncomputable def ob334 (_ : Params) : Obj := { cls := Value.type "tuple", data := Data.seq #[Value.int 2112 598, Value.str (Str.ofString "s") 599] }
noncomputable def ob335 (_ : Params) : Obj := { cls := Value.type "tuple", data := Data.seq #[Value.int 2048 565, Value.str (Str.ofString "S") 600] }
noncomputable def ob336 (_ : Params) : Obj := { cls := Value.type "tuple", data := Data.seq #[Value.int 64 575, Value.str (Str.ofString "x") 601] }
noncomputable def ob337 (_ : Params) : Obj := { cls := Value.type "tuple", data := Data.seq #[Value.ref 226, Value.ref 227, Value.ref 228] }
noncomputable def ob338 (_ : Params) : Obj := { cls := Value.type "tuple", data := Data.seq #[Value.int 32 577, Value.str (Str.ofString "r") 602] }
noncomputable def ob339 (_ : Params) : Obj := { cls := Value.type "tuple", data := Data.seq #[Value.ref 230] }
noncomputable def ob340 (_ : Params) : Obj := { cls := Value.type "tuple", data := Data.seq #[Value.int 16 579, Value.str (Str.ofString "w") 603] }
noncomputable def ob341 (_ : Params) : Obj := { cls := Value.type "tuple", data := Data.seq #[Value.ref 232] }
noncomputable def ob342 (_ : Params) : Obj := { cls := Value.type "tuple", data := Data.seq #[Value.int 1032 604, Value.str (Str.ofString "s") 605] }
noncomputable def ob343 (_ : Params) : Obj := { cls := Value.type "tuple", data := Data.seq #[Value.int 1024 567, Value.str (Str.ofString "S") 606] }
noncomputable def ob344 (_ : Params) : Obj := { cls := Value.type "tuple", data := Data.seq #[Value.int 8 581, Value.str (Str.ofString "x") 607] }
noncomputable def ob345 (_ : Params) : Obj := { cls := Value.type "tuple", data := Data.seq #[Value.ref 234, Value.ref 235, Value.ref 236] }
noncomputable def ob346 (_ : Params) : Obj := { cls := Value.type "tuple", data := Data.seq #[Value.int 4 583, Value.str (Str.ofString "r") 608] }
noncomputable def ob347 (_ : Params) : Obj := { cls := Value.type "tuple", data := Data.seq #[Value.ref 238] }
noncomputable def ob348 (_ : Params) : Obj := { cls := Value.type "tuple", data := Data.seq #[Value.int 2 585, Value.str (Str.ofString "w") 609] }
noncomputable def ob349 (_ : Params) : Obj := { cls := Value.type "tuple", data := Data.seq #[Value.ref 240] }
noncomputable def ob350 (_ : Params) : Obj := { cls := Value.type "tuple", data := Data.seq #[Value.int 513 610, Value.str (Str.ofString "t") 611] }
noncomputable def ob351 (_ : Params) : Obj := { cls := Value.type "tuple", data := Data.seq #[Value.int 512 569, Value.str (Str.ofString "T") 612] }
noncomputable def ob352 (_ : Params) : Obj := { cls := Value.type "tuple", data := Data.seq #[Value.int 1 587, Value.str (Str.ofString "x") 613] }
noncomputable def ob353 (_ : Params) : Obj := { cls := Value.type "tuple", data := Data.seq #[Value.ref 242, Value.ref 243, Value.ref 244] }
noncomputable def ob354 (_ : Params) : Obj := { cls := Value.type "tuple", data := Data.seq #[Value.ref 221, Value.ref 223, Value.ref 225, Value.ref 229, Value.ref 231, Value.ref 233, Value.ref 237, Value.ref 239, Value.ref 241, Value.ref 245] }
noncomputable def ob357 (_ : Params) : Obj := { cls := Value.type "tuple", data := Data.seq #[Value.str (Str.ofString "mode") 618, Value.str (Str.ofString "perm") 619, Value.str (Str.ofString "index") 620, Value.str (Str.ofString "table") 621, Value.str (Str.ofString "bit") 622, Value.str (Str.ofString "char") 623] }
noncomputable def ob359 (P : Params) : Obj := by
  refine (?f : (qa : Arguments) → (qb : List Stmt) → (qc : Scope) → (qa, qb, qc) = fnP (nthS rwB 29) → Obj) ⟨_, _, _, _, _, _, _⟩ [_, _, _, _] ⟨_, _, _, _, _⟩ rfl
  exact fun qa qb qc _ => { cls := Value.none, data := Data.func { name := Str.ofString "filemode", qualname := Str.ofString "filemode", params := qa, body := FuncBody.stmts qb, scope := qc, globals := 0, closure := [], defaults := Value.none, kwdefaults := Value.none } }
noncomputable def ob360 (_ : Params) : Obj := { cls := Value.type "code", data := Data.fields #[Value.str (Str.ofString "filemode") 615, Value.str (Str.ofString "filemode") 616, Value.str (Str.ofString "/claim/cut.py") 617, Value.int 117 0, Value.int 1 0, Value.int 0 0, Value.int 0 0, Value.int 3 0, Value.ref 247, Value.bool true, Value.int 273 0, Value.ref 248, Value.none, Value.ref 249, Value.ref 250, Value.ref 251, Value.int 624 0, Value.int 117 0, Value.str (Str.ofString "/claim/cut.py") 625] }
noncomputable def ob361 (P : Params) : Obj := by
  refine (?f : (qa : Arguments) → (qb : List Stmt) → (qc : Scope) → (qa, qb, qc) = fnP (nthS rwB 29) → Obj) ⟨_, _, _, _, _, _, _⟩ [_, _, _, _] ⟨_, _, _, _, _⟩ rfl
  exact fun qa qb qc _ => { cls := Value.type "function", data := Data.func { name := Str.ofString "filemode", qualname := Str.ofString "filemode", params := qa, body := FuncBody.stmts qb, scope := qc, globals := 3, closure := [], defaults := Value.none, kwdefaults := Value.none, doc := Value.str (docB ((fnP (nthS rwB 29)).2.1)) 626, pyModule := Value.str (Str.ofString "cpy313.stat") 541, code := Value.ref 252 } }
noncomputable def ob366 (P : Params) : Obj := by
  refine (?f : (qa : Arguments) → (qb : List Stmt) → (qc : Scope) → (qa, qb, qc) = fnP (nthS rwB 31) → Obj) ⟨_, _, _, _, _, _, _⟩ [_, _, _, _] ⟨_, _, _, _, _⟩ rfl
  exact fun qa qb qc _ => { cls := Value.none, data := Data.func { name := Str.ofString "_law_step", qualname := Str.ofString "_law_step", params := qa, body := FuncBody.stmts qb, scope := qc, globals := 0, closure := [], defaults := Value.none, kwdefaults := Value.none } }
noncomputable def ob367 (_ : Params) : Obj := { cls := Value.type "code", data := Data.fields #[Value.str (Str.ofString "_law_step") 630, Value.str (Str.ofString "_law_step") 631, Value.str (Str.ofString "/claim/cut.py") 632, Value.int 136 0, Value.int 1 0, Value.int 0 0, Value.int 0 0, Value.int 3 0, Value.ref 254, Value.bool true, Value.int 273 0, Value.ref 255, Value.none, Value.none, Value.none, Value.ref 256, Value.int 633 0, Value.int 136 0, Value.str (Str.ofString "/claim/cut.py") 634] }
noncomputable def ob368 (P : Params) : Obj := by
  refine (?f : (qa : Arguments) → (qb : List Stmt) → (qc : Scope) → (qa, qb, qc) = fnP (nthS rwB 31) → Obj) ⟨_, _, _, _, _, _, _⟩ [_, _, _, _] ⟨_, _, _, _, _⟩ rfl
  exact fun qa qb qc _ => { cls := Value.type "function", data := Data.func { name := Str.ofString "_law_step", qualname := Str.ofString "_law_step", params := qa, body := FuncBody.stmts qb, scope := qc, globals := 3, closure := [], defaults := Value.none, kwdefaults := Value.none, pyModule := Value.str (Str.ofString "law_in0190_01") 628, code := Value.ref 257 } }
noncomputable def ob371 (_ : Params) : Obj := { cls := Value.type "tuple", data := Data.seq #[Value.str (Str.ofString "step") 639, Value.str (Str.ofString "deed") 640, Value.str (Str.ofString "name") 641, Value.str (Str.ofString "figures") 642, Value.str (Str.ofString "pad") 643] }
noncomputable def ob373 (P : Params) : Obj := by
  refine (?f : (qa : Arguments) → (qb : List Stmt) → (qc : Scope) → (qa, qb, qc) = fnP (nthS rwB 32) → Obj) ⟨_, _, _, _, _, _, _⟩ [_, _, _, _, _, _] ⟨_, _, _, _, _⟩ rfl
  exact fun qa qb qc _ => { cls := Value.none, data := Data.func { name := Str.ofString "_law_line", qualname := Str.ofString "_law_line", params := qa, body := FuncBody.stmts qb, scope := qc, globals := 0, closure := [], defaults := Value.none, kwdefaults := Value.none } }
noncomputable def ob374 (_ : Params) : Obj := { cls := Value.type "code", data := Data.fields #[Value.str (Str.ofString "_law_line") 636, Value.str (Str.ofString "_law_line") 637, Value.str (Str.ofString "/claim/cut.py") 638, Value.int 141 0, Value.int 1 0, Value.int 0 0, Value.int 0 0, Value.int 3 0, Value.ref 259, Value.bool true, Value.int 273 0, Value.ref 260, Value.none, Value.ref 261, Value.ref 262, Value.ref 263, Value.int 644 0, Value.int 141 0, Value.str (Str.ofString "/claim/cut.py") 645] }
noncomputable def ob375 (P : Params) : Obj := by
  refine (?f : (qa : Arguments) → (qb : List Stmt) → (qc : Scope) → (qa, qb, qc) = fnP (nthS rwB 32) → Obj) ⟨_, _, _, _, _, _, _⟩ [_, _, _, _, _, _] ⟨_, _, _, _, _⟩ rfl
  exact fun qa qb qc _ => { cls := Value.type "function", data := Data.func { name := Str.ofString "_law_line", qualname := Str.ofString "_law_line", params := qa, body := FuncBody.stmts qb, scope := qc, globals := 3, closure := [], defaults := Value.none, kwdefaults := Value.none, pyModule := Value.str (Str.ofString "law_in0190_01") 628, code := Value.ref 264 } }
noncomputable def ob378 (_ : Params) : Obj := { cls := Value.type "tuple", data := Data.seq #[Value.str (Str.ofString "line") 650] }
noncomputable def ob380 (P : Params) : Obj := by
  refine (?f : (qa : Arguments) → (qb : List Stmt) → (qc : Scope) → (qa, qb, qc) = fnP (nthS rwB 33) → Obj) ⟨_, _, _, _, _, _, _⟩ [_] ⟨_, _, _, _, _⟩ rfl
  exact fun qa qb qc _ => { cls := Value.none, data := Data.func { name := Str.ofString "_law_pair", qualname := Str.ofString "_law_pair", params := qa, body := FuncBody.stmts qb, scope := qc, globals := 0, closure := [], defaults := Value.none, kwdefaults := Value.none } }
noncomputable def ob381 (_ : Params) : Obj := { cls := Value.type "code", data := Data.fields #[Value.str (Str.ofString "_law_pair") 647, Value.str (Str.ofString "_law_pair") 648, Value.str (Str.ofString "/claim/cut.py") 649, Value.int 152 0, Value.int 1 0, Value.int 0 0, Value.int 0 0, Value.int 3 0, Value.ref 266, Value.bool true, Value.int 273 0, Value.ref 267, Value.none, Value.ref 268, Value.ref 269, Value.ref 270, Value.int 651 0, Value.int 152 0, Value.str (Str.ofString "/claim/cut.py") 652] }
noncomputable def ob382 (P : Params) : Obj := by
  refine (?f : (qa : Arguments) → (qb : List Stmt) → (qc : Scope) → (qa, qb, qc) = fnP (nthS rwB 33) → Obj) ⟨_, _, _, _, _, _, _⟩ [_] ⟨_, _, _, _, _⟩ rfl
  exact fun qa qb qc _ => { cls := Value.type "function", data := Data.func { name := Str.ofString "_law_pair", qualname := Str.ofString "_law_pair", params := qa, body := FuncBody.stmts qb, scope := qc, globals := 3, closure := [], defaults := Value.none, kwdefaults := Value.none, pyModule := Value.str (Str.ofString "law_in0190_01") 628, code := Value.ref 271 } }
noncomputable def ob385 (_ : Params) : Obj := { cls := Value.type "tuple", data := Data.seq #[Value.str (Str.ofString "figures") 657, Value.str (Str.ofString "number") 658, Value.str (Str.ofString "figure") 659] }
noncomputable def ob387 (P : Params) : Obj := by
  refine (?f : (qa : Arguments) → (qb : List Stmt) → (qc : Scope) → (qa, qb, qc) = fnP (nthS rwB 34) → Obj) ⟨_, _, _, _, _, _, _⟩ [_, _, _] ⟨_, _, _, _, _⟩ rfl
  exact fun qa qb qc _ => { cls := Value.none, data := Data.func { name := Str.ofString "_law_number", qualname := Str.ofString "_law_number", params := qa, body := FuncBody.stmts qb, scope := qc, globals := 0, closure := [], defaults := Value.none, kwdefaults := Value.none } }
noncomputable def ob388 (_ : Params) : Obj := { cls := Value.type "code", data := Data.fields #[Value.str (Str.ofString "_law_number") 654, Value.str (Str.ofString "_law_number") 655, Value.str (Str.ofString "/claim/cut.py") 656, Value.int 157 0, Value.int 1 0, Value.int 0 0, Value.int 0 0, Value.int 3 0, Value.ref 273, Value.bool true, Value.int 273 0, Value.ref 274, Value.none, Value.ref 275, Value.ref 276, Value.ref 277, Value.int 660 0, Value.int 157 0, Value.str (Str.ofString "/claim/cut.py") 661] }
noncomputable def ob389 (P : Params) : Obj := by
  refine (?f : (qa : Arguments) → (qb : List Stmt) → (qc : Scope) → (qa, qb, qc) = fnP (nthS rwB 34) → Obj) ⟨_, _, _, _, _, _, _⟩ [_, _, _] ⟨_, _, _, _, _⟩ rfl
  exact fun qa qb qc _ => { cls := Value.type "function", data := Data.func { name := Str.ofString "_law_number", qualname := Str.ofString "_law_number", params := qa, body := FuncBody.stmts qb, scope := qc, globals := 3, closure := [], defaults := Value.none, kwdefaults := Value.none, pyModule := Value.str (Str.ofString "law_in0190_01") 628, code := Value.ref 278 } }
noncomputable def ob392 (_ : Params) : Obj := { cls := Value.type "tuple", data := Data.seq #[Value.str (Str.ofString "mask") 666, Value.str (Str.ofString "rights") 667] }
noncomputable def ob394 (P : Params) : Obj := by
  refine (?f : (qa : Arguments) → (qb : List Stmt) → (qc : Scope) → (qa, qb, qc) = fnP (nthS rwB 35) → Obj) ⟨_, _, _, _, _, _, _⟩ [_, _] ⟨_, _, _, _, _⟩ rfl
  exact fun qa qb qc _ => { cls := Value.none, data := Data.func { name := Str.ofString "_law_left", qualname := Str.ofString "_law_left", params := qa, body := FuncBody.stmts qb, scope := qc, globals := 0, closure := [], defaults := Value.none, kwdefaults := Value.none } }
noncomputable def ob395 (_ : Params) : Obj := { cls := Value.type "code", data := Data.fields #[Value.str (Str.ofString "_law_left") 663, Value.str (Str.ofString "_law_left") 664, Value.str (Str.ofString "/claim/cut.py") 665, Value.int 162 0, Value.int 1 0, Value.int 0 0, Value.int 0 0, Value.int 3 0, Value.ref 280, Value.bool true, Value.int 273 0, Value.ref 281, Value.none, Value.ref 282, Value.ref 283, Value.ref 284, Value.int 668 0, Value.int 162 0, Value.str (Str.ofString "/claim/cut.py") 669] }
noncomputable def ob396 (P : Params) : Obj := by
  refine (?f : (qa : Arguments) → (qb : List Stmt) → (qc : Scope) → (qa, qb, qc) = fnP (nthS rwB 35) → Obj) ⟨_, _, _, _, _, _, _⟩ [_, _] ⟨_, _, _, _, _⟩ rfl
  exact fun qa qb qc _ => { cls := Value.type "function", data := Data.func { name := Str.ofString "_law_left", qualname := Str.ofString "_law_left", params := qa, body := FuncBody.stmts qb, scope := qc, globals := 3, closure := [], defaults := Value.none, kwdefaults := Value.none, pyModule := Value.str (Str.ofString "law_in0190_01") 628, code := Value.ref 285 } }
noncomputable def ob399 (P : Params) : Obj := by
  refine (?f : (qa : Arguments) → (qb : List Stmt) → (qc : Scope) → (qa, qb, qc) = fnP (nthS rwB 36) → Obj) ⟨_, _, _, _, _, _, _⟩ [_, _, _, _, _] ⟨_, _, _, _, _⟩ rfl
  exact fun qa qb qc _ => { cls := Value.none, data := Data.func { name := Str.ofString "_law_play", qualname := Str.ofString "_law_play", params := qa, body := FuncBody.stmts qb, scope := qc, globals := 0, closure := [], defaults := Value.none, kwdefaults := Value.none } }
noncomputable def ob400 (_ : Params) : Obj := { cls := Value.type "code", data := Data.fields #[Value.str (Str.ofString "_law_play") 671, Value.str (Str.ofString "_law_play") 672, Value.str (Str.ofString "/claim/cut.py") 673, Value.int 165 0, Value.int 1 0, Value.int 0 0, Value.int 0 0, Value.int 3 0, Value.ref 287, Value.bool true, Value.int 273 0, Value.ref 288, Value.none, Value.none, Value.none, Value.ref 289, Value.int 674 0, Value.int 165 0, Value.str (Str.ofString "/claim/cut.py") 675] }
noncomputable def ob401 (P : Params) : Obj := by
  refine (?f : (qa : Arguments) → (qb : List Stmt) → (qc : Scope) → (qa, qb, qc) = fnP (nthS rwB 36) → Obj) ⟨_, _, _, _, _, _, _⟩ [_, _, _, _, _] ⟨_, _, _, _, _⟩ rfl
  exact fun qa qb qc _ => { cls := Value.type "function", data := Data.func { name := Str.ofString "_law_play", qualname := Str.ofString "_law_play", params := qa, body := FuncBody.stmts qb, scope := qc, globals := 3, closure := [], defaults := Value.none, kwdefaults := Value.none, pyModule := Value.str (Str.ofString "law_in0190_01") 628, code := Value.ref 290 } }
noncomputable def ob404 (_ : Params) : Obj := { cls := Value.type "tuple", data := Data.seq #[Value.str (Str.ofString "figures") 680, Value.str (Str.ofString "signs") 681, Value.str (Str.ofString "place") 682, Value.str (Str.ofString "three") 683] }
noncomputable def ob406 (P : Params) : Obj := by
  refine (?f : (qa : Arguments) → (qb : List Stmt) → (qc : Scope) → (qa, qb, qc) = fnP (nthS rwB 37) → Obj) ⟨_, _, _, _, _, _, _⟩ [_, _, _] ⟨_, _, _, _, _⟩ rfl
  exact fun qa qb qc _ => { cls := Value.none, data := Data.func { name := Str.ofString "_law_signs", qualname := Str.ofString "_law_signs", params := qa, body := FuncBody.stmts qb, scope := qc, globals := 0, closure := [], defaults := Value.none, kwdefaults := Value.none } }
noncomputable def ob407 (_ : Params) : Obj := { cls := Value.type "code", data := Data.fields #[Value.str (Str.ofString "_law_signs") 677, Value.str (Str.ofString "_law_signs") 678, Value.str (Str.ofString "/claim/cut.py") 679, Value.int 183 0, Value.int 1 0, Value.int 0 0, Value.int 0 0, Value.int 3 0, Value.ref 292, Value.bool true, Value.int 273 0, Value.ref 293, Value.none, Value.ref 294, Value.ref 295, Value.ref 296, Value.int 684 0, Value.int 183 0, Value.str (Str.ofString "/claim/cut.py") 685] }
noncomputable def ob408 (P : Params) : Obj := by
  refine (?f : (qa : Arguments) → (qb : List Stmt) → (qc : Scope) → (qa, qb, qc) = fnP (nthS rwB 37) → Obj) ⟨_, _, _, _, _, _, _⟩ [_, _, _] ⟨_, _, _, _, _⟩ rfl
  exact fun qa qb qc _ => { cls := Value.type "function", data := Data.func { name := Str.ofString "_law_signs", qualname := Str.ofString "_law_signs", params := qa, body := FuncBody.stmts qb, scope := qc, globals := 3, closure := [], defaults := Value.none, kwdefaults := Value.none, pyModule := Value.str (Str.ofString "law_in0190_01") 628, code := Value.ref 297 } }
noncomputable def ob411 (P : Params) : Obj := by
  refine (?f : (qa : Arguments) → (qb : List Stmt) → (qc : Scope) → (qa, qb, qc) = fnP (nthS rwB 38) → Obj) ⟨_, _, _, _, _, _, _⟩ [_, _] ⟨_, _, _, _, _⟩ rfl
  exact fun qa qb qc _ => { cls := Value.none, data := Data.func { name := Str.ofString "_law_shown", qualname := Str.ofString "_law_shown", params := qa, body := FuncBody.stmts qb, scope := qc, globals := 0, closure := [], defaults := Value.none, kwdefaults := Value.none } }
noncomputable def ob412 (_ : Params) : Obj := { cls := Value.type "code", data := Data.fields #[Value.str (Str.ofString "_law_shown") 687, Value.str (Str.ofString "_law_shown") 688, Value.str (Str.ofString "/claim/cut.py") 689, Value.int 191 0, Value.int 1 0, Value.int 0 0, Value.int 0 0, Value.int 3 0, Value.ref 299, Value.bool true, Value.int 273 0, Value.ref 300, Value.none, Value.none, Value.none, Value.ref 301, Value.int 690 0, Value.int 191 0, Value.str (Str.ofString "/claim/cut.py") 691] }
noncomputable def ob413 (P : Params) : Obj := by
  refine (?f : (qa : Arguments) → (qb : List Stmt) → (qc : Scope) → (qa, qb, qc) = fnP (nthS rwB 38) → Obj) ⟨_, _, _, _, _, _, _⟩ [_, _] ⟨_, _, _, _, _⟩ rfl
  exact fun qa qb qc _ => { cls := Value.type "function", data := Data.func { name := Str.ofString "_law_shown", qualname := Str.ofString "_law_shown", params := qa, body := FuncBody.stmts qb, scope := qc, globals := 3, closure := [], defaults := Value.none, kwdefaults := Value.none, pyModule := Value.str (Str.ofString "law_in0190_01") 628, code := Value.ref 302 } }
noncomputable def ob416 (P : Params) : Obj := by
  refine (?f : (qa : Arguments) → (qb : List Stmt) → (qc : Scope) → (qa, qb, qc) = fnP (nthS rwB 39) → Obj) ⟨_, _, _, _, _, _, _⟩ [_, _, _, _, _, _] ⟨_, _, _, _, _⟩ rfl
  exact fun qa qb qc _ => { cls := Value.none, data := Data.func { name := Str.ofString "_law_due", qualname := Str.ofString "_law_due", params := qa, body := FuncBody.stmts qb, scope := qc, globals := 0, closure := [], defaults := Value.none, kwdefaults := Value.none } }
noncomputable def ob417 (_ : Params) : Obj := { cls := Value.type "code", data := Data.fields #[Value.str (Str.ofString "_law_due") 693, Value.str (Str.ofString "_law_due") 694, Value.str (Str.ofString "/claim/cut.py") 695, Value.int 194 0, Value.int 1 0, Value.int 0 0, Value.int 0 0, Value.int 3 0, Value.ref 304, Value.bool true, Value.int 273 0, Value.ref 305, Value.none, Value.none, Value.none, Value.ref 306, Value.int 696 0, Value.int 194 0, Value.str (Str.ofString "/claim/cut.py") 697] }
noncomputable def ob418 (P : Params) : Obj := by
  refine (?f : (qa : Arguments) → (qb : List Stmt) → (qc : Scope) → (qa, qb, qc) = fnP (nthS rwB 39) → Obj) ⟨_, _, _, _, _, _, _⟩ [_, _, _, _, _, _] ⟨_, _, _, _, _⟩ rfl
  exact fun qa qb qc _ => { cls := Value.type "function", data := Data.func { name := Str.ofString "_law_due", qualname := Str.ofString "_law_due", params := qa, body := FuncBody.stmts qb, scope := qc, globals := 3, closure := [], defaults := Value.none, kwdefaults := Value.none, pyModule := Value.str (Str.ofString "law_in0190_01") 628, code := Value.ref 307 } }
noncomputable def ob421 (P : Params) : Obj := by
  refine (?f : (qa : Arguments) → (qb : List Stmt) → (qc : Scope) → (qa, qb, qc) = fnP (nthS rwB 40) → Obj) ⟨_, _, _, _, _, _, _⟩ [_, _, _] ⟨_, _, _, _, _⟩ rfl
  exact fun qa qb qc _ => { cls := Value.none, data := Data.func { name := Str.ofString "law", qualname := Str.ofString "law", params := qa, body := FuncBody.stmts qb, scope := qc, globals := 0, closure := [], defaults := Value.none, kwdefaults := Value.none } }
noncomputable def ob422 (_ : Params) : Obj := { cls := Value.type "code", data := Data.fields #[Value.str (Str.ofString "law") 699, Value.str (Str.ofString "law") 700, Value.str (Str.ofString "/claim/cut.py") 701, Value.int 218 0, Value.int 1 0, Value.int 0 0, Value.int 0 0, Value.int 3 0, Value.ref 309, Value.bool true, Value.int 273 0, Value.ref 310, Value.none, Value.none, Value.none, Value.ref 311, Value.int 702 0, Value.int 218 0, Value.str (Str.ofString "/claim/cut.py") 703] }
noncomputable def ob423 (P : Params) : Obj := by
  refine (?f : (qa : Arguments) → (qb : List Stmt) → (qc : Scope) → (qa, qb, qc) = fnP (nthS rwB 40) → Obj) ⟨_, _, _, _, _, _, _⟩ [_, _, _] ⟨_, _, _, _, _⟩ rfl
  exact fun qa qb qc _ => { cls := Value.type "function", data := Data.func { name := Str.ofString "law", qualname := Str.ofString "law", params := qa, body := FuncBody.stmts qb, scope := qc, globals := 3, closure := [], defaults := Value.none, kwdefaults := Value.none, pyModule := Value.str (Str.ofString "law_in0190_01") 628, code := Value.ref 312 } }
noncomputable def ob129 (P : Params) : Obj := { cls := Value.type "dict", data := Data.dict #[{ hash := PyData.keyHash P (Str.ofString "__name__"), key := Value.str (Str.ofString "__name__") 165, val := Value.str (Str.ofString "cpy313.importlib.metadata._collections") 286 }, { hash := PyData.keyHash P (Str.ofString "__doc__"), key := Value.str (Str.ofString "__doc__") 166, val := Value.none }, { hash := PyData.keyHash P (Str.ofString "__package__"), key := Value.str (Str.ofString "__package__") 167, val := Value.none }, { hash := PyData.keyHash P (Str.ofString "__loader__"), key := Value.str (Str.ofString "__loader__") 168, val := Value.builtin "__main__.__loader__#opaque" }, { hash := PyData.keyHash P (Str.ofString "__spec__"), key := Value.str (Str.ofString "__spec__") 169, val := Value.none }, { hash := PyData.keyHash P (Str.ofString "__annotations__"), key := Value.str (Str.ofString "__annotations__") 170, val := Value.ref 6 }, { hash := PyData.keyHash P (Str.ofString "__builtins__"), key := Value.str (Str.ofString "__builtins__") 171, val := Value.ref 4 }, { hash := PyData.keyHash P (Str.ofString "__file__"), key := Value.str (Str.ofString "__file__") 173, val := Value.str (Str.ofString "/claim/cut.py") 172 }, { hash := PyData.keyHash P (Str.ofString "__cached__"), key := Value.str (Str.ofString "__cached__") 174, val := Value.none }, { hash := PyData.keyHash P (Str.ofString "defaultdict"), key := Value.str (Str.ofString "defaultdict") 272, val := Value.type "collections.defaultdict" }, { hash := PyData.keyHash P (Str.ofString "_wall"), key := Value.str (Str.ofString "_wall") 285, val := Value.ref 39 }, { hash := PyData.keyHash P (Str.ofString "_tuplegetter"), key := Value.str (Str.ofString "_tuplegetter") 344, val := Value.ref 78 }, { hash := PyData.keyHash P (Str.ofString "FreezableDefaultDict"), key := Value.str (Str.ofString "FreezableDefaultDict") 387, val := Value.ref 108 }] 13 }
noncomputable def ob130 (_ : Params) : Obj := { cls := Value.none, data := Data.fields #[Value.int 2 0, Value.int 0 0, Value.ref 38, Value.int 6 0, Value.int 0 0, Value.ref 45, Value.int 24 0, Value.int 0 0, Value.ref 89] }
noncomputable def ob287 (P : Params) : Obj := { cls := Value.type "dict", data := Data.dict #[{ hash := PyData.keyHash P (Str.ofString "__name__"), key := Value.str (Str.ofString "__name__") 165, val := Value.str (Str.ofString "cpy313.stat") 541 }, { hash := PyData.keyHash P (Str.ofString "__doc__"), key := Value.str (Str.ofString "__doc__") 166, val := Value.none }, { hash := PyData.keyHash P (Str.ofString "__package__"), key := Value.str (Str.ofString "__package__") 167, val := Value.none }, { hash := PyData.keyHash P (Str.ofString "__loader__"), key := Value.str (Str.ofString "__loader__") 168, val := Value.builtin "__main__.__loader__#opaque" }, { hash := PyData.keyHash P (Str.ofString "__spec__"), key := Value.str (Str.ofString "__spec__") 169, val := Value.none }, { hash := PyData.keyHash P (Str.ofString "__annotations__"), key := Value.str (Str.ofString "__annotations__") 170, val := Value.ref 6 }, { hash := PyData.keyHash P (Str.ofString "__builtins__"), key := Value.str (Str.ofString "__builtins__") 171, val := Value.ref 4 }, { hash := PyData.keyHash P (Str.ofString "__file__"), key := Value.str (Str.ofString "__file__") 173, val := Value.str (Str.ofString "/claim/cut.py") 172 }, { hash := PyData.keyHash P (Str.ofString "__cached__"), key := Value.str (Str.ofString "__cached__") 174, val := Value.none }, { hash := PyData.keyHash P (Str.ofString "defaultdict"), key := Value.str (Str.ofString "defaultdict") 272, val := Value.type "collections.defaultdict" }, { hash := PyData.keyHash P (Str.ofString "_wall"), key := Value.str (Str.ofString "_wall") 285, val := Value.ref 39 }, { hash := PyData.keyHash P (Str.ofString "_tuplegetter"), key := Value.str (Str.ofString "_tuplegetter") 344, val := Value.ref 78 }, { hash := PyData.keyHash P (Str.ofString "FreezableDefaultDict"), key := Value.str (Str.ofString "FreezableDefaultDict") 387, val := Value.ref 108 }, { hash := PyData.keyHash P (Str.ofString "Pair"), key := Value.str (Str.ofString "Pair") 502, val := Value.ref 203 }] 14 }
noncomputable def ob288 (_ : Params) : Obj := { cls := Value.none, data := Data.fields #[Value.int 2 0, Value.int 0 0, Value.ref 38, Value.int 6 0, Value.int 0 0, Value.ref 45, Value.int 24 0, Value.int 0 0, Value.ref 89, Value.int 44 0, Value.int 0 0, Value.ref 119, Value.int 86 0, Value.int 0 0, Value.ref 189] }
noncomputable def ob487 (P : Params) : Obj := { cls := Value.type "dict", data := Data.dict #[{ hash := PyData.keyHash P (Str.ofString "__name__"), key := Value.str (Str.ofString "__name__") 250, val := Value.str (Str.ofString "_collections") 249 }, { hash := PyData.keyHash P (Str.ofString "__doc__"), key := Value.str (Str.ofString "__doc__") 251, val := Value.builtin "_collections.__doc__:str#opaque" }, { hash := PyData.keyHash P (Str.ofString "__package__"), key := Value.str (Str.ofString "__package__") 253, val := Value.str (Str.ofString "") 252 }, { hash := PyData.keyHash P (Str.ofString "__loader__"), key := Value.str (Str.ofString "__loader__") 254, val := Value.ref 15 }, { hash := PyData.keyHash P (Str.ofString "__spec__"), key := Value.str (Str.ofString "__spec__") 255, val := Value.ref 27 }, { hash := PyData.keyHash P (Str.ofString "_count_elements"), key := Value.str (Str.ofString "_count_elements") 256, val := Value.builtin "_collections._count_elements" }, { hash := PyData.keyHash P (Str.ofString "deque"), key := Value.str (Str.ofString "deque") 257, val := Value.type "collections.deque" }, { hash := PyData.keyHash P (Str.ofString "defaultdict"), key := Value.str (Str.ofString "defaultdict") 258, val := Value.type "collections.defaultdict" }, { hash := PyData.keyHash P (Str.ofString "_deque_iterator"), key := Value.str (Str.ofString "_deque_iterator") 259, val := Value.type "collections._deque_iterator" }, { hash := PyData.keyHash P (Str.ofString "_deque_reverse_iterator"), key := Value.str (Str.ofString "_deque_reverse_iterator") 260, val := Value.type "collections._deque_reverse_iterator" }, { hash := PyData.keyHash P (Str.ofString "_tuplegetter"), key := Value.str (Str.ofString "_tuplegetter") 261, val := Value.type "collections._tuplegetter" }, { hash := PyData.keyHash P (Str.ofString "OrderedDict"), key := Value.str (Str.ofString "OrderedDict") 262, val := Value.type "collections.OrderedDict" }] 12 }
noncomputable def H0 (P : Params) : Heap := { objs := { toList := [ob41 P, ob42 P, ob43 P, ob44 P, ob45 P, ob46 P, ob47 P, ob48 P, ob49 P, ob50 P, ob51 P, ob52 P, ob53 P, ob54 P, ob55 P, ob56 P, ob48 P, ob58 P, ob59 P, ob60 P, ob61 P, ob62 P, ob63 P, ob64 P, ob65 P, ob66 P, ob67 P, ob68 P, ob69 P] } }
noncomputable def H1 (P : Params) : Heap := { objs := { toList := ob41 P :: ob42 P :: ob128 P :: ob362 P :: ob45 P :: ob46 P :: ob47 P :: ob48 P :: ob49 P :: ob50 P :: ob51 P :: ob52 P :: ob53 P :: ob54 P :: ob55 P :: ob56 P :: ob48 P :: ob58 P :: ob59 P :: ob60 P :: ob61 P :: ob62 P :: ob63 P :: ob64 P :: ob65 P :: ob66 P :: ob67 P :: ob68 P :: ob69 P :: ob48 P :: ob363 P :: ob72 P :: ob73 P :: ob48 P :: ob49 P :: ob80 P :: ob48 P :: ob82 P :: ob83 P :: ob84 P :: ob48 P :: ob86 P :: ob87 P :: ob48 P :: ob89 P :: ob90 P :: ob91 P :: ob48 P :: ob49 P :: ob94 P :: ob48 P :: ob96 P :: ob97 P :: ob98 P :: ob99 P :: ob48 P :: ob49 P :: ob102 P :: ob48 P :: ob104 P :: ob105 P :: ob106 P :: ob48 P :: ob49 P :: ob109 P :: ob48 P :: ob111 P :: ob112 P :: ob113 P :: ob48 P :: ob49 P :: ob116 P :: ob48 P :: ob118 P :: ob119 P :: ob120 P :: ob121 P :: ob122 P :: ob123 P :: ob124 P :: ob125 P :: ob126 P :: ob127 P :: ob131 P :: ob86 P :: ob133 P :: ob134 P :: ob48 P :: ob136 P :: ob137 P :: ob138 P :: ob139 P :: ob140 P :: ob49 P :: ob142 P :: ob48 P :: ob144 P :: ob145 P :: ob146 P :: ob48 P :: ob49 P :: ob149 P :: ob150 P :: ob151 P :: ob152 P :: ob153 P :: ob154 P :: ob155 P :: ob156 P :: ob157 P :: ob158 P :: ob159 P :: ob160 P :: ob163 P :: ob86 P :: ob165 P :: ob166 P :: ob48 P :: ob168 P :: ob169 P :: ob170 P :: ob48 P :: ob172 P :: ob47 P :: ob48 P :: ob49 P :: ob176 P :: ob48 P :: ob178 P :: ob179 P :: ob180 P :: ob48 P :: ob49 P :: ob183 P :: ob48 P :: ob185 P :: ob186 P :: ob187 P :: ob188 P :: ob189 P :: ob47 P :: ob191 P :: ob192 P :: ob49 P :: ob194 P :: ob48 P :: ob196 P :: ob197 P :: ob198 P :: ob48 P :: ob49 P :: ob201 P :: ob48 P :: ob203 P :: ob204 P :: ob205 P :: ob48 P :: ob49 P :: ob208 P :: ob48 P :: ob210 P :: ob211 P :: ob212 P :: ob48 P :: ob49 P :: ob215 P :: ob48 P :: ob217 P :: ob218 P :: ob219 P :: ob220 P :: ob221 P :: ob222 P :: ob223 P :: ob224 P :: ob225 P :: ob226 P :: ob48 P :: ob61 P :: ob229 P :: ob289 P :: ob231 P :: ob232 P :: ob233 P :: ob290 P :: ob86 P :: ob292 P :: ob48 P :: ob294 P :: ob295 P :: ob296 P :: ob48 P :: ob49 P :: ob299 P :: ob48 P :: ob301 P :: ob302 P :: ob303 P :: ob304 P :: ob305 P :: ob47 P :: ob48 P :: ob308 P :: ob309 P :: ob310 P :: ob311 P :: ob312 P :: ob48 P :: ob49 P :: ob317 P :: ob48 P :: ob319 P :: ob320 P :: ob321 P :: ob322 P :: ob323 P :: ob324 P :: ob325 P :: ob326 P :: ob327 P :: ob328 P :: ob329 P :: ob330 P :: ob331 P :: ob332 P :: ob333 P :: ob334 P :: ob335 P :: ob336 P :: ob337 P :: ob338 P :: ob339 P :: ob340 P :: ob341 P :: ob342 P :: ob343 P :: ob344 P :: ob345 P :: ob346 P :: ob347 P :: ob348 P :: ob349 P :: ob350 P :: ob351 P :: ob352 P :: ob353 P :: ob354 P :: ob48 P :: ob49 P :: ob357 P :: ob48 P :: ob359 P :: ob360 P :: ob361 P :: ob48 P :: ob49 P :: ob366 P :: ob367 P :: ob368 P :: ob48 P :: ob49 P :: ob371 P :: ob48 P :: ob373 P :: ob374 P :: ob375 P :: ob48 P :: ob49 P :: ob378 P :: ob48 P :: ob380 P :: ob381 P :: ob382 P :: ob48 P :: ob49 P :: ob385 P :: ob48 P :: ob387 P :: ob388 P :: ob389 P :: ob48 P :: ob49 P :: ob392 P :: ob48 P :: ob394 P :: ob395 P :: ob396 P :: ob48 P :: ob49 P :: ob399 P :: ob400 P :: ob401 P :: ob48 P :: ob49 P :: ob404 P :: ob48 P :: ob406 P :: ob407 P :: ob408 P :: ob48 P :: ob49 P :: ob411 P :: ob412 P :: ob413 P :: ob48 P :: ob49 P :: ob416 P :: ob417 P :: ob418 P :: ob48 P :: ob49 P :: ob421 P :: ob422 P :: ob423 P :: [] } }
noncomputable def H1T (P : Params) : BT := .node (ob41 P) (.node (ob42 P) (.node (ob362 P) (.node (ob48 P) (.node (ob56 P) (.node (ob72 P) (.node (ob49 P) (.node (ob48 P) (.node (ob49 P) .nil .nil) .nil) (.node (ob48 P) .nil .nil)) (.node (ob48 P) (.node (ob48 P) (.node (ob48 P) .nil .nil) .nil) (.node (ob331 P) .nil .nil))) (.node (ob48 P) (.node (ob124 P) (.node (ob49 P) (.node (ob381 P) .nil .nil) .nil) (.node (ob48 P) .nil .nil)) (.node (ob159 P) (.node (ob225 P) (.node (ob413 P) .nil .nil) .nil) (.node (ob347 P) .nil .nil)))) (.node (ob64 P) (.node (ob84 P) (.node (ob116 P) (.node (ob185 P) (.node (ob373 P) .nil .nil) .nil) (.node (ob305 P) .nil .nil)) (.node (ob151 P) (.node (ob217 P) (.node (ob48 P) .nil .nil) .nil) (.node (ob339 P) .nil .nil))) (.node (ob48 P) (.node (ob48 P) (.node (ob201 P) (.node (ob389 P) .nil .nil) .nil) (.node (ob323 P) .nil .nil)) (.node (ob169 P) (.node (ob233 P) (.node (ob421 P) .nil .nil) .nil) (.node (ob48 P) .nil .nil))))) (.node (ob52 P) (.node (ob60 P) (.node (ob80 P) (.node (ob112 P) (.node (ob48 P) (.node (ob48 P) .nil .nil) .nil) (.node (ob301 P) .nil .nil)) (.node (ob48 P) (.node (ob48 P) (.node (ob401 P) .nil .nil) .nil) (.node (ob335 P) .nil .nil))) (.node (ob96 P) (.node (ob131 P) (.node (ob197 P) (.node (ob385 P) .nil .nil) .nil) (.node (ob319 P) .nil .nil)) (.node (ob165 P) (.node (ob229 P) (.node (ob417 P) .nil .nil) .nil) (.node (ob351 P) .nil .nil)))) (.node (ob68 P) (.node (ob48 P) (.node (ob120 P) (.node (ob189 P) (.node (ob49 P) .nil .nil) .nil) (.node (ob309 P) .nil .nil)) (.node (ob155 P) (.node (ob221 P) (.node (ob48 P) .nil .nil) .nil) (.node (ob343 P) .nil .nil))) (.node (ob104 P) (.node (ob139 P) (.node (ob205 P) (.node (ob48 P) .nil .nil) .nil) (.node (ob327 P) .nil .nil)) (.node (ob47 P) (.node (ob48 P) .nil .nil) (.node (ob359 P) .nil .nil)))))) (.node (ob46 P) (.node (ob50 P) (.node (ob58 P) (.node (ob48 P) (.node (ob48 P) (.node (ob179 P) (.node (ob367 P) .nil .nil) .nil) (.node (ob299 P) .nil .nil)) (.node (ob145 P) (.node (ob211 P) (.node (ob399 P) .nil .nil) .nil) (.node (ob333 P) .nil .nil))) (.node (ob94 P) (.node (ob126 P) (.node (ob48 P) (.node (ob48 P) .nil .nil) .nil) (.node (ob317 P) .nil .nil)) (.node (ob163 P) (.node (ob48 P) (.node (ob49 P) .nil .nil) .nil) (.node (ob349 P) .nil .nil)))) (.node (ob66 P) (.node (ob86 P) (.node (ob118 P) (.node (ob187 P) (.node (ob375 P) .nil .nil) .nil) (.node (ob48 P) .nil .nil)) (.node (ob153 P) (.node (ob219 P) (.node (ob407 P) .nil .nil) .nil) (.node (ob341 P) .nil .nil))) (.node (ob102 P) (.node (ob137 P) (.node (ob203 P) (.node (ob49 P) .nil .nil) .nil) (.node (ob325 P) .nil .nil)) (.node (ob48 P) (.node (ob86 P) (.node (ob423 P) .nil .nil) .nil) (.node (ob357 P) .nil .nil))))) (.node (ob54 P) (.node (ob62 P) (.node (ob82 P) (.node (ob48 P) (.node (ob183 P) (.node (ob371 P) .nil .nil) .nil) (.node (ob303 P) .nil .nil)) (.node (ob149 P) (.node (ob215 P) (.node (ob49 P) .nil .nil) .nil) (.node (ob337 P) .nil .nil))) (.node (ob98 P) (.node (ob133 P) (.node (ob48 P) (.node (ob387 P) .nil .nil) .nil) (.node (ob321 P) .nil .nil)) (.node (ob48 P) (.node (ob231 P) (.node (ob48 P) .nil .nil) .nil) (.node (ob353 P) .nil .nil)))) (.node (ob48 P) (.node (ob90 P) (.node (ob122 P) (.node (ob191 P) (.node (ob48 P) .nil .nil) .nil) (.node (ob311 P) .nil .nil)) (.node (ob157 P) (.node (ob223 P) (.node (ob411 P) .nil .nil) .nil) (.node (ob345 P) .nil .nil))) (.node (ob106 P) (.node (ob49 P) (.node (ob49 P) (.node (ob395 P) .nil .nil) .nil) (.node (ob329 P) .nil .nil)) (.node (ob49 P) (.node (ob295 P) .nil .nil) (.node (ob361 P) .nil .nil))))))) (.node (ob128 P) (.node (ob45 P) (.node (ob49 P) (.node (ob48 P) (.node (ob73 P) (.node (ob109 P) (.node (ob178 P) (.node (ob366 P) .nil .nil) .nil) (.node (ob49 P) .nil .nil)) (.node (ob144 P) (.node (ob210 P) (.node (ob49 P) .nil .nil) .nil) (.node (ob332 P) .nil .nil))) (.node (ob49 P) (.node (ob125 P) (.node (ob194 P) (.node (ob382 P) .nil .nil) .nil) (.node (ob49 P) .nil .nil)) (.node (ob160 P) (.node (ob226 P) (.node (ob48 P) .nil .nil) .nil) (.node (ob348 P) .nil .nil)))) (.node (ob65 P) (.node (ob48 P) (.node (ob48 P) (.node (ob186 P) (.node (ob374 P) .nil .nil) .nil) (.node (ob47 P) .nil .nil)) (.node (ob152 P) (.node (ob218 P) (.node (ob406 P) .nil .nil) .nil) (.node (ob340 P) .nil .nil))) (.node (ob49 P) (.node (ob136 P) (.node (ob48 P) (.node (ob48 P) .nil .nil) .nil) (.node (ob324 P) .nil .nil)) (.node (ob170 P) (.node (ob290 P) (.node (ob422 P) .nil .nil) .nil) (.node (ob49 P) .nil .nil))))) (.node (ob53 P) (.node (ob61 P) (.node (ob48 P) (.node (ob113 P) (.node (ob49 P) (.node (ob49 P) .nil .nil) .nil) (.node (ob302 P) .nil .nil)) (.node (ob49 P) (.node (ob49 P) (.node (ob48 P) .nil .nil) .nil) (.node (ob336 P) .nil .nil))) (.node (ob97 P) (.node (ob86 P) (.node (ob198 P) (.node (ob48 P) .nil .nil) .nil) (.node (ob320 P) .nil .nil)) (.node (ob166 P) (.node (ob289 P) (.node (ob418 P) .nil .nil) .nil) (.node (ob352 P) .nil .nil)))) (.node (ob69 P) (.node (ob89 P) (.node (ob121 P) (.node (ob47 P) (.node (ob378 P) .nil .nil) .nil) (.node (ob310 P) .nil .nil)) (.node (ob156 P) (.node (ob222 P) (.node (ob49 P) .nil .nil) .nil) (.node (ob344 P) .nil .nil))) (.node (ob105 P) (.node (ob140 P) (.node (ob48 P) (.node (ob394 P) .nil .nil) .nil) (.node (ob328 P) .nil .nil)) (.node (ob48 P) (.node (ob294 P) .nil .nil) (.node (ob360 P) .nil .nil)))))) (.node (ob47 P) (.node (ob51 P) (.node (ob59 P) (.node (ob49 P) (.node (ob111 P) (.node (ob180 P) (.node (ob368 P) .nil .nil) .nil) (.node (ob48 P) .nil .nil)) (.node (ob146 P) (.node (ob212 P) (.node (ob400 P) .nil .nil) .nil) (.node (ob334 P) .nil .nil))) (.node (ob48 P) (.node (ob127 P) (.node (ob196 P) (.node (ob49 P) .nil .nil) .nil) (.node (ob48 P) .nil .nil)) (.node (ob86 P) (.node (ob61 P) (.node (ob416 P) .nil .nil) .nil) (.node (ob350 P) .nil .nil)))) (.node (ob67 P) (.node (ob87 P) (.node (ob119 P) (.node (ob188 P) (.node (ob48 P) .nil .nil) .nil) (.node (ob308 P) .nil .nil)) (.node (ob154 P) (.node (ob220 P) (.node (ob408 P) .nil .nil) .nil) (.node (ob342 P) .nil .nil))) (.node (ob48 P) (.node (ob138 P) (.node (ob204 P) (.node (ob392 P) .nil .nil) .nil) (.node (ob326 P) .nil .nil)) (.node (ob172 P) (.node (ob292 P) .nil .nil) (.node (ob48 P) .nil .nil))))) (.node (ob55 P) (.node (ob63 P) (.node (ob83 P) (.node (ob49 P) (.node (ob48 P) (.node (ob48 P) .nil .nil) .nil) (.node (ob304 P) .nil .nil)) (.node (ob150 P) (.node (ob48 P) (.node (ob404 P) .nil .nil) .nil) (.node (ob338 P) .nil .nil))) (.node (ob99 P) (.node (ob134 P) (.node (ob49 P) (.node (ob388 P) .nil .nil) .nil) (.node (ob322 P) .nil .nil)) (.node (ob168 P) (.node (ob232 P) (.node (ob49 P) .nil .nil) .nil) (.node (ob354 P) .nil .nil)))) (.node (ob363 P) (.node (ob91 P) (.node (ob123 P) (.node (ob192 P) (.node (ob380 P) .nil .nil) .nil) (.node (ob312 P) .nil .nil)) (.node (ob158 P) (.node (ob224 P) (.node (ob412 P) .nil .nil) .nil) (.node (ob346 P) .nil .nil))) (.node (ob48 P) (.node (ob142 P) (.node (ob208 P) (.node (ob396 P) .nil .nil) .nil) (.node (ob330 P) .nil .nil)) (.node (ob176 P) (.node (ob296 P) .nil .nil) (.node (ob48 P) .nil .nil)))))))
noncomputable def Hm33 (P : Params) : Heap := { objs := { toList := ob41 P :: ob42 P :: ob43 P :: ob44 P :: ob45 P :: ob46 P :: ob47 P :: ob48 P :: ob49 P :: ob50 P :: ob51 P :: ob52 P :: ob53 P :: ob54 P :: ob55 P :: ob56 P :: ob48 P :: ob58 P :: ob59 P :: ob60 P :: ob61 P :: ob62 P :: ob63 P :: ob64 P :: ob65 P :: ob66 P :: ob67 P :: ob68 P :: ob69 P :: ob48 P :: ob49 P :: ob72 P :: ob73 P :: [] } }
noncomputable def Hm33T (P : Params) : BT := .node (ob41 P) (.node (ob42 P) (.node (ob44 P) (.node (ob48 P) (.node (ob56 P) (.node (ob72 P) .nil .nil) .nil) (.node (ob64 P) .nil .nil)) (.node (ob52 P) (.node (ob60 P) .nil .nil) (.node (ob68 P) .nil .nil))) (.node (ob46 P) (.node (ob50 P) (.node (ob58 P) .nil .nil) (.node (ob66 P) .nil .nil)) (.node (ob54 P) (.node (ob62 P) .nil .nil) (.node (ob48 P) .nil .nil)))) (.node (ob43 P) (.node (ob45 P) (.node (ob49 P) (.node (ob48 P) (.node (ob73 P) .nil .nil) .nil) (.node (ob65 P) .nil .nil)) (.node (ob53 P) (.node (ob61 P) .nil .nil) (.node (ob69 P) .nil .nil))) (.node (ob47 P) (.node (ob51 P) (.node (ob59 P) .nil .nil) (.node (ob67 P) .nil .nil)) (.node (ob55 P) (.node (ob63 P) .nil .nil) (.node (ob49 P) .nil .nil))))
noncomputable def Hm113T (P : Params) : BT := .node (ob41 P) (.node (ob42 P) (.node (ob129 P) (.node (ob48 P) (.node (ob56 P) (.node (ob72 P) (.node (ob49 P) .nil .nil) (.node (ob48 P) .nil .nil)) (.node (ob48 P) (.node (ob124 P) .nil .nil) (.node (ob159 P) .nil .nil))) (.node (ob64 P) (.node (ob84 P) (.node (ob116 P) .nil .nil) (.node (ob151 P) .nil .nil)) (.node (ob48 P) (.node (ob48 P) .nil .nil) .nil))) (.node (ob52 P) (.node (ob60 P) (.node (ob80 P) (.node (ob112 P) .nil .nil) (.node (ob48 P) .nil .nil)) (.node (ob96 P) (.node (ob131 P) .nil .nil) .nil)) (.node (ob68 P) (.node (ob48 P) (.node (ob120 P) .nil .nil) (.node (ob155 P) .nil .nil)) (.node (ob104 P) (.node (ob139 P) .nil .nil) .nil)))) (.node (ob46 P) (.node (ob50 P) (.node (ob58 P) (.node (ob48 P) (.node (ob48 P) .nil .nil) (.node (ob145 P) .nil .nil)) (.node (ob94 P) (.node (ob126 P) .nil .nil) .nil)) (.node (ob66 P) (.node (ob86 P) (.node (ob118 P) .nil .nil) (.node (ob153 P) .nil .nil)) (.node (ob102 P) (.node (ob137 P) .nil .nil) .nil))) (.node (ob54 P) (.node (ob62 P) (.node (ob82 P) (.node (ob48 P) .nil .nil) (.node (ob149 P) .nil .nil)) (.node (ob98 P) (.node (ob133 P) .nil .nil) .nil)) (.node (ob48 P) (.node (ob90 P) (.node (ob122 P) .nil .nil) (.node (ob157 P) .nil .nil)) (.node (ob106 P) (.node (ob49 P) .nil .nil) .nil))))) (.node (ob128 P) (.node (ob45 P) (.node (ob49 P) (.node (ob48 P) (.node (ob73 P) (.node (ob109 P) .nil .nil) (.node (ob144 P) .nil .nil)) (.node (ob49 P) (.node (ob125 P) .nil .nil) (.node (ob160 P) .nil .nil))) (.node (ob65 P) (.node (ob48 P) (.node (ob48 P) .nil .nil) (.node (ob152 P) .nil .nil)) (.node (ob49 P) (.node (ob136 P) .nil .nil) .nil))) (.node (ob53 P) (.node (ob61 P) (.node (ob48 P) (.node (ob113 P) .nil .nil) (.node (ob49 P) .nil .nil)) (.node (ob97 P) (.node (ob86 P) .nil .nil) .nil)) (.node (ob69 P) (.node (ob89 P) (.node (ob121 P) .nil .nil) (.node (ob156 P) .nil .nil)) (.node (ob105 P) (.node (ob140 P) .nil .nil) .nil)))) (.node (ob47 P) (.node (ob51 P) (.node (ob59 P) (.node (ob49 P) (.node (ob111 P) .nil .nil) (.node (ob146 P) .nil .nil)) (.node (ob48 P) (.node (ob127 P) .nil .nil) .nil)) (.node (ob67 P) (.node (ob87 P) (.node (ob119 P) .nil .nil) (.node (ob154 P) .nil .nil)) (.node (ob48 P) (.node (ob138 P) .nil .nil) .nil))) (.node (ob55 P) (.node (ob63 P) (.node (ob83 P) (.node (ob49 P) .nil .nil) (.node (ob150 P) .nil .nil)) (.node (ob99 P) (.node (ob134 P) .nil .nil) .nil)) (.node (ob130 P) (.node (ob91 P) (.node (ob123 P) .nil .nil) (.node (ob158 P) .nil .nil)) (.node (ob48 P) (.node (ob142 P) .nil .nil) .nil)))))
noncomputable def Hm207T (P : Params) : BT := .node (ob41 P) (.node (ob42 P) (.node (ob287 P) (.node (ob48 P) (.node (ob56 P) (.node (ob72 P) (.node (ob49 P) (.node (ob48 P) .nil .nil) (.node (ob48 P) .nil .nil)) (.node (ob48 P) (.node (ob48 P) .nil .nil) .nil)) (.node (ob48 P) (.node (ob124 P) (.node (ob49 P) .nil .nil) .nil) (.node (ob159 P) (.node (ob225 P) .nil .nil) .nil))) (.node (ob64 P) (.node (ob84 P) (.node (ob116 P) (.node (ob185 P) .nil .nil) (.node (ob305 P) .nil .nil)) (.node (ob151 P) (.node (ob217 P) .nil .nil) .nil)) (.node (ob48 P) (.node (ob48 P) (.node (ob201 P) .nil .nil) .nil) (.node (ob169 P) (.node (ob233 P) .nil .nil) .nil)))) (.node (ob52 P) (.node (ob60 P) (.node (ob80 P) (.node (ob112 P) (.node (ob48 P) .nil .nil) (.node (ob301 P) .nil .nil)) (.node (ob48 P) (.node (ob48 P) .nil .nil) .nil)) (.node (ob96 P) (.node (ob131 P) (.node (ob197 P) .nil .nil) .nil) (.node (ob165 P) (.node (ob229 P) .nil .nil) .nil))) (.node (ob68 P) (.node (ob48 P) (.node (ob120 P) (.node (ob189 P) .nil .nil) (.node (ob309 P) .nil .nil)) (.node (ob155 P) (.node (ob221 P) .nil .nil) .nil)) (.node (ob104 P) (.node (ob139 P) (.node (ob205 P) .nil .nil) .nil) (.node (ob47 P) (.node (ob48 P) .nil .nil) .nil))))) (.node (ob46 P) (.node (ob50 P) (.node (ob58 P) (.node (ob48 P) (.node (ob48 P) (.node (ob179 P) .nil .nil) (.node (ob299 P) .nil .nil)) (.node (ob145 P) (.node (ob211 P) .nil .nil) .nil)) (.node (ob94 P) (.node (ob126 P) (.node (ob48 P) .nil .nil) .nil) (.node (ob163 P) (.node (ob48 P) .nil .nil) .nil))) (.node (ob66 P) (.node (ob86 P) (.node (ob118 P) (.node (ob187 P) .nil .nil) (.node (ob48 P) .nil .nil)) (.node (ob153 P) (.node (ob219 P) .nil .nil) .nil)) (.node (ob102 P) (.node (ob137 P) (.node (ob203 P) .nil .nil) .nil) (.node (ob48 P) (.node (ob86 P) .nil .nil) .nil)))) (.node (ob54 P) (.node (ob62 P) (.node (ob82 P) (.node (ob48 P) (.node (ob183 P) .nil .nil) (.node (ob303 P) .nil .nil)) (.node (ob149 P) (.node (ob215 P) .nil .nil) .nil)) (.node (ob98 P) (.node (ob133 P) (.node (ob48 P) .nil .nil) .nil) (.node (ob48 P) (.node (ob231 P) .nil .nil) .nil))) (.node (ob48 P) (.node (ob90 P) (.node (ob122 P) (.node (ob191 P) .nil .nil) (.node (ob311 P) .nil .nil)) (.node (ob157 P) (.node (ob223 P) .nil .nil) .nil)) (.node (ob106 P) (.node (ob49 P) (.node (ob49 P) .nil .nil) .nil) (.node (ob49 P) (.node (ob295 P) .nil .nil) .nil)))))) (.node (ob128 P) (.node (ob45 P) (.node (ob49 P) (.node (ob48 P) (.node (ob73 P) (.node (ob109 P) (.node (ob178 P) .nil .nil) (.node (ob49 P) .nil .nil)) (.node (ob144 P) (.node (ob210 P) .nil .nil) .nil)) (.node (ob49 P) (.node (ob125 P) (.node (ob194 P) .nil .nil) .nil) (.node (ob160 P) (.node (ob226 P) .nil .nil) .nil))) (.node (ob65 P) (.node (ob48 P) (.node (ob48 P) (.node (ob186 P) .nil .nil) (.node (ob47 P) .nil .nil)) (.node (ob152 P) (.node (ob218 P) .nil .nil) .nil)) (.node (ob49 P) (.node (ob136 P) (.node (ob48 P) .nil .nil) .nil) (.node (ob170 P) (.node (ob290 P) .nil .nil) .nil)))) (.node (ob53 P) (.node (ob61 P) (.node (ob48 P) (.node (ob113 P) (.node (ob49 P) .nil .nil) (.node (ob302 P) .nil .nil)) (.node (ob49 P) (.node (ob49 P) .nil .nil) .nil)) (.node (ob97 P) (.node (ob86 P) (.node (ob198 P) .nil .nil) .nil) (.node (ob166 P) (.node (ob289 P) .nil .nil) .nil))) (.node (ob69 P) (.node (ob89 P) (.node (ob121 P) (.node (ob47 P) .nil .nil) (.node (ob310 P) .nil .nil)) (.node (ob156 P) (.node (ob222 P) .nil .nil) .nil)) (.node (ob105 P) (.node (ob140 P) (.node (ob48 P) .nil .nil) .nil) (.node (ob48 P) (.node (ob294 P) .nil .nil) .nil))))) (.node (ob47 P) (.node (ob51 P) (.node (ob59 P) (.node (ob49 P) (.node (ob111 P) (.node (ob180 P) .nil .nil) (.node (ob48 P) .nil .nil)) (.node (ob146 P) (.node (ob212 P) .nil .nil) .nil)) (.node (ob48 P) (.node (ob127 P) (.node (ob196 P) .nil .nil) .nil) (.node (ob86 P) (.node (ob61 P) .nil .nil) .nil))) (.node (ob67 P) (.node (ob87 P) (.node (ob119 P) (.node (ob188 P) .nil .nil) (.node (ob308 P) .nil .nil)) (.node (ob154 P) (.node (ob220 P) .nil .nil) .nil)) (.node (ob48 P) (.node (ob138 P) (.node (ob204 P) .nil .nil) .nil) (.node (ob172 P) (.node (ob292 P) .nil .nil) .nil)))) (.node (ob55 P) (.node (ob63 P) (.node (ob83 P) (.node (ob49 P) (.node (ob48 P) .nil .nil) (.node (ob304 P) .nil .nil)) (.node (ob150 P) (.node (ob48 P) .nil .nil) .nil)) (.node (ob99 P) (.node (ob134 P) (.node (ob49 P) .nil .nil) .nil) (.node (ob168 P) (.node (ob232 P) .nil .nil) .nil))) (.node (ob288 P) (.node (ob91 P) (.node (ob123 P) (.node (ob192 P) .nil .nil) (.node (ob312 P) .nil .nil)) (.node (ob158 P) (.node (ob224 P) .nil .nil) .nil)) (.node (ob48 P) (.node (ob142 P) (.node (ob208 P) .nil .nil) .nil) (.node (ob176 P) (.node (ob296 P) .nil .nil) .nil))))))
noncomputable def HE (P : Params) : Heap := { objs := { toList := ob41 P :: ob42 P :: ob43 P :: ob44 P :: ob45 P :: ob46 P :: ob47 P :: ob48 P :: ob49 P :: ob50 P :: ob51 P :: ob52 P :: ob487 P :: ob54 P :: ob55 P :: ob56 P :: ob48 P :: ob58 P :: ob59 P :: ob60 P :: ob61 P :: ob62 P :: ob63 P :: ob64 P :: ob65 P :: ob66 P :: ob67 P :: ob68 P :: ob69 P :: [] } }
noncomputable def hdK (P : Params) : Frag := (nat_lit 2, ob128 P) :: (nat_lit 3, ob362 P) :: (nat_lit 33, ob48 P) :: (nat_lit 35, ob80 P) :: (nat_lit 36, ob48 P) :: (nat_lit 38, ob83 P) :: (nat_lit 39, ob84 P) :: (nat_lit 47, ob48 P) :: (nat_lit 49, ob94 P) :: (nat_lit 50, ob48 P) :: (nat_lit 52, ob97 P) :: (nat_lit 53, ob98 P) :: (nat_lit 54, ob99 P) :: (nat_lit 55, ob48 P) :: (nat_lit 57, ob102 P) :: (nat_lit 58, ob48 P) :: (nat_lit 60, ob105 P) :: (nat_lit 61, ob106 P) :: (nat_lit 62, ob48 P) :: (nat_lit 64, ob109 P) :: (nat_lit 65, ob48 P) :: (nat_lit 67, ob112 P) :: (nat_lit 68, ob113 P) :: (nat_lit 69, ob48 P) :: (nat_lit 71, ob116 P) :: (nat_lit 72, ob48 P) :: (nat_lit 74, ob119 P) :: (nat_lit 75, ob120 P) :: (nat_lit 76, ob121 P) :: (nat_lit 77, ob122 P) :: (nat_lit 78, ob123 P) :: (nat_lit 79, ob124 P) :: (nat_lit 80, ob125 P) :: (nat_lit 83, ob131 P) :: (nat_lit 86, ob134 P) :: (nat_lit 91, ob139 P) :: (nat_lit 92, ob140 P) :: (nat_lit 94, ob142 P) :: (nat_lit 95, ob48 P) :: (nat_lit 97, ob145 P) :: (nat_lit 98, ob146 P) :: (nat_lit 99, ob48 P) :: (nat_lit 101, ob149 P) :: (nat_lit 102, ob150 P) :: (nat_lit 104, ob152 P) :: (nat_lit 105, ob153 P) :: (nat_lit 106, ob154 P) :: (nat_lit 107, ob155 P) :: (nat_lit 108, ob156 P) :: (nat_lit 109, ob157 P) :: (nat_lit 110, ob158 P) :: (nat_lit 113, ob163 P) :: (nat_lit 116, ob166 P) :: (nat_lit 121, ob48 P) :: (nat_lit 122, ob172 P) :: (nat_lit 123, ob47 P) :: (nat_lit 124, ob48 P) :: (nat_lit 126, ob176 P) :: (nat_lit 127, ob48 P) :: (nat_lit 129, ob179 P) :: (nat_lit 130, ob180 P) :: (nat_lit 131, ob48 P) :: (nat_lit 133, ob183 P) :: (nat_lit 134, ob48 P) :: (nat_lit 136, ob186 P) :: (nat_lit 137, ob187 P) :: (nat_lit 138, ob188 P) :: (nat_lit 139, ob189 P) :: (nat_lit 140, ob47 P) :: (nat_lit 141, ob191 P) :: (nat_lit 142, ob192 P) :: (nat_lit 144, ob194 P) :: (nat_lit 145, ob48 P) :: (nat_lit 147, ob197 P) :: (nat_lit 148, ob198 P) :: (nat_lit 149, ob48 P) :: (nat_lit 151, ob201 P) :: (nat_lit 152, ob48 P) :: (nat_lit 154, ob204 P) :: (nat_lit 155, ob205 P) :: (nat_lit 156, ob48 P) :: (nat_lit 158, ob208 P) :: (nat_lit 159, ob48 P) :: (nat_lit 161, ob211 P) :: (nat_lit 162, ob212 P) :: (nat_lit 163, ob48 P) :: (nat_lit 165, ob215 P) :: (nat_lit 166, ob48 P) :: (nat_lit 168, ob218 P) :: (nat_lit 169, ob219 P) :: (nat_lit 170, ob220 P) :: (nat_lit 171, ob221 P) :: (nat_lit 172, ob222 P) :: (nat_lit 174, ob224 P) :: (nat_lit 175, ob225 P) :: (nat_lit 177, ob48 P) :: (nat_lit 179, ob229 P) :: (nat_lit 180, ob289 P) :: (nat_lit 181, ob231 P) :: (nat_lit 184, ob290 P) :: (nat_lit 191, ob48 P) :: (nat_lit 193, ob299 P) :: (nat_lit 194, ob48 P) :: (nat_lit 196, ob302 P) :: (nat_lit 197, ob303 P) :: (nat_lit 198, ob304 P) :: (nat_lit 199, ob305 P) :: (nat_lit 200, ob47 P) :: (nat_lit 201, ob48 P) :: (nat_lit 202, ob308 P) :: (nat_lit 203, ob309 P) :: (nat_lit 204, ob310 P) :: (nat_lit 207, ob48 P) :: (nat_lit 209, ob317 P) :: (nat_lit 210, ob48 P) :: (nat_lit 212, ob320 P) :: (nat_lit 213, ob321 P) :: (nat_lit 214, ob322 P) :: (nat_lit 215, ob323 P) :: (nat_lit 216, ob324 P) :: (nat_lit 217, ob325 P) :: (nat_lit 218, ob326 P) :: (nat_lit 219, ob327 P) :: (nat_lit 220, ob328 P) :: (nat_lit 221, ob329 P) :: (nat_lit 222, ob330 P) :: (nat_lit 223, ob331 P) :: (nat_lit 224, ob332 P) :: (nat_lit 225, ob333 P) :: (nat_lit 226, ob334 P) :: (nat_lit 227, ob335 P) :: (nat_lit 228, ob336 P) :: (nat_lit 229, ob337 P) :: (nat_lit 230, ob338 P) :: (nat_lit 231, ob339 P) :: (nat_lit 232, ob340 P) :: (nat_lit 233, ob341 P) :: (nat_lit 234, ob342 P) :: (nat_lit 235, ob343 P) :: (nat_lit 236, ob344 P) :: (nat_lit 237, ob345 P) :: (nat_lit 238, ob346 P) :: (nat_lit 239, ob347 P) :: (nat_lit 240, ob348 P) :: (nat_lit 241, ob349 P) :: (nat_lit 242, ob350 P) :: (nat_lit 243, ob351 P) :: (nat_lit 244, ob352 P) :: (nat_lit 245, ob353 P) :: (nat_lit 246, ob354 P) :: (nat_lit 247, ob48 P) :: (nat_lit 249, ob357 P) :: (nat_lit 250, ob48 P) :: (nat_lit 252, ob360 P) :: (nat_lit 253, ob361 P) :: (nat_lit 254, ob48 P) :: (nat_lit 257, ob367 P) :: (nat_lit 258, ob368 P) :: (nat_lit 259, ob48 P) :: (nat_lit 261, ob371 P) :: (nat_lit 262, ob48 P) :: (nat_lit 264, ob374 P) :: (nat_lit 265, ob375 P) :: (nat_lit 266, ob48 P) :: (nat_lit 268, ob378 P) :: (nat_lit 269, ob48 P) :: (nat_lit 271, ob381 P) :: (nat_lit 272, ob382 P) :: (nat_lit 273, ob48 P) :: (nat_lit 275, ob385 P) :: (nat_lit 276, ob48 P) :: (nat_lit 278, ob388 P) :: (nat_lit 279, ob389 P) :: (nat_lit 280, ob48 P) :: (nat_lit 282, ob392 P) :: (nat_lit 283, ob48 P) :: (nat_lit 285, ob395 P) :: (nat_lit 286, ob396 P) :: (nat_lit 287, ob48 P) :: (nat_lit 290, ob400 P) :: (nat_lit 291, ob401 P) :: (nat_lit 292, ob48 P) :: (nat_lit 294, ob404 P) :: (nat_lit 295, ob48 P) :: (nat_lit 297, ob407 P) :: (nat_lit 298, ob408 P) :: (nat_lit 299, ob48 P) :: (nat_lit 302, ob412 P) :: (nat_lit 303, ob413 P) :: (nat_lit 304, ob48 P) :: (nat_lit 307, ob417 P) :: (nat_lit 308, ob418 P) :: (nat_lit 309, ob48 P) :: (nat_lit 312, ob422 P) :: (nat_lit 313, ob423 P) :: []
noncomputable def hd.heap_39 (P : Params) : Frag := by
  refine (?f : (l : Frag) → l = hdK P → Frag) ((nat_lit 2, ⟨_, _, _, _⟩) :: (nat_lit 3, ⟨_, _, _, _⟩) :: (nat_lit 33, ⟨_, _, _, _⟩) :: (nat_lit 35, ⟨_, _, _, _⟩) :: (nat_lit 36, ⟨_, _, _, _⟩) :: (nat_lit 38, ⟨_, _, _, _⟩) :: (nat_lit 39, ⟨_, _, _, _⟩) :: (nat_lit 47, ⟨_, _, _, _⟩) :: (nat_lit 49, ⟨_, _, _, _⟩) :: (nat_lit 50, ⟨_, _, _, _⟩) :: (nat_lit 52, ⟨_, _, _, _⟩) :: (nat_lit 53, ⟨_, _, _, _⟩) :: (nat_lit 54, ⟨_, _, _, _⟩) :: (nat_lit 55, ⟨_, _, _, _⟩) :: (nat_lit 57, ⟨_, _, _, _⟩) :: (nat_lit 58, ⟨_, _, _, _⟩) :: (nat_lit 60, ⟨_, _, _, _⟩) :: (nat_lit 61, ⟨_, _, _, _⟩) :: (nat_lit 62, ⟨_, _, _, _⟩) :: (nat_lit 64, ⟨_, _, _, _⟩) :: (nat_lit 65, ⟨_, _, _, _⟩) :: (nat_lit 67, ⟨_, _, _, _⟩) :: (nat_lit 68, ⟨_, _, _, _⟩) :: (nat_lit 69, ⟨_, _, _, _⟩) :: (nat_lit 71, ⟨_, _, _, _⟩) :: (nat_lit 72, ⟨_, _, _, _⟩) :: (nat_lit 74, ⟨_, _, _, _⟩) :: (nat_lit 75, ⟨_, _, _, _⟩) :: (nat_lit 76, ⟨_, _, _, _⟩) :: (nat_lit 77, ⟨_, _, _, _⟩) :: (nat_lit 78, ⟨_, _, _, _⟩) :: (nat_lit 79, ⟨_, _, _, _⟩) :: (nat_lit 80, ⟨_, _, _, _⟩) :: (nat_lit 83, ⟨_, _, _, _⟩) :: (nat_lit 86, ⟨_, _, _, _⟩) :: (nat_lit 91, ⟨_, _, _, _⟩) :: (nat_lit 92, ⟨_, _, _, _⟩) :: (nat_lit 94, ⟨_, _, _, _⟩) :: (nat_lit 95, ⟨_, _, _, _⟩) :: (nat_lit 97, ⟨_, _, _, _⟩) :: (nat_lit 98, ⟨_, _, _, _⟩) :: (nat_lit 99, ⟨_, _, _, _⟩) :: (nat_lit 101, ⟨_, _, _, _⟩) :: (nat_lit 102, ⟨_, _, _, _⟩) :: (nat_lit 104, ⟨_, _, _, _⟩) :: (nat_lit 105, ⟨_, _, _, _⟩) :: (nat_lit 106, ⟨_, _, _, _⟩) :: (nat_lit 107, ⟨_, _, _, _⟩) :: (nat_lit 108, ⟨_, _, _, _⟩) :: (nat_lit 109, ⟨_, _, _, _⟩) :: (nat_lit 110, ⟨_, _, _, _⟩) :: (nat_lit 113, ⟨_, _, _, _⟩) :: (nat_lit 116, ⟨_, _, _, _⟩) :: (nat_lit 121, ⟨_, _, _, _⟩) :: (nat_lit 122, ⟨_, _, _, _⟩) :: (nat_lit 123, ⟨_, _, _, _⟩) :: (nat_lit 124, ⟨_, _, _, _⟩) :: (nat_lit 126, ⟨_, _, _, _⟩) :: (nat_lit 127, ⟨_, _, _, _⟩) :: (nat_lit 129, ⟨_, _, _, _⟩) :: (nat_lit 130, ⟨_, _, _, _⟩) :: (nat_lit 131, ⟨_, _, _, _⟩) :: (nat_lit 133, ⟨_, _, _, _⟩) :: (nat_lit 134, ⟨_, _, _, _⟩) :: (nat_lit 136, ⟨_, _, _, _⟩) :: (nat_lit 137, ⟨_, _, _, _⟩) :: (nat_lit 138, ⟨_, _, _, _⟩) :: (nat_lit 139, ⟨_, _, _, _⟩) :: (nat_lit 140, ⟨_, _, _, _⟩) :: (nat_lit 141, ⟨_, _, _, _⟩) :: (nat_lit 142, ⟨_, _, _, _⟩) :: (nat_lit 144, ⟨_, _, _, _⟩) :: (nat_lit 145, ⟨_, _, _, _⟩) :: (nat_lit 147, ⟨_, _, _, _⟩) :: (nat_lit 148, ⟨_, _, _, _⟩) :: (nat_lit 149, ⟨_, _, _, _⟩) :: (nat_lit 151, ⟨_, _, _, _⟩) :: (nat_lit 152, ⟨_, _, _, _⟩) :: (nat_lit 154, ⟨_, _, _, _⟩) :: (nat_lit 155, ⟨_, _, _, _⟩) :: (nat_lit 156, ⟨_, _, _, _⟩) :: (nat_lit 158, ⟨_, _, _, _⟩) :: (nat_lit 159, ⟨_, _, _, _⟩) :: (nat_lit 161, ⟨_, _, _, _⟩) :: (nat_lit 162, ⟨_, _, _, _⟩) :: (nat_lit 163, ⟨_, _, _, _⟩) :: (nat_lit 165, ⟨_, _, _, _⟩) :: (nat_lit 166, ⟨_, _, _, _⟩) :: (nat_lit 168, ⟨_, _, _, _⟩) :: (nat_lit 169, ⟨_, _, _, _⟩) :: (nat_lit 170, ⟨_, _, _, _⟩) :: (nat_lit 171, ⟨_, _, _, _⟩) :: (nat_lit 172, ⟨_, _, _, _⟩) :: (nat_lit 174, ⟨_, _, _, _⟩) :: (nat_lit 175, ⟨_, _, _, _⟩) :: (nat_lit 177, ⟨_, _, _, _⟩) :: (nat_lit 179, ⟨_, _, _, _⟩) :: (nat_lit 180, ⟨_, _, _, _⟩) :: (nat_lit 181, ⟨_, _, _, _⟩) :: (nat_lit 184, ⟨_, _, _, _⟩) :: (nat_lit 191, ⟨_, _, _, _⟩) :: (nat_lit 193, ⟨_, _, _, _⟩) :: (nat_lit 194, ⟨_, _, _, _⟩) :: (nat_lit 196, ⟨_, _, _, _⟩) :: (nat_lit 197, ⟨_, _, _, _⟩) :: (nat_lit 198, ⟨_, _, _, _⟩) :: (nat_lit 199, ⟨_, _, _, _⟩) :: (nat_lit 200, ⟨_, _, _, _⟩) :: (nat_lit 201, ⟨_, _, _, _⟩) :: (nat_lit 202, ⟨_, _, _, _⟩) :: (nat_lit 203, ⟨_, _, _, _⟩) :: (nat_lit 204, ⟨_, _, _, _⟩) :: (nat_lit 207, ⟨_, _, _, _⟩) :: (nat_lit 209, ⟨_, _, _, _⟩) :: (nat_lit 210, ⟨_, _, _, _⟩) :: (nat_lit 212, ⟨_, _, _, _⟩) :: (nat_lit 213, ⟨_, _, _, _⟩) :: (nat_lit 214, ⟨_, _, _, _⟩) :: (nat_lit 215, ⟨_, _, _, _⟩) :: (nat_lit 216, ⟨_, _, _, _⟩) :: (nat_lit 217, ⟨_, _, _, _⟩) :: (nat_lit 218, ⟨_, _, _, _⟩) :: (nat_lit 219, ⟨_, _, _, _⟩) :: (nat_lit 220, ⟨_, _, _, _⟩) :: (nat_lit 221, ⟨_, _, _, _⟩) :: (nat_lit 222, ⟨_, _, _, _⟩) :: (nat_lit 223, ⟨_, _, _, _⟩) :: (nat_lit 224, ⟨_, _, _, _⟩) :: (nat_lit 225, ⟨_, _, _, _⟩) :: (nat_lit 226, ⟨_, _, _, _⟩) :: (nat_lit 227, ⟨_, _, _, _⟩) :: (nat_lit 228, ⟨_, _, _, _⟩) :: (nat_lit 229, ⟨_, _, _, _⟩) :: (nat_lit 230, ⟨_, _, _, _⟩) :: (nat_lit 231, ⟨_, _, _, _⟩) :: (nat_lit 232, ⟨_, _, _, _⟩) :: (nat_lit 233, ⟨_, _, _, _⟩) :: (nat_lit 234, ⟨_, _, _, _⟩) :: (nat_lit 235, ⟨_, _, _, _⟩) :: (nat_lit 236, ⟨_, _, _, _⟩) :: (nat_lit 237, ⟨_, _, _, _⟩) :: (nat_lit 238, ⟨_, _, _, _⟩) :: (nat_lit 239, ⟨_, _, _, _⟩) :: (nat_lit 240, ⟨_, _, _, _⟩) :: (nat_lit 241, ⟨_, _, _, _⟩) :: (nat_lit 242, ⟨_, _, _, _⟩) :: (nat_lit 243, ⟨_, _, _, _⟩) :: (nat_lit 244, ⟨_, _, _, _⟩) :: (nat_lit 245, ⟨_, _, _, _⟩) :: (nat_lit 246, ⟨_, _, _, _⟩) :: (nat_lit 247, ⟨_, _, _, _⟩) :: (nat_lit 249, ⟨_, _, _, _⟩) :: (nat_lit 250, ⟨_, _, _, _⟩) :: (nat_lit 252, ⟨_, _, _, _⟩) :: (nat_lit 253, ⟨_, _, _, _⟩) :: (nat_lit 254, ⟨_, _, _, _⟩) :: (nat_lit 257, ⟨_, _, _, _⟩) :: (nat_lit 258, ⟨_, _, _, _⟩) :: (nat_lit 259, ⟨_, _, _, _⟩) :: (nat_lit 261, ⟨_, _, _, _⟩) :: (nat_lit 262, ⟨_, _, _, _⟩) :: (nat_lit 264, ⟨_, _, _, _⟩) :: (nat_lit 265, ⟨_, _, _, _⟩) :: (nat_lit 266, ⟨_, _, _, _⟩) :: (nat_lit 268, ⟨_, _, _, _⟩) :: (nat_lit 269, ⟨_, _, _, _⟩) :: (nat_lit 271, ⟨_, _, _, _⟩) :: (nat_lit 272, ⟨_, _, _, _⟩) :: (nat_lit 273, ⟨_, _, _, _⟩) :: (nat_lit 275, ⟨_, _, _, _⟩) :: (nat_lit 276, ⟨_, _, _, _⟩) :: (nat_lit 278, ⟨_, _, _, _⟩) :: (nat_lit 279, ⟨_, _, _, _⟩) :: (nat_lit 280, ⟨_, _, _, _⟩) :: (nat_lit 282, ⟨_, _, _, _⟩) :: (nat_lit 283, ⟨_, _, _, _⟩) :: (nat_lit 285, ⟨_, _, _, _⟩) :: (nat_lit 286, ⟨_, _, _, _⟩) :: (nat_lit 287, ⟨_, _, _, _⟩) :: (nat_lit 290, ⟨_, _, _, _⟩) :: (nat_lit 291, ⟨_, _, _, _⟩) :: (nat_lit 292, ⟨_, _, _, _⟩) :: (nat_lit 294, ⟨_, _, _, _⟩) :: (nat_lit 295, ⟨_, _, _, _⟩) :: (nat_lit 297, ⟨_, _, _, _⟩) :: (nat_lit 298, ⟨_, _, _, _⟩) :: (nat_lit 299, ⟨_, _, _, _⟩) :: (nat_lit 302, ⟨_, _, _, _⟩) :: (nat_lit 303, ⟨_, _, _, _⟩) :: (nat_lit 304, ⟨_, _, _, _⟩) :: (nat_lit 307, ⟨_, _, _, _⟩) :: (nat_lit 308, ⟨_, _, _, _⟩) :: (nat_lit 309, ⟨_, _, _, _⟩) :: (nat_lit 312, ⟨_, _, _, _⟩) :: (nat_lit 313, ⟨_, _, _, _⟩) :: []) rfl
  exact fun l _ => l
noncomputable def hdAs : List Nat := nat_lit 2 :: nat_lit 3 :: nat_lit 33 :: nat_lit 35 :: nat_lit 36 :: nat_lit 38 :: nat_lit 39 :: nat_lit 47 :: nat_lit 49 :: nat_lit 50 :: nat_lit 52 :: nat_lit 53 :: nat_lit 54 :: nat_lit 55 :: nat_lit 57 :: nat_lit 58 :: nat_lit 60 :: nat_lit 61 :: nat_lit 62 :: nat_lit 64 :: nat_lit 65 :: nat_lit 67 :: nat_lit 68 :: nat_lit 69 :: nat_lit 71 :: nat_lit 72 :: nat_lit 74 :: nat_lit 75 :: nat_lit 76 :: nat_lit 77 :: nat_lit 78 :: nat_lit 79 :: nat_lit 80 :: nat_lit 83 :: nat_lit 86 :: nat_lit 91 :: nat_lit 92 :: nat_lit 94 :: nat_lit 95 :: nat_lit 97 :: nat_lit 98 :: nat_lit 99 :: nat_lit 101 :: nat_lit 102 :: nat_lit 104 :: nat_lit 105 :: nat_lit 106 :: nat_lit 107 :: nat_lit 108 :: nat_lit 109 :: nat_lit 110 :: nat_lit 113 :: nat_lit 116 :: nat_lit 121 :: nat_lit 122 :: nat_lit 123 :: nat_lit 124 :: nat_lit 126 :: nat_lit 127 :: nat_lit 129 :: nat_lit 130 :: nat_lit 131 :: nat_lit 133 :: nat_lit 134 :: nat_lit 136 :: nat_lit 137 :: nat_lit 138 :: nat_lit 139 :: nat_lit 140 :: nat_lit 141 :: nat_lit 142 :: nat_lit 144 :: nat_lit 145 :: nat_lit 147 :: nat_lit 148 :: nat_lit 149 :: nat_lit 151 :: nat_lit 152 :: nat_lit 154 :: nat_lit 155 :: nat_lit 156 :: nat_lit 158 :: nat_lit 159 :: nat_lit 161 :: nat_lit 162 :: nat_lit 163 :: nat_lit 165 :: nat_lit 166 :: nat_lit 168 :: nat_lit 169 :: nat_lit 170 :: nat_lit 171 :: nat_lit 172 :: nat_lit 174 :: nat_lit 175 :: nat_lit 177 :: nat_lit 179 :: nat_lit 180 :: nat_lit 181 :: nat_lit 184 :: nat_lit 191 :: nat_lit 193 :: nat_lit 194 :: nat_lit 196 :: nat_lit 197 :: nat_lit 198 :: nat_lit 199 :: nat_lit 200 :: nat_lit 201 :: nat_lit 202 :: nat_lit 203 :: nat_lit 204 :: nat_lit 207 :: nat_lit 209 :: nat_lit 210 :: nat_lit 212 :: nat_lit 213 :: nat_lit 214 :: nat_lit 215 :: nat_lit 216 :: nat_lit 217 :: nat_lit 218 :: nat_lit 219 :: nat_lit 220 :: nat_lit 221 :: nat_lit 222 :: nat_lit 223 :: nat_lit 224 :: nat_lit 225 :: nat_lit 226 :: nat_lit 227 :: nat_lit 228 :: nat_lit 229 :: nat_lit 230 :: nat_lit 231 :: nat_lit 232 :: nat_lit 233 :: nat_lit 234 :: nat_lit 235 :: nat_lit 236 :: nat_lit 237 :: nat_lit 238 :: nat_lit 239 :: nat_lit 240 :: nat_lit 241 :: nat_lit 242 :: nat_lit 243 :: nat_lit 244 :: nat_lit 245 :: nat_lit 246 :: nat_lit 247 :: nat_lit 249 :: nat_lit 250 :: nat_lit 252 :: nat_lit 253 :: nat_lit 254 :: nat_lit 257 :: nat_lit 258 :: nat_lit 259 :: nat_lit 261 :: nat_lit 262 :: nat_lit 264 :: nat_lit 265 :: nat_lit 266 :: nat_lit 268 :: nat_lit 269 :: nat_lit 271 :: nat_lit 272 :: nat_lit 273 :: nat_lit 275 :: nat_lit 276 :: nat_lit 278 :: nat_lit 279 :: nat_lit 280 :: nat_lit 282 :: nat_lit 283 :: nat_lit 285 :: nat_lit 286 :: nat_lit 287 :: nat_lit 290 :: nat_lit 291 :: nat_lit 292 :: nat_lit 294 :: nat_lit 295 :: nat_lit 297 :: nat_lit 298 :: nat_lit 299 :: nat_lit 302 :: nat_lit 303 :: nat_lit 304 :: nat_lit 307 :: nat_lit 308 :: nat_lit 309 :: nat_lit 312 :: nat_lit 313 :: []
noncomputable def keepB : List Bool → List Stmt → List Stmt
  | true :: m, x :: l => x :: keepB m l
  | false :: m, _ :: l => keepB m l
  | _, _ => []
noncomputable abbrev hdVB : List Stmt := keepB [true, true, false, true, true, true, true, false, true, true, true, true, true, true, true, true, true, true, true, true, true, true, true, true, true, true, true, true, true, true, false, true, true, true, true, true, true, true, true, true, true] rwB
noncomputable def hd.view_39 : Program := by
  refine (?f : (l : List Stmt) → l = hdVB → Program) [_, _, _, _, _, _, _, _, _, _, _, _, _, _, _, _, _, _, _, _, _, _, _, _, _, _, _, _, _, _, _, _, _, _, _, _, _, _] rfl
  exact fun l _ => { PySem.Challenge.rw_in0190_01.row.toRowW.1 with main := { PySem.Challenge.rw_in0190_01.row.toRowW.1.main with body := l } }
noncomputable def lawD : DefRec := by
  refine (?f : (d : DefRec) → d.stmt = nthS rwB 40 → DefRec) ⟨_, _, _, _, _⟩ rfl
  exact fun d _ => d
noncomputable abbrev hdLoose : List Str := [Str.ofString "_tuplegetter", Str.ofString "Pair", Str.ofString "_filemode_table"]
noncomputable abbrev hdLv : List (Str × WData) := [(Str.ofString "_filemode_table", WData.tuple [WData.tuple [WData.tuple [WData.int 40960, WData.str { cps := #[108] }], WData.tuple [WData.int 49152, WData.str { cps := #[115] }], WData.tuple [WData.int 32768, WData.str { cps := #[45] }], WData.tuple [WData.int 24576, WData.str { cps := #[98] }], WData.tuple [WData.int 16384, WData.str { cps := #[100] }], WData.tuple [WData.int 8192, WData.str { cps := #[99] }], WData.tuple [WData.int 4096, WData.str { cps := #[112] }]], WData.tuple [WData.tuple [WData.int 256, WData.str { cps := #[114] }]], WData.tuple [WData.tuple [WData.int 128, WData.str { cps := #[119] }]], WData.tuple [WData.tuple [WData.int 2112, WData.str { cps := #[115] }], WData.tuple [WData.int 2048, WData.str { cps := #[83] }], WData.tuple [WData.int 64, WData.str { cps := #[120] }]], WData.tuple [WData.tuple [WData.int 32, WData.str { cps := #[114] }]], WData.tuple [WData.tuple [WData.int 16, WData.str { cps := #[119] }]], WData.tuple [WData.tuple [WData.int 1032, WData.str { cps := #[115] }], WData.tuple [WData.int 1024, WData.str { cps := #[83] }], WData.tuple [WData.int 8, WData.str { cps := #[120] }]], WData.tuple [WData.tuple [WData.int 4, WData.str { cps := #[114] }]], WData.tuple [WData.tuple [WData.int 2, WData.str { cps := #[119] }]], WData.tuple [WData.tuple [WData.int 513, WData.str { cps := #[116] }], WData.tuple [WData.int 512, WData.str { cps := #[84] }], WData.tuple [WData.int 1, WData.str { cps := #[120] }]]])]
noncomputable abbrev hdHook : Hook := kmHook hd.heap_39 (nat_lit 2 :: nat_lit 3 :: nat_lit 33 :: nat_lit 35 :: nat_lit 36 :: nat_lit 38 :: nat_lit 39 :: nat_lit 47 :: nat_lit 49 :: nat_lit 50 :: nat_lit 52 :: nat_lit 53 :: nat_lit 54 :: nat_lit 55 :: nat_lit 57 :: nat_lit 58 :: nat_lit 60 :: nat_lit 61 :: nat_lit 62 :: nat_lit 64 :: nat_lit 65 :: nat_lit 67 :: nat_lit 68 :: nat_lit 69 :: nat_lit 71 :: nat_lit 72 :: nat_lit 74 :: nat_lit 75 :: nat_lit 76 :: nat_lit 77 :: nat_lit 78 :: nat_lit 79 :: nat_lit 80 :: nat_lit 83 :: nat_lit 86 :: nat_lit 91 :: nat_lit 92 :: nat_lit 94 :: nat_lit 95 :: nat_lit 97 :: nat_lit 98 :: nat_lit 99 :: nat_lit 101 :: nat_lit 102 :: nat_lit 104 :: nat_lit 105 :: nat_lit 106 :: nat_lit 107 :: nat_lit 108 :: nat_lit 109 :: nat_lit 110 :: nat_lit 113 :: nat_lit 116 :: nat_lit 121 :: nat_lit 122 :: nat_lit 123 :: nat_lit 124 :: nat_lit 126 :: nat_lit 127 :: nat_lit 129 :: nat_lit 130 :: nat_lit 131 :: nat_lit 133 :: nat_lit 134 :: nat_lit 136 :: nat_lit 137 :: nat_lit 138 :: nat_lit 139 :: nat_lit 140 :: nat_lit 141 :: nat_lit 142 :: nat_lit 144 :: nat_lit 145 :: nat_lit 147 :: nat_lit 148 :: nat_lit 149 :: nat_lit 151 :: nat_lit 152 :: nat_lit 154 :: nat_lit 155 :: nat_lit 156 :: nat_lit 158 :: nat_lit 159 :: nat_lit 161 :: nat_lit 162 :: nat_lit 163 :: nat_lit 165 :: nat_lit 166 :: nat_lit 168 :: nat_lit 169 :: nat_lit 170 :: nat_lit 171 :: nat_lit 172 :: nat_lit 174 :: nat_lit 175 :: nat_lit 177 :: nat_lit 179 :: nat_lit 180 :: nat_lit 181 :: nat_lit 184 :: nat_lit 191 :: nat_lit 193 :: nat_lit 194 :: nat_lit 196 :: nat_lit 197 :: nat_lit 198 :: nat_lit 199 :: nat_lit 200 :: nat_lit 201 :: nat_lit 202 :: nat_lit 203 :: nat_lit 204 :: nat_lit 207 :: nat_lit 209 :: nat_lit 210 :: nat_lit 212 :: nat_lit 213 :: nat_lit 214 :: nat_lit 215 :: nat_lit 216 :: nat_lit 217 :: nat_lit 218 :: nat_lit 219 :: nat_lit 220 :: nat_lit 221 :: nat_lit 222 :: nat_lit 223 :: nat_lit 224 :: nat_lit 225 :: nat_lit 226 :: nat_lit 227 :: nat_lit 228 :: nat_lit 229 :: nat_lit 230 :: nat_lit 231 :: nat_lit 232 :: nat_lit 233 :: nat_lit 234 :: nat_lit 235 :: nat_lit 236 :: nat_lit 237 :: nat_lit 238 :: nat_lit 239 :: nat_lit 240 :: nat_lit 241 :: nat_lit 242 :: nat_lit 243 :: nat_lit 244 :: nat_lit 245 :: nat_lit 246 :: nat_lit 247 :: nat_lit 249 :: nat_lit 250 :: nat_lit 252 :: nat_lit 253 :: nat_lit 254 :: nat_lit 257 :: nat_lit 258 :: nat_lit 259 :: nat_lit 261 :: nat_lit 262 :: nat_lit 264 :: nat_lit 265 :: nat_lit 266 :: nat_lit 268 :: nat_lit 269 :: nat_lit 271 :: nat_lit 272 :: nat_lit 273 :: nat_lit 275 :: nat_lit 276 :: nat_lit 278 :: nat_lit 279 :: nat_lit 280 :: nat_lit 282 :: nat_lit 283 :: nat_lit 285 :: nat_lit 286 :: nat_lit 287 :: nat_lit 290 :: nat_lit 291 :: nat_lit 292 :: nat_lit 294 :: nat_lit 295 :: nat_lit 297 :: nat_lit 298 :: nat_lit 299 :: nat_lit 302 :: nat_lit 303 :: nat_lit 304 :: nat_lit 307 :: nat_lit 308 :: nat_lit 309 :: nat_lit 312 :: nat_lit 313 :: []) (fun _ => Eq.refl _) [100, 288]
noncomputable abbrev hdXt (s : Shared) : Bool := xlAt hd.view_39 hdLv s && recOk (RowW.records PySem.Challenge.rw_in0190_01.row.toRowW) s
noncomputable abbrev hdP : Program := PySem.Challenge.rw_in0190_01.row.toRowW.1
noncomputable abbrev hdEnv : Env := { scope := hdP.main.scope, locals := mainNs, globals := mainNs, cells := [], code := .ref 31, frame := some 32 }
noncomputable abbrev bd0 : List Stmt := behindTheImports hdP
noncomputable abbrev hdC : Code := .body bd0 hdEnv
noncomputable abbrev hdB : List Frame := [topFrame ⟨0, 0, 0, 0⟩]
theorem hdEq : ∀ w : World, PySem.W.Fast.tw10274390034422433532 PySem.W.Fast.tw14364793385576792824 (opening hdP) w 5390 (PySem.W.Fast.tw1435165496053646825 (opening hdP)).1 (PySem.W.Fast.tw1435165496053646825 (opening hdP)).2 = some ⟨HE w.params, #[], {}, 273, (PySem.W.Fast.tw1435165496053646825 (opening hdP)).1.os⟩ := by
  intro w
  kernel_rfl
theorem hdE : ∀ w : World, importEnds treeTable (opening hdP) w 5390 (start (opening hdP)).1 (start (opening hdP)).2 = some ⟨HE w.params, #[], {}, 273, (start (opening hdP)).1.os⟩ := by
  intro w
  have h := hdEq w
  rw [← PySem.W.Fast.te10274390034422433532, ← PySem.W.Fast.te14364793385576792824, ← PySem.W.Fast.te1435165496053646825] at h
  exact h
theorem hdF : ∀ w : World, (fun os => (fenceModules? hdP ⟨HE w.params, #[], {}, 273, os⟩).map (fun s => (s.heap, s.gens, s.drawn, s.toks))) = fun _ => some (H0 w.params, #[], {}, 273) := by
  intro w
  kernel_rfl
theorem hdOpen : ∀ w : World, (fencedOpening treeTable hdP w 5390).map (fun s => (s.heap, s.gens, s.drawn, s.toks)) = some (H0 w.params, #[], {}, 273) := open_cut hdE (by kernel_rfl) hdF
theorem piece_cut {p : Program} {w : World} {m₀ : Nat} {ann : Option Value} {env : Env} {q : Pos} {n N : Nat} {s s' r : Shared} {b : List Stmt} {c : Code} {pos p' : Pos} (k : Nat) (h : segRun treeTable p w m₀ ann 1 n s (piecesOf (b.take k) env c pos [topFrame q]) = some (.next, s', c, p'))
    (g : topRun treeTable p w m₀ ann N s' (restOf (b.drop k) env c p' [topFrame q]) = some r) : topRun treeTable p w m₀ ann (n + N) s (restOf b env c pos [topFrame q]) = some r := by
  have x := piece_app h g
  rwa [List.take_append_drop] at x
theorem hdA : ∀ (w : World) (os : OsState), topGo treeTable hdP w 29 (some (.ref 6)) 12 ⟨H0 w.params, #[], {}, 273, os⟩ (topStub hdP) = some (⟨Hm33 w.params, #[], {}, 279, os⟩, ⟨denote treeTable hdC, hdC, ⟨0, 0, 0, 0⟩, hdB⟩) := by
  intro w os
  kernel_rfl
theorem hdG0 : ∀ (w : World) (os : OsState), segRun treeTable hdP w 29 (some (.ref 6)) 1 1 ⟨Hm33 w.params, #[], {}, 279, os⟩ (blockOf bd0 hdEnv hdC ⟨0, 0, 0, 0⟩ hdB) = some (.next, ⟨Hm33 w.params, #[], {}, 279, os⟩, hdC, ⟨0, 0, 0, 0⟩) := by
  intro w os
  kernel_rfl
theorem seg_t {p : Program} {w : World} {m₀ n : Nat} {ann : Option Value} {s s' : SharedT} {t : Thread} {f : Flow} {c : Code} {q : Pos} (h : PySem.W.Fast.tw10110043849684766642 PySem.W.Fast.tw14364793385576792824 p w m₀ ann 1 n s t = some (f, s', c, q)) : segRun treeTable p w m₀ ann 1 n s.abs t = some (f, s'.abs, c, q) := by
  rw [← PySem.W.Fast.te10110043849684766642, ← PySem.W.Fast.te14364793385576792824] at h
  exact segRun_of h
noncomputable abbrev tS (t : BT) (n k : Nat) (os : OsState) : SharedT := ⟨t, n, {}, #[], {}, k, os⟩
theorem hdG1 : ∀ (w : World) (os : OsState), PySem.W.Fast.tw10110043849684766642 PySem.W.Fast.tw14364793385576792824 hdP w 29 (some (.ref 6)) 1 650 (tS (Hm33T w.params) (nat_lit 33) (nat_lit 279) os) (piecesOf (bd0.take 4) hdEnv hdC ⟨0, 0, 0, 0⟩ hdB) = some (.next, (tS (Hm113T w.params) (nat_lit 113) (nat_lit 388) os), hdC, ⟨24, 0, 43, 57⟩) := by
  intro w os
  kernel_rfl
theorem hdG2 : ∀ (w : World) (os : OsState), PySem.W.Fast.tw10110043849684766642 PySem.W.Fast.tw14364793385576792824 hdP w 29 (some (.ref 6)) 1 1295 (tS (Hm113T w.params) (nat_lit 113) (nat_lit 388) os) (piecesOf ((bd0.drop 4).take 3) hdEnv hdC ⟨24, 0, 43, 57⟩ hdB) = some (.next, (tS (Hm207T w.params) (nat_lit 207) (nat_lit 543) os), hdC, ⟨91, 0, 91, 8⟩) := by
  intro w os
  kernel_rfl
theorem hdG3 : ∀ (w : World) (os : OsState), PySem.W.Fast.tw10110043849684766642 PySem.W.Fast.tw14364793385576792824 hdP w 29 (some (.ref 6)) 1 693 (tS (Hm207T w.params) (nat_lit 207) (nat_lit 543) os) (piecesOf (((bd0.drop 4).drop 3).take 33) hdEnv hdC ⟨91, 0, 91, 8⟩ hdB) = some (.next, (tS (H1T w.params) (nat_lit 314) (nat_lit 705) os), hdC, ⟨218, 0, 221, 82⟩) := by
  intro w os
  kernel_rfl
theorem Hm33_tree : ∀ P : Params, absHeap (Hm33T P) (nat_lit 33) {} = Hm33 P := by
  intro P
  kernel_rfl
theorem H1_tree : ∀ P : Params, absHeap (H1T P) (nat_lit 314) {} = H1 P := by
  intro P
  kernel_rfl
theorem hdZ : ∀ (w : World) (os : OsState), topRun treeTable hdP w 29 (some (.ref 6)) 2 ⟨H1 w.params, #[], {}, 705, os⟩ (restOf (((bd0.drop 4).drop 3).drop 33) hdEnv hdC ⟨218, 0, 221, 82⟩ hdB) = some ⟨H1 w.params, #[], {}, 705, os⟩ := by
  intro w os
  kernel_rfl
theorem hdRun : ∀ (w : World) (os : OsState), topRun treeTable hdP w 29 (some (.ref 6)) 2653 ⟨H0 w.params, #[], {}, 273, os⟩ (topStub hdP) = some ⟨H1 w.params, #[], {}, 705, os⟩ := fun w os => by
  have a := hdA w os
  have b := hdG0 w os
  have z := hdZ w os
  rw [← Hm33_tree] at a b
  rw [← H1_tree] at z ⊢
  exact go_top (n := 12) (N := 2641) a (piece_block (n := 1) (N := 2640) b (piece_cut (n := 650) (N := 1990) 4 (seg_t (hdG1 w os)) (piece_cut (n := 1295) (N := 695) 3 (seg_t (hdG2 w os)) (piece_cut (n := 693) (N := 2) 33 (seg_t (hdG3 w os)) z))))
theorem hdSize : ∀ w : World, ((H0 w.params).isNs mainGlobals && (#[] : Array GenState).size == 0, (H0 w.params).objs.size, (H0 w.params).nsMap mainGlobals "__annotations__") = (true, 29, some (.ref 6)) := by
  intro w
  kernel_rfl
theorem lkStatics (w : World) : staticsOk (importedModules hdP.main.body) (H0 w.params) (H1 w.params) = true := by kernel_rfl
theorem lkNames (w : World) : namesBound hdP (H1 w.params) = true := by kernel_rfl
theorem lkKept (w : World) : laidKept (H0 w.params) (H1 w.params) = true := by kernel_rfl
theorem lkSeen (w : World) (os : OsState) : seen ((recsOf hd.view_39).map (·.name)) (ownsOf hd.view_39) [] ⟨H1 w.params, #[], {}, 705, os⟩ = expectedOf hd.view_39 := by kernel_rfl
theorem lkBlt (w : World) : (H1 w.params).bltView = bltViewBooted := by kernel_rfl
theorem lkKeys (w : World) : (H1 w.params).keysOk (looseW hd.view_39 hdLoose) ((recsOf hd.view_39).map (·.name)) ((litsOf hd.view_39).map (·.1)) ((clssOf hd.view_39 (looseW hd.view_39 hdLoose)).map (·.name)) = true := by kernel_rfl
theorem lkAcc (w : World) : (H1 w.params).accountedOkI (importedModules hdP.main.body) = true := by kernel_rfl
theorem lkTables (w : World) : tablesOk hd.view_39 (H1 w.params) = true := by kernel_rfl
theorem lkXt (w : World) (os : OsState) : hdXt ⟨H1 w.params, #[], {}, 705, os⟩ = true := by kernel_rfl
theorem lkTabs (w : World) (os : OsState) : tabsOk hd.view_39 ⟨H1 w.params, #[], {}, 705, os⟩ = true := by kernel_rfl
theorem lkPin (w : World) (os : OsState) : pinSeenD hd.view_39 (drecsOf hd.view_39) ⟨H1 w.params, #[], {}, 705, os⟩ = pinGoodD (drecsOf hd.view_39) := by kernel_rfl
theorem lkPlainE (w : World) (os : OsState) : plainSeenE hd.view_39 (looseW hd.view_39 hdLoose) ⟨H1 w.params, #[], {}, 705, os⟩ = plainGoodE hd.view_39 (looseW hd.view_39 hdLoose) := by kernel_rfl
theorem lkPlainD (w : World) (os : OsState) : plainSeenD hd.view_39 hdLoose ⟨H1 w.params, #[], {}, 705, os⟩ = plainGoodD hd.view_39 hdLoose := by kernel_rfl
theorem lkWide (w : World) (os : OsState) : wideSeen hd.view_39 ⟨H1 w.params, #[], {}, 705, os⟩ = wideGood hd.view_39 := by kernel_rfl
theorem lkCls (w : World) (os : OsState) : clsSeenW hd.view_39 hdLoose ⟨H1 w.params, #[], {}, 705, os⟩ = clsGoodW hd.view_39 hdLoose := by kernel_rfl
theorem lkHook (w : World) (os : OsState) : hdHook.obs ⟨H1 w.params, #[], {}, 705, os⟩ = hdHook.val w := by kernel_rfl
theorem lkBools (w : World) (os : OsState) : ((H1 w.params).keysOk (looseW hd.view_39 hdLoose) ((recsOf hd.view_39).map (·.name)) ((litsOf hd.view_39).map (·.1)) ((clssOf hd.view_39 (looseW hd.view_39 hdLoose)).map (·.name)) && (H1 w.params).accountedOkI (importedModules hdP.main.body) && (H1 w.params).isNs mainGlobals && (H1 w.params).isNs builtinsNs && tablesOk hd.view_39 (H1 w.params) && hdXt ⟨H1 w.params, #[], {}, 705, os⟩ && (#[] : Array GenState).size == 0) = true :=
  look_both (look_both (look_both (look_both (look_both (look_both (lkKeys w) (lkAcc w)) (by kernel_rfl)) (by kernel_rfl)) (lkTables w)) (lkXt w os)) rfl
theorem lkOpen (w : World) (os : OsState) : openSeen hd.view_39 hdLoose (importedModules hdP.main.body) hdXt true ⟨H1 w.params, #[], {}, 705, os⟩ = openGood hd.view_39 hdLoose :=
  looks_pair (lkSeen w os) (looks_pair (lkBlt w) (looks_pair (lkBools w os) (looks_pair (lkTabs w os) (looks_pair (lkPin w os) (looks_pair (lkPlainE w os) (looks_pair (lkPlainD w os) (looks_pair (lkWide w os) (lkCls w os))))))))
theorem hdLooks : ∀ w : World, (fun os => ((staticsOk (importedModules hdP.main.body) (H0 w.params) (H1 w.params) && namesBound hdP (H1 w.params) && gensDone ⟨H1 w.params, #[], {}, 705, os⟩ && laidKept (H0 w.params) (H1 w.params)),
        openSeen hd.view_39 hdLoose (importedModules hdP.main.body) hdXt true ⟨H1 w.params, #[], {}, 705, os⟩, hdHook.obs ⟨H1 w.params, #[], {}, 705, os⟩)) = fun _ => (true, openGood hd.view_39 hdLoose, hdHook.val w) := fun w => funext fun os => looks_pair (look_both (look_both (look_both (lkStatics w) (lkNames w)) rfl) (lkKept w)) (looks_pair (lkOpen w os) (lkHook w os))
theorem hdLeft : LeftO hdP hd.view_39 hdLoose hdXt hdHook.obs hdHook.val 5390 :=
  LeftO.of_pieces (g0 := true) (H₀ := H0) (H₁ := H1) (gs₀ := #[]) (gs₁ := #[]) (d₀ := {}) (d₁ := {}) (k₀ := 273) (k₁ := 705) (m₀ := 29) (ann := some (.ref 6)) (M := 2653) hdOpen hdSize hdRun rfl hdLooks
theorem hdSaid : PySem.W.Fast.tw9446332074065402090 PySem.Challenge.rw_in0190_01 = true := by
  kernel_rfl
theorem hd0 (walk : WalkC hd.view_39 hdLoose (XL hd.view_39 hdLv) hdHook.says PySem.Challenge.rw_in0190_01.row.toRowW lawD []) : PySem.Challenge.rw_in0190_01.Holds := by
  refine holds_law ((congrFun PySem.W.Fast.te9446332074065402090 _).trans hdSaid) fun said => ?_
  refine holds_c (q := hd.view_39) (loose := hdLoose) (Xt := hdXt) (XP := XL hd.view_39 hdLv) (Yf := hdHook.obs) (Ya := hdHook.val) (YP := hdHook.says) (N := 5390) hdLeft (Hook.of hdHook) (Hook.keeps hdHook) (fun s e => xl_of s (Bool.and_eq_true_iff.mp e).1) XL.keeps (by kernel_rfl) (by kernel_rfl) (by kernel_rfl) (fun s e => recFacts_of (Bool.and_eq_true_iff.mp e).2) (by kernel_rfl) (by first | assumption | decide +kernel) (by decide +kernel) ⟨rfl, rfl, rfl, rfl, rfl, by decide +kernel⟩ ⟨[WData.list []], by decide +kernel, by decide +kernel⟩ walk
theorem hd {d : DefRec} (e : d = lawD) (walk : WalkC hd.view_39 [Str.ofString "_tuplegetter", Str.ofString "Pair", Str.ofString "_filemode_table"] (XL hd.view_39 ([(Str.ofString "_filemode_table", WData.tuple [WData.tuple [WData.tuple [WData.int 40960, WData.str { cps := #[108] }], WData.tuple [WData.int 49152, WData.str { cps := #[115] }], WData.tuple [WData.int 32768, WData.str { cps := #[45] }], WData.tuple [WData.int 24576, WData.str { cps := #[98] }], WData.tuple [WData.int 16384, WData.str { cps := #[100] }], WData.tuple [WData.int 8192, WData.str { cps := #[99] }], WData.tuple [WData.int 4096, WData.str { cps := #[112] }]], WData.tuple [WData.tuple [WData.int 256, WData.str { cps := #[114] }]], WData.tuple [WData.tuple [WData.int 128, WData.str { cps := #[119] }]], WData.tuple [WData.tuple [WData.int 2112, WData.str { cps := #[115] }], WData.tuple [WData.int 2048, WData.str { cps := #[83] }], WData.tuple [WData.int 64, WData.str { cps := #[120] }]], WData.tuple [WData.tuple [WData.int 32, WData.str { cps := #[114] }]], WData.tuple [WData.tuple [WData.int 16, WData.str { cps := #[119] }]], WData.tuple [WData.tuple [WData.int 1032, WData.str { cps := #[115] }], WData.tuple [WData.int 1024, WData.str { cps := #[83] }], WData.tuple [WData.int 8, WData.str { cps := #[120] }]], WData.tuple [WData.tuple [WData.int 4, WData.str { cps := #[114] }]], WData.tuple [WData.tuple [WData.int 2, WData.str { cps := #[119] }]], WData.tuple [WData.tuple [WData.int 513, WData.str { cps := #[116] }], WData.tuple [WData.int 512, WData.str { cps := #[84] }], WData.tuple [WData.int 1, WData.str { cps := #[120] }]]])])) (kmHook hd.heap_39 (nat_lit 2 :: nat_lit 3 :: nat_lit 33 :: nat_lit 35 :: nat_lit 36 :: nat_lit 38 :: nat_lit 39 :: nat_lit 47 :: nat_lit 49 :: nat_lit 50 :: nat_lit 52 :: nat_lit 53 :: nat_lit 54 :: nat_lit 55 :: nat_lit 57 :: nat_lit 58 :: nat_lit 60 :: nat_lit 61 :: nat_lit 62 :: nat_lit 64 :: nat_lit 65 :: nat_lit 67 :: nat_lit 68 :: nat_lit 69 :: nat_lit 71 :: nat_lit 72 :: nat_lit 74 :: nat_lit 75 :: nat_lit 76 :: nat_lit 77 :: nat_lit 78 :: nat_lit 79 :: nat_lit 80 :: nat_lit 83 :: nat_lit 86 :: nat_lit 91 :: nat_lit 92 :: nat_lit 94 :: nat_lit 95 :: nat_lit 97 :: nat_lit 98 :: nat_lit 99 :: nat_lit 101 :: nat_lit 102 :: nat_lit 104 :: nat_lit 105 :: nat_lit 106 :: nat_lit 107 :: nat_lit 108 :: nat_lit 109 :: nat_lit 110 :: nat_lit 113 :: nat_lit 116 :: nat_lit 121 :: nat_lit 122 :: nat_lit 123 :: nat_lit 124 :: nat_lit 126 :: nat_lit 127 :: nat_lit 129 :: nat_lit 130 :: nat_lit 131 :: nat_lit 133 :: nat_lit 134 :: nat_lit 136 :: nat_lit 137 :: nat_lit 138 :: nat_lit 139 :: nat_lit 140 :: nat_lit 141 :: nat_lit 142 :: nat_lit 144 :: nat_lit 145 :: nat_lit 147 :: nat_lit 148 :: nat_lit 149 :: nat_lit 151 :: nat_lit 152 :: nat_lit 154 :: nat_lit 155 :: nat_lit 156 :: nat_lit 158 :: nat_lit 159 :: nat_lit 161 :: nat_lit 162 :: nat_lit 163 :: nat_lit 165 :: nat_lit 166 :: nat_lit 168 :: nat_lit 169 :: nat_lit 170 :: nat_lit 171 :: nat_lit 172 :: nat_lit 174 :: nat_lit 175 :: nat_lit 177 :: nat_lit 179 :: nat_lit 180 :: nat_lit 181 :: nat_lit 184 :: nat_lit 191 :: nat_lit 193 :: nat_lit 194 :: nat_lit 196 :: nat_lit 197 :: nat_lit 198 :: nat_lit 199 :: nat_lit 200 :: nat_lit 201 :: nat_lit 202 :: nat_lit 203 :: nat_lit 204 :: nat_lit 207 :: nat_lit 209 :: nat_lit 210 :: nat_lit 212 :: nat_lit 213 :: nat_lit 214 :: nat_lit 215 :: nat_lit 216 :: nat_lit 217 :: nat_lit 218 :: nat_lit 219 :: nat_lit 220 :: nat_lit 221 :: nat_lit 222 :: nat_lit 223 :: nat_lit 224 :: nat_lit 225 :: nat_lit 226 :: nat_lit 227 :: nat_lit 228 :: nat_lit 229 :: nat_lit 230 :: nat_lit 231 :: nat_lit 232 :: nat_lit 233 :: nat_lit 234 :: nat_lit 235 :: nat_lit 236 :: nat_lit 237 :: nat_lit 238 :: nat_lit 239 :: nat_lit 240 :: nat_lit 241 :: nat_lit 242 :: nat_lit 243 :: nat_lit 244 :: nat_lit 245 :: nat_lit 246 :: nat_lit 247 :: nat_lit 249 :: nat_lit 250 :: nat_lit 252 :: nat_lit 253 :: nat_lit 254 :: nat_lit 257 :: nat_lit 258 :: nat_lit 259 :: nat_lit 261 :: nat_lit 262 :: nat_lit 264 :: nat_lit 265 :: nat_lit 266 :: nat_lit 268 :: nat_lit 269 :: nat_lit 271 :: nat_lit 272 :: nat_lit 273 :: nat_lit 275 :: nat_lit 276 :: nat_lit 278 :: nat_lit 279 :: nat_lit 280 :: nat_lit 282 :: nat_lit 283 :: nat_lit 285 :: nat_lit 286 :: nat_lit 287 :: nat_lit 290 :: nat_lit 291 :: nat_lit 292 :: nat_lit 294 :: nat_lit 295 :: nat_lit 297 :: nat_lit 298 :: nat_lit 299 :: nat_lit 302 :: nat_lit 303 :: nat_lit 304 :: nat_lit 307 :: nat_lit 308 :: nat_lit 309 :: nat_lit 312 :: nat_lit 313 :: []) (fun _ => Eq.refl _) [100, 288]).says PySem.Challenge.rw_in0190_01.row.toRowW d []) : PySem.Challenge.rw_in0190_01.Holds := by
  subst e
  exact hd0 walk
end
section
theorem hide {P : Prop} (h : ∀ G : Prop, (P → G) → G) : P := h P id
theorem cons_of {α : Type} {n : Nat} {l : List α} {P : List α → Prop} (h : l.length = n + 1) (k : ∀ a r, r.length = n → P (a :: r)) : P l := by
  cases l with
  | nil => cases h
  | cons a r => exact k a r (Nat.succ.inj h)
theorem nil_of {α : Type} {l : List α} {P : List α → Prop} (h : l.length = 0) (k : P []) : P l := by
  cases l with
  | nil => exact k
  | cons a r => cases h
theorem len_step {A B C n : Nat} (h1 : A ≤ B + n) (h2 : B ≤ C + 1) : A ≤ C + (n + 1) := by omega
theorem room_of {a b c L : Nat} (h : a + b < L) (k : Nat.ble c b = true) : a + c < L := Nat.lt_of_le_of_lt (Nat.add_le_add_left (Nat.le_of_ble_eq_true k) a) h
theorem wpAny_tk {α : Type} {M : Model} {A : Around} {t : Sem α} {Q : α → Shared → Prop} {E : Value → Shared → Prop} {h : Heap} {g : Array GenState} {d : Drawn} {k : Nat} {os : OsState} (H : ∀ k', wpAny M A t Q E ⟨h, g, d, k', os⟩) : wpAny M A t Q E ⟨h, g, d, k + 1, os⟩ := H _
noncomputable def HaltAt (_ : String) (P : Prop) : Prop := P
noncomputable abbrev Halt (P : Prop) : Prop := HaltAt "" P
theorem Halt.out {P : Prop} (h : Halt P) : P := h
theorem Halt.in {s : String} {P : Prop} (h : P) : HaltAt s P := h
inductive Stop : String → Prop
  | mk (s : String) : Stop s
theorem Stop.out {P : Prop} (s : String) (_ : Stop s) (h : HaltAt s P) : P := h
noncomputable abbrev looseL : List Str := (looseW hd.view_39 [Str.ofString "_tuplegetter", Str.ofString "Pair", Str.ofString "_filemode_table"] ++
        List.map (fun x => x.name) (recsOf hd.view_39) ++
      List.map (fun x => x.fst) (litsOf hd.view_39) ++
    List.map (fun x => x.name)
      (clssOf hd.view_39
        (looseW hd.view_39 [Str.ofString "_tuplegetter", Str.ofString "Pair", Str.ofString "_filemode_table"])))
noncomputable def Low (L : Addr) (news : List (Addr × Obj)) : Prop := ∀ p ∈ news, p.1 < L
theorem low_all {L c : Nat} {news : List (Addr × Obj)} (h : Low L news) (hc : L ≤ c) : ∀ p ∈ news, p.1 ≠ c := fun p hp => Nat.ne_of_lt (Nat.lt_of_lt_of_le (h p hp) hc)
noncomputable def High (B : Addr) (news : List (Addr × Obj)) : Prop := ∀ p ∈ news, B ≤ p.1
theorem high_all {B c : Nat} {news : List (Addr × Obj)} (h : High B news) (hc : c < B) : ∀ p ∈ news, p.1 ≠ c := fun p hp => Nat.ne_of_gt (Nat.lt_of_lt_of_le hc (h p hp))
theorem low_tail {L : Addr} {p : Addr × Obj} {r : List (Addr × Obj)} (h : Low L (p :: r)) : Low L r := fun q hq => h q (.tail _ hq)
theorem Low.all {L : Addr} {news : List (Addr × Obj)} (h : Low L news) : ∀ p ∈ news, p.1 < L := h
section
variable {prog : Program} {w : World} {A A₀ : Around} {s : Shared} {K : Frag} {L : Addr} {h₀ base : Heap} {m mg mb : Str → Option Value} {news : List (Addr × Obj)} {p : Program} {loose : List Str} {mean : ExcName → Option Value}
theorem enterP {env : Env} {outer : List Env} {R : Result → Shared → Prop} {name qual : Str} {params : Arguments} {body : List Stmt} {scope : Scope} {dV kV doc pm cdv ct oc : Value} {an od : Option Addr} {osl : Array (Option Value)} {f : Addr} {args : Args} {binds : List (Str × Value)}
    (B : Below A₀ base outer h₀) (F : Fr h₀ L s.heap m) (X₀ : K.In h₀) (N : News h₀ L s.heap news) (T : Top p loose mean mg mb h₀) (hA : A.frames = some (env :: outer)) (hf : env.frame = some L) (hke : env.scope.kind = .function)
    (ho : K.lookup f = some ⟨oc, od, .func (fnOf name qual params body scope dV kV doc pm an cdv ct), osl⟩) (hcd : codeIn K cdv qual = true) (hroom : A.depth < recursionLimit)
    (hbind : BindsTo s (fnOf name qual params body scope dV kV doc pm an cdv ct) args binds) (hloc : ∀ y ∈ binds, scope.names.lookup y.1 = some .local)
    (h : ∀ g L' h₁, Fr h₀ L g m → Fr g L' h₁ (fun y => binds.reverse.lookup y) → News g L' h₁ news → Below A base (env :: outer) g → K.In g → Top p loose mean mg mb g → Low L' news →
      wpAny (model prog w) (A.deeper (envOf qual scope L' f cdv)) (execs body (envOf qual scope L' f cdv))
        (fun fl s' => LeaveK h₀ L m g R (match fl with | .ret v => v | _ => .none) s')
        (fun e s' => wpAny (model prog w) (A.deeper (envOf qual scope L' f cdv)) (leaving (envOf qual scope L' f cdv) e) (fun _ s'' => R (.error e) s'') (fun e' s'' => R (.error e') s'') s')
        { s with heap := h₁, toks := s.toks + binds.length })
    (hco : scope.isCoroutine = false) (hgen : scope.isGenerator = false) (hk : scope.kind = .function)
    (hcell : ∀ x ∈ scope.names, x.2 ≠ .cell) : codeAny (model prog w) A (.call (.ref f) args) R s :=
  callX_plain (cl := []) B F N T.nolimit hA hf hke ((X₀.keeps F.keep) _ _ ho) rfl (codeRec_of (X₀.keeps F.keep) hcd) hroom hbind hloc (fun g L' h₁ FG F' N' B' st l => h g L' h₁ FG F' N' B' (X₀.keeps st) (T.keeps st) l) hcell hco hgen hk
theorem low_of {news : List (Addr × Obj)} {L : Addr} (h : ∀ p ∈ news, p.1 < L) : Low L news := h
end
noncomputable def leftF (v : Int) : Int := (Builtin.bitOr 32768
      (Builtin.bitOr (Builtin.bitOr (Builtin.bitOr (Builtin.bitOr (Builtin.bitOr 256 128) 32) 16) 4) 2 -
        Builtin.bitAnd (Builtin.bitOr (Builtin.bitOr (Builtin.bitOr (Builtin.bitOr (Builtin.bitOr 256 128) 32) 16) 4) 2)
          v))
noncomputable abbrev Claim (w : World) (mean : ExcName → Option Value) (mg mb : Str → Option Value) (f : Addr) (news : CbLed) (pre : Prop) (vs : List Value) (R : Tok → Value) : Prop :=
  CbClaim Challenge.rw_in0190_01.row.prog w (hd.heap_39 w.params) topProg looseL mean mg mb f news [] pre vs R
theorem append_K {prog : Program} {w : World} {A : Around} {E : Value → Shared → Prop} {s : Shared} {h₀ : Heap} {L D : Addr} {news : List (Addr × Obj)} {its : Array Value} {n : Nat} {pl : Sem Bool} {Q : Value × List Value → Shared → Prop} (N : News h₀ L s.heap news) (hm : (D, W.listOf its n) ∈ news)
    (h : Q (.builtin "list.append", [.ref D]) s) : wpAny (model prog w) A (getMethod (.ref D) (Str.ofString "append") pl) Q E s :=
  listMethod_K N hm PySem.F.slot_list_append PySem.F.type_list_append h
end
local macro_rules | `(tactic| k_all) => `(tactic| first | assumption | (refine low_all (by assumption) ?_; (try dsimp only); omega) | (refine high_all (by assumption) ?_; (try dsimp only); omega))
local macro_rules
  | `(tactic| walk_at $s) =>
    if s.getString ∈ ["exec For Tuple Call", "exec For Tuple Name cons cons", "CompSrc", "subscriptTail Name Slice ref ref", "compareOp NotEq ref ref", "compareOp Eq ref ref", "exec For Name Call cons nil", "call builtin:dict.get", "compareOp In str str", "exec Assign cons ListComp", "eval ListComp"] then `(tactic| refine Halt.out ?_)
    else if s.getString ∈ ["call ref", "subscriptTail", "eval List", "call type:str", "eval Tuple", "CompRest", "CompEnd"] then `(tactic| with_reducible (refine Stop.out $s ?_ ?_; assumption))
    else if s.getString == "callWith" then `(tactic| first | with_reducible refine PyProof.Rows.callWith_method0 ?_ | with_reducible refine PyProof.Rows.callWith_builtin1 ?_ (by with_unfolding_all rfl) (by with_unfolding_all rfl) | with_reducible refine PyProof.Rows.callWith_method1 ?_ (by with_unfolding_all rfl) (by with_unfolding_all rfl))
    else if s.getString ∈ ["callWith ref", "getMethod ref"] then `(tactic| (k_here; k_dflt (first | ((with_reducible refine' append_K ?a ?b ?_); (case a => k_asm); (case b => k_mem)) | with_reducible (refine Stop.out $s ?_ ?_; assumption) | (refine' callWith_K ?a ?b ?_; (case a => k_asm); (case b => k_is); k_whole))))
    else Lean.Macro.throwUnsupported
section
section
variable {α : Type} {prog : Program} {w : World} {A : Around} {c : Code} {E : Value → Shared → Prop} {s : Shared}
theorem at_spliced_nil {Q : List Value → Shared → Prop} (h : Q [] s) : _root_.PySem.wpAt (model prog w) A c (spliced []) Q E s := _root_.PySem.wpAt_of_wpAny (Calls.spliced_nil h)
theorem at_spliced_cons {x : Sem Value} {rest : List (Bool × Sem Value)} {Q : List Value → Shared → Prop}
    (h : _root_.PySem.wpAt (model prog w) A c x (fun v s₁ => _root_.PySem.wpAt (model prog w) A c (spliced rest) (fun vs s₂ => Q (v :: vs) s₂) E s₁) E s) : _root_.PySem.wpAt (model prog w) A c (spliced ((false, x) :: rest)) Q E s := by
  rw [spliced]
  refine _root_.PySem.wpAt_bind (ks_wpAt_mono h (fun v s₁ h₁ => ?_) fun _ _ x => x)
  simp only [Bool.false_eq_true, if_false]
  exact _root_.PySem.wpAt_bind (_root_.PySem.wpAt_of_wpAny (wpAny_pure (_root_.PySem.wpAt_bind (ks_wpAt_holding (ks_wpAt_mono h₁ (fun vs s₂ h₂ => _root_.PySem.wpAt_of_wpAny (wpAny_pure h₂)) fun _ _ x => x)))))
theorem at_callWith_builtin {pos : Pos} {id : String} {x : Sem Value} {rest : List (Bool × Sem Value)} {Q : Value → Shared → Prop} (hplain : rest.any (·.1) = false)
    (h : _root_.PySem.wpAt (model prog w) A c (spliced ((false, x) :: rest)) (fun vs s₁ => wpAny (model prog w) A (call (.builtin id) vs) Q E s₁) E s) :
    _root_.PySem.wpAt (model prog w) A c (callWith pos (.builtin id) [] ((false, x) :: rest) []) Q E s := by
  unfold callWith evalArgs
  refine _root_.PySem.wpAt_bind (ks_wpAt_holding ?_)
  show _root_.PySem.wpAt _ A c (spliced ((false, x) :: rest) >>= _) _ _ s
  refine _root_.PySem.wpAt_bind (ks_wpAt_mono h (fun vs s₁ h₁ => ?_) fun _ _ x => x)
  refine ks_wpAt_holding (_root_.PySem.wpAt_of_wpAny (wpAny_bind (wpAny_pure (wpAny_bind (wpAny_pure (wpAny_pure ?_))))))
  refine _root_.PySem.wpAt_of_wpAny (wpAny_bind (wpAny_standAt ?_))
  simp -iota only [hplain, List.any_nil, List.any_cons, Bool.or_false]
  refine wpAny_bind (wpAny_pure ?_)
  exact wpAny_bind (wpAny_mono h₁ (fun r s₂ hr => wpAny_bind (wpAny_holding (wpAny_point (wpAny_pure hr)))) fun _ _ x => x)
theorem at_CallCall {f : PySem.Expr} {as bs : List PySem.Expr} {p1 p2 : Pos} {env : Env} {Q : Value → Shared → Prop}
    (h : _root_.PySem.wpAt (model prog w) A c (eval (.Call f as [] p1) env) (fun v s₁ => wpAny (model prog w) A (callWith p2 v [] (backTo p2 (starEach bs env)) []) Q E s₁) E s) :
    _root_.PySem.wpAt (model prog w) A c (eval (.Call (.Call f as [] p1) bs [] p2) env) Q E s :=
  _root_.PySem.wpAt_bind (ks_wpAt_mono h (fun _ _ h₁ => _root_.PySem.wpAt_of_wpAny h₁) fun _ _ x => x)
theorem at_CallName {f : Str} {p0 p1 : Pos} {as : List PySem.Expr} {env : Env} {Q : Value → Shared → Prop}
    (h : wpAny (model prog w) A (eval (.Name f p0) env) (fun v s₁ => _root_.PySem.wpAt (model prog w) A c (callWith p1 v [] (backTo p1 (starEach as env)) []) Q E s₁) E s) :
    _root_.PySem.wpAt (model prog w) A c (eval (.Call (.Name f p0) as [] p1) env) Q E s :=
  _root_.PySem.wpAt_bind (_root_.PySem.wpAt_of_wpAny h)
theorem at_Attribute {v : PySem.Expr} {attr : Str} {pos : Pos} {env : Env} {Q : Value → Shared → Prop}
    (h : _root_.PySem.wpAt (model prog w) A c (attributeBase v attr env (eval v env)) (fun o s₁ => wpAny (model prog w) A (getAttr o attr true) Q E s₁) E s) :
    _root_.PySem.wpAt (model prog w) A c (eval (.Attribute v attr pos) env) Q E s :=
  _root_.PySem.wpAt_bind (ks_wpAt_mono h (fun _ _ h₁ => _root_.PySem.wpAt_of_wpAny (wpAny_bind (wpAny_standAt (wpAny_bind (wpAny_holding (wpAny_mono h₁ (fun r s₂ hr => wpAny_bind (wpAny_letTemporaryGo (wpAny_pure hr))) fun _ _ x => x)))))) fun _ _ x => x)
end
section
variable {h₀ h h' : Heap} {L b : Addr} {m : Str → Option Value} {news : List (Addr × Obj)} {o o' : Obj} {g : Obj → List (Addr × Obj)}
theorem upd_mem (U : UpdF b o news g) : (b, o) ∈ news := by
  obtain ⟨pre, post, rfl, hg, h1, h2⟩ := U.split
  exact List.mem_append_right _ (.head _)
theorem led_upd (F : Fr h₀ L h m) (N : News h₀ L h news) (U : UpdF b o news g) (hb' : h'.get? b = some o') (hs : Heap.SameBut b h h') : Fr h₀ L h' m ∧ News h₀ L h' (g o') := by
  obtain ⟨pre, post, rfl, hg, h1, h2⟩ := U.split
  have hm := N (b, o) (List.mem_append_right _ (.head _))
  have k0 : ∀ a o, h₀.get? a = some o → h'.get? a = some o := fun a oo e => (hs.2 a fun q => by rw [q, hm.2.2] at e; cases e).trans (F.keep a oo e)
  obtain ⟨oL, es, ep, hL, r⟩ := F.ns
  refine ⟨⟨⟨oL, es, ep, (hs.2 L fun q => hm.2.1 q.symm).trans hL, r⟩, k0, F.above⟩, ?_⟩
  rw [hg]
  intro p hp
  rcases List.mem_append.mp hp with hp | hp
  · exact ⟨(hs.2 _ (h1 p hp)).trans (N p (List.mem_append_left _ hp)).1, (N p (List.mem_append_left _ hp)).2⟩
  · rcases List.mem_cons.mp hp with rfl | hp
    · exact ⟨hb', hm.2⟩
    · exact ⟨(hs.2 _ (h2 p hp)).trans (N p (List.mem_append_right _ (.tail _ hp))).1, (N p (List.mem_append_right _ (.tail _ hp))).2⟩
theorem led_set {l1 l2 : List (Addr × Obj)} {d : Addr} (F : Fr h₀ L h m) (N : News h₀ L h (l1 ++ (d, o) :: l2)) (h1 : ∀ p ∈ l1, p.1 ≠ d) (h2 : ∀ p ∈ l2, p.1 ≠ d) (hb' : h'.get? d = some o') (hs : Heap.SameBut d h h') : Fr h₀ L h' m ∧ News h₀ L h' (l1 ++ (d, o') :: l2) := by
  have hm := N (d, o) (List.mem_append_right _ (.head _))
  have k0 : ∀ a o, h₀.get? a = some o → h'.get? a = some o := fun a oo e => (hs.2 a fun q => by rw [q, hm.2.2] at e; cases e).trans (F.keep a oo e)
  obtain ⟨oL, es, ep, hL, r⟩ := F.ns
  refine ⟨⟨⟨oL, es, ep, (hs.2 L fun q => hm.2.1 q.symm).trans hL, r⟩, k0, F.above⟩, ?_⟩
  intro p hp
  rcases List.mem_append.mp hp with hp | hp
  · exact ⟨(hs.2 _ (h1 p hp)).trans (N p (List.mem_append_left _ hp)).1, (N p (List.mem_append_left _ hp)).2⟩
  · rcases List.mem_cons.mp hp with rfl | hp
    · exact ⟨hb', hm.2⟩
    · exact ⟨(hs.2 _ (h2 p hp)).trans (N p (List.mem_append_right _ (.tail _ hp))).1, (N p (List.mem_append_right _ (.tail _ hp))).2⟩
theorem news_fresh {p : Addr} (F : Fr h₀ L h m) (N : News h₀ L h news) (k : ∀ a o, h.get? a = some o → h'.get? a = some o) (ho : h'.get? p = some o) (hp : ∀ a o, h.get? a = some o → a < p) : News h₀ L h' ((p, o) :: news) := by
  intro q hq
  rcases List.mem_cons.mp hq with rfl | hq
  · obtain ⟨oL, es, ep, hL, r⟩ := F.ns
    refine ⟨ho, Nat.ne_of_gt (hp _ _ hL), ?_⟩
    cases e : h₀.get? p with
    | none => rfl
    | some o' => exact absurd (hp _ _ (F.keep _ _ e)) (Nat.lt_irrefl _)
  · exact ⟨k _ _ (N q hq).1, (N q hq).2⟩
theorem news_add {p : Addr} (F : Fr h₀ L h m) (N : News h₀ L h' news) (ho : h'.get? p = some o) (hp : ∀ a o, h.get? a = some o → a < p) : News h₀ L h' ((p, o) :: news) := by
  intro q hq
  rcases List.mem_cons.mp hq with rfl | hq
  · obtain ⟨oL, es, ep, hL, r⟩ := F.ns
    refine ⟨ho, Nat.ne_of_gt (hp _ _ hL), ?_⟩
    cases e : h₀.get? p with
    | none => rfl
    | some o' => exact absurd (hp _ _ (F.keep _ _ e)) (Nat.lt_irrefl _)
  · exact N q hq
end
end
section
theorem HasC.enter {Γ : Ctx} (h : HasC Γ) (c : Code) (hd : Option Value) (p : Pos) : HasC (Γ.enter c hd p) := by
  show (((Γ.code, p) :: Γ.below).map (·.1)).any _ = true
  rw [List.map_cons, List.any_cons, Bool.or_eq_true]
  exact .inr h
theorem HasC.goto {Γ : Ctx} (h : HasC Γ) (c : Code) : HasC (Γ.goto c) := h
noncomputable def wpC {α : Type} (M : Model) (A : Around) (t : Sem α) (Q : α → Shared → Prop) (E : Value → Shared → Prop) (s : Shared) : Prop :=
  ∀ Γ p, HasC Γ → Γ.In A → Sem.wp M Γ t (fun a _ s' => Q a s') (fun e _ s' => E e s') p s
section
variable {α β : Type} {M : Model} {A : Around} {E : Value → Shared → Prop} {s : Shared} {c : Code} {R : Result → Shared → Prop}
theorem wpC_of {t : Sem α} {Q : α → Shared → Prop} (h : wpAny M A t Q E s) : wpC M A t Q E s := fun Γ p _ hΓ => h Γ p hΓ
theorem codeC_of (h : codeAny M A c R s) : codeC M A c R s := fun Γ p hc _ hΓ => h Γ p hc hΓ
theorem wpC_mono {t : Sem α} {Q Q' : α → Shared → Prop} {E' : Value → Shared → Prop} (h : wpC M A t Q E s) (hQ : ∀ a s, Q a s → Q' a s) (hE : ∀ e s, E e s → E' e s) : wpC M A t Q' E' s :=
  fun Γ p hh hΓ => Sem.wp_mono M Γ t (fun a _ s => hQ a s) (fun e _ s => hE e s) p s (h Γ p hh hΓ)
theorem wpC_bind {m : Sem α} {f : α → Sem β} {Q : β → Shared → Prop} (h : wpC M A m (fun a s' => wpC M A (f a) Q E s') E s) : wpC M A (m >>= f) Q E s := fun Γ p hh hΓ => by
  rw [Sem.wp_bind']
  exact Sem.wp_mono M Γ m (fun a p' s' h' => h' Γ p' hh hΓ) (fun _ _ _ h' => h') p s (h Γ p hh hΓ)
theorem wpC_holding {vs : List Value} {m : Sem α} {Q : α → Shared → Prop} (h : wpC M A m Q E s) : wpC M A (holding vs m) Q E s := fun Γ p hh hΓ => by rw [Sem.wp_holding]; exact h Γ p hh hΓ
theorem wpC_keep {vs : List Value} {m : Sem α} {Q : α → Shared → Prop} (h : wpC M A m Q E s) : wpC M A (m.keep vs) Q E s := fun Γ p hh hΓ => by rw [Sem.wp_keep]; exact h Γ p hh hΓ
theorem wpC_onRaise {m : Sem α} {k : Value → Sem Unit} {Q : α → Shared → Prop} (h : wpC M A m Q (fun e s' => wpC M A (k e) (fun _ s'' => E e s'') E s') s) : wpC M A (m.onRaise k) Q E s := fun Γ p hh hΓ => by
  rw [Sem.wp_onRaise]
  exact Sem.wp_mono M Γ m (fun _ _ _ h' => h') (fun e p' s' h' => h' Γ p' hh hΓ) p s (h Γ p hh hΓ)
theorem wpC_runValue {Q : Value → Shared → Prop} (hc : codeC M A c (fun r s' => match r with | .ok (.ret v) => Q v s' | .ok _ => False | .error e => E e s') s) : wpC M A (runValue c) Q E s := fun Γ p hh hΓ => by
  rw [Sem.wp_runValue]; exact hc _ p rfl (hh.enter _ _ _) (hΓ.enter c none p (by intro x; cases x))
theorem wpC_call {f : Value} {pos : List Value} {kw : List (Str × Value)} {Q : Value → Shared → Prop}
    (hc : codeC M A (.call f ⟨pos, kw⟩) (fun r s' => match r with | .ok (.ret v) => Q v s' | .ok _ => False | .error e => E e s') s) : wpC M A (PySem.call f pos kw) Q E s := wpC_runValue hc
theorem codeC_mono {R' : Result → Shared → Prop} (h : codeC M A c R s) (hR : ∀ r s, R r s → R' r s) : codeC M A c R' s := fun Γ p hc hh hΓ => wpCode_mono hR (h Γ p hc hh hΓ)
theorem codeC_of_tree (h : wpC M (A.under c) (M.den c) (fun fin s' => match fin with | .done f => R (.ok f) s' | .again c' => c'.quiet = true ∧ codeC M A c' R s') (fun e s' => R (.error e) s') s) : codeC M A c R s := fun Γ p hc hh hΓ => by
  rw [wpCode_iff_wp, hc]
  refine Sem.wp_mono M Γ _ (fun fin p' s' h' => ?_) (fun _ _ _ h' => h') p s (h Γ p hh (hc ▸ hΓ.in))
  cases fin with
  | done f => exact h'
  | again c' => exact ⟨h'.1, h'.2 (Γ.goto c') p' rfl (hh.goto c') (hΓ.goto c')⟩
theorem wpC_stack {Q : List (Code × Pos) → Shared → Prop} (h : ∀ l, (l.map (·.1)).any (fun c => match c with | .builtin "claim.caller" _ => true | _ => false) = true → Q l s) : wpC M A stack Q E s := fun Γ p hh _ => by
  show Q ((Γ.code, p) :: Γ.below) s
  refine h _ ?_
  rw [List.map_cons, List.any_cons, Bool.or_eq_true]
  exact .inr hh
end
end
section
section
variable {prog : Program} {w : World} {A A₀ : Around} {s : Shared} {R : Result → Shared → Prop} {env : Env}
theorem codeC_func {body : List Stmt}
    (h : wpC (model prog w) (A.deeper env) (execs body env) (fun f s' => R (.ok (.ret (match f with | .ret v => v | _ => .none))) s')
      (fun e s' => wpAny (model prog w) (A.deeper env) (leaving env e) (fun _ s'' => R (.error e) s'') (fun e' s'' => R (.error e') s'') s') s) : codeC (model prog w) A (.func body env) R s := by
  refine codeC_of_tree ?_
  show wpC _ (A.deeper env) (do point; match ← (execs body env).onRaise (leaving env) with | .ret v => ret v | _ => ret .none) _ _ s
  refine wpC_bind (wpC_of (wpAny_point ?_))
  refine wpC_bind (wpC_onRaise (wpC_mono h (fun f s' h' => ?_) fun _ _ h' => wpC_of h'))
  cases f <;> exact wpC_of (wpAny_pure h')
theorem codeC_call_function {a : Addr} {args : Args} {o : Obj} {fd : FuncData} {body : List Stmt} (hroom : A.depth < recursionLimit)
    (ho : s.heap.get? a = some o)
    (hd' : o.data = .func fd) (hco : fd.scope.isCoroutine = false) (hgen : fd.scope.isGenerator = false) (hbody : fd.body = .stmts body) (hcd : s.heap.CodeRec fd.code fd.qualname)
    (h : wpAny (model prog w) A.in1 (bindArgs fd args) (fun binds s₁ =>
      wpAny (model prog w) A.in1 (newFunctionEnv fd.scope fd.globals fd.closure binds (fd.qualname ++ ".<locals>.") (some a) fd.code none fd.builtins)
        (fun env s₂ => s₂.heap.NoLimit ∧ codeC (model prog w) A (.func body env) R s₂) (fun e s' => R (.error e) s') s₁) (fun e s' => R (.error e) s') s) :
    codeC (model prog w) A (.call (.ref a) args) R s := by
  refine codeC_of_tree (wpC_of ?_)
  show wpAny _ A.in1 (callAny (.ref a) args) _ _ s
  unfold callAny
  dsimp only
  refine wpAny_bind (wpAny_load ho ?_)
  refine hide fun G kG => ?_
  obtain ⟨c, oc, vs, tq, hc, hoc, hdc, hq⟩ := hcd
  refine kG ?_
  rw [hd']
  unfold callFunction
  dsimp only
  repeat (first | simp -iota only [hd', hco, hgen, hbody, hc] | dsimp only)
  rw [hc] at h
  refine wpAny_bind (m := field (.ref c) 1) (wpAny_field hoc hdc hq (wpAny_bind (wpAny_pure ?_)))
  exact wpAny_bind (wpAny_mono h (fun binds s₁ h₁ => wpAny_bind (wpAny_mono h₁ (fun env s₂ h₂ => wpAny_bind (wpAny_enterFrame h₂.1 hroom
    (wpAny_pure (And.intro rfl h₂.2)))) fun _ _ h' => h')) fun _ _ h' => h')
variable {K : Frag} {L : Addr} {h₀ base : Heap} {m mg mb : Str → Option Value} {news : List (Addr × Obj)} {p : Program} {loose : List Str} {mean : ExcName → Option Value}
theorem framed {outer : List Env} {name qual : Str} {params : Arguments} {body : List Stmt} {scope : Scope} {dV kV doc pm cdv ct oc : Value} {an od : Option Addr} {osl : Array (Option Value)} {f : Addr}
    {args : Args} {binds : List (Str × Value)} (B : Below A₀ base outer h₀) (F : Fr h₀ L s.heap m) (X₀ : K.In h₀) (N : News h₀ L s.heap news) (lim : h₀.NoLimit) (hA : A.frames = some (env :: outer)) (hf : env.frame = some L) (hke : env.scope.kind = .function)
    (ho : K.lookup f = some ⟨oc, od, .func (fnOf name qual params body scope dV kV doc pm an cdv ct), osl⟩) (hcd : codeIn K cdv qual = true) (hroom : A.depth < recursionLimit)
    (hbind : BindsTo s (fnOf name qual params body scope dV kV doc pm an cdv ct) args binds) (hloc : ∀ y ∈ binds, scope.names.lookup y.1 = some .local)
    (go : ∀ g h₁, Fr h₀ L g m → h₀.StaysIn g → (∀ v s', LeaveK h₀ L m g R v s' → R (.ok (.ret v)) s') → Below A base (env :: outer) g → Fr g s.heap.objs.size h₁ (fun y => binds.reverse.lookup y) → News g s.heap.objs.size h₁ news →
      codeC (model prog w) A (.func body (envOf qual scope s.heap.objs.size f cdv)) R { s with heap := h₁, toks := s.toks + binds.length })
    (hco : scope.isCoroutine = false) (hgen : scope.isGenerator = false) (hk : scope.kind = .function) (hcell : ∀ x ∈ scope.names, x.2 ≠ .cell) : codeC (model prog w) A (.call (.ref f) args) R s := by
  have up : h₀.StaysIn s.heap := F.keep
  refine hide fun G kG => ?_
  obtain ⟨FG, BG, st, lv⟩ := groundX (R := R) B F N hA hf hke
  refine kG ?_
  refine codeC_call_function hroom (X₀.keeps up _ _ ho) rfl hco hgen rfl (codeRec_of (X₀.keeps up) hcd) (hbind _ _ _ _ (wpAny_newFunctionEnv hcell hloc (fun h₁ ns same => ?_) hk))
  have on : s.heap.StaysIn h₁ := fun b o e => same.extBut b o (Nat.ne_of_lt (Heap.lt_size e)) (Heap.get?_push_of_some _ e)
  refine ⟨(lim.keeps up).fresh _ same, go _ h₁ FG st (fun v s' => lv v s') BG ⟨ns, fun b o e => on b o (of_hideAll _ e), Nat.le_of_eq (hideAll_size _ _)⟩ fun q hq => ?_⟩
  have z := (N q hq).1
  exact ⟨on _ _ z, Nat.ne_of_lt (Heap.lt_size z), hideAll_none _ (List.mem_map_of_mem hq)⟩
theorem low_news (N : News h₀ L s.heap news) : Low s.heap.objs.size news := fun q hq => Heap.lt_size (N q hq).1
theorem enterC {outer : List Env} {name qual : Str} {params : Arguments} {body : List Stmt} {scope : Scope} {dV kV doc pm cdv ct oc : Value} {an od : Option Addr} {osl : Array (Option Value)} {f : Addr}
    {args : Args} {binds : List (Str × Value)}
    (B : Below A₀ base outer h₀) (F : Fr h₀ L s.heap m) (X₀ : K.In h₀) (N : News h₀ L s.heap news) (T : Top p loose mean mg mb h₀) (hA : A.frames = some (env :: outer)) (hf : env.frame = some L) (hke : env.scope.kind = .function)
    (ho : K.lookup f = some ⟨oc, od, .func (fnOf name qual params body scope dV kV doc pm an cdv ct), osl⟩) (hcd : codeIn K cdv qual = true) (hroom : A.depth < recursionLimit)
    (hbind : BindsTo s (fnOf name qual params body scope dV kV doc pm an cdv ct) args binds) (hloc : ∀ y ∈ binds, scope.names.lookup y.1 = some .local)
    (h : ∀ g L' h₁, Fr h₀ L g m → Fr g L' h₁ (fun y => binds.reverse.lookup y) → News g L' h₁ news → Below A base (env :: outer) g → K.In g → Top p loose mean mg mb g → Low L' news →
      wpC (model prog w) (A.deeper (envOf qual scope L' f cdv)) (execs body (envOf qual scope L' f cdv))
        (fun fl s' => LeaveK h₀ L m g R (match fl with | .ret v => v | _ => .none) s')
        (fun e s' => wpAny (model prog w) (A.deeper (envOf qual scope L' f cdv)) (leaving (envOf qual scope L' f cdv) e) (fun _ s'' => R (.error e) s'') (fun e' s'' => R (.error e') s'') s')
        { s with heap := h₁, toks := s.toks + binds.length })
    (hco : scope.isCoroutine = false) (hgen : scope.isGenerator = false) (hk : scope.kind = .function)
    (hcell : ∀ x ∈ scope.names, x.2 ≠ .cell) : codeC (model prog w) A (.call (.ref f) args) R s :=
  framed B F X₀ N T.nolimit hA hf hke ho hcd hroom hbind hloc (fun g h₁ FG st lv BG F' N' => codeC_func (wpC_mono (h g _ h₁ FG F' N' BG (X₀.keeps st) (T.keeps st) (low_news N)) (fun _ _ y => lv _ _ y) fun _ _ y => y)) hco hgen hk hcell
end
end
section
section
variable {prog : Program} {w : World} {A : Around} {E : Value → Shared → Prop} {s : Shared} {env : Env}
theorem wpC_attempt {α : Type} {m : Sem α} {Q : Except Value α → Shared → Prop} (h : wpC (model prog w) A m (fun a => Q (.ok a)) (fun e => Q (.error e)) s) : wpC (model prog w) A m.attempt Q E s := fun Γ p hh hΓ => by
  rw [Sem.wp_attempt]; exact h Γ p hh hΓ
theorem wpC_Try {body orelse : List Stmt} {h₀ : ExceptHandler} {hs : List ExceptHandler} {pos : Pos} {Q : Flow → Shared → Prop}
    (h : wpC (model prog w) A (execs body env) (fun f s₁ => match f with | .next => wpC (model prog w) A (execs orelse env) Q E s₁ | f => Q f s₁)
      (fun e s₁ => wpAny (model prog w) A (noteFrame e env) (fun _ s₂ => wpAny (model prog w) A (setFlight e none) (fun _ s₃ => wpAny (model prog w) A (handleBy e env (h₀ :: hs)) Q E s₃) E s₂) E s₁) s) :
    wpC (model prog w) A (exec (.Try body (h₀ :: hs) orelse [] pos) env) Q E s := by
  rw [arm_exec_Try]
  refine wpC_bind (wpC_of (wpAny_standAt ?_))
  unfold tryStmt
  simp -iota only [List.isEmpty_nil, if_true, List.isEmpty_cons, Bool.false_and, Bool.false_eq_true, if_false]
  refine wpC_bind (wpC_attempt (wpC_mono h (fun f s₁ h₁ => ?_) fun e s₁ h₁ => ?_))
  · cases f <;> first | exact h₁ | exact wpC_of (wpAny_pure h₁)
  · exact wpC_of (wpAny_bind (wpAny_mono h₁ (fun _ _ h₂ => wpAny_bind h₂) fun _ _ x => x))
theorem wpC_execs_cons {st : Stmt} {rest : List Stmt} {Q : Flow → Shared → Prop} (h : wpC (model prog w) A (exec st env) (fun f s' => match f with | .next => wpC (model prog w) A (execs rest env) Q E s' | f => Q f s') E s) :
    wpC (model prog w) A (execs (st :: rest) env) Q E s := by
  show wpC _ _ (exec st env >>= _) _ _ _
  refine wpC_bind (wpC_mono h (fun f s' h' => ?_) fun _ _ x => x)
  cases f <;> first | exact h' | exact wpC_of (wpAny_pure h')
end
section
variable {prog : Program} {w : World} {A : Around} {E : Value → Shared → Prop} {s : Shared} {env : Env}
theorem wpC_Return {e : PySem.Expr} {pos : Pos} {Q : Flow → Shared → Prop} (h : wpC (model prog w) A (eval e env) (fun v => Q (.ret v)) E s) : wpC (model prog w) A (exec (.Return (some e) pos) env) Q E s := fun Γ p hh hΓ => by
  simp only [exec_Return_some, Sem.wp_bind', Sem.wp_cmd_standAt, Sem.wp_pure']; exact h Γ _ hh hΓ
theorem wpC_Assign_Name {x : Str} {pos' pos : Pos} {value : PySem.Expr} {Q : Flow → Shared → Prop} (h : wpC (model prog w) A (eval value env) (fun v s₁ => wpAny (model prog w) A (storeName env x v) (fun _ => Q .next) E s₁) E s)
    (hs : swapsWith value (some (.Name x pos')) pos.line env = pure false := by rfl) : wpC (model prog w) A (exec (.Assign [.Name x pos'] value pos) env) Q E s := fun Γ p hh hΓ => by
  simp only [exec_Assign_Name env x pos' value pos hs, Sem.wp_bind', Sem.wp_cmd_standAt, Sem.wp_bindName, Sem.wp_pure']
  exact Sem.wp_mono _ Γ _ (fun v _ s₁ h₁ => h₁ Γ _ hΓ) (fun _ _ _ h' => h') _ _ (h Γ _ hh hΓ)
theorem wpC_MethodCall {o : PySem.Expr} {name : Str} {apos pos : Pos} {args : List PySem.Expr} {pl : Sem Bool} {Q : Value → Shared → Prop}
    (h : wpAny (model prog w) A (attributeBase o name env (eval o env)) (fun ov s₁ => wpAny (model prog w) A (getMethod ov name pl) (fun fx s₂ => wpC (model prog w) A (callWith pos fx.1 fx.2 (backTo pos (starEach args env)) []) Q E s₂) E s₁) E s)
    (he : eval (.Call (.Attribute o name apos) args [] pos) env = (do
      let ov ← attributeBase o name env (eval o env)
      standAt apos.atName
      let (f, first) ← holding [ov] (getMethod ov name pl)
      callWith pos f first (backTo pos (starEach args env)) []) := by rfl) :
    wpC (model prog w) A (eval (.Call (.Attribute o name apos) args [] pos) env) Q E s := by
  rw [he]
  refine wpC_bind (wpC_of (wpAny_mono h (fun ov s₁ h₁ => ?_) fun _ _ x => x))
  refine wpC_bind (wpC_of (wpAny_standAt ?_))
  refine wpC_bind (wpC_of (wpAny_holding (wpAny_mono h₁ (fun fx s₂ h₂ => ?_) fun _ _ x => x)))
  exact h₂
theorem wpC_callWith {f : Value} {first : List Value} {pos : Pos} {Q : Value → Shared → Prop} {P : Heap → Prop} {args : List (Bool × Sem Value)} {keywords : List (Option Str × Sem Value)}
    (hk : ∀ h, P h → ∃ k, (k = Keeper.frame ∨ k = Keeper.machine ∨ k = Keeper.boundFrame) ∧ Looks (model prog w) h (keeperOf f) k)
    (h : wpAny (model prog w) A (evalArgs f true args keywords) (fun a s₁ => P s₁.heap ∧ wpC (model prog w) A (PySem.call f (first ++ a.pos) a.kw) Q E s₁) E s) : wpC (model prog w) A (callWith pos f first args keywords) Q E s := by
  unfold callWith
  refine wpC_bind (wpC_of (wpAny_holding (wpAny_mono h (fun a s₁ h₁ => ?_) fun _ _ x => x)))
  refine wpC_bind (wpC_of (wpAny_standAt ?_))
  obtain ⟨k, hk', L⟩ := hk _ h₁.1
  refine wpC_bind (wpC_of (L.here ?_))
  have tail : ∀ {t : Sem Value}, wpC (model prog w) A t Q E s₁ → wpC (model prog w) A (t >>= fun r => holding [r] point >>= fun _ => pure r) Q E s₁ :=
    fun ht => wpC_bind (wpC_mono ht (fun r s₂ hr => wpC_of (wpAny_bind (wpAny_holding (wpAny_point (wpAny_pure hr))))) fun _ _ x => x)
  have marked (mk : Value) : wpC (model prog w) A (callMarked mk f (first ++ a.pos) a.kw) Q E s₁ := by unfold callMarked; exact wpC_keep h₁.2
  have oper (os : List Value) : wpC (model prog w) A (operate os (PySem.call f (first ++ a.pos) a.kw)) Q E s₁ := by
    intro Γ p hh hΓ
    rw [Sem.wp_operate]
    exact h₁.2 Γ p hh hΓ
  cases hst : (args.any (·.1) || keywords.any (·.1.isNone)) <;>
  rcases hk' with rfl | rfl | rfl <;> dsimp only <;> first | exact tail h₁.2 | exact tail (marked _) | exact tail (oper _) | (split <;> first | exact tail h₁.2 | exact tail (marked _))
end
end
section
section
variable {M : Model} {A : Around} {c : Code} {R : Result → Shared → Prop} {s : Shared}
theorem codeC_loop (hq : c.quiet = true) (I : Nat → Shared → Prop)
    (turn : ∀ n s, I n s → wpC M (A.under c) (M.den c)
      (fun fin s' => match fin with
        | .done f => R (.ok f) s'
        | .again c' => (c' = c ∧ ∃ m, m < n ∧ I m s') ∨ (c'.quiet = true ∧ codeC M A c' R s')) (fun e s' => R (.error e) s') s)
    (n : Nat) (h : I n s) : codeC M A c R s := by
  induction n using Nat.strongRecOn generalizing s with
  | ind n ih =>
    refine codeC_of_tree (wpC_mono (turn n s h) (fun fin s' hf => ?_) fun _ _ h' => h')
    rcases fin with f | c'
    · exact hf
    · rcases hf with ⟨rfl, m, hm, hI⟩ | hf
      · exact ⟨hq, ih m hm hI⟩
      · exact hf
end
noncomputable def TurnsC (M : Model) (A : Around) (env : Env) (target : PySem.Expr) (body : List Stmt) (it : Value) (Q : Flow → Shared → Prop) (I : Nat → Shared → Prop) : Prop :=
  ∀ n s, I n s → wpAny M A (pyNext it) (fun r s₁ => match r with
    | none => Q .next s₁
    | some v => wpAny M A (letOwnedTupleGo target it v) (fun _ s₂ => wpAny M A (assign target env v) (fun _ s₃ => wpC M A (execs body env) (fun f s₄ => match f with
        | .next | .cont => ∃ m, m < n ∧ I m s₄
        | .brk => Q .next s₄
        | .ret v => Q (.ret v) s₄) (fun _ _ => False) s₃) (fun _ _ => False) s₂) (fun _ _ => False) s₁) (fun _ _ => False) s
noncomputable def TurnsA (M : Model) (A : Around) (env : Env) (target : PySem.Expr) (body orelse : List Stmt) (it : Value) (Q : Flow → Shared → Prop) (I : Nat → Shared → Prop) : Prop :=
  ∀ n s, I n s → wpAny M A (pyNext it) (fun r s₁ => match r with
    | none => wpAny M A (execs orelse env) Q (fun _ _ => False) s₁
    | some v => wpAny M A (letOwnedTupleGo target it v) (fun _ s₂ => wpAny M A (assign target env v) (fun _ s₃ => wpAny M A (execs body env) (fun f s₄ => match f with
        | .next | .cont => ∃ m, m < n ∧ I m s₄
        | .brk => Q .next s₄
        | .ret v => Q (.ret v) s₄) (fun _ _ => False) s₃) (fun _ _ => False) s₂) (fun _ _ => False) s₁) (fun _ _ => False) s
section
variable {prog : Program} {w : World} {A : Around} {E : Value → Shared → Prop} {s : Shared} {env : Env}
theorem wpC_run {c : Code} {hd : Option Value} {Q : Flow → Shared → Prop} (hc : codeC (model prog w) (A.mark hd) c (fun r s' => match r with | .ok f => Q f s' | .error e => E e s') s) (hnb : hd ≠ some byPass := by intro x; cases x) :
    wpC (model prog w) A (run c hd) Q E s := fun Γ p hh hΓ => by rw [Sem.wp_run]; exact hc _ p rfl (hh.enter _ _ _) (hΓ.enter c hd p hnb)
theorem wpC_For {target iter : PySem.Expr} {body : List Stmt} {pos : Pos} {Q : Flow → Shared → Prop}
    (h : wpAny (model prog w) A (eval iter env) (fun x s₁ => wpAny (model prog w) A (pyIter x) (fun it s₂ => ∃ I n, I n s₂ ∧ TurnsC (model prog w) A env target body it Q I) E s₁) E s)
    (hs : ∀ x, foldedSetIterable iter env x = pure x := by intro _; rfl) : wpC (model prog w) A (exec (.For target iter body [] pos) env) Q E s := by
  rw [exec_For]
  refine wpC_bind (wpC_of (wpAny_standAt (wpC_bind (wpC_of (wpAny_mono h (fun x s₁ h₁ => ?_) fun _ _ x => x)))))
  refine wpC_bind (wpC_of (wpAny_of_eq (hs x) (wpC_bind (wpC_of (wpAny_standAt (wpC_bind (wpC_of (wpAny_holding (wpAny_mono h₁ (fun it s₂ h₂ => ?_) fun _ _ x => x)))))))))
  obtain ⟨I, n, h0, T⟩ := h₂
  unfold runOwn
  refine wpC_onRaise (wpC_mono (Q := Q) (E := fun _ _ => False) (wpC_run ?_) (fun _ _ x => x) fun _ _ x => x.elim)
  refine codeC_loop rfl I (fun n s hI => ?_) n h0
  show wpC _ A ((forTurn target it body [] env).onRaise (fun x => do noteFrame x env; theTreesLotGoes x)) _ _ s
  refine wpC_onRaise (wpC_mono (Q := _) (E := fun _ _ => False) ?_ (fun _ _ x => x) fun _ _ x => x.elim)
  unfold forTurn
  refine wpC_bind (wpC_of (wpAny_standAt (wpC_bind (wpC_of (wpAny_onRaise (wpAny_mono (T n s hI) (fun r s₁ h₁ => ?_) fun _ _ x => x.elim))))))
  rcases r with _ | v
  · exact wpC_of (wpAny_pure (.inr ⟨rfl, codeC_of (codeAny_block (wpAny_execs_nil h₁))⟩))
  · refine wpC_bind (wpC_of (wpAny_mono h₁ (fun _ s₂ h₂ => ?_) fun _ _ x => x.elim))
    refine wpC_bind (wpC_of (wpAny_mono h₂ (fun _ s₃ h₃ => ?_) fun _ _ x => x.elim))
    refine wpC_bind (wpC_mono h₃ (fun f s₄ h₄ => ?_) fun _ _ x => x.elim)
    rcases f with _ | _ | _ | v
    · exact wpC_of (wpAny_pure (.inl ⟨rfl, h₄⟩))
    · exact wpC_of (wpAny_pure h₄)
    · exact wpC_of (wpAny_pure (.inl ⟨rfl, h₄⟩))
    · exact wpC_of (wpAny_pure h₄)
theorem wpAny_ForI {target iter : PySem.Expr} {body orelse : List Stmt} {pos : Pos} {Q : Flow → Shared → Prop}
    (h : wpAny (model prog w) A (eval iter env) (fun x s₁ => wpAny (model prog w) A (pyIter x) (fun it s₂ => ∃ I n, I n s₂ ∧ TurnsA (model prog w) A env target body orelse it Q I) E s₁) E s)
    (hs : ∀ x, foldedSetIterable iter env x = pure x := by intro _; rfl) : wpAny (model prog w) A (exec (.For target iter body orelse pos) env) Q E s := by
  refine wpAny_For (wpAny_mono h (fun x s₁ h₁ => wpAny_mono h₁ (fun it s₂ h₂ => ?_) fun _ _ x => x) fun _ _ x => x) hs
  obtain ⟨I, n, h0, T⟩ := h₂
  refine codeAny_forLoop_any I (fun n s hI => ?_) n h0
  refine wpAny_mono (T n s hI) (fun r s₁ h₁ => ?_) fun _ _ x => x.elim
  rcases r with _ | v
  · exact wpAny_mono h₁ (fun _ _ x => x) fun _ _ x => x.elim
  · exact wpAny_mono h₁ (fun _ s₂ h₂ => wpAny_mono h₂ (fun _ s₃ h₃ => wpAny_mono h₃ (fun f s₄ h₄ => by cases f <;> exact h₄) fun _ _ x => x.elim) fun _ _ x => x.elim) fun _ _ x => x.elim
end
end
section
theorem kn_point (w : World) {s' s₁ : Shared} {cw : ClaimW} {cl : Str → Option Addr} {mean : ExcName → Option Value} {args : List WData} {tabs : List (Addr × Addr)} {r : Result} (hT : TabsAt tabs s₁.heap) (hr : ∀ a x, cw.raises a x = false)
    (h : GoodW cw cl mean args { s₁ with heap := ghostOf s₁.heap tabs } r s' ∧ GrownAll tabs s'.heap) : GoodWG cw cl mean args s₁ r s' := by
  have key := kn_post (M := ⟨fun _ => match r with | .ok f => pure (.done f) | .error e => throw e, default, w⟩) (A := {}) (cd := .builtin "" {}) (s := s') hT hr (codeAny_of_tree (by
    cases r with
    | ok f => exact wpAny_pure h
    | error e => exact wpAny_throw h))
  have hb : (⟨.builtin "" {}, none, none, [], none⟩ : Ctx).Below {} := by
    refine ⟨rfl, Nat.zero_le _, ?_, ?_, Nat.zero_le _⟩
    · intro l e
      cases e
    · intro l e
      cases e
  have z := key ⟨.builtin "" {}, none, none, [], none⟩ default rfl hb
  rw [wpCode_iff_wp] at z
  cases r with
  | ok f => exact z
  | error e => exact z
theorem kn_postC {prog : Program} {w : World} {A : Around} {c : Code} {s s₁ : Shared} {cw : ClaimW} {cl : Str → Option Addr} {mean : ExcName → Option Value} {args : List WData} {tabs : List (Addr × Addr)} (hT : TabsAt tabs s₁.heap) (hr : ∀ a x, cw.raises a x = false)
    (h : codeC (model prog w) A c (fun r s' => GoodW cw cl mean args { s₁ with heap := ghostOf s₁.heap tabs } r s' ∧ GrownAll tabs s'.heap) s) : codeC (model prog w) A c (GoodWG cw cl mean args s₁) s :=
  codeC_mono h fun r s' g => kn_point w hT hr g
section
variable {prog : Program} {w : World} {A : Around} {s : Shared} {R : Result → Shared → Prop}
theorem codeC_def {name : Str} {params : Arguments} {body : List Stmt} {scope : Scope} {dV kV pm cd doc : Value} {a : Addr} {o : Obj} {args : Args} {binds : List (Str × Value)}
    (hroom : A.depth < recursionLimit) (ho : s.heap.get? a = some o) (hdata : o.data = .func { Calls.docDef name params body scope pm cd doc with defaults := dV, kwdefaults := kV }) (hlim : s.heap.NoLimit) (hcd : s.heap.CodeRec cd name)
    (hbind : BindsTo s { Calls.docDef name params body scope pm cd doc with defaults := dV, kwdefaults := kV } args binds) (hloc : ∀ x ∈ binds, scope.names.lookup x.1 = some .local)
    (h : ∀ h₁, Fr s.heap s.heap.objs.size h₁ (fun x => binds.reverse.lookup x) →
      wpC (model prog w) (A.deeper (envOf name scope s.heap.objs.size a cd)) (execs body (envOf name scope s.heap.objs.size a cd)) (fun f s' => R (.ok (.ret (match f with | .ret v => v | _ => .none))) s') (fun _ _ => False) { s with heap := h₁, toks := s.toks + binds.length })
    (hco : scope.isCoroutine = false) (hgen : scope.isGenerator = false) (hk : scope.kind = .function) (hcell : ∀ x ∈ scope.names, x.2 ≠ .cell) : codeC (model prog w) A (.call (.ref a) args) R s := by
  refine codeC_call_function hroom ho hdata hco hgen rfl hcd (hbind _ _ _ _ ?_)
  refine wpAny_newFunctionEnv hcell hloc (fun h₁ hns hsb => ⟨hlim.fresh _ hsb, codeC_func (wpC_mono (h h₁ ⟨hns, fun b o e => ?_, Nat.le_refl _⟩) (fun _ _ x => x) fun _ _ x => x.elim)⟩) hk
  exact hsb.extBut b o (Nat.ne_of_lt (Heap.lt_size e)) (Heap.get?_push_of_some _ e)
end
noncomputable def lawBody (k : Frag) : List Stmt := match k.lookup 313 with
  | some ⟨_, _, .func fd, _⟩ => (match fd.body with | .stmts b => b | _ => [])
  | _ => []
noncomputable def lawScope (k : Frag) : Scope := match k.lookup 313 with
  | some ⟨_, _, .func fd, _⟩ => fd.scope
  | _ => default
noncomputable abbrev LawWalks : Prop := ∀ (w : World) (mean : ExcName → Option Value) (mg mb : Str → Option Value) (g : Heap) (s : Shared) (L fa l : Nat) (cd : Value) (vs : List Value) (ns : List Int),
  Below callerA g [] g → Fr g L s.heap (fun x => List.lookup x [(Str.ofString "script", Value.ref l)]) → (hd.heap_39 w.params).In g → News g L s.heap [(100, tabObj #[]), (288, tabObj #[])] → Top topProg looseL mean mg mb g → CodeHd g 104 100 → CodeHd g 290 288 → 314 ≤ L →
  g.IsList l vs.toArray → IntsAre vs ns → ns.length ≤ 63 →
  wpC (model Challenge.rw_in0190_01.row.prog w) (callerA.deeper (envOf (Str.ofString "law") (lawScope (hd.heap_39 w.params)) L fa cd)) (execs (lawBody (hd.heap_39 w.params)) (envOf (Str.ofString "law") (lawScope (hd.heap_39 w.params)) L fa cd))
    (fun f s' => f = .ret (.bool true) ∧ ∃ (h : Heap) (tk : Nat) (m : Str → Option Value) (p q : Array Value), s' = { s with heap := h, toks := tk } ∧ Fr g L h m ∧ News g L h [(100, tabObj p), (288, tabObj q)]) (fun _ _ => False) s
theorem law_of (H : LawWalks) : PySem.Challenge.rw_in0190_01.Holds := by
  refine hd (d := ⟨_, _, _, _, _⟩) rfl ?_
  k_fill
  intro w s₀ s₁ mg mb G Y fa o pm cd doc dV kV ho hd hcd hD hmg hg args vals as hpre hlay hrd hwl hlo
  have KX := km_in_of Y
  km_tabs Y
  have X := (Ground.X G).1
  have V := (Ground.X G).2
  refine Ground.open G ?_
  intro T B D TE TW
  try (refine guard_noD D (by decide +kernel) ?_; clear D)
  km_lay T hmg ho hd cd
  have he := Dflts.none hD rfl
  subst he
  have he := Dflts.noKw hD
  subst he
  clear hD hmg
  wrow_args hpre hlay hrd hwl hlo
  refine kn_postC hT9 (fun _ _ => rfl) ?_
  refine codeC_def (by decide) ho hd (Top.nolimit T) hcd (BindsTo.of_eq rfl) (locs rfl) (fun h₁ F => ?_) rfl rfl rfl (by decide)
  have N0 := (News.nil : News _ _ _ []).at F
  have hL := Heap.lt_size (KX 313 _ rfl)
  kn_ghosts F T
  rename Fr _ _ _ _ => F'
  rename News _ _ _ _ => N'
  refine wpC_mono (H w _ mg mb _ _ _ fa _ cd _ _ (by assumption) F' (by assumption) N' (by assumption) (by assumption) (by assumption) hL (by assumption) (by assumption) ?_) (fun f s' z => ?_) fun _ _ z => z
  · rename ¬ _ => hc
    first | omega | (simp at hc; omega) | trace_state
  · obtain ⟨rfl, h, tk, m, p, q, rfl, F, N⟩ := z
    refine ⟨goodW_bool F (by exact hg) (fun _ => rfl) (postW_of (by wrow_shape) (by wtm_val) (by str_meet; first | done | w_fin)), ?_⟩
    exact ⟨⟨_, (N _ (.head _)).1⟩, ⟨_, (N _ (.tail _ (.head _))).1⟩, trivial⟩
end
section
theorem oct8 {c : Nat} (h1 : 48 ≤ c) (h2 : c < 56) : c = 48 ∨ c = 49 ∨ c = 50 ∨ c = 51 ∨ c = 52 ∨ c = 53 ∨ c = 54 ∨ c = 55 := by
  obtain ⟨k, rfl⟩ := Nat.exists_eq_add_of_le h1
  exact (by decide : ∀ k : Fin 8, 48 + k.val = 48 ∨ 48 + k.val = 49 ∨ 48 + k.val = 50 ∨ 48 + k.val = 51 ∨ 48 + k.val = 52 ∨ 48 + k.val = 53 ∨ 48 + k.val = 54 ∨ 48 + k.val = 55) ⟨k, Nat.lt_of_add_lt_add_left (n := 48) h2⟩
theorem oct2 {c : Nat} (h1 : 48 ≤ c) (h2 : c < 50) : c = 48 ∨ c = 49 := by
  obtain ⟨k, rfl⟩ := Nat.exists_eq_add_of_le h1
  exact (by decide : ∀ k : Fin 2, 48 + k.val = 48 ∨ 48 + k.val = 49) ⟨k, Nat.lt_of_add_lt_add_left (n := 48) h2⟩
theorem octI {x : Int} (h0 : 0 ≤ x) (h1 : x < 8) : x = 0 ∨ x = 1 ∨ x = 2 ∨ x = 3 ∨ x = 4 ∨ x = 5 ∨ x = 6 ∨ x = 7 := by
  obtain ⟨k, rfl⟩ := Int.eq_ofNat_of_zero_le h0
  exact (by decide : ∀ k : Fin 8, ((k.val : Nat) : Int) = 0 ∨ ((k.val : Nat) : Int) = 1 ∨ ((k.val : Nat) : Int) = 2 ∨ ((k.val : Nat) : Int) = 3 ∨ ((k.val : Nat) : Int) = 4 ∨ ((k.val : Nat) : Int) = 5 ∨ ((k.val : Nat) : Int) = 6 ∨ ((k.val : Nat) : Int) = 7) ⟨k, Int.ofNat_lt.mp h1⟩
theorem three {i : Nat} (h : i < 3) : i = 0 ∨ i = 1 ∨ i = 2 := (by decide : ∀ k : Fin 3, k.val = 0 ∨ k.val = 1 ∨ k.val = 2) ⟨i, h⟩
theorem ten {i : Nat} (h : i < 10) : i = 0 ∨ i = 1 ∨ i = 2 ∨ i = 3 ∨ i = 4 ∨ i = 5 ∨ i = 6 ∨ i = 7 ∨ i = 8 ∨ i = 9 := (by decide : ∀ k : Fin 10, k.val = 0 ∨ k.val = 1 ∨ k.val = 2 ∨ k.val = 3 ∨ k.val = 4 ∨ k.val = 5 ∨ k.val = 6 ∨ k.val = 7 ∨ k.val = 8 ∨ k.val = 9) ⟨i, h⟩
theorem sub_nil {α : Type} {B : List α} : ∀ p ∈ ([] : List α), p ∈ B := fun _ h => by cases h
theorem sub_cons {α : Type} {a : α} {A B : List α} (h : a ∈ B) (t : ∀ p ∈ A, p ∈ B) : ∀ p ∈ a :: A, p ∈ B := fun p hp => by
  cases hp with
  | head => exact h
  | tail _ hp => exact t p hp
theorem sub_app {α : Type} {A₁ A₂ B : List α} (h : ∀ p ∈ A₁, p ∈ B) (t : ∀ p ∈ A₂, p ∈ B) : ∀ p ∈ A₁ ++ A₂, p ∈ B := fun p hp => (List.mem_append.mp hp).elim (h p) (t p)
section
variable {prog : Program} {w : World} {A : Around} {E : Value → Shared → Prop} {s : Shared} {h₀ : Heap} {L : Addr} {m : Str → Option Value} {env : Env}
noncomputable def SrcTup (ax : Addr) (its : Array Value) (nw : List (Addr × Obj)) : Prop := False ∨ ∃ o, (ax, o) ∈ nw ∧ o.cls = .type "tuple" ∧ ∃ n, o.data = .seq its n
theorem SrcTup.tup {h : Heap} {ax : Addr} {its : Array Value} {nw : List (Addr × Obj)} (x : SrcTup ax its nw) (N : News h₀ L h nw) : h.IsTuple ax its := by
  rcases x with h | ⟨o, hm, r⟩
  · exact h.elim
  · exact ⟨o, (N _ hm).1, r⟩
inductive SrcT (prog : Program) (w : World) (A : Around) (h₀ : Heap) (L : Addr) (m : Str → Option Value) (env : Env) (elt : PySem.Expr) (x : Str) (scope : Scope) (cl : List (Str × Addr)) (Q : Value → Shared → Prop) (xv : Value) (s₁ : Shared) : Prop
  | mk (ax : Addr) (its : Array Value) (k : Nat) (news : List (Addr × Obj)) (x1 : xv = .ref ax) (x2 : A.handled = none) (x3 : Fr h₀ L s₁.heap m) (x4 : News h₀ L s₁.heap news) (x5 : (ax, ({ cls := .type "tuple", data := .seq its k } : Obj)) ∈ news) (x6 : its.size ≤ sizeLine) (x7 : ∀ g, LCg.CompRest prog w A h₀ L m env elt x scope cl { s₁ with heap := g } (SrcTup ax its) (fun i v => its[i]? = some v) (LCg.FinE h₀ L m { s₁ with heap := g } Q) its.size 0 [] news) : SrcT prog w A h₀ L m env elt x scope cl Q xv s₁
theorem SrcT.ledger {elt : PySem.Expr} {x : Str} {scope : Scope} {cl : List (Str × Addr)} {Q : Value → Shared → Prop} {ax : Addr} {its : Array Value} {k : Nat} {news : List (Addr × Obj)}
    (hh : A.handled = none) (F : Fr h₀ L s.heap m) (N : News h₀ L s.heap news) (hm : (ax, ({ cls := .type "tuple", data := .seq its k } : Obj)) ∈ news) (hsz : its.size ≤ sizeLine)
    (h : ∀ g, LCg.CompRest prog w A h₀ L m env elt x scope cl { s with heap := g } (SrcTup ax its) (fun i v => its[i]? = some v) (LCg.FinE h₀ L m { s with heap := g } Q) its.size 0 [] news) : SrcT prog w A h₀ L m env elt x scope cl Q (.ref ax) s :=
  ⟨ax, its, k, news, rfl, hh, F, N, hm, hsz, h⟩
inductive SrcX (prog : Program) (w : World) (A : Around) (h₀ : Heap) (L : Addr) (m : Str → Option Value) (env : Env) (elt : PySem.Expr) (x : Str) (scope : Scope) (cl : List (Str × Addr)) (Q : Value → Shared → Prop) (xv : Value) (s₁ : Shared) : Prop
  | mk (v : Str) (t : Tok) (news : List (Addr × Obj)) (x1 : xv = .str v t) (x2 : A.handled = none) (x3 : v.cps.all (· < 128) = true) (x4 : Fr h₀ L s₁.heap m) (x5 : News h₀ L s₁.heap news) (x6 : v.cps.size ≤ sizeLine) (x7 : ∀ g, LCg.CompRest prog w A h₀ L m env elt x scope cl { s₁ with heap := g } (fun _ => True) (SignAt v) (LCg.FinE h₀ L m { s₁ with heap := g } Q) v.cps.size 0 [] news) : SrcX prog w A h₀ L m env elt x scope cl Q xv s₁
theorem SrcX.text {elt : PySem.Expr} {x : Str} {scope : Scope} {cl : List (Str × Addr)} {Q : Value → Shared → Prop} {v : Str} {t : Tok} {news : List (Addr × Obj)}
    (hh : A.handled = none) (ha : v.cps.all (· < 128) = true) (F : Fr h₀ L s.heap m) (N : News h₀ L s.heap news) (hsz : v.cps.size ≤ sizeLine)
    (h : ∀ g, LCg.CompRest prog w A h₀ L m env elt x scope cl { s with heap := g } (fun _ => True) (SignAt v) (LCg.FinE h₀ L m { s with heap := g } Q) v.cps.size 0 [] news) : SrcX prog w A h₀ L m env elt x scope cl Q (.str v t) s :=
  ⟨v, t, news, rfl, hh, ha, F, N, hsz, h⟩
theorem ListComp_tup {elt iter : PySem.Expr} {x : Str} {px : Pos} {scope : Scope} {cl : List (Str × Addr)} {pos : Pos} {Q : Value → Shared → Prop}
    (kF₀ : Fr h₀ L s.heap m) (hclos : closureFor scope env = pure cl) (hcell : ∀ y ∈ scope.names, y.2 ≠ .cell) (hkind : scope.kind = .function)
    (hnames : ∀ y ∈ scope.names, y.2 = .local → scope.names.lookup y.1 = some .local) (hx : scope.names.lookup x = some .local)
    (h : wpAny (model prog w) A (eval iter env) (SrcT prog w A h₀ L m env elt x scope cl Q) E s)
    (hs : ∀ x, foldedSetIterable iter env x = pure x := by intro _; rfl) :
    wpAny (model prog w) A (eval (.ListComp elt [⟨.Name x px, iter, [], 0⟩] scope pos) env) Q E s := by
  rw [eval_ListComp]
  refine wpAny_comprehension_free (use := none) rfl hs hclos hkind hnames (wpAny_mono h (fun xv s₁ h₁ => ?_) fun _ _ e => e)
  obtain ⟨ax, its, k, news, rfl, hh, F, N, hm, hsz, R⟩ := h₁
  have hl : s₁.heap.IsTuple ax its := ⟨_, (N _ hm).1, rfl, k, rfl⟩
  have hlt : ax < s₁.heap.objs.size := Heap.lt_size (N _ hm).1
  refine wpAny_pyIter_tuple hl ?_
  have up : ∀ b o, s₁.heap.get? b = some o → (s₁.heap.push { cls := .type "tuple_iterator", data := .fields #[.ref ax, .int 0 0] }).get? b = some o := fun b o e => Heap.get?_push_of_some _ e
  refine LCg.block_U (S := SrcTup ax its) (Walks.tuple hh s₁.heap.objs.size ax (Nat.ne_of_lt hlt) its) hsz (fun i h st => by obtain ⟨o, e, _⟩ := st.1; exact ⟨o, e⟩) (fun i h h' o nw st e e' k N S => ?_) hcell hkind hx
    ⟨⟨_, Heap.get?_push_size _ rfl, rfl, rfl⟩, ⟨_, up _ _ (N _ hm).1, rfl, k, rfl⟩⟩ (fun b hb => ?_) (F.keeps up) (N.grown up) (Nat.ne_of_lt F.ns.lt) (next_is_new F) (fun p hp => Nat.ne_of_lt (Heap.lt_size (N p hp).1)) (.inr ⟨_, hm, rfl, k, rfl⟩) (R _) ?_
  · exact ⟨by obtain ⟨o', q, r⟩ := st.1; rw [e] at q; cases q; exact ⟨o, e', r⟩, S.tup N⟩
  · show b < (s₁.heap.push _).objs.size
    rw [Heap.size_push]
    rcases List.mem_cons.mp hb with rfl | hb
    · exact Nat.lt_succ_self _
    · rw [List.mem_singleton.mp hb]; exact Nat.lt_succ_of_lt hlt
  · intro D C h' tk m' ys news' F' N' o1 hn hC₀ hD₀ hCL hDL hCD offC fin
    refine ⟨m', hn, fun h'' hs'' => fin D h'' tk (F'.change hs'' hCL hC₀) (fun p hp => ?_) o1⟩
    refine ⟨hs''.extBut _ _ ?_ (N' p hp).1, (N' p hp).2⟩
    rcases List.mem_cons.mp hp with rfl | hp
    · exact Ne.symm hCD
    · exact offC p hp
theorem ListComp_str {elt iter : PySem.Expr} {x : Str} {px : Pos} {scope : Scope} {cl : List (Str × Addr)} {pos : Pos} {Q : Value → Shared → Prop}
    (kF₀ : Fr h₀ L s.heap m) (hclos : closureFor scope env = pure cl) (hcell : ∀ y ∈ scope.names, y.2 ≠ .cell) (hkind : scope.kind = .function)
    (hnames : ∀ y ∈ scope.names, y.2 = .local → scope.names.lookup y.1 = some .local) (hx : scope.names.lookup x = some .local)
    (h : wpAny (model prog w) A (eval iter env) (SrcX prog w A h₀ L m env elt x scope cl Q) E s)
    (hs : ∀ x, foldedSetIterable iter env x = pure x := by intro _; rfl) :
    wpAny (model prog w) A (eval (.ListComp elt [⟨.Name x px, iter, [], 0⟩] scope pos) env) Q E s := by
  rw [eval_ListComp]
  refine wpAny_comprehension_free (use := none) rfl hs hclos hkind hnames (wpAny_mono h (fun xv s₁ h₁ => ?_) fun _ _ e => e)
  obtain ⟨v, t, news, rfl, hh, ha, F, N, hsz, R⟩ := h₁
  refine wpAny_pyIter_ascii ha ?_
  have up : ∀ (o' : Obj) b o, s₁.heap.get? b = some o → (s₁.heap.push o').get? b = some o := fun _ b o e => Heap.get?_push_of_some _ e
  refine LCg.block_U (S := fun _ => True) (Walks.strAscii hh s₁.heap.objs.size v t) hsz (fun i h st => by obtain ⟨o, e, _⟩ := st; exact ⟨o, e⟩) (fun i h h' o nw st e e' k N S => ?_) hcell hkind hx
    ⟨_, Heap.get?_push_size _ rfl, rfl, rfl⟩ (fun b hb => ?_) (F.keeps (up _)) (N.grown (up _)) (Nat.ne_of_lt F.ns.lt) (next_is_new F) (fun p hp => Nat.ne_of_lt (Heap.lt_size (N p hp).1)) trivial (R _) ?_
  · obtain ⟨o', q, r⟩ := st
    rw [e] at q
    cases q
    exact ⟨o, e', r⟩
  · rw [List.mem_singleton.mp hb]
    show s₁.heap.objs.size < (s₁.heap.push _).objs.size
    rw [Heap.size_push]; exact Nat.lt_succ_self _
  · intro D C h' tk m' ys news' F' N' o1 hn hC₀ hD₀ hCL hDL hCD offC fin
    refine ⟨m', hn, fun h'' hs'' => fin D h'' tk (F'.change hs'' hCL hC₀) (fun p hp => ?_) o1⟩
    refine ⟨hs''.extBut _ _ ?_ (N' p hp).1, (N' p hp).2⟩
    rcases List.mem_cons.mp hp with rfl | hp
    · exact Ne.symm hCD
    · exact offC p hp
end
noncomputable def digS (x : Int) : Str := ⟨#[48 + x.toNat]⟩
theorem digS_text (x : Int) (h0 : 0 ≤ x) (h1 : x < 8) : Str.ofString (toString x) = digS x := by
  have : x = 0 ∨ x = 1 ∨ x = 2 ∨ x = 3 ∨ x = 4 ∨ x = 5 ∨ x = 6 ∨ x = 7 := octI h0 h1
  rcases this with rfl | rfl | rfl | rfl | rfl | rfl | rfl | rfl <;> decide +kernel
theorem str_oct {prog : Program} {w : World} {A : Around} {E : Value → Shared → Prop} {s : Shared} {y : Int} {t : Tok} {Q : Value → Shared → Prop} (h : Q (.str (digS (y.fmod 8)) s.toks) { s with toks := s.toks + 1 }) :
    wpAny (model prog w) A (call (.type "str") [.int (y.fmod 8) t]) Q E s := by
  have e := Int.fmod_eq_emod_of_nonneg y (by decide : (0 : Int) ≤ 8)
  have h0 : 0 ≤ y.fmod 8 := by rw [e]; exact Int.emod_nonneg _ (by decide)
  have h1 : y.fmod 8 < 8 := by rw [e]; exact Int.emod_lt_of_pos _ (by decide)
  rw [← digS_text _ h0 h1] at h
  refine P.str_of_int ?_ h
  generalize y.fmod 8 = x at h0 h1
  have : x = 0 ∨ x = 1 ∨ x = 2 ∨ x = 3 ∨ x = 4 ∨ x = 5 ∨ x = 6 ∨ x = 7 := octI h0 h1
  rcases this with rfl | rfl | rfl | rfl | rfl | rfl | rfl | rfl <;> decide +kernel
theorem CompEnd_same {h₀ : Heap} {L I C D : Addr} {m : Str → Option Value} {s₁ : Shared} {oI oC oD : Obj} {S : List (Addr × Obj) → Prop} {rest : Value → List (Addr × Obj) → Prop} {y : Value} {h' : Heap} {tk : Nat} {news' : List (Addr × Obj)}
    (F : Fr h₀ L h' m) (N : News h₀ L h' ((I, oI) :: (C, oC) :: (D, oD) :: news')) (off : LCg.Off3 I C D news') (hS : S news') (r : rest y news') :
    LCg.CompEnd h₀ L m s₁ I oI C oC D oD S rest y { s₁ with heap := h', toks := tk } := .intro F N news' (fun _ h => h) off hS r
noncomputable def octS (a b c d e f : Int) : Str := ⟨#[48 + a.toNat, 48 + b.toNat, 48 + c.toNat, 48 + d.toNat, 48 + e.toNat, 48 + f.toNat]⟩
theorem join_digs (a b c d e f : Int) : Txt.join (Str.ofString "") [digS a, digS b, digS c, digS d, digS e, digS f] = octS a b c d e f := by
  rw [show Str.ofString "" = ⟨#[]⟩ from by decide +kernel]
  rfl
noncomputable abbrev tup4 (k : Nat) (a b c d : Value) : Obj := { cls := .type "tuple", data := .seq #[a, b, c, d] k }
noncomputable def deedOf (n : Int) : Str := [Str.ofString "store", Str.ofString "store", Str.ofString "store", Str.ofString "store", Str.ofString "store", Str.ofString "ask", Str.ofString "ask", Str.ofString "ask", Str.ofString "ask", Str.ofString "ask", Str.ofString "take", Str.ofString "take", Str.ofString "mask", Str.ofString "mask", Str.ofString "mask", Str.ofString "freeze"].getD (n.fmod 16).toNat Str.empty
noncomputable def nameOf (n : Int) : Str := [Str.ofString "a", Str.ofString "b", Str.ofString "a b"].getD ((n.fdiv 16).fmod 3).toNat Str.empty
noncomputable def padOf (n : Int) : Str := [Str.ofString "", Str.ofString " ", Str.ofString "\t", Str.ofString " \n"].getD (n.fdiv 3145728).toNat Str.empty
noncomputable def modeOf (n : Int) : Int := (n.fdiv 48).fmod 65536
noncomputable def figOf (m : Int) (k : Int) : Int := (m.fdiv (8 ^ Int.toNat k)).fmod 8
noncomputable def figsOf (m : Int) : Str := octS (figOf m 5) (figOf m 4) (figOf m 3) (figOf m 2) (figOf m 1) (figOf m 0)
theorem news_head {h₀ h : Heap} {L : Addr} {x : Addr × Obj} {l news : List (Addr × Obj)} (N : News h₀ L h (x :: l)) (k : ∀ p ∈ news, p ∈ l) : News h₀ L h (x :: news) := fun p hp => by
  rcases List.mem_cons.mp hp with rfl | hp
  · exact N _ (.head _)
  · exact N _ (.tail _ (k p hp))
noncomputable def tabN {α : Type} (d : α) (l : List (Nat × α)) (c : Nat) : α := ((l.find? fun p => p.1 == c).map (·.2)).getD d
theorem tabN_all {α : Type} (P : α → Prop) {d : α} {l : List (Nat × α)} (hd : P d) (h : ∀ p ∈ l, P p.2) (c : Nat) : P (tabN d l c) := by
  unfold tabN
  cases e : l.find? fun p => p.1 == c with
  | none => exact hd
  | some p => exact h p (List.mem_of_find?_eq_some e)
noncomputable def shTab (c : Nat) : List Nat := tabN [45, 45, 45] [(48, [114, 119, 45]), (49, [114, 119, 45]), (50, [114, 45, 45]), (51, [114, 45, 45]), (52, [45, 119, 45]), (53, [45, 119, 45])] c
noncomputable def shF (c3 c4 c5 : Nat) : Str := ⟨([45] ++ shTab c3 ++ shTab c4 ++ shTab c5).toArray⟩
section
open Builtin Builtin.Str
theorem slice_at (l u : Option Int) (c0 c1 c2 c3 c4 c5 : Nat) : Txt.slice ⟨#[c0, c1, c2, c3, c4, c5]⟩ l u = if (strSliceIndices l u 1 6).length == 6 then ⟨#[c0, c1, c2, c3, c4, c5]⟩ else ⟨((strSliceIndices l u 1 6).filterMap (#[c0, c1, c2, c3, c4, c5][·]?)).toArray⟩ := by
  unfold Txt.slice
  rw [show (⟨#[c0, c1, c2, c3, c4, c5]⟩ : Str).length = 6 from rfl]
  rfl
theorem sl_3n : strSliceIndices (some 3) none 1 6 = [3, 4, 5] := by decide +kernel
theorem sl_n2 : strSliceIndices none (some 2) 1 6 = [0, 1] := by decide +kernel
theorem slice3 (c0 c1 c2 c3 c4 c5 : Nat) : Txt.slice ⟨#[c0, c1, c2, c3, c4, c5]⟩ (some 3) none = ⟨#[c3, c4, c5]⟩ := by
  rw [slice_at, sl_3n]; rfl
theorem slice2 (c0 c1 c2 c3 c4 c5 : Nat) : Txt.slice ⟨#[c0, c1, c2, c3, c4, c5]⟩ none (some 2) = ⟨#[c0, c1]⟩ := by
  rw [slice_at, sl_n2]; rfl
end
theorem sh_look (c : Nat) (h1 : 48 ≤ c) (h2 : c < 56) : Spec.lookup (.str ⟨#[c]⟩) [(.str (Str.ofString "0"), .str (Str.ofString "rw-")), (.str (Str.ofString "1"), .str (Str.ofString "rw-")), (.str (Str.ofString "2"), .str (Str.ofString "r--")), (.str (Str.ofString "3"), .str (Str.ofString "r--")), (.str (Str.ofString "4"), .str (Str.ofString "-w-")), (.str (Str.ofString "5"), .str (Str.ofString "-w-")), (.str (Str.ofString "6"), .str (Str.ofString "---")), (.str (Str.ofString "7"), .str (Str.ofString "---"))] = some (.str ⟨(shTab c).toArray⟩) := by
  have : c = 48 ∨ c = 49 ∨ c = 50 ∨ c = 51 ∨ c = 52 ∨ c = 53 ∨ c = 54 ∨ c = 55 := oct8 h1 h2
  rcases this with rfl | rfl | rfl | rfl | rfl | rfl | rfl | rfl <;> rfl
theorem shTab_len (c : Nat) : (shTab c).length = 3 := tabN_all (fun l => List.length l = 3) rfl (by decide) c
theorem join_3 (a b c : List Nat) : Txt.join (Str.ofString "") [⟨a.toArray⟩, ⟨b.toArray⟩, ⟨c.toArray⟩] = ⟨(a ++ b ++ c).toArray⟩ := by
  rw [show Str.ofString "" = ⟨#[]⟩ from by decide +kernel]
  show Builtin.Str.glued _ _ = _
  rw [StrLaws.glued_eq_join]
  refine Str.ext' ?_
  simp [Str.join, Str.cps_append]
theorem sh_cat (a : List Nat) : Str.ofString "-" ++ (⟨a.toArray⟩ : Str) = ⟨([45] ++ a).toArray⟩ := by
  rw [show Str.ofString "-" = ⟨#[45]⟩ from by decide +kernel]
  refine Str.ext' ?_
  simp [Str.cps_append]
noncomputable def typC (a b : Nat) : Nat := tabN 63 [(3121, 112), (3122, 99), (3124, 100), (3126, 98), (3184, 45), (3186, 108), (3188, 115)] (a * 64 + b)
noncomputable abbrev sgD : List (PyData × PyData) := [(.str (Str.ofString "01"), .str (Str.ofString "p")), (.str (Str.ofString "02"), .str (Str.ofString "c")), (.str (Str.ofString "04"), .str (Str.ofString "d")), (.str (Str.ofString "06"), .str (Str.ofString "b")), (.str (Str.ofString "10"), .str (Str.ofString "-")), (.str (Str.ofString "12"), .str (Str.ofString "l")), (.str (Str.ofString "14"), .str (Str.ofString "s"))]
theorem sg_look (c0 c1 : Nat) (h1 : 48 ≤ c0) (h2 : c0 < 50) (h3 : 48 ≤ c1) (h4 : c1 < 56) : (Spec.lookup (.str ⟨#[c0, c1]⟩) sgD).getD (.str (Str.ofString "?")) = .str ⟨#[typC c0 c1]⟩ := by
  have a : c0 = 48 ∨ c0 = 49 := oct2 h1 h2
  have b : c1 = 48 ∨ c1 = 49 ∨ c1 = 50 ∨ c1 = 51 ∨ c1 = 52 ∨ c1 = 53 ∨ c1 = 54 ∨ c1 = 55 := oct8 h3 h4
  rcases a with rfl | rfl <;> rcases b with rfl | rfl | rfl | rfl | rfl | rfl | rfl | rfl <;> rfl
noncomputable def rC (c : Nat) : Nat := if c < 52 then 45 else 114
noncomputable def wC (c : Nat) : Nat := tabN 45 [(50, 119), (51, 119), (54, 119), (55, 119)] c
noncomputable def xC (c : Nat) : Nat := tabN 45 [(49, 120), (51, 120), (53, 120), (55, 120)] c
theorem th_look (c : Nat) (h1 : 48 ≤ c) (h2 : c < 56) : Spec.lookup (.str ⟨#[c]⟩) [(.str (Str.ofString "0"), .str (Str.ofString "---")), (.str (Str.ofString "1"), .str (Str.ofString "--x")), (.str (Str.ofString "2"), .str (Str.ofString "-w-")), (.str (Str.ofString "3"), .str (Str.ofString "-wx")), (.str (Str.ofString "4"), .str (Str.ofString "r--")), (.str (Str.ofString "5"), .str (Str.ofString "r-x")), (.str (Str.ofString "6"), .str (Str.ofString "rw-")), (.str (Str.ofString "7"), .str (Str.ofString "rwx"))] = some (.str ⟨#[rC c, wC c, xC c]⟩) := by
  have : c = 48 ∨ c = 49 ∨ c = 50 ∨ c = 51 ∨ c = 52 ∨ c = 53 ∨ c = 54 ∨ c = 55 := oct8 h1 h2
  rcases this with rfl | rfl | rfl | rfl | rfl | rfl | rfl | rfl <;> rfl
noncomputable def spB (i d : Nat) : Bool := (tabN [49, 51, 53, 55] [(0, [52, 53, 54, 55]), (1, [50, 51, 54, 55])] i).contains d
noncomputable def loC (i : Nat) : Nat := tabN 115 [(2, 116)] i
noncomputable def upC (i : Nat) : Nat := tabN 83 [(2, 84)] i
noncomputable def thrF (i c d : Nat) : List Nat := [rC c, wC c, if spB i d = true then (if xC c = 120 then loC i else upC i) else xC c]
noncomputable def sgL (c0 c1 c2 c3 c4 c5 : Nat) : Nat → List Nat
  | 0 => [typC c0 c1]
  | 1 => [typC c0 c1] ++ thrF 0 c3 c2
  | 2 => [typC c0 c1] ++ thrF 0 c3 c2 ++ thrF 1 c4 c2
  | _ => [typC c0 c1] ++ thrF 0 c3 c2 ++ thrF 1 c4 c2 ++ thrF 2 c5 c2
noncomputable def sgF (c0 c1 c2 c3 c4 c5 : Nat) : Str := ⟨(sgL c0 c1 c2 c3 c4 c5 3).toArray⟩
theorem item_at {prog : Program} {w : World} {A : Around} {E : Value → Shared → Prop} {s : Shared} {value slice : PySem.Expr} {x : Str} {t : Tok} {i : Int} {u : Tok} {Q : Value → Shared → Prop} (c : Nat) (h0 : 0 ≤ i) (h1 : i < 1000) (hx : x.length < 1000) (hn : x.cps[i.toNat]? = some c)
    (h : Q (.str ⟨#[c]⟩ s.toks) { s with toks := s.toks + 1 })
    (hs : subscripted slice false (.str x t) (.int i u) = operate [.str x t, .int i u] (getItem (.str x t) (.int i u)) := by with_unfolding_all rfl)
    (ht : ∀ r, letTemporaryGo value (.str x t) r = pure () := by intro _; with_unfolding_all rfl) :
    wpAny (model prog w) A (subscriptTail value slice (.str x t) (.int i u)) Q E s := by
  have hlt : i.toNat < x.cps.size := (Array.getElem?_eq_some_iff.mp hn).1
  have e : x.length = x.cps.size := rfl
  refine item_str (fitsSsize_of (N := 9223372036854775808) (by omega) (by omega) (Int.le_refl _)) (by omega) (by omega) (fun _ => ?_) hs ht
  rw [item_meets h0 hn]
  exact h
theorem dict_at {prog : Program} {w : World} {A : Around} {E : Value → Shared → Prop} {s : Shared} {value slice : PySem.Expr} {d : Addr} {D : List (PyData × PyData)} {x y : Str} {t : Tok} {Q : Value → Shared → Prop} (T : StrTab prog w s.heap d D) (hl : Spec.lookup (.str x) D = some (.str y))
    (h : ∀ t', Q (.str y t') { s with toks := s.toks + 1 })
    (hs : subscripted slice false (.ref d) (.str x t) = operate [.ref d, .str x t] (getItem (.ref d) (.str x t)) := by with_unfolding_all rfl) :
    wpAny (model prog w) A (subscriptTail value slice (.ref d) (.str x t)) Q E s := by
  have T' := T
  obtain ⟨lo, kvs, hd, hf⟩ := T'
  exact tail_any hd.typeIs slot_dict_getitem.lookup (getItem_tab PyProof.V.same_str (strKind_is prog w x t) T hl fun v hv => by obtain ⟨t', rfl⟩ := hv.str_inv; exact h t') hs
noncomputable def spS : Nat → Str
  | 0 => Str.ofString "4567"
  | 1 => Str.ofString "2367"
  | _ => Str.ofString "1357"
theorem in_sp {prog : Program} {w : World} {A : Around} {E : Value → Shared → Prop} {s : Shared} {Q : Value → Shared → Prop} {u t : Tok} (i c : Nat) (hi : i < 3) (h1 : 48 ≤ c) (h2 : c < 56) (h : Q (.bool (spB i c)) s) :
    wpAny (model prog w) A (compareOp .In (.str ⟨#[c]⟩ u) (.str (spS i) t)) Q E s := by
  refine PyProof.Rows.in_str ?_
  have e : (!(Builtin.Str.occurrences (spS i) ⟨#[c]⟩ 0 (spS i).length 1).isEmpty) = spB i c := by
    have a : i = 0 ∨ i = 1 ∨ i = 2 := three hi
    have b : c = 48 ∨ c = 49 ∨ c = 50 ∨ c = 51 ∨ c = 52 ∨ c = 53 ∨ c = 54 ∨ c = 55 := oct8 h1 h2
    rcases a with rfl | rfl | rfl <;> rcases b with rfl | rfl | rfl | rfl | rfl | rfl | rfl | rfl <;> decide +kernel
  rw [e]
  exact h
theorem item6_2 (c0 c1 c2 c3 c4 c5 : Nat) : Txt.item ⟨#[c0, c1, c2, c3, c4, c5]⟩ 2 = ⟨#[c2]⟩ := item_meets (by decide) rfl
section
open Builtin Builtin.Str
theorem sl3_n2 : strSliceIndices none (some 2) 1 3 = [0, 1] := by decide +kernel
theorem slice2of3 (a b c : Nat) : Txt.slice ⟨#[a, b, c]⟩ none (some 2) = ⟨#[a, b]⟩ := by
  unfold Txt.slice
  rw [show (⟨#[a, b, c]⟩ : Str).length = 3 from rfl, sl3_n2]
  rfl
end
theorem item3_2 (a b c : Nat) : Txt.item ⟨#[a, b, c]⟩ 2 = ⟨#[c]⟩ := item_meets (by decide) rfl
theorem sg_step (a : List Nat) (x y z : Nat) : (⟨a.toArray⟩ : Str) ++ (⟨#[x, y]⟩ ++ ⟨#[z]⟩) = ⟨(a ++ [x, y, z]).toArray⟩ := Str.ext' (by simp [Str.cps_append])
theorem sg_step' (a : List Nat) (x y z : Nat) : (⟨a.toArray⟩ : Str) ++ ⟨#[x, y, z]⟩ = ⟨(a ++ [x, y, z]).toArray⟩ := Str.ext' (by simp [Str.cps_append])
theorem is_x (c : Nat) : ((⟨#[c]⟩ : Str) == Str.ofString "x") = decide (c = 120) := by
  rw [show Str.ofString "x" = ⟨#[120]⟩ from by decide +kernel, Bool.eq_iff_iff, beq_iff_eq, decide_eq_true_eq]
  constructor
  · intro h
    have := congrArg Str.cps h
    simpa using this
  · rintro rfl
    rfl
theorem thr_lo {i c d : Nat} (h : spB i d = true) (hx : ((⟨#[xC c]⟩ : Str) == Str.ofString "x") = true) : thrF i c d = [rC c, wC c, loC i] := by
  rw [is_x, decide_eq_true_eq] at hx
  rw [thrF, if_pos h, if_pos hx]
theorem thr_up {i c d : Nat} (h : spB i d = true) (hx : ((⟨#[xC c]⟩ : Str) == Str.ofString "x") = false) : thrF i c d = [rC c, wC c, upC i] := by
  rw [is_x, decide_eq_false_iff_not] at hx
  rw [thrF, if_pos h, if_neg hx]
theorem thr_no {i c d : Nat} (h : spB i d = false) : thrF i c d = [rC c, wC c, xC c] := by
  rw [thrF, if_neg (by rw [h]; exact Bool.false_ne_true)]
theorem some_str {x y : Str} {t : Tok} (e : x = y) : some (Value.str x t) = some (Value.str y t) := by rw [e]
theorem append_mine {prog : Program} {w : World} {A : Around} {E : Value → Shared → Prop} {s : Shared} {h₀ : Heap} {L P : Addr} {m : Str → Option Value} {pre post : List (Addr × Obj)} {vs : List Value} {k : Nat} {x : Value} {Q : Value → Shared → Prop}
    (F : Fr h₀ L s.heap m) (N : News h₀ L s.heap (pre ++ (P, W.listOf vs.toArray k) :: post)) (h1 : ∀ p ∈ pre, p.1 ≠ P) (h2 : ∀ p ∈ post, p.1 ≠ P) (hz : vs.length ≤ sizeLine)
    (h : ∀ h', Fr h₀ L h' m → News h₀ L h' (pre ++ (P, W.listOf (vs ++ [x]).toArray (k + 1)) :: post) → Q .none { s with heap := h' }) :
    wpAny (model prog w) A (call (.builtin "list.append") [.ref P, x]) Q E s := by
  refine append_at (N _ (List.mem_append_right _ (.head _))).1 (fun h' hs hP => ?_) (by rw [List.size_toArray]; exact hz)
  have hP' : h'.get? P = some (W.listOf (vs ++ [x]).toArray (k + 1)) := by rw [hP, List.push_toArray]
  obtain ⟨F', N'⟩ := led_set F N h1 h2 hP' hs
  exact h h' F' N'
theorem fmod_len {α : Type} (l : List α) : l.length = l.length := rfl
end
section
theorem two_news {h₀ h : Heap} {L : Addr} {news : CbLed} {a b : Addr × Obj} (N : News h₀ L h news) (ha : a ∈ news) (hb : b ∈ news) : News h₀ L h [a, b] := PySem.W.KStt.news_of N fun p hp => by
  rcases List.mem_cons.mp hp with rfl | hp
  · exact ha
  · rcases List.mem_cons.mp hp with rfl | hp
    · exact hb
    · cases hp
theorem pow_b : ∀ n : Fin 6, 1 ≤ (8 : Int) ^ n.val ∧ (8 : Int) ^ n.val ≤ 32768 := by decide
inductive StrsLit : List PySem.Expr → List Str → Prop
  | nil : StrsLit [] []
  | cons {x : Str} {k : Nat} {p : Pos} {es : List PySem.Expr} {xs : List Str} (h : StrsLit es xs) : StrsLit (.Constant (.str x) k p :: es) (x :: xs)
theorem strs_eval {M : Model} {A : Around} {E : Value → Shared → Prop} {h : Heap} {gs : Array GenState} {d : Drawn} {os : OsState} {env : Env} {pos : Pos} {es : List PySem.Expr} {xs : List Str} (e : StrsLit es xs) :
    ∀ {k : Nat} {Q : List Value → Shared → Prop}, (∀ (vs : List Value) (k' : Nat), StrsAre vs xs → Q vs ⟨h, gs, d, k', os⟩) → wpAny M A (spliced (backTo pos (starEach es env))) Q E ⟨h, gs, d, k, os⟩ := by
  induction e with
  | nil => exact fun {k Q} hq => PyProof.Rows.args_nil (hq [] k .nil)
  | cons _ ih => exact fun {k Q} hq => PyProof.Rows.args_cons (PySem.Calls.Constant_str (ih fun vs k' hv => hq _ k' (.cons _ _ hv)))
theorem tup_strs {M : Model} {A : Around} {E : Value → Shared → Prop} {h : Heap} {gs : Array GenState} {d : Drawn} {os : OsState} {env : Env} {pos : Pos} {k kk : Nat} {es : List PySem.Expr} {xs : List Str} {h₀ : Heap} {L : Addr} {m : Str → Option Value} {news : CbLed} {Q : Value → Shared → Prop}
    (e : StrsLit es xs) (F : Fr h₀ L h m) (N : News h₀ L h news) (hz : xs.length ≤ sizeLine)
    (hq : ∀ (vs : List Value) (D : Addr) (h' : Heap) (k' : Nat), StrsAre vs xs → Fr h₀ L h' m → News h₀ L h' ((D, ({ cls := .type "tuple", data := .seq vs.toArray } : Obj)) :: news) → (∀ p ∈ news, p.1 < D) → Q (.ref D) ⟨h', gs, d, k', os⟩) :
    wpAny M A (eval (.Tuple es kk pos) env) Q E ⟨h, gs, d, k, os⟩ :=
  PyProof.Rows.Tuple_ (strs_eval e fun vs k' hv => kup_newTuple F N (fun D h' F' N' lt => hq vs D h' k' hv F' N' lt) (by rw [hv.length]; exact hz))
noncomputable def stpFn (k : Frag) : FuncData := match k.lookup 258 with
  | some ⟨_, _, .func fd, _⟩ => fd
  | _ => default
noncomputable def stpE (k : Frag) : PySem.Expr := match (stpFn k).body with
  | .stmts (_ :: _ :: .Assign _ (.Call _ [.ListComp e _ _ _] _ _) _ :: _) => e
  | _ => default
noncomputable def stpSc (k : Frag) : Scope := match (stpFn k).body with
  | .stmts (_ :: _ :: .Assign _ (.Call _ [.ListComp _ _ sc _] _ _) _ :: _) => sc
  | _ => default
theorem stp_elt (w : World) (mean : ExcName → Option Value) (mg mb : Str → Option Value)
   {A : Around} {g h : Heap} {L' C' : Addr} {m m' : Str → Option Value} {oC o : Obj} {k mode : Int} {tk tm : Tok} {gs : Array GenState} {d : Drawn} {t : Tok} {os : OsState} {Q E : Value → Shared → Prop}
   (X : (hd.heap_39 w.params).In g) (T : Top topProg looseL mean mg mb g) (F : Fr g L' h m) (hcl : o.data = .cell (some (.int mode tm))) (N : News g L' h [(L' + 1, o), (C', oC)])
   (hC : LCg.NsObj oC m') (hx : m' "k" = some (.int k tk)) (hk : 0 ≤ k ∧ k ≤ 5) (hm : 0 ≤ mode ∧ mode < 65536)
   (hq : ∀ t' k', Q (.str (digS (figOf mode k)) t') ⟨h, gs, d, k', os⟩) :
   wpAny (model Challenge.rw_in0190_01.row.prog w) A (eval (stpE (hd.heap_39 w.params)) (compEnvC (stpSc (hd.heap_39 w.params)) [(Str.ofString "mode", L' + 1)] C' (envOfC (Str.ofString "_law_step") (stpFn (hd.heap_39 w.params)).scope L' 258 (.ref 257)))) Q E ⟨h, gs, d, t, os⟩ := by
  have st9 := Stop.mk "call type:str"
  have e1 : stpE (hd.heap_39 w.params) = .Call _ _ _ _ := rfl
  have e2 : stpSc (hd.heap_39 w.params) = stpSc (hd.heap_39 w.params) := rfl
  conv at e2 => rhs; whnf
  have e3 : (stpFn (hd.heap_39 w.params)).scope = (stpFn (hd.heap_39 w.params)).scope := rfl
  conv at e3 => rhs; whnf
  rw [e1, e2, e3]
  clear e1 e2 e3
  revert X; k_fill; intro X
  repeat' (first | (k_unfold; try dsimp only) | (k_end; kc_close) | (walk1; all_goals ((try k_fold); (try dsimp only); try with_reducible refine wpAny_tk fun _ => ?_)) | (dsimp only; walk1) | (leave1; try dsimp only))
  have hb : 1 ≤ (8 : Int) ^ k.toNat ∧ (8 : Int) ^ k.toNat ≤ 32768 := pow_b ⟨k.toNat, by omega⟩
  unfold figOf at hq
  generalize (8 : Int) ^ k.toNat = b at hb hq ⊢
  refine PyProof.Rows.floordiv_int (by omega) ?_
  repeat' (first | (k_unfold; try dsimp only) | (k_end; kc_close) | (walk1; all_goals ((try k_fold); (try dsimp only); try with_reducible refine wpAny_tk fun _ => ?_)) | (dsimp only; walk1) | (leave1; try dsimp only))
  refine Halt.in ?_
  refine str_oct ?_
  try dsimp only
  exact hq _ _
theorem stp_c (w : World) (mean : ExcName → Option Value) (mg mb : Str → Option Value) (n : Int) (t : CbTok) (news : CbLed)
   (dp un : Nat) (gd : Option (List Code)) (cn : Str) (cs : Scope) (a : Addr) (ccd : Value) (cl : List (Str × Addr)) (outer : List Env) (A₀ : Around) (base h₀ : Heap) (L : Addr) (m : Str → Option Value) (s : Shared) (Q E : Value → Shared → Prop)
   (B : Below A₀ base outer h₀) (F : Fr h₀ L s.heap m) (X : (hd.heap_39 w.params).In h₀) (N : News h₀ L s.heap news) (T : Top topProg looseL mean mg mb h₀)
   (hk : cs.kind = .function) (h0 : 0 ≤ n) (h1 : n < 12582912)
   (hdp : dp + 4 < recursionLimit) (hu : un + 24 < cLine)
   (hret : ∀ (p k : Nat) (t0 t1 t2 t3 : Tok) (h' : Heap) (tk' : Nat), AllLt p news → Fr h₀ L h' m → News h₀ L h' ((p, tup4 k (.str (deedOf n) t0) (.str (nameOf n) t1) (.str (figsOf (modeOf n)) t2) (.str (padOf n) t3)) :: news) → Q (.ref p) { s with heap := h', toks := tk' }) :
   wpAny (model Challenge.rw_in0190_01.row.prog w) (ktrTop dp un gd cn cs L a ccd cl outer) (call (.ref 258) [.int n t]) Q E s := by
  have st9 := Stop.mk "eval Tuple"
  have st8 := Stop.mk "subscriptTail"
  have st7 := Stop.mk "CompRest"
  have hmd : 0 ≤ (n.fdiv 48).fmod 65536 ∧ (n.fdiv 48).fmod 65536 < 65536 := ⟨Int.fmod_nonneg_of_pos _ (by decide), PySem.W.fmod_hi _ (by decide)⟩
  revert X; k_fill; intro X
  (refine wpAny_call ?_; refine' code_defC ?k1 ?k2 ?k3 ?k4 ?k5 ?kA ?kF ?kK ?k6 ?k7 ?k8 ?k9 ?kB ?kD ?_ ?c2 ?c3 ?c4; (case kA | kF => exact rfl); (case kK => assumption); (case k1 | k2 => k_asm); (case k3 | k4 | k5 => k_asm); (case k6 | k7 => k_is); (case k8 => ktr_room); (case k9 => exact BindsTo.of_eq rfl); (case kB => exact rfl); (case kD => decide +kernel); (case c2 | c3 | c4 => exact rfl); k_whole; intro g' L' h' tk' cells' FG' F' N' Y' B' X' T' l1; have hLow := low_of l1; (repeat (replace hLow := low_tail hLow)); (try k_lt l1); k_cells Y'; (try simp only [List.cons_append, List.nil_append] at N'); (try dsimp only); (try k_lift B'); (try k_fold))
  repeat' (first | (first | ((with_reducible refine Halt.in (s := "eval Tuple") ?_); first | k_dflt (with_reducible refine' tup_strs ?ye ?yF ?yN ?yz ?_; (case ye => repeat (first | exact StrsLit.nil | apply StrsLit.cons)); (case yF | yN => k_asm); (case yz => (simp only [List.length_cons, List.length_nil]; rw [sizeLine_eq]; decide)); intro vs D h' k' hv F' N' l1; (try k_lt l1); (try k_sweep)) | (clear st9; walk1; (all_goals have st9 := Stop.mk "eval Tuple"))) | ((with_reducible refine Halt.in (s := "subscriptTail") ?_); with_unfolding_all (refine' KTb.item_tup ?yT ?yS ?yh0 ?yh1 ?yhf ?_ ?yhs; (case yT => exact News.isTup (by k_asm) (by k_mem)); (case yS => first | assumption | kct_strs); (case yhs => with_unfolding_all rfl); (case yh0 => first | exact Int.fmod_nonneg_of_pos _ (by decide) | (rw [PyProof.Rows.fdiv_eq _ (by decide)]; omega)); (case yh1 => first | exact PySem.W.fmod_hi _ (by decide) | (rw [PyProof.Rows.fdiv_eq _ (by decide)]; simp only [List.length_cons, List.length_nil]; omega)); (case yhf => first | exact Int.lt_trans (PySem.W.fmod_hi _ (by decide)) (by decide) | (rw [PyProof.Rows.fdiv_eq _ (by decide)]; omega)); intro t9 l9)) | ((with_reducible refine Halt.in (s := "CompRest") ?_); with_unfolding_all first | (refine LCg.CompRest.succ ?_; intro v' I' oI' C' oC' D' m' h' tk' E' hv' hC' hx' F' N' off' ne'; lcg_open hv'; refine stp_elt _ _ _ _ (by k_asm) (by k_asm) F' (by assumption) (two_news N' (by k_mem) (by k_mem)) hC' hx' (by decide) (by assumption) ?_; intro t9 k9; refine CompEnd_same F' N' (by assumption) (by with_unfolding_all lcg_src) ?_) | refine LCg.CompRest.zero ?_)) | (k_unfold; try dsimp only) | (k_end; kc_close) | (walk1; all_goals ((try k_fold); (try dsimp only); try with_reducible refine wpAny_tk fun _ => ?_)) | (dsimp only; walk1) | (leave1; try dsimp only))
  refine Halt.in ?_
  refine ListComp_tup (by k_asm) (by with_unfolding_all rfl) (by decide) (by rfl) (by decide) (by rfl) ?_
  repeat' (first | (first | ((with_reducible refine Halt.in (s := "eval Tuple") ?_); first | k_dflt (with_reducible refine' tup_strs ?ye ?yF ?yN ?yz ?_; (case ye => repeat (first | exact StrsLit.nil | apply StrsLit.cons)); (case yF | yN => k_asm); (case yz => (simp only [List.length_cons, List.length_nil]; rw [sizeLine_eq]; decide)); intro vs D h' k' hv F' N' l1; (try k_lt l1); (try k_sweep)) | (clear st9; walk1; (all_goals have st9 := Stop.mk "eval Tuple"))) | ((with_reducible refine Halt.in (s := "subscriptTail") ?_); with_unfolding_all (refine' KTb.item_tup ?yT ?yS ?yh0 ?yh1 ?yhf ?_ ?yhs; (case yT => exact News.isTup (by k_asm) (by k_mem)); (case yS => first | assumption | kct_strs); (case yhs => with_unfolding_all rfl); (case yh0 => first | exact Int.fmod_nonneg_of_pos _ (by decide) | (rw [PyProof.Rows.fdiv_eq _ (by decide)]; omega)); (case yh1 => first | exact PySem.W.fmod_hi _ (by decide) | (rw [PyProof.Rows.fdiv_eq _ (by decide)]; simp only [List.length_cons, List.length_nil]; omega)); (case yhf => first | exact Int.lt_trans (PySem.W.fmod_hi _ (by decide)) (by decide) | (rw [PyProof.Rows.fdiv_eq _ (by decide)]; omega)); intro t9 l9)) | ((with_reducible refine Halt.in (s := "CompRest") ?_); with_unfolding_all first | (refine LCg.CompRest.succ ?_; intro v' I' oI' C' oC' D' m' h' tk' E' hv' hC' hx' F' N' off' ne'; lcg_open hv'; refine stp_elt _ _ _ _ (by k_asm) (by k_asm) F' (by assumption) (two_news N' (by k_mem) (by k_mem)) hC' hx' (by decide) (by assumption) ?_; intro t9 k9; refine CompEnd_same F' N' (by assumption) (by with_unfolding_all lcg_src) ?_) | refine LCg.CompRest.zero ?_)) | (k_unfold; try dsimp only) | (k_end; kc_close) | (walk1; all_goals ((try k_fold); (try dsimp only); try with_reducible refine wpAny_tk fun _ => ?_)) | (dsimp only; walk1) | (leave1; try dsimp only))
  refine SrcT.ledger (by rfl) (by k_asm) (by k_asm) (by k_mem) (by first | size_fits | exact Nat.le_of_ble_eq_true rfl) ?_
  intro g'
  lcg_lit
  repeat' (first | (first | ((with_reducible refine Halt.in (s := "eval Tuple") ?_); first | k_dflt (with_reducible refine' tup_strs ?ye ?yF ?yN ?yz ?_; (case ye => repeat (first | exact StrsLit.nil | apply StrsLit.cons)); (case yF | yN => k_asm); (case yz => (simp only [List.length_cons, List.length_nil]; rw [sizeLine_eq]; decide)); intro vs D h' k' hv F' N' l1; (try k_lt l1); (try k_sweep)) | (clear st9; walk1; (all_goals have st9 := Stop.mk "eval Tuple"))) | ((with_reducible refine Halt.in (s := "subscriptTail") ?_); with_unfolding_all (refine' KTb.item_tup ?yT ?yS ?yh0 ?yh1 ?yhf ?_ ?yhs; (case yT => exact News.isTup (by k_asm) (by k_mem)); (case yS => first | assumption | kct_strs); (case yhs => with_unfolding_all rfl); (case yh0 => first | exact Int.fmod_nonneg_of_pos _ (by decide) | (rw [PyProof.Rows.fdiv_eq _ (by decide)]; omega)); (case yh1 => first | exact PySem.W.fmod_hi _ (by decide) | (rw [PyProof.Rows.fdiv_eq _ (by decide)]; simp only [List.length_cons, List.length_nil]; omega)); (case yhf => first | exact Int.lt_trans (PySem.W.fmod_hi _ (by decide)) (by decide) | (rw [PyProof.Rows.fdiv_eq _ (by decide)]; omega)); intro t9 l9)) | ((with_reducible refine Halt.in (s := "CompRest") ?_); with_unfolding_all first | (refine LCg.CompRest.succ ?_; intro v' I' oI' C' oC' D' m' h' tk' E' hv' hC' hx' F' N' off' ne'; lcg_open hv'; refine stp_elt _ _ _ _ (by k_asm) (by k_asm) F' (by assumption) (two_news N' (by k_mem) (by k_mem)) hC' hx' (by decide) (by assumption) ?_; intro t9 k9; refine CompEnd_same F' N' (by assumption) (by with_unfolding_all lcg_src) ?_) | refine LCg.CompRest.zero ?_)) | (k_unfold; try dsimp only) | (k_end; kc_close) | (walk1; all_goals ((try k_fold); (try dsimp only); try with_reducible refine wpAny_tk fun _ => ?_)) | (dsimp only; walk1) | (leave1; try dsimp only))
  refine join_listW (ys := [digS _, digS _, digS _, digS _, digS _, digS _]) (by is_list) (.cons _ _ (.cons _ _ (.cons _ _ (.cons _ _ (.cons _ _ (.cons _ _ .nil)))))) (by decide +kernel) (by simp [digS, Str.length]) fun t9 k9 => ?_
  rw [join_digs]
  repeat' (first | (first | ((with_reducible refine Halt.in (s := "eval Tuple") ?_); first | k_dflt (with_reducible refine' tup_strs ?ye ?yF ?yN ?yz ?_; (case ye => repeat (first | exact StrsLit.nil | apply StrsLit.cons)); (case yF | yN => k_asm); (case yz => (simp only [List.length_cons, List.length_nil]; rw [sizeLine_eq]; decide)); intro vs D h' k' hv F' N' l1; (try k_lt l1); (try k_sweep)) | (clear st9; walk1; (all_goals have st9 := Stop.mk "eval Tuple"))) | ((with_reducible refine Halt.in (s := "subscriptTail") ?_); with_unfolding_all (refine' KTb.item_tup ?yT ?yS ?yh0 ?yh1 ?yhf ?_ ?yhs; (case yT => exact News.isTup (by k_asm) (by k_mem)); (case yS => first | assumption | kct_strs); (case yhs => with_unfolding_all rfl); (case yh0 => first | exact Int.fmod_nonneg_of_pos _ (by decide) | (rw [PyProof.Rows.fdiv_eq _ (by decide)]; omega)); (case yh1 => first | exact PySem.W.fmod_hi _ (by decide) | (rw [PyProof.Rows.fdiv_eq _ (by decide)]; simp only [List.length_cons, List.length_nil]; omega)); (case yhf => first | exact Int.lt_trans (PySem.W.fmod_hi _ (by decide)) (by decide) | (rw [PyProof.Rows.fdiv_eq _ (by decide)]; omega)); intro t9 l9)) | ((with_reducible refine Halt.in (s := "CompRest") ?_); with_unfolding_all first | (refine LCg.CompRest.succ ?_; intro v' I' oI' C' oC' D' m' h' tk' E' hv' hC' hx' F' N' off' ne'; lcg_open hv'; refine stp_elt _ _ _ _ (by k_asm) (by k_asm) F' (by assumption) (two_news N' (by k_mem) (by k_mem)) hC' hx' (by decide) (by assumption) ?_; intro t9 k9; refine CompEnd_same F' N' (by assumption) (by with_unfolding_all lcg_src) ?_) | refine LCg.CompRest.zero ?_)) | (k_unfold; try dsimp only) | (k_end; kc_close) | (walk1; all_goals ((try k_fold); (try dsimp only); try with_reducible refine wpAny_tk fun _ => ?_)) | (dsimp only; walk1) | (leave1; try dsimp only))
  rename Fr _ _ _ _ => kF
  rename News _ _ _ _ => kN
  rename @LT.lt Nat _ _ _ ∧ _ => lZ
  refine hret _ _ _ _ _ _ _ _ (by first | exact lZ.2 | exact lZ.2.2 | exact lZ.2.2.2 | exact lZ.2.2.2.2 | exact lZ.2.2.2.2.2 | exact lZ.2.2.2.2.2.2 | exact lZ.2.2.2.2.2.2.2 | exact lZ.2.2.2.2.2.2.2.2 | exact lZ.2.2.2.2.2.2.2.2.2 | exact lZ.2.2.2.2.2.2.2.2.2.2) kF (news_head kN fun p hp => ?_)
  repeat (first | exact hp | refine List.mem_cons_of_mem _ ?_)
end
section
noncomputable def lineOf (d nm fg pd : Str) : Str :=
  if (d == Str.ofString "freeze") = true then Str.ofString "!" else if (d == Str.ofString "ask") = true then nm else
  if (d == Str.ofString "mask") = true then pd ++ Str.ofString "mask" ++ pd ++ Str.ofString "=" ++ pd ++ fg ++ pd else
  if (d == Str.ofString "take") = true then pd ++ nm ++ pd ++ Str.ofString "=" ++ pd else pd ++ nm ++ pd ++ Str.ofString "=" ++ pd ++ fg ++ pd
theorem lin_c (w : World) (mean : ExcName → Option Value) (mg mb : Str → Option Value) (news : CbLed) (p k : Nat) (d nm fg pd : Str) (t0 t1 t2 t3 : Tok)
   (dp un : Nat) (gd : Option (List Code)) (cn : Str) (cs : Scope) (a : Addr) (ccd : Value) (cl : List (Str × Addr)) (outer : List Env) (A₀ : Around) (base h₀ : Heap) (L : Addr) (m : Str → Option Value) (s : Shared) (Q E : Value → Shared → Prop)
   (B : Below A₀ base outer h₀) (F : Fr h₀ L s.heap m) (X : (hd.heap_39 w.params).In h₀) (N : News h₀ L s.heap ((p, tup4 k (.str d t0) (.str nm t1) (.str fg t2) (.str pd t3)) :: news)) (T : Top topProg looseL mean mg mb h₀)
   (hk : cs.kind = .function) (h0 : nm.length ≤ 6) (h1 : fg.length ≤ 6) (h2 : pd.length ≤ 2)
   (hdp : dp + 4 < recursionLimit) (hu : un + 24 < cLine)
   (hret : ∀ (t : Tok) (h' : Heap) (tk' : Nat), Fr h₀ L h' m → News h₀ L h' ((p, tup4 k (.str d t0) (.str nm t1) (.str fg t2) (.str pd t3)) :: news) → Q (.str (lineOf d nm fg pd) t) { s with heap := h', toks := tk' }) :
   wpAny (model Challenge.rw_in0190_01.row.prog w) (ktrTop dp un gd cn cs L a ccd cl outer) (call (.ref 265) [.ref p]) Q E s := by
  revert X; k_fill; intro X
  (refine wpAny_call ?_; refine' enterP ?k1 ?k2 ?k3 ?k4 ?k5 ?kA ?kF ?kK ?k6 ?k7 ?k8 ?k9 ?kB ?_ ?c2 ?c3 ?c4 ?c5; (case kA | kF => exact rfl); (case kK => assumption); (case k1 | k2 => k_asm); (case k3 | k4 | k5 => k_asm); (case k6 | k7 => k_is); (case k8 => ktr_room); (case k9 => exact BindsTo.of_eq rfl); (case c5 => decide); (case kB => exact locs rfl); (case c2 | c3 | c4 => exact rfl); k_whole; intro g' L' h' FG' F' N' B' X' T' hLow; have l1 := hLow.all; (repeat (replace hLow := low_tail hLow)); (try k_lt l1); (try dsimp only); (try k_lift B'); (try k_fold))
  repeat' (first | (k_unfold; try dsimp only) | (k_end; kc_close) | (walk1; all_goals ((try k_fold); (try dsimp only); try with_reducible refine wpAny_tk fun _ => ?_)) | (dsimp only; walk1) | (leave1; try dsimp only))
  all_goals (try simp only [lineOf] at hret)
  all_goals (simp_all only [if_true, if_false, Bool.false_eq_true])
end
section
noncomputable def bookObj (dx : Addr) (es : List DictEntry) (ep : Nat) (sl : Array (Option Value)) : Obj := { cls := .ref 108, dict := some dx, data := .dict es.toArray ep, slots := sl }
theorem dn_kind : builtinKind "dict.__new__" = some .builtinFn := by rw [builtinKind_eq_fast]; decide +kernel
theorem dn_split : splitId "dict.__new__" = some ("dict", "__new__") := by decide +kernel
theorem dn_row : Manifest.signature? "dict.__new__" = some ⟨.any, "dict", "dict", .cls, [⟨"args", .varPos, false⟩, ⟨"kwargs", .varKw, false⟩]⟩ := by kernel_rfl
structure BookCls (M : Model) (h : Heap) : Prop where
  obj : ∃ oc od cd sl, h.get? 108 = some ⟨oc, od, .cls cd, sl⟩ ∧ cd.abstract = false ∧ cd.hasDel = false ∧ cd.mro = [Value.ref 108, Value.type "collections.defaultdict", Value.type "dict", Value.type "object"] ∧ cd.hasDict = true ∧ cd.name = Str.ofString "FreezableDefaultDict"
  made : Looks M h (Bind.madeBy (.ref 108)) (some "dict.__new__")
  base : Looks M h (Bind.staticBase (.ref 108)) (.ref 108)
  self : Looks M h (isSubtype (.ref 108) (.ref 108)) true
  dict : Looks M h (isSubtype (.ref 108) (.type "dict")) true
  dd : Looks M h (isSubtype (.ref 108) (.type "collections.defaultdict")) true
  call : Looks M h (specialOf (.ref 108) "__call__") (some (.builtin "type.__call__"))
  typ : Looks M h (isInstance (.ref 108) (.type "type")) true
  init : Looks M h (typeLookup (.ref 108) "__init__") (some (.builtin "collections.defaultdict.__init__"))
  od : Looks M h (isSubtype (.ref 108) (.type "collections.OrderedDict")) false
theorem BookCls.keeps {M : Model} {h h' : Heap} (Y : BookCls M h) (k : ∀ b o, h.get? b = some o → h'.get? b = some o) : BookCls M h' := by
  refine hide fun G kG => ?_
  obtain ⟨⟨oc, od, cd, sl, hC, e⟩, a1, a2, a3, a4, a5, a6, a7, a8, a9⟩ := Y
  refine kG ?_
  exact ⟨⟨oc, od, cd, sl, k _ _ hC, e⟩, a1.keeps k, a2.keeps k, a3.keeps k, a4.keeps k, a5.keeps k, a6.keeps k, a7.keeps k, a8.keeps k, a9.keeps k⟩
theorem bookCls {M : Model} {w : World} {h : Heap} {prog : Program} (hM : M = model Challenge.rw_in0190_01.row.prog w) (X : (hd.heap_39 w.params).In h) : BookCls M h := by
  subst hM
  revert X; k_fill; intro X
  have hc : clsIn (hd.heap_39 w.params) 108 = some _ := rfl
  have hm : Looks (model Challenge.rw_in0190_01.row.prog w) h (mroOf (.ref 108)) [Value.ref 108, Value.type "collections.defaultdict", Value.type "dict", Value.type "object"] := (looks_clsIn X hc).andThen .now
  have made : Looks (model Challenge.rw_in0190_01.row.prog w) h (Bind.madeBy (.ref 108)) (some "dict.__new__") := by
    intro A Q E s k q
    unfold Bind.madeBy
    refine wpAny_bind (hm A _ E s k ?_)
    rw [List.forIn_cons]
    refine wpAny_bind (wpAny_bind (wpAny_bind (wpAny_bind (wpAny_loadPart (k _ _ (X 108 _ rfl)) (wpAny_pure ?_)))))
    dsimp only
    exact wpAny_pure (wpAny_pure (wpAny_pure q))
  refine ⟨⟨_, _, _, _, X 108 _ rfl, rfl, rfl, rfl, rfl, rfl⟩, made, ?_, looks_mroIn X (by k_is), looks_mroIn X (by k_is), looks_mroIn X (by k_is), looks_specialIn X (by k_is), looks_instIn X (by k_is), looks_findIn X (by k_is), looks_mroIn X (by k_is)⟩
  · intro A Q E s k q
    unfold Bind.staticBase
    refine wpAny_bind (hm A _ E s k ?_)
    rw [List.forIn_cons]
    exact wpAny_bind (wpAny_bind (wpAny_bind (made A _ E s k (wpAny_pure (wpAny_pure (wpAny_pure q))))))
theorem nd_update {α : Type} {M : Model} {A : Around} {Q : α → Shared → Prop} {E : Value → Shared → Prop} {s : Shared} {a : Addr} {p : Option Value} {f : Obj → Obj} {k : Unit → Sem α} {o : Obj} (ho : s.heap.get? a = some o) (hf : (f o).isFreed = false)
    (h : ∀ h', h'.get? a = some (f o) → Heap.SameBut a s.heap h' → wpAny M A (k ()) Q E { s with heap := h' }) : wpAny M A (.update a p f k) Q E s :=
  wpAny_bind (m := updatePart a p f) (f := k) (wpAny_updatePart ho (h _ (Heap.get?_update_self f ho hf) (Heap.SameBut.update ..)))
theorem keep_but {h₀ h h' : Heap} {b : Addr} (k : ∀ a o, h₀.get? a = some o → h.get? a = some o) (hn : h₀.get? b = none) (hs : Heap.SameBut b h h') : ∀ a o, h₀.get? a = some o → h'.get? a = some o := fun a o e =>
  (hs.2 a fun q => by rw [q, hn] at e; cases e).trans (k a o e)
section
variable {prog : Program} {w : World} {A : Around} {R : Result → Shared → Prop} {h : Heap} {g : Array GenState} {d : Drawn} {t : Nat} {os : OsState}
theorem new_book {f : Addr} (Y : BookCls (model prog w) h)
    (hq : R (.ok (.ret (.ref (h.objs.size + 1)))) ⟨(h.push emptyDict).push (bookObj h.objs.size [] 0 #[]), g, d, t, os⟩) :
    codeAny (model prog w) A (.call (.builtin "dict.__new__") ⟨[.ref 108, .ref f], []⟩) R ⟨h, g, d, t, os⟩ := by
  refine hide fun G kG => ?_
  obtain ⟨⟨oc, odd, cd, sl, hC, e1, e2, e4, e5, e6⟩, made, base, self, dict, dd, call, typ, init, od⟩ := Y
  refine kG ?_
  refine codeAny_call_builtin_code (Code.quiet_builtin _ (by decide +kernel)) ?_
  simp only [checkBuiltinCall, dn_kind, dn_split, dn_row]
  have here : Looks (model prog w) h (Bind.madeHere "dict.__new__" (.ref 108)) () := base.andThen (made.andThen (Looks.of_pure (by simp only [Option.map_some, bne_self_eq_false, Bool.false_eq_true, if_false])))
  have args : Bind.checkArgs "dict.__new__" ⟨.any, "dict", "dict", .cls, [⟨"args", .varPos, false⟩, ⟨"kwargs", .varKw, false⟩]⟩ ⟨[.ref 108, .ref f], []⟩ = pure () := by kernel_rfl
  rw [args]
  repeat (first | (with_reducible refine' wpAny_ite_false ?c0 ?_; (case c0 => (simp only [bne_self_eq_false, Bool.false_eq_true, if_false, decide_false]))) | (with_reducible refine' wpAny_ite_true ?c0 ?_; (case c0 => (simp only [bne_self_eq_false, Bool.false_eq_true, if_false, decide_true]))) | lk | simp only [bne_self_eq_false, Bool.false_eq_true, if_false])
  refine codeAny_builtin PySem.F.kt_entry_dict_new ?_
  unfold Builtin.«dict.__new__»
  have hm : Looks (model prog w) h (mroOf (.ref 108)) [Value.ref 108, Value.type "collections.defaultdict", Value.type "dict", Value.type "object"] := e4 ▸ ((Looks.ld (part := none) hC).andThen .now).andThen .now
  have hC' := Heap.get?_push_of_some emptyDict hC
  have hC2 := Heap.get?_push_of_some (bookObj h.objs.size [] 0 #[]) hC'
  repeat (first | (with_reducible refine' wpAny_ite_false ?c0 ?_; (case c0 => (simp only [e2, bne_self_eq_false, Bool.false_eq_true, if_false, Bool.not_true, decide_false]))) | (with_reducible refine' wpAny_ite_true ?c0 ?_; (case c0 => (simp only [e2, bne_self_eq_false, Bool.false_eq_true, if_false, Bool.not_true, decide_true]))) | lk | simp only [e2, bne_self_eq_false, Bool.false_eq_true, if_false, Bool.not_true])
  show R _ _
  rw [Heap.size_push]
  exact hq
theorem ddi_entry : entryFor table "collections.defaultdict.__init__" = some Builtin.«collections.defaultdict.__init__» := entryFor_of_tree (by kernel_rfl)
theorem ddi_kind : builtinKind "collections.defaultdict.__init__" = some .slot := by rw [builtinKind_eq_fast]; decide +kernel
theorem ddi_split : splitId "collections.defaultdict.__init__" = some ("collections.defaultdict", "__init__") := by decide +kernel
theorem ddi_args (a b : Value) : argsOk "collections.defaultdict.__init__" ⟨[a, b], []⟩ := by unfold argsOk; rw [PySem.W.Fast.signatureY_eq]; kernel_rfl
theorem ddi_bind (self : Value) : bindSpecial (.builtin "collections.defaultdict.__init__") self = pure (.builtin "collections.defaultdict.__init__", [self]) :=
  (Slot.of (T := "collections.defaultdict") (name := "__init__") (owner := "collections.defaultdict") (n := "__init__") (by rw [typeLookup_type, builtinLookup_eq_fast]; kernel_rfl) (by decide +kernel) (by decide +kernel) (by decide +kernel)
    (.inl (by decide +kernel)) (by rw [isSubtype_type]; kernel_rfl)).bind self
theorem init_book {b dx f : Addr} {es : List DictEntry} {ep : Nat} {of : Obj} {h₀ : Heap} (Y0 : BookCls (model prog w) h₀) (k : ∀ a o, h₀.get? a = some o → h.get? a = some o) (hn : h₀.get? b = none) (hb : h.get? b = some (bookObj dx es ep #[])) (hf : h.get? f = some of) (hof : of.cls = .type "function")
    (hq : ∀ h', h'.get? b = some (bookObj dx es ep #[some (.ref f)]) → Heap.SameBut b h h' → R (.ok (.ret .none)) ⟨h', g, d, t, os⟩) :
    codeAny (model prog w) A (.call (.builtin "collections.defaultdict.__init__") ⟨[.ref b, .ref f], []⟩) R ⟨h, g, d, t, os⟩ := by
  have Y := Y0.keeps k
  have tb : Looks (model prog w) h (typeOf (.ref b)) (.ref 108) := (Looks.ld hb).andThen .now
  have ib : Looks (model prog w) h (isInstance (.ref b) (.type "collections.defaultdict")) true := tb.andThen Y.dd
  have tf : Looks (model prog w) h (typeOf (.ref f)) (.type "function") := hof ▸ (Looks.ld hf).andThen .now
  have cf : Looks (model prog w) h (typeLookup (.type "function") "__call__") (some (.builtin "function.__call__")) := Looks.of_pure (by rw [typeLookup_type, builtinLookup_eq_fast]; kernel_rfl)
  refine codeAny_call_builtin (by decide +kernel) ddi_entry (@check_slot (model prog w) _ _ _ "collections.defaultdict.__init__" "collections.defaultdict" "__init__" (.ref b) [.ref f] [] _ ddi_kind ddi_split ib (ddi_args (.ref b) (.ref f)) ?_)
  unfold Builtin.«collections.defaultdict.__init__»
  repeat (first | (with_reducible refine' wpAny_ite_false ?c0 ?_; (case c0 => (simp only [bne_self_eq_false, Bool.false_eq_true, if_false, Bool.not_true, decide_false]))) | (with_reducible refine' wpAny_ite_true ?c0 ?_; (case c0 => (simp only [bne_self_eq_false, Bool.false_eq_true, if_false, Bool.not_true, decide_true]))) | lk | simp -iota only [bne_self_eq_false, Bool.false_eq_true, if_false, Bool.not_true] | dsimp only)
  refine nd_update hb rfl fun h' hb' hs => ?_
  replace hb' : h'.get? b = some (bookObj dx es ep #[some (.ref f)]) := hb'
  repeat (first | (with_reducible refine' wpAny_ite_false ?c0 ?_; (case c0 => (simp only [bne_self_eq_false, Bool.false_eq_true, if_false, Bool.not_true, decide_false]))) | (with_reducible refine' wpAny_ite_true ?c0 ?_; (case c0 => (simp only [bne_self_eq_false, Bool.false_eq_true, if_false, Bool.not_true, decide_true]))) | lk | simp -iota only [bne_self_eq_false, Bool.false_eq_true, if_false, Bool.not_true] | dsimp only)
  have Y' := Y0.keeps (keep_but k hn hs)
  refine hide fun G kG => ?_
  obtain ⟨⟨oc, odd, cd, sl, hC', e1, e2, e4, e5, e6⟩, _, _, _, _, _, _, _, _, od'⟩ := Y'
  refine kG ?_
  refine hide fun G kG => ?_
  obtain ⟨c1, c2, c3, c4, c5, c6, c7, c8, c9, c10, c11⟩ := cd
  refine kG ?_
  dsimp only at e1 e2 e4
  subst e1 e2 e4
  have tb' : Looks (model prog w) h' (typeOf (.ref b)) (.ref 108) := (Looks.ld hb').andThen .now
  refine X.x_call (codeAny_builtin PySem.F.entry_dict_init ?_) (by intro e; cases e)
  unfold Builtin.«dict.__init__»
  repeat (first | (with_reducible refine' wpAny_ite_false ?c0 ?_; (case c0 => (simp only [bne_self_eq_false, Bool.false_eq_true, if_false, Bool.not_true, decide_false]))) | (with_reducible refine' wpAny_ite_true ?c0 ?_; (case c0 => (simp only [bne_self_eq_false, Bool.false_eq_true, if_false, Bool.not_true, decide_true]))) | lk | simp -iota only [bne_self_eq_false, Bool.false_eq_true, if_false, Bool.not_true] | dsimp only)
  exact hq h' hb' hs
theorem make_book {h₀ : Heap} {f : Addr} {of : Obj} (Y0 : BookCls (model prog w) h₀) (k : ∀ a o, h₀.get? a = some o → h.get? a = some o) (hf : h.get? f = some of) (hof : of.cls = .type "function")
    (hn : h₀.get? (h.objs.size + 1) = none)
    (hq : ∀ h', h'.get? h.objs.size = some emptyDict → h'.get? (h.objs.size + 1) = some (bookObj h.objs.size [] 0 #[some (.ref f)]) → (∀ a o, h.get? a = some o → h'.get? a = some o) → R (.ok (.ret (.ref (h.objs.size + 1)))) ⟨h', g, d, t, os⟩) :
    codeAny (model prog w) A (.call (.ref 108) ⟨[.ref f], []⟩) R ⟨h, g, d, t, os⟩ := by
  have Y := Y0.keeps k
  have Y' := Y
  refine hide fun G kG => ?_
  obtain ⟨⟨oc, odd, cd, sl, hC, e1, e2, e4, e5, e6⟩, made, base, self, dict, dd, call, typ, init, od⟩ := Y
  refine kG ?_
  refine codeAny_of_tree ?_
  show wpAny _ _ (callAny (.ref 108) _) _ _ _
  refine nd_load hC ?_
  show wpAny _ _ (callAny.viaDunder (.ref 108) _) _ _ _
  unfold callAny.viaDunder
  refine wpAny_bind (call.at ?_)
  dsimp only
  rw [tc_bind]
  refine wpAny_bind (wpAny_pure (wpAny_bind (wpAny_pure ?_)))
  refine wpAny_pure (a := Fin.again (.call (.builtin "type.__call__") ⟨.ref 108 :: [.ref f], []⟩)) (And.intro rfl ?_)
  refine codeAny_call_builtin_at (Code.quiet_builtin _ (by decide +kernel)) entry_typeCall (check_slot tc_kind tc_split typ (tc_args _ _ _) ?_)
  unfold Builtin.«type.__call__»
  have hm : Looks (model prog w) h (mroOf (.ref 108)) [Value.ref 108, Value.type "collections.defaultdict", Value.type "dict", Value.type "object"] := e4 ▸ ((Looks.ld (part := none) hC).andThen .now).andThen .now
  repeat (first | (with_reducible refine' wpAny_ite_false ?c0 ?_; (case c0 => (simp only [Bool.false_eq_true, if_false, decide_false]))) | (with_reducible refine' wpAny_ite_true ?c0 ?_; (case c0 => (simp only [Bool.false_eq_true, if_false, decide_true]))) | with_reducible refine wpAny_call ?_ | lk | simp -iota only [Bool.false_eq_true, if_false] | dsimp only)
  refine new_book Y' ?_
  have kk : ∀ b o, h.get? b = some o → ((h.push emptyDict).push (bookObj h.objs.size [] 0 #[])).get? b = some o := fun b o e => Heap.get?_push_of_some _ (Heap.get?_push_of_some _ e)
  have hz : (h.push emptyDict).objs.size = h.objs.size + 1 := Heap.size_push ..
  have hx : ((h.push emptyDict).push (bookObj h.objs.size [] 0 #[])).get? (h.objs.size + 1) = some (bookObj h.objs.size [] 0 #[]) := by
    have := Heap.get?_push_size (h.push emptyDict) (o := bookObj h.objs.size [] 0 #[]) rfl
    rwa [hz] at this
  have hdx : ((h.push emptyDict).push (bookObj h.objs.size [] 0 #[])).get? h.objs.size = some emptyDict := Heap.get?_push_of_some _ (Heap.get?_push_size _ rfl)
  generalize ((h.push emptyDict).push (bookObj h.objs.size [] 0 #[])) = H at kk hx hdx ⊢
  have t1 : Looks (model prog w) H (typeOf (.ref (h.objs.size + 1))) (.ref 108) := (Looks.ld hx).andThen .now
  have s1 := self.keeps kk
  have i1 := init.keeps kk
  have b1 : Looks (model prog w) H (bindSpecial (.builtin "collections.defaultdict.__init__") (.ref (h.objs.size + 1))) (.builtin "collections.defaultdict.__init__", [.ref (h.objs.size + 1)]) := Looks.of_pure (ddi_bind _)
  unfold isInstance callSpecial? specialOf
  repeat (first | with_reducible refine wpAny_call ?_ | lk)
  refine init_book Y0 (fun a o e => kk _ _ (k _ _ e)) hn hx (kk _ _ hf) hof fun h' hb' hs => ?_
  refine wpAny_pure (wpAny_pure ?_)
  exact hq h' ((hs.2 _ (Nat.ne_of_lt (Nat.lt_succ_self _))).trans hdx) hb' fun a o e => (hs.2 a (Nat.ne_of_lt (Nat.lt_succ_of_lt (Heap.lt_size e)))).trans (kk _ _ e)
end
structure BookLk (M : Model) (h : Heap) : Prop where
  gi : Looks M h (typeLookup (.ref 108) "__getitem__") (some (.builtin "dict.__getitem__"))
  si : Looks M h (typeLookup (.ref 108) "__setitem__") (some (.builtin "dict.__setitem__"))
  mi : Looks M h (typeLookup (.ref 108) "__missing__") (some (.ref 98))
  ga : Looks M h (typeLookup (.ref 108) "__getattribute__") (some (.builtin "collections.defaultdict.__getattribute__"))
  gn : Looks M h (typeLookup (.ref 108) "__getattr__") none
  pop : Looks M h (typeLookup (.ref 108) "pop") (some (.builtin "dict.pop"))
  items : Looks M h (typeLookup (.ref 108) "items") (some (.builtin "dict.items"))
  freeze : Looks M h (typeLookup (.ref 108) "freeze") (some (.ref 105))
  sq : Looks M h (seqItemTypes.anyM fun n => isSubtype (.ref 108) (.type n)) false
  t98 : Looks M h (typeOf (.ref 98)) (.type "function")
  t105 : Looks M h (typeOf (.ref 105)) (.type "function")
  fz : Looks M h (typeLookup (.ref 108) "_frozen") none
  df : Looks M h (typeLookup (.ref 108) "default_factory") (some (.builtin "collections.defaultdict.default_factory"))
theorem BookLk.keeps {M : Model} {h h' : Heap} (Y : BookLk M h) (k : ∀ b o, h.get? b = some o → h'.get? b = some o) : BookLk M h' := by
  refine hide fun G kG => ?_
  obtain ⟨a1, a2, a3, a4, a5, a6, a7, a8, a9, a10, a11, a12, a13⟩ := Y
  refine kG ?_
  exact ⟨a1.keeps k, a2.keeps k, a3.keeps k, a4.keeps k, a5.keeps k, a6.keeps k, a7.keeps k, a8.keeps k, a9.keeps k, a10.keeps k, a11.keeps k, a12.keeps k, a13.keeps k⟩
theorem bookLk {M : Model} {w : World} {h : Heap} (hM : M = model Challenge.rw_in0190_01.row.prog w) (X : (hd.heap_39 w.params).In h) : BookLk M h := by
  subst hM
  revert X; k_fill; intro X
  exact ⟨looks_findIn X (by k_is), looks_findIn X (by k_is), looks_findIn X (by k_is), looks_findIn X (by k_is), looks_findIn X (by k_is), looks_findIn X (by k_is), looks_findIn X (by k_is), looks_findIn X (by k_is),
    Looks.of_peek X (by kernel_rfl), looks_typeIn X (by k_is), looks_typeIn X (by k_is), looks_findIn X (by k_is), looks_findIn X (by k_is)⟩
noncomputable def Ents (w : World) : List DictEntry → List (Str × Int) → Prop
  | [], [] => True
  | e :: es, (n, v) :: rs => (∃ t, e.key = .str n t) ∧ (∃ t, e.val = .int v t) ∧ e.hash = hashStr w n ∧ Ents w es rs
  | _, _ => False
theorem ents_keys {prog : Program} {w : World} : ∀ {es : List DictEntry} {rs : List (Str × Int)}, Ents w es rs → KeysOf (strKind prog w) es.toArray
  | [], [], _ => fun e he => by simp at he
  | e :: es, (n, v) :: rs, ⟨⟨t, h1⟩, _, h3, h4⟩ => fun e' he => by
    rcases List.mem_cons.mp (List.mem_toArray.mp he) with rfl | he
    · exact ⟨n, by rw [h1]; exact strKind_is prog w n t, h3⟩
    · exact ents_keys h4 e' (List.mem_toArray.mpr he)
theorem ents_find {w : World} (n : Str) : ∀ {es : List DictEntry} {rs : List (Str × Int)}, Ents w es rs → (es.findIdx? fun e => Value.isStrOf n e.key) = rs.findIdx? (fun r => r.1 == n)
  | [], [], _ => rfl
  | e :: es, (m, v) :: rs, ⟨⟨t, h1⟩, _, _, h4⟩ => by
    rw [List.findIdx?_cons, List.findIdx?_cons, ents_find n h4, h1]
    rfl
theorem ents_length {w : World} : ∀ {es : List DictEntry} {rs : List (Str × Int)}, Ents w es rs → es.length = rs.length
  | [], [], _ => rfl
  | _ :: _, _ :: _, ⟨_, _, _, h4⟩ => by rw [List.length_cons, List.length_cons, ents_length h4]
theorem ents_at {w : World} : ∀ {es : List DictEntry} {rs : List (Str × Int)} {i : Nat}, Ents w es rs → (∀ n v, rs[i]? = some (n, v) → ∃ e t t', es[i]? = some e ∧ e.key = .str n t ∧ e.val = .int v t')
  | [], [], _, _ => fun _ _ e => by simp at e
  | e :: es, (m, v) :: rs, 0, ⟨⟨t, h1⟩, ⟨t', h2⟩, _, _⟩ => fun n' v' he => by
    cases he
    exact ⟨e, t, t', rfl, h1, h2⟩
  | e :: es, (m, v) :: rs, i + 1, ⟨_, _, _, h4⟩ => fun n' v' he => ents_at h4 n' v' (by simpa using he)
theorem ents_push {w : World} {n : Str} {v : Int} {t t' : Tok} : ∀ {es : List DictEntry} {rs : List (Str × Int)}, Ents w es rs → Ents w (es ++ [⟨hashStr w n, .str n t, .int v t'⟩]) (rs ++ [(n, v)])
  | [], [], _ => ⟨⟨t, rfl⟩, ⟨t', rfl⟩, rfl, trivial⟩
  | _ :: _, (_, _) :: _, ⟨a, b, c, d⟩ => ⟨a, b, c, ents_push d⟩
theorem ents_put {w : World} {v : Int} {t' : Tok} : ∀ {es : List DictEntry} {rs : List (Str × Int)} (i : Nat), Ents w es rs → Ents w (es.modify i fun e => { e with val := .int v t' }) (rs.modify i fun r => (r.1, v))
  | [], [], i, _ => by cases i <;> exact trivial
  | _ :: _, (_, _) :: _, 0, ⟨a, _, c, d⟩ => ⟨a, ⟨t', rfl⟩, c, d⟩
  | e :: es, (m, u) :: rs, i + 1, ⟨a, b, c, d⟩ => ⟨a, b, c, ents_put i d⟩
theorem ents_cut {w : World} : ∀ {es : List DictEntry} {rs : List (Str × Int)} (i : Nat), Ents w es rs → Ents w (es.eraseIdx i) (rs.eraseIdx i)
  | [], [], i, _ => by cases i <;> exact trivial
  | _ :: _, (_, _) :: _, 0, ⟨_, _, _, d⟩ => d
  | e :: es, (m, u) :: rs, i + 1, ⟨a, b, c, d⟩ => ⟨a, b, c, ents_cut i d⟩
noncomputable def putR (rs : List (Str × Int)) (n : Str) (v : Int) : List (Str × Int) := match rs.findIdx? (fun r => r.1 == n) with
  | some i => rs.modify i fun r => (r.1, v)
  | none => rs ++ [(n, v)]
noncomputable def getR (rs : List (Str × Int)) (n : Str) : Option Int := (rs.find? fun r => r.1 == n).map (·.2)
noncomputable def cutR (rs : List (Str × Int)) (n : Str) : List (Str × Int) := match rs.findIdx? (fun r => r.1 == n) with
  | some i => rs.eraseIdx i
  | none => rs
section
variable {prog : Program} {w : World} {A : Around} {E : Value → Shared → Prop} {h : Heap} {g : Array GenState} {d : Drawn} {t : Nat} {os : OsState}
theorem dictSet_book {b dx : Addr} {es : List DictEntry} {ep : Nat} {sl : Array (Option Value)} {rs : List (Str × Int)} {n : Str} {v : Int} {tk tv : Tok} {Q : Unit → Shared → Prop}
    (hb : h.get? b = some (bookObj dx es ep sl)) (hes : Ents w es rs) (hz : rs.length ≤ 100)
    (hq : ∀ h' es' ep', h'.get? b = some (bookObj dx es' ep' sl) → Ents w es' (putR rs n v) → Heap.SameBut b h h' → Q () ⟨h', g, d, t + 1, os⟩) :
    wpAny (model prog w) A (dictSet b (.str n tk) (.int v tv)) Q E ⟨h, g, d, t, os⟩ := by
  unfold dictSet
  refine wpAny_holding ?_
  refine wpAny_bind ((strKind prog w).pyHash (strKind_is prog w n tk) ?_)
  unfold dictSetHashed
  refine wpAny_holding ?_
  refine wpAny_bind (wpAny_dictFind_of (knd := strKind prog w) (strKind_is prog w n tk) hb rfl (ents_keys hes) ?_)
  have hf : (es.toArray.findIdx? fun e => (strKind prog w).is n e.key) = rs.findIdx? (fun r => r.1 == n) := by
    rw [List.findIdx?_toArray]; exact ents_find n hes
  rw [hf]
  unfold putR at hq
  cases hi : rs.findIdx? (fun r => r.1 == n) with
  | none =>
    rw [hi] at hq
    dsimp only at hq ⊢
    refine wpAny_bind (wpAny_rule ?_)
    unfold updateDictKeys
    repeat (first | (with_reducible refine' wpAny_ite_false ?c0 ?_; (case c0 => (simp only [bne_self_eq_false, Bool.false_eq_true, if_false, Bool.not_true, decide_false]))) | (with_reducible refine' wpAny_ite_true ?c0 ?_; (case c0 => (simp only [bne_self_eq_false, Bool.false_eq_true, if_false, Bool.not_true, decide_true]))) | lk | simp -iota only [bne_self_eq_false, Bool.false_eq_true, if_false, Bool.not_true] | dsimp only)
    refine nd_update hb rfl fun h' hb' hs => ?_
    replace hb' : h'.get? b = some (bookObj dx (es ++ [⟨hashStr w n, .str n tk, .int v tv⟩]) (ep + 1) sl) := by
      rw [hb']; simp [bookObj, Obj.mapDictKeys, PySem.strKind]
    have hl := ents_length hes
    repeat (first | (with_reducible refine' wpAny_ite_false ?c0 ?_; (case c0 => (simp only [bne_self_eq_false, Bool.false_eq_true, if_false, Bool.not_true, decide_false]))) | (with_reducible refine' wpAny_ite_true ?c0 ?_; (case c0 => (simp only [bne_self_eq_false, Bool.false_eq_true, if_false, Bool.not_true, decide_true]))) | lk | simp -iota only [bne_self_eq_false, Bool.false_eq_true, if_false, Bool.not_true] | dsimp only)
    have hp : (bookObj dx (es ++ [{ hash := hashStr w n, key := Value.str n tk, val := Value.int v tv }]) (ep + 1) sl).data.pastItsLine = none := by
      show (if (es ++ [_]).toArray.size > sizeLine + 1 then some "dict:memory" else none) = none
      rw [if_neg (by rw [List.size_toArray, List.length_append, hl, sizeLine_eq]; simp only [List.length_cons, List.length_nil]; omega)]
    rw [hp]
    exact wpAny_pure (hq h' _ _ hb' (ents_push hes) hs)
  | some i =>
    rw [hi] at hq
    dsimp only at hq ⊢
    refine wpAny_bind (wpAny_rule ?_)
    unfold updateDict
    repeat (first | (with_reducible refine' wpAny_ite_false ?c0 ?_; (case c0 => (simp only [bne_self_eq_false, Bool.false_eq_true, if_false, Bool.not_true, decide_false]))) | (with_reducible refine' wpAny_ite_true ?c0 ?_; (case c0 => (simp only [bne_self_eq_false, Bool.false_eq_true, if_false, Bool.not_true, decide_true]))) | lk | simp -iota only [bne_self_eq_false, Bool.false_eq_true, if_false, Bool.not_true] | dsimp only)
    refine nd_update hb rfl fun h' hb' hs => ?_
    replace hb' : h'.get? b = some (bookObj dx (es.modify i fun e => { e with val := .int v tv }) ep sl) := by
      rw [hb']; simp [bookObj, Obj.mapDict]
    repeat (first | (with_reducible refine' wpAny_ite_false ?c0 ?_; (case c0 => (simp only [bne_self_eq_false, Bool.false_eq_true, if_false, Bool.not_true, decide_false]))) | (with_reducible refine' wpAny_ite_true ?c0 ?_; (case c0 => (simp only [bne_self_eq_false, Bool.false_eq_true, if_false, Bool.not_true, decide_true]))) | lk | simp -iota only [bne_self_eq_false, Bool.false_eq_true, if_false, Bool.not_true] | dsimp only)
    rw [if_neg (by simp)]
    refine wpAny_pure (wpAny_point (hq h' _ _ hb' (ents_put i hes) hs))
end
section
variable {prog : Program} {w : World} {A : Around} {E : Value → Shared → Prop} {h : Heap} {g : Array GenState} {d : Drawn} {t : Nat} {os : OsState}
theorem getR_of {rs : List (Str × Int)} {n : Str} : getR rs n = match rs.findIdx? (fun r => r.1 == n) with
    | some i => rs[i]?.map (·.2)
    | none => none := by
  unfold getR
  induction rs with
  | nil => rfl
  | cons r rs ih =>
    rw [List.findIdx?_cons, List.find?_cons]
    cases hr : (r.1 == n) with
    | true => rfl
    | false =>
      repeat (first | simp -iota only [Bool.false_eq_true, if_false, cond_false] | dsimp only)
      rw [ih]
      cases rs.findIdx? (fun r => r.1 == n) with
      | none => rfl
      | some i => rfl
theorem findIdx_lt {α : Type} {p : α → Bool} {l : List α} {i : Nat} (e : l.findIdx? p = some i) : i < l.length := by
  have := List.findIdx?_eq_some_iff_getElem.mp e
  exact this.1
theorem dictGet_book {b dx : Addr} {es : List DictEntry} {ep : Nat} {sl : Array (Option Value)} {rs : List (Str × Int)} {n : Str} {tk : Tok} {Q : Option Value → Shared → Prop}
    (hb : h.get? b = some (bookObj dx es ep sl)) (hes : Ents w es rs)
    (hq : match getR rs n with | some v => ∀ t', Q (some (.int v t')) ⟨h, g, d, t + 1, os⟩ | none => Q none ⟨h, g, d, t + 1, os⟩) :
    wpAny (model prog w) A (dictGet b (.str n tk)) Q E ⟨h, g, d, t, os⟩ := by
  unfold dictGet
  refine wpAny_holding ?_
  refine wpAny_bind ((PySem.strKind prog w).pyHash (strKind_is prog w n tk) ?_)
  refine wpAny_bind (wpAny_dictFind_of (knd := PySem.strKind prog w) (strKind_is prog w n tk) hb rfl (ents_keys hes) ?_)
  have hf : (es.toArray.findIdx? fun e => (PySem.strKind prog w).is n e.key) = rs.findIdx? (fun r => r.1 == n) := by
    rw [List.findIdx?_toArray]; exact ents_find n hes
  rw [hf]
  rw [getR_of] at hq
  cases hi : rs.findIdx? (fun r => r.1 == n) with
  | none =>
    rw [hi] at hq; dsimp only at hq
    exact wpAny_pure hq
  | some i =>
    rw [hi] at hq; dsimp only at hq
    have hlt := findIdx_lt hi
    refine hide fun G kG => ?_
    obtain ⟨e, t1, t2, he, _, hv⟩ := ents_at (i := i) hes (rs[i]).1 (rs[i]).2 (by simp [hlt])
    refine kG ?_
    have hr : rs[i]? = some rs[i] := by simp [hlt]
    rw [hr] at hq
    refine wpAny_bind (wpAny_dictEntries hb rfl (wpAny_pure ?_))
    have : es.toArray[i]? = some e := by simpa using he
    rw [this]
    show Q (some e.val) _
    rw [hv]
    exact hq t2
theorem takeOut_book {b dx : Addr} {es : List DictEntry} {ep : Nat} {sl : Array (Option Value)} {rs : List (Str × Int)} {n : Str} {tk : Tok} {Q : Option DictEntry → Shared → Prop}
    (hb : h.get? b = some (bookObj dx es ep sl)) (hes : Ents w es rs) (hz : rs.length ≤ 100)
    (hq : match getR rs n with
      | some v => ∀ h' es' ep' e t', h'.get? b = some (bookObj dx es' ep' sl) → Ents w es' (cutR rs n) → Heap.SameBut b h h' → e.val = .int v t' → (∃ t'', e.key = .str n t'') → Q (some e) ⟨h', g, d, t + 1, os⟩
      | none => cutR rs n = rs → Q none ⟨h, g, d, t + 1, os⟩) :
    wpAny (model prog w) A (Builtin.Dict.takeOut b (.str n tk)) Q E ⟨h, g, d, t, os⟩ := by
  unfold Builtin.Dict.takeOut
  refine wpAny_holding ?_
  refine wpAny_bind ((PySem.strKind prog w).pyHash (strKind_is prog w n tk) ?_)
  refine wpAny_bind (wpAny_dictFind_of (knd := PySem.strKind prog w) (strKind_is prog w n tk) hb rfl (ents_keys hes) ?_)
  have hf : (es.toArray.findIdx? fun e => (PySem.strKind prog w).is n e.key) = rs.findIdx? (fun r => r.1 == n) := by
    rw [List.findIdx?_toArray]; exact ents_find n hes
  rw [hf]
  rw [getR_of] at hq
  cases hi : rs.findIdx? (fun r => r.1 == n) with
  | none =>
    rw [hi] at hq; dsimp only at hq
    exact wpAny_pure (hq (by unfold cutR; rw [hi]))
  | some i =>
    rw [hi] at hq; dsimp only at hq
    have hlt := findIdx_lt hi
    refine hide fun G kG => ?_
    obtain ⟨e, t1, t2, he, hk, hv⟩ := ents_at (i := i) hes (rs[i]).1 (rs[i]).2 (by simp [hlt])
    refine kG ?_
    have hr : rs[i]? = some rs[i] := by simp [hlt]
    rw [hr] at hq
    have hl := ents_length hes
    have hname : (rs[i]).1 = n := by
      have := (List.findIdx?_eq_some_iff_getElem.mp hi).2.1
      exact beq_iff_eq.mp this
    refine wpAny_bind (wpAny_dictEntries hb rfl ?_)
    have hea : es.toArray[i]? = some e := by simpa using he
    rw [hea]
    dsimp only
    unfold updateDictKeys
    repeat (first | (with_reducible refine' wpAny_ite_false ?c0 ?_; (case c0 => (simp only [bne_self_eq_false, Bool.false_eq_true, if_false, Bool.not_true, decide_false]))) | (with_reducible refine' wpAny_ite_true ?c0 ?_; (case c0 => (simp only [bne_self_eq_false, Bool.false_eq_true, if_false, Bool.not_true, decide_true]))) | lk | simp -iota only [bne_self_eq_false, Bool.false_eq_true, if_false, Bool.not_true] | dsimp only)
    refine nd_update hb rfl fun h' hb' hs => ?_
    replace hb' : h'.get? b = some (bookObj dx (es.eraseIdx i) (ep + 1) sl) := by
      have hsz : i < es.toArray.size := by rw [List.size_toArray, hl]; exact hlt
      rw [hb']
      show some (Obj.mapDictKeys _ (bookObj dx es ep sl)) = _
      have : es.toArray.eraseIdxIfInBounds i = (es.eraseIdx i).toArray := by
        unfold Array.eraseIdxIfInBounds
        rw [dif_pos hsz]
        simp
      show some (⟨_, _, .dict (es.toArray.eraseIdxIfInBounds i) (ep + 1), _⟩ : Obj) = _
      rw [this]
      rfl
    repeat (first | (with_reducible refine' wpAny_ite_false ?c0 ?_; (case c0 => (simp only [bne_self_eq_false, Bool.false_eq_true, if_false, Bool.not_true, decide_false]))) | (with_reducible refine' wpAny_ite_true ?c0 ?_; (case c0 => (simp only [bne_self_eq_false, Bool.false_eq_true, if_false, Bool.not_true, decide_true]))) | lk | simp -iota only [bne_self_eq_false, Bool.false_eq_true, if_false, Bool.not_true] | dsimp only)
    have hp : (bookObj dx (es.eraseIdx i) (ep + 1) sl).data.pastItsLine = none := by
      show (if (es.eraseIdx i).toArray.size > sizeLine + 1 then some "dict:memory" else none) = none
      have := List.length_eraseIdx_le es i
      rw [if_neg (by rw [List.size_toArray, sizeLine_eq]; omega)]
    rw [hp]
    refine wpAny_pure (wpAny_pure ?_)
    have hc : cutR rs n = rs.eraseIdx i := by unfold cutR; rw [hi]
    refine hq h' _ _ e t2 hb' (hc ▸ ents_cut i hes) hs hv ⟨t1, by rw [hk, hname]⟩
end
theorem ds_kind : builtinKind "dict.__setitem__" = some .slot := by rw [builtinKind_eq_fast]; decide +kernel
theorem ds_split : splitId "dict.__setitem__" = some ("dict", "__setitem__") := by decide +kernel
theorem ds_bind (self : Value) : bindSpecial (.builtin "dict.__setitem__") self = pure (.builtin "dict.__setitem__", [self]) :=
  (Slot.of (T := "dict") (name := "__setitem__") (owner := "dict") (n := "__setitem__") (by rw [typeLookup_type, builtinLookup_eq_fast]; kernel_rfl) (by decide +kernel) (by decide +kernel) (by decide +kernel)
    (.inl (by decide +kernel)) (by rw [isSubtype_type]; kernel_rfl)).bind self
theorem dp_kind : builtinKind "dict.pop" = some .method := by rw [builtinKind_eq_fast]; decide +kernel
theorem dp_split : splitId "dict.pop" = some ("dict", "pop") := by decide +kernel
section
variable {prog : Program} {w : World} {A : Around} {E : Value → Shared → Prop} {h : Heap} {g : Array GenState} {d : Drawn} {t : Nat} {os : OsState}
theorem setItem_book {b dx : Addr} {es : List DictEntry} {ep : Nat} {sl : Array (Option Value)} {rs : List (Str × Int)} {n : Str} {v : Int} {tk tv : Tok} {Q : Unit → Shared → Prop}
    (Y : BookCls (model prog w) h) (Z : BookLk (model prog w) h) (hb : h.get? b = some (bookObj dx es ep sl)) (hes : Ents w es rs) (hz : rs.length ≤ 100)
    (hq : ∀ h' es' ep', h'.get? b = some (bookObj dx es' ep' sl) → Ents w es' (putR rs n v) → Heap.SameBut b h h' → Q () ⟨h', g, d, t + 1, os⟩) :
    wpAny (model prog w) A (setItem (.ref b) (.str n tk) (.int v tv)) Q E ⟨h, g, d, t, os⟩ := by
  have tb : Looks (model prog w) h (typeOf (.ref b)) (.ref 108) := (Looks.ld hb).andThen .now
  have ib : Looks (model prog w) h (isInstance (.ref b) (.type "dict")) true := tb.andThen Y.dict
  have b1 : Looks (model prog w) h (bindSpecial (.builtin "dict.__setitem__") (.ref b)) (.builtin "dict.__setitem__", [.ref b]) := Looks.of_pure (ds_bind _)
  refine hide fun G kG => ?_
  obtain ⟨z1, z2, z3, z4, z5, z6, z7, z8, z9, z10, z11, z12, z13⟩ := Z
  refine kG ?_
  unfold setItem sequenceKey callSpecial? specialOf
  repeat (first | (with_reducible refine' wpAny_ite_false ?c0 ?_; (case c0 => (simp only [bne_self_eq_false, Bool.false_eq_true, if_false, Bool.not_true, decide_false]))) | (with_reducible refine' wpAny_ite_true ?c0 ?_; (case c0 => (simp only [bne_self_eq_false, Bool.false_eq_true, if_false, Bool.not_true, decide_true]))) | lk | simp -iota only [bne_self_eq_false, Bool.false_eq_true, if_false, Bool.not_true] | dsimp only)
  refine X.x_call ?_ (by intro e; cases e)
  refine codeAny_call_builtin (by decide +kernel) PySem.entry_dict_setitem (@check_slot (model prog w) _ _ _ "dict.__setitem__" "dict" "__setitem__" (.ref b) [.str n tk, .int v tv] [] _ ds_kind ds_split ib (PySem.F.args_dict_setitem_3 (.ref b) (.str n tk) (.int v tv)) ?_)
  unfold Builtin.«dict.__setitem__»
  refine hide fun G kG => ?_
  obtain ⟨⟨oc, odd, cd, sl', hC', e1, e2, e4, e5, e6⟩, _⟩ := Y
  refine kG ?_
  refine hide fun G kG => ?_
  obtain ⟨c1, c2, c3, c4, c5, c6, c7, c8, c9, c10, c11⟩ := cd
  refine kG ?_
  dsimp only at e1 e2 e4
  subst e1 e2 e4
  repeat ((fail_if_success (with_reducible show wpAny _ _ (dictSet _ _ _) _ _ _)); first | simp -iota only [bne_self_eq_false, Bool.false_eq_true, if_false, Bool.not_true] | dsimp only | lk)
  refine dictSet_book hb hes hz fun h' es' ep' a1 a2 a3 => ?_
  repeat (first | (with_reducible refine' wpAny_ite_false ?c0 ?_; (case c0 => (simp only [bne_self_eq_false, Bool.false_eq_true, if_false, Bool.not_true, decide_false]))) | (with_reducible refine' wpAny_ite_true ?c0 ?_; (case c0 => (simp only [bne_self_eq_false, Bool.false_eq_true, if_false, Bool.not_true, decide_true]))) | lk | simp -iota only [bne_self_eq_false, Bool.false_eq_true, if_false, Bool.not_true] | dsimp only)
  exact hq h' es' ep' a1 a2 a3
end
theorem dg_kind : builtinKind "dict.__getitem__" = some .method ∨ builtinKind "dict.__getitem__" = some .slot := by rw [builtinKind_eq_fast]; decide +kernel
theorem dg_split : splitId "dict.__getitem__" = some ("dict", "__getitem__") := by decide +kernel
theorem dg_bind (self : Value) : bindSpecial (.builtin "dict.__getitem__") self = pure (.builtin "dict.__getitem__", [self]) :=
  (Slot.of (T := "dict") (name := "__getitem__") (owner := "dict") (n := "__getitem__") (by rw [typeLookup_type, builtinLookup_eq_fast]; kernel_rfl) (by decide +kernel) (by decide +kernel) (by decide +kernel)
    (by first | exact .inl (by decide +kernel) | exact .inr (by decide +kernel)) (by rw [isSubtype_type]; kernel_rfl)).bind self
theorem check_any {M : Model} {A : Around} {E : Value → Shared → Prop} {s : Shared} {i owner n : String} {self : Value} {rest : List Value} {kw : List (Str × Value)} {Q : Unit → Shared → Prop}
    (hk : builtinKind i = some .method ∨ builtinKind i = some .slot) (hs : splitId i = some (owner, n)) (hi : Looks M s.heap (isInstance self (.type owner)) true) (ha : argsOk i ⟨self :: rest, kw⟩) (q : Q () s) :
    wpAny M A (checkBuiltinCall i ⟨self :: rest, kw⟩) Q E s := hk.elim (fun hk => kfo_check hk hs hi ha q) fun hk => check_slot hk hs hi ha q
section
variable {prog : Program} {w : World} {A : Around} {E : Value → Shared → Prop} {h : Heap} {g : Array GenState} {d : Drawn} {t : Nat} {os : OsState}
theorem pop_book {b dx : Addr} {es : List DictEntry} {ep : Nat} {sl : Array (Option Value)} {rs : List (Str × Int)} {n : Str} {tk : Tok} {Q : Value → Shared → Prop}
    (Y : BookCls (model prog w) h) (hb : h.get? b = some (bookObj dx es ep sl)) (hes : Ents w es rs) (hz : rs.length ≤ 100) (hlo : (b == sysModules) = false)
    (hq : match getR rs n with
      | some v => ∀ h' es' ep' t', h'.get? b = some (bookObj dx es' ep' sl) → Ents w es' (cutR rs n) → Heap.SameBut b h h' → Q (.int v t') ⟨h', g, d, t + 1, os⟩
      | none => cutR rs n = rs → Q .none ⟨h, g, d, t + 1, os⟩) :
    wpAny (model prog w) A (call (.builtin "dict.pop") [.ref b, .str n tk, .none]) Q E ⟨h, g, d, t, os⟩ := by
  have tb : Looks (model prog w) h (typeOf (.ref b)) (.ref 108) := (Looks.ld hb).andThen .now
  have ib : Looks (model prog w) h (isInstance (.ref b) (.type "dict")) true := tb.andThen Y.dict
  refine wpAny_call (codeAny_call_builtin (by decide +kernel) PySem.F.entry_dict_pop (@kfo_check (model prog w) _ _ _ "dict.pop" "dict" "pop" (.ref b) [.str n tk, .none] [] _ dp_kind dp_split ib (PySem.F.args_dict_pop_3 (.ref b) (.str n tk) .none) ?_))
  unfold Builtin.«dict.pop»
  refine hide fun G kG => ?_
  obtain ⟨⟨oc, odd, cd, sl', hC', e1, e2, e4, e5, e6⟩, _⟩ := Y
  refine kG ?_
  refine hide fun G kG => ?_
  obtain ⟨c1, c2, c3, c4, c5, c6, c7, c8, c9, c10, c11⟩ := cd
  refine kG ?_
  dsimp only at e1 e2 e4
  subst e1 e2 e4
  repeat ((fail_if_success (with_reducible show wpAny _ _ (Builtin.Dict.takeOut _ _) _ _ _)); first | simp -iota only [bne_self_eq_false, Bool.false_eq_true, if_false, Bool.not_true] | dsimp only | lk)
  refine takeOut_book hb hes hz ?_
  cases hg : getR rs n with
  | none =>
    rw [hg] at hq
    intro hc
    repeat (first | (with_reducible refine' wpAny_ite_false ?c0 ?_; (case c0 => (simp only [hlo, bne_self_eq_false, Bool.false_eq_true, if_false, Bool.not_true, decide_false]))) | (with_reducible refine' wpAny_ite_true ?c0 ?_; (case c0 => (simp only [hlo, bne_self_eq_false, Bool.false_eq_true, if_false, Bool.not_true, decide_true]))) | lk | simp -iota only [hlo, bne_self_eq_false, Bool.false_eq_true, if_false, Bool.not_true] | dsimp only)
    exact hq hc
  | some v =>
    rw [hg] at hq
    intro h' es' ep' e t' a1 a2 a3 hv hk
    refine hide fun G kG => ?_
    obtain ⟨t2, hk⟩ := hk
    refine kG ?_
    refine hide fun G kG => ?_
    obtain ⟨eh, ek, ev⟩ := e
    refine kG ?_
    dsimp only at hv hk
    subst hv hk
    repeat (first | (with_reducible refine' wpAny_ite_false ?c0 ?_; (case c0 => (simp only [bne_self_eq_false, Bool.false_eq_true, if_false, Bool.not_true, decide_false]))) | (with_reducible refine' wpAny_ite_true ?c0 ?_; (case c0 => (simp only [bne_self_eq_false, Bool.false_eq_true, if_false, Bool.not_true, decide_true]))) | lk | simp -iota only [bne_self_eq_false, Bool.false_eq_true, if_false, Bool.not_true] | dsimp only)
    exact hq h' es' ep' t' a1 a2 a3
theorem getItem_book {b dx : Addr} {es : List DictEntry} {ep : Nat} {sl : Array (Option Value)} {rs : List (Str × Int)} {n : Str} {tk : Tok} {Q : Value → Shared → Prop}
    (Y : BookCls (model prog w) h) (Z : BookLk (model prog w) h) (hb : h.get? b = some (bookObj dx es ep sl)) (hes : Ents w es rs) (hlo : (b == sysModules) = false)
    (hq : match getR rs n with
      | some v => ∀ t', Q (.int v t') ⟨h, g, d, t + 1, os⟩
      | none => codeAny (model prog w) A.in1 (.call (.ref 98) ⟨[.ref b, .str n tk], []⟩) (fun r s' => match r with | .ok (.ret v) => Q v s' | _ => False) ⟨h, g, d, t + 1, os⟩) :
    wpAny (model prog w) A (getItem (.ref b) (.str n tk)) Q E ⟨h, g, d, t, os⟩ := by
  have tb : Looks (model prog w) h (typeOf (.ref b)) (.ref 108) := (Looks.ld hb).andThen .now
  have ib : Looks (model prog w) h (isInstance (.ref b) (.type "dict")) true := tb.andThen Y.dict
  have b1 : Looks (model prog w) h (bindSpecial (.builtin "dict.__getitem__") (.ref b)) (.builtin "dict.__getitem__", [.ref b]) := Looks.of_pure (dg_bind _)
  refine hide fun G kG => ?_
  obtain ⟨z1, z2, z3, z4, z5, z6, z7, z8, z9, z10, z11, z12, z13⟩ := Z
  refine kG ?_
  unfold getItem sequenceKey callSpecial? specialOf
  repeat (first | (with_reducible refine' wpAny_ite_false ?c0 ?_; (case c0 => (simp only [bne_self_eq_false, Bool.false_eq_true, if_false, Bool.not_true, decide_false]))) | (with_reducible refine' wpAny_ite_true ?c0 ?_; (case c0 => (simp only [bne_self_eq_false, Bool.false_eq_true, if_false, Bool.not_true, decide_true]))) | lk | simp -iota only [bne_self_eq_false, Bool.false_eq_true, if_false, Bool.not_true] | dsimp only)
  refine X.x_call ?_ (by intro e; cases e)
  refine codeAny_call_builtin (by decide +kernel) PySem.entry_dict_getitem (@check_any (model prog w) _ _ _ "dict.__getitem__" "dict" "__getitem__" (.ref b) [.str n tk] [] _ dg_kind dg_split ib (PySem.F.args_dict_getitem_2 (.ref b) (.str n tk)) ?_)
  unfold Builtin.«dict.__getitem__»
  repeat ((fail_if_success (with_reducible show wpAny _ _ (dictGet _ _) _ _ _)); first | simp -iota only [bne_self_eq_false, Bool.false_eq_true, if_false, Bool.not_true] | dsimp only | lk)
  refine dictGet_book hb hes ?_
  cases hg : getR rs n with
  | some v =>
    rw [hg] at hq
    intro t'
    repeat (first | (with_reducible refine' wpAny_ite_false ?c0 ?_; (case c0 => (simp only [bne_self_eq_false, Bool.false_eq_true, if_false, Bool.not_true, decide_false]))) | (with_reducible refine' wpAny_ite_true ?c0 ?_; (case c0 => (simp only [bne_self_eq_false, Bool.false_eq_true, if_false, Bool.not_true, decide_true]))) | lk | simp -iota only [bne_self_eq_false, Bool.false_eq_true, if_false, Bool.not_true] | dsimp only)
    exact hq t'
  | none =>
    rw [hg] at hq
    have b2 : Looks (model prog w) h (bindSpecial (.ref 98) (.ref b)) (.ref 98, [.ref b]) := by
      unfold bindSpecial
      exact z10.andThen (Looks.of_pure (by kernel_rfl))
    repeat (first | (with_reducible refine' wpAny_ite_false ?c0 ?_; (case c0 => (simp only [hlo, bne_self_eq_false, Bool.false_eq_true, if_false, Bool.not_true, decide_false]))) | (with_reducible refine' wpAny_ite_true ?c0 ?_; (case c0 => (simp only [hlo, bne_self_eq_false, Bool.false_eq_true, if_false, Bool.not_true, decide_true]))) | lk | simp -iota only [hlo, bne_self_eq_false, Bool.false_eq_true, if_false, Bool.not_true] | dsimp only)
    refine X.x_call (codeAny_mono hq fun r s' z => ?_) (by intro e; cases e)
    rcases r with e | (v | _ | _ | _) <;> first | exact z.elim | skip
    repeat (first | (with_reducible refine' wpAny_ite_false ?c0 ?_; (case c0 => (simp only [hlo, bne_self_eq_false, Bool.false_eq_true, if_false, Bool.not_true, decide_false]))) | (with_reducible refine' wpAny_ite_true ?c0 ?_; (case c0 => (simp only [hlo, bne_self_eq_false, Bool.false_eq_true, if_false, Bool.not_true, decide_true]))) | lk | simp -iota only [hlo, bne_self_eq_false, Bool.false_eq_true, if_false, Bool.not_true] | dsimp only)
    exact z
end
end
section
noncomputable def dxObj (w : World) (fro : Option (Tok × Addr)) : Obj := match fro with
  | none => emptyDict
  | some (t, l) => { cls := .type "dict", data := .dict #[⟨hashStr w "_frozen", .str "_frozen" t, .ref l⟩] 1 }
theorem ga_args (a b c : Value) : argsOk "getattr" ⟨[a, b, c], []⟩ := by unfold argsOk; rw [PySem.W.Fast.signatureY_eq]; kernel_rfl
theorem dga_entry : entryFor table "collections.defaultdict.__getattribute__" = some Builtin.«object.__getattribute__» := entryFor_alias (id' := "object.__getattribute__") (by rw [fastTable_eq_tree]; kernel_rfl) (by decide +kernel) (by rw [PySem.W.Fast.canonicalY_eq]; decide +kernel) (by rw [fastTable_eq_tree]; kernel_rfl)
theorem dga_kind : builtinKind "collections.defaultdict.__getattribute__" = some .method ∨ builtinKind "collections.defaultdict.__getattribute__" = some .slot := by rw [builtinKind_eq_fast]; decide +kernel
theorem dga_split : splitId "collections.defaultdict.__getattribute__" = some ("collections.defaultdict", "__getattribute__") := by decide +kernel
theorem dga_args (a b : Value) : argsOk "collections.defaultdict.__getattribute__" ⟨[a, b], []⟩ := by unfold argsOk; rw [PySem.W.Fast.signatureY_eq]; kernel_rfl
section
variable {prog : Program} {w : World} {A : Around} {E : Value → Shared → Prop} {h : Heap} {g : Array GenState} {d : Drawn} {t : Nat} {os : OsState}
theorem getattr_frozen {b dx : Addr} {es : List DictEntry} {ep : Nat} {sl : Array (Option Value)} {fro : Option (Tok × Addr)} {tk : Tok} {dflt : Value} {Q : Value → Shared → Prop}
    (Y : BookCls (model prog w) h) (Z : BookLk (model prog w) h) (hb : h.get? b = some (bookObj dx es ep sl)) (hdx : h.get? dx = some (dxObj w fro))
    (hh : A.handled = none) (hq : ∀ h' tk, (∀ a o, h.get? a = some o → h'.get? a = some o) → Q (match fro with | some (_, l) => .ref l | none => dflt) ⟨h', g, d, tk, os⟩) :
    wpAny (model prog w) A (call (.builtin "getattr") [.ref b, .str "_frozen" tk, dflt]) Q E ⟨h, g, d, t, os⟩ := by
  have tb : Looks (model prog w) h (typeOf (.ref b)) (.ref 108) := (Looks.ld hb).andThen .now
  obtain ⟨z1, z2, z3, z4, z5, z6, z7, z8, z9, z10, z11, z12, z13⟩ := Z
  have ib : Looks (model prog w) h (isInstance (.ref b) (.type "collections.defaultdict")) true := tb.andThen Y.dd
  obtain ⟨⟨oc, odd, cd, sl', hC', e1, e2, e4, e5, e6⟩, _⟩ := Y
  obtain ⟨c1, c2, c3, c4, c5, c6, c7, c8, c9, c10, c11⟩ := cd
  dsimp only at e1 e2 e4 e5 e6
  subst e1 e2 e4 e5 e6
  refine Calls.call_function_entry (by decide +kernel) (by decide +kernel) PySem.W.KB.entry_getattr (ga_args _ _ _) ?_
  unfold Builtin.«getattr»
  repeat (first | (with_reducible refine' wpAny_ite_false ?c0 ?_; (case c0 => (simp only [bne_self_eq_false, Bool.false_eq_true, if_false, Bool.not_true, decide_false]))) | (with_reducible refine' wpAny_ite_true ?c0 ?_; (case c0 => (simp only [bne_self_eq_false, Bool.false_eq_true, if_false, Bool.not_true, decide_true]))) | with_reducible refine wpAny_attempt ?_ | lk | simp -iota only [bne_self_eq_false, Bool.false_eq_true, if_false, Bool.not_true] | dsimp only)
  refine X.x_call ?_ (by intro e; cases e)
  refine codeAny_call_builtin (by decide +kernel) dga_entry (@check_any (model prog w) _ _ _ "collections.defaultdict.__getattribute__" "collections.defaultdict" "__getattribute__" (.ref b) [.str "_frozen" tk] [] _ dga_kind dga_split ib (dga_args (.ref b) (.str "_frozen" tk)) ?_)
  unfold Builtin.«object.__getattribute__»
  rcases fro with _ | ⟨t0, l0⟩
  · repeat ((fail_if_success (with_reducible show wpAny _ _ (raiseAttrError _ _ _) _ _ _)); (first | simp -iota only [bne_self_eq_false, Bool.false_eq_true, if_false, Bool.not_true] | dsimp only | with_reducible refine wpAny_attempt ?_ | lk))
    refine wpAny_raiseAttrError hh (fun h' tk' e N => ?_) (by
      refine Nat.le_trans (m := 200) (by decide +kernel) (by rw [sizeLine_eq]; omega))
    obtain ⟨_, _, he⟩ := N.there
    have te : Looks (model prog w) h' (typeOf (.ref e)) (.type "AttributeError") := (Looks.ld he).andThen .now
    have se : Looks (model prog w) h' (isSubtype (.type "AttributeError") (.type "AttributeError")) true := Looks.of_pure sub_AttributeError
    unfold isInstance
    repeat (first | (with_reducible refine' wpAny_ite_false ?c0 ?_; (case c0 => (simp only [bne_self_eq_false, Bool.false_eq_true, if_false, Bool.not_true, decide_false]))) | (with_reducible refine' wpAny_ite_true ?c0 ?_; (case c0 => (simp only [bne_self_eq_false, Bool.false_eq_true, if_false, Bool.not_true, decide_true]))) | lk | simp -iota only [bne_self_eq_false, Bool.false_eq_true, if_false, Bool.not_true] | dsimp only)
    repeat (first | (with_reducible refine' wpAny_ite_false ?c0 ?_; (case c0 => (simp only [bne_self_eq_false, Bool.false_eq_true, if_false, Bool.not_true, decide_false]))) | (with_reducible refine' wpAny_ite_true ?c0 ?_; (case c0 => (simp only [bne_self_eq_false, Bool.false_eq_true, if_false, Bool.not_true, decide_true]))) | lk | refine X.x_raise ?_ | simp -iota only [bne_self_eq_false, Bool.false_eq_true, if_false, Bool.not_true] | dsimp only)
    exact ⟨_, rfl, hq h' tk' N.keeps⟩
  · repeat (first | (with_reducible refine' wpAny_ite_false ?c0 ?_; (case c0 => (simp only [bne_self_eq_false, Bool.false_eq_true, if_false, Bool.not_true, decide_false]))) | (with_reducible refine' wpAny_ite_true ?c0 ?_; (case c0 => (simp only [bne_self_eq_false, Bool.false_eq_true, if_false, Bool.not_true, decide_true]))) | with_reducible refine wpAny_attempt ?_ | lk | simp -iota only [bne_self_eq_false, Bool.false_eq_true, if_false, Bool.not_true] | dsimp only)
    exact ⟨_, rfl, hq h t fun _ _ e => e⟩
end
end
section
theorem sg_kind : builtinKind "super.__getattribute__" = some .method ∨ builtinKind "super.__getattribute__" = some .slot := by rw [builtinKind_eq_fast]; decide +kernel
theorem sg_split : splitId "super.__getattribute__" = some ("super", "__getattribute__") := by decide +kernel
theorem dm_type : typeOf (.builtin "collections.defaultdict.__missing__") = pure (.type "method_descriptor") := by show builtinType _ = _; rw [builtinType_eq_fast]; kernel_rfl
theorem md_entry : entryFor table "method_descriptor.__get__" = some Builtin.«method_descriptor.__get__» := entryFor_of_tree (by kernel_rfl)
theorem md_kind : builtinKind "method_descriptor.__get__" = some .method ∨ builtinKind "method_descriptor.__get__" = some .slot := by rw [builtinKind_eq_fast]; decide +kernel
theorem md_split : splitId "method_descriptor.__get__" = some ("method_descriptor", "__get__") := by decide +kernel
theorem md_args (a b c : Value) : argsOk "method_descriptor.__get__" ⟨[a, b, c], []⟩ := by unfold argsOk; rw [PySem.W.Fast.signatureY_eq]; kernel_rfl
noncomputable def missM (b : Addr) : Obj := { cls := .type "builtin_function_or_method", data := .fields #[.builtin "collections.defaultdict.__missing__", .ref b] }
section
variable {prog : Program} {w : World} {A : Around} {E : Value → Shared → Prop} {h : Heap} {g : Array GenState} {d : Drawn} {t : Nat} {os : OsState}
theorem super_missing {b dx so : Addr} {es : List DictEntry} {ep : Nat} {sl : Array (Option Value)} {Q : Value → Shared → Prop} {x : Bool}
    (Y : BookCls (model prog w) h) (hb : h.get? b = some (bookObj dx es ep sl)) (hso : h.get? so = some (ks_superObj 108 b 108))
    (hop : Looks (model prog w) h anyOpaqueLoaded false) (hne : b ≠ 108)
    (hq : Q (.ref h.objs.size) ⟨h.push (missM b), g, d, t + 1, os⟩) :
    wpAny (model prog w) A (getAttr (.ref so) "__missing__" x) Q E ⟨h, g, d, t, os⟩ := by
  have ts : Looks (model prog w) h (typeOf (.ref so)) (.type "super") := (Looks.ld hso).andThen .now
  have l1 : Looks (model prog w) h (typeLookup (.type "super") "__getattribute__") (some (.builtin "super.__getattribute__")) := Looks.of_pure (by rw [typeLookup_type, builtinLookup_eq_fast]; kernel_rfl)
  have is : Looks (model prog w) h (isInstance (.ref so) (.type "super")) true := ts.andThen (Looks.of_pure (by rw [isSubtype_type]; kernel_rfl))
  have im : Looks (model prog w) h (isInstance (.builtin "collections.defaultdict.__missing__") (.type "method_descriptor")) true := (Looks.of_pure dm_type).andThen (Looks.of_pure (by rw [isSubtype_type]; kernel_rfl))
  have tb : Looks (model prog w) h (typeOf (.ref b)) (.ref 108) := (Looks.ld hb).andThen .now
  have ib : Looks (model prog w) h (isInstance (.ref b) (.type "collections.defaultdict")) true := tb.andThen Y.dd
  refine hide fun G kG => ?_
  obtain ⟨⟨oc, odd, cd, sl', hC', e1, e2, e4, e5, e6⟩, _⟩ := Y
  refine kG ?_
  refine hide fun G kG => ?_
  obtain ⟨c1, c2, c3, c4, c5, c6, c7, c8, c9, c10, c11⟩ := cd
  refine kG ?_
  dsimp only at e1 e2 e4 e5 e6
  subst e1 e2 e4 e5 e6
  unfold getAttr getAttrBy
  repeat ((fail_if_success (with_reducible show wpAny _ _ (boundAndCalled _ _ _) _ _ _)); (first | simp -iota only [show onTheHeap (Value.builtin "super.__getattribute__") = false from rfl, Bool.and_false, bne_self_eq_false, Bool.false_eq_true, if_false, Bool.not_true] | dsimp only | with_reducible refine wpAny_attempt ?_ | lk))
  repeat (first | (with_reducible refine' wpAny_ite_false ?c0 ?_; (case c0 => (simp only [show onTheHeap (Value.builtin "super.__getattribute__") = false from rfl, Bool.and_false, bne_self_eq_false, Bool.false_eq_true, if_false, Bool.not_true, decide_false]))) | (with_reducible refine' wpAny_ite_true ?c0 ?_; (case c0 => (simp only [show onTheHeap (Value.builtin "super.__getattribute__") = false from rfl, Bool.and_false, bne_self_eq_false, Bool.false_eq_true, if_false, Bool.not_true, decide_true]))) | with_reducible refine wpAny_attempt ?_ | lk | simp -iota only [show onTheHeap (Value.builtin "super.__getattribute__") = false from rfl, Bool.and_false, bne_self_eq_false, Bool.false_eq_true, if_false, Bool.not_true] | dsimp only)
  refine X.x_call ?_ (by intro e; cases e)
  refine codeAny_call_builtin (by decide +kernel) PySem.F.ks_entry_super_ga (@check_any (model prog w) _ _ _ "super.__getattribute__" "super" "__getattribute__" (.ref so) [.str "__missing__" t] [] _ sg_kind sg_split is (PySem.F.ks_gaArgs_super (.ref so) (.str "__missing__" t)) ?_)
  unfold Builtin.«super.__getattribute__»
  repeat (first | (with_reducible refine' wpAny_ite_false ?c0 ?_; (case c0 => (simp only [bne_self_eq_false, Bool.false_eq_true, if_false, Bool.not_true, decide_false]))) | (with_reducible refine' wpAny_ite_true ?c0 ?_; (case c0 => (simp only [bne_self_eq_false, Bool.false_eq_true, if_false, Bool.not_true, decide_true]))) | with_reducible refine wpAny_attempt ?_ | lk | simp -iota only [bne_self_eq_false, Bool.false_eq_true, if_false, Bool.not_true] | dsimp only)
  have q1 : (toString "method_descriptor" ++ toString "." ++ toString (Str.ofString "__get__").toString) = "method_descriptor.__get__" := by decide +kernel
  have q2 : (toString "collections.defaultdict" ++ toString "." ++ toString (Str.ofString "__missing__").toString) = "collections.defaultdict.__missing__" := by decide +kernel
  have q3 : (Value.ref b == Value.ref 108) = false := by simpa using hne
  rw [q1, q2]
  show wpAny _ _ (Sem.call (Code.call (Value.builtin "method_descriptor.__get__") ⟨[.builtin "collections.defaultdict.__missing__", if (Value.ref b == Value.ref 108) = true then .none else .ref b, .ref 108], []⟩) _ _ _ _) _ _ _
  rw [q3]
  repeat (first | simp -iota only [Bool.false_eq_true, if_false] | dsimp only)
  refine X.x_call ?_ (by intro e; cases e)
  refine codeAny_call_builtin (by decide +kernel) md_entry (@check_any (model prog w) _ _ _ "method_descriptor.__get__" "method_descriptor" "__get__" (.builtin "collections.defaultdict.__missing__") [.ref b, .ref 108] [] _ md_kind md_split im (md_args _ _ _) ?_)
  unfold Builtin.«method_descriptor.__get__»
  repeat (first | (with_reducible refine' wpAny_ite_false ?c0 ?_; (case c0 => (simp only [bne_self_eq_false, Bool.false_eq_true, if_false, Bool.not_true, decide_false]))) | (with_reducible refine' wpAny_ite_true ?c0 ?_; (case c0 => (simp only [bne_self_eq_false, Bool.false_eq_true, if_false, Bool.not_true, decide_true]))) | with_reducible refine wpAny_attempt ?_ | lk | simp -iota only [bne_self_eq_false, Bool.false_eq_true, if_false, Bool.not_true] | dsimp only)
  exact hq
end
end
section
theorem mi_entry : entryFor table "collections.defaultdict.__missing__" = some Builtin.«collections.defaultdict.__missing__» := entryFor_of_tree (by kernel_rfl)
theorem mi_kind : builtinKind "collections.defaultdict.__missing__" = some .method ∨ builtinKind "collections.defaultdict.__missing__" = some .slot := by rw [builtinKind_eq_fast]; decide +kernel
theorem mi_split : splitId "collections.defaultdict.__missing__" = some ("collections.defaultdict", "__missing__") := by decide +kernel
theorem mi_args (a b : Value) : argsOk "collections.defaultdict.__missing__" ⟨[a, b], []⟩ := by unfold argsOk; rw [PySem.W.Fast.signatureY_eq]; kernel_rfl
theorem mi_sig : Manifest.signature? "collections.defaultdict.__missing__" = some ⟨.oneArg, "defaultdict.__missing__", "__missing__", .self, [⟨"object", .posOnly, true⟩]⟩ := by kernel_rfl
theorem mi_check (a b : Value) : Bind.checkArgs "collections.defaultdict.__missing__" ⟨.oneArg, toString (Str.ofString "FreezableDefaultDict").toString ++ toString "." ++ toString (Bind.lastOf "collections.defaultdict.__missing__"), "__missing__", .self, [⟨"object", .posOnly, true⟩]⟩ ⟨[a, b], []⟩ = pure () := by kernel_rfl
structure BookMs (M : Model) (h : Heap) : Prop where
  nm : Looks M h (isSubtype (.ref 108) (.type "module")) false
  ty : Looks M h (typeOf (.ref 108)) (.type "type")
  qn : ∃ oc od cd sl, h.get? 108 = some ⟨oc, od, .cls cd, sl⟩ ∧ cd.qualname = Str.ofString "FreezableDefaultDict"
theorem BookMs.keeps {M : Model} {h h' : Heap} (Y : BookMs M h) (k : ∀ b o, h.get? b = some o → h'.get? b = some o) : BookMs M h' := by
  obtain ⟨a1, a2, oc, od, cd, sl, hC, e⟩ := Y
  exact ⟨a1.keeps k, a2.keeps k, oc, od, cd, sl, k _ _ hC, e⟩
theorem bookMs {M : Model} {w : World} {h : Heap} (hM : M = model Challenge.rw_in0190_01.row.prog w) (X : (hd.heap_39 w.params).In h) : BookMs M h := by
  subst hM
  revert X; k_fill; intro X
  exact ⟨looks_mroIn X (by k_is), looks_typeIn X (by k_is), ⟨_, _, _, _, X 108 _ rfl, rfl⟩⟩
section
variable {prog : Program} {w : World} {A : Around} {R : Result → Shared → Prop} {E : Value → Shared → Prop} {h : Heap} {g : Array GenState} {d : Drawn} {t : Nat} {os : OsState}
theorem setDefault_book {b dx : Addr} {es : List DictEntry} {ep : Nat} {sl : Array (Option Value)} {rs : List (Str × Int)} {n : Str} {v : Int} {tk tv : Tok} {Q : Value → Shared → Prop}
    (hb : h.get? b = some (bookObj dx es ep sl)) (hes : Ents w es rs) (hz : rs.length ≤ 100) (hno : getR rs n = none)
    (hq : ∀ h' es' ep', h'.get? b = some (bookObj dx es' ep' sl) → Ents w es' (putR rs n v) → Heap.SameBut b h h' → Q (.int v tv) ⟨h', g, d, t + 1, os⟩) :
    wpAny (model prog w) A (dictSetDefault b (.str n tk) (.int v tv)) Q E ⟨h, g, d, t, os⟩ := by
  unfold dictSetDefault
  refine wpAny_holding ?_
  refine wpAny_bind ((PySem.strKind prog w).pyHash (strKind_is prog w n tk) ?_)
  refine wpAny_bind (wpAny_dictFind_of (knd := PySem.strKind prog w) (strKind_is prog w n tk) hb rfl (ents_keys hes) ?_)
  have hf : (es.toArray.findIdx? fun e => (PySem.strKind prog w).is n e.key) = rs.findIdx? (fun r => r.1 == n) := by
    rw [List.findIdx?_toArray]; exact ents_find n hes
  rw [hf]
  rw [getR_of] at hno
  unfold putR at hq
  cases hi : rs.findIdx? (fun r => r.1 == n) with
  | some i =>
    rw [hi] at hno; dsimp only at hno
    have hlt := findIdx_lt hi
    have hr : rs[i]? = some rs[i] := by simp [hlt]
    rw [hr] at hno; cases hno
  | none =>
    rw [hi] at hq; dsimp only at hq
    unfold updateDictKeys
    repeat (first | (with_reducible refine' wpAny_ite_false ?c0 ?_; (case c0 => (simp only [bne_self_eq_false, Bool.false_eq_true, if_false, Bool.not_true, decide_false]))) | (with_reducible refine' wpAny_ite_true ?c0 ?_; (case c0 => (simp only [bne_self_eq_false, Bool.false_eq_true, if_false, Bool.not_true, decide_true]))) | lk | simp -iota only [bne_self_eq_false, Bool.false_eq_true, if_false, Bool.not_true] | dsimp only)
    refine nd_update hb rfl fun h' hb' hs => ?_
    replace hb' : h'.get? b = some (bookObj dx (es ++ [⟨hashStr w n, .str n tk, .int v tv⟩]) (ep + 1) sl) := by
      rw [hb']; simp [bookObj, Obj.mapDictKeys, PySem.strKind]
    have hl := ents_length hes
    repeat (first | (with_reducible refine' wpAny_ite_false ?c0 ?_; (case c0 => (simp only [bne_self_eq_false, Bool.false_eq_true, if_false, Bool.not_true, decide_false]))) | (with_reducible refine' wpAny_ite_true ?c0 ?_; (case c0 => (simp only [bne_self_eq_false, Bool.false_eq_true, if_false, Bool.not_true, decide_true]))) | lk | simp -iota only [bne_self_eq_false, Bool.false_eq_true, if_false, Bool.not_true] | dsimp only)
    have hp : (bookObj dx (es ++ [{ hash := hashStr w n, key := Value.str n tk, val := Value.int v tv }]) (ep + 1) sl).data.pastItsLine = none := by
      show (if (es ++ [_]).toArray.size > sizeLine + 1 then some "dict:memory" else none) = none
      rw [if_neg (by rw [List.size_toArray, List.length_append, hl, sizeLine_eq]; simp only [List.length_cons, List.length_nil]; omega)]
    rw [hp]
    refine wpAny_pure (wpAny_pure (hq h' _ _ hb' (ents_push hes) hs))
theorem check_missing {b : Addr} {n : Str} {tk : Tok} {s : Shared} {E : Value → Shared → Prop} {Q : Unit → Shared → Prop} (Y : BookCls (model prog w) s.heap) (Z : BookMs (model prog w) s.heap) (tb : Looks (model prog w) s.heap (typeOf (.ref b)) (.ref 108))
    {dx : Addr} {es : List DictEntry} {ep : Nat} {sl : Array (Option Value)} (hb : s.heap.get? b = some (bookObj dx es ep sl)) (hq : Q () s) : wpAny (model prog w) A (checkBoundCall "collections.defaultdict.__missing__" ⟨[.ref b, .str n tk], []⟩) Q E s := by
  have im : Looks (model prog w) s.heap (isInstance (.ref b) (.type "module")) false := tb.andThen Z.nm
  have t1 := Z.ty
  obtain ⟨oc, odd, cd, sl', hC', e1⟩ := Z.qn
  obtain ⟨c1, c2, c3, c4, c5, c6, c7, c8, c9, c10, c11⟩ := cd
  dsimp only at e1
  subst e1
  unfold checkBoundCall
  rw [mi_sig]
  repeat ((fail_if_success (with_reducible show wpAny _ _ (Bind.checkArgs _ _ _) _ _ _)); first | simp -iota only [bne_self_eq_false, Bool.false_eq_true, if_false, Bool.not_true] | dsimp only | lk)
  rw [mi_check]
  exact wpAny_pure hq
theorem miss_book {b dx q f : Addr} {es : List DictEntry} {ep : Nat} {rs : List (Str × Int)} {n : Str} {tk : Tok} {of : Obj} {fd : FuncData} {v : Int}
    (Y : BookCls (model prog w) h) (Z : BookMs (model prog w) h) (hb : h.get? b = some (bookObj dx es ep #[some (.ref f)])) (hqo : h.get? q = some (missM b)) (hf : h.get? f = some of) (hfd : of.data = .func fd)
    (hes : Ents w es rs) (hz : rs.length ≤ 100) (hno : getR rs n = none) (hlo : (b == sysModules) = false)
    (hcall : codeAny (model prog w) A.in1 (.call (.ref f) ⟨[], []⟩) (fun r s' => match r with | .ok (.ret x) => ∃ tv, x = .int v tv ∧ BookCls (model prog w) s'.heap ∧ s'.heap.get? b = some (bookObj dx es ep #[some (.ref f)]) ∧ (∀ h' tk' es' ep', h'.get? b = some (bookObj dx es' ep' #[some (.ref f)]) → Ents w es' (putR rs n v) → Heap.SameBut b s'.heap h' → R (.ok (.ret (.int v tv))) { s' with heap := h', toks := tk' }) | _ => False) ⟨h, g, d, t, os⟩) :
    codeAny (model prog w) A (.call (.ref q) ⟨[.str n tk], []⟩) R ⟨h, g, d, t, os⟩ := by
  have tb : Looks (model prog w) h (typeOf (.ref b)) (.ref 108) := (Looks.ld hb).andThen .now
  have ib : Looks (model prog w) h (isInstance (.ref b) (.type "collections.defaultdict")) true := tb.andThen Y.dd
  refine codeAny_of_tree ?_
  show wpAny _ _ (callAny (.ref q) _) _ _ _
  unfold callAny
  refine wpAny_bind (wpAny_load hqo ?_)
  show wpAny _ _ (do checkBoundCall "collections.defaultdict.__missing__" ⟨[.ref b, .str n tk], []⟩; again (.builtin "collections.defaultdict.__missing__" ⟨[.ref b, .str n tk], []⟩)) _ _ _
  refine wpAny_bind (check_missing Y Z tb hb ?_)
  refine wpAny_pure (And.intro (Code.quiet_builtin _ (by decide +kernel)) ?_)
  refine codeAny_builtin mi_entry ?_
  rw [Around.under_plainId (by decide +kernel)]
  unfold Builtin.«collections.defaultdict.__missing__» callOutOfASlot borrowsExactly
  obtain ⟨oc, od, odd, osl⟩ := of
  dsimp only at hfd
  subst hfd
  repeat (first | (with_reducible refine' wpAny_ite_false ?c0 ?_; (case c0 => (simp only [hlo, bne_self_eq_false, Bool.false_eq_true, if_false, Bool.not_true, decide_false]))) | (with_reducible refine' wpAny_ite_true ?c0 ?_; (case c0 => (simp only [hlo, bne_self_eq_false, Bool.false_eq_true, if_false, Bool.not_true, decide_true]))) | lk | simp -iota only [hlo, bne_self_eq_false, Bool.false_eq_true, if_false, Bool.not_true] | dsimp only)
  refine X.x_call ?_ (by intro e; cases e)
  refine codeAny_mono hcall fun r s' z => ?_
  obtain ⟨h2, g2, d2, t2, os2⟩ := s'
  rcases r with e | (x | _ | _ | _) <;> first | exact z.elim | skip
  obtain ⟨tv, rfl, Y2, hb2, z⟩ := z
  dsimp only at Y2 hb2 z
  refine wpAny_pure (wpAny_pure (And.intro (Code.quiet_builtin _ (by decide +kernel)) ?_))
  refine codeAny_builtin PySem.F.entry_dict_setdefault ?_
  unfold Builtin.«dict.setdefault»
  have od2 := Y2.od
  have tb2 : Looks (model prog w) h2 (typeOf (.ref b)) (.ref 108) := (Looks.ld hb2).andThen .now
  obtain ⟨⟨oc, odd, cd, sl', hC', e1, e2, e4, e5, e6⟩, _⟩ := Y2
  obtain ⟨c1, c2, c3, c4, c5, c6, c7, c8, c9, c10, c11⟩ := cd
  dsimp only at e1 e2 e4
  subst e1 e2 e4
  repeat ((fail_if_success (with_reducible show wpAny _ _ (dictSetDefault _ _ _) _ _ _)); first | simp -iota only [hlo, bne_self_eq_false, Bool.false_eq_true, if_false, Bool.not_true] | dsimp only | lk)
  refine setDefault_book hb2 hes hz hno fun h' es' ep' a1 a2 a3 => ?_
  refine wpAny_pure ?_
  exact z h' _ es' ep' a1 a2 a3
end
end
section
section
variable {prog : Program} {w : World} {A : Around} {E : Value → Shared → Prop} {h : Heap} {g : Array GenState} {d : Drawn} {t : Nat} {os : OsState}
theorem getMethod_book {b dx : Addr} {es : List DictEntry} {ep : Nat} {sl : Array (Option Value)} {fro : Option (Tok × Addr)} {pl : Sem Bool} {name : Str} {mv : Value} {k : String} {Q : Value × List Value → Shared → Prop}
    (Z : BookLk (model prog w) h) (hb : h.get? b = some (bookObj dx es ep sl)) (hdx : h.get? dx = some (dxObj w fro))
    (hm : Looks (model prog w) h (typeLookup (.ref 108) name) (some mv)) (htf : Looks (model prog w) h (typeOf mv) (.type k)) (hk : (Value.type k != .type "function" && Value.type k != .type "method_descriptor" && Value.type k != .type "wrapper_descriptor") = false)
    (hn : ∀ hh t0 l0, nsNameIn name.cps.size name.cps.toList [⟨hh, .str "_frozen" t0, .ref l0⟩] false = (none, false))
    (hq : ∀ tk, Q (mv, [.ref b]) ⟨h, g, d, tk, os⟩) :
    wpAny (model prog w) A (getMethod (.ref b) name pl) Q E ⟨h, g, d, t, os⟩ := by
  have tb : Looks (model prog w) h (typeOf (.ref b)) (.ref 108) := (Looks.ld hb).andThen .now
  obtain ⟨z1, z2, z3, z4, z5, z6, z7, z8, z9, z10, z11, z12, z13⟩ := Z
  unfold getMethod specialOf
  rcases fro with _ | ⟨t0, l0⟩
  · repeat (first | (with_reducible refine' wpAny_ite_false ?c0 ?_; (case c0 => (simp only [hk, bne_self_eq_false, Bool.false_eq_true, if_false, Bool.not_true, decide_false]))) | (with_reducible refine' wpAny_ite_true ?c0 ?_; (case c0 => (simp only [hk, bne_self_eq_false, Bool.false_eq_true, if_false, Bool.not_true, decide_true]))) | with_reducible refine wpAny_attempt ?_ | lk | simp only [hk, bne_self_eq_false, Bool.false_eq_true, if_false, Bool.not_true])
    exact hq _
  · repeat (first | (with_reducible refine' wpAny_ite_false ?c0 ?_; (case c0 => (simp only [hk, bne_self_eq_false, Bool.false_eq_true, if_false, Bool.not_true, decide_false]))) | (with_reducible refine' wpAny_ite_true ?c0 ?_; (case c0 => (simp only [hk, bne_self_eq_false, Bool.false_eq_true, if_false, Bool.not_true, decide_true]))) | with_reducible refine wpAny_attempt ?_ | lk | simp only [hk, bne_self_eq_false, Bool.false_eq_true, if_false, Bool.not_true])
    rw [hn]
    repeat (first | (with_reducible refine' wpAny_ite_false ?c0 ?_; (case c0 => (simp only [hk, bne_self_eq_false, Bool.false_eq_true, if_false, Bool.not_true, decide_false]))) | (with_reducible refine' wpAny_ite_true ?c0 ?_; (case c0 => (simp only [hk, bne_self_eq_false, Bool.false_eq_true, if_false, Bool.not_true, decide_true]))) | with_reducible refine wpAny_attempt ?_ | lk | simp only [hk, bne_self_eq_false, Bool.false_eq_true, if_false, Bool.not_true])
    exact hq _
theorem sa_kind : builtinKind "object.__setattr__" = some .method ∨ builtinKind "object.__setattr__" = some .slot := by rw [builtinKind_eq_fast]; decide +kernel
theorem sa_bind (self : Value) : bindSpecial (.builtin "object.__setattr__") self = pure (.builtin "object.__setattr__", [self]) :=
  (Slot.of (T := "object") (name := "__setattr__") (owner := "object") (n := "__setattr__") (by rw [typeLookup_type, builtinLookup_eq_fast]; kernel_rfl) (by decide +kernel) (by decide +kernel) (by decide +kernel)
    (by first | exact .inl (by decide +kernel) | exact .inr (by decide +kernel)) (by rw [isSubtype_type]; kernel_rfl)).bind self
theorem put_dx (w : World) (l : Addr) (tk : Tok) (fro : Option (Tok × Addr)) : ∃ t0, Obj.putName (Str.ofString "_frozen") (hashStr w "_frozen") (.str (Str.ofString "_frozen") tk) (.ref l) (dxObj w fro) = dxObj w (some (t0, l)) := by
  rcases fro with _ | ⟨t1, l1⟩
  · exact ⟨tk, rfl⟩
  · exact ⟨t1, rfl⟩
theorem up_part {a : Addr} {part : Option Value} {f : Obj → Obj} {o : Obj} {Q : Unit → Shared → Prop} (ho : h.get? a = some o) (hf : (f o).isFreed = false) (k : ∀ h', h'.get? a = some (f o) → Heap.SameBut a h h' → Q () ⟨h', g, d, t, os⟩) :
    wpAny (model prog w) A (updatePart a part f) Q E ⟨h, g, d, t, os⟩ := wpAny_updatePart ho (k _ (Heap.get?_update_self f ho hf) (Heap.SameBut.update ..))
theorem setAttr_book {b dx l : Addr} {es : List DictEntry} {ep : Nat} {sl : Array (Option Value)} {fro : Option (Tok × Addr)} {Q : Unit → Shared → Prop}
    (Y : BookCls (model prog w) h) (Z : BookLk (model prog w) h) (hsa : Looks (model prog w) h (typeLookup (.ref 108) "__setattr__") (some (.builtin "object.__setattr__"))) (hob : Looks (model prog w) h (isSubtype (.ref 108) (.type "object")) true)
    (hb : h.get? b = some (bookObj dx es ep sl)) (hdx : h.get? dx = some (dxObj w fro))
    (hq : ∀ h' t0 t', h'.get? dx = some (dxObj w (some (t0, l))) → Heap.SameBut dx h h' → Q () ⟨h', g, d, t', os⟩) :
    wpAny (model prog w) A (setAttr (.ref b) "_frozen" (.ref l)) Q E ⟨h, g, d, t, os⟩ := by
  have tb : Looks (model prog w) h (typeOf (.ref b)) (.ref 108) := (Looks.ld hb).andThen .now
  have ib : Looks (model prog w) h (isInstance (.ref b) (.type "object")) true := tb.andThen hob
  have b1 : Looks (model prog w) h (bindSpecial (.builtin "object.__setattr__") (.ref b)) (.builtin "object.__setattr__", [.ref b]) := Looks.of_pure (sa_bind _)
  obtain ⟨z1, z2, z3, z4, z5, z6, z7, z8, z9, z10, z11, z12, z13⟩ := Z
  obtain ⟨⟨oc, odd, cd, sl', hC', e1, e2, e4, e5, e6⟩, _⟩ := Y
  obtain ⟨c1, c2, c3, c4, c5, c6, c7, c8, c9, c10, c11⟩ := cd
  dsimp only at e1 e2 e4 e5 e6
  subst e1 e2 e4 e5 e6
  unfold setAttr callSpecial? specialOf
  repeat (first | (with_reducible refine' wpAny_ite_false ?c0 ?_; (case c0 => (simp only [bne_self_eq_false, Bool.false_eq_true, if_false, Bool.not_true, decide_false]))) | (with_reducible refine' wpAny_ite_true ?c0 ?_; (case c0 => (simp only [bne_self_eq_false, Bool.false_eq_true, if_false, Bool.not_true, decide_true]))) | with_reducible refine wpAny_attempt ?_ | lk | simp only [bne_self_eq_false, Bool.false_eq_true, if_false, Bool.not_true])
  refine X.x_call ?_ (by intro e; cases e)
  refine codeAny_call_builtin (by decide +kernel) PySem.F.entry_object_sa (@check_any (model prog w) _ _ _ "object.__setattr__" "object" "__setattr__" (.ref b) [.str "_frozen" t, .ref l] [] _ sa_kind PySem.F.sp_object_setattr ib (PySem.F.args_object_setattr_3 _ _ _) ?_)
  unfold Builtin.«object.__setattr__»
  repeat (first | (with_reducible refine' wpAny_ite_false ?c0 ?_; (case c0 => (simp only [bne_self_eq_false, Bool.false_eq_true, if_false, Bool.not_true, decide_false]))) | (with_reducible refine' wpAny_ite_true ?c0 ?_; (case c0 => (simp only [bne_self_eq_false, Bool.false_eq_true, if_false, Bool.not_true, decide_true]))) | with_reducible refine wpAny_attempt ?_ | lk | simp only [bne_self_eq_false, Bool.false_eq_true, if_false, Bool.not_true])
  obtain ⟨t0, hput⟩ := put_dx w l (t + 1) fro
  rcases fro with _ | ⟨t1, l1⟩
  · dsimp only [dxObj, emptyDict]
    rw [show aRefKeyMayBeTheName (Str.ofString "_frozen") #[] = false from rfl]
    simp only [Bool.false_eq_true, if_false]
    refine up_part hdx ((congrArg Obj.isFreed hput).trans rfl) fun h' hb' hs => ?_
    replace hb' : h'.get? dx = some (dxObj w (some (t0, l))) := hb'.trans (congrArg some hput)
    repeat (first | (with_reducible refine' wpAny_ite_false ?c0 ?_; (case c0 => (simp only [bne_self_eq_false, Bool.false_eq_true, if_false, Bool.not_true, decide_false]))) | (with_reducible refine' wpAny_ite_true ?c0 ?_; (case c0 => (simp only [bne_self_eq_false, Bool.false_eq_true, if_false, Bool.not_true, decide_true]))) | with_reducible refine wpAny_attempt ?_ | lk | simp only [bne_self_eq_false, Bool.false_eq_true, if_false, Bool.not_true])
    exact hq h' t0 _ hb' hs
  · dsimp only [dxObj]
    rw [show aRefKeyMayBeTheName (Str.ofString "_frozen") #[⟨hashStr w (Str.ofString "_frozen"), .str (Str.ofString "_frozen") t1, .ref l1⟩] = false from rfl]
    simp only [Bool.false_eq_true, if_false]
    refine up_part hdx ((congrArg Obj.isFreed hput).trans rfl) fun h' hb' hs => ?_
    replace hb' : h'.get? dx = some (dxObj w (some (t0, l))) := hb'.trans (congrArg some hput)
    repeat (first | (with_reducible refine' wpAny_ite_false ?c0 ?_; (case c0 => (simp only [bne_self_eq_false, Bool.false_eq_true, if_false, Bool.not_true, decide_false]))) | (with_reducible refine' wpAny_ite_true ?c0 ?_; (case c0 => (simp only [bne_self_eq_false, Bool.false_eq_true, if_false, Bool.not_true, decide_true]))) | with_reducible refine wpAny_attempt ?_ | lk | simp only [bne_self_eq_false, Bool.false_eq_true, if_false, Bool.not_true])
    exact hq h' t0 _ hb' hs
end
end
section
noncomputable def Fac (w : World) (mean : ExcName → Option Value) (mg mb : Str → Option Value) (f : Addr) (news : CbLed) (v : Int) : Prop :=
  ∀ (dp un : Nat) (gd : Option (List Code)) (cn : Str) (cs : Scope) (a : Addr) (ccd : Value) (cl : List (Str × Addr)) (outer : List Env) (A₀ : Around) (base h₀ : Heap) (L : Addr) (m : Str → Option Value) (s : Shared) (R : Result → Shared → Prop),
    Below A₀ base outer h₀ → Fr h₀ L s.heap m → (hd.heap_39 w.params).In h₀ → News h₀ L s.heap news → Top topProg looseL mean mg mb h₀ → cs.kind = .function → dp + 3 < recursionLimit → un + 24 < cLine →
    (∀ (t : Tok) (h' : Heap) (tk' : Nat), Fr h₀ L h' m → News h₀ L h' news → R (.ok (.ret (.int v t))) { s with heap := h', toks := tk' }) →
    codeAny (model Challenge.rw_in0190_01.row.prog w) (ktrTop dp un gd cn cs L a ccd cl outer) (.call (.ref f) ⟨[], []⟩) R s
theorem keeper_missM {M : Model} {h : Heap} {q b : Addr} (e : h.get? q = some (missM b)) : Looks M h (keeperOf (.ref q)) .machine := (Looks.ld (part := none) e).andThen .now
theorem keeper_func {M : Model} {h : Heap} {l : Addr} {lo : Obj} {fd : FuncData} (e : h.get? l = some lo) (hd : lo.data = .func fd) : Looks M h (keeperOf (.ref l)) .frame := by
  obtain ⟨a, b, c, d⟩ := lo
  dsimp only at hd
  subst hd
  exact (Looks.ld (part := none) e).andThen .now
noncomputable def FacK (w : World) (mean : ExcName → Option Value) (mg mb : Str → Option Value) (l : Addr) (news : CbLed) (v : Int) : Prop :=
  ∀ (dp un : Nat) (gd : Option (List Code)) (cn : Str) (cs : Scope) (a : Addr) (ccd : Value) (cl : List (Str × Addr)) (outer : List Env) (A₀ : Around) (base h₀ : Heap) (L : Addr) (m : Str → Option Value) (s : Shared) (R : Result → Shared → Prop) (n : Str) (tk : Tok),
    Below A₀ base outer h₀ → Fr h₀ L s.heap m → (hd.heap_39 w.params).In h₀ → News h₀ L s.heap news → Top topProg looseL mean mg mb h₀ → cs.kind = .function → dp + 4 < recursionLimit → un + 28 < cLine →
    (∀ (t : Tok) (h' : Heap) (tk' : Nat), Fr h₀ L h' m → News h₀ L h' news → R (.ok (.ret (.int v t))) { s with heap := h', toks := tk' }) →
    codeAny (model Challenge.rw_in0190_01.row.prog w) (ktrTop dp un gd cn cs L a ccd cl outer) (.call (.ref l) ⟨[.str n tk], []⟩) R s
theorem miss_open (w : World) (mean : ExcName → Option Value) (mg mb : Str → Option Value) (b dx f : Nat) (n : Str) (tk : Tok) (es : List DictEntry) (ep : Nat) (news : CbLed) (g : Obj → CbLed) (rs : List (Str × Int)) (v : Int) (fo : Obj) (fd : FuncData)
   (dp un : Nat) (gd : Option (List Code)) (cn : Str) (cs : Scope) (a : Addr) (ccd : Value) (cl : List (Str × Addr)) (outer : List Env) (A₀ : Around) (base h₀ : Heap) (L : Addr) (m : Str → Option Value) (s : Shared) (R : Result → Shared → Prop)
   (B : Below A₀ base outer h₀) (F : Fr h₀ L s.heap m) (X : (hd.heap_39 w.params).In h₀) (N : News h₀ L s.heap news) (T : Top topProg looseL mean mg mb h₀)
   (U : UpdF b (bookObj dx es ep #[some (.ref f)]) news g) (hdn : (dx, dxObj w none) ∈ news) (hb3 : 314 ≤ b) (hfn : (f, fo) ∈ news) (hfo : fo.data = .func fd)
   (hes : Ents w es rs) (hz : rs.length ≤ 100) (hno : getR rs n = none) (hfac : Fac w mean mg mb f news v)
   (hk : cs.kind = .function)
   (hdp : dp + 5 < recursionLimit) (hu : un + 40 < cLine)
   (hret : ∀ (t : Tok) (h' : Heap) (tk' : Nat) (es' : List DictEntry) (ep' : Nat), Ents w es' (putR rs n v) → Fr h₀ L h' m → News h₀ L h' (g (bookObj dx es' ep' #[some (.ref f)])) → R (.ok (.ret (.int v t))) { s with heap := h', toks := tk' }) :
   codeAny (model Challenge.rw_in0190_01.row.prog w) (ktrTop dp un gd cn cs L a ccd cl outer) (.call (.ref 98) ⟨[.ref b, .str n tk], []⟩) R s := by
  have hbn := upd_mem U
  have hsm : (b == sysModules) = false := by simp only [beq_eq_false_iff_ne]; exact Nat.ne_of_gt (Nat.lt_of_lt_of_le (by decide +kernel) hb3)
  have h108 : b ≠ 108 := Nat.ne_of_gt (Nat.lt_of_lt_of_le (by decide +kernel) hb3)
  have X0 := X
  revert X; k_fill; intro X
  (refine' ks_code_super ?k1 ?k2 ?k3 ?k4 ?k5 ?kA ?kF ?kK ?k6 ?k7 ?k8 ?k9 ?kB ?_ ?c1 ?c2 ?c3 ?c4; (case kA | kF => exact rfl); (case kK => exact hk); (case k1 | k2 => k_asm); (case k3 | k4 | k5 => k_asm); (case k6 | k7 => k_is); (case k8 => ktr_room); (case k9 => exact BindsTo.of_eq rfl); (case kB => exact locs rfl); (case c1 => decide); (case c2 | c3 | c4 => exact rfl))
  intro g' L' h' FG' F' N' B' X' T' l1
  dsimp only
  refine ks_wpAt_execs_cons (ks_wpAt_Return_some (at_CallCall (at_CallName ?_)))
  walk1
  refine at_callWith_builtin (x := eval _ _) (rest := backTo _ (starEach [_, _] _)) rfl ?_
  refine at_spliced_cons (x := eval _ _) (_root_.PySem.wpAt_of_wpAny ?_)
  walk1
  refine at_spliced_cons (x := eval _ _) (rest := backTo _ (starEach [_] _)) (_root_.PySem.wpAt_of_wpAny ?_)
  walk1
  show _root_.PySem.wpAt _ _ _ (spliced [(false, eval (.Attribute _ _ _) _)]) _ _ _
  refine at_spliced_cons ?_
  refine at_Attribute ?_
  refine ks_node (by k_asm) (by k_asm) (by k_asm) (by k_asm) (by k_is) (by rfl) (by rfl) (⟨(N' _ hbn).1, rfl, rfl, (N' _ hdn).1⟩ : InstAt _ b (bookObj dx es ep #[some (.ref f)]) 108 (some (dxObj w none))) (by k_is) (by rfl) (by first | rfl | decide +kernel) (by k_is) (by k_is) (by k_is) (by k_is) (by decide) (by rfl) (by rfl) (by rfl) (by rfl) (by decide +kernel) (by first | boot_by_name | rfl | kernel_rfl) ?_
  intro so h2 F2 N2 l2
  have XX : (hd.heap_39 w.params).In h2 := (show (hd.heap_39 w.params).In g' from X').keeps F2.keep
  have Y2 : BookCls (model Challenge.rw_in0190_01.row.prog w) h2 := bookCls (prog := Challenge.rw_in0190_01.row.prog) rfl XX
  have Z2 : BookLk (model Challenge.rw_in0190_01.row.prog w) h2 := bookLk rfl XX
  have M2 : BookMs (model Challenge.rw_in0190_01.row.prog w) h2 := bookMs rfl XX
  have hop : Looks (model Challenge.rw_in0190_01.row.prog w) h2 anyOpaqueLoaded false := (looks_nsIn (X'.keeps F2.keep) (by k_is)).andThen .now
  refine super_missing Y2 (N2 _ (.tail _ hbn)).1 (N2 _ (.head _)).1 hop h108 ?_
  obtain ⟨F3, N3, l3⟩ := ks_newsPush (s := ⟨h2, #[], s.drawn, 0, s.os⟩) (o := missM b) F2 N2 rfl (Heap.get?_push_at rfl rfl) (fun b o e => Heap.get?_push_of_some _ e)
  refine at_spliced_nil ?_
  have k3 : ∀ a o, h2.get? a = some o → (h2.push (missM b)).get? a = some o := fun b o e => Heap.get?_push_of_some _ e
  refine getattr_frozen (b := b) (dx := dx) (es := es) (ep := ep) (sl := #[some (.ref f)]) (fro := none) (Y2.keeps k3) (Z2.keeps k3) (N3 _ (.tail _ (.tail _ hbn))).1 (N3 _ (.tail _ (.tail _ hdn))).1 rfl fun h4 tk4 k4 => ?_
  have F4 := PyProof.Rows.Fr.keeps F3 k4
  have N4 := PyProof.Rows.News.keepsAll N3 k4
  have X4 := X'.keeps F4.keep
  have k24 : ∀ a o, h2.get? a = some o → h4.get? a = some o := fun b o e => k4 _ _ (k3 _ _ e)
  generalize h2.objs.size = q at *
  show wpAny _ _ (callWith _ (.ref q) [] (backTo _ (starEach [_] _)) []) _ _ _
  have hq4 := (N4 _ (.head _)).1
  refine callWith_of (P := fun h => h.get? q = some (missM b)) rfl (fun h e => ⟨_, .inr (.inl rfl), keeper_missM e⟩) (Calls.evalArgs_plain (x := eval _ _) (rest := []) (Calls.spliced_cons ?_))
  walk1
  refine Calls.spliced_nil ⟨hq4, ?_⟩
  refine wpAny_call ?_
  refine miss_book (of := fo) (fd := fd) (v := v) (Y2.keeps k24) (M2.keeps k24) (N4 _ (.tail _ (.tail _ hbn))).1 hq4 (N4 _ (.tail _ (.tail _ hfn))).1 hfo hes hz hno hsm ?_
  refine hfac (dp + 1) _ _ _ _ _ _ _ _ _ _ _ _ _ _ _ B' F4 X' (PySem.W.KStt.news_of N4 fun p hp => .tail _ (.tail _ hp)) T' rfl (by omega) (by simp only [Around.deeper_units]; show un + 3 + 1 + 24 < cLine; omega) fun t h5 tk5 F5 N5 => ?_
  refine ⟨t, rfl, bookCls (prog := Challenge.rw_in0190_01.row.prog) rfl ((show (hd.heap_39 w.params).In g' from X').keeps F5.keep), (N5 _ hbn).1, fun h6 tk6 es' ep' a1 a2 a3 => ?_⟩
  obtain ⟨F6, N6⟩ := led_upd F5 N5 U a1 a3
  refine leaveK_ F6 N6 fun Fz Nz => hret _ _ _ es' ep' a2 Fz Nz
theorem miss_shut (w : World) (mean : ExcName → Option Value) (mg mb : Str → Option Value) (b dx f : Nat) (n : Str) (tk : Tok) (es : List DictEntry) (ep : Nat) (news : CbLed) (v : Int) (lo : Obj) (fd : FuncData) (l : Nat) (t0 : Tok)
   (dp un : Nat) (gd : Option (List Code)) (cn : Str) (cs : Scope) (a : Addr) (ccd : Value) (cl : List (Str × Addr)) (outer : List Env) (A₀ : Around) (base h₀ : Heap) (L : Addr) (m : Str → Option Value) (s : Shared) (R : Result → Shared → Prop)
   (B : Below A₀ base outer h₀) (F : Fr h₀ L s.heap m) (X : (hd.heap_39 w.params).In h₀) (N : News h₀ L s.heap news) (T : Top topProg looseL mean mg mb h₀)
   (hbn : (b, bookObj dx es ep #[some (.ref f)]) ∈ news) (hdn : (dx, dxObj w (some (t0, l))) ∈ news) (hb3 : 314 ≤ b) (hln : (l, lo) ∈ news) (hlo : lo.data = .func fd)
   (hfac : FacK w mean mg mb l news v)
   (hk : cs.kind = .function)
   (hdp : dp + 5 < recursionLimit) (hu : un + 40 < cLine)
   (hret : ∀ (t : Tok) (h' : Heap) (tk' : Nat), Fr h₀ L h' m → News h₀ L h' news → R (.ok (.ret (.int v t))) { s with heap := h', toks := tk' }) :
   codeAny (model Challenge.rw_in0190_01.row.prog w) (ktrTop dp un gd cn cs L a ccd cl outer) (.call (.ref 98) ⟨[.ref b, .str n tk], []⟩) R s := by
  have hsm : (b == sysModules) = false := by simp only [beq_eq_false_iff_ne]; exact Nat.ne_of_gt (Nat.lt_of_lt_of_le (by decide +kernel) hb3)
  have h108 : b ≠ 108 := Nat.ne_of_gt (Nat.lt_of_lt_of_le (by decide +kernel) hb3)
  have X0 := X
  revert X; k_fill; intro X
  (refine' ks_code_super ?k1 ?k2 ?k3 ?k4 ?k5 ?kA ?kF ?kK ?k6 ?k7 ?k8 ?k9 ?kB ?_ ?c1 ?c2 ?c3 ?c4; (case kA | kF => exact rfl); (case kK => exact hk); (case k1 | k2 => k_asm); (case k3 | k4 | k5 => k_asm); (case k6 | k7 => k_is); (case k8 => ktr_room); (case k9 => exact BindsTo.of_eq rfl); (case kB => exact locs rfl); (case c1 => decide); (case c2 | c3 | c4 => exact rfl))
  intro g' L' h' FG' F' N' B' X' T' l1
  dsimp only
  refine ks_wpAt_execs_cons (ks_wpAt_Return_some (at_CallCall (at_CallName ?_)))
  walk1
  refine at_callWith_builtin (x := eval _ _) (rest := backTo _ (starEach [_, _] _)) rfl ?_
  refine at_spliced_cons (x := eval _ _) (_root_.PySem.wpAt_of_wpAny ?_)
  walk1
  refine at_spliced_cons (x := eval _ _) (rest := backTo _ (starEach [_] _)) (_root_.PySem.wpAt_of_wpAny ?_)
  walk1
  show _root_.PySem.wpAt _ _ _ (spliced [(false, eval (.Attribute _ _ _) _)]) _ _ _
  refine at_spliced_cons ?_
  refine at_Attribute ?_
  refine ks_node (by k_asm) (by k_asm) (by k_asm) (by k_asm) (by k_is) (by rfl) (by rfl) (⟨(N' _ hbn).1, rfl, rfl, (N' _ hdn).1⟩ : InstAt _ b (bookObj dx es ep #[some (.ref f)]) 108 (some (dxObj w (some (t0, l))))) (by k_is) (by rfl) (by first | rfl | decide +kernel) (by k_is) (by k_is) (by k_is) (by k_is) (by decide) (by rfl) (by rfl) (by rfl) (by rfl) (by decide +kernel) (by first | boot_by_name | rfl | kernel_rfl) ?_
  intro so h2 F2 N2 l2
  have XX : (hd.heap_39 w.params).In h2 := (show (hd.heap_39 w.params).In g' from X').keeps F2.keep
  have Y2 : BookCls (model Challenge.rw_in0190_01.row.prog w) h2 := bookCls (prog := Challenge.rw_in0190_01.row.prog) rfl XX
  have Z2 : BookLk (model Challenge.rw_in0190_01.row.prog w) h2 := bookLk rfl XX
  have M2 : BookMs (model Challenge.rw_in0190_01.row.prog w) h2 := bookMs rfl XX
  have hop : Looks (model Challenge.rw_in0190_01.row.prog w) h2 anyOpaqueLoaded false := (looks_nsIn (X'.keeps F2.keep) (by k_is)).andThen .now
  refine super_missing Y2 (N2 _ (.tail _ hbn)).1 (N2 _ (.head _)).1 hop h108 ?_
  obtain ⟨F3, N3, l3⟩ := ks_newsPush (s := ⟨h2, #[], s.drawn, 0, s.os⟩) (o := missM b) F2 N2 rfl (Heap.get?_push_at rfl rfl) (fun b o e => Heap.get?_push_of_some _ e)
  refine at_spliced_nil ?_
  have k3 : ∀ a o, h2.get? a = some o → (h2.push (missM b)).get? a = some o := fun b o e => Heap.get?_push_of_some _ e
  refine getattr_frozen (b := b) (dx := dx) (es := es) (ep := ep) (sl := #[some (.ref f)]) (fro := some (t0, l)) (Y2.keeps k3) (Z2.keeps k3) (N3 _ (.tail _ (.tail _ hbn))).1 (N3 _ (.tail _ (.tail _ hdn))).1 rfl fun h4 tk4 k4 => ?_
  have F4 := PyProof.Rows.Fr.keeps F3 k4
  have N4 := PyProof.Rows.News.keepsAll N3 k4
  have X4 := X'.keeps F4.keep
  have k24 : ∀ a o, h2.get? a = some o → h4.get? a = some o := fun b o e => k4 _ _ (k3 _ _ e)
  show wpAny _ _ (callWith _ (.ref l) [] (backTo _ (starEach [_] _)) []) _ _ _
  have hl4 := (N4 _ (.tail _ (.tail _ hln))).1
  refine callWith_of (P := fun h => h.get? l = some lo) rfl (fun h e => ⟨_, .inl rfl, keeper_func e hlo⟩) (Calls.evalArgs_plain (x := eval _ _) (rest := []) (Calls.spliced_cons ?_))
  walk1
  refine Calls.spliced_nil ⟨hl4, ?_⟩
  refine wpAny_call ?_
  refine hfac (dp + 1) _ _ _ _ _ _ _ _ _ _ _ _ _ _ _ n tk B' F4 X' (PySem.W.KStt.news_of N4 fun p hp => .tail _ (.tail _ hp)) T' rfl (by omega) (by simp only [Around.deeper_units]; show un + 3 + 28 < cLine; omega) fun t h5 tk5 F5 N5 => ?_
  exact leaveK_ F5 N5 fun Fz Nz => hret _ _ _ Fz Nz
end
section
noncomputable def fnBody (k : Frag) (f : Addr) : List Stmt := match k.lookup f with
  | some ⟨_, _, .func fd, _⟩ => (match fd.body with | .stmts b => b | _ => [])
  | _ => []
noncomputable def playLam (k : Frag) : Option (Arguments × PySem.Expr × Scope) := match fnBody k 291 with
  | _ :: .Assign _ (.Call _ [.Lambda ps b sc _] _ _) _ :: _ => some (ps, b, sc)
  | _ => none
noncomputable def frzLam (k : Frag) : Option (Arguments × PySem.Expr × Scope) := match fnBody k 105 with
  | .Assign _ (.Lambda ps b sc _) _ :: _ => some (ps, b, sc)
  | _ => none
theorem left_claim (w : World) (mean : ExcName → Option Value) (mg mb : Str → Option Value) (news : CbLed) (v : Int) (t : Tok) : Claim w mean mg mb 286 news True [.int v t] (fun t => .int (leftF v) t) := by
  dsimp only [Claim, CbClaim, CbLists, CbRet]
  k_fill
  intros
  rename_i hret
  (refine wpAny_call ?_; refine' enterP ?k1 ?k2 ?k3 ?k4 ?k5 ?kA ?kF ?kK ?k6 ?k7 ?k8 ?k9 ?kB ?_ ?c2 ?c3 ?c4 ?c5; (case kA | kF => exact rfl); (case kK => assumption); (case k1 | k2 => k_asm); (case k3 | k4 | k5 => k_asm); (case k6 | k7 => k_is); (case k8 => ktr_room); (case k9 => exact BindsTo.of_eq rfl); (case c5 => decide); (case kB => exact locs rfl); (case c2 | c3 | c4 => exact rfl); k_whole; intro g' L' h' FG' F' N' B' X' T' hLow; have l1 := hLow.all; (repeat (replace hLow := low_tail hLow)); (try k_lt l1); (try dsimp only); (try k_lift B'); (try k_fold))
  repeat' (first | (k_unfold; try dsimp only) | (k_end; kc_close) | (walk1; all_goals ((try k_fold); (try dsimp only); try with_reducible refine wpAny_tk fun _ => ?_)) | (dsimp only; walk1) | (leave1; try dsimp only))
  all_goals cb_end hret
theorem lam_fac (w : World) (mean : ExcName → Option Value) (mg mb : Str → Option Value) (f mc mk c' : Nat) (news : CbLed) (v : Int) (t : Tok) (e0 : Nat) {P : Arguments} {BODY : PySem.Expr} {SC : Scope} {nm qual : Str} {pm ctv : Value} {oc oc0 : Obj} {vs : Array Value} {t' : Tok}
    (hl : playLam (hd.heap_39 w.params) = some (P, BODY, SC))
    (hf : (f, kla_obj nm qual P BODY SC [("mask", mc)] pm c' ctv) ∈ news) (hmc : (mc, oc0) ∈ news) (ho0 : oc0.data = .cell (some (.ref mk))) (hmk : (mk, W.listOf #[.int v t] e0) ∈ news)
    (hc : (c', oc) ∈ news) (hoc : oc.data = .fields vs) (hvs : vs[1]? = some (.str qual t')) (hm1 : @LE.le Nat _ 314 mc) (hm2 : @LE.le Nat _ 314 mk) : Fac w mean mg mb f news (leftF v) := by
  have e : playLam (hd.heap_39 w.params) = some (_, _, _) := rfl
  rw [e] at hl
  cases hl
  unfold Fac
  intro dp un gd cn cs a ccd cl outer A₀ base h₀ L m s R B F X N T hk hdp hun hret
  revert X; k_fill; intro X
  have hN2 : ∀ p ∈ (mc, oc0) :: (mk, W.listOf #[.int v t] e0) :: news, p ∈ news := fun p hp => by
    rcases List.mem_cons.mp hp with rfl | hp
    · exact hmc
    · rcases List.mem_cons.mp hp with rfl | hp
      · exact hmk
      · exact hp
  have hcr := codeRec_news N hc hoc hvs
  replace N := PySem.W.KStt.news_of N hN2
  refine kla_code B F X N T rfl rfl hk (.tail _ (.tail _ hf)) hcr (by ktr_room) rfl (by intro y hy; cases hy) ?_ rfl rfl rfl (by decide)
  intro g' L' h' FG' F' N' B' X' T'
  dsimp only
  walk1
  walk1
  walk1
  walk1
  walk1
  refine nameX_F (o := oc0) N' rfl (.head _) ho0 ?_
  repeat' (first | (k_unfold; try dsimp only) | (k_end; kc_close) | (walk1; all_goals ((try k_fold); (try dsimp only); try with_reducible refine wpAny_tk fun _ => ?_)) | (dsimp only; walk1) | (leave1; try dsimp only))
  refine left_claim w mean mg mb _ v _ (dp + 1) (un + 3) gd _ _ _ _ _ _ _ _ _ _ _ _ _ _ B' F' X' N' T' rfl trivial (by first | exact room_of hdp rfl | exact room_of (c := 5) hdp rfl | omega) (by first | exact room_of hu rfl | exact room_of (c := 27) hu rfl | omega) fun t5 h5 tk5 F5 N5 => ?_
  exact leaveK_ F5 (PySem.W.KStt.news_of N5 fun p hp => .tail _ (.tail _ hp)) fun Fz Nz => hret _ _ _ Fz Nz
end
section
theorem mg_kind : builtinKind "member_descriptor.__get__" = some .method ∨ builtinKind "member_descriptor.__get__" = some .slot := by rw [builtinKind_eq_fast]; decide +kernel
theorem mg_split : splitId "member_descriptor.__get__" = some ("member_descriptor", "__get__") := by decide +kernel
theorem dfac_entry : entryFor table "collections.defaultdict.default_factory" = some Builtin.«collections.defaultdict.default_factory» := entryFor_of_tree (by kernel_rfl)
theorem df_type : typeOf (.builtin "collections.defaultdict.default_factory") = pure (.type "member_descriptor") := by show builtinType _ = _; rw [builtinType_eq_fast]; kernel_rfl
section
variable {prog : Program} {w : World} {A : Around} {E : Value → Shared → Prop} {h : Heap} {g : Array GenState} {d : Drawn} {t : Nat} {os : OsState}
theorem getMethod_dfac {b dx f : Addr} {es : List DictEntry} {ep : Nat} {fro : Option (Tok × Addr)} {pl : Sem Bool} {Q : Value × List Value → Shared → Prop}
    (Y : BookCls (model prog w) h) (Z : BookLk (model prog w) h) (hb : h.get? b = some (bookObj dx es ep #[some (.ref f)])) (hdx : h.get? dx = some (dxObj w fro))
    (hq : ∀ tk, Q (.ref f, []) ⟨h, g, d, tk, os⟩) :
    wpAny (model prog w) A (getMethod (.ref b) "default_factory" pl) Q E ⟨h, g, d, t, os⟩ := by
  have tb : Looks (model prog w) h (typeOf (.ref b)) (.ref 108) := (Looks.ld hb).andThen .now
  have ib : Looks (model prog w) h (isInstance (.ref b) (.type "collections.defaultdict")) true := tb.andThen Y.dd
  have im : Looks (model prog w) h (isInstance (.builtin "collections.defaultdict.default_factory") (.type "member_descriptor")) true := (Looks.of_pure df_type).andThen (Looks.of_pure (by rw [isSubtype_type]; kernel_rfl))
  refine hide fun G kG => ?_
  obtain ⟨z1, z2, z3, z4, z5, z6, z7, z8, z9, z10, z11, z12, z13⟩ := Z
  refine kG ?_
  refine hide fun G kG => ?_
  obtain ⟨⟨oc, odd, cd, sl', hC', e1, e2, e4, e5, e6⟩, _⟩ := Y
  refine kG ?_
  refine hide fun G kG => ?_
  obtain ⟨c1, c2, c3, c4, c5, c6, c7, c8, c9, c10, c11⟩ := cd
  refine kG ?_
  dsimp only at e1 e2 e4 e5 e6
  subst e1 e2 e4 e5 e6
  unfold getMethod specialOf
  repeat (first | (with_reducible refine' wpAny_ite_false ?c0 ?_; (case c0 => (simp only [bne_self_eq_false, Bool.false_eq_true, if_false, Bool.not_true, decide_false]))) | (with_reducible refine' wpAny_ite_true ?c0 ?_; (case c0 => (simp only [bne_self_eq_false, Bool.false_eq_true, if_false, Bool.not_true, decide_true]))) | with_reducible refine wpAny_attempt ?_ | lk | simp only [bne_self_eq_false, Bool.false_eq_true, if_false, Bool.not_true])
  refine X.x_call ?_ (by intro e; cases e)
  refine codeAny_call_builtin (by decide +kernel) dga_entry (@check_any (model prog w) _ _ _ "collections.defaultdict.__getattribute__" "collections.defaultdict" "__getattribute__" (.ref b) [.str "default_factory" t] [] _ dga_kind dga_split ib (dga_args (.ref b) (.str "default_factory" t)) ?_)
  unfold Builtin.«object.__getattribute__»
  repeat (first | (with_reducible refine' wpAny_ite_false ?c0 ?_; (case c0 => (simp only [bne_self_eq_false, Bool.false_eq_true, if_false, Bool.not_true, decide_false]))) | (with_reducible refine' wpAny_ite_true ?c0 ?_; (case c0 => (simp only [bne_self_eq_false, Bool.false_eq_true, if_false, Bool.not_true, decide_true]))) | with_reducible refine wpAny_attempt ?_ | lk | simp only [bne_self_eq_false, Bool.false_eq_true, if_false, Bool.not_true])
  have q1 : (toString "member_descriptor" ++ toString "." ++ toString (Str.ofString "__get__").toString) = "member_descriptor.__get__" := by decide +kernel
  rw [q1]
  refine X.x_call ?_ (by intro e; cases e)
  refine codeAny_call_builtin (by decide +kernel) PySem.W.KF.entry_mem (@check_any (model prog w) _ _ _ "member_descriptor.__get__" "member_descriptor" "__get__" (.builtin "collections.defaultdict.default_factory") [.ref b, .ref 108] [] _ mg_kind mg_split im (PySem.W.KF.args_mem _ _ _) ?_)
  unfold Builtin.«member_descriptor.__get__»
  repeat (first | (with_reducible refine' wpAny_ite_false ?c0 ?_; (case c0 => (simp only [bne_self_eq_false, Bool.false_eq_true, if_false, Bool.not_true, decide_false]))) | (with_reducible refine' wpAny_ite_true ?c0 ?_; (case c0 => (simp only [bne_self_eq_false, Bool.false_eq_true, if_false, Bool.not_true, decide_true]))) | with_reducible refine wpAny_attempt ?_ | lk | simp only [bne_self_eq_false, Bool.false_eq_true, if_false, Bool.not_true])
  refine And.intro (Code.quiet_builtin _ (by decide +kernel)) ?_
  refine codeAny_builtin dfac_entry ?_
  unfold Builtin.«collections.defaultdict.default_factory»
  repeat (first | (with_reducible refine' wpAny_ite_false ?c0 ?_; (case c0 => (simp only [bne_self_eq_false, Bool.false_eq_true, if_false, Bool.not_true, decide_false]))) | (with_reducible refine' wpAny_ite_true ?c0 ?_; (case c0 => (simp only [bne_self_eq_false, Bool.false_eq_true, if_false, Bool.not_true, decide_true]))) | with_reducible refine wpAny_attempt ?_ | lk | simp only [bne_self_eq_false, Bool.false_eq_true, if_false, Bool.not_true])
  exact hq _
end
end
section
theorem shut_fac (w : World) (mean : ExcName → Option Value) (mg mb : Str → Option Value) (f b dx l sc c' : Nat) (es : List DictEntry) (ep : Nat) (fro : Option (Tok × Addr)) (news : CbLed) (v : Int) {P : Arguments} {BODY : PySem.Expr} {SC : Scope} {nm qual : Str} {pm ctv : Value} {oc oc0 fo : Obj} {fd : FuncData} {vs : Array Value} {t' : Tok}
    (hl : frzLam (hd.heap_39 w.params) = some (P, BODY, SC))
    (hln : (l, kla_obj nm qual P BODY SC [("self", sc)] pm c' ctv) ∈ news) (hsc : (sc, oc0) ∈ news) (ho0 : oc0.data = .cell (some (.ref b)))
    (hbn : (b, bookObj dx es ep #[some (.ref f)]) ∈ news) (hdn : (dx, dxObj w fro) ∈ news) (hfn : (f, fo) ∈ news) (hfo : fo.data = .func fd)
    (hc : (c', oc) ∈ news) (hoc : oc.data = .fields vs) (hvs : vs[1]? = some (.str qual t')) (hfac : Fac w mean mg mb f news v) : FacK w mean mg mb l news v := by
  have e : frzLam (hd.heap_39 w.params) = some (_, _, _) := rfl
  rw [e] at hl
  cases hl
  clear e
  unfold FacK
  intro dp un gd cn cs a ccd cl outer A₀ base h₀ L m s R n tk B F X N T hk hdp hun hret
  have X0 := X
  revert X; k_fill; intro X
  have hcr := codeRec_news N hc hoc hvs
  refine kla_code B F X N T rfl rfl hk hln hcr (by ktr_room) rfl (locs rfl) ?_ rfl rfl rfl (by decide)
  intro g' L' h' FG' F' N' B' X' T'
  dsimp only
  walk1
  refine nameX_F (o := oc0) N' rfl hsc ho0 ?_
  refine getMethod_dfac (b := b) (dx := dx) (es := es) (ep := ep) (fro := fro) (bookCls (prog := Challenge.rw_in0190_01.row.prog) rfl ((show (hd.heap_39 w.params).In g' from X').keeps F'.keep)) (bookLk rfl ((show (hd.heap_39 w.params).In g' from X').keeps F'.keep)) (N' _ hbn).1 (N' _ hdn).1 fun tk4 => ?_
  refine callWith_of (P := fun h => h.get? f = some fo) rfl (fun h e => ⟨_, .inl rfl, keeper_func e hfo⟩) (evalArgs_nil3 ⟨(N' _ hfn).1, ?_⟩)
  refine wpAny_call ?_
  refine hfac (dp + 1) (un + 3) _ _ _ _ _ _ _ _ _ _ _ _ _ _ B' F' X' N' T' rfl (by first | exact room_of hdp rfl | exact room_of (c := 5) hdp rfl | omega) (by first | exact room_of hu rfl | exact room_of (c := 27) hu rfl | omega) fun t5 h5 tk5 F5 N5 => ?_
  exact leaveK_ F5 N5 fun Fz Nz => hret _ _ _ Fz Nz
end
section
structure BookSa (M : Model) (h : Heap) : Prop where
  sa : Looks M h (typeLookup (.ref 108) "__setattr__") (some (.builtin "object.__setattr__"))
  ob : Looks M h (isSubtype (.ref 108) (.type "object")) true
theorem bookSa {M : Model} {w : World} {h : Heap} (hM : M = model Challenge.rw_in0190_01.row.prog w) (X : (hd.heap_39 w.params).In h) : BookSa M h := by
  subst hM
  revert X; k_fill; intro X
  exact ⟨looks_findIn X (by k_is), looks_mroIn X (by k_is)⟩
noncomputable def frzTab (k : Frag) (c' : Addr) : Obj := match fnBody k 105 with
  | .Assign _ (.Lambda _ _ _ pos) _ :: _ => tabObj #[rawInt pos.line, rawInt pos.col, .ref c']
  | _ => tabObj #[]
noncomputable def frzQual : Str := (Str.ofString "FreezableDefaultDict.freeze" ++ Str.ofString ".<locals>.") ++ Str.ofString "<lambda>"
theorem frz_new (w : World) (mean : ExcName → Option Value) (mg mb : Str → Option Value) (b dx : Nat) (es : List DictEntry) (ep : Nat) (sl : Array (Option Value)) (rest : CbLed)
   (dp un : Nat) (gd : Option (List Code)) (cn : Str) (cs : Scope) (a : Addr) (ccd : Value) (cl : List (Str × Addr)) (outer : List Env) (A₀ : Around) (base h₀ : Heap) (L : Addr) (m : Str → Option Value) (s : Shared) (R : Result → Shared → Prop)
   (B : Below A₀ base outer h₀) (F : Fr h₀ L s.heap m) (X : (hd.heap_39 w.params).In h₀) (N : News h₀ L s.heap ((b, bookObj dx es ep sl) :: (dx, dxObj w none) :: (100, tabObj #[]) :: rest)) (T : Top topProg looseL mean mg mb h₀)
   (C1 : CodeHd base 104 100) (hHigh : ∀ p ∈ rest, @Ne Nat p.1 100) (hb : 314 ≤ b) (hdx : 314 ≤ dx) (hbd : b ≠ dx) (hrd : ∀ p ∈ rest, p.1 ≠ dx) (hk : cs.kind = .function)
   (hdp : dp + 1 < recursionLimit) (hu : un + 8 < cLine)
   (hret : ∀ (P : Arguments) (BODY : PySem.Expr) (SC : Scope) (nm : Str) (pm ctv : Value) (l c' sc : Nat) (oc oc0 : Obj) (vs : Array Value) (t0 t1 : Tok) (h' : Heap) (tk' : Nat), frzLam (hd.heap_39 w.params) = some (P, BODY, SC) →
     oc0.data = .cell (some (.ref b)) → oc.data = .fields vs → vs[1]? = some (.str frzQual t1) → Fr h₀ L h' m →
     News h₀ L h' ((l, kla_obj nm frzQual P BODY SC [("self", sc)] pm c' ctv) :: (c', oc) :: (sc, oc0) :: (b, bookObj dx es ep sl) :: (dx, dxObj w (some (t0, l))) :: (100, frzTab (hd.heap_39 w.params) c') :: rest) →
     R (.ok (.ret .none)) { s with heap := h', toks := tk' }) :
   codeAny (model Challenge.rw_in0190_01.row.prog w) (ktrTop dp un gd cn cs L a ccd cl outer) (.call (.ref 105) ⟨[.ref b], []⟩) R s := by
  have X0 := X
  revert X; k_fill; intro X
  (refine' code_defC ?k1 ?k2 ?k3 ?k4 ?k5 ?kA ?kF ?kK ?k6 ?k7 ?k8 ?k9 ?kB ?kD ?_ ?c2 ?c3 ?c4; (case kA | kF => exact rfl); (case kK => assumption); (case k1 | k2 => k_asm); (case k3 | k4 | k5 => k_asm); (case k6 | k7 => k_is); (case k8 => ktr_room); (case k9 => exact BindsTo.of_eq rfl); (case kB => exact rfl); (case kD => decide +kernel); (case c2 | c3 | c4 => exact rfl); k_whole; intro g' L' h' tk' cells' FG' F' N' Y' B' X' T' l1; have hLow := low_of l1; (repeat (replace hLow := low_tail hLow)); (try k_lt l1); k_cells Y'; (try simp only [List.cons_append, List.nil_append] at N'); (try dsimp only); (try k_lift B'); (try k_fold))
  walk1
  walk1
  walk1
  walk1
  rename_i o1 e1 f2 c2 oc2 vs2 t2 ct2 h2 tk2 F2 N2 d1 d2 l1' l2
  have X2 := (show (hd.heap_39 w.params).In g' from X').keeps F2.keep
  have S2 := bookSa (M := model Challenge.rw_in0190_01.row.prog w) rfl X2
  refine setAttr_book (bookCls (prog := Challenge.rw_in0190_01.row.prog) rfl X2) (bookLk rfl X2) S2.sa S2.ob (N2 _ (.tail _ (.tail _ (.tail _ (.head _))))).1 (fro := none) (N2 _ (.tail _ (.tail _ (.tail _ (.tail _ (.head _)))))).1 fun h3 t0 t3 hdx3 hs3 => ?_
  obtain ⟨F3, N3⟩ := led_set (l1 := [_, _, _, _]) F2 N2 (fun p hp => by
    simp only [List.mem_cons, List.not_mem_nil, or_false] at hp
    rcases hp with rfl | rfl | rfl | rfl <;> first | exact hbd | exact Nat.ne_of_gt (by omega)) (fun p hp => by
    rcases List.mem_cons.mp hp with rfl | hp
    · exact Nat.ne_of_lt (by omega)
    · exact hrd p hp) hdx3 hs3
  walk1
  refine leaveK_ F3 N3 fun Fz Nz => hret _ _ _ _ _ _ _ _ _ _ _ _ _ _ _ _ rfl e1 d1 d2 Fz Nz
theorem frz_again (w : World) (mean : ExcName → Option Value) (mg mb : Str → Option Value) (b dx c' l9 : Nat) (t9 : Tok) (es : List DictEntry) (ep : Nat) (sl : Array (Option Value)) (rest : CbLed)
   (dp un : Nat) (gd : Option (List Code)) (cn : Str) (cs : Scope) (a : Addr) (ccd : Value) (cl : List (Str × Addr)) (outer : List Env) (A₀ : Around) (base h₀ : Heap) (L : Addr) (m : Str → Option Value) (s : Shared) (R : Result → Shared → Prop)
   (B : Below A₀ base outer h₀) (F : Fr h₀ L s.heap m) (X : (hd.heap_39 w.params).In h₀) (N : News h₀ L s.heap ((b, bookObj dx es ep sl) :: (dx, dxObj w (some (t9, l9))) :: (100, frzTab (hd.heap_39 w.params) c') :: rest)) (T : Top topProg looseL mean mg mb h₀)
   (C1 : CodeHd base 104 100) (hHigh : ∀ p ∈ rest, @Ne Nat p.1 100) (hb : 314 ≤ b) (hdx : 314 ≤ dx) (hbd : b ≠ dx) (hrd : ∀ p ∈ rest, p.1 ≠ dx) (hk : cs.kind = .function)
   (hdp : dp + 1 < recursionLimit) (hu : un + 8 < cLine)
   (hret : ∀ (P : Arguments) (BODY : PySem.Expr) (SC : Scope) (nm : Str) (pm ctv : Value) (l sc : Nat) (oc0 : Obj) (t0 : Tok) (h' : Heap) (tk' : Nat), frzLam (hd.heap_39 w.params) = some (P, BODY, SC) →
     oc0.data = .cell (some (.ref b)) → Fr h₀ L h' m →
     News h₀ L h' ((l, kla_obj nm frzQual P BODY SC [("self", sc)] pm c' ctv) :: (sc, oc0) :: (b, bookObj dx es ep sl) :: (dx, dxObj w (some (t0, l))) :: (100, frzTab (hd.heap_39 w.params) c') :: rest) →
     R (.ok (.ret .none)) { s with heap := h', toks := tk' }) :
   codeAny (model Challenge.rw_in0190_01.row.prog w) (ktrTop dp un gd cn cs L a ccd cl outer) (.call (.ref 105) ⟨[.ref b], []⟩) R s := by
  have X0 := X
  have et : frzTab (hd.heap_39 w.params) c' = tabObj #[_, _, .ref c'] := rfl
  rw [et] at N
  revert X; k_fill; intro X
  (refine' code_defC ?k1 ?k2 ?k3 ?k4 ?k5 ?kA ?kF ?kK ?k6 ?k7 ?k8 ?k9 ?kB ?kD ?_ ?c2 ?c3 ?c4; (case kA | kF => exact rfl); (case kK => assumption); (case k1 | k2 => k_asm); (case k3 | k4 | k5 => k_asm); (case k6 | k7 => k_is); (case k8 => ktr_room); (case k9 => exact BindsTo.of_eq rfl); (case kB => exact rfl); (case kD => decide +kernel); (case c2 | c3 | c4 => exact rfl); k_whole; intro g' L' h' tk' cells' FG' F' N' Y' B' X' T' l1; have hLow := low_of l1; (repeat (replace hLow := low_tail hLow)); (try k_lt l1); k_cells Y'; (try simp only [List.cons_append, List.nil_append] at N'); (try dsimp only); (try k_lift B'); (try k_fold))
  walk1
  walk1
  walk1
  walk1
  rename_i o1 e1 f2 ct2 h2 tk2 F2 N2 l1'
  have X2 := (show (hd.heap_39 w.params).In g' from X').keeps F2.keep
  have S2 := bookSa (M := model Challenge.rw_in0190_01.row.prog w) rfl X2
  refine setAttr_book (bookCls (prog := Challenge.rw_in0190_01.row.prog) rfl X2) (bookLk rfl X2) S2.sa S2.ob (N2 _ (.tail _ (.tail _ (.head _)))).1 (fro := some (t9, l9)) (N2 _ (.tail _ (.tail _ (.tail _ (.head _))))).1 fun h3 t0 t3 hdx3 hs3 => ?_
  obtain ⟨F3, N3⟩ := led_set (l1 := [_, _, _]) F2 N2 (fun p hp => by
    simp only [List.mem_cons, List.not_mem_nil, or_false] at hp
    rcases hp with rfl | rfl | rfl <;> first | exact hbd | exact Nat.ne_of_gt (by omega)) (fun p hp => by
    rcases List.mem_cons.mp hp with rfl | hp
    · exact Nat.ne_of_lt (by omega)
    · exact hrd p hp) hdx3 hs3
  walk1
  refine leaveK_ F3 N3 fun Fz Nz => hret _ _ _ _ _ _ _ _ _ _ _ _ rfl e1 Fz Nz
end
section
section
variable {prog : Program} {w : World} {A : Around} {E : Value → Shared → Prop} {h : Heap} {g : Array GenState} {d : Drawn} {t : Nat} {os : OsState}
theorem in_nil : Frag.In [] h := fun _ _ e => by cases e
open Builtin Builtin.ObjectAttr in
theorem fc_bare {T : String} {name : Str} {v ta : Value} (h1 : findIn [] (.type "type") name = some none) (h2 : findIn [] (.type T) name = some (some v)) (h3 : heldUnderItsOwnName name v = false) (h4 : typeIn [] v = some ta) (h5 : bareKinds.contains ta = true) : findCls [] (.type T) (.type "type") name = some (.val v) := by
  unfold findCls
  repeat (first | simp -iota only [h1, h2, h3, h4, h5, Option.bind_some, Bool.false_eq_true, if_false, if_true] | dsimp only)
open Builtin Builtin.ObjectAttr in
theorem fc_new {T : String} {name : Str} {u v ta : Value} (h1 : findIn [] (.type "type") name = some (some u)) (h0 : specialIn [] u "__get__" = some none) (h2 : findIn [] (.type T) name = some (some v)) (h3 : heldUnderItsOwnName name v = false) (h4 : typeIn [] v = some ta) (h5 : bareKinds.contains ta = false) (h6 : specialIn [] v "__get__" = some none) (h7 : handedIn v = true) : findCls [] (.type T) (.type "type") name = some (.val v) := by
  unfold findCls
  repeat (first | simp -iota only [h1, h0, h2, h3, h4, h5, h6, h7, Option.bind_some, Bool.false_eq_true, if_false, if_true] | dsimp only)
theorem ty_attr {T : String} {name : Str} {v : Value} {x : Bool} {Q : Value → Shared → Prop} (ht : typeOf (.type T) = pure (.type "type")) (hs : Manifest.isStub T = false) (e : findCls [] (.type T) (.type "type") name = some (.val v)) (hh : handedIn v = true)
    (hq : ∀ t', Q v ⟨h, g, d, t', os⟩) : wpAny (model prog w) A (getAttr (.type T) name x) Q E ⟨h, g, d, t, os⟩ := by
  have st : opaqueClassAbove (.type T) = pure none := by unfold opaqueClassAbove; dsimp only; rw [hs]; rfl
  refine cls_open in_nil (Looks.of_pure st) (Looks.of_pure ht) type_tga (looks_hook in_nil (r := none) (by rfl)) (by show subIn [] _ _ = _; rfl) e (wpAny_pure ?_)
  show wpAny _ _ (handedOut v) _ _ _
  rw [handedOut_of hh]
  exact wpAny_pure (hq _)
theorem ty_method {T : String} {name : Str} {v : Value} {pl : Sem Bool} {Q : Value × List Value → Shared → Prop} (ht : typeOf (.type T) = pure (.type "type")) (hs : Manifest.isStub T = false) (e : findCls [] (.type T) (.type "type") name = some (.val v)) (hh : handedIn v = true)
    (hq : ∀ t', Q (v, []) ⟨h, g, d, t', os⟩) : wpAny (model prog w) A (getMethod (.type T) name pl) Q E ⟨h, g, d, t, os⟩ := by
  have l0 : Looks (model prog w) h (typeOf (.type T)) (.type "type") := Looks.of_pure ht
  have l1 : Looks (model prog w) h (typeLookup (.type "type") "__getattribute__") (some (.builtin "type.__getattribute__")) := looks_findIn in_nil type_tga
  unfold getMethod specialOf
  refine wpAny_bind (wpAny_bind (l0.at (l1.at ?_)))
  dsimp only
  rw [if_pos canon_tga]
  exact wpAny_bind (wpAny_mono (ty_attr (Q := fun v => Q (v, [])) ht hs e hh hq) (fun _ _ z => wpAny_pure z) fun _ _ z => z)
theorem getAttr_strip {x : Bool} {Q : Value → Shared → Prop} (hq : ∀ t', Q (.builtin "str.strip") ⟨h, g, d, t', os⟩) :
    wpAny (model prog w) A (getAttr (.type "str") "strip" x) Q E ⟨h, g, d, t, os⟩ := by
  with_reducible refine ty_attr ?_ ?_ ?_ ?_ hq
  · first | rfl | kernel_rfl
  · decide +kernel
  · exact fc_bare (ta := .type "method_descriptor") (by kernel_rfl) (by kernel_rfl) (by first | rfl | kernel_rfl) (by kernel_rfl) (by decide +kernel)
  · rfl
theorem getMethod_tnew {pl : Sem Bool} {Q : Value × List Value → Shared → Prop} (hq : ∀ t', Q (.builtin "tuple.__new__", []) ⟨h, g, d, t', os⟩) :
    wpAny (model prog w) A (getMethod (.type "tuple") "__new__" pl) Q E ⟨h, g, d, t, os⟩ := by
  with_reducible refine ty_method ?_ ?_ ?_ ?_ hq
  · first | rfl | kernel_rfl
  · decide +kernel
  · exact fc_new (u := .builtin "type.__new__") (ta := .type "builtin_function_or_method") (by kernel_rfl) (by kernel_rfl) (by kernel_rfl) (by first | rfl | kernel_rfl) (by kernel_rfl) (by decide +kernel) (by kernel_rfl) rfl
  · rfl
theorem getMethod_tgi {pl : Sem Bool} {Q : Value × List Value → Shared → Prop} (hq : ∀ t', Q (.builtin "tuple.__getitem__", []) ⟨h, g, d, t', os⟩) :
    wpAny (model prog w) A (getMethod (.type "tuple") "__getitem__" pl) Q E ⟨h, g, d, t, os⟩ := by
  with_reducible refine ty_method ?_ ?_ ?_ ?_ hq
  · first | rfl | kernel_rfl
  · decide +kernel
  · exact fc_bare (ta := .type "wrapper_descriptor") (by kernel_rfl) (by kernel_rfl) (by first | rfl | kernel_rfl) (by kernel_rfl) (by decide +kernel)
  · rfl
end
end
section
theorem mro_map : mroOf (.type "map") = pure [.type "map", .type "object"] := by rw [mroOf_type]; kernel_rfl
theorem lookup_map_new : typeLookup (.type "map") "__new__" = pure (some (.builtin "map.__new__")) := by rw [typeLookup_type, builtinLookup_eq_fast]; kernel_rfl
theorem slot_map_init : Slot "map" "__init__" "object.__init__" := .of (owner := "object") (n := "__init__") (by rw [typeLookup_type, builtinLookup_eq_fast]; kernel_rfl) (by decide +kernel) (by decide +kernel) (by decide +kernel) (by first | exact .inl (by decide +kernel) | exact .inr (by decide +kernel)) (by rw [isSubtype_type]; kernel_rfl)
theorem called_map : TypeCalled "map" "map.__new__" "object.__init__" :=
  ⟨by decide +kernel, by decide +kernel, ⟨_, _, mro_map⟩, madeBy_type mro_map lookup_map_new (by decide +kernel), by decide +kernel, by rw [isSubtype_type]; kernel_rfl, slot_map_init⟩
theorem typeCall_map (a b : Value) : checkTypeCall "map" ⟨[a, b], []⟩ = pure () := by kernel_rfl
theorem newCall_map (a b : Value) : checkBuiltinCall "map.__new__" ⟨[.type "map", a, b], []⟩ = pure () := by kernel_rfl
theorem entry_map_new : entryFor table "map.__new__" = some Builtin.«map.__new__» := entryFor_of_tree (by kernel_rfl)
section
variable {prog : Program} {w : World} {A : Around} {E : Value → Shared → Prop} {h : Heap} {g : Array GenState} {d : Drawn} {t : Nat} {os : OsState}
theorem map_new (f : Value) (l : Addr) (items : Array Value) (n : Nat) :
    Meets (Builtin.«map.__new__» ⟨[.type "map", f, .ref l], []⟩) (fun _ R s => s.heap.get? l = some (W.listOf items n) ∧
      ∀ h', h'.get? s.heap.objs.size = some { cls := .type "list_iterator", data := .fields #[.ref l, .int 0 0] } → h'.get? (s.heap.objs.size + 1) = some { cls := .type "tuple", data := .seq #[.ref s.heap.objs.size] } → h'.get? (s.heap.objs.size + 2) = some { cls := .type "map", data := .fields #[.ref (s.heap.objs.size + 1), f] } →
      (∀ a o, s.heap.get? a = some o → h'.get? a = some o) → R (.ok (.ret (.ref (s.heap.objs.size + 2)))) { s with heap := h' }) :=
  .of_wp fun prog w A R s hh => by
    obtain ⟨hp, g, d, tk, os⟩ := s
    obtain ⟨hl, hq⟩ := hh
    have hL : Heap.IsList (Shared.heap ⟨hp, g, d, tk, os⟩) l items := ⟨_, hl, rfl, n, rfl⟩
    unfold Builtin.«map.__new__»
    repeat ((fail_if_success (with_reducible show wpAny _ _ (pyIter _) _ _ _)); first | simp only [bne_self_eq_false, Bool.false_eq_true, if_false, Bool.not_true] | with_reducible refine wpAny_attempt ?_ | lk)
    refine wpAny_pyIter_list hL ?_
    repeat (first | simp only [bne_self_eq_false, Bool.false_eq_true, if_false, Bool.not_true] | with_reducible refine wpAny_attempt ?_ | lk)
    have z := hq (((hp.push { cls := .type "list_iterator", data := .fields #[.ref l, .int 0 0] }).push { cls := .type "tuple", data := .seq #[.ref hp.objs.size] }).push { cls := .type "map", data := .fields #[.ref (hp.objs.size + 1), f] })
      (Heap.get?_push_of_some _ (Heap.get?_push_of_some _ (Heap.get?_push_size _ rfl))) (Heap.get?_push_of_some _ (Heap.get?_push_at (by rw [Heap.size_push]) rfl)) (Heap.get?_push_at (by rw [Heap.size_push, Heap.size_push]) rfl)
      fun a o e => Heap.get?_push_of_some _ (Heap.get?_push_of_some _ (Heap.get?_push_of_some _ e))
    refine ⟨_, rfl, ?_⟩
    simp only [Heap.size_push]
    exact z
theorem call_map {l : Addr} {items : Array Value} {n : Nat} {f : Value} {Q : Value → Shared → Prop} (hl : h.get? l = some (W.listOf items n))
    (hq : ∀ h', h'.get? h.objs.size = some { cls := .type "list_iterator", data := .fields #[.ref l, .int 0 0] } → h'.get? (h.objs.size + 1) = some { cls := .type "tuple", data := .seq #[.ref h.objs.size] } → h'.get? (h.objs.size + 2) = some { cls := .type "map", data := .fields #[.ref (h.objs.size + 1), f] } →
      (∀ a o, h.get? a = some o → h'.get? a = some o) → Q (.ref (h.objs.size + 2)) ⟨h', g, d, t, os⟩) :
    wpAny (model prog w) A (call (.type "map") [f, .ref l]) Q E ⟨h, g, d, t, os⟩ := by
  refine callType_new called_map (by decide) (typeCall_map _ _) (newCall_map _ _) (fun obj => PySem.F.initArgs_range_2 obj _ _) entry_map_new (map_new f l items n) ⟨hl, fun h' e1 e2 e3 k => ?_⟩
  exact ⟨⟨_, e3, rfl⟩, hq h' e1 e2 e3 k⟩
end
end
section
noncomputable def mapObj (T : Addr) (f : Value) : Obj := { cls := .type "map", data := .fields #[.ref T, f] }
theorem slot_map_next : Slot "map" "__next__" "map.__next__" := .of (owner := "map") (n := "__next__") (by rw [typeLookup_type, builtinLookup_eq_fast]; kernel_rfl) (by decide +kernel) (by decide +kernel) (by decide +kernel) (by first | exact .inl (by decide +kernel) | exact .inr (by decide +kernel)) (by rw [isSubtype_type]; kernel_rfl)
theorem entry_map_next : entryFor table "map.__next__" = some Builtin.«map.__next__» := entryFor_of_tree (by kernel_rfl)
theorem args_map_next (a : Value) : argsOk "map.__next__" ⟨[a], []⟩ := by unfold argsOk; rw [PySem.W.Fast.signatureY_eq]; kernel_rfl
section
variable {prog : Program} {w : World} {A : Around} {E : Value → Shared → Prop} {s : Shared}
theorem strip_up {x : Str} {t : Tok} {Q : Value → Shared → Prop} (hsz : x.length ≤ sizeLine) (h : ∀ t' k, s.toks ≤ k → Q (.str (Txt.strip x) t') { s with toks := k }) : wpAny (model prog w) A (call (.builtin "str.strip") [.str x t]) Q E s := by
  refine call_givesAt (P := fun _ => True) F.slot_str_strip rfl F.entry_str_strip (F.args_str_strip_1 _) (gives_str_strip x t).at trivial ?_
  have z : (if stripSame Unicode.isSpace true true x then Made.val (.str x t) else .str (PySem.stripped Unicode.isSpace true true x)).post Q s := by
    cases hc : stripSame Unicode.isSpace true true x with
    | true =>
      have e : Txt.strip x = x := if_pos hc
      have := h t s.toks (Nat.le_refl _)
      rw [e] at this
      exact this
    | false =>
      have e : Txt.strip x = PySem.stripped Unicode.isSpace true true x := if_neg (by rw [hc]; decide)
      have := h s.toks (s.toks + 1) (Nat.le_succ _)
      rw [e] at this
      exact ⟨fits_stripped _ _ _ hsz, this⟩
  exact z
theorem map_next_item {I T LI l : Addr} {k : Nat} {items : Array Value} {x : Str} {t : Tok} {Q : Value → Shared → Prop} (hI : s.heap.get? I = some (mapObj T (.builtin "str.strip"))) (hT : s.heap.get? T = some { cls := .type "tuple", data := .seq #[.ref LI] })
    (hLI : s.heap.IsListIter LI l k) (hl : s.heap.IsList l items) (hx : items[k]? = some (.str x t)) (hILI : I ≠ LI) (hsz : x.length ≤ sizeLine)
    (hQ : ∀ h' t' tk, s.toks ≤ tk → h'.IsListIter LI l (k + 1) → Heap.SameBut LI s.heap h' → Q (.str (Txt.strip x) t') { s with heap := h', toks := tk }) :
    wpAny (model prog w) A (Builtin.«map.__next__» ⟨[.ref I], []⟩) (fun fin s' => ∃ v, fin = .done (.ret v) ∧ Q v s') E s := by
  show wpAny _ _ (field (.ref I) 0 >>= _) _ _ _
  refine wpAny_bind (wpAny_field hI rfl (x := .ref T) rfl ?_)
  refine wpAny_bind (wpAny_seqItems hT rfl ?_)
  refine wpAny_bind ?_
  simp only [List.forIn_cons, List.forIn_nil, ← Array.forIn_toList]
  refine wpAny_bind (wpAny_bind (wpAny_holding ?_))
  refine wpAny_nextOf_list_item hLI hl hx fun h₂ h1₂ hs₂ => wpAny_pure ?_
  refine wpAny_pure ?_
  have hI₂ : h₂.get? I = some (mapObj T (.builtin "str.strip")) := (hs₂.2 _ hILI).trans hI
  refine wpAny_bind (wpAny_field hI₂ rfl (x := .builtin "str.strip") rfl ?_)
  refine wpAny_bind (wpAny_holding (strip_up hsz (fun t' tk htk => ?_)))
  refine wpAny_bind (wpAny_letGo (wpAny_pure ⟨_, rfl, hQ _ _ _ htk h1₂ hs₂⟩))
end
theorem entry_map_iter : entryFor table "map.__iter__" = some Builtin.«dict_keyiterator.__iter__» :=
  entryFor_alias (id' := "dict_keyiterator.__iter__") (by rw [fastTable_eq_tree]; kernel_rfl) (by decide +kernel) (by rw [PySem.W.Fast.canonicalY_eq]; decide +kernel) (by rw [fastTable_eq_tree]; kernel_rfl)
theorem slot_map_iter : Slot "map" "__iter__" "map.__iter__" := .of (owner := "map") (n := "__iter__") (by rw [typeLookup_type, builtinLookup_eq_fast]; kernel_rfl) (by decide +kernel) (by decide +kernel) (by decide +kernel) (by first | exact .inl (by decide +kernel) | exact .inr (by decide +kernel)) (by rw [isSubtype_type]; kernel_rfl)
theorem args_map_iter (a : Value) : argsOk "map.__iter__" ⟨[a], []⟩ := by unfold argsOk; rw [PySem.W.Fast.signatureY_eq]; kernel_rfl
section
variable {prog : Program} {w : World} {A : Around} {E : Value → Shared → Prop} {s : Shared}
theorem pyNext_map_item {I T LI l : Addr} {k : Nat} {items : Array Value} {x : Str} {t : Tok} {Q : Option Value → Shared → Prop} (hI : s.heap.get? I = some (mapObj T (.builtin "str.strip"))) (hT : s.heap.get? T = some { cls := .type "tuple", data := .seq #[.ref LI] })
    (hLI : s.heap.IsListIter LI l k) (hl : s.heap.IsList l items) (hx : items[k]? = some (.str x t)) (hILI : I ≠ LI) (hsz : x.length ≤ sizeLine)
    (hQ : ∀ h' t' tk, s.toks ≤ tk → h'.IsListIter LI l (k + 1) → Heap.SameBut LI s.heap h' → Q (some (.str (Txt.strip x) t')) { s with heap := h', toks := tk }) :
    wpAny (model prog w) A (pyNext (.ref I)) Q E s := by
  have hTy : s.TypeIs (.ref I) "map" := ⟨_, hI, rfl⟩
  unfold pyNext
  exact wpAny_bind (wpAny_attempt (wpAny_callSpecial?_slot (name := Str.ofString "__next__") hTy slot_map_next
    (wpAny_call_entry slot_map_next hTy entry_map_next
      (map_next_item hI hT hLI hl hx hILI hsz fun h' t' tk a0 a1 a2 => wpAny_pure (hQ h' t' tk a0 a1 a2)) (args_map_next _))))
theorem pyNext_map_end {I T LI l : Addr} {k : Nat} {items : Array Value} {f : Value} {Q : Option Value → Shared → Prop} (hh : A.handled = none) (hI : s.heap.get? I = some (mapObj T f)) (hT : s.heap.get? T = some { cls := .type "tuple", data := .seq #[.ref LI] })
    (hLI : s.heap.IsListIter LI l k) (hl : s.heap.IsList l items) (hx : items[k]? = none)
    (hQ : ∀ h', Heap.ExtBut LI s.heap h' → Q none { s with heap := h' }) :
    wpAny (model prog w) A (pyNext (.ref I)) Q E s := by
  have hTy : s.TypeIs (.ref I) "map" := ⟨_, hI, rfl⟩
  unfold pyNext
  refine wpAny_bind (wpAny_attempt (wpAny_callSpecial?_slot (name := Str.ofString "__next__") hTy slot_map_next
    (wpAny_call_entry slot_map_next hTy entry_map_next ?_ (args_map_next _))))
  show wpAny _ _ (field (.ref I) 0 >>= _) _ _ _
  refine wpAny_bind (wpAny_field hI rfl (x := .ref T) rfl ?_)
  refine wpAny_bind (wpAny_seqItems hT rfl ?_)
  refine wpAny_bind ?_
  simp only [List.forIn_cons, List.forIn_nil, ← Array.forIn_toList]
  refine wpAny_bind (wpAny_bind (wpAny_holding ?_))
  refine wpAny_nextOf_list_end hh hLI hl hx fun h₂ e hs₂ he => ?_
  obtain ⟨o, ho, hc⟩ := he
  refine wpAny_bind (wpAny_isInstance (T := "StopIteration") (b := true) ⟨o, ho, hc⟩ isSubtype_stop ?_)
  exact wpAny_pure (hQ _ hs₂)
theorem pyIter_map {I T : Addr} {f : Value} {Q : Value → Shared → Prop} (hI : s.heap.get? I = some (mapObj T f)) (h : Q (.ref I) s) : wpAny (model prog w) A (pyIter (.ref I)) Q E s := by
  have hT : s.TypeIs (.ref I) "map" := ⟨_, hI, rfl⟩
  refine wpAny_pyIter_slot hT slot_map_iter (wpAny_call_entry slot_map_iter hT entry_map_iter ?_ (args_map_iter _))
  show wpAny _ _ (ret (.ref I)) _ _ s
  exact wpAny_pure ⟨_, rfl, "map", _, hT, slot_map_next.lookup, h⟩
end
end
section
section
variable {prog : Program} {w : World} {A : Around} {E : Value → Shared → Prop}
noncomputable def MapSt (I T LI l : Addr) (items : Array Value) (i : Nat) (s : Shared) : Prop :=
  s.heap.get? I = some (mapObj T (.builtin "str.strip")) ∧ s.heap.get? T = some { cls := .type "tuple", data := .seq #[.ref LI] } ∧ s.heap.IsListIter LI l i ∧ s.heap.IsList l items
theorem walks_map {I T LI l : Addr} {items : Array Value} {xs : List Str} (hh : A.handled = none) (hit : ∀ i, i < items.size → ∃ x t, items[i]? = some (.str x t) ∧ xs[i]? = some x ∧ x.length ≤ sizeLine)
    (n1 : I ≠ LI) (n2 : T ≠ LI) (n3 : l ≠ LI) : WalksS prog w A I [I, T, LI, l] [LI] Eq items.size (fun i v => ∃ x t, xs[i]? = some x ∧ v = .str (Txt.strip x) t) (MapSt I T LI l items) where
  sub := fun b hb => by rcases List.mem_cons.mp hb with rfl | hb; exact .tail _ (.tail _ (.head _)); cases hb
  grefl := fun _ => rfl
  gtrans := fun _ _ _ a b => a.trans b
  frame := fun i s h' tk hs _ k => by
    obtain ⟨a1, a2, a3, a4⟩ := hs
    exact ⟨k _ (.head _) _ a1, k _ (.tail _ (.head _)) _ a2, a3.at fun o e => k _ (.tail _ (.tail _ (.head _))) o e, a4.at fun o e => k _ (.tail _ (.tail _ (.tail _ (.head _)))) o e⟩
  item := fun i s Q E hi hs k => by
    obtain ⟨a1, a2, a3, a4⟩ := hs
    obtain ⟨x, t, hx, hx2, hz⟩ := hit i hi
    refine pyNext_map_item a1 a2 a3 a4 hx n1 hz fun h' t' tk b0 b1 b2 => ?_
    refine k _ _ ⟨x, t', hx2, rfl⟩ ⟨(b2.2 _ n1).trans a1, (b2.2 _ n2).trans a2, b1, a4.at fun o e => (b2.2 _ n3).trans e⟩ ⟨fun b o hb e => (b2.2 _ fun q => hb (q ▸ .head _)).trans e, rfl, rfl, rfl, b0⟩
  done := fun s Q E hs k => by
    obtain ⟨a1, a2, a3, a4⟩ := hs
    refine pyNext_map_end hh a1 a2 a3 a4 (by simp) fun h' b => ?_
    exact k _ ⟨fun b' o hb e => b _ _ (fun q => hb (q ▸ .head _)) e, rfl, rfl, rfl, Nat.le_refl _⟩
  self := fun i s Q E hs q => pyIter_map hs.1 q
end
end
section
theorem nolen_map : typeLookup (.type "map") "__len__" = pure none := by rw [typeLookup_type, builtinLookup_eq_fast]; kernel_rfl
theorem nohint_map : typeLookup (.type "map") "__length_hint__" = pure none := by rw [typeLookup_type, builtinLookup_eq_fast]; kernel_rfl
section
variable {prog : Program} {w : World} {A : Around} {E : Value → Shared → Prop} {s : Shared} {I : Addr} {fp wr : List Addr} {n : Nat} {P : Nat → Value → Prop} {St : Nat → Shared → Prop}
theorem up_seq {a : Addr} {xs : Array Value} {c : Nat} {f : Array Value → Array Value} {Q : Unit → Shared → Prop} (ho : s.heap.get? a = some { cls := .type "list", data := .seq xs c }) (hz : xs.size ≤ sizeLine) (hz' : (f xs).size ≤ sizeLine + 1)
    (h : ∀ h' c', h'.get? a = some { cls := .type "list", data := .seq (f xs) c' } → Heap.SameBut a s.heap h' → Q () { s with heap := h' }) : wpAny (model prog w) A (updateSeq a f) Q E s :=
  wpAny_updateSeq ho rfl (h _ _ ((Heap.get?_update_self _ ho rfl).trans rfl) (Heap.SameBut.update ..)) hz hz'
theorem collect_map {Q : List Value → Shared → Prop} (W : WalksS prog w A.in1 I fp wr Eq n P St) (hT : ∀ i s, St i s → s.TypeIs (.ref I) "map") (hst : St 0 s) (hfp : ∀ b ∈ fp, b < s.heap.objs.size) (hI : I ∈ fp)
    (hQ : ∀ s' acc, Moved wr Eq s s' → ItemsOf P acc n → Q acc.toList s') (hn : n ≤ sizeLine) : wpAny (model prog w) A (collect (.ref I)) Q E s := by
  have hne : s.heap.objs.size ≠ I := fun e => Nat.lt_irrefl _ (hfp _ (e ▸ hI : s.heap.objs.size ∈ fp))
  have hnf : s.heap.objs.size ∉ fp := fun hm => Nat.lt_irrefl _ (hfp _ hm)
  unfold collect
  refine wpAny_bind (wpAny_runValue (codeAny_builtin F.entry_proto_collect ?_))
  rw [Around.under_plainId (by decide +kernel) _]
  show wpAny _ A.in1 (newList [] >>= fun l => again (.builtin "list.__iadd__" ⟨[l, .ref I], []⟩)) _ _ s
  refine wpAny_bind (wpAny_newList ?_)
  refine wpAny_pure ⟨plainId_quiet (by decide +kernel) _, codeAny_builtin F.entry_list_iadd ?_⟩
  rw [Around.under_plainId (by decide +kernel) _]
  have hS : (s.heap.push { cls := .type "list", data := .seq ([] : List Value).toArray }).get? s.heap.objs.size = some { cls := .type "list", data := .seq ([] : List Value).toArray } := Heap.get?_push_size _ rfl
  have h0 := W.frame 0 s (s.heap.push { cls := .type "list", data := .seq ([] : List Value).toArray }) s.toks hst (Nat.le_refl _) fun b _ o e => Heap.get?_push_of_some _ e
  have k0 : ∀ b o, s.heap.get? b = some o → (s.heap.push { cls := .type "list", data := .seq ([] : List Value).toArray }).get? b = some o := fun b o e => Heap.get?_push_of_some _ e
  generalize s.heap.push { cls := .type "list", data := .seq ([] : List Value).toArray } = H at hS h0 k0 ⊢
  show wpAny _ A.in1 (Builtin.List.listExtendWith (.ref s.heap.objs.size) (.ref I) (.ref s.heap.objs.size)) _ _ _
  unfold Builtin.List.listExtendWith
  refine wpAny_bind (wpAny_typeOf (hT 0 _ h0) ?_)
  rw [if_neg (by simp [Builtin.List.listSameRef, hne])]
  refine wpAny_bind (W.self 0 _ _ _ h0 ?_)
  refine wpAny_bind (wpAny_holding ?_)
  unfold Builtin.List.listLengthHint
  refine wpAny_bind (wpAny_specialOf (hT 0 _ h0) nolen_map ?_)
  show wpAny _ A.in1 (specialOf (Value.ref I) (Str.ofString "__length_hint__") >>= _) _ _ _
  refine wpAny_bind (wpAny_specialOf (hT 0 _ h0) nohint_map ?_)
  refine wpAny_pure ?_
  repeat (first | simp -iota only [Bool.true_or, if_true] | dsimp only)
  refine wpAny_bind (wpAny_rule ?_)
  unfold Builtin.List.listTouch Builtin.List.listUpdate
  dsimp only
  refine wpAny_bind (wpAny_bind (up_seq hS (Nat.zero_le _) (by rw [sizeLine_eq]; decide) fun h1 c1 e1 s1 => ?_))
  refine up_seq e1 (by rw [sizeLine_eq]; decide) (by rw [sizeLine_eq]; decide) fun h2 c2 e2 s2 => ?_
  have kk : ∀ b o, b ≠ s.heap.objs.size → H.get? b = some o → h2.get? b = some o := fun b o q e => (s2.2 b q).trans ((s1.2 b q).trans e)
  have h2' := W.frame 0 { s with heap := H } h2 s.toks h0 (Nat.le_refl _) fun b hb o e => kk b o (fun q => hnf (q ▸ hb)) e
  refine wpAny_pure ⟨plainId_quiet (by decide +kernel) _, codeAny_extend_loopS W hn _ hnf _ n 0 _ _ _ rfl (Nat.zero_le _) h2' e2 (ItemsOf.nil P) fun s' acc' c' hm hS' hacc => ?_⟩
  show wpAny _ A (load s.heap.objs.size >>= _) _ _ s'
  refine wpAny_bind (wpAny_load hS' (wpAny_pure (hQ s' acc' ⟨fun b o hb e => hm.heap b o ?_ (kk b o ?_ (k0 b o e)), hm.gens, hm.drawn, hm.os, hm.toks⟩ hacc)))
  · intro hmem
    rcases List.mem_cons.mp hmem with rfl | hmem
    · exact absurd (Heap.lt_size e) (Nat.lt_irrefl _)
    · exact hb hmem
  · rintro rfl
    exact absurd (Heap.lt_size e) (Nat.lt_irrefl _)
end
section
variable {prog : Program} {w : World} {A : Around} {E : Value → Shared → Prop} {s : Shared}
theorem star_map {I T LI l : Addr} {items : Array Value} {xs : List Str} {Q : List Value → Shared → Prop} (hh : A.handled = none) (hI : s.heap.get? I = some (mapObj T (.builtin "str.strip"))) (hT : s.heap.get? T = some { cls := .type "tuple", data := .seq #[.ref LI] })
    (hLI : s.heap.IsListIter LI l 0) (hl : s.heap.IsList l items) (hit : ∀ i, i < items.size → ∃ x t, items[i]? = some (.str x t) ∧ xs[i]? = some x ∧ x.length ≤ sizeLine)
    (n1 : I ≠ LI) (n2 : T ≠ LI) (n3 : l ≠ LI) (hn : items.size ≤ sizeLine)
    (hQ : ∀ s' acc, Moved [LI] Eq s s' → ItemsOf (fun i v => ∃ x t, xs[i]? = some x ∧ v = .str (Txt.strip x) t) acc items.size → Q acc.toList s') : StarOf (model prog w) A E (.ref I) Q s := by
  have hTy : s.TypeIs (.ref I) "map" := ⟨_, hI, rfl⟩
  unfold StarOf notIterableAtAll
  refine wpAny_bind (wpAny_specialOf hTy slot_map_iter.lookup (wpAny_pure ⟨rfl, ?_⟩))
  refine collect_map (walks_map (A := A.in1) (xs := xs) hh hit n1 n2 n3) (fun i s h => ⟨_, h.1, rfl⟩) ⟨hI, hT, hLI, hl⟩ (fun b hb => ?_) (.head _) hQ hn
  obtain ⟨_, hl', _⟩ := hl
  obtain ⟨_, hLI', _⟩ := hLI
  simp only [List.mem_cons, List.not_mem_nil, or_false] at hb
  rcases hb with rfl | rfl | rfl | rfl
  · exact Heap.lt_size hI
  · exact Heap.lt_size hT
  · exact Heap.lt_size hLI'
  · exact Heap.lt_size hl'
end
theorem acc_two {P : Nat → Value → Prop} {acc : Array Value} (h : ItemsOf P acc 2) : ∃ v0 v1, acc.toList = [v0, v1] ∧ P 0 v0 ∧ P 1 v1 := by
  obtain ⟨l⟩ := acc
  obtain ⟨h1, h2⟩ := h
  replace h1 : l.length = 2 := h1
  revert h2
  apply cons_of h1; intro v0 r h1
  apply cons_of h1; intro v1 r h1
  apply nil_of h1; intro h2
  exact ⟨v0, v1, rfl, h2 0 v0 rfl, h2 1 v1 rfl⟩
theorem acc_one {P : Nat → Value → Prop} {acc : Array Value} (h : ItemsOf P acc 1) : ∃ v0, acc.toList = [v0] ∧ P 0 v0 := by
  obtain ⟨l⟩ := acc
  obtain ⟨h1, h2⟩ := h
  replace h1 : l.length = 1 := h1
  revert h2
  apply cons_of h1; intro v0 r h1
  apply nil_of h1; intro h2
  exact ⟨v0, rfl, h2 0 v0 rfl⟩
end
section
structure PairCls (M : Model) (h : Heap) : Prop where
  obj : ∃ oc od cd sl, h.get? 203 = some ⟨oc, od, .cls cd, sl⟩ ∧ cd.abstract = false ∧ cd.hasDel = false ∧ cd.mro = [Value.ref 203, Value.ref 180, Value.type "tuple", Value.type "object"] ∧ cd.hasDict = true
  made : Looks M h (Bind.madeBy (.ref 203)) none
  self : Looks M h (isSubtype (.ref 203) (.ref 203)) true
  call : Looks M h (specialOf (.ref 203) "__call__") (some (.builtin "type.__call__"))
  typ : Looks M h (isInstance (.ref 203) (.type "type")) true
  init : Looks M h (typeLookup (.ref 203) "__init__") (some (.builtin "object.__init__"))
  tup : Looks M h (isSubtype (.ref 203) (.type "tuple")) true
  new : Looks M h (typeLookup (.ref 203) "__new__") (some (.ref 181))
  ob : Looks M h (isSubtype (.ref 203) (.type "object")) true
theorem PairCls.keeps {M : Model} {h h' : Heap} (Y : PairCls M h) (k : ∀ b o, h.get? b = some o → h'.get? b = some o) : PairCls M h' := by
  refine hide fun G kG => ?_
  obtain ⟨⟨oc, od, cd, sl, hC, e⟩, a1, a2, a3, a4, a5, a6, a7, a8⟩ := Y
  refine kG ?_
  exact ⟨⟨oc, od, cd, sl, k _ _ hC, e⟩, a1.keeps k, a2.keeps k, a3.keeps k, a4.keeps k, a5.keeps k, a6.keeps k, a7.keeps k, a8.keeps k⟩
theorem pairBase {w : World} {h : Heap} (X : (hd.heap_39 w.params).In h) : Looks (model Challenge.rw_in0190_01.row.prog w) h (Bind.staticBase (.ref 203)) (.type "tuple") := by
  revert X; k_fill; intro X
  have hc : clsIn (hd.heap_39 w.params) 203 = some _ := rfl
  have hm : Looks (model Challenge.rw_in0190_01.row.prog w) h (mroOf (.ref 203)) [Value.ref 203, Value.ref 180, Value.type "tuple", Value.type "object"] := (looks_clsIn X hc).andThen .now
  have made : Looks (model Challenge.rw_in0190_01.row.prog w) h (Bind.madeBy (.ref 203)) none := by
    intro A Q E s k q
    unfold Bind.madeBy
    refine wpAny_bind (hm A _ E s k ?_)
    rw [List.forIn_cons]
    refine wpAny_bind (wpAny_bind (wpAny_bind (wpAny_bind (wpAny_loadPart (k _ _ (X 203 _ rfl)) (wpAny_pure ?_)))))
    dsimp only
    exact wpAny_pure (wpAny_pure (wpAny_pure q))
  have hm2 : Looks (model Challenge.rw_in0190_01.row.prog w) h (mroOf (.ref 180)) [Value.ref 180, Value.type "tuple", Value.type "object"] := (looks_clsIn X (show clsIn (hd.heap_39 w.params) 180 = some _ from rfl)).andThen .now
  have made2 : Looks (model Challenge.rw_in0190_01.row.prog w) h (Bind.madeBy (.ref 180)) none := by
    intro A Q E s k q
    unfold Bind.madeBy
    refine wpAny_bind (hm2 A _ E s k ?_)
    rw [List.forIn_cons]
    refine wpAny_bind (wpAny_bind (wpAny_bind (wpAny_bind (wpAny_loadPart (k _ _ (X 180 _ rfl)) (wpAny_pure ?_)))))
    dsimp only
    exact wpAny_pure (wpAny_pure (wpAny_pure q))
  have made3 : Looks (model Challenge.rw_in0190_01.row.prog w) h (Bind.madeBy (.type "tuple")) (some "tuple.__new__") := Looks.of_pure (madeBy_type (c := .type "tuple") (tl := [.type "object"]) (by rw [mroOf_type]; kernel_rfl) (by rw [typeLookup_type, builtinLookup_eq_fast]; kernel_rfl) (by decide +kernel))
  have c1 : Looks (model Challenge.rw_in0190_01.row.prog w) h (classData 203) _ := looks_clsIn X hc
  have c2 : Looks (model Challenge.rw_in0190_01.row.prog w) h (classData 180) _ := looks_clsIn X (show clsIn (hd.heap_39 w.params) 180 = some _ from rfl)
  intro A Q E s k q
  have made' := made.keeps k
  have made2' := made2.keeps k
  have made3' := made3.keeps k
  have c1' := c1.keeps k
  have c2' := c2.keeps k
  unfold Bind.staticBase
  refine wpAny_bind (hm A _ E s k ?_)
  rw [List.forIn_cons]
  refine hide fun G kG => ?_
  obtain ⟨hh, g, d, t, os⟩ := s
  refine kG ?_
  have X' := X.keeps k
  have o1 := X' 203 _ rfl
  have o2 := X' 180 _ rfl
  repeat (first | (with_reducible refine' wpAny_ite_false ?c0 ?_; (case c0 => (simp only [Bool.false_eq_true, if_false, List.forIn_cons, List.forIn_nil, decide_false]))) | (with_reducible refine' wpAny_ite_true ?c0 ?_; (case c0 => (simp only [Bool.false_eq_true, if_false, List.forIn_cons, List.forIn_nil, decide_true]))) | lk | simp only [Bool.false_eq_true, if_false, List.forIn_cons, List.forIn_nil])
  exact q
theorem pairCls {M : Model} {w : World} {h : Heap} (hM : M = model Challenge.rw_in0190_01.row.prog w) (X : (hd.heap_39 w.params).In h) : PairCls M h := by
  subst hM
  revert X; k_fill; intro X
  have hc : clsIn (hd.heap_39 w.params) 203 = some _ := rfl
  have hm : Looks (model Challenge.rw_in0190_01.row.prog w) h (mroOf (.ref 203)) [Value.ref 203, Value.ref 180, Value.type "tuple", Value.type "object"] := (looks_clsIn X hc).andThen .now
  have nw : Looks (model Challenge.rw_in0190_01.row.prog w) h (typeLookup (.ref 203) "__new__") (some (.ref 181)) := looks_findIn X (by k_is)
  refine ⟨⟨_, _, _, _, X 203 _ rfl, rfl, rfl, rfl, rfl⟩, ?_, looks_mroIn X (by k_is), looks_specialIn X (by k_is), looks_instIn X (by k_is), looks_findIn X (by k_is), looks_mroIn X (by k_is), nw, looks_mroIn X (by k_is)⟩
  intro A Q E s k q
  unfold Bind.madeBy
  refine wpAny_bind (hm A _ E s k ?_)
  rw [List.forIn_cons]
  refine wpAny_bind (wpAny_bind (wpAny_bind (wpAny_bind (wpAny_loadPart (k _ _ (X 203 _ rfl)) (wpAny_pure ?_)))))
  dsimp only
  exact wpAny_pure (wpAny_pure (wpAny_pure q))
theorem oi_args (a : Value) (rest : List Value) : argsOk "object.__init__" ⟨a :: rest, []⟩ := by unfold argsOk; rw [PySem.W.Fast.signatureY_eq]; kernel_rfl
section
variable {prog : Program} {w : World} {A : Around} {R : Result → Shared → Prop} {h : Heap} {g : Array GenState} {d : Drawn} {t : Nat} {os : OsState}
theorem call_pair {v0 : Value} {rest : List Value} (Y : PairCls (model prog w) h)
    (hq : wpAny (model prog w) (A.under (.builtin "type.__call__" ⟨.ref 203 :: v0 :: rest, []⟩)) (getAttr (.ref 203) "__new__") (fun v s₁ => wpAny (model prog w) (A.under (.builtin "type.__call__" ⟨.ref 203 :: v0 :: rest, []⟩)) (call v (.ref 203 :: v0 :: rest)) (fun o s₂ => ∃ p oo, o = .ref p ∧ PairCls (model prog w) s₂.heap ∧ s₂.heap.get? p = some oo ∧ oo.cls = .ref 203 ∧ R (.ok (.ret (.ref p))) s₂) (fun e s₂ => R (.error e) s₂) s₁) (fun _ _ => False) ⟨h, g, d, t, os⟩) :
    codeAny (model prog w) A (.call (.ref 203) ⟨v0 :: rest, []⟩) R ⟨h, g, d, t, os⟩ := by
  refine hide fun G kG => ?_
  obtain ⟨⟨oc, odd, cd, sl, hC, e1, e2, e4, e5⟩, made, self, call, typ, init, tup, new⟩ := Y
  refine kG ?_
  refine codeAny_of_tree ?_
  show wpAny _ _ (callAny (.ref 203) _) _ _ _
  refine nd_load hC ?_
  show wpAny _ _ (callAny.viaDunder (.ref 203) _) _ _ _
  unfold callAny.viaDunder
  refine wpAny_bind (call.at ?_)
  dsimp only
  rw [tc_bind]
  refine wpAny_bind (wpAny_pure (wpAny_bind (wpAny_pure ?_)))
  refine wpAny_pure (a := Fin.again (.call (.builtin "type.__call__") ⟨.ref 203 :: v0 :: rest, []⟩)) (And.intro rfl ?_)
  refine codeAny_call_builtin_at (Code.quiet_builtin _ (by decide +kernel)) entry_typeCall (check_slot tc_kind tc_split typ (tc_args _ _ _) ?_)
  unfold Builtin.«type.__call__»
  have hm : Looks (model prog w) h (mroOf (.ref 203)) [Value.ref 203, Value.ref 180, Value.type "tuple", Value.type "object"] := e4 ▸ ((Looks.ld (part := none) hC).andThen .now).andThen .now
  repeat ((fail_if_success (with_reducible show wpAny _ _ (getAttr _ _) _ _ _)); first | simp only [Bool.false_eq_true, if_false] | with_reducible refine wpAny_call ?_ | lk)
  refine wpAny_mono hq (fun v s₁ h₁ => ?_) fun _ _ x => x.elim
  refine wpAny_bind (wpAny_holding (wpAny_mono h₁ (fun o s₂ h₂ => ?_) fun _ _ x => x))
  refine hide fun G kG => ?_
  obtain ⟨p, ⟨pc, pd, pdat, psl⟩, rfl, Y2, hp, hpc, hR⟩ := h₂
  refine kG ?_
  dsimp only at hpc
  subst hpc
  refine hide fun G kG => ?_
  obtain ⟨h2, g2, d2, t2, os2⟩ := s₂
  refine kG ?_
  dsimp only at Y2 hp
  refine hide fun G kG => ?_
  obtain ⟨⟨oc2, odd2, cd2, sl2, hC2, f1, f2, f4, f5⟩, made2, self2, call2, typ2, init2, tup2, new2, ob2⟩ := Y2
  refine kG ?_
  have tp : Looks (model prog w) h2 (typeOf (.ref p)) (.ref 203) := (Looks.ld hp).andThen .now
  have ip : Looks (model prog w) h2 (isInstance (.ref p) (.ref 203)) true := tp.andThen self2
  have io : Looks (model prog w) h2 (isInstance (.ref p) (.type "object")) true := tp.andThen ob2
  have b2 : Looks (model prog w) h2 (bindSpecial (.builtin "object.__init__") (.ref p)) (.builtin "object.__init__", [.ref p]) := Looks.of_pure (PySem.W.oi_bind _)
  unfold callSpecial? specialOf
  repeat ((fail_if_success (with_reducible show wpAny _ _ (PySem.call _ _ _) _ _ _)); first | simp only [Bool.false_eq_true, if_false, Bool.not_true] | lk)
  refine wpAny_call (codeAny_call_builtin (by decide +kernel) F.entry_object_init (@check_any (model prog w) _ _ _ "object.__init__" "object" "__init__" (.ref p) (v0 :: rest) [] _ (.inr (by decide +kernel)) (by decide +kernel) io (oi_args _ _) ?_))
  unfold Builtin.«object.__init__»
  repeat (first | (with_reducible refine' wpAny_ite_false ?c0 ?_; (case c0 => (simp only [Bool.false_eq_true, if_false, Bool.not_true, decide_false]))) | (with_reducible refine' wpAny_ite_true ?c0 ?_; (case c0 => (simp only [Bool.false_eq_true, if_false, Bool.not_true, decide_true]))) | lk | simp only [Bool.false_eq_true, if_false, Bool.not_true])
  exact hR
end
end
section
theorem tn_kind : builtinKind "tuple.__new__" = some .builtinFn := by rw [builtinKind_eq_fast]; decide +kernel
theorem tn_split : splitId "tuple.__new__" = some ("tuple", "__new__") := by decide +kernel
section
variable {prog : Program} {w : World} {A : Around} {R : Result → Shared → Prop} {h : Heap} {g : Array GenState} {d : Drawn} {t : Nat} {os : OsState}
theorem tn_made : Bind.madeBy (.type "tuple") = pure (some "tuple.__new__") := madeBy_type (c := .type "tuple") (tl := [.type "object"]) (by rw [mroOf_type]; kernel_rfl) (by rw [typeLookup_type, builtinLookup_eq_fast]; kernel_rfl) (by decide +kernel)
noncomputable def pairObj (dx : Addr) (v0 v1 : Value) : Obj := { cls := .ref 203, dict := some dx, data := .seq #[v0, v1] }
theorem tuple_new {T : Addr} {v0 v1 : Value} (Y : PairCls (model prog w) h) (base : Looks (model prog w) h (Bind.staticBase (.ref 203)) (.type "tuple")) (hT : h.get? T = some { cls := .type "tuple", data := .seq #[v0, v1] })
    (hq : ∀ h' dx, h'.get? dx = some emptyDict → h'.get? (dx + 1) = some (pairObj dx v0 v1) → (∀ a o, h.get? a = some o → a < dx) → (∀ a o, h.get? a = some o → h'.get? a = some o) → R (.ok (.ret (.ref (dx + 1)))) ⟨h', g, d, t, os⟩) :
    codeAny (model prog w) A (.call (.builtin "tuple.__new__") ⟨[.ref 203, .ref T], []⟩) R ⟨h, g, d, t, os⟩ := by
  refine hide fun G kG => ?_
  obtain ⟨⟨oc, odd, cd, sl, hC, e1, e2, e4, e5⟩, made, self, call, typ, init, tup, new, ob⟩ := Y
  refine kG ?_
  refine codeAny_call_builtin_code (Code.quiet_builtin _ (by decide +kernel)) ?_
  simp only [checkBuiltinCall, tn_kind, tn_split]
  have here : Looks (model prog w) h (Bind.madeHere "tuple.__new__" (.ref 203)) () := base.andThen ((Looks.of_pure tn_made).andThen (Looks.of_pure (by simp only [Option.map_some, bne_self_eq_false, Bool.false_eq_true, if_false])))
  have tmade : Looks (model prog w) h (Bind.madeBy (.type "tuple")) (some "tuple.__new__") := Looks.of_pure tn_made
  have tcan : (Manifest.canonical "tuple.__new__" != Manifest.canonical "tuple.__new__") = false := by simp only [bne_self_eq_false]
  repeat ((fail_if_success (with_reducible show wpAny _ _ (Bind.madeHere _ _) _ _ _)); (first | simp -iota only [tcan, bne_self_eq_false, Bool.false_eq_true, if_false] | dsimp only | lk))
  refine codeAny_builtin PySem.F.entry_tuple_new ?_
  unfold Builtin.«tuple.__new__»
  repeat ((fail_if_success (with_reducible show wpAny _ _ (collect _) _ _ _)); (first | simp -iota only [tcan, bne_self_eq_false, Bool.false_eq_true, if_false] | dsimp only | lk))
  refine wpAny_collect_seq T (.inr rfl) hT rfl rfl (fun h' k => ?_) (by show 2 ≤ sizeLine; rw [sizeLine_eq]; decide)
  have hC1 := k _ _ hC
  have hC2 := Heap.get?_push_of_some emptyDict hC1
  have hC3 := Heap.get?_push_of_some (pairObj h'.objs.size v0 v1) hC2
  refine hide fun G kG => ?_
  obtain ⟨c1, c2, c3, c4, c5, c6, c7, c8, c9, c10, c11⟩ := cd
  refine kG ?_
  dsimp only at e1 e2 e4 e5
  subst e1 e2 e4 e5
  repeat (first | simp -iota only [tcan, bne_self_eq_false, Bool.false_eq_true, if_false] | dsimp only | lk)
  show R _ _
  rw [Heap.size_push]
  exact hq _ _ (Heap.get?_push_of_some _ (Heap.get?_push_size _ rfl)) (Heap.get?_push_at (by rw [Heap.size_push]) rfl) (fun a o e => Heap.lt_size (k _ _ e)) fun a o e => Heap.get?_push_of_some _ (Heap.get?_push_of_some _ (k _ _ e))
end
end
section
theorem pair_two (w : World) (mean : ExcName → Option Value) (mg mb : Str → Option Value) (x a b : Str) (tx : Tok) (news : CbLed)
   (dp un : Nat) (gd : Option (List Code)) (cn : Str) (cs : Scope) (a0 : Addr) (ccd : Value) (cl : List (Str × Addr)) (outer : List Env) (A₀ : Around) (base h₀ : Heap) (L : Addr) (m : Str → Option Value) (s : Shared) (Q E : Value → Shared → Prop)
   (B : Below A₀ base outer h₀) (F : Fr h₀ L s.heap m) (X : (hd.heap_39 w.params).In h₀) (N : News h₀ L s.heap news) (T : Top topProg looseL mean mg mb h₀)
   (hk : cs.kind = .function) (hdp : dp + 4 < recursionLimit) (hu : un + 24 < cLine) (hx : Txt.splitMax x (Str.ofString "=") 1 = [a, b]) (hz : x.length + 2 ≤ sizeLine)
   (hret : ∀ (p dx : Nat) (t0 t1 : Tok) (h' : Heap) (tk' : Nat), (∀ q ∈ news, @LT.lt Nat _ q.1 dx) → p = dx + 1 → Fr h₀ L h' m → News h₀ L h' ((p, pairObj dx (.str (Txt.strip a) t0) (.str (Txt.strip b) t1)) :: (dx, emptyDict) :: news) → Q (.ref p) { s with heap := h', toks := tk' }) :
   wpAny (model Challenge.rw_in0190_01.row.prog w) (ktrTop dp un gd cn cs L a0 ccd cl outer) (call (.ref 272) [.str x tx]) Q E s := by
  have X0 := X
  revert X; k_fill; intro X
  (refine wpAny_call ?_; refine' enterP ?k1 ?k2 ?k3 ?k4 ?k5 ?kA ?kF ?kK ?k6 ?k7 ?k8 ?k9 ?kB ?_ ?c2 ?c3 ?c4 ?c5; (case kA | kF => exact rfl); (case kK => assumption); (case k1 | k2 => k_asm); (case k3 | k4 | k5 => k_asm); (case k6 | k7 => k_is); (case k8 => ktr_room); (case k9 => exact BindsTo.of_eq rfl); (case c5 => decide); (case kB => exact locs rfl); (case c2 | c3 | c4 => exact rfl); k_whole; intro g' L' h' FG' F' N' B' X' T' hLow; have l1 := hLow.all; (repeat (replace hLow := low_tail hLow)); (try k_lt l1); (try dsimp only); (try k_lift B'); (try k_fold))
  repeat' (first | (k_unfold; try dsimp only) | (k_end; kc_close) | (walk1; all_goals ((try k_fold); (try dsimp only); try with_reducible refine wpAny_tk fun _ => ?_)) | (dsimp only; walk1) | (leave1; try dsimp only))
  refine call_meth (by k_asm) (by k_mem) ?_
  (refine' enterP ?k1 ?k2 ?k3 ?k4 ?k5 ?kA ?kF ?kK ?k6 ?k7 ?k8 ?k9 ?kB ?_ ?c2 ?c3 ?c4 ?c5; (case kA | kF | kK => exact rfl); (case k1 | k2 => k_asm); (case k3 | k4 | k5 => k_asm); (case k6 | k7 => k_is); (case k8 => ktr_room); (case k9 => exact BindsTo.of_eq rfl); (case c5 => decide); (case kB => exact locs rfl); (case c2 | c3 | c4 => exact rfl); k_whole; intro g' L' h' FG' F' N' B' X' T' hLow; have l1 := hLow.all; (repeat (replace hLow := low_tail hLow)); (try k_lt l1); (try dsimp only); (try k_lift B'); (try k_fold))
  repeat' (first | (k_unfold; try dsimp only) | (k_end; kc_close) | (walk1; all_goals ((try k_fold); (try dsimp only); try with_reducible refine wpAny_tk fun _ => ?_)) | (dsimp only; walk1) | (leave1; try dsimp only))
  refine getAttr_strip fun t9 => ?_
  repeat' (first | (k_unfold; try dsimp only) | (k_end; kc_close) | (walk1; all_goals ((try k_fold); (try dsimp only); try with_reducible refine wpAny_tk fun _ => ?_)) | (dsimp only; walk1) | (leave1; try dsimp only))
  rename_i l h1 tk1 e1 e2 e3 e4 F1 N1
  rw [hx] at e1
  obtain ⟨ta, l1, rfl, e5⟩ := KSpl.cons_of e1
  obtain ⟨tb, l2, rfl, e6⟩ := KSpl.cons_of e5
  obtain rfl := KSpl.nil_of e6
  have hLow2 : ∀ p ∈ news, p.1 < h'.objs.size := fun p hp => Heap.lt_size ((by assumption : News g' L' h' ((_, _) :: news)) p (.tail _ hp)).1
  generalize h'.objs.size = li at *
  have hli := (N1 _ (.head _)).1
  refine call_map (items := #[.str a ta, .str b tb]) (n := 0) hli fun h2 m1 m2 m3 k2 => ?_
  have F2 := PyProof.Rows.Fr.keeps F1 k2
  have N2 := PyProof.Rows.News.keepsAll N1 k2
  have hlt : li < h1.objs.size := Heap.lt_size hli
  refine star_map (items := #[.str a ta, .str b tb]) (xs := [a, b]) rfl m3 m2 ⟨_, m1, rfl, rfl⟩ ⟨_, k2 _ _ hli, rfl, 0, rfl⟩ (fun i hi => ?_) (Nat.ne_of_gt (by omega)) (Nat.ne_of_gt (by omega)) (Nat.ne_of_lt hlt) (by show 2 ≤ sizeLine; rw [sizeLine_eq]; decide) fun s4 acc hm hacc => ?_
  · rcases i with _ | _ | i
    · exact ⟨a, ta, rfl, rfl, Nat.le_trans (e3 a (.head _)) (by omega)⟩
    · exact ⟨b, tb, rfl, rfl, Nat.le_trans (e3 b (.tail _ (.head _))) (by omega)⟩
    · exact absurd (show i + 1 + 1 < 2 from hi) (by omega)
  obtain ⟨v0, v1, ev, ⟨x0, t0, ex0, rfl⟩, ⟨x1, t1, ex1, rfl⟩⟩ := acc_two hacc
  rw [ev]
  obtain rfl : a = x0 := Option.some.inj ex0
  obtain rfl : b = x1 := Option.some.inj ex1
  obtain ⟨h4, g4, d4, tk4, os4⟩ := s4
  obtain ⟨q1, q2, q3, q4, q5⟩ := hm
  dsimp only at q1 q2 q3 q4 q5
  subst q2 q3 q4
  have k14 : ∀ b o, h1.get? b = some o → h4.get? b = some o := fun b o e => q1 b o (fun q => absurd (Heap.lt_size e) (by rw [List.mem_singleton.mp q]; exact Nat.lt_irrefl _)) (k2 b o e)
  have F4 := PyProof.Rows.Fr.keeps F1 k14
  have N4 := PyProof.Rows.News.keepsAll N1 k14
  have X4 := X'.keeps F4.keep
  have XP := X'
  refine ⟨X4, ?_⟩
  refine wpAny_call (call_pair (pairCls rfl X4) ?_)
  walk1
  refine wpAny_call ?_
  (refine' enterP ?k1 ?k2 ?k3 ?k4 ?k5 ?kA ?kF ?kK ?k6 ?k7 ?k8 ?k9 ?kB ?_ ?c2 ?c3 ?c4 ?c5; (case kA | kF | kK => exact rfl); (case k1 | k2 => k_asm); (case k3 | k4 | k5 => k_asm); (case k6 | k7 => k_is); (case k8 => ktr_room); (case k9 => exact BindsTo.of_eq rfl); (case c5 => decide); (case kB => exact locs rfl); (case c2 | c3 | c4 => exact rfl); k_whole; intro g' L' h' FG' F' N' B' X' T' hLow; have l1 := hLow.all; (repeat (replace hLow := low_tail hLow)); (try k_lt l1); (try dsimp only); (try k_lift B'); (try k_fold))
  repeat' (first | (k_unfold; try dsimp only) | (k_end; kc_close) | (walk1; all_goals ((try k_fold); (try dsimp only); try with_reducible refine wpAny_tk fun _ => ?_)) | (dsimp only; walk1) | (leave1; try dsimp only))
  refine getMethod_tnew fun t9 => ?_
  repeat' (first | (k_unfold; try dsimp only) | (k_end; kc_close) | (walk1; all_goals ((try k_fold); (try dsimp only); try with_reducible refine wpAny_tk fun _ => ?_)) | (dsimp only; walk1) | (leave1; try dsimp only))
  rename_i D h6 F6 N6 l6
  have X6 := X'.keeps F6.keep
  refine wpAny_call (tuple_new (pairCls rfl X6) (pairBase X6) (N6 _ (.head _)).1 fun h7 dx u1 u2 u3 k7 => ?_)
  have F7 := PyProof.Rows.Fr.keeps F6 k7
  have N7 := news_add F6 (news_fresh F6 (PySem.W.KStt.news_of N6 fun p hp => .tail _ hp) k7 u1 u3) u2 fun a o e => Nat.lt_succ_of_lt (u3 a o e)
  refine leaveK_ F7 N7 fun Fz Nz => ⟨_, _, rfl, pairCls rfl (XP.keeps Fz.keep), (Nz _ (.head _)).1, rfl, ?_⟩
  refine leaveK_ Fz Nz fun Fy Ny => leaveK_ Fy Ny fun Fx Nx => ?_
  refine hret (dx + 1) dx t0 t1 _ _ (fun q hq => u3 _ _ (N6 _ (.tail _ (.tail _ (.tail _ hq)))).1) rfl Fx (PySem.W.KStt.news_of Nx fun p hp => ?_)
  rcases List.mem_cons.mp hp with rfl | hp
  · exact .head _
  · rcases List.mem_cons.mp hp with rfl | hp
    · exact .tail _ (.head _)
    · exact .tail _ (.tail _ (.tail _ (.tail _ hp)))
end
section
noncomputable def numF (v : Str) : Int := List.foldl (fun T a => T * 8 + Txt.find (Str.ofString "01234567") a) 0 (signs v)
theorem num_claim (w : World) (mean : ExcName → Option Value) (mg mb : Str → Option Value) (news : CbLed) (v : Str) (t : Tok) : Claim w mean mg mb 279 news (v.length ≤ 6) [.str v t] (fun t => .int (numF v) t) := by
  dsimp only [Claim, CbClaim, CbLists, CbRet]
  k_fill
  intros
  rename_i hret
  (refine wpAny_call ?_; refine' enterP ?k1 ?k2 ?k3 ?k4 ?k5 ?kA ?kF ?kK ?k6 ?k7 ?k8 ?k9 ?kB ?_ ?c2 ?c3 ?c4 ?c5; (case kA | kF => exact rfl); (case kK => assumption); (case k1 | k2 => k_asm); (case k3 | k4 | k5 => k_asm); (case k6 | k7 => k_is); (case k8 => ktr_room); (case k9 => exact BindsTo.of_eq rfl); (case c5 => decide); (case kB => exact locs rfl); (case c2 | c3 | c4 => exact rfl); k_whole; intro g' L' h' FG' F' N' B' X' T' hLow; have l1 := hLow.all; (repeat (replace hLow := low_tail hLow)); (try k_lt l1); (try dsimp only); (try k_lift B'); (try k_fold))
  repeat' (first | (k_unfold; try dsimp only) | (k_end; kc_close) | (walk1; all_goals ((try k_fold); (try dsimp only); try with_reducible refine wpAny_tk fun _ => ?_)) | (dsimp only; walk1) | (leave1; try dsimp only))
  all_goals cb_end hret
end
section
inductive TurnEnd (h₀ : Heap) (L I : Addr) (oI : Obj) (J : (Str → Option Value) → List (Addr × Obj) → Prop) (s₁ s' : Shared) : Prop
  | mk (h' : Heap) (tk : Nat) (m' : Str → Option Value) (news' : List (Addr × Obj)) (x1 : s' = { s₁ with heap := h', toks := tk }) (x2 : Fr h₀ L h' m') (x3 : News h₀ L h' ((I, oI) :: news')) (x4 : ∀ p ∈ news', p.1 ≠ I) (x5 : J m' news') : TurnEnd h₀ L I oI J s₁ s'
noncomputable def TurnPost (h₀ : Heap) (L I : Addr) (oI : Obj) (J : (Str → Option Value) → List (Addr × Obj) → Prop) (Q : Flow → Shared → Prop) (s₁ : Shared) (f : Flow) (s' : Shared) : Prop := match f with
  | .next | .cont => TurnEnd h₀ L I oI J s₁ s'
  | .brk => Q .next s'
  | .ret v => Q (.ret v) s'
inductive ForSrc (prog : Program) (w : World) (A : Around) (h₀ : Heap) (L : Addr) (env : Env) (x : Str) (body orelse : List Stmt) (Q : Flow → Shared → Prop) (it : Value) (s₂ : Shared) : Prop
  | mk (I : Addr) (fp : List Addr) (n : Nat) (P : Nat → Value → Prop) (St : Nat → Heap → Prop) (S : List (Addr × Obj) → Prop) (m : Str → Option Value) (news : List (Addr × Obj)) (J : Nat → (Str → Option Value) → List (Addr × Obj) → Prop) (x1 : it = .ref I) (x2 : Walks prog w A I fp [I] n P St) (x3 : ∀ i h, St i h → ∃ o, h.get? I = some o) (x4 : ∀ i h h' o nw, St i h → h.get? I = some o → h'.get? I = some o → (∀ b o, h₀.get? b = some o → h'.get? b = some o) → News h₀ L h' nw → S nw → St i h') (x5 : St 0 s₂.heap) (x6 : L ∉ fp) (x7 : h₀.get? I = none) (x8 : Fr h₀ L s₂.heap m) (x9 : News h₀ L s₂.heap news) (x10 : ∀ p ∈ news, p.1 ≠ I) (x11 : J 0 m news) (x12 : ∀ i m nw, J i m nw → S nw) (x13 : ∀ i v oI m₁ news₁ h tk, i < n → P i v → J i m₁ news₁ → Fr h₀ L h (fun y => if y = x then some v else m₁ y) → News h₀ L h ((I, oI) :: news₁) → (∀ p ∈ news₁, p.1 ≠ I) →       wpAny (model prog w) A (execs body env) (TurnPost h₀ L I oI (J (i + 1)) Q { s₂ with heap := h, toks := tk }) (fun _ _ => False) { s₂ with heap := h, toks := tk }) (x14 : ∀ m₁ news₁ h tk, J n m₁ news₁ → Fr h₀ L h m₁ → News h₀ L h news₁ → wpAny (model prog w) A (execs orelse env) Q (fun _ _ => False) { s₂ with heap := h, toks := tk }) : ForSrc prog w A h₀ L env x body orelse Q it s₂
inductive InvK (s₂ : Shared) (h₀ : Heap) (L I : Addr) (n : Nat) (St : Nat → Heap → Prop) (J : Nat → (Str → Option Value) → List (Addr × Obj) → Prop) (k : Nat) (s' : Shared) : Prop
  | mk (i : Nat) (h : Heap) (tk : Nat) (m₁ : Str → Option Value) (news₁ : List (Addr × Obj)) (x1 : i ≤ n) (x2 : k = n - i) (x3 : s' = { s₂ with heap := h, toks := tk }) (x4 : St i h) (x5 : Fr h₀ L h m₁) (x6 : News h₀ L h news₁) (x7 : ∀ p ∈ news₁, p.1 ≠ I) (x8 : J i m₁ news₁) : InvK s₂ h₀ L I n St J k s'
section
variable {prog : Program} {w : World} {A : Around} {E : Value → Shared → Prop} {s : Shared} {h₀ : Heap} {L : Addr} {m : Str → Option Value} {env : Env}
theorem forK {x : Str} {px pos : Pos} {iter : PySem.Expr} {body orelse : List Stmt} {Q : Flow → Shared → Prop} (kF₀ : Fr h₀ L s.heap m) (hLe : env.locals = L) (hx : env.kindOf x = some .local) (hp : (env.scope.kind == .class || (env.scope.kind == .module && env.locals != env.globals)) = false)
    (h : wpAny (model prog w) A (eval iter env) (fun xv s₁ => wpAny (model prog w) A (pyIter xv) (ForSrc prog w A h₀ L env x body orelse Q) E s₁) E s)
    (hs : ∀ x, foldedSetIterable iter env x = pure x := by intro _; rfl) : wpAny (model prog w) A (exec (.For (.Name x px) iter body orelse pos) env) Q E s := by
  subst hLe
  refine wpAny_ForI (wpAny_mono h (fun xv s₁ h₁ => wpAny_mono h₁ (fun it s₂ h₂ => ?_) fun _ _ x => x) fun _ _ x => x) hs
  refine hide fun G kG => ?_
  obtain ⟨I, fp, n, P, St, S, m, news, J, rfl, W, hIo, hSt, hst, hLf, hI₀, F, N, off, hJ, hS, turn, done⟩ := h₂
  refine kG ?_
  refine ⟨fun k s' => InvK s₂ h₀ env.locals I n St J k s', n,
    ⟨0, s₂.heap, s₂.toks, m, news, Nat.zero_le _, rfl, rfl, hst, F, N, off, hJ⟩, ?_⟩
  intro k s' hx2
  refine hide fun G kG => ?_
  obtain ⟨i, h, tk, m₁, news₁, hi, rfl, rfl, hst', F', N', off', hJ'⟩ := hx2
  refine kG ?_
  have hLI : env.locals ≠ I := fun q => hLf (q ▸ W.sub I (List.mem_singleton.mpr rfl))
  by_cases hlt : i < n
  · refine W.item i _ _ _ hlt hst' fun v h₁ tk₁ hv hst₁ hk₁ => ?_
    dsimp only
    refine wpAny_pure ?_
    refine wpAny_assign_Name (wpAny_storeName_local hx (F'.ns.at' fun o e => hk₁ _ o (by simpa using hLI) e) (fun h₂ hn₂ hs₂ => ?_) hp)
    have hst₂ : St (i + 1) h₂ := W.frame _ _ _ hst₁ fun b hb o e => hs₂.extBut b o (fun q => hLf (by have q' : b = env.locals := q; exact q' ▸ hb)) e
    refine hide fun G kG => ?_
    obtain ⟨oI, heI⟩ := hIo _ _ hst₂
    refine kG ?_
    have hL₀ : h₀.get? env.locals = none := Heap.get?_none_of_le F'.above
    have k₂ : ∀ b o, b ≠ I → b ≠ env.locals → h.get? b = some o → h₂.get? b = some o := fun b o h1 h2 e => hs₂.extBut b o h2 (hk₁ b o (by simpa using h1) e)
    have F₂ : Fr h₀ env.locals h₂ (fun y => if y = x then some v else m₁ y) := ⟨hn₂, fun b o e => k₂ b o (fun q => by rw [q, hI₀] at e; cases e) (fun q => by rw [q, hL₀] at e; cases e) (F'.keep b o e), F'.above⟩
    have N₂ : News h₀ env.locals h₂ ((I, oI) :: news₁) := fun p hp => by
      rcases List.mem_cons.mp hp with rfl | hp
      · exact ⟨heI, Ne.symm hLI, hI₀⟩
      · exact ⟨k₂ _ _ (off' p hp) (N' p hp).2.1 (N' p hp).1, (N' p hp).2⟩
    refine wpAny_mono (turn i v oI m₁ news₁ h₂ _ hlt hv hJ' F₂ N₂ off') (fun f s₄ h₄ => ?_) fun _ _ z => z
    have fin : TurnEnd h₀ env.locals I oI (J (i + 1)) { s₂ with heap := h₂, toks := tk₁ + 1 } s₄ → ∃ m, m < n - i ∧ InvK s₂ h₀ env.locals I n St J m s₄ := by
      intro hx0
      refine hide fun G kG => ?_
      obtain ⟨h', tk', m', news', rfl, F₅, N₅, off₅, J₅⟩ := hx0
      refine kG ?_
      have N₅' : News h₀ env.locals h' news' := fun p hp => N₅ p (.tail _ hp)
      exact ⟨n - (i + 1), by omega, i + 1, h', tk', m', news', hlt, rfl, rfl, hSt _ _ _ _ _ hst₂ heI (N₅ _ (.head _)).1 F₅.keep N₅' (hS _ _ _ J₅), F₅, N₅', off₅, J₅⟩
    cases f with
    | next => exact fin h₄
    | cont => exact fin h₄
    | brk => exact h₄
    | ret v => exact h₄
  · obtain rfl : i = n := Nat.le_antisymm hi (Nat.not_lt.mp hlt)
    refine W.done _ _ _ hst' fun h₂ tk₂ hk₂ => ?_
    dsimp only
    have k₂ : ∀ b o, b ≠ I → h.get? b = some o → h₂.get? b = some o := fun b o h1 e => hk₂ b o (by simpa using h1) e
    exact done m₁ news₁ h₂ tk₂ hJ' ⟨F'.ns.at' fun o e => k₂ _ o hLI e, fun b o e => k₂ b o (fun q => by rw [q, hI₀] at e; cases e) (F'.keep b o e), F'.above⟩ fun p hp => ⟨k₂ _ _ (off' p hp) (N' p hp).1, (N' p hp).2⟩
end
section
variable {prog : Program} {w : World} {A : Around} {E : Value → Shared → Prop} {s : Shared} {h₀ : Heap} {L : Addr} {m : Str → Option Value} {env : Env} {news : List (Addr × Obj)} {x : Str} {body orelse : List Stmt} {Q : Flow → Shared → Prop}
theorem forSrc_range {r : Addr} {a b : Int} {t u v : Tok} {n : Nat} (J : Nat → (Str → Option Value) → List (Addr × Obj) → Prop) (hh : A.handled = none) (F : Fr h₀ L s.heap m) (N : News h₀ L s.heap news)
    (hr : IsRange s.heap r a b 1 t u v) (hsm : Builtin.Range.small a b 1 = true) (hn : Builtin.Range.rangeSize a b 1 = ((n : Nat) : Int)) (hJ : J 0 m news)
    (turn : ∀ I i t oI m₁ news₁ h tk, i < n → J i m₁ news₁ → Fr h₀ L h (fun y => if y = x then some (.int (a + (i : Nat)) t) else m₁ y) → News h₀ L h ((I, oI) :: news₁) → (∀ p ∈ news₁, p.1 ≠ I) →
      wpAny (model prog w) A (execs body env) (TurnPost h₀ L I oI (J (i + 1)) Q { s with heap := h, toks := tk }) (fun _ _ => False) { s with heap := h, toks := tk })
    (done : ∀ m₁ news₁ h tk, J n m₁ news₁ → Fr h₀ L h m₁ → News h₀ L h news₁ → wpAny (model prog w) A (execs orelse env) Q (fun _ _ => False) { s with heap := h, toks := tk }) :
    wpAny (model prog w) A (pyIter (.ref r)) (ForSrc prog w A h₀ L env x body orelse Q) E s := by
  refine wpAny_pyIter_range hr hsm ?_
  have up : ∀ (o' : Obj) b o, s.heap.get? b = some o → (s.heap.push o').get? b = some o := fun _ b o e => Heap.get?_push_of_some _ e
  refine ⟨s.heap.objs.size, [s.heap.objs.size], n, _, _, fun _ => True, m, news, J, rfl, LCg.range_walks hh a n, fun i h st => ⟨_, st⟩, LCg.range_st, ?_, ?_, next_is_new F, F.keeps (up _), N.grown (up _), PyProof.Rows.News.ne_size N, hJ, fun _ _ _ _ => trivial, ?_, done⟩
  · show IsRangeIter _ _ _ _ _
    rw [hn]
    simpa using Heap.get?_push_size _ rfl
  · intro hm
    exact absurd F.ns.lt ((List.mem_singleton.mp hm) ▸ Nat.lt_irrefl _)
  · intro i v oI m₁ news₁ h tk hi hx8 hj F₁ N₁ off
    refine hide fun G kG => ?_
    obtain ⟨t', rfl⟩ := hx8
    refine kG ?_
    exact turn _ i t' oI m₁ news₁ h tk hi hj F₁ N₁ off
theorem fr_eq {h : Heap} {m' : Str → Option Value} (F : Fr h₀ L h m) (e : ∀ y, m y = m' y) : Fr h₀ L h m' := (funext e : m = m') ▸ F
end
end
section
section
open Builtin
open AutoSeq1 (wpAny_loadPart')
theorem any_b {M : Model} {A : Around} {Q : Bool → Shared → Prop} {E : Value → Shared → Prop} {s : Shared} {b : Bool} (h : ∀ b, Q b s) : wpAny M A (pure b) Q E s := wpAny_pure (h b)
theorem enum_newT (l : Addr) (items : Array Value) (n : Nat) (dct : Option Addr) (sl : Array (Option Value)) :
    Meets (Builtin.«enumerate.__new__» ⟨[.type "enumerate", .ref l], []⟩) (fun _ R s => s.heap.get? l = some { cls := .type "tuple", dict := dct, data := .seq items n, slots := sl } ∧
      R (.ok (.ret (.ref (s.heap.push { cls := .type "tuple_iterator", data := .fields #[.ref l, .int 0 0] }).objs.size)))
        { s with heap := (s.heap.push { cls := .type "tuple_iterator", data := .fields #[.ref l, .int 0 0] }).push { cls := .type "enumerate", data := .fields #[.none, .bool false, .ref s.heap.objs.size, rawInt 0, .none, .none] } }) :=
  .of_wp fun prog w A R s h => by
    refine hide fun G kG => ?_
    obtain ⟨hp, g, d, tk, os⟩ := s
    refine kG ?_
    refine hide fun G kG => ?_
    obtain ⟨hl, h⟩ := h
    refine kG ?_
    have hsub := sub_enumerate
    have hL : Heap.IsTuple (Shared.heap ⟨hp, g, d, tk, os⟩) l items := ⟨_, hl, rfl, n, rfl⟩
    wp_walk using wpAny_loadPart' hl
    refine wpAny_stack_any fun st => any_b fun b => ?_
    cases b <;> (wp_walk using wpAny_loadPart' hl, wpAny_pyIter_tuple hL; exact ⟨_, rfl, h⟩)
end
section
variable {prog : Program} {w : World} {A : Around} {E : Value → Shared → Prop} {s : Shared}
theorem call_enumT {l : Addr} {items : Array Value} {Q : Value → Shared → Prop} (hL : s.heap.IsTuple l items)
    (h : ∀ h', IsEnum h' (s.heap.objs.size + 1) s.heap.objs.size 0 .none → h'.IsTupleIter s.heap.objs.size l 0 → h'.objs.size = s.heap.objs.size + 2 →
      (∀ b o, s.heap.get? b = some o → h'.get? b = some o) → Q (.ref (s.heap.objs.size + 1)) { s with heap := h' }) :
    wpAny (model prog w) A (call (.type "enumerate") [.ref l]) Q E s := by
  refine hide fun G kG => ?_
  obtain ⟨⟨c, dct, dt, sl⟩, hl, hc, n, hd⟩ := hL
  refine kG ?_
  replace hc : c = .type "tuple" := hc
  replace hd : dt = .seq items n := hd
  subst hc hd
  refine callType_new F.called_enumerate (by decide) (F.typeCall_enumerate_1 _) (F.newCall_enumerate_1 _) (fun obj => F.args_object_init_2 obj _) F.entry_enumerate_new (enum_newT l items n dct sl) ⟨hl, ?_⟩
  generalize hH : s.heap.push { cls := .type "tuple_iterator", data := .fields #[.ref l, .int 0 0] } = H
  have hz : H.objs.size = s.heap.objs.size + 1 := by rw [← hH, Heap.size_push]
  show _ ∧ _
  rw [hz]
  have he : IsEnum (H.push { cls := .type "enumerate", data := .fields #[.none, .bool false, .ref s.heap.objs.size, rawInt 0, .none, .none] }) (s.heap.objs.size + 1) s.heap.objs.size 0 .none := by
    have := Heap.get?_push_size H (o := { cls := .type "enumerate", data := .fields #[.none, .bool false, .ref s.heap.objs.size, rawInt 0, .none, .none] }) rfl
    rwa [hz] at this
  exact ⟨⟨_, he, rfl⟩, h _ he ⟨_, Heap.get?_push_of_some _ (hH ▸ Heap.get?_push_size _ rfl), rfl, rfl⟩ (by rw [Heap.size_push, hz]) fun b o x => Heap.get?_push_of_some _ (hH ▸ Heap.get?_push_of_some _ x)⟩
theorem nextT_item {it t : Addr} {i : Nat} {items : Array Value} {x : Value} {Q : Value → Shared → Prop} (hit : s.heap.IsTupleIter it t i) (ht : s.heap.IsTuple t items) (hx : items[i]? = some x)
    (hQ : ∀ h', h'.IsTupleIter it t (i + 1) → Heap.SameBut it s.heap h' → Q x { s with heap := h' }) : wpAny (model prog w) A (Builtin.SmallTypes.nextOf (.ref it)) Q E s := by
  refine hide fun G kG => ?_
  obtain ⟨o, ho, hc, hd⟩ := id hit
  refine kG ?_
  refine hide fun G kG => ?_
  obtain ⟨ol, hol, _, nl, hdl⟩ := ht
  refine kG ?_
  unfold Builtin.SmallTypes.nextOf
  refine wpAny_bind (wpAny_callSpecial?_slot (name := Str.ofString "__next__") hit.typeIs F.slot_tuple_iterator_next (wpAny_call_entry F.slot_tuple_iterator_next hit.typeIs F.entry_tuple_iterator_next ?_ (F.args_tuple_iterator_next_1 _)))
  show wpAny _ _ (field (.ref it) 0 >>= _) _ _ s
  refine wpAny_bind (wpAny_field ho hd (x := .ref t) rfl ?_)
  show wpAny _ _ (if (Value.ref t == Value.none) = true then _ else _) _ _ s
  rw [if_neg (show ¬ ((Value.ref t == Value.none) = true) from Bool.false_ne_true)]
  show wpAny _ _ (field (.ref it) 1 >>= _) _ _ s
  refine wpAny_bind (wpAny_field ho hd (x := .int i 0) rfl ?_)
  show wpAny _ _ (seqItems? (.ref t) >>= _) _ _ s
  refine wpAny_bind (wpAny_seqItems hol hdl ?_)
  repeat (first | simp -iota only [Int.toNat_natCast, hx] | dsimp only)
  refine wpAny_bind (wpAny_setField ho hd (by simp) (wpAny_pure ⟨x, rfl, wpAny_pure (hQ _ ?_ (Heap.SameBut.update ..))⟩))
  exact ⟨_, Heap.get?_update_self _ ho (Obj.isFreed_of_fields (Obj.data_mapFields hd _)), (Obj.cls_mapFields ..).trans hc, by rw [Obj.data_mapFields hd]; simp [rawInt]⟩
theorem nextT_end {it t : Addr} {i : Nat} {items : Array Value} {Q : Value → Shared → Prop} (hh : A.handled = none) (hit : s.heap.IsTupleIter it t i) (ht : s.heap.IsTuple t items) (hx : items[i]? = none)
    (hE : ∀ h' e, Heap.ExtBut it s.heap h' → (∃ o, h'.get? e = some o ∧ o.cls = .type "StopIteration") → E (.ref e) { s with heap := h' }) : wpAny (model prog w) A (Builtin.SmallTypes.nextOf (.ref it)) Q E s := by
  refine hide fun G kG => ?_
  obtain ⟨o, ho, hc, hd⟩ := id hit
  refine kG ?_
  refine hide fun G kG => ?_
  obtain ⟨ol, hol, _, nl, hdl⟩ := ht
  refine kG ?_
  unfold Builtin.SmallTypes.nextOf
  refine wpAny_bind (wpAny_callSpecial?_slot (name := Str.ofString "__next__") hit.typeIs F.slot_tuple_iterator_next (wpAny_call_entry F.slot_tuple_iterator_next hit.typeIs F.entry_tuple_iterator_next ?_ (F.args_tuple_iterator_next_1 _)))
  show wpAny _ _ (field (.ref it) 0 >>= _) _ _ s
  refine wpAny_bind (wpAny_field ho hd (x := .ref t) rfl ?_)
  show wpAny _ _ (if (Value.ref t == Value.none) = true then _ else _) _ _ s
  rw [if_neg (show ¬ ((Value.ref t == Value.none) = true) from Bool.false_ne_true)]
  show wpAny _ _ (field (.ref it) 1 >>= _) _ _ s
  refine wpAny_bind (wpAny_field ho hd (x := .int i 0) rfl ?_)
  show wpAny _ _ (seqItems? (.ref t) >>= _) _ _ s
  refine wpAny_bind (wpAny_seqItems hol hdl ?_)
  repeat (first | simp -iota only [Int.toNat_natCast, hx] | dsimp only)
  refine wpAny_bind (wpAny_rule (wpAny_bind (wpAny_setField ho hd (by simp) ?_)))
  show wpAny _ _ (newExc (.type "StopIteration") [] >>= _) _ _ _
  refine wpAny_bind ?_
  repeat (first | simp -iota only [newExc, newTuple] | dsimp only)
  refine wpAny_bind (wpAny_newObj_type ?_ (by size_fits))
  refine wpAny_bind (m := firstArgMember _ _) (wpAny_of_eq (a := Value.none) (by first | rfl | (simp only [firstArgMember]; rfl)) ?_)
  refine wpAny_newObj_type ?_ (by size_fits)
  repeat (first | simp -iota only [raiseNew] | dsimp only)
  refine wpAny_bind (wpAny_handled ?_)
  first | rw [show A.in1.handled = none from hh] | rw [hh]
  refine wpAny_bind (wpAny_pure (wpAny_throw ?_))
  exact hE _ _ (((Heap.SameBut.update ..).extBut.push _).push _) ⟨_, Heap.get?_push_size _ rfl, rfl⟩
end
theorem drawsT {prog : Program} {w : World} {A : Around} (hh : A.handled = none) (it t : Addr) (hne : t ≠ it) (items : Array Value) :
    Draws prog w A it [it, t] items.size (fun i v => items[i]? = some v) (fun i h => h.IsTupleIter it t i ∧ h.IsTuple t items) where
  live := fun _ _ st => let ⟨o, ho, _⟩ := st.1; ⟨o, ho⟩
  frame := fun _ _ _ st hk => ⟨st.1.at fun o e => hk it (by simp) o e, st.2.at fun o e => hk t (by simp) o e⟩
  item := fun i s Q E hi st hQ => nextT_item st.1 st.2 (x := items[i]) (by simp [hi]) fun h' hit' hs' => hQ _ h' s.toks (by simp [hi]) ⟨hit', st.2.extBut hs'.extBut hne⟩ hs'
  done := fun s Q E st hE => nextT_end hh st.1 st.2 (by simp) hE
inductive InvE (s₁ : Shared) (h₀ : Heap) (L : Addr) (z ax : Nat) (items : Array Value) (J : Nat → (Str → Option Value) → List (Addr × Obj) → Prop) (k : Nat) (s' : Shared) : Prop
  | mk (i : Nat) (h : Heap) (tk : Nat) (m₁ : Str → Option Value) (news₁ : List (Addr × Obj)) (x1 : i ≤ items.size) (x2 : k = items.size - i) (x3 : s' = { s₁ with heap := h, toks := tk }) (x4 : (∃ old, IsEnum h (z + 1) z i old) ∧ h.IsTupleIter z ax i ∧ h.IsTuple ax items) (x5 : Fr h₀ L h m₁) (x6 : News h₀ L h news₁) (x7 : ∀ p ∈ news₁, p.1 ≠ z + 1 ∧ p.1 ≠ z) (x8 : J i m₁ news₁) : InvE s₁ h₀ L z ax items J k s'
inductive PairEnd (h₀ : Heap) (L e it : Addr) (oe oi : Obj) (J : (Str → Option Value) → List (Addr × Obj) → Prop) (s₁ s' : Shared) : Prop
  | mk (h' : Heap) (tk : Nat) (m' : Str → Option Value) (news' : List (Addr × Obj)) (x1 : s' = { s₁ with heap := h', toks := tk }) (x2 : Fr h₀ L h' m') (x3 : News h₀ L h' ((e, oe) :: (it, oi) :: news')) (x4 : ∀ p ∈ news', p.1 ≠ e ∧ p.1 ≠ it) (x5 : J m' news') : PairEnd h₀ L e it oe oi J s₁ s'
noncomputable def PairPost (h₀ : Heap) (L e it : Addr) (oe oi : Obj) (J : (Str → Option Value) → List (Addr × Obj) → Prop) (Q : Flow → Shared → Prop) (s₁ : Shared) (f : Flow) (s' : Shared) : Prop := match f with
  | .next | .cont => PairEnd h₀ L e it oe oi J s₁ s'
  | .brk => Q .next s'
  | .ret v => Q (.ret v) s'
inductive EnumMade (prog : Program) (w : World) (A : Around) (h₀ : Heap) (L : Addr) (env : Env) (xi xc : Str) (body : List Stmt) (Q : Flow → Shared → Prop) (xv : Value) (s₂ : Shared) : Prop
  | mk (z ax : Nat) (items : Array Value) (m : Str → Option Value) (news : List (Addr × Obj)) (J : Nat → (Str → Option Value) → List (Addr × Obj) → Prop) (x1 : xv = .ref (z + 1)) (x2 : A.handled = none) (x3 : h₀.IsTuple ax items) (x4 : IsEnum s₂.heap (z + 1) z 0 .none) (x5 : s₂.heap.IsTupleIter z ax 0) (x6 : Fr h₀ L s₂.heap m) (x7 : News h₀ L s₂.heap news) (x8 : ∀ p ∈ news, p.1 ≠ z + 1 ∧ p.1 ≠ z) (x9 : h₀.get? (z + 1) = none) (x10 : h₀.get? z = none) (x11 : @LT.lt Nat _ L z) (x12 : @LT.lt Nat _ ax L) (x13 : J 0 m news) (x14 : ∀ i t v e it oe oi m₁ news₁ h tk, items[i]? = some v → J i m₁ news₁ → Fr h₀ L h (fun y => if y = xc then some v else if y = xi then some (.int (i : Nat) t) else m₁ y) → News h₀ L h ((e, oe) :: (it, oi) :: news₁) → (∀ p ∈ news₁, p.1 ≠ e ∧ p.1 ≠ it) →       wpAny (model prog w) A (execs body env) (PairPost h₀ L e it oe oi (J (i + 1)) Q { s₂ with heap := h, toks := tk }) (fun _ _ => False) { s₂ with heap := h, toks := tk }) (x15 : ∀ m₁ news₁ h tk, J items.size m₁ news₁ → Fr h₀ L h m₁ → News h₀ L h news₁ → Q .next { s₂ with heap := h, toks := tk }) : EnumMade prog w A h₀ L env xi xc body Q xv s₂
section
variable {prog : Program} {w : World} {A : Around} {E : Value → Shared → Prop} {s : Shared} {h₀ : Heap} {L : Addr} {m : Str → Option Value} {env : Env}
theorem enumMade {xi xc : Str} {body : List Stmt} {ax : Addr} {items : Array Value} {news : List (Addr × Obj)} {Q : Flow → Shared → Prop} (J : Nat → (Str → Option Value) → List (Addr × Obj) → Prop) (hh : A.handled = none) (ht : h₀.IsTuple ax items) (F : Fr h₀ L s.heap m) (N : News h₀ L s.heap news) (hJ : J 0 m news)
    (turn : ∀ i t v e it oe oi m₁ news₁ h tk, items[i]? = some v → J i m₁ news₁ → Fr h₀ L h (fun y => if y = xc then some v else if y = xi then some (.int (i : Nat) t) else m₁ y) → News h₀ L h ((e, oe) :: (it, oi) :: news₁) → (∀ p ∈ news₁, p.1 ≠ e ∧ p.1 ≠ it) →
      wpAny (model prog w) A (execs body env) (PairPost h₀ L e it oe oi (J (i + 1)) Q { s with heap := h, toks := tk }) (fun _ _ => False) { s with heap := h, toks := tk })
    (done : ∀ m₁ news₁ h tk, J items.size m₁ news₁ → Fr h₀ L h m₁ → News h₀ L h news₁ → Q .next { s with heap := h, toks := tk }) :
    wpAny (model prog w) A (call (.type "enumerate") [.ref ax]) (EnumMade prog w A h₀ L env xi xc body Q) E s := by
  have hts : s.heap.IsTuple ax items := ht.at fun o e => F.keep _ o e
  have hax : @LT.lt Nat _ ax h₀.objs.size := by obtain ⟨o, e, _⟩ := ht; exact Heap.lt_size e
  have hL1 : @LT.lt Nat _ L s.heap.objs.size := F.ns.lt
  have hab : @LE.le Nat _ h₀.objs.size L := F.above
  generalize hz : s.heap.objs.size = z at hL1
  refine call_enumT hts fun h' he hit hsz hk => ?_
  rw [hz] at he hit hsz ⊢
  refine ⟨z, ax, items, m, news, J, rfl, hh, ht, he, hit, F.keeps hk, N.grown hk, fun p hp => ?_, Heap.get?_none_of_le (by omega), Heap.get?_none_of_le (by omega), hL1, by omega, hJ, turn, done⟩
  have l : p.1 < s.heap.objs.size := Heap.lt_size (N p hp).1
  rw [hz] at l
  exact ⟨Nat.ne_of_lt (Nat.lt_succ_of_lt l), Nat.ne_of_lt l⟩
theorem forEnum {xi xc : Str} {pi pc pt pos : Pos} {k : Nat} {body : List Stmt} {iter : PySem.Expr} {Q : Flow → Shared → Prop} (kF₀ : Fr h₀ L s.heap m) (hLe : env.locals = L) (hxi : env.kindOf xi = some .local) (hxc : env.kindOf xc = some .local)
    (hp : (env.scope.kind == .class || (env.scope.kind == .module && env.locals != env.globals)) = false)
    (h : wpAny (model prog w) A (eval iter env) (EnumMade prog w A h₀ L env xi xc body Q) E s) (hs : ∀ x, foldedSetIterable iter env x = pure x := by intro _; rfl) :
    wpAny (model prog w) A (exec (.For (.Tuple [.Name xi pi, .Name xc pc] k pt) iter body [] pos) env) Q E s := by
  subst hLe
  refine wpAny_ForI (wpAny_mono h (fun xv s₁ h₁ => ?_) fun _ _ x => x) hs
  refine hide fun G kG => ?_
  obtain ⟨z, ax, items, m, news, J, rfl, hh, ht, he, hit, F', N', off, h0e, h0i, hL1, hax, hJ, turn, done⟩ := h₁
  refine kG ?_
  refine wpAny_pyIter_enum he ?_
  have W := WalksT.enumerateD (drawsT (prog := prog) (w := w) (A := A.in1) hh z ax (Nat.ne_of_lt (by omega)) items) (z + 1) (Nat.succ_ne_self _) (by
    intro hm
    rcases List.mem_cons.mp hm with e | hm
    · exact Nat.succ_ne_self _ e
    · have e : @Eq Nat (z + 1) ax := List.mem_singleton.mp hm
      omega) (List.mem_cons_self ..)
  have hLfp : env.locals ∉ (z + 1) :: [z, ax] := fun hm => by
    rcases List.mem_cons.mp hm with e | hm
    · have e' : @Eq Nat env.locals (z + 1) := e
      omega
    · rcases List.mem_cons.mp hm with e | hm
      · have e' : @Eq Nat env.locals z := e
        omega
      · have e' : @Eq Nat env.locals ax := List.mem_singleton.mp hm
        omega
  refine ⟨fun k s' => InvE s₁ h₀ env.locals z ax items J k s', items.size,
    ⟨0, s₁.heap, _, m, news, Nat.zero_le _, rfl, rfl, ⟨⟨_, he⟩, hit, ht.at fun o e => F'.keep _ o e⟩, F', N', off, hJ⟩, ?_⟩
  intro k s' hx2
  refine hide fun G kG => ?_
  obtain ⟨i, h, tk, m₁, news₁, hi, rfl, rfl, hst, F₁, N₁, off₁, hJ₁⟩ := hx2
  refine kG ?_
  have hLe : @Ne Nat env.locals (z + 1) := by omega
  have hLi : @Ne Nat env.locals z := by omega
  have nwr : ∀ b, b ≠ z + 1 → b ≠ z → b ∉ [z + 1, z] := fun b h1 h2 hm => by
    rcases List.mem_cons.mp hm with e | hm
    · exact h1 e
    · exact h2 (List.mem_singleton.mp hm)
  by_cases hlt : i < items.size
  · refine W.item i _ _ _ hlt hst fun T vals h₁ tk₁ hv hTn hT hmid hk₁ => ?_
    dsimp only
    refine hide fun G kG => ?_
    obtain ⟨t, v, hv, rfl⟩ := hv
    refine kG ?_
    have hTw := W.apart _ _ _ hmid
    refine W.go _ _ _ i T _ _ _ hmid fun h₂ hst₂ hk₂ => ?_
    have hT₂ : h₂.IsTuple T #[.int (i : Nat) t, v] := hT.at fun o e => hk₂ _ o hTw e
    have k12 : ∀ b o, b ≠ z + 1 → b ≠ z → h.get? b = some o → h₂.get? b = some o := fun b o h1 h2 e => hk₂ b o (nwr b h1 h2) (hk₁ b o (nwr b h1 h2) e)
    refine kcp_assign hh hT₂ hxi hxc hp (F₁.ns.at' fun o e => k12 _ o hLe hLi e) fun h₃ tk₃ hn₃ hk₃ => ?_
    have hL₀ : h₀.get? env.locals = none := Heap.get?_none_of_le F₁.above
    have k13 : ∀ b o, b ≠ z + 1 → b ≠ z → b ≠ env.locals → h.get? b = some o → h₃.get? b = some o := fun b o h1 h2 h3 e => hk₃ b o h3 (k12 b o h1 h2 e)
    have F₃ : Fr h₀ env.locals h₃ (fun y => if y = xc then some v else if y = xi then some (.int (i : Nat) t) else m₁ y) :=
      ⟨hn₃, fun b o e => k13 b o (fun q => by rw [q, h0e] at e; cases e) (fun q => by rw [q, h0i] at e; cases e) (fun q => by rw [q, hL₀] at e; cases e) (F₁.keep b o e), F₁.above⟩
    have hst₃ := W.frame _ _ _ hst₂ (fun b hb o e => hk₃ b o (fun q => hLfp (q ▸ hb)) e)
    refine hide fun G kG => ?_
    obtain ⟨⟨old, he₃⟩, hit₃, ht₃⟩ := hst₃
    refine kG ?_
    refine hide fun G kG => ?_
    obtain ⟨oi, hoi, hci, hdi⟩ := hit₃
    refine kG ?_
    refine hide fun G kG => ?_
    obtain ⟨oe, hoe, hE⟩ : ∃ oe, h₃.get? (z + 1) = some oe ∧ ∀ h', h'.get? (z + 1) = some oe → IsEnum h' (z + 1) z ((i + 1 : Nat) : Int) old := ⟨_, he₃, fun _ e => e⟩
    refine kG ?_
    have N₃ : News h₀ env.locals h₃ ((z + 1, oe) :: (z, oi) :: news₁) := fun p hp => by
      rcases List.mem_cons.mp hp with rfl | hp
      · exact ⟨hoe, Ne.symm hLe, h0e⟩
      · rcases List.mem_cons.mp hp with rfl | hp
        · exact ⟨hoi, Ne.symm hLi, h0i⟩
        · exact ⟨k13 _ _ (off₁ p hp).1 (off₁ p hp).2 (N₁ p hp).2.1 (N₁ p hp).1, (N₁ p hp).2⟩
    refine wpAny_mono (turn i t v _ _ oe oi m₁ news₁ h₃ _ hv hJ₁ F₃ N₃ off₁) (fun f s₄ h₄ => ?_) fun _ _ x => x
    have fin : PairEnd h₀ env.locals (z + 1) z oe oi (J (i + 1)) { s₁ with heap := h₃, toks := tk₃ } s₄ → ∃ m, m < items.size - i ∧ InvE s₁ h₀ env.locals z ax items J m s₄ := by
      intro hx0
      refine hide fun G kG => ?_
      obtain ⟨h₅, tk₅, m₅, news₅, rfl, F₅, N₅, off₅, J₅⟩ := hx0
      refine kG ?_
      exact ⟨items.size - (i + 1), by omega, i + 1, h₅, tk₅, m₅, news₅, hlt, rfl, rfl, ⟨⟨old, hE _ (N₅ _ (.head _)).1⟩, ⟨oi, (N₅ _ (.tail _ (.head _))).1, hci, hdi⟩, ht.at fun o e => F₅.keep _ o e⟩, F₅, fun p hp => N₅ p (.tail _ (.tail _ hp)), off₅, J₅⟩
    cases f with
    | next => exact fin h₄
    | cont => exact fin h₄
    | brk => exact h₄
    | ret v => exact h₄
  · obtain rfl : i = items.size := Nat.le_antisymm hi (Nat.not_lt.mp hlt)
    refine W.done _ _ _ hst fun h₂ tk₂ hk₂ => ?_
    dsimp only
    refine wpAny_execs_nil ?_
    have k₂ : ∀ b o, b ≠ z + 1 → b ≠ z → h.get? b = some o → h₂.get? b = some o := fun b o h1 h2 e => hk₂ b o (nwr b h1 h2) e
    exact done m₁ news₁ h₂ tk₂ hJ₁ ⟨F₁.ns.at' fun o e => k₂ _ o hLe hLi e, fun b o e => k₂ b o (fun q => by rw [q, h0e] at e; cases e) (fun q => by rw [q, h0i] at e; cases e) (F₁.keep b o e), F₁.above⟩
      fun p hp => ⟨k₂ _ _ (off₁ p hp).1 (off₁ p hp).2 (N₁ p hp).1, (N₁ p hp).2⟩
end
end
section
section
variable {prog : Program} {w : World} {A : Around} {E : Value → Shared → Prop} {s : Shared} {h₀ : Heap} {L : Addr} {m : Str → Option Value} {env : Env}
theorem go_tupleiter {it t T : Addr} {i : Nat} {elts : List PySem.Expr} {k : Nat} {pos : Pos} {Q : Unit → Shared → Prop} (hit : s.heap.IsTupleIter it t i) (h : Q () s) : wpAny (model prog w) A (letOwnedTupleGo (.Tuple elts k pos) (.ref it) (.ref T)) Q E s := by
  refine hide fun G kG => ?_
  obtain ⟨o, ho, hc, hd⟩ := hit
  refine kG ?_
  unfold letOwnedTupleGo
  refine wpAny_bind (wpAny_load ho ?_)
  rw [hc, hd]
  dsimp only
  rw [if_neg (by
    intro q
    rw [Bool.and_eq_true] at q
    exact absurd q.1 (by decide))]
  exact wpAny_pure h
inductive InvP (s₁ : Shared) (h₀ : Heap) (L : Addr) (z ax : Nat) (items : Array Value) (J : Nat → (Str → Option Value) → List (Addr × Obj) → Prop) (k : Nat) (s' : Shared) : Prop
  | mk (i : Nat) (h : Heap) (tk : Nat) (m₁ : Str → Option Value) (news₁ : List (Addr × Obj)) (x1 : i ≤ items.size) (x2 : k = items.size - i) (x3 : s' = { s₁ with heap := h, toks := tk }) (x4 : h.IsTupleIter z ax i) (x5 : Fr h₀ L h m₁) (x6 : News h₀ L h news₁) (x7 : ∀ p ∈ news₁, p.1 ≠ z) (x8 : J i m₁ news₁) : InvP s₁ h₀ L z ax items J k s'
inductive PairsSrc (prog : Program) (w : World) (A : Around) (h₀ : Heap) (L : Addr) (env : Env) (xi xc : Str) (body orelse : List Stmt) (Q : Flow → Shared → Prop) (xv : Value) (s₂ : Shared) : Prop
  | mk (ax : Addr) (items : Array Value) (P : Nat → Value → Value → Prop) (m : Str → Option Value) (news : List (Addr × Obj)) (J : Nat → (Str → Option Value) → List (Addr × Obj) → Prop) (x1 : xv = .ref ax) (x2 : A.handled = none) (x3 : h₀.IsTuple ax items) (x4 : ∀ i v, items[i]? = some v → ∃ T x y, v = .ref T ∧ h₀.IsTuple T #[x, y] ∧ P i x y) (x5 : Fr h₀ L s₂.heap m) (x6 : News h₀ L s₂.heap news) (x7 : J 0 m news) (x8 : ∀ I i x y oI m₁ news₁ h tk, i < items.size → P i x y → J i m₁ news₁ → Fr h₀ L h (fun z => if z = xc then some y else if z = xi then some x else m₁ z) → News h₀ L h ((I, oI) :: news₁) → (∀ p ∈ news₁, p.1 ≠ I) →       wpAny (model prog w) A (execs body env) (TurnPost h₀ L I oI (J (i + 1)) Q { s₂ with heap := h, toks := tk }) (fun _ _ => False) { s₂ with heap := h, toks := tk }) (x9 : ∀ m₁ news₁ h tk, J items.size m₁ news₁ → Fr h₀ L h m₁ → News h₀ L h news₁ → wpAny (model prog w) A (execs orelse env) Q (fun _ _ => False) { s₂ with heap := h, toks := tk }) : PairsSrc prog w A h₀ L env xi xc body orelse Q xv s₂
theorem forPairs {xi xc : Str} {pi pc pt pos : Pos} {k : Nat} {body orelse : List Stmt} {iter : PySem.Expr} {Q : Flow → Shared → Prop} (kF₀ : Fr h₀ L s.heap m) (hLe : env.locals = L) (hxi : env.kindOf xi = some .local) (hxc : env.kindOf xc = some .local)
    (hp : (env.scope.kind == .class || (env.scope.kind == .module && env.locals != env.globals)) = false)
    (h : wpAny (model prog w) A (eval iter env) (PairsSrc prog w A h₀ L env xi xc body orelse Q) E s) (hs : ∀ x, foldedSetIterable iter env x = pure x := by intro _; rfl) :
    wpAny (model prog w) A (exec (.For (.Tuple [.Name xi pi, .Name xc pc] k pt) iter body orelse pos) env) Q E s := by
  subst hLe
  refine wpAny_ForI (wpAny_mono h (fun xv s₁ h₁ => ?_) fun _ _ x => x) hs
  refine hide fun G kG => ?_
  obtain ⟨ax, items, P, m, news, J, rfl, hh, ht, hP, F, N, hJ, turn, done⟩ := h₁
  refine kG ?_
  have hts : s₁.heap.IsTuple ax items := ht.at fun o e => F.keep _ o e
  have hax : @LT.lt Nat _ ax h₀.objs.size := by obtain ⟨o, e, _⟩ := ht; exact Heap.lt_size e
  have hL1 : @LT.lt Nat _ env.locals s₁.heap.objs.size := F.ns.lt
  have hab : @LE.le Nat _ h₀.objs.size env.locals := F.above
  have hI₀ := next_is_new F
  have off := PyProof.Rows.News.ne_size N
  refine wpAny_pyIter_tuple hts ?_
  have up : ∀ (o' : Obj) b o, s₁.heap.get? b = some o → (s₁.heap.push o').get? b = some o := fun _ b o e => Heap.get?_push_of_some _ e
  have it0 : (s₁.heap.push { cls := .type "tuple_iterator", data := .fields #[.ref ax, .int 0 0] }).IsTupleIter s₁.heap.objs.size ax 0 := ⟨_, Heap.get?_push_size _ rfl, rfl, rfl⟩
  have F0 := F.keeps (up { cls := .type "tuple_iterator", data := .fields #[.ref ax, .int 0 0] })
  have N0 := N.grown (up { cls := .type "tuple_iterator", data := .fields #[.ref ax, .int 0 0] })
  generalize hz : s₁.heap.objs.size = z at hL1 hI₀ off it0
  refine ⟨fun k s' => InvP s₁ h₀ env.locals z ax items J k s', items.size,
    ⟨0, _, _, m, news, Nat.zero_le _, rfl, rfl, it0, F0, N0, off, hJ⟩, ?_⟩
  intro k s' hx2
  refine hide fun G kG => ?_
  obtain ⟨i, h, tk, m₁, news₁, hi, rfl, rfl, hst, F₁, N₁, off₁, hJ₁⟩ := hx2
  refine kG ?_
  have hLz : @Ne Nat env.locals z := by omega
  have ht₁ : h.IsTuple ax items := ht.at fun o e => F₁.keep _ o e
  by_cases hlt : i < items.size
  · refine wpAny_pyNext_tuple_item hst ht₁ (x := items[i]) (by simp [hlt]) fun h₁ hit₁ hs₁ => ?_
    dsimp only
    refine hide fun G kG => ?_
    obtain ⟨T, x, y, hv, hT, hxy⟩ := hP i items[i] (by simp [hlt])
    refine kG ?_
    rw [hv]
    refine go_tupleiter hit₁ ?_
    have k1 : ∀ b o, b ≠ z → h.get? b = some o → h₁.get? b = some o := fun b o hb e => hs₁.extBut b o hb e
    have hT₁ : h₁.IsTuple T #[x, y] := hT.at fun o e => k1 _ o (fun q => by rw [q, hI₀] at e; cases e) (F₁.keep _ o e)
    refine kcp_assign hh hT₁ hxi hxc hp (F₁.ns.at' fun o e => k1 _ o hLz e) fun h₃ tk₃ hn₃ hk₃ => ?_
    have hL₀ : h₀.get? env.locals = none := Heap.get?_none_of_le F₁.above
    have F₃ : Fr h₀ env.locals h₃ (fun q => if q = xc then some y else if q = xi then some x else m₁ q) :=
      ⟨hn₃, fun b o e => hk₃ b o (fun q => by rw [q, hL₀] at e; cases e) (k1 b o (fun q => by rw [q, hI₀] at e; cases e) (F₁.keep b o e)), F₁.above⟩
    refine hide fun G kG => ?_
    obtain ⟨oI, hoI, hcI, hdI⟩ := hit₁
    refine kG ?_
    have N₃ : News h₀ env.locals h₃ ((z, oI) :: news₁) := fun p hp => by
      rcases List.mem_cons.mp hp with rfl | hp
      · exact ⟨hk₃ _ _ (Ne.symm hLz) hoI, Ne.symm hLz, hI₀⟩
      · exact ⟨hk₃ _ _ (N₁ p hp).2.1 (k1 _ _ (off₁ p hp) (N₁ p hp).1), (N₁ p hp).2⟩
    refine wpAny_mono (turn z i x y oI m₁ news₁ h₃ _ hlt hxy hJ₁ F₃ N₃ off₁) (fun f s₄ h₄ => ?_) fun _ _ x => x
    have fin : TurnEnd h₀ env.locals z oI (J (i + 1)) { s₁ with heap := h₃, toks := tk₃ } s₄ → ∃ m, m < items.size - i ∧ InvP s₁ h₀ env.locals z ax items J m s₄ := by
      intro hx0
      refine hide fun G kG => ?_
      obtain ⟨h₅, tk₅, m₅, news₅, rfl, F₅, N₅, off₅, J₅⟩ := hx0
      refine kG ?_
      exact ⟨items.size - (i + 1), by omega, i + 1, h₅, tk₅, m₅, news₅, hlt, rfl, rfl, ⟨oI, (N₅ _ (.head _)).1, hcI, hdI⟩, F₅, fun p hp => N₅ p (.tail _ hp), off₅, J₅⟩
    cases f with
    | next => exact fin h₄
    | cont => exact fin h₄
    | brk => exact h₄
    | ret v => exact h₄
  · obtain rfl : i = items.size := Nat.le_antisymm hi (Nat.not_lt.mp hlt)
    refine wpAny_pyNext_tuple_end hh hst ht₁ (by simp) fun h₂ hk₂ => ?_
    dsimp only
    exact done m₁ news₁ h₂ tk hJ₁ ⟨F₁.ns.at' fun o e => hk₂ _ o hLz e, fun b o e => hk₂ b o (fun q => by rw [q, hI₀] at e; cases e) (F₁.keep b o e), F₁.above⟩
      fun p hp => ⟨hk₂ _ _ (off₁ p hp) (N₁ p hp).1, (N₁ p hp).2⟩
end
end
section
theorem shown_c (w : World) (mean : ExcName → Option Value) (mg mb : Str → Option Value) (c0 c1 c2 c3 c4 c5 : Nat) (t : CbTok) (news : CbLed) :
   Claim w mean mg mb 303 news (48 ≤ c3 ∧ c3 < 56 ∧ 48 ≤ c4 ∧ c4 < 56 ∧ 48 ≤ c5 ∧ c5 < 56) [.str ⟨#[c0, c1, c2, c3, c4, c5]⟩ t] (fun t => .str (shF c3 c4 c5) t) := by
  have st9 := Stop.mk "CompEnd"
  dsimp only [Claim, CbClaim, CbLists, CbRet]
  k_fill
  intros
  rename_i hpre _ _ hret
  (refine wpAny_call ?_; refine' code_defC ?k1 ?k2 ?k3 ?k4 ?k5 ?kA ?kF ?kK ?k6 ?k7 ?k8 ?k9 ?kB ?kD ?_ ?c2 ?c3 ?c4; (case kA | kF => exact rfl); (case kK => assumption); (case k1 | k2 => k_asm); (case k3 | k4 | k5 => k_asm); (case k6 | k7 => k_is); (case k8 => ktr_room); (case k9 => exact BindsTo.of_eq rfl); (case kB => exact rfl); (case kD => decide +kernel); (case c2 | c3 | c4 => exact rfl); k_whole; intro g' L' h' tk' cells' FG' F' N' Y' B' X' T' l1; have hLow := low_of l1; (repeat (replace hLow := low_tail hLow)); (try k_lt l1); k_cells Y'; (try simp only [List.cons_append, List.nil_append] at N'); (try dsimp only); (try k_lift B'); (try k_fold))
  repeat' (first | (k_unfold; try dsimp only) | (k_end; kc_close) | (walk1; all_goals ((try k_fold); (try dsimp only); try with_reducible refine wpAny_tk fun _ => ?_)) | (dsimp only; walk1) | (leave1; try dsimp only))
  refine Halt.in ?_
  refine ListComp_str (by k_asm) (by with_unfolding_all rfl) (by decide) (by rfl) (by decide) (by rfl) ?_
  repeat' (first | (k_unfold; try dsimp only) | (k_end; kc_close) | (walk1; all_goals ((try k_fold); (try dsimp only); try with_reducible refine wpAny_tk fun _ => ?_)) | (dsimp only; walk1) | (leave1; try dsimp only))
  rw [slice3]
  refine SrcX.text (by rfl) (by simp; omega) (by k_asm) (by k_asm) (Nat.le_of_ble_eq_true rfl) ?_
  intro g'
  lcg_lit
  refine LCg.CompRest.succ ?_
  intro v' I' oI' C' oC' D' m' h' tk' E' hv' hC' hx' F' N' off' ne'
  obtain ⟨c9, u9, hc9, rfl⟩ := hv'
  obtain rfl : c3 = c9 := Option.some.inj hc9
  repeat' (first | (k_unfold; try dsimp only) | (k_end; kc_close) | (walk1; all_goals ((try k_fold); (try dsimp only); try with_reducible refine wpAny_tk fun _ => ?_)) | (dsimp only; walk1) | (leave1; try dsimp only))
  refine getItem_tab PyProof.V.same_str (strKind_is _ _ _ _) (by k_tabat) (sh_look c3 (by omega) (by omega)) ?_
  intro v9 hv9
  dict_open hv9
  repeat' (first | ((with_reducible refine Halt.in ?_); refine CompEnd_same (by k_asm) (by assumption) (by assumption) trivial ?_) | (k_unfold; try dsimp only) | (k_end; kc_close) | (walk1; all_goals ((try k_fold); (try dsimp only); try with_reducible refine wpAny_tk fun _ => ?_)) | (dsimp only; walk1) | (leave1; try dsimp only))
  refine LCg.CompRest.succ ?_
  intro v' I' oI' C' oC' D' m' h' tk' E' hv' hC' hx' F' N' off' ne'
  obtain ⟨c9, u9, hc9, rfl⟩ := hv'
  obtain rfl : c4 = c9 := Option.some.inj hc9
  repeat' (first | (k_unfold; try dsimp only) | (k_end; kc_close) | (walk1; all_goals ((try k_fold); (try dsimp only); try with_reducible refine wpAny_tk fun _ => ?_)) | (dsimp only; walk1) | (leave1; try dsimp only))
  refine getItem_tab PyProof.V.same_str (strKind_is _ _ _ _) (by k_tabat) (sh_look c4 (by omega) (by omega)) ?_
  intro v9 hv9
  dict_open hv9
  repeat' (first | ((with_reducible refine Halt.in ?_); refine CompEnd_same (by k_asm) (by assumption) (by assumption) trivial ?_) | (k_unfold; try dsimp only) | (k_end; kc_close) | (walk1; all_goals ((try k_fold); (try dsimp only); try with_reducible refine wpAny_tk fun _ => ?_)) | (dsimp only; walk1) | (leave1; try dsimp only))
  refine LCg.CompRest.succ ?_
  intro v' I' oI' C' oC' D' m' h' tk' E' hv' hC' hx' F' N' off' ne'
  obtain ⟨c9, u9, hc9, rfl⟩ := hv'
  obtain rfl : c5 = c9 := Option.some.inj hc9
  repeat' (first | (k_unfold; try dsimp only) | (k_end; kc_close) | (walk1; all_goals ((try k_fold); (try dsimp only); try with_reducible refine wpAny_tk fun _ => ?_)) | (dsimp only; walk1) | (leave1; try dsimp only))
  refine getItem_tab PyProof.V.same_str (strKind_is _ _ _ _) (by k_tabat) (sh_look c5 (by omega) (by omega)) ?_
  intro v9 hv9
  dict_open hv9
  repeat' (first | ((with_reducible refine Halt.in ?_); refine CompEnd_same (by k_asm) (by assumption) (by assumption) trivial ?_) | (k_unfold; try dsimp only) | (k_end; kc_close) | (walk1; all_goals ((try k_fold); (try dsimp only); try with_reducible refine wpAny_tk fun _ => ?_)) | (dsimp only; walk1) | (leave1; try dsimp only))
  refine join_listW (ys := [⟨(shTab _).toArray⟩, ⟨(shTab _).toArray⟩, ⟨(shTab _).toArray⟩]) (by is_list) (.cons _ _ (.cons _ _ (.cons _ _ .nil))) (by decide +kernel) (by simp [Str.length, shTab_len]) fun t9 k9 => ?_
  rw [join_3]
  have hl9 : (⟨(shTab c3 ++ shTab c4 ++ shTab c5).toArray⟩ : Str).length = 9 := by simp [Str.length, shTab_len]
  repeat' (first | (k_unfold; try dsimp only) | (k_end; kc_close) | (walk1; all_goals ((try k_fold); (try dsimp only); try with_reducible refine wpAny_tk fun _ => ?_)) | (dsimp only; walk1) | (leave1; try dsimp only))
  rename Fr _ _ _ _ => kF
  rename News _ _ _ _ => kN
  rw [sh_cat, ← List.append_assoc, ← List.append_assoc]
  refine hret _ _ _ kF (PySem.W.KStt.news_of kN fun p hp => ?_)
  repeat (first | exact hp | refine List.mem_cons_of_mem _ ?_)
end
section
theorem ifmt_claim (w : World) (mean : ExcName → Option Value) (mg mb : Str → Option Value) (news : CbLed) (v : Int) (t : Tok) : Claim w mean mg mb 213 news True [.int v t] (fun t => .int (Builtin.bitAnd v 61440) t) := by
  dsimp only [Claim, CbClaim, CbLists, CbRet]
  k_fill
  intros
  rename_i hret
  (refine wpAny_call ?_; refine' enterP ?k1 ?k2 ?k3 ?k4 ?k5 ?kA ?kF ?kK ?k6 ?k7 ?k8 ?k9 ?kB ?_ ?c2 ?c3 ?c4 ?c5; (case kA | kF => exact rfl); (case kK => assumption); (case k1 | k2 => k_asm); (case k3 | k4 | k5 => k_asm); (case k6 | k7 => k_is); (case k8 => ktr_room); (case k9 => exact BindsTo.of_eq rfl); (case c5 => decide); (case kB => exact locs rfl); (case c2 | c3 | c4 => exact rfl); k_whole; intro g' L' h' FG' F' N' B' X' T' hLow; have l1 := hLow.all; (repeat (replace hLow := low_tail hLow)); (try k_lt l1); (try dsimp only); (try k_lift B'); (try k_fold))
  repeat' (first | (k_unfold; try dsimp only) | (k_end; kc_close) | (walk1; all_goals ((try k_fold); (try dsimp only); try with_reducible refine wpAny_tk fun _ => ?_)) | (dsimp only; walk1) | (leave1; try dsimp only))
  all_goals cb_end hret
end
section
noncomputable def fmTab : Nat → List (Int × Nat)
  | 0 => [(40960, 108), (49152, 115), (32768, 45), (24576, 98), (16384, 100), (8192, 99), (4096, 112)]
  | 1 => [(256, 114)]
  | 2 => [(128, 119)]
  | 3 => [(2112, 115), (2048, 83), (64, 120)]
  | 4 => [(32, 114)]
  | 5 => [(16, 119)]
  | 6 => [(1032, 115), (1024, 83), (8, 120)]
  | 7 => [(4, 114)]
  | 8 => [(2, 119)]
  | _ => [(513, 116), (512, 84), (1, 120)]
noncomputable def fmTest (i : Nat) (v b : Int) : Bool := if i = 0 then decide (Builtin.bitAnd v 61440 = b) else decide (Builtin.bitAnd v b = b)
noncomputable def fmC (v : Int) (i : Nat) : Nat := match (fmTab i).find? (fun p => fmTest i v p.1) with
  | some p => p.2
  | none => if i = 0 then 63 else 45
noncomputable def fmL (v : Int) (i : Nat) : List Str := (List.range i).map fun j => ⟨#[fmC v j]⟩
noncomputable def fmF (v : Int) : Str := ⟨((List.range 10).map (fmC v)).toArray⟩
noncomputable abbrev fmItems : Array Value := #[.ref 221, .ref 223, .ref 225, .ref 229, .ref 231, .ref 233, .ref 237, .ref 239, .ref 241, .ref 245]
noncomputable def TabFact (g : Heap) (i : Nat) (u : Value) : Prop := ∃ (a : Addr) (its : Array Value), u = Value.ref a ∧ g.IsTuple a its ∧ its.size = (fmTab i).length ∧ ∀ (j : Nat) (u : Value), its[j]? = some u → ∃ (T : Addr) (b : Int) (tb : Tok) (c : Nat) (tc : Tok), u = Value.ref T ∧ g.IsTuple T #[.int b tb, .str ⟨#[c]⟩ tc] ∧ (fmTab i)[j]? = some (b, c)
noncomputable def RowsTab (g : Heap) : List Value → List (Int × Nat) → Prop
  | [], [] => True
  | u :: us, p :: r => (∃ (T : Addr) (tb tc : Tok), u = .ref T ∧ g.IsTuple T #[.int p.1 tb, .str ⟨#[p.2]⟩ tc]) ∧ RowsTab g us r
  | _, _ => False
theorem RowsTab.len {g : Heap} : ∀ {us : List Value} {l : List (Int × Nat)}, RowsTab g us l → us.length = l.length
  | [], [], _ => rfl
  | _ :: _, _ :: _, h => congrArg (· + 1) (RowsTab.len h.2)
theorem RowsTab.at {g : Heap} : ∀ {us : List Value} {l : List (Int × Nat)} {j : Nat} {u : Value}, RowsTab g us l → us[j]? = some u → ∃ (T : Addr) (b : Int) (tb : Tok) (c : Nat) (tc : Tok), u = .ref T ∧ g.IsTuple T #[.int b tb, .str ⟨#[c]⟩ tc] ∧ l[j]? = some (b, c)
  | _ :: _, p :: _, 0, _, h, e => by
    refine hide fun G kG => ?_
    obtain ⟨⟨T, tb, tc, h1, h2⟩, _⟩ := h
    refine kG ?_
    cases e
    exact ⟨T, p.1, tb, p.2, tc, h1, h2, rfl⟩
  | _ :: us, _ :: l, j + 1, u, h, e => RowsTab.at (us := us) (l := l) (j := j) (u := u) h.2 e
theorem tab_of {g : Heap} {a : Addr} {i : Nat} {its : List Value} (h : g.IsTuple a its.toArray) (r : RowsTab g its (fmTab i)) : TabFact g i (.ref a) :=
  ⟨a, its.toArray, rfl, h, by rw [List.size_toArray]; exact r.len, fun j u hj => r.at (by rw [List.getElem?_toArray] at hj; exact hj)⟩
theorem tab_facts {w : World} {g : Heap} (X : (hd.heap_39 w.params).In g) (i : Nat) (u : Value) (hu : fmItems[i]? = some u) : TabFact g i u := by
  revert X
  k_fill
  intro X
  have hi : i < 10 := (Array.getElem?_eq_some_iff.mp hu).1
  have one : ∀ {T : Addr} {o : Obj} {b : Int} {tb : Tok} {c : Nat} {tc : Tok} {n : Nat}, (hd.heap_39 w.params).lookup T = some o → o.cls = .type "tuple" → o.data = .seq #[.int b tb, .str ⟨#[c]⟩ tc] n → g.IsTuple T #[.int b tb, .str ⟨#[c]⟩ tc] := fun h1 h2 h3 => ⟨_, X _ _ h1, h2, _, h3⟩
  have : i = 0 ∨ i = 1 ∨ i = 2 ∨ i = 3 ∨ i = 4 ∨ i = 5 ∨ i = 6 ∨ i = 7 ∨ i = 8 ∨ i = 9 := ten hi
  rcases this with rfl | rfl | rfl | rfl | rfl | rfl | rfl | rfl | rfl | rfl
  all_goals (
    cases Option.some.inj hu
    refine tab_of ⟨_, X _ _ rfl, rfl, _, rfl⟩ ?_
    repeat (first | exact trivial | refine ⟨⟨_, _, _, rfl, one rfl rfl rfl⟩, ?_⟩))
theorem fmL_succ (v : Int) (i : Nat) : fmL v (i + 1) = fmL v i ++ [⟨#[fmC v i]⟩] := by
  unfold fmL
  rw [List.range_succ, List.map_append]
  rfl
theorem fr_two {h₀ h : Heap} {L : Addr} {m : Str → Option Value} {a b : Str} {u v : Value} (F : Fr h₀ L h m) (e1 : m a = some u) (e2 : m b = some v) : Fr h₀ L h (fun y => if y = a then some u else if y = b then some v else m y) := fr_eq F fun y => by
  by_cases q : y = a
  · rw [if_pos q, q, e1]
  · rw [if_neg q]
    by_cases q : y = b
    · rw [if_pos q, q, e2]
    · rw [if_neg q]
theorem fm_join (v : Int) : Txt.join (Str.ofString "") (fmL v 10) = fmF v := by
  rw [show Str.ofString "" = ⟨#[]⟩ from by decide +kernel]
  show Builtin.Str.glued _ _ = _
  rw [StrLaws.glued_eq_join]
  refine Str.ext' ?_
  simp [fmL, fmF, List.range_succ, Str.join, Str.cps_append]
theorem find_at {α : Type} {p : α → Bool} {x : α} : ∀ {l : List α} {j : Nat}, (l.take j).find? p = none → l[j]? = some x → p x = true → l.find? p = some x
  | [], _, _, h, _ => by simp at h
  | y :: r, 0, _, h, hp => by
    cases h
    rw [List.find?_cons_of_pos hp]
  | y :: r, j + 1, hn, h, hp => by
    rw [List.take_succ_cons] at hn
    cases hy : p y with
    | true => rw [List.find?_cons_of_pos hy] at hn; cases hn
    | false =>
      rw [List.find?_cons_of_neg (by rw [hy]; exact Bool.false_ne_true)] at hn ⊢
      exact find_at hn (by simpa using h) hp
theorem find_no {α : Type} {p : α → Bool} {x : α} {l : List α} {j : Nat} (hn : (l.take j).find? p = none) (h : l[j]? = some x) (hp : p x = false) : (l.take (j + 1)).find? p = none := by
  rw [List.take_add_one, h, List.find?_append, hn]
  simp [hp]
theorem fmC_hit {v : Int} {i j : Nat} {b : Int} {c : Nat} (hn : ((fmTab i).take j).find? (fun p => fmTest i v p.1) = none) (h : (fmTab i)[j]? = some (b, c)) (hp : fmTest i v b = true) : fmC v i = c := by
  unfold fmC
  rw [find_at hn h hp]
theorem fmC_miss {v : Int} {i n : Nat} (hn : ((fmTab i).take n).find? (fun p => fmTest i v p.1) = none) (hl : n = (fmTab i).length) : fmC v i = if i = 0 then 63 else 45 := by
  rw [hl, List.take_length] at hn
  unfold fmC
  rw [hn]
theorem fm_c (w : World) (mean : ExcName → Option Value) (mg mb : Str → Option Value) (v : Int) (t : CbTok) (news : CbLed)
   (dp un : Nat) (gd : Option (List Code)) (cn : Str) (cs : Scope) (a : Addr) (ccd : Value) (cl : List (Str × Addr)) (outer : List Env) (A₀ : Around) (base h₀ : Heap) (L : Addr) (m : Str → Option Value) (s : Shared) (Q E : Value → Shared → Prop)
   (B : Below A₀ base outer h₀) (F : Fr h₀ L s.heap m) (X : (hd.heap_39 w.params).In h₀) (N : News h₀ L s.heap news) (T : Top topProg looseL mean mg mb h₀)
   (hk : cs.kind = .function) (hpre : 0 ≤ v ∧ v < 65536) (hdp : dp + 4 < recursionLimit) (hu : un + 24 < cLine)
   (hret : ∀ (t : Tok) (h' : Heap) (tk' : Nat), Fr h₀ L h' m → News h₀ L h' news → Q (.str (fmF v) t) { s with heap := h', toks := tk' }) :
   wpAny (model Challenge.rw_in0190_01.row.prog w) (ktrTop dp un gd cn cs L a ccd cl outer) (call (.ref 253) [.int v t]) Q E s := by
  revert X; k_fill; intro X
  (refine wpAny_call ?_; refine' enterP ?k1 ?k2 ?k3 ?k4 ?k5 ?kA ?kF ?kK ?k6 ?k7 ?k8 ?k9 ?kB ?_ ?c2 ?c3 ?c4 ?c5; (case kA | kF => exact rfl); (case kK => assumption); (case k1 | k2 => k_asm); (case k3 | k4 | k5 => k_asm); (case k6 | k7 => k_is); (case k8 => ktr_room); (case k9 => exact BindsTo.of_eq rfl); (case c5 => decide); (case kB => exact locs rfl); (case c2 | c3 | c4 => exact rfl); k_whole; intro g' L' h' FG' F' N' B' X' T' hLow; have l1 := hLow.all; (repeat (replace hLow := low_tail hLow)); (try k_lt l1); (try dsimp only); (try k_lift B'); (try k_fold))
  repeat' (first | (k_unfold; try dsimp only) | (k_end; kc_close) | (walk1; all_goals ((try k_fold); (try dsimp only); try with_reducible refine wpAny_tk fun _ => ?_)) | (dsimp only; walk1) | (leave1; try dsimp only))
  refine Halt.in ?_
  refine forEnum (by k_asm) (by rfl) (by rfl) (by rfl) (by rfl) ?_
  repeat' (first | (k_unfold; try dsimp only) | (k_end; kc_close) | (walk1; all_goals ((try k_fold); (try dsimp only); try with_reducible refine wpAny_tk fun _ => ?_)) | (dsimp only; walk1) | (leave1; try dsimp only))
  rename_i P hP kl1 kl kF kN _ _ _ _ _ _ _
  refine enumMade (items := fmItems) (fun i m nw => m (Str.ofString "perm") = some (.ref P) ∧ m (Str.ofString "mode") = some (.int v t) ∧ ∃ vs k, StrsAre vs (fmL v i) ∧ nw = (P, W.listOf vs.toArray k) :: news) (by rfl) ⟨_, X' 246 _ rfl, rfl, _, rfl⟩ (by k_asm) (by k_asm) ⟨rfl, rfl, [], _, .nil, rfl⟩ ?_ ?_
  · intro i tt u e it oe oi m₁ nw h tk hi hx12 F₁ N₁ off
    refine hide fun G kG => ?_
    obtain ⟨e1, e2, vs, kk, hvs, rfl⟩ := hx12
    refine kG ?_
    have hP0 := off _ (.head _)
    have hNP : ∀ p ∈ news, p.1 ≠ P := fun p hp => Nat.ne_of_lt (kl1 p hp)
    have hvl : vs.length ≤ 10 := by
      have hi10 : i < 10 := (Array.getElem?_eq_some_iff.mp hi).1
      rw [hvs.length]
      simp only [fmL, List.length_map, List.length_range]
      omega
    refine hide fun G kG => ?_
    obtain ⟨a, its, rfl, hta, hsz, hits⟩ := tab_facts X' i u hi
    refine kG ?_
    replace F₁ := fr_two F₁ (a := Str.ofString "perm") (b := Str.ofString "mode") (u := .ref P) (v := .int v t) e1 e2
    repeat' (first | (k_unfold; try dsimp only) | (k_end; kc_close) | (walk1; all_goals ((try k_fold); (try dsimp only); try with_reducible refine wpAny_tk fun _ => ?_)) | (dsimp only; walk1) | (leave1; try dsimp only))
    refine Halt.in ?_
    refine forPairs (by k_asm) (by rfl) (by rfl) (by rfl) (by rfl) ?_
    repeat' (first | (k_unfold; try dsimp only) | (k_end; kc_close) | (walk1; all_goals ((try k_fold); (try dsimp only); try with_reducible refine wpAny_tk fun _ => ?_)) | (dsimp only; walk1) | (leave1; try dsimp only))
    refine ⟨a, its, fun j x y => ∃ b tb c tc, x = .int b tb ∧ y = .str ⟨#[c]⟩ tc ∧ (fmTab i)[j]? = some (b, c), _, _, fun j m nw => m (Str.ofString "perm") = some (.ref P) ∧ m (Str.ofString "mode") = some (.int v t) ∧ m (Str.ofString "index") = some (.int (i : Nat) tt) ∧ ((fmTab i).take j).find? (fun p => fmTest i v p.1) = none ∧ nw = (e, oe) :: (it, oi) :: (P, W.listOf vs.toArray kk) :: news, rfl, by rfl, hta, fun j u hj => ?_, by k_asm, N₁, ⟨rfl, rfl, rfl, by rw [List.take_zero]; rfl, rfl⟩, ?_, ?_⟩
    · refine hide fun G kG => ?_
      obtain ⟨T, b, tb, c, tc, rfl, hT, hb⟩ := hits j u hj
      refine kG ?_
      exact ⟨T, _, _, rfl, hT, b, tb, c, tc, rfl, rfl, hb⟩
    · intro I j x y oI m₂ nw h₂ tk₂ hj hx10 hx11 F₂ N₂ off₂
      refine hide fun G kG => ?_
      obtain ⟨b, tb, c, tc, rfl, rfl, hb⟩ := hx10
      obtain ⟨e3, e4, e5, hno, rfl⟩ := hx11
      refine kG ?_
      have hPI := off₂ (P, W.listOf vs.toArray kk) (by simp)
      by_cases hi0 : i = 0
      · subst hi0
        replace F₂ := fr_two (fr_two F₂ (a := Str.ofString "perm") (b := Str.ofString "mode") (u := .ref P) (v := .int v t) e3 e4) (a := Str.ofString "index") (b := Str.ofString "perm") (u := .int 0 tt) (v := .ref P) e5 rfl
        repeat' (first | (k_unfold; try dsimp only) | (k_end; kc_close) | (walk1; all_goals ((try k_fold); (try dsimp only); try with_reducible refine wpAny_tk fun _ => ?_)) | (dsimp only; walk1) | (leave1; try dsimp only))
        refine ifmt_claim w mean mg mb _ v _ (dp + 1) (un + 3) gd _ _ _ _ _ _ _ _ _ _ _ _ _ _ (by assumption) F₂ (by assumption) N₂ (by assumption) rfl trivial (by first | exact room_of hdp rfl | exact room_of (c := 5) hdp rfl | omega) (by first | exact room_of hu rfl | exact room_of (c := 27) hu rfl | omega) fun t5 h5 tk5 F5 N5 => ?_
        dsimp only
        repeat' (first | (k_unfold; try dsimp only) | (k_end; kc_close) | (walk1; all_goals ((try k_fold); (try dsimp only); try with_reducible refine wpAny_tk fun _ => ?_)) | (dsimp only; walk1) | (leave1; try dsimp only))
        · refine append_mine (pre := [(I, oI), (e, oe), (it, oi)]) (by k_asm) (by k_asm) ?_ hNP ?_ fun h6 F6 N6 => ?_
          · intro p hp
            simp only [List.mem_cons, List.not_mem_nil, or_false] at hp
            rcases hp with rfl | rfl | rfl
            · exact Ne.symm hPI
            · exact Ne.symm hP0.1
            · exact Ne.symm hP0.2
          · exact Nat.le_trans hvl (by rw [sizeLine_eq]; decide)
          · simp only [List.cons_append, List.nil_append] at N6
            repeat' (first | (k_unfold; try dsimp only) | (k_end; kc_close) | (walk1; all_goals ((try k_fold); (try dsimp only); try with_reducible refine wpAny_tk fun _ => ?_)) | (dsimp only; walk1) | (leave1; try dsimp only))
            show wpAny _ _ (execs [] _) _ _ _
            repeat' (first | (k_unfold; try dsimp only) | (k_end; kc_close) | (walk1; all_goals ((try k_fold); (try dsimp only); try with_reducible refine wpAny_tk fun _ => ?_)) | (dsimp only; walk1) | (leave1; try dsimp only))
            refine ⟨_, _, _, _, rfl, by k_asm, fun p hp => N6 p (.tail _ hp), ?_, rfl, rfl, _, _, ?_, rfl⟩
            · intro p hp
              rcases List.mem_cons.mp hp with rfl | hp
              · exact hP0
              · exact off p (.tail _ hp)
            · rw [fmL_succ, fmC_hit hno hb (by simp only [fmTest, if_true]; exact decide_eq_true (by assumption))]
              exact PySem.W.KStt.strs_snoc hvs
        · refine ⟨_, _, _, _, rfl, by k_asm, by k_asm, off₂, rfl, rfl, rfl, find_no hno hb (by simp only [fmTest, if_true]; exact decide_eq_false (by assumption)), rfl⟩
      · have hi1 : ¬ ((i : Nat) : Int) = 0 := by omega
        replace F₂ := fr_two (fr_two F₂ (a := Str.ofString "perm") (b := Str.ofString "mode") (u := .ref P) (v := .int v t) e3 e4) (a := Str.ofString "index") (b := Str.ofString "perm") (u := .int (i : Nat) tt) (v := .ref P) e5 rfl
        repeat' (first | (k_unfold; try dsimp only) | (k_end; kc_close) | (walk1; all_goals ((try k_fold); (try dsimp only); try with_reducible refine wpAny_tk fun _ => ?_)) | (dsimp only; walk1) | (leave1; try dsimp only))
        · exact absurd (by assumption) hi1
        · refine append_mine (pre := [(I, oI), (e, oe), (it, oi)]) (by k_asm) (by k_asm) ?_ hNP ?_ fun h6 F6 N6 => ?_
          · intro p hp
            simp only [List.mem_cons, List.not_mem_nil, or_false] at hp
            rcases hp with rfl | rfl | rfl
            · exact Ne.symm hPI
            · exact Ne.symm hP0.1
            · exact Ne.symm hP0.2
          · exact Nat.le_trans hvl (by rw [sizeLine_eq]; decide)
          · simp only [List.cons_append, List.nil_append] at N6
            repeat' (first | (k_unfold; try dsimp only) | (k_end; kc_close) | (walk1; all_goals ((try k_fold); (try dsimp only); try with_reducible refine wpAny_tk fun _ => ?_)) | (dsimp only; walk1) | (leave1; try dsimp only))
            show wpAny _ _ (execs [] _) _ _ _
            repeat' (first | (k_unfold; try dsimp only) | (k_end; kc_close) | (walk1; all_goals ((try k_fold); (try dsimp only); try with_reducible refine wpAny_tk fun _ => ?_)) | (dsimp only; walk1) | (leave1; try dsimp only))
            refine ⟨_, _, _, _, rfl, by k_asm, fun p hp => N6 p (.tail _ hp), ?_, rfl, rfl, _, _, ?_, rfl⟩
            · intro p hp
              rcases List.mem_cons.mp hp with rfl | hp
              · exact hP0
              · exact off p (.tail _ hp)
            · rw [fmL_succ, fmC_hit hno hb (by simp only [fmTest, if_neg hi0]; exact decide_eq_true (by assumption))]
              exact PySem.W.KStt.strs_snoc hvs
        · refine ⟨_, _, _, _, rfl, by k_asm, by k_asm, off₂, rfl, rfl, rfl, find_no hno hb (by simp only [fmTest, if_neg hi0]; exact decide_eq_false (by assumption)), rfl⟩
    · intro m₂ nw h₂ tk₂ hx4 F₂ N₂
      refine hide fun G kG => ?_
      obtain ⟨e3, e4, e5, hno, rfl⟩ := hx4
      refine kG ?_
      by_cases hi0 : i = 0
      · subst hi0
        replace F₂ := fr_two (fr_two F₂ (a := Str.ofString "perm") (b := Str.ofString "mode") (u := .ref P) (v := .int v t) e3 e4) (a := Str.ofString "index") (b := Str.ofString "perm") (u := .int 0 tt) (v := .ref P) e5 rfl
        repeat' (first | (k_unfold; try dsimp only) | (k_end; kc_close) | (walk1; all_goals ((try k_fold); (try dsimp only); try with_reducible refine wpAny_tk fun _ => ?_)) | (dsimp only; walk1) | (leave1; try dsimp only))
        refine append_mine (pre := [(e, oe), (it, oi)]) (by k_asm) (by k_asm) ?_ hNP ?_ fun h6 F6 N6 => ?_
        · intro p hp
          simp only [List.mem_cons, List.not_mem_nil, or_false] at hp
          rcases hp with rfl | rfl
          · exact Ne.symm hP0.1
          · exact Ne.symm hP0.2
        · exact Nat.le_trans hvl (by rw [sizeLine_eq]; decide)
        · simp only [List.cons_append, List.nil_append] at N6
          repeat' (first | (k_unfold; try dsimp only) | (k_end; kc_close) | (walk1; all_goals ((try k_fold); (try dsimp only); try with_reducible refine wpAny_tk fun _ => ?_)) | (dsimp only; walk1) | (leave1; try dsimp only))
          refine ⟨_, _, _, _, rfl, by k_asm, N6, ?_, rfl, rfl, _, _, ?_, rfl⟩
          · intro p hp
            rcases List.mem_cons.mp hp with rfl | hp
            · exact hP0
            · exact off p (.tail _ hp)
          · rw [fmL_succ, fmC_miss hno hsz, if_pos rfl, ← show Str.ofString "?" = ⟨#[63]⟩ from by decide +kernel]
            exact PySem.W.KStt.strs_snoc hvs
      · have hi1 : ¬ ((i : Nat) : Int) = 0 := by omega
        replace F₂ := fr_two (fr_two F₂ (a := Str.ofString "perm") (b := Str.ofString "mode") (u := .ref P) (v := .int v t) e3 e4) (a := Str.ofString "index") (b := Str.ofString "perm") (u := .int (i : Nat) tt) (v := .ref P) e5 rfl
        repeat' (first | (k_unfold; try dsimp only) | (k_end; kc_close) | (walk1; all_goals ((try k_fold); (try dsimp only); try with_reducible refine wpAny_tk fun _ => ?_)) | (dsimp only; walk1) | (leave1; try dsimp only))
        · exact absurd (by assumption) hi1
        · refine append_mine (pre := [(e, oe), (it, oi)]) (by k_asm) (by k_asm) ?_ hNP ?_ fun h6 F6 N6 => ?_
          · intro p hp
            simp only [List.mem_cons, List.not_mem_nil, or_false] at hp
            rcases hp with rfl | rfl
            · exact Ne.symm hP0.1
            · exact Ne.symm hP0.2
          · exact Nat.le_trans hvl (by rw [sizeLine_eq]; decide)
          · simp only [List.cons_append, List.nil_append] at N6
            repeat' (first | (k_unfold; try dsimp only) | (k_end; kc_close) | (walk1; all_goals ((try k_fold); (try dsimp only); try with_reducible refine wpAny_tk fun _ => ?_)) | (dsimp only; walk1) | (leave1; try dsimp only))
            refine ⟨_, _, _, _, rfl, by k_asm, N6, ?_, rfl, rfl, _, _, ?_, rfl⟩
            · intro p hp
              rcases List.mem_cons.mp hp with rfl | hp
              · exact hP0
              · exact off p (.tail _ hp)
            · rw [fmL_succ, fmC_miss hno hsz, if_neg hi0, ← show Str.ofString "-" = ⟨#[45]⟩ from by decide +kernel]
              exact PySem.W.KStt.strs_snoc hvs
  · intro m₁ nw h tk hx4 F₁ N₁
    refine hide fun G kG => ?_
    obtain ⟨e1, e2, vs, kk, hvs, rfl⟩ := hx4
    refine kG ?_
    replace F₁ := fr_two F₁ (a := Str.ofString "perm") (b := Str.ofString "mode") (u := .ref P) (v := .int v t) e1 e2
    dsimp only
    repeat' (first | (k_unfold; try dsimp only) | (k_end; kc_close) | (walk1; all_goals ((try k_fold); (try dsimp only); try with_reducible refine wpAny_tk fun _ => ?_)) | (dsimp only; walk1) | (leave1; try dsimp only))
    refine join_listW (ys := fmL v 10) (N₁.isList (.head _)) (by simpa using hvs) (by decide +kernel) (by simp [fmL, Str.length, List.range_succ]) fun t9 k9 => ?_
    rw [fm_join]
    repeat' (first | (k_unfold; try dsimp only) | (k_end; kc_close) | (walk1; all_goals ((try k_fold); (try dsimp only); try with_reducible refine wpAny_tk fun _ => ?_)) | (dsimp only; walk1) | (leave1; try dsimp only))
    exact hret _ _ _ (by k_asm) (PySem.W.KStt.news_of (by k_asm) fun p hp => .tail _ hp)
end
section
theorem pga_kind : builtinKind "tuple.__getattribute__" = some .method ∨ builtinKind "tuple.__getattribute__" = some .slot := by rw [builtinKind_eq_fast]; decide +kernel
theorem pga_split : splitId "tuple.__getattribute__" = some ("tuple", "__getattribute__") := by decide +kernel
theorem pga_bind (self : Value) : bindSpecial (.builtin "tuple.__getattribute__") self = pure (.builtin "tuple.__getattribute__", [self]) :=
  (Slot.of (T := "tuple") (name := "__getattribute__") (owner := "tuple") (n := "__getattribute__") (by rw [typeLookup_type, builtinLookup_eq_fast]; kernel_rfl) (by decide +kernel) (by decide +kernel) (by decide +kernel)
    (.inl (by decide +kernel)) (by rw [isSubtype_type]; kernel_rfl)).bind self
section
variable {prog : Program} {w : World} {A : Around} {E : Value → Shared → Prop} {h : Heap} {g : Array GenState} {d : Drawn} {t : Nat} {os : OsState}
end
theorem getAttr_pair {w : World} {A : Around} {E : Value → Shared → Prop} {s : Shared} {p dx d : Nat} {v0 v1 : Value} {name : Str} {expr : Bool} {Q : Value → Shared → Prop} (X : (hd.heap_39 w.params).In s.heap) (hp : s.heap.get? p = some (pairObj dx v0 v1)) (hdx : s.heap.get? dx = some emptyDict)
    (hf : findObj (hd.heap_39 w.params) 203 (some emptyDict) name = some (.bind (.ref 61) (.ref d)))
    (h : wpAny (model Challenge.rw_in0190_01.row.prog w) A.in1 (call (.ref 61) [.ref d, .ref p, .ref 203]) Q (fun _ _ => False) { s with toks := s.toks + 1 }) (ho : ∀ v s', Q v s' → handedIn v = true) :
    wpAny (model Challenge.rw_in0190_01.row.prog w) A (getAttr (.ref p) name expr) Q E s := by
  revert X hf; k_fill; intro X hf
  obtain ⟨hh, g, dr, t, os⟩ := s
  have I : InstAt hh p (pairObj dx v0 v1) 203 (some emptyDict) := ⟨hp, rfl, rfl, hdx⟩
  have L0 := I.type (M := model Challenge.rw_in0190_01.row.prog w)
  have L1 : Looks (model Challenge.rw_in0190_01.row.prog w) hh (typeLookup (.ref 203) "__getattribute__") (some (.builtin "tuple.__getattribute__")) := looks_findIn X (by k_is)
  have L2 : Looks (model Challenge.rw_in0190_01.row.prog w) hh (typeLookup (.ref 203) "__getattr__") none := looks_findIn X (by k_is)
  have L3 := looks_find (M := model Challenge.rw_in0190_01.row.prog w) X I hf
  have ib : Looks (model Challenge.rw_in0190_01.row.prog w) hh (isInstance (.ref p) (.type "tuple")) true := L0.andThen (looks_mroIn X (by k_is))
  unfold getAttr getAttrBy
  refine wpAny_bind (wpAny_mkText (wpAny_holding (wpAny_bind (L0.at (wpAny_bind (L1.at ?_))))))
  show wpAny _ _ (getAttrByItsOwn _ _ _ _ _ _) _ _ _
  unfold getAttrByItsOwn
  refine wpAny_bind ?_
  show wpAny _ _ (typeLookup (.ref 203) "__getattr__") _ _ _
  refine L2.at ?_
  refine wpAny_bind (wpAny_attempt (wpAny_holding ?_))
  show wpAny _ _ (if (expr && false) = true then _ else boundAndCalled _ _ _) _ _ _
  rw [Bool.and_false, if_neg Bool.false_ne_true]
  unfold boundAndCalled
  rw [pga_bind]
  refine wpAny_bind (wpAny_pure ?_)
  dsimp only
  refine PySem.W.X.x_call ?_ (by intro e; cases e)
  refine codeAny_call_builtin (by decide +kernel) PySem.F.entry_tuple_ga (@check_any (model Challenge.rw_in0190_01.row.prog w) _ _ _ "tuple.__getattribute__" "tuple" "__getattribute__" (.ref p) [.str name t] [] _ pga_kind pga_split ib (PySem.F.args_tuple_getattribute_2 (.ref p) (.str name t)) ?_)
  unfold Builtin.«object.__getattribute__»
  refine wpAny_bind (wpAny_pure ?_)
  dsimp only
  refine wpAny_bind (wpAny_pure ?_)
  refine wpAny_bind (L0.at ?_)
  refine wpAny_bind (L3.at ?_)
  show wpAny _ _ (holding _ (call (.ref 61) [.ref d, .ref p, .ref 203]) >>= ret) _ _ _
  refine wpAny_bind (wpAny_holding (wpAny_mono h (fun v s' hv => ?_) fun _ _ x => x.elim))
  refine wpAny_pure ?_
  refine wpAny_bind (wpAny_pure ?_)
  refine wpAny_pure ?_
  rw [handedOut_of (ho _ _ hv)]
  exact wpAny_pure hv
theorem issub_pair {w : World} {A : Around} {E : Value → Shared → Prop} {s : Shared} {Q : Value → Shared → Prop} (X : (hd.heap_39 w.params).In s.heap) (h : Q (.bool true) s) : wpAny (model Challenge.rw_in0190_01.row.prog w) A (call (.builtin "issubclass") [.ref 203, .type "tuple"]) Q E s := by
  revert X; k_fill; intro X
  refine call_issubclass (S := fun _ R s => ((∃ oc od cd sl, s.heap.get? 203 = some ⟨oc, od, .cls cd, sl⟩) ∧ (∀ M, Looks M s.heap (isSubtype (.ref 203) (.type "tuple")) true)) ∧ R (.ok (.ret (.bool true))) s) (fun prog' w' A' R s' hS => issubclass_outer ?_) ⟨⟨⟨_, _, _, _, X 203 _ rfl⟩, fun M => looks_mroIn X (by k_is)⟩, h⟩
  obtain ⟨⟨⟨oc, od, cd, sl, hC⟩, tu⟩, hR⟩ := hS
  obtain ⟨hh, g, d, t, os⟩ := s'
  unfold Builtin.«issubclass.nested»
  refine wpAny_bind (wpAny_pure ?_)
  rw [if_pos (by decide +kernel)]
  k_delta "plainIsSubclass"
  have t1 : Looks (model prog' w') hh (isType (.ref 203)) true := by
    unfold isType
    exact (Looks.ld (part := none) hC).andThen .now
  refine wpAny_bind (wpAny_bind (t1.at ?_))
  refine wpAny_bind (wpAny_pure ?_)
  rw [if_pos (by decide)]
  refine (tu _).at ?_
  exact wpAny_pure hR
theorem tgi_item {w : World} {A : Around} {E : Value → Shared → Prop} {s : Shared} {p dx : Nat} {v0 v1 x : Value} {i : Int} {u : Tok} {k : Nat} {Q : Value → Shared → Prop} (X : (hd.heap_39 w.params).In s.heap) (hp : s.heap.get? p = some (pairObj dx v0 v1)) (hdx : s.heap.get? dx = some emptyDict)
    (hlo : -2 ^ 63 ≤ i) (hhi : i < 2 ^ 63) (hk : seqIndex? i 2 = some k) (hy : #[v0, v1][k]? = some x) (hx : handedIn x = true) (hq : Q x s) :
    wpAny (model Challenge.rw_in0190_01.row.prog w) A (call (.builtin "tuple.__getitem__") [.ref p, .int i u]) Q E s := by
  revert X; k_fill; intro X
  obtain ⟨hh, g, dr, t, os⟩ := s
  have I : InstAt hh p (pairObj dx v0 v1) 203 (some emptyDict) := ⟨hp, rfl, rfl, hdx⟩
  have L0 := I.type (M := model Challenge.rw_in0190_01.row.prog w)
  have ib : Looks (model Challenge.rw_in0190_01.row.prog w) hh (isInstance (.ref p) (.type "tuple")) true := L0.andThen (looks_mroIn X (by k_is))
  refine PySem.W.X.x_call ?_ (by intro e; cases e)
  refine codeAny_call_builtin (by decide +kernel) PyProof.Rows.entry_tuple_getitem (@check_any (model Challenge.rw_in0190_01.row.prog w) _ _ _ "tuple.__getitem__" "tuple" "__getitem__" (.ref p) [.int i u] [] _ (by decide +kernel) (by decide +kernel) ib (PyProof.Rows.args_tuple_getitem _ _) ?_)
  have hl : hh.get? p = some { cls := .ref 203, dict := some dx, data := .seq #[v0, v1] } := hp
  have f1 := AutoSeq1.idx_int
  have hf : ¬ (decide (i < -2 ^ 63) || decide (i ≥ 2 ^ 63)) = true := by simp; omega
  unfold Builtin.«tuple.__getitem__»
  wp_walk using wpAny_loadPart' hl
  refine wpAny_ite_false (decide_eq_false hf) ?_
  dsimp only
  repeat (first | simp -iota only [show (#[v0, v1] : Array Value).size = 2 from rfl, hk, hy, Option.bind_some] | dsimp only)
  wp_walk
  exact hq
theorem pair_get (w : World) (mean : ExcName → Option Value) (mg mb : Str → Option Value) (p dx : Nat) (v0 v1 : Value) (rest : CbLed)
   (dp un : Nat) (gd : Option (List Code)) (cn : Str) (cs : Scope) (a : Addr) (ccd : Value) (cl : List (Str × Addr)) (outer : List Env) (A₀ : Around) (base h₀ : Heap) (L : Addr) (m : Str → Option Value) (s : Shared) (Q E : Value → Shared → Prop) (expr : Bool) (i : Nat) (d : Nat) (name : Str) (hid : (name = Str.ofString "name" ∧ d = 172 ∧ i = 0) ∨ (name = Str.ofString "value" ∧ d = 175 ∧ i = 1))
   (B : Below A₀ base outer h₀) (F : Fr h₀ L s.heap m) (X : (hd.heap_39 w.params).In h₀) (N : News h₀ L s.heap ((p, pairObj dx v0 v1) :: (dx, emptyDict) :: rest)) (T : Top topProg looseL mean mg mb h₀)
   (hk : cs.kind = .function) (hdp : dp + 4 < recursionLimit) (hu : un + 24 < cLine) (hh0 : handedIn v0 = true) (hh1 : handedIn v1 = true)
   (hret : ∀ (h' : Heap) (tk' : Nat), Fr h₀ L h' m → News h₀ L h' ((p, pairObj dx v0 v1) :: (dx, emptyDict) :: rest) → Q (if i = 0 then v0 else v1) { s with heap := h', toks := tk' }) :
   wpAny (model Challenge.rw_in0190_01.row.prog w) (ktrTop dp un gd cn cs L a ccd cl outer) (getAttr (.ref p) name expr) Q E s := by
  have XF := X.keeps F.keep
  revert X XF; k_fill; intro X XF
  rcases hid with ⟨rfl, rfl, rfl⟩ | ⟨rfl, rfl, rfl⟩
  · refine wpAny_mono (getAttr_pair (Q := fun v s' => v = v0 ∧ Q v s') (d := 172) XF (N _ (.head _)).1 (N _ (.tail _ (.head _))).1 ?_ ?_ ?_) (fun v s' z => z.2) fun _ _ z => z
    · exact findObj_data (a := .ref 172) (g := .ref 61) (by rfl) (by rfl) (by rfl) (by rfl)
    · refine wpAny_call ?_
      (refine' enterP ?k1 ?k2 ?k3 ?k4 ?k5 ?kA ?kF ?kK ?k6 ?k7 ?k8 ?k9 ?kB ?_ ?c2 ?c3 ?c4 ?c5; (case kA | kF => exact rfl); (case kK => exact hk); (case k1 => exact B); (case k2 => exact F); (case k3 => exact X); (case k4 => exact N); (case k5 => exact T); (case k6 | k7 => k_is); (case k8 => ktr_room); (case k9 => exact BindsTo.of_defaults rfl ((XF _ _ rfl : _)) rfl rfl rfl); (case c5 => decide); (case kB => exact locs rfl); (case c2 | c3 | c4 => exact rfl); intro g' L' h' FG' F' N' B' X' T' hLow; (try dsimp only))
      repeat' (first | (k_unfold; try dsimp only) | (k_end; kc_close) | (walk1; all_goals ((try k_fold); (try dsimp only); try with_reducible refine wpAny_tk fun _ => ?_)) | (dsimp only; walk1) | (leave1; try dsimp only))
      have I2 : InstAt _ p (pairObj dx v0 v1) 203 (some emptyDict) := ⟨(N' _ (.head _)).1, rfl, rfl, (N' _ (.tail _ (.head _))).1⟩
      refine kto_own I2 ?_
      repeat' (first | (k_unfold; try dsimp only) | (k_end; kc_close) | (walk1; all_goals ((try k_fold); (try dsimp only); try with_reducible refine wpAny_tk fun _ => ?_)) | (dsimp only; walk1) | (leave1; try dsimp only))
      refine issub_pair (X'.keeps (Fr.keep (h₀ := g') (by k_asm))) ?_
      repeat' (first | (k_unfold; try dsimp only) | (k_end; kc_close) | (walk1; all_goals ((try k_fold); (try dsimp only); try with_reducible refine wpAny_tk fun _ => ?_)) | (dsimp only; walk1) | (leave1; try dsimp only))
      refine getMethod_tgi fun t9 => ?_
      repeat' (first | (k_unfold; try dsimp only) | (k_end; kc_close) | (walk1; all_goals ((try k_fold); (try dsimp only); try with_reducible refine wpAny_tk fun _ => ?_)) | (dsimp only; walk1) | (leave1; try dsimp only))
      refine tgi_item (k := 0) (x := v0) (X'.keeps (Fr.keep (h₀ := g') (by k_asm))) (N' _ (.head _)).1 (N' _ (.tail _ (.head _))).1 (by decide) (by decide) rfl rfl (by assumption) ?_
      repeat' (first | (k_unfold; try dsimp only) | (k_end; kc_close) | (walk1; all_goals ((try k_fold); (try dsimp only); try with_reducible refine wpAny_tk fun _ => ?_)) | (dsimp only; walk1) | (leave1; try dsimp only))
      exact hret _ _ (by assumption) (by first | assumption | k_asm)
    · rintro v s' ⟨rfl, _⟩
      exact hh0
  · refine wpAny_mono (getAttr_pair (Q := fun v s' => v = v1 ∧ Q v s') (d := 175) XF (N _ (.head _)).1 (N _ (.tail _ (.head _))).1 ?_ ?_ ?_) (fun v s' z => z.2) fun _ _ z => z
    · exact findObj_data (a := .ref 175) (g := .ref 61) (by rfl) (by rfl) (by rfl) (by rfl)
    · refine wpAny_call ?_
      (refine' enterP ?k1 ?k2 ?k3 ?k4 ?k5 ?kA ?kF ?kK ?k6 ?k7 ?k8 ?k9 ?kB ?_ ?c2 ?c3 ?c4 ?c5; (case kA | kF => exact rfl); (case kK => exact hk); (case k1 => exact B); (case k2 => exact F); (case k3 => exact X); (case k4 => exact N); (case k5 => exact T); (case k6 | k7 => k_is); (case k8 => ktr_room); (case k9 => exact BindsTo.of_defaults rfl ((XF _ _ rfl : _)) rfl rfl rfl); (case c5 => decide); (case kB => exact locs rfl); (case c2 | c3 | c4 => exact rfl); intro g' L' h' FG' F' N' B' X' T' hLow; (try dsimp only))
      repeat' (first | (k_unfold; try dsimp only) | (k_end; kc_close) | (walk1; all_goals ((try k_fold); (try dsimp only); try with_reducible refine wpAny_tk fun _ => ?_)) | (dsimp only; walk1) | (leave1; try dsimp only))
      have I2 : InstAt _ p (pairObj dx v0 v1) 203 (some emptyDict) := ⟨(N' _ (.head _)).1, rfl, rfl, (N' _ (.tail _ (.head _))).1⟩
      refine kto_own I2 ?_
      repeat' (first | (k_unfold; try dsimp only) | (k_end; kc_close) | (walk1; all_goals ((try k_fold); (try dsimp only); try with_reducible refine wpAny_tk fun _ => ?_)) | (dsimp only; walk1) | (leave1; try dsimp only))
      refine issub_pair (X'.keeps (Fr.keep (h₀ := g') (by k_asm))) ?_
      repeat' (first | (k_unfold; try dsimp only) | (k_end; kc_close) | (walk1; all_goals ((try k_fold); (try dsimp only); try with_reducible refine wpAny_tk fun _ => ?_)) | (dsimp only; walk1) | (leave1; try dsimp only))
      refine getMethod_tgi fun t9 => ?_
      repeat' (first | (k_unfold; try dsimp only) | (k_end; kc_close) | (walk1; all_goals ((try k_fold); (try dsimp only); try with_reducible refine wpAny_tk fun _ => ?_)) | (dsimp only; walk1) | (leave1; try dsimp only))
      refine tgi_item (k := 1) (x := v1) (X'.keeps (Fr.keep (h₀ := g') (by k_asm))) (N' _ (.head _)).1 (N' _ (.tail _ (.head _))).1 (by decide) (by decide) rfl rfl (by assumption) ?_
      repeat' (first | (k_unfold; try dsimp only) | (k_end; kc_close) | (walk1; all_goals ((try k_fold); (try dsimp only); try with_reducible refine wpAny_tk fun _ => ?_)) | (dsimp only; walk1) | (leave1; try dsimp only))
      exact hret _ _ (by assumption) (by first | assumption | k_asm)
    · rintro v s' ⟨rfl, _⟩
      exact hh1
end
section
structure PS where
  mask : Int
  shut : Bool
  rs : List (Str × Int)
  told : List (Option Str)
noncomputable def ToldIs (v : Value) (o : Option Str) : Prop := match o with
  | none => v = .none
  | some y => ∃ t, v = .str y t
noncomputable def ToldAre : List Value → List (Option Str) → Prop
  | [], [] => True
  | v :: vs, o :: os => ToldIs v o ∧ ToldAre vs os
  | _, _ => False
theorem told_len : ∀ {vs : List Value} {os : List (Option Str)}, ToldAre vs os → vs.length = os.length
  | [], [], _ => rfl
  | _ :: _, _ :: _, h => congrArg (· + 1) (told_len h.2)
theorem told_snoc {v : Value} {o : Option Str} (e : ToldIs v o) : ∀ {vs : List Value} {os : List (Option Str)}, ToldAre vs os → ToldAre (vs ++ [v]) (os ++ [o])
  | [], [], _ => ⟨e, trivial⟩
  | _ :: _, _ :: _, h => ⟨h.1, told_snoc e h.2⟩
noncomputable def isFx (o : Obj) : Bool := match o.data with
  | .func _ => true
  | .cell _ => true
  | .fields vs => match vs[1]? with
    | some (Value.str _ _) => true
    | _ => false
  | _ => false
theorem fx_ne {h₀ h : Heap} {L : Addr} {news : CbLed} {a b : Addr} {oa ob : Obj} (N : News h₀ L h news) (ha : (a, oa) ∈ news) (hb : (b, ob) ∈ news) (e1 : isFx oa = true) (e2 : isFx ob = false) : @Ne Nat a b := fun q => by
  have q' : a = b := q
  subst q'
  have := (N _ ha).1.symm.trans (N _ hb).1
  dsimp only at this
  rw [Option.some.inj this, e2] at e1
  cases e1
theorem fx_func {o : Obj} {fd : FuncData} (e : o.data = .func fd) : isFx o = true := by unfold isFx; rw [e]
theorem fx_cell {o : Obj} {v : Option Value} (e : o.data = .cell v) : isFx o = true := by unfold isFx; rw [e]
theorem fx_code {o : Obj} {vs : Array Value} {q : Str} {t : Tok} (e : o.data = .fields vs) (e1 : vs[1]? = some (.str q t)) : isFx o = true := by unfold isFx; rw [e]; simp only [e1]
inductive LamIn (w : World) (f mc mk : Nat) (rest : CbLed) : Prop
  | mk (P : Arguments) (BODY : PySem.Expr) (SC : Scope) (nm qual : Str) (pm ctv : Value) (c2 : Nat) (oc oc0 : Obj) (vs : Array Value) (t' : Tok) (hP : playLam (hd.heap_39 w.params) = some (P, BODY, SC))
    (hf : (f, kla_obj nm qual P BODY SC [("mask", mc)] pm c2 ctv) ∈ rest) (hmc : (mc, oc0) ∈ rest) (ho0 : oc0.data = .cell (some (.ref mk))) (hc : (c2, oc) ∈ rest) (hoc : oc.data = .fields vs) (hvs : vs[1]? = some (.str qual t')) : LamIn w f mc mk rest
inductive Fz (w : World) (b : Nat) (fro : Option (Tok × Addr)) (t100 : Obj) (shut : Bool) (fx : CbLed) : Prop
  | opn (hs : shut = false) (h1 : fro = none) (h2 : t100 = tabObj #[]) (h3 : fx = [])
  | shut (hs : shut = true) (P : Arguments) (BODY : PySem.Expr) (SC : Scope) (nm : Str) (pm ctv : Value) (l9 c9 sc9 : Nat) (oc oc0 : Obj) (vs : Array Value) (t9 t1 : Tok) (hP : frzLam (hd.heap_39 w.params) = some (P, BODY, SC))
    (h1 : fro = some (t9, l9)) (h2 : t100 = frzTab (hd.heap_39 w.params) c9) (h3 : fx = [(l9, kla_obj nm frzQual P BODY SC [("self", sc9)] pm c9 ctv), (c9, oc), (sc9, oc0)]) (hc0 : oc0.data = .cell (some (.ref b))) (hoc : oc.data = .fields vs) (hov : vs[1]? = some (.str frzQual t1))
structure PlayOk (w : World) (b dx f mc mk tA : Nat) (rest : CbLed) : Prop where
  hb : @LE.le Nat _ 314 b
  hdx : @LE.le Nat _ 314 dx
  hmk : @LE.le Nat _ 314 mk
  hmc : @LE.le Nat _ 314 mc
  htA : @LE.le Nat _ 314 tA
  bd : @Ne Nat b dx
  bt : @Ne Nat b tA
  bm : @Ne Nat b mk
  dt : @Ne Nat dx tA
  dm : @Ne Nat dx mk
  tm : @Ne Nat tA mk
  off : ∀ p ∈ rest, @Ne Nat p.1 b ∧ @Ne Nat p.1 dx ∧ @Ne Nat p.1 100 ∧ @Ne Nat p.1 tA ∧ @Ne Nat p.1 mk
  lam : LamIn w f mc mk rest
noncomputable abbrev playLed (w : World) (b dx f mk tA : Nat) (es : List DictEntry) (ep : Nat) (fro : Option (Tok × Addr)) (t100 : Obj) (tv : List Value) (e1 : Nat) (mask : Int) (tkm : Tok) (e0 : Nat) (rest : CbLed) : CbLed :=
  (b, bookObj dx es ep #[some (.ref f)]) :: (dx, dxObj w fro) :: (100, t100) :: (tA, W.listOf tv.toArray e1) :: (mk, W.listOf #[.int mask tkm] e0) :: rest
noncomputable def PS.freeze (σ : PS) : PS := { σ with shut := true, told := σ.told ++ [none] }
noncomputable def PS.ask (σ : PS) (x : Str) : PS := match getR σ.rs x with
  | some v => { σ with told := σ.told ++ [some (fmF v)] }
  | none => { σ with told := σ.told ++ [some (fmF (leftF σ.mask))], rs := if σ.shut then σ.rs else putR σ.rs x (leftF σ.mask) }
noncomputable def PS.setMask (σ : PS) (v : Int) : PS := { σ with mask := v }
noncomputable def PS.take (σ : PS) (n : Str) : PS := match getR σ.rs n with
  | some v => { σ with told := σ.told ++ [some (fmF v)], rs := cutR σ.rs n }
  | none => { σ with told := σ.told ++ [none] }
noncomputable def PS.store (σ : PS) (n : Str) (v : Int) : PS := { σ with rs := putR σ.rs n v }
noncomputable def playScope (k : Frag) : Scope := match k.lookup 291 with
  | some ⟨_, _, .func fd, _⟩ => fd.scope
  | _ => default
noncomputable def playIf (k : Frag) : List Stmt := match fnBody k 291 with
  | _ :: _ :: _ :: .For _ _ (_ :: r) _ _ :: _ => r
  | _ => []
theorem fr_four {h₀ h : Heap} {L : Addr} {m : Str → Option Value} {a b c d : Str} {u v x y : Value} (F : Fr h₀ L h m) (e1 : m a = some u) (e2 : m b = some v) (e3 : m c = some x) (e4 : m d = some y) :
    Fr h₀ L h (fun z => if z = a then some u else if z = b then some v else if z = c then some x else if z = d then some y else m z) :=
  fr_eq F fun z => by
    split
    · next q => rw [q, e1]
    · split
      · next q => rw [q, e2]
      · split
        · next q => rw [q, e3]
        · split
          · next q => rw [q, e4]
          · rfl
section
variable {prog : Program} {w : World} {A : Around} {E : Value → Shared → Prop} {h : Heap} {g : Array GenState} {d : Drawn} {t : Nat} {os : OsState}
theorem sub_book {vn sn : Str} {vp sp : Pos} {b dx : Addr} {es : List DictEntry} {ep : Nat} {sl : Array (Option Value)} {rs : List (Str × Int)} {n : Str} {tk : Tok} {Q : Value → Shared → Prop}
    (Y : BookCls (model prog w) h) (Z : BookLk (model prog w) h) (hb : h.get? b = some (bookObj dx es ep sl)) (hes : Ents w es rs) (hlo : (b == sysModules) = false)
    (hq : match getR rs n with
      | some v => ∀ t', Q (.int v t') ⟨h, g, d, t + 1, os⟩
      | none => codeAny (model prog w) A.in1 (.call (.ref 98) ⟨[.ref b, .str n tk], []⟩) (fun r s' => match r with | .ok (.ret v) => Q v s' | _ => False) ⟨h, g, d, t + 1, os⟩) :
    wpAny (model prog w) A (subscriptTail (.Name vn vp) (.Name sn sp) (.ref b) (.str n tk)) Q E ⟨h, g, d, t, os⟩ := by
  have tb : Looks (model prog w) h (typeOf (.ref b)) (.ref 108) := (Looks.ld hb).andThen .now
  have gi := Z.gi
  unfold subscriptTail
  refine wpAny_bind ?_
  unfold getitemInPython specialOf
  refine wpAny_bind (wpAny_bind (tb.at (gi.at ?_)))
  refine wpAny_pure (wpAny_bind ?_)
  have hs : subscripted (.Name sn sp) false (.ref b) (.str n tk) = operate [.ref b, .str n tk] (getItem (.ref b) (.str n tk)) := by with_unfolding_all rfl
  have ht : ∀ r, letTemporaryGo (.Name vn vp) (.ref b) r = pure () := by intro _; with_unfolding_all rfl
  rw [hs]
  refine wpAny_operating (wpAny_mono (getItem_book (Q := Q) Y Z hb hes hlo hq) (fun r s₃ h₃ => wpAny_bind (wpAny_of_eq (ht r) (wpAny_pure h₃))) fun _ _ x => x)
end
theorem pair_name (w : World) (mean : ExcName → Option Value) (mg mb : Str → Option Value) (p dx : Nat) (v0 v1 : Value) (rest : CbLed)
   (dp un : Nat) (gd : Option (List Code)) (cn : Str) (cs : Scope) (a : Addr) (ccd : Value) (cl : List (Str × Addr)) (outer : List Env) (A₀ : Around) (base h₀ : Heap) (L : Addr) (m : Str → Option Value) (s : Shared) (Q E : Value → Shared → Prop) (expr : Bool)
   (B : Below A₀ base outer h₀) (F : Fr h₀ L s.heap m) (X : (hd.heap_39 w.params).In h₀) (N : News h₀ L s.heap ((p, pairObj dx v0 v1) :: (dx, emptyDict) :: rest)) (T : Top topProg looseL mean mg mb h₀)
   (hk : cs.kind = .function) (hdp : dp + 4 < recursionLimit) (hu : un + 24 < cLine) (hh0 : handedIn v0 = true) (hh1 : handedIn v1 = true)
   (hret : ∀ (h' : Heap) (tk' : Nat), Fr h₀ L h' m → News h₀ L h' ((p, pairObj dx v0 v1) :: (dx, emptyDict) :: rest) → Q v0 { s with heap := h', toks := tk' }) :
   wpAny (model Challenge.rw_in0190_01.row.prog w) (ktrTop dp un gd cn cs L a ccd cl outer) (getAttr (.ref p) (Str.ofString "name") expr) Q E s :=
  pair_get w mean mg mb p dx v0 v1 rest dp un gd cn cs a ccd cl outer A₀ base h₀ L m s Q E expr 0 172 (Str.ofString "name") (.inl ⟨rfl, rfl, rfl⟩) B F X N T hk hdp hu hh0 hh1 hret
theorem pair_value (w : World) (mean : ExcName → Option Value) (mg mb : Str → Option Value) (p dx : Nat) (v0 v1 : Value) (rest : CbLed)
   (dp un : Nat) (gd : Option (List Code)) (cn : Str) (cs : Scope) (a : Addr) (ccd : Value) (cl : List (Str × Addr)) (outer : List Env) (A₀ : Around) (base h₀ : Heap) (L : Addr) (m : Str → Option Value) (s : Shared) (Q E : Value → Shared → Prop) (expr : Bool)
   (B : Below A₀ base outer h₀) (F : Fr h₀ L s.heap m) (X : (hd.heap_39 w.params).In h₀) (N : News h₀ L s.heap ((p, pairObj dx v0 v1) :: (dx, emptyDict) :: rest)) (T : Top topProg looseL mean mg mb h₀)
   (hk : cs.kind = .function) (hdp : dp + 4 < recursionLimit) (hu : un + 24 < cLine) (hh0 : handedIn v0 = true) (hh1 : handedIn v1 = true)
   (hret : ∀ (h' : Heap) (tk' : Nat), Fr h₀ L h' m → News h₀ L h' ((p, pairObj dx v0 v1) :: (dx, emptyDict) :: rest) → Q v1 { s with heap := h', toks := tk' }) :
   wpAny (model Challenge.rw_in0190_01.row.prog w) (ktrTop dp un gd cn cs L a ccd cl outer) (getAttr (.ref p) (Str.ofString "value") expr) Q E s :=
  pair_get w mean mg mb p dx v0 v1 rest dp un gd cn cs a ccd cl outer A₀ base h₀ L m s Q E expr 1 175 (Str.ofString "value") (.inr ⟨rfl, rfl, rfl⟩) B F X N T hk hdp hu hh0 hh1 hret
end
section
theorem deed_freeze (w : World) (mean : ExcName → Option Value) (mg mb : Str → Option Value) (b dx f mc mk tA : Nat) (es : List DictEntry) (ep : Nat) (fro : Option (Tok × Addr)) (t100 : Obj) (tv : List Value) (e1 : Nat) (tkm : Tok) (e0 : Nat) (σ : PS) (fx rest : CbLed) (x : Str) (tx : Tok)
   (dp un : Nat) (gd : Option (List Code)) (outer : List Env) (A₀ : Around) (base h₀ : Heap) (L : Addr) (m : Str → Option Value) (s : Shared) (Q : Flow → Shared → Prop) (E : Value → Shared → Prop)
   (B : Below A₀ base outer h₀) (F : Fr h₀ L s.heap m) (X : (hd.heap_39 w.params).In h₀) (N : News h₀ L s.heap (playLed w b dx f mk tA es ep fro t100 tv e1 σ.mask tkm e0 rest)) (T : Top topProg looseL mean mg mb h₀)
   (C1 : CodeHd base 104 100) (O : PlayOk w b dx f mc mk tA rest) (hfx : ∀ p ∈ fx, p ∈ rest) (hfi : ∀ p ∈ fx, isFx p.2 = true) (Z : Fz w b fro t100 σ.shut fx) (En : Ents w es σ.rs) (Tl : ToldAre tv σ.told) (hz : σ.rs.length ≤ 100) (htz : σ.told.length ≤ 100)
   (m1 : m "line" = some (.str (Str.ofString "!") tx)) (m2 : m "pair" = some .none) (m3 : m "book" = some (.ref b)) (m4 : m "told" = some (.ref tA))
   (hdp : dp + 8 < recursionLimit) (hu : un + 60 < cLine)
   (hret : ∀ (es' : List DictEntry) (ep' : Nat) (fro' : Option (Tok × Addr)) (t100' : Obj) (tv' : List Value) (e1' : Nat) (tkm' : Tok) (e0' : Nat) (fx' : CbLed) (m' : Str → Option Value) (h' : Heap) (tk' : Nat),
     Ents w es' (σ.freeze).rs → ToldAre tv' (σ.freeze).told → Fz w b fro' t100' (σ.freeze).shut fx' → (∀ p ∈ fx', isFx p.2 = true) → m' "book" = some (.ref b) → m' "told" = some (.ref tA) → Fr h₀ L h' m' →
     News h₀ L h' (playLed w b dx f mk tA es' ep' fro' t100' tv' e1' (σ.freeze).mask tkm' e0' (fx' ++ rest)) → Q .next { s with heap := h', toks := tk' }) :
   wpAny (model Challenge.rw_in0190_01.row.prog w) (ktrTop dp un gd (Str.ofString "_law_play") (playScope (hd.heap_39 w.params)) L 291 (.ref 290) [(Str.ofString "mask", mc)] outer) (execs (playIf (hd.heap_39 w.params)) (envX (Str.ofString "_law_play") (playScope (hd.heap_39 w.params)) L 291 (.ref 290) [(Str.ofString "mask", mc)])) Q E s := by
  have st9 := Stop.mk "getMethod ref"
  have ei : playIf (hd.heap_39 w.params) = [_] := rfl
  rw [ei]
  have es0 : playScope (hd.heap_39 w.params) = _ := rfl
  rw [es0]
  clear ei es0
  replace F := fr_four F m1 m2 m3 m4
  have X0 := X
  revert X; k_fill; intro X
  repeat' (first | (k_unfold; try dsimp only) | (k_end; kc_close) | (walk1; all_goals ((try k_fold); (try dsimp only); try with_reducible refine wpAny_tk fun _ => ?_)) | (dsimp only; walk1) | (leave1; try dsimp only))
  have XF : (hd.heap_39 w.params).In s.heap := X0.keeps (Fr.keep (h₀ := h₀) (by k_asm))
  have ZL := bookLk (M := model Challenge.rw_in0190_01.row.prog w) rfl XF
  refine Halt.in ?_
  refine getMethod_book ZL (N _ (.head _)).1 (N _ (.tail _ (.head _))).1 ZL.freeze ZL.t105 (by decide +kernel) (fun hh t0 l0 => by first | rfl | kernel_rfl) fun tk2 => ?_
  repeat' (first | (k_unfold; try dsimp only) | (k_end; kc_close) | (walk1; all_goals ((try k_fold); (try dsimp only); try with_reducible refine wpAny_tk fun _ => ?_)) | (dsimp only; walk1) | (leave1; try dsimp only))
  refine wpAny_call ?_
  have hr1 : ∀ p ∈ (tA, W.listOf tv.toArray e1) :: (mk, W.listOf #[.int σ.mask tkm] e0) :: rest, @Ne Nat p.1 100 := fun p hp => by
    rcases List.mem_cons.mp hp with rfl | hp
    · have := O.htA; dsimp only; omega
    · rcases List.mem_cons.mp hp with rfl | hp
      · have := O.hmk; dsimp only; omega
      · exact (O.off p hp).2.2.1
  have hr2 : ∀ p ∈ (tA, W.listOf tv.toArray e1) :: (mk, W.listOf #[.int σ.mask tkm] e0) :: rest, p.1 ≠ dx := fun p hp => by
    rcases List.mem_cons.mp hp with rfl | hp
    · exact Ne.symm O.dt
    · rcases List.mem_cons.mp hp with rfl | hp
      · exact Ne.symm O.dm
      · exact (O.off p hp).2.1
  rcases Z with ⟨hs, rfl, rfl, rfl⟩ | ⟨hs, P, BODY, SC, nm, pm, ctv, l9, c9, sc9, oc, oc0, vs, t9, t1, hP, rfl, rfl, rfl, hc0, hoc, hov⟩
  · refine frz_new w mean mg mb b dx es ep _ _ _ _ gd _ _ _ _ _ _ A₀ base h₀ L _ _ _ B F X0 N T C1 hr1 O.hb O.hdx O.bd hr2 rfl (by first | exact room_of hdp rfl | exact room_of (c := 5) hdp rfl | omega) (by first | exact room_of hu rfl | exact room_of (c := 27) hu rfl | omega) fun P BODY SC nm pm ctv l c' sc oc oc0 vs t0 t1 h' tk' eP ec ed ev F' N' => ?_
    dsimp only
    repeat' (first | (k_unfold; try dsimp only) | (k_end; kc_close) | (walk1; all_goals ((try k_fold); (try dsimp only); try with_reducible refine wpAny_tk fun _ => ?_)) | (dsimp only; walk1) | (leave1; try dsimp only))
    have N'mem := List.mem_append_right [(l, kla_obj nm frzQual P BODY SC [("self", sc)] pm c' ctv), (c', oc), (sc, oc0), (b, bookObj dx es ep #[some (.ref f)]), (dx, dxObj w (some (t0, l))), (100, frzTab (hd.heap_39 w.params) c')] (List.Mem.head (a := (tA, W.listOf tv.toArray e1)) ((mk, W.listOf #[.int σ.mask tkm] e0) :: rest))
    have q1 : isFx (kla_obj nm frzQual P BODY SC [("self", sc)] pm c' ctv) = true := rfl
    have hpre : ∀ p ∈ [(l, kla_obj nm frzQual P BODY SC [("self", sc)] pm c' ctv), (c', oc), (sc, oc0), (b, bookObj dx es ep #[some (.ref f)]), (dx, dxObj w (some (t0, l))), (100, frzTab (hd.heap_39 w.params) c')], p.1 ≠ tA := by
      have ht : (tA, W.listOf tv.toArray e1) ∈ _ := N'mem
      intro p hp
      simp only [List.mem_cons, List.not_mem_nil, or_false] at hp
      have := O.htA
      rcases hp with rfl | rfl | rfl | rfl | rfl | rfl
      · exact fx_ne N' (.head _) ht q1 rfl
      · exact fx_ne N' (.tail _ (.head _)) ht (fx_code ed ev) rfl
      · exact fx_ne N' (.tail _ (.tail _ (.head _))) ht (fx_cell ec) rfl
      · exact O.bt
      · exact O.dt
      · dsimp only; exact Nat.ne_of_lt (by omega)
    refine append_mine (pre := [_, _, _, _, _, _]) F' N' hpre (fun p hp => by
      rcases List.mem_cons.mp hp with rfl | hp
      · exact Ne.symm O.tm
      · exact (O.off p hp).2.2.2.1) (by rw [told_len Tl]; exact Nat.le_trans htz (by rw [sizeLine_eq]; decide)) fun h2 F2 N2 => ?_
    repeat' (first | (k_unfold; try dsimp only) | (k_end; kc_close) | (walk1; all_goals ((try k_fold); (try dsimp only); try with_reducible refine wpAny_tk fun _ => ?_)) | (dsimp only; walk1) | (leave1; try dsimp only))
    refine hret es ep (some (t0, l)) (frzTab (hd.heap_39 w.params) c') (tv ++ [.none]) (e1 + 1) tkm e0 [(l, kla_obj nm frzQual P BODY SC [("self", sc)] pm c' ctv), (c', oc), (sc, oc0)] _ h2 _ En (told_snoc (v := .none) (o := none) (show ToldIs Value.none none from rfl) Tl) (.shut rfl P BODY SC nm pm ctv l c' sc oc oc0 vs t0 t1 eP rfl rfl rfl ec ed ev) (fun p hp => ?_) rfl rfl F2 (PySem.W.KStt.news_of N2 ?_)
    · simp only [List.mem_cons, List.not_mem_nil, or_false] at hp
      rcases hp with rfl | rfl | rfl
      · exact q1
      · exact fx_code ed ev
      · exact fx_cell ec
    · intro p hp
      first | (revert p; (repeat (first | exact sub_nil | (refine sub_cons ?_ ?_; (· repeat (first | assumption | exact List.Mem.head _ | refine List.Mem.tail _ ?_))) | refine sub_app ?_ ?_ | (intro p hp; (repeat (first | exact hp | exact List.mem_append_left _ hp | exact List.mem_append_right _ hp | refine List.Mem.tail _ ?_))))); done) | (simp only [playLed, PS.freeze, List.cons_append, List.nil_append, List.mem_cons] at hp ⊢; rcases hp with h | h | h | h | h | h | h | h | h <;> first | ((repeat (first | exact h | exact Or.inl h | refine Or.inr ?_)); done) | simp only [h, true_or, or_true])
  · refine frz_again w mean mg mb b dx c9 l9 t9 es ep _ _ _ _ gd _ _ _ _ _ _ A₀ base h₀ L _ _ _ B F X0 N T C1 hr1 O.hb O.hdx O.bd hr2 rfl (by first | exact room_of hdp rfl | exact room_of (c := 5) hdp rfl | omega) (by first | exact room_of hu rfl | exact room_of (c := 27) hu rfl | omega) fun P BODY SC nm pm ctv l sc oc1 t0 h' tk' eP ec F' N' => ?_
    dsimp only
    repeat' (first | (k_unfold; try dsimp only) | (k_end; kc_close) | (walk1; all_goals ((try k_fold); (try dsimp only); try with_reducible refine wpAny_tk fun _ => ?_)) | (dsimp only; walk1) | (leave1; try dsimp only))
    have N'mem := List.mem_append_right [(l, kla_obj nm frzQual P BODY SC [("self", sc)] pm c9 ctv), (sc, oc1), (b, bookObj dx es ep #[some (.ref f)]), (dx, dxObj w (some (t0, l))), (100, frzTab (hd.heap_39 w.params) c9)] (List.Mem.head (a := (tA, W.listOf tv.toArray e1)) ((mk, W.listOf #[.int σ.mask tkm] e0) :: rest))
    have q1 : isFx (kla_obj nm frzQual P BODY SC [("self", sc)] pm c9 ctv) = true := rfl
    have hpre : ∀ p ∈ [(l, kla_obj nm frzQual P BODY SC [("self", sc)] pm c9 ctv), (sc, oc1), (b, bookObj dx es ep #[some (.ref f)]), (dx, dxObj w (some (t0, l))), (100, frzTab (hd.heap_39 w.params) c9)], p.1 ≠ tA := by
      have ht : (tA, W.listOf tv.toArray e1) ∈ _ := N'mem
      intro p hp
      simp only [List.mem_cons, List.not_mem_nil, or_false] at hp
      have := O.htA
      rcases hp with rfl | rfl | rfl | rfl | rfl
      · exact fx_ne N' (.head _) ht q1 rfl
      · exact fx_ne N' (.tail _ (.head _)) ht (fx_cell ec) rfl
      · exact O.bt
      · exact O.dt
      · dsimp only; exact Nat.ne_of_lt (by omega)
    refine append_mine (pre := [_, _, _, _, _]) F' N' hpre (fun p hp => by
      rcases List.mem_cons.mp hp with rfl | hp
      · exact Ne.symm O.tm
      · exact (O.off p hp).2.2.2.1) (by rw [told_len Tl]; exact Nat.le_trans htz (by rw [sizeLine_eq]; decide)) fun h2 F2 N2 => ?_
    repeat' (first | (k_unfold; try dsimp only) | (k_end; kc_close) | (walk1; all_goals ((try k_fold); (try dsimp only); try with_reducible refine wpAny_tk fun _ => ?_)) | (dsimp only; walk1) | (leave1; try dsimp only))
    refine hret es ep (some (t0, l)) (frzTab (hd.heap_39 w.params) c9) (tv ++ [.none]) (e1 + 1) tkm e0 [(l, kla_obj nm frzQual P BODY SC [("self", sc)] pm c9 ctv), (c9, oc), (sc, oc1)] _ h2 _ En (told_snoc (v := .none) (o := none) (show ToldIs Value.none none from rfl) Tl) (.shut rfl P BODY SC nm pm ctv l c9 sc oc oc1 vs t0 t1 eP rfl rfl rfl ec hoc hov) (fun p hp => ?_) rfl rfl F2 (PySem.W.KStt.news_of N2 ?_)
    · simp only [List.mem_cons, List.not_mem_nil, or_false] at hp
      rcases hp with rfl | rfl | rfl
      · exact q1
      · exact fx_code hoc hov
      · exact fx_cell ec
    · intro p hp
      simp only [playLed, PS.freeze, List.cons_append, List.nil_append, List.mem_cons] at hp ⊢
      have hin : (c9, oc) ∈ rest := hfx _ (.tail _ (.head _))
      rcases hp with h | h | h | h | h | h | h | h | h <;> first | ((repeat (first | exact h | exact h ▸ hin | exact Or.inl h | refine Or.inr ?_)); done) | simp only [h, hin, true_or, or_true] | simp only [h, true_or, or_true]
end
section
theorem deed_ask (w : World) (mean : ExcName → Option Value) (mg mb : Str → Option Value) (b dx f mc mk tA : Nat) (es : List DictEntry) (ep : Nat) (fro : Option (Tok × Addr)) (t100 : Obj) (tv : List Value) (e1 : Nat) (tkm : Tok) (e0 : Nat) (σ : PS) (fx rest : CbLed) (x : Str) (tx : Tok)
   (dp un : Nat) (gd : Option (List Code)) (outer : List Env) (A₀ : Around) (base h₀ : Heap) (L : Addr) (m : Str → Option Value) (s : Shared) (Q : Flow → Shared → Prop) (E : Value → Shared → Prop)
   (hx : x ≠ Str.ofString "!") (hr : ∀ r ∈ σ.rs, 0 ≤ r.2 ∧ r.2 < 65536) (hlv : 0 ≤ leftF σ.mask ∧ leftF σ.mask < 65536)
   (B : Below A₀ base outer h₀) (F : Fr h₀ L s.heap m) (X : (hd.heap_39 w.params).In h₀) (N : News h₀ L s.heap (playLed w b dx f mk tA es ep fro t100 tv e1 σ.mask tkm e0 rest)) (T : Top topProg looseL mean mg mb h₀)
   (C1 : CodeHd base 104 100) (O : PlayOk w b dx f mc mk tA rest) (hfx : ∀ p ∈ fx, p ∈ rest) (hfi : ∀ p ∈ fx, isFx p.2 = true) (Z : Fz w b fro t100 σ.shut fx) (En : Ents w es σ.rs) (Tl : ToldAre tv σ.told) (hz : σ.rs.length ≤ 100) (htz : σ.told.length ≤ 100)
   (m1 : m "line" = some (.str x tx)) (m2 : m "pair" = some .none) (m3 : m "book" = some (.ref b)) (m4 : m "told" = some (.ref tA))
   (hdp : dp + 8 < recursionLimit) (hu : un + 60 < cLine)
   (hret : ∀ (es' : List DictEntry) (ep' : Nat) (fro' : Option (Tok × Addr)) (t100' : Obj) (tv' : List Value) (e1' : Nat) (tkm' : Tok) (e0' : Nat) (fx' : CbLed) (m' : Str → Option Value) (h' : Heap) (tk' : Nat),
     Ents w es' (σ.ask x).rs → ToldAre tv' (σ.ask x).told → Fz w b fro' t100' (σ.ask x).shut fx' → (∀ p ∈ fx', isFx p.2 = true) → m' "book" = some (.ref b) → m' "told" = some (.ref tA) → Fr h₀ L h' m' →
     News h₀ L h' (playLed w b dx f mk tA es' ep' fro' t100' tv' e1' (σ.ask x).mask tkm' e0' (fx' ++ rest)) → Q .next { s with heap := h', toks := tk' }) :
   wpAny (model Challenge.rw_in0190_01.row.prog w) (ktrTop dp un gd (Str.ofString "_law_play") (playScope (hd.heap_39 w.params)) L 291 (.ref 290) [(Str.ofString "mask", mc)] outer) (execs (playIf (hd.heap_39 w.params)) (envX (Str.ofString "_law_play") (playScope (hd.heap_39 w.params)) L 291 (.ref 290) [(Str.ofString "mask", mc)])) Q E s := by
  have st9 := Stop.mk "getMethod ref"
  have ei : playIf (hd.heap_39 w.params) = [_] := rfl
  rw [ei]
  have es0 : playScope (hd.heap_39 w.params) = _ := rfl
  rw [es0]
  clear ei es0
  replace F := fr_four F m1 m2 m3 m4
  have X0 := X
  revert X; k_fill; intro X
  repeat' (first | (k_unfold; try dsimp only) | (k_end; kc_close) | (walk1; all_goals ((try k_fold); (try dsimp only); try with_reducible refine wpAny_tk fun _ => ?_)) | (dsimp only; walk1) | (leave1; try dsimp only))
  · rename _ = true => hq
    exact absurd (eq_of_beq hq) hx
  have XF : (hd.heap_39 w.params).In s.heap := X0.keeps (Fr.keep (h₀ := h₀) (by k_asm))
  have hpre : ∀ (o : Obj) (q : Obj) (c : Obj), ∀ p ∈ [(b, o), (dx, q), (100, c)], p.1 ≠ tA := fun o q c p hp => by
    simp only [List.mem_cons, List.not_mem_nil, or_false] at hp
    have := O.htA
    rcases hp with rfl | rfl | rfl
    · exact O.bt
    · exact O.dt
    · dsimp only; exact Nat.ne_of_lt (by omega)
  have hpost : ∀ p ∈ (mk, W.listOf #[.int σ.mask tkm] e0) :: rest, p.1 ≠ tA := fun p hp => by
    rcases List.mem_cons.mp hp with rfl | hp
    · exact Ne.symm O.tm
    · exact (O.off p hp).2.2.2.1
  refine sub_book (bookCls (prog := Challenge.rw_in0190_01.row.prog) rfl XF) (bookLk rfl XF) (N _ (.head _)).1 En (by have := O.hb; simp only [beq_eq_false_iff_ne, ne_eq]; intro q; rw [q] at this; exact absurd this (by decide)) ?_
  cases hg : getR σ.rs x with
  | some v =>
    have ea : σ.ask x = { σ with told := σ.told ++ [some (fmF v)] } := by unfold PS.ask; rw [hg]
    have hv : 0 ≤ v ∧ v < 65536 := by
      unfold getR at hg
      cases hf : σ.rs.find? (fun r => r.1 == x) with
      | none => rw [hf] at hg; cases hg
      | some r =>
        rw [hf] at hg
        cases hg
        exact hr r (List.mem_of_find?_eq_some hf)
    intro t1
    repeat' (first | (k_unfold; try dsimp only) | (k_end; kc_close) | (walk1; all_goals ((try k_fold); (try dsimp only); try with_reducible refine wpAny_tk fun _ => ?_)) | (dsimp only; walk1) | (leave1; try dsimp only))
    refine fm_c w mean mg mb _ _ _ dp _ gd _ _ _ _ _ _ A₀ base h₀ L _ _ _ _ B F X0 N T rfl hv (by first | exact room_of hdp rfl | exact room_of (c := 5) hdp rfl | omega) (by first | exact room_of hu rfl | exact room_of (c := 27) hu rfl | omega) fun t3 h3 tk3 F3 N3 => ?_
    repeat' (first | (k_unfold; try dsimp only) | (k_end; kc_close) | (walk1; all_goals ((try k_fold); (try dsimp only); try with_reducible refine wpAny_tk fun _ => ?_)) | (dsimp only; walk1) | (leave1; try dsimp only))
    refine append_mine (pre := [_, _, _]) F3 N3 (hpre _ _ _) hpost (by rw [told_len Tl]; exact Nat.le_trans htz (by rw [sizeLine_eq]; decide)) fun h2 F2 N2 => ?_
    repeat' (first | (k_unfold; try dsimp only) | (k_end; kc_close) | (walk1; all_goals ((try k_fold); (try dsimp only); try with_reducible refine wpAny_tk fun _ => ?_)) | (dsimp only; walk1) | (leave1; try dsimp only))
    refine hret es ep fro t100 (tv ++ [.str (fmF (v)) t3]) (e1 + 1) tkm e0 fx _ h2 _ (by rw [ea]; exact En) ?_ ?_ hfi rfl rfl F2 (PySem.W.KStt.news_of N2 ?_)
    · rw [ea]
      exact told_snoc (v := .str (fmF (v)) t3) (o := some (fmF (v))) ⟨_, rfl⟩ Tl
    · rw [ea]
      exact Z
    · intro p hp
      rw [ea] at hp
      first | (revert p; (repeat (first | exact sub_nil | (refine sub_cons ?_ ?_; (· repeat (first | assumption | exact List.Mem.head _ | refine List.Mem.tail _ ?_))) | refine sub_app ?_ ?_ | (intro p hp; (repeat (first | exact hp | exact List.mem_append_left _ hp | exact List.mem_append_right _ hp | exact hfx _ hp | refine List.Mem.tail _ ?_))))); done) | (simp only [playLed, List.cons_append, List.nil_append, List.mem_cons, List.mem_append] at hp ⊢; rcases hp with h | h | h | h | h | h | h <;> first | ((repeat (first | exact h | exact hfx _ h | exact Or.inl h | refine Or.inr ?_)); done) | simp only [h, true_or, or_true] | simp only [hfx _ h, true_or, or_true])
  | none =>
    dsimp only
    have hb2 : ∀ p ∈ (dx, dxObj w fro) :: (100, t100) :: (tA, W.listOf tv.toArray e1) :: (mk, W.listOf #[.int σ.mask tkm] e0) :: rest, p.1 ≠ b := fun p hp => by
      simp only [List.mem_cons] at hp
      have := O.hb
      rcases hp with rfl | rfl | rfl | rfl | hp
      · exact Ne.symm O.bd
      · dsimp only; exact Nat.ne_of_lt (by omega)
      · exact Ne.symm O.bt
      · exact Ne.symm O.bm
      · exact (O.off p hp).1
    obtain ⟨P, BODY, SC, nm, qual, pm, ctv, c2, oc, oc0, vs, t', hl, hf, hmc, ho0, hc, hoc, hvs⟩ := O.lam
    have hT : ∀ p ∈ rest, p ∈ playLed w b dx f mk tA es ep fro t100 tv e1 σ.mask tkm e0 rest := fun p hp => .tail _ (.tail _ (.tail _ (.tail _ (.tail _ hp))))
    have FA := lam_fac w mean mg mb f mc mk c2 (playLed w b dx f mk tA es ep fro t100 tv e1 σ.mask tkm e0 rest) σ.mask tkm e0 hl (hT _ hf) (hT _ hmc) ho0 (.tail _ (.tail _ (.tail _ (.tail _ (.head _))))) (hT _ hc) hoc hvs O.hmc O.hmk
    rcases Z with ⟨hs, rfl, rfl, efx⟩ | ⟨hs, P, BODY, SC, nm, pm, ctv, l9, c9, sc9, oc, oc0, vs, t9, t1, hP, rfl, rfl, efx, hc0, hoc, hov⟩
    · have ea : σ.ask x = { σ with told := σ.told ++ [some (fmF (leftF σ.mask))], rs := putR σ.rs x (leftF σ.mask) } := by unfold PS.ask; rw [hg, hs]; rfl
      refine miss_open w mean mg mb b dx f x tx es ep _ _ σ.rs (leftF σ.mask) _ _ dp (un + 1) gd _ _ _ _ _ _ A₀ base h₀ L _ _ _ B F X0 N T (UpdF.head hb2) (.tail _ (.head _)) O.hb (hT _ hf) rfl En hz hg FA rfl (by first | exact room_of hdp rfl | exact room_of (c := 5) hdp rfl | omega) (by first | exact room_of hu rfl | exact room_of (c := 27) hu rfl | omega) fun t1 h1 tk1 es1 ep1 En1 F1 N1 => ?_
      dsimp only
      repeat' (first | (k_unfold; try dsimp only) | (k_end; kc_close) | (walk1; all_goals ((try k_fold); (try dsimp only); try with_reducible refine wpAny_tk fun _ => ?_)) | (dsimp only; walk1) | (leave1; try dsimp only))
      refine fm_c w mean mg mb _ _ _ dp _ gd _ _ _ _ _ _ A₀ base h₀ L _ _ _ _ B F1 X0 N1 T rfl hlv (by first | exact room_of hdp rfl | exact room_of (c := 5) hdp rfl | omega) (by first | exact room_of hu rfl | exact room_of (c := 27) hu rfl | omega) fun t3 h3 tk3 F3 N3 => ?_
      repeat' (first | (k_unfold; try dsimp only) | (k_end; kc_close) | (walk1; all_goals ((try k_fold); (try dsimp only); try with_reducible refine wpAny_tk fun _ => ?_)) | (dsimp only; walk1) | (leave1; try dsimp only))
      refine append_mine (pre := [_, _, _]) F3 N3 (hpre _ _ _) hpost (by rw [told_len Tl]; exact Nat.le_trans htz (by rw [sizeLine_eq]; decide)) fun h2 F2 N2 => ?_
      repeat' (first | (k_unfold; try dsimp only) | (k_end; kc_close) | (walk1; all_goals ((try k_fold); (try dsimp only); try with_reducible refine wpAny_tk fun _ => ?_)) | (dsimp only; walk1) | (leave1; try dsimp only))
      refine hret es1 ep1 none (tabObj #[]) (tv ++ [.str (fmF (leftF σ.mask)) t3]) (e1 + 1) tkm e0 fx _ h2 _ (by rw [ea]; exact En1) ?_ ?_ hfi rfl rfl F2 (PySem.W.KStt.news_of N2 ?_)
      · rw [ea]
        exact told_snoc (v := .str (fmF (leftF σ.mask)) t3) (o := some (fmF (leftF σ.mask))) ⟨_, rfl⟩ Tl
      · rw [ea]
        exact .opn hs rfl rfl efx
      · intro p hp
        rw [ea] at hp
        first | (revert p; (repeat (first | exact sub_nil | (refine sub_cons ?_ ?_; (· repeat (first | assumption | exact List.Mem.head _ | refine List.Mem.tail _ ?_))) | refine sub_app ?_ ?_ | (intro p hp; (repeat (first | exact hp | exact List.mem_append_left _ hp | exact List.mem_append_right _ hp | exact hfx _ hp | refine List.Mem.tail _ ?_))))); done) | (simp only [playLed, List.cons_append, List.nil_append, List.mem_cons, List.mem_append] at hp ⊢; rcases hp with h | h | h | h | h | h | h <;> first | ((repeat (first | exact h | exact hfx _ h | exact Or.inl h | refine Or.inr ?_)); done) | simp only [h, true_or, or_true] | simp only [hfx _ h, true_or, or_true])
    · have ea : σ.ask x = { σ with told := σ.told ++ [some (fmF (leftF σ.mask))] } := by unfold PS.ask; rw [hg, hs]; rfl
      have hU : ∀ p ∈ fx, p ∈ playLed w b dx f mk tA es ep (some (t9, l9)) (frzTab (hd.heap_39 w.params) c9) tv e1 σ.mask tkm e0 rest := fun p hp => hT _ (hfx p hp)
      rw [efx] at hU
      have FK := shut_fac w mean mg mb f b dx l9 sc9 c9 es ep (some (t9, l9)) _ (leftF σ.mask) hP (hU _ (.head _)) (hU _ (.tail _ (.tail _ (.head _)))) hc0 (.head _) (.tail _ (.head _)) (hT _ hf) rfl (hU _ (.tail _ (.head _))) hoc hov FA
      refine miss_shut w mean mg mb b dx f x tx es ep _ (leftF σ.mask) _ _ l9 t9 dp (un + 1) gd _ _ _ _ _ _ A₀ base h₀ L _ _ _ B F X0 N T (.head _) (.tail _ (.head _)) O.hb (hU _ (.head _)) rfl FK rfl (by first | exact room_of hdp rfl | exact room_of (c := 5) hdp rfl | omega) (by first | exact room_of hu rfl | exact room_of (c := 27) hu rfl | omega) fun t2 h1 tk1 F1 N1 => ?_
      dsimp only
      repeat' (first | (k_unfold; try dsimp only) | (k_end; kc_close) | (walk1; all_goals ((try k_fold); (try dsimp only); try with_reducible refine wpAny_tk fun _ => ?_)) | (dsimp only; walk1) | (leave1; try dsimp only))
      refine fm_c w mean mg mb _ _ _ dp _ gd _ _ _ _ _ _ A₀ base h₀ L _ _ _ _ B F1 X0 N1 T rfl hlv (by first | exact room_of hdp rfl | exact room_of (c := 5) hdp rfl | omega) (by first | exact room_of hu rfl | exact room_of (c := 27) hu rfl | omega) fun t3 h3 tk3 F3 N3 => ?_
      repeat' (first | (k_unfold; try dsimp only) | (k_end; kc_close) | (walk1; all_goals ((try k_fold); (try dsimp only); try with_reducible refine wpAny_tk fun _ => ?_)) | (dsimp only; walk1) | (leave1; try dsimp only))
      refine append_mine (pre := [_, _, _]) F3 N3 (hpre _ _ _) hpost (by rw [told_len Tl]; exact Nat.le_trans htz (by rw [sizeLine_eq]; decide)) fun h2 F2 N2 => ?_
      repeat' (first | (k_unfold; try dsimp only) | (k_end; kc_close) | (walk1; all_goals ((try k_fold); (try dsimp only); try with_reducible refine wpAny_tk fun _ => ?_)) | (dsimp only; walk1) | (leave1; try dsimp only))
      refine hret es ep (some (t9, l9)) (frzTab (hd.heap_39 w.params) c9) (tv ++ [.str (fmF (leftF σ.mask)) t3]) (e1 + 1) tkm e0 fx _ h2 _ (by rw [ea]; exact En) ?_ ?_ hfi rfl rfl F2 (PySem.W.KStt.news_of N2 ?_)
      · rw [ea]
        exact told_snoc (v := .str (fmF (leftF σ.mask)) t3) (o := some (fmF (leftF σ.mask))) ⟨_, rfl⟩ Tl
      · rw [ea]
        exact .shut hs P BODY SC nm pm ctv l9 c9 sc9 oc oc0 vs t9 t1 hP rfl rfl efx hc0 hoc hov
      · intro p hp
        rw [ea] at hp
        first | (revert p; (repeat (first | exact sub_nil | (refine sub_cons ?_ ?_; (· repeat (first | assumption | exact List.Mem.head _ | refine List.Mem.tail _ ?_))) | refine sub_app ?_ ?_ | (intro p hp; (repeat (first | exact hp | exact List.mem_append_left _ hp | exact List.mem_append_right _ hp | exact hfx _ hp | refine List.Mem.tail _ ?_))))); done) | (simp only [playLed, List.cons_append, List.nil_append, List.mem_cons, List.mem_append] at hp ⊢; rcases hp with h | h | h | h | h | h | h <;> first | ((repeat (first | exact h | exact hfx _ h | exact Or.inl h | refine Or.inr ?_)); done) | simp only [h, true_or, or_true] | simp only [hfx _ h, true_or, or_true])
end
section
theorem deed_mask (w : World) (mean : ExcName → Option Value) (mg mb : Str → Option Value) (b dx f mc mk tA : Nat) (es : List DictEntry) (ep : Nat) (fro : Option (Tok × Addr)) (t100 : Obj) (tv : List Value) (e1 : Nat) (tkm : Tok) (e0 : Nat) (σ : PS) (fx rest : CbLed) (x : Str) (tx : Tok)
   (dp un : Nat) (gd : Option (List Code)) (outer : List Env) (A₀ : Around) (base h₀ : Heap) (L : Addr) (m : Str → Option Value) (s : Shared) (Q : Flow → Shared → Prop) (E : Value → Shared → Prop)
   (p0 d0 : Nat) (nm va : Str) (t0 t1 : Tok) (hp0 : (p0, pairObj d0 (.str nm t0) (.str va t1)) ∈ rest) (hd0 : (d0, emptyDict) ∈ rest) (hx : x ≠ Str.ofString "!") (hn : nm = Str.ofString "mask") (hv : va.length ≤ 6)
   (B : Below A₀ base outer h₀) (F : Fr h₀ L s.heap m) (X : (hd.heap_39 w.params).In h₀) (N : News h₀ L s.heap (playLed w b dx f mk tA es ep fro t100 tv e1 σ.mask tkm e0 rest)) (T : Top topProg looseL mean mg mb h₀)
   (C1 : CodeHd base 104 100) (O : PlayOk w b dx f mc mk tA rest) (hfx : ∀ p ∈ fx, p ∈ rest) (hfi : ∀ p ∈ fx, isFx p.2 = true) (Z : Fz w b fro t100 σ.shut fx) (En : Ents w es σ.rs) (Tl : ToldAre tv σ.told) (hz : σ.rs.length ≤ 100) (htz : σ.told.length ≤ 100)
   (m1 : m "line" = some (.str x tx)) (m2 : m "pair" = some (.ref p0)) (m3 : m "book" = some (.ref b)) (m4 : m "told" = some (.ref tA))
   (hdp : dp + 8 < recursionLimit) (hu : un + 60 < cLine)
   (hret : ∀ (es' : List DictEntry) (ep' : Nat) (fro' : Option (Tok × Addr)) (t100' : Obj) (tv' : List Value) (e1' : Nat) (tkm' : Tok) (e0' : Nat) (fx' : CbLed) (m' : Str → Option Value) (h' : Heap) (tk' : Nat),
     Ents w es' (σ.setMask (numF va)).rs → ToldAre tv' (σ.setMask (numF va)).told → Fz w b fro' t100' (σ.setMask (numF va)).shut fx' → (∀ p ∈ fx', isFx p.2 = true) → m' "book" = some (.ref b) → m' "told" = some (.ref tA) → Fr h₀ L h' m' →
     News h₀ L h' (playLed w b dx f mk tA es' ep' fro' t100' tv' e1' (σ.setMask (numF va)).mask tkm' e0' (fx' ++ rest)) → Q .next { s with heap := h', toks := tk' }) :
   wpAny (model Challenge.rw_in0190_01.row.prog w) (ktrTop dp un gd (Str.ofString "_law_play") (playScope (hd.heap_39 w.params)) L 291 (.ref 290) [(Str.ofString "mask", mc)] outer) (execs (playIf (hd.heap_39 w.params)) (envX (Str.ofString "_law_play") (playScope (hd.heap_39 w.params)) L 291 (.ref 290) [(Str.ofString "mask", mc)])) Q E s := by
  have st9 := Stop.mk "getMethod ref"
  have ei : playIf (hd.heap_39 w.params) = [_] := rfl
  rw [ei]
  have es0 : playScope (hd.heap_39 w.params) = _ := rfl
  rw [es0]
  clear ei es0
  replace F := fr_four F m1 m2 m3 m4
  have X0 := X
  revert X; k_fill; intro X
  repeat' (first | (k_unfold; try dsimp only) | (k_end; kc_close) | (walk1; all_goals ((try k_fold); (try dsimp only); try with_reducible refine wpAny_tk fun _ => ?_)) | (dsimp only; walk1) | (leave1; try dsimp only))
  · rename _ = true => hq
    exact absurd (eq_of_beq hq) hx
  have XF : (hd.heap_39 w.params).In s.heap := X0.keeps (Fr.keep (h₀ := h₀) (by k_asm))
  have hT : ∀ p ∈ rest, p ∈ playLed w b dx f mk tA es ep fro t100 tv e1 σ.mask tkm e0 rest := fun p hp => .tail _ (.tail _ (.tail _ (.tail _ (.tail _ hp))))
  have NP : News h₀ L s.heap ((p0, pairObj d0 (.str nm t0) (.str va t1)) :: (d0, emptyDict) :: playLed w b dx f mk tA es ep fro t100 tv e1 σ.mask tkm e0 rest) := PySem.W.KStt.news_of N fun p hp => by
    rcases List.mem_cons.mp hp with rfl | hp
    · exact hT _ hp0
    · rcases List.mem_cons.mp hp with rfl | hp
      · exact hT _ hd0
      · exact hp
  clear N
  refine pair_name w mean mg mb p0 d0 (.str nm t0) (.str va t1) _ dp _ gd _ _ _ _ _ _ A₀ base h₀ L _ _ _ _ true B (by k_asm) X0 NP T rfl (by first | exact room_of hdp rfl | exact room_of (c := 5) hdp rfl | omega) (by first | exact room_of hu rfl | exact room_of (c := 27) hu rfl | omega) rfl rfl fun h1 tk1 F1 N1 => ?_
  subst hn
  repeat' (first | (k_unfold; try dsimp only) | (k_end; kc_close) | (walk1; all_goals ((try k_fold); (try dsimp only); try with_reducible refine wpAny_tk fun _ => ?_)) | (dsimp only; walk1) | (leave1; try dsimp only))
  refine pair_value w mean mg mb p0 d0 (.str _ t0) (.str va t1) _ dp _ gd _ _ _ _ _ _ A₀ base h₀ L _ _ _ _ true B F1 X0 N1 T rfl (by first | exact room_of hdp rfl | exact room_of (c := 5) hdp rfl | omega) (by first | exact room_of hu rfl | exact room_of (c := 27) hu rfl | omega) rfl rfl fun h2 tk2 F2 N2 => ?_
  repeat' (first | (k_unfold; try dsimp only) | (k_end; kc_close) | (walk1; all_goals ((try k_fold); (try dsimp only); try with_reducible refine wpAny_tk fun _ => ?_)) | (dsimp only; walk1) | (leave1; try dsimp only))
  obtain ⟨P, BODY, SC, nm, qual, pm, ctv, c2, oc, oc0, vs, t', hl, hf, hmc, ho0, hc, hoc, hvs⟩ := O.lam
  refine num_claim w mean mg mb _ va t1 dp _ gd _ _ _ _ _ _ A₀ base h₀ L _ _ _ _ B F2 X0 N2 T rfl hv (by first | exact room_of hdp rfl | exact room_of (c := 5) hdp rfl | omega) (by first | exact room_of hu rfl | exact room_of (c := 27) hu rfl | omega) fun t3 h3 tk3 F3 N3 => ?_
  have N4 : News h₀ L h3 ((mc, oc0) :: (mk, W.listOf #[.int σ.mask tkm] e0) :: (b, bookObj dx es ep #[some (.ref f)]) :: (dx, dxObj w fro) :: (100, t100) :: (tA, W.listOf tv.toArray e1) :: rest) := PySem.W.KStt.news_of N3 fun p hp => by
    first | (revert p; (repeat (first | exact sub_nil | (refine sub_cons ?_ ?_; (· repeat (first | assumption | exact List.Mem.head _ | refine List.Mem.tail _ ?_))) | refine sub_app ?_ ?_ | (intro p hp; (repeat (first | exact hp | exact List.mem_append_left _ hp | exact List.mem_append_right _ hp | refine List.Mem.tail _ ?_))))); done) | (simp only [playLed, List.mem_cons] at hp ⊢; rcases hp with h | h | h | h | h | h | h <;> first | ((repeat (first | exact h | exact h ▸ hmc | exact Or.inl h | refine Or.inr ?_)); done) | simp only [h, hmc, true_or, or_true] | simp only [h, true_or, or_true])
  clear N2 N3 NP
  repeat' (first | (k_unfold; try dsimp only) | (k_end; kc_close) | (walk1; all_goals ((try k_fold); (try dsimp only); try with_reducible refine wpAny_tk fun _ => ?_)) | (dsimp only; walk1) | (leave1; try dsimp only))
  dsimp only
  have hmm : @Ne Nat mc mk := (O.off _ hmc).2.2.2.2
  refine kif_setItem (l := [(σ.mask, tkm)]) (ws := [.int (numF va) t3]) (N := 1) (by k_asm) N4 (Upd.tail hmm (Upd.head fun p hp => ?_)) rfl rfl rfl (by decide) (by decide) (by decide) fun h5 F5 N5 => ?_
  · simp only [List.mem_cons] at hp
    have := O.hmk
    rcases hp with rfl | rfl | rfl | rfl | hp
    · exact O.bm
    · exact O.dm
    · dsimp only; exact Nat.ne_of_lt (by omega)
    · exact O.tm
    · exact (O.off p hp).2.2.2.2
  repeat' (first | (k_unfold; try dsimp only) | (k_end; kc_close) | (walk1; all_goals ((try k_fold); (try dsimp only); try with_reducible refine wpAny_tk fun _ => ?_)) | (dsimp only; walk1) | (leave1; try dsimp only))
  refine hret es ep fro t100 tv e1 t3 e0 fx _ h5 _ En Tl Z hfi rfl rfl F5 (PySem.W.KStt.news_of N5 fun p hp => ?_)
  first | (revert p; (repeat (first | exact sub_nil | (refine sub_cons ?_ ?_; (· repeat (first | assumption | exact List.Mem.head _ | refine List.Mem.tail _ ?_))) | refine sub_app ?_ ?_ | (intro p hp; (repeat (first | exact hp | exact List.mem_append_left _ hp | exact List.mem_append_right _ hp | exact hfx _ hp | refine List.Mem.tail _ ?_))))); done) | (simp only [playLed, PS.setMask, List.mem_cons, List.mem_append] at hp ⊢; rcases hp with h | h | h | h | h | h | h <;> first | ((repeat (first | exact h | exact hfx _ h | exact Or.inl h | refine Or.inr ?_)); done) | simp only [h, true_or, or_true] | simp only [hfx _ h, true_or, or_true])
end
section
theorem deed_take (w : World) (mean : ExcName → Option Value) (mg mb : Str → Option Value) (b dx f mc mk tA : Nat) (es : List DictEntry) (ep : Nat) (fro : Option (Tok × Addr)) (t100 : Obj) (tv : List Value) (e1 : Nat) (tkm : Tok) (e0 : Nat) (σ : PS) (fx rest : CbLed) (x : Str) (tx : Tok)
   (dp un : Nat) (gd : Option (List Code)) (outer : List Env) (A₀ : Around) (base h₀ : Heap) (L : Addr) (m : Str → Option Value) (s : Shared) (Q : Flow → Shared → Prop) (E : Value → Shared → Prop)
   (p0 d0 : Nat) (nm va : Str) (t0 t1 : Tok) (hp0 : (p0, pairObj d0 (.str nm t0) (.str va t1)) ∈ rest) (hd0 : (d0, emptyDict) ∈ rest) (hx : x ≠ Str.ofString "!") (hn : nm ≠ Str.ofString "mask") (hv : va = Str.ofString "") (hr : ∀ r ∈ σ.rs, 0 ≤ r.2 ∧ r.2 < 65536)
   (B : Below A₀ base outer h₀) (F : Fr h₀ L s.heap m) (X : (hd.heap_39 w.params).In h₀) (N : News h₀ L s.heap (playLed w b dx f mk tA es ep fro t100 tv e1 σ.mask tkm e0 rest)) (T : Top topProg looseL mean mg mb h₀)
   (C1 : CodeHd base 104 100) (O : PlayOk w b dx f mc mk tA rest) (hfx : ∀ p ∈ fx, p ∈ rest) (hfi : ∀ p ∈ fx, isFx p.2 = true) (Z : Fz w b fro t100 σ.shut fx) (En : Ents w es σ.rs) (Tl : ToldAre tv σ.told) (hz : σ.rs.length ≤ 100) (htz : σ.told.length ≤ 100)
   (m1 : m "line" = some (.str x tx)) (m2 : m "pair" = some (.ref p0)) (m3 : m "book" = some (.ref b)) (m4 : m "told" = some (.ref tA))
   (hdp : dp + 8 < recursionLimit) (hu : un + 60 < cLine)
   (hret : ∀ (es' : List DictEntry) (ep' : Nat) (fro' : Option (Tok × Addr)) (t100' : Obj) (tv' : List Value) (e1' : Nat) (tkm' : Tok) (e0' : Nat) (fx' : CbLed) (m' : Str → Option Value) (h' : Heap) (tk' : Nat),
     Ents w es' (σ.take nm).rs → ToldAre tv' (σ.take nm).told → Fz w b fro' t100' (σ.take nm).shut fx' → (∀ p ∈ fx', isFx p.2 = true) → m' "book" = some (.ref b) → m' "told" = some (.ref tA) → Fr h₀ L h' m' →
     News h₀ L h' (playLed w b dx f mk tA es' ep' fro' t100' tv' e1' (σ.take nm).mask tkm' e0' (fx' ++ rest)) → Q .next { s with heap := h', toks := tk' }) :
   wpAny (model Challenge.rw_in0190_01.row.prog w) (ktrTop dp un gd (Str.ofString "_law_play") (playScope (hd.heap_39 w.params)) L 291 (.ref 290) [(Str.ofString "mask", mc)] outer) (execs (playIf (hd.heap_39 w.params)) (envX (Str.ofString "_law_play") (playScope (hd.heap_39 w.params)) L 291 (.ref 290) [(Str.ofString "mask", mc)])) Q E s := by
  have st9 := Stop.mk "getMethod ref"
  have ei : playIf (hd.heap_39 w.params) = [_] := rfl
  rw [ei]
  have es0 : playScope (hd.heap_39 w.params) = _ := rfl
  rw [es0]
  clear ei es0
  replace F := fr_four F m1 m2 m3 m4
  have X0 := X
  revert X; k_fill; intro X
  repeat' (first | (k_unfold; try dsimp only) | (k_end; kc_close) | (walk1; all_goals ((try k_fold); (try dsimp only); try with_reducible refine wpAny_tk fun _ => ?_)) | (dsimp only; walk1) | (leave1; try dsimp only))
  · rename _ = true => hq
    exact absurd (eq_of_beq hq) hx
  have XF : (hd.heap_39 w.params).In s.heap := X0.keeps (Fr.keep (h₀ := h₀) (by k_asm))
  have hT : ∀ p ∈ rest, p ∈ playLed w b dx f mk tA es ep fro t100 tv e1 σ.mask tkm e0 rest := fun p hp => .tail _ (.tail _ (.tail _ (.tail _ (.tail _ hp))))
  have NP : News h₀ L s.heap ((p0, pairObj d0 (.str nm t0) (.str va t1)) :: (d0, emptyDict) :: playLed w b dx f mk tA es ep fro t100 tv e1 σ.mask tkm e0 rest) := PySem.W.KStt.news_of N fun p hp => by
    rcases List.mem_cons.mp hp with rfl | hp
    · exact hT _ hp0
    · rcases List.mem_cons.mp hp with rfl | hp
      · exact hT _ hd0
      · exact hp
  clear N
  refine pair_name w mean mg mb p0 d0 (.str nm t0) (.str va t1) _ dp _ gd _ _ _ _ _ _ A₀ base h₀ L _ _ _ _ true B (by k_asm) X0 NP T rfl (by first | exact room_of hdp rfl | exact room_of (c := 5) hdp rfl | omega) (by first | exact room_of hu rfl | exact room_of (c := 27) hu rfl | omega) rfl rfl fun h1 tk1 F1 N1 => ?_
  repeat' (first | (k_unfold; try dsimp only) | (k_end; kc_close) | (walk1; all_goals ((try k_fold); (try dsimp only); try with_reducible refine wpAny_tk fun _ => ?_)) | (dsimp only; walk1) | (leave1; try dsimp only))
  · rename _ = true => hq
    exact absurd (eq_of_beq hq) hn
  refine pair_value w mean mg mb p0 d0 (.str nm t0) (.str va t1) _ dp _ gd _ _ _ _ _ _ A₀ base h₀ L _ _ _ _ true B F1 X0 N1 T rfl (by first | exact room_of hdp rfl | exact room_of (c := 5) hdp rfl | omega) (by first | exact room_of hu rfl | exact room_of (c := 27) hu rfl | omega) rfl rfl fun h2 tk2 F2 N2 => ?_
  subst hv
  repeat' (first | (k_unfold; try dsimp only) | (k_end; kc_close) | (walk1; all_goals ((try k_fold); (try dsimp only); try with_reducible refine wpAny_tk fun _ => ?_)) | (dsimp only; walk1) | (leave1; try dsimp only))
  have X2 : (hd.heap_39 w.params).In h2 := X0.keeps F2.keep
  have ZL := bookLk (M := model Challenge.rw_in0190_01.row.prog w) rfl X2
  refine Halt.in ?_
  refine getMethod_book ZL (N2 _ (.tail _ (.tail _ (.head _)))).1 (N2 _ (.tail _ (.tail _ (.tail _ (.head _))))).1 ZL.pop (Looks.of_pure (by first | rfl | kernel_rfl)) (by decide +kernel) (fun hh t0 l0 => by first | rfl | kernel_rfl) fun tk9 => ?_
  repeat' (first | (k_unfold; try dsimp only) | (k_end; kc_close) | (walk1; all_goals ((try k_fold); (try dsimp only); try with_reducible refine wpAny_tk fun _ => ?_)) | (dsimp only; walk1) | (leave1; try dsimp only))
  refine pair_name w mean mg mb p0 d0 (.str nm t0) (.str _ t1) _ dp _ gd _ _ _ _ _ _ A₀ base h₀ L _ _ _ _ true B (by k_asm) X0 N2 T rfl (by first | exact room_of hdp rfl | exact room_of (c := 5) hdp rfl | omega) (by first | exact room_of hu rfl | exact room_of (c := 27) hu rfl | omega) rfl rfl fun h3 tk3 F3 N3 => ?_
  repeat' (first | (k_unfold; try dsimp only) | (k_end; kc_close) | (walk1; all_goals ((try k_fold); (try dsimp only); try with_reducible refine wpAny_tk fun _ => ?_)) | (dsimp only; walk1) | (leave1; try dsimp only))
  have hb2 : ∀ p ∈ (dx, dxObj w fro) :: (100, t100) :: (tA, W.listOf tv.toArray e1) :: (mk, W.listOf #[.int σ.mask tkm] e0) :: rest, p.1 ≠ b := fun p hp => by
    simp only [List.mem_cons] at hp
    have := O.hb
    rcases hp with rfl | rfl | rfl | rfl | hp
    · exact Ne.symm O.bd
    · dsimp only; exact Nat.ne_of_lt (by omega)
    · exact Ne.symm O.bt
    · exact Ne.symm O.bm
    · exact (O.off p hp).1
  have hpre : ∀ (o : Obj) (q : Obj) (c : Obj), ∀ p ∈ [(b, o), (dx, q), (100, c)], p.1 ≠ tA := fun o q c p hp => by
    simp only [List.mem_cons, List.not_mem_nil, or_false] at hp
    have := O.htA
    rcases hp with rfl | rfl | rfl
    · exact O.bt
    · exact O.dt
    · dsimp only; exact Nat.ne_of_lt (by omega)
  have hpost : ∀ p ∈ (mk, W.listOf #[.int σ.mask tkm] e0) :: rest, p.1 ≠ tA := fun p hp => by
    rcases List.mem_cons.mp hp with rfl | hp
    · exact Ne.symm O.tm
    · exact (O.off p hp).2.2.2.1
  have X3 : (hd.heap_39 w.params).In h3 := X0.keeps (Fr.keep (h₀ := h₀) F3)
  have N4 : News h₀ L h3 (playLed w b dx f mk tA es ep fro t100 tv e1 σ.mask tkm e0 rest) := PySem.W.KStt.news_of N3 fun p hp => .tail _ (.tail _ hp)
  clear N1 N2 N3
  refine pop_book (bookCls (prog := Challenge.rw_in0190_01.row.prog) rfl X3) (N4 _ (.head _)).1 En hz (by have := O.hb; simp only [beq_eq_false_iff_ne, ne_eq]; intro q; rw [q] at this; exact absurd this (by decide)) ?_
  cases hg : getR σ.rs nm with
  | some v =>
    have ea : σ.take nm = { σ with told := σ.told ++ [some (fmF v)], rs := cutR σ.rs nm } := by unfold PS.take; rw [hg]
    have hv : 0 ≤ v ∧ v < 65536 := by
      unfold getR at hg
      cases hf : σ.rs.find? (fun r => r.1 == nm) with
      | none => rw [hf] at hg; cases hg
      | some r =>
        rw [hf] at hg
        cases hg
        exact hr r (List.mem_of_find?_eq_some hf)
    intro h4 es4 ep4 t4 hb4 En4 hs4
    obtain ⟨F4, N4⟩ := led_upd F3 N4 (UpdF.head hb2) hb4 hs4
    repeat' (first | (k_unfold; try dsimp only) | (k_end; kc_close) | (walk1; all_goals ((try k_fold); (try dsimp only); try with_reducible refine wpAny_tk fun _ => ?_)) | (dsimp only; walk1) | (leave1; try dsimp only))
    rename News h₀ L _ _ => NB
    rename Fr h₀ L _ _ => FB
    refine fm_c w mean mg mb _ _ _ dp _ gd _ _ _ _ _ _ A₀ base h₀ L _ _ _ _ B FB X0 NB T rfl hv (by first | exact room_of hdp rfl | exact room_of (c := 5) hdp rfl | omega) (by first | exact room_of hu rfl | exact room_of (c := 27) hu rfl | omega) fun t5 h5 tk5 FA NA => ?_
    repeat' (first | (k_unfold; try dsimp only) | (k_end; kc_close) | (walk1; all_goals ((try k_fold); (try dsimp only); try with_reducible refine wpAny_tk fun _ => ?_)) | (dsimp only; walk1) | (leave1; try dsimp only))
    refine append_mine (pre := [_, _, _]) FA NA (hpre _ _ _) hpost (by rw [told_len Tl]; exact Nat.le_trans htz (by rw [sizeLine_eq]; decide)) fun h7 F7 N7 => ?_
    repeat' (first | (k_unfold; try dsimp only) | (k_end; kc_close) | (walk1; all_goals ((try k_fold); (try dsimp only); try with_reducible refine wpAny_tk fun _ => ?_)) | (dsimp only; walk1) | (leave1; try dsimp only))
    refine hret es4 ep4 fro t100 (tv ++ [.str (fmF v) t5]) (e1 + 1) tkm e0 fx _ h7 _ (by rw [ea]; exact En4) ?_ (by rw [ea]; exact Z) hfi rfl rfl F7 (PySem.W.KStt.news_of N7 ?_)
    · rw [ea]
      exact told_snoc (v := .str (fmF v) t5) (o := some (fmF v)) ⟨_, rfl⟩ Tl
    · intro p hp
      rw [ea] at hp
      first | (revert p; (repeat (first | exact sub_nil | (refine sub_cons ?_ ?_; (· repeat (first | assumption | exact List.Mem.head _ | refine List.Mem.tail _ ?_))) | refine sub_app ?_ ?_ | (intro p hp; (repeat (first | exact hp | exact List.mem_append_left _ hp | exact List.mem_append_right _ hp | exact hfx _ hp | refine List.Mem.tail _ ?_))))); done) | (simp only [playLed, List.cons_append, List.nil_append, List.mem_cons, List.mem_append] at hp ⊢; rcases hp with h | h | h | h | h | h | h <;> first | ((repeat (first | exact h | exact hfx _ h | exact Or.inl h | refine Or.inr ?_)); done) | simp only [h, true_or, or_true] | simp only [hfx _ h, true_or, or_true])
  | none =>
    have ea : σ.take nm = { σ with told := σ.told ++ [none] } := by unfold PS.take; rw [hg]
    intro _
    repeat' (first | (k_unfold; try dsimp only) | (k_end; kc_close) | (walk1; all_goals ((try k_fold); (try dsimp only); try with_reducible refine wpAny_tk fun _ => ?_)) | (dsimp only; walk1) | (leave1; try dsimp only))
    rename News h₀ L _ _ => NA
    rename Fr h₀ L _ _ => FA
    refine append_mine (pre := [_, _, _]) FA NA (hpre _ _ _) hpost (by rw [told_len Tl]; exact Nat.le_trans htz (by rw [sizeLine_eq]; decide)) fun h7 F7 N7 => ?_
    repeat' (first | (k_unfold; try dsimp only) | (k_end; kc_close) | (walk1; all_goals ((try k_fold); (try dsimp only); try with_reducible refine wpAny_tk fun _ => ?_)) | (dsimp only; walk1) | (leave1; try dsimp only))
    refine hret es ep fro t100 (tv ++ [.none]) (e1 + 1) tkm e0 fx _ h7 _ (by rw [ea]; exact En) ?_ (by rw [ea]; exact Z) hfi rfl rfl F7 (PySem.W.KStt.news_of N7 ?_)
    · rw [ea]
      exact told_snoc (v := .none) (o := none) (show ToldIs Value.none none from rfl) Tl
    · intro p hp
      rw [ea] at hp
      first | (revert p; (repeat (first | exact sub_nil | (refine sub_cons ?_ ?_; (· repeat (first | assumption | exact List.Mem.head _ | refine List.Mem.tail _ ?_))) | refine sub_app ?_ ?_ | (intro p hp; (repeat (first | exact hp | exact List.mem_append_left _ hp | exact List.mem_append_right _ hp | exact hfx _ hp | refine List.Mem.tail _ ?_))))); done) | (simp only [playLed, List.cons_append, List.nil_append, List.mem_cons, List.mem_append] at hp ⊢; rcases hp with h | h | h | h | h | h | h <;> first | ((repeat (first | exact h | exact hfx _ h | exact Or.inl h | refine Or.inr ?_)); done) | simp only [h, true_or, or_true] | simp only [hfx _ h, true_or, or_true])
end
section
theorem deed_store (w : World) (mean : ExcName → Option Value) (mg mb : Str → Option Value) (b dx f mc mk tA : Nat) (es : List DictEntry) (ep : Nat) (fro : Option (Tok × Addr)) (t100 : Obj) (tv : List Value) (e1 : Nat) (tkm : Tok) (e0 : Nat) (σ : PS) (fx rest : CbLed) (x : Str) (tx : Tok)
   (dp un : Nat) (gd : Option (List Code)) (outer : List Env) (A₀ : Around) (base h₀ : Heap) (L : Addr) (m : Str → Option Value) (s : Shared) (Q : Flow → Shared → Prop) (E : Value → Shared → Prop)
   (p0 d0 : Nat) (nm va : Str) (t0 t1 : Tok) (hp0 : (p0, pairObj d0 (.str nm t0) (.str va t1)) ∈ rest) (hd0 : (d0, emptyDict) ∈ rest) (hx : x ≠ Str.ofString "!") (hn : nm ≠ Str.ofString "mask") (hv : va.length ≤ 6) (hve : va ≠ Str.ofString "")
   (B : Below A₀ base outer h₀) (F : Fr h₀ L s.heap m) (X : (hd.heap_39 w.params).In h₀) (N : News h₀ L s.heap (playLed w b dx f mk tA es ep fro t100 tv e1 σ.mask tkm e0 rest)) (T : Top topProg looseL mean mg mb h₀)
   (C1 : CodeHd base 104 100) (O : PlayOk w b dx f mc mk tA rest) (hfx : ∀ p ∈ fx, p ∈ rest) (hfi : ∀ p ∈ fx, isFx p.2 = true) (Z : Fz w b fro t100 σ.shut fx) (En : Ents w es σ.rs) (Tl : ToldAre tv σ.told) (hz : σ.rs.length ≤ 100) (htz : σ.told.length ≤ 100)
   (m1 : m "line" = some (.str x tx)) (m2 : m "pair" = some (.ref p0)) (m3 : m "book" = some (.ref b)) (m4 : m "told" = some (.ref tA))
   (hdp : dp + 8 < recursionLimit) (hu : un + 60 < cLine)
   (hret : ∀ (es' : List DictEntry) (ep' : Nat) (fro' : Option (Tok × Addr)) (t100' : Obj) (tv' : List Value) (e1' : Nat) (tkm' : Tok) (e0' : Nat) (fx' : CbLed) (m' : Str → Option Value) (h' : Heap) (tk' : Nat),
     Ents w es' (σ.store nm (numF va)).rs → ToldAre tv' (σ.store nm (numF va)).told → Fz w b fro' t100' (σ.store nm (numF va)).shut fx' → (∀ p ∈ fx', isFx p.2 = true) → m' "book" = some (.ref b) → m' "told" = some (.ref tA) → Fr h₀ L h' m' →
     News h₀ L h' (playLed w b dx f mk tA es' ep' fro' t100' tv' e1' (σ.store nm (numF va)).mask tkm' e0' (fx' ++ rest)) → Q .next { s with heap := h', toks := tk' }) :
   wpAny (model Challenge.rw_in0190_01.row.prog w) (ktrTop dp un gd (Str.ofString "_law_play") (playScope (hd.heap_39 w.params)) L 291 (.ref 290) [(Str.ofString "mask", mc)] outer) (execs (playIf (hd.heap_39 w.params)) (envX (Str.ofString "_law_play") (playScope (hd.heap_39 w.params)) L 291 (.ref 290) [(Str.ofString "mask", mc)])) Q E s := by
  have st9 := Stop.mk "getMethod ref"
  have ei : playIf (hd.heap_39 w.params) = [_] := rfl
  rw [ei]
  have es0 : playScope (hd.heap_39 w.params) = _ := rfl
  rw [es0]
  clear ei es0
  replace F := fr_four F m1 m2 m3 m4
  have X0 := X
  revert X; k_fill; intro X
  repeat' (first | (k_unfold; try dsimp only) | (k_end; kc_close) | (walk1; all_goals ((try k_fold); (try dsimp only); try with_reducible refine wpAny_tk fun _ => ?_)) | (dsimp only; walk1) | (leave1; try dsimp only))
  · rename _ = true => hq
    exact absurd (eq_of_beq hq) hx
  have XF : (hd.heap_39 w.params).In s.heap := X0.keeps (Fr.keep (h₀ := h₀) (by k_asm))
  have hT : ∀ p ∈ rest, p ∈ playLed w b dx f mk tA es ep fro t100 tv e1 σ.mask tkm e0 rest := fun p hp => .tail _ (.tail _ (.tail _ (.tail _ (.tail _ hp))))
  have NP : News h₀ L s.heap ((p0, pairObj d0 (.str nm t0) (.str va t1)) :: (d0, emptyDict) :: playLed w b dx f mk tA es ep fro t100 tv e1 σ.mask tkm e0 rest) := PySem.W.KStt.news_of N fun p hp => by
    rcases List.mem_cons.mp hp with rfl | hp
    · exact hT _ hp0
    · rcases List.mem_cons.mp hp with rfl | hp
      · exact hT _ hd0
      · exact hp
  clear N
  refine pair_name w mean mg mb p0 d0 (.str nm t0) (.str va t1) _ dp _ gd _ _ _ _ _ _ A₀ base h₀ L _ _ _ _ true B (by k_asm) X0 NP T rfl (by first | exact room_of hdp rfl | exact room_of (c := 5) hdp rfl | omega) (by first | exact room_of hu rfl | exact room_of (c := 27) hu rfl | omega) rfl rfl fun h1 tk1 F1 N1 => ?_
  repeat' (first | (k_unfold; try dsimp only) | (k_end; kc_close) | (walk1; all_goals ((try k_fold); (try dsimp only); try with_reducible refine wpAny_tk fun _ => ?_)) | (dsimp only; walk1) | (leave1; try dsimp only))
  · rename _ = true => hq
    exact absurd (eq_of_beq hq) hn
  refine pair_value w mean mg mb p0 d0 (.str nm t0) (.str va t1) _ dp _ gd _ _ _ _ _ _ A₀ base h₀ L _ _ _ _ true B F1 X0 N1 T rfl (by first | exact room_of hdp rfl | exact room_of (c := 5) hdp rfl | omega) (by first | exact room_of hu rfl | exact room_of (c := 27) hu rfl | omega) rfl rfl fun h2 tk2 F2 N2 => ?_
  repeat' (first | (k_unfold; try dsimp only) | (k_end; kc_close) | (walk1; all_goals ((try k_fold); (try dsimp only); try with_reducible refine wpAny_tk fun _ => ?_)) | (dsimp only; walk1) | (leave1; try dsimp only))
  · rename _ = true => hq
    exact absurd (eq_of_beq hq) hve
  refine pair_value w mean mg mb p0 d0 (.str nm t0) (.str va t1) _ dp _ gd _ _ _ _ _ _ A₀ base h₀ L _ _ _ _ true B (by k_asm) X0 N2 T rfl (by first | exact room_of hdp rfl | exact room_of (c := 5) hdp rfl | omega) (by first | exact room_of hu rfl | exact room_of (c := 27) hu rfl | omega) rfl rfl fun h3 tk3 F3 N3 => ?_
  repeat' (first | (k_unfold; try dsimp only) | (k_end; kc_close) | (walk1; all_goals ((try k_fold); (try dsimp only); try with_reducible refine wpAny_tk fun _ => ?_)) | (dsimp only; walk1) | (leave1; try dsimp only))
  refine num_claim w mean mg mb _ va t1 dp _ gd _ _ _ _ _ _ A₀ base h₀ L _ _ _ _ B F3 X0 N3 T rfl hv (by first | exact room_of hdp rfl | exact room_of (c := 5) hdp rfl | omega) (by first | exact room_of hu rfl | exact room_of (c := 27) hu rfl | omega) fun t4 h4 tk4 F4 N4 => ?_
  repeat' (first | (k_unfold; try dsimp only) | (k_end; kc_close) | (walk1; all_goals ((try k_fold); (try dsimp only); try with_reducible refine wpAny_tk fun _ => ?_)) | (dsimp only; walk1) | (leave1; try dsimp only))
  refine pair_name w mean mg mb p0 d0 (.str nm t0) (.str va t1) _ dp _ gd _ _ _ _ _ _ A₀ base h₀ L _ _ _ _ true B (by k_asm) X0 N4 T rfl (by first | exact room_of hdp rfl | exact room_of (c := 5) hdp rfl | omega) (by first | exact room_of hu rfl | exact room_of (c := 27) hu rfl | omega) rfl rfl fun h5 tk5 F5 N5 => ?_
  repeat' (first | (k_unfold; try dsimp only) | (k_end; kc_close) | (walk1; all_goals ((try k_fold); (try dsimp only); try with_reducible refine wpAny_tk fun _ => ?_)) | (dsimp only; walk1) | (leave1; try dsimp only))
  have hb2 : ∀ p ∈ (dx, dxObj w fro) :: (100, t100) :: (tA, W.listOf tv.toArray e1) :: (mk, W.listOf #[.int σ.mask tkm] e0) :: rest, p.1 ≠ b := fun p hp => by
    simp only [List.mem_cons] at hp
    have := O.hb
    rcases hp with rfl | rfl | rfl | rfl | hp
    · exact Ne.symm O.bd
    · dsimp only; exact Nat.ne_of_lt (by omega)
    · exact Ne.symm O.bt
    · exact Ne.symm O.bm
    · exact (O.off p hp).1
  have X5 : (hd.heap_39 w.params).In h5 := X0.keeps (Fr.keep (h₀ := h₀) F5)
  have N6 : News h₀ L h5 (playLed w b dx f mk tA es ep fro t100 tv e1 σ.mask tkm e0 rest) := PySem.W.KStt.news_of N5 fun p hp => .tail _ (.tail _ hp)
  clear N1 N2 N3 N4 N5
  refine setItem_book (bookCls (prog := Challenge.rw_in0190_01.row.prog) rfl X5) (bookLk rfl X5) (N6 _ (.head _)).1 En hz fun h6 es6 ep6 hb6 En6 hs6 => ?_
  obtain ⟨F7, N7⟩ := led_upd F5 N6 (UpdF.head hb2) hb6 hs6
  repeat' (first | (k_unfold; try dsimp only) | (k_end; kc_close) | (walk1; all_goals ((try k_fold); (try dsimp only); try with_reducible refine wpAny_tk fun _ => ?_)) | (dsimp only; walk1) | (leave1; try dsimp only))
  refine hret es6 ep6 fro t100 tv e1 tkm e0 fx _ h6 _ En6 Tl Z hfi rfl rfl F7 (PySem.W.KStt.news_of N7 fun p hp => ?_)
  first | (revert p; (repeat (first | exact sub_nil | (refine sub_cons ?_ ?_; (· repeat (first | assumption | exact List.Mem.head _ | refine List.Mem.tail _ ?_))) | refine sub_app ?_ ?_ | (intro p hp; (repeat (first | exact hp | exact List.mem_append_left _ hp | exact List.mem_append_right _ hp | exact hfx _ hp | refine List.Mem.tail _ ?_))))); done) | (simp only [playLed, PS.store, List.mem_cons, List.mem_append] at hp ⊢; rcases hp with h | h | h | h | h | h | h <;> first | ((repeat (first | exact h | exact hfx _ h | exact Or.inl h | refine Or.inr ?_)); done) | simp only [h, true_or, or_true] | simp only [hfx _ h, true_or, or_true])
end
section
section
variable {prog : Program} {w : World} {A A₀ : Around} {s : Shared} {R : Result → Shared → Prop} {env : Env}
variable {K : Frag} {L : Addr} {h₀ g₀ base : Heap} {m mg mb : Str → Option Value} {news : List (Addr × Obj)} {p : Program} {loose : List Str} {mean : ExcName → Option Value}
theorem kts_memX {b : Addr} {outer : List Env} (hf : env.frame = some L) (hm : b ∈ (env :: outer).filterMap (·.frame)) : b = L ∨ b ∈ outer.filterMap (·.frame) := by
  rw [List.filterMap_cons, hf] at hm
  exact List.mem_cons.mp hm
theorem none_some {α : Type} {x : Option α} {a : α} (h : x = none) (e : x = some a) : False := by
  rw [h] at e
  cases e
theorem ns_slots {g : Heap} (n : g.Ns L m) : ∃ o, g.get? L = some o ∧ ∀ (h : Heap) (sl : Array (Option Value)), h.get? L = some { o with slots := sl } → h.Ns L m :=
  let ⟨o, es, ep, e, r⟩ := n
  ⟨o, e, fun _ _ z => ⟨_, es, ep, z, r⟩⟩
theorem none_back {g g' : Heap} (k : ∀ b o, g.get? b = some o → ∃ o', g'.get? b = some o') {b : Addr} (e : g'.get? b = none) : g.get? b = none := Option.eq_none_iff_forall_ne_some.mpr fun o q => by
  obtain ⟨o', z⟩ := k b o q
  exact none_some e z
theorem news_down {g h h₁ : Heap} {L' : Addr} {oL : Obj} {nw : List (Addr × Obj)} (N : News g L' h nw) (hL : g.get? L = some oL) (hn : ∀ b, g.get? b = none → h₁.get? b = none) : News h₁ L h nw := fun q hq =>
  have z := N q hq
  ⟨z.1, fun c => none_some (c ▸ z.2.2 : g.get? L = none) hL, hn _ z.2.2⟩
theorem below_turn {outer : List Env} {h₁ : Heap} (B : Below A₀ base outer h₀) (U : KtsTurn (outer.filterMap (·.frame)) h₀ h₁) : Below A₀ base outer h₁ where
  stack := B.stack
  stays := fun b o e => U.other b o (B.stays b o e) fun c => none_some (B.frames.mem c).1 e
  frames := B.frames.of_keeps fun _ _ e _ => let ⟨_, z⟩ := U.up e; ⟨_, z, rfl⟩
theorem leaves {outer : List Env} {g : Heap} {v : Value} {s' : Shared} (B : Below A₀ base outer h₀) (F : Fr h₀ L s.heap m) (N : News h₀ L s.heap news) (hf : env.frame = some L) (FG : Fr h₀ L g m) (st : h₀.StaysIn g)
    (XB : K.In base) (TB : Top p loose mean mg mb base) (D : KtsDicts (outer.filterMap (·.frame)) h₀) (T0 : KtsTurn (outer.filterMap (·.frame)) g₀ h₀)
    (hl : LeaveS ((env :: outer).filterMap (·.frame)) A₀ base outer K p loose mean mg mb g₀ h₀ L m g R v s') : R (.ok (.ret v)) s' := by
  obtain ⟨oL, eL, move⟩ := ns_slots FG.ns
  have inG : ∀ b o, h₀.get? b = some o → ∃ o', g.get? b = some o' := fun b o e => ⟨o, st b o e⟩
  cases hl with
  | inl hl =>
    obtain ⟨L₁, m₁, nw, F₁, N₁, ret⟩ := hl
    exact ret ⟨move _ oL.slots (F₁.keep _ _ eL), fun b o e => F₁.keep b o (st b o e), F.above⟩ (news_down N₁ eL fun _ => none_back inG)
  | inr hl =>
    obtain ⟨g₁, L₁, m₁, nw, T₁, F₁, N₁, ret⟩ := hl
    obtain ⟨sl, eS⟩ := T₁.up eL
    have calm : ∀ b o, h₀.get? b = some o → b ∉ outer.filterMap (·.frame) → s'.heap.get? b = some o := fun b o e off =>
      F₁.keep b o (T₁.other b o (st b o e) fun c => (kts_memX hf c).elim (fun c => (none_some (kts_self F) (c ▸ e)).elim) off)
    obtain ⟨U, stU⟩ := kts_turn_at (h := s'.heap) (fs := outer.filterMap (·.frame)) (g := h₀) (fun b hb => let ⟨_, o, z, _⟩ := B.frames.mem hb; ⟨o, z⟩) calm
      fun b o e _ => let ⟨sl, z⟩ := T₁.up (st b o e); ⟨sl, F₁.keep _ _ z⟩
    have B₁ := below_turn B U
    have inG₁ : ∀ b o, h₀.get? b = some o → ∃ o', g₁.get? b = some o' := fun b o e => let ⟨_, z⟩ := T₁.up (st b o e); ⟨_, z⟩
    exact ret _ (T0.trans U) ⟨move _ sl (F₁.keep _ _ eS), stU, U.size.symm ▸ F.above⟩ (news_down N₁ eS fun b e => U.none_ b (none_back inG₁ e)) B₁ (XB.keeps B₁.stays) (TB.keeps B₁.stays) (D.turn U)
theorem dicts_up {outer : List Env} {g : Heap} (hf : env.frame = some L) (FG : Fr h₀ L g m) (st : h₀.StaysIn g) (D : KtsDicts (outer.filterMap (·.frame)) h₀) : KtsDicts ((env :: outer).filterMap (·.frame)) g := fun b hb =>
  (kts_memX hf hb).elim (fun c => c ▸ (let ⟨o, es, ep, e, d, _⟩ := FG.ns; ⟨o, es, ep, e, d⟩)) fun c => let ⟨o, es, n, e, d⟩ := D b c; ⟨o, es, n, st b o e, d⟩
theorem enterS {outer : List Env} {name qual : Str} {params : Arguments} {body : List Stmt} {scope : Scope} {dV kV doc pm cdv ct oc : Value} {an od : Option Addr} {osl : Array (Option Value)} {f : Addr}
    {args : Args} {binds : List (Str × Value)}
    (B : Below A₀ base outer h₀) (F : Fr h₀ L s.heap m) (X₀ : K.In h₀) (N : News h₀ L s.heap news) (T : Top p loose mean mg mb h₀) (XB : K.In base) (TB : Top p loose mean mg mb base) (D : KtsDicts (outer.filterMap (·.frame)) h₀) (T0 : KtsTurn (outer.filterMap (·.frame)) g₀ h₀) (hA : A.frames = some (env :: outer)) (hf : env.frame = some L) (hke : env.scope.kind = .function)
    (ho : K.lookup f = some ⟨oc, od, .func (fnOf name qual params body scope dV kV doc pm an cdv ct), osl⟩) (hcd : codeIn K cdv qual = true) (hroom : A.depth < recursionLimit)
    (hbind : BindsTo s (fnOf name qual params body scope dV kV doc pm an cdv ct) args binds) (hloc : ∀ y ∈ binds, scope.names.lookup y.1 = some .local)
    (h : ∀ g L' h₁, Fr h₀ L g m → Fr g L' h₁ (fun y => binds.reverse.lookup y) → News g L' h₁ news → Below A base (env :: outer) g → K.In g → Top p loose mean mg mb g → Low L' news → KtsDicts ((env :: outer).filterMap (·.frame)) g →
      wpC (model prog w) (A.deeper (envOf qual scope L' f cdv)) (execs body (envOf qual scope L' f cdv))
        (fun fl s' => LeaveS ((env :: outer).filterMap (·.frame)) A₀ base outer K p loose mean mg mb g₀ h₀ L m g R (match fl with | .ret v => v | _ => .none) s')
        (fun e s' => wpAny (model prog w) (A.deeper (envOf qual scope L' f cdv)) (leaving (envOf qual scope L' f cdv) e) (fun _ s'' => R (.error e) s'') (fun e' s'' => R (.error e') s'') s')
        { s with heap := h₁, toks := s.toks + binds.length })
    (hco : scope.isCoroutine = false) (hgen : scope.isGenerator = false) (hk : scope.kind = .function)
    (hcell : ∀ x ∈ scope.names, x.2 ≠ .cell) : codeC (model prog w) A (.call (.ref f) args) R s :=
  framed B F X₀ N T.nolimit hA hf hke ho hcd hroom hbind hloc (fun g h₁ FG st _ BG F' N' => codeC_func (wpC_mono (h g _ h₁ FG F' N' BG (X₀.keeps st) (T.keeps st) (low_news N) (dicts_up hf FG st D)) (fun _ _ y => leaves (env := env) B F N hf FG st XB TB D T0 y) fun _ _ y => y)) hco hgen hk hcell
end
end
section
section
variable {prog : Program} {w : World} {A A₀ : Around} {s : Shared} {R : Result → Shared → Prop} {env : Env}
variable {K : Frag} {L : Addr} {h₀ base : Heap} {m mg mb : Str → Option Value} {news : List (Addr × Obj)} {p : Program} {loose : List Str} {mean : ExcName → Option Value}
theorem leaveS0 {g : Heap} {v : Value} {s' : Shared} (F : Fr h₀ L s.heap m) (N : News h₀ L s.heap news) (hf : env.frame = some L) (FG : Fr h₀ L g m) (st : h₀.StaysIn g)
    (hl : LeaveS0 ([env].filterMap (·.frame)) h₀ L m g R v s') : R (.ok (.ret v)) s' := by
  obtain ⟨oL, eL, move⟩ := ns_slots FG.ns
  obtain ⟨g₁, L₁, m₁, nw, T₁, F₁, N₁, ret⟩ := hl
  obtain ⟨sl, eS⟩ := T₁.up eL
  have inG₁ : ∀ b o, h₀.get? b = some o → ∃ o', g₁.get? b = some o' := fun b o e => let ⟨_, z⟩ := T₁.up (st b o e); ⟨_, z⟩
  exact ret ⟨move _ sl (F₁.keep _ _ eS), fun b o e => F₁.keep b o (T₁.other b o (st b o e) fun c => (kts_memX (outer := []) hf c).elim (fun c => (none_some (kts_self F) (c ▸ e)).elim) fun c => absurd c (by simp)), F.above⟩ (news_down N₁ eS fun _ => none_back inG₁)
theorem enterS0C {name qual : Str} {params : Arguments} {body : List Stmt} {scope : Scope} {dV kV doc pm cdv ct oc : Value} {an od : Option Addr} {osl : Array (Option Value)} {f : Addr}
    {args : Args} {binds : List (Str × Value)}
    (B : Below A₀ base [] h₀) (F : Fr h₀ L s.heap m) (X₀ : K.In h₀) (N : News h₀ L s.heap news) (T : Top p loose mean mg mb h₀) (hA : A.frames = some [env]) (hf : env.frame = some L) (hke : env.scope.kind = .function)
    (ho : K.lookup f = some ⟨oc, od, .func (fnOf name qual params body scope dV kV doc pm an cdv ct), osl⟩) (hcd : codeIn K cdv qual = true) (hroom : A.depth < recursionLimit)
    (hbind : BindsTo s (fnOf name qual params body scope dV kV doc pm an cdv ct) args binds) (hkind : (binds.all fun y => scope.names.lookup y.1 == some .local || scope.names.lookup y.1 == some .cell) = true)
    (hnd : ((cellsFrom 0 scope.names []).map (·.1)).Nodup)
    (h : ∀ g L' h₁ tk cells, Fr h₀ L g m → Fr g L' h₁ (bindL (envOfC qual scope L' f cdv).kindOf binds fun _ => none) → News g L' h₁ (cells ++ news) →
      CellsAre (bindC (envOfC qual scope L' f cdv).kindOf binds fun _ => none) (cellsFrom (L' + 1) scope.names []) cells → Below A base [env] g → K.In g → Top p loose mean mg mb g → (∀ p ∈ news, p.1 < L') → KtsDicts ([env].filterMap (·.frame)) g →
      wpC (model prog w) (A.deeper (envOfC qual scope L' f cdv)) (execs body (envOfC qual scope L' f cdv))
        (fun fl s' => LeaveS0 ([env].filterMap (·.frame)) h₀ L m g R (match fl with | .ret v => v | _ => .none) s')
        (fun e s' => wpAny (model prog w) (A.deeper (envOfC qual scope L' f cdv)) (leaving (envOfC qual scope L' f cdv) e) (fun _ s'' => R (.error e) s'') (fun e' s'' => R (.error e') s'') s')
        { s with heap := h₁, toks := tk })
    (hco : scope.isCoroutine = false) (hgen : scope.isGenerator = false) (hk : scope.kind = .function) : codeC (model prog w) A (.call (.ref f) args) R s := by
  obtain ⟨FG, BG, st, lv⟩ := groundX (R := R) B F N hA hf hke
  have hlim := T.nolimit
  refine codeC_call_function (fd := fnOf name qual params body scope dV kV doc pm an cdv ct) hroom ((X₀.keeps F.keep) _ _ ho) rfl hco hgen rfl (codeRec_of (X₀.keeps F.keep) hcd) (hbind _ _ _ _ ?_)
  refine wpAny_newFunctionEnv_cells hk (kindsX hkind _) fun env' he s' x => ?_
  subst he
  refine ⟨(hlim.keeps F.keep).keeps x.toInCall.keep, codeC_func ?_⟩
  obtain ⟨h₁, tk, rfl, _⟩ := x.done
  have hk₁ := x.toInCall.keep
  obtain ⟨cells, NC, Y⟩ := Cl.news (h₀ := s.heap) (Nat.le_refl _) fun n c hm => ⟨x.cell n c (lookup_of_mem_nodup (cellsFrom_names scope.names 0 (s.heap.objs.size + 1) [] [] rfl ▸ hnd) hm), x.above n c hm⟩
  refine wpC_mono (h _ s.heap.objs.size h₁ tk cells FG ⟨x.toInCall.ns, fun b o e => hk₁ b o (of_hideAll _ e), Nat.le_of_eq (hideAll_size _ _)⟩ (fun p hp => ?_) Y BG (X₀.keeps st) (T.keeps st) (fun p hp => Heap.lt_size (N p hp).1) (dicts_up (outer := []) hf FG st fun b hb => absurd hb (by simp))) (fun fl s' hl => leaveS0 (env := env) F N hf FG st hl) fun _ _ y => y
  rcases List.mem_append.mp hp with hp | hp
  · have z := NC p hp
    exact ⟨z.1, z.2.1, none_back (fun b o e => ⟨o, of_hideAll _ e⟩) z.2.2⟩
  · exact ⟨hk₁ _ _ (N p hp).1, Nat.ne_of_lt (Heap.lt_size (N p hp).1), hideAll_none _ (List.mem_map_of_mem hp)⟩
end
end
section
structure Gd (A₀ : Around) (base : Heap) (outer : List Env) (K : Frag) (p : Program) (loose : List Str) (mean : ExcName → Option Value) (mg mb : Str → Option Value) (fs : List Addr) (g₀ g : Heap) : Prop where
  turn : KtsTurn fs g₀ g
  below : Below A₀ base outer g
  inK : K.In g
  top : Top p loose mean mg mb g
  dicts : KtsDicts fs g
inductive TurnC (Γ : Heap → Prop) (L I l k : Addr) (oI : Obj) (vs : List Value) (J : (Str → Option Value) → List (Addr × Obj) → Prop) (s₁ : Shared) (f : Flow) (s' : Shared) : Prop
  | mk (x1 : f = .next ∨ f = .cont) (g : Heap) (h' : Heap) (tk : Nat) (m' : Str → Option Value) (news' : List (Addr × Obj)) (x2 : s' = { s₁ with heap := h', toks := tk }) (x3 : Γ g) (x4 : Fr g L h' m') (x5 : News g L h' ((I, oI) :: (l, listOf vs.toArray k) :: news')) (x6 : ∀ p ∈ news', @Ne Nat p.1 I) (x7 : ∀ p ∈ news', @Ne Nat p.1 l) (x8 : J m' news') : TurnC Γ L I l k oI vs J s₁ f s'
inductive InvC (s : Shared) (Γ : Heap → Prop) (L I : Addr) (l k : Nat) (vs : List Value) (J : Nat → (Str → Option Value) → List (Addr × Obj) → Prop) (kk : Nat) (s' : Shared) : Prop
  | mk (i : Nat) (h : Heap) (tk : Nat) (g : Heap) (m₁ : Str → Option Value) (news₁ : List (Addr × Obj)) (x1 : i ≤ vs.length) (x2 : kk = vs.length - i) (x3 : s' = { s with heap := h, toks := tk }) (x4 : h.IsListIter I l i) (x5 : Γ g) (x6 : Fr g L h m₁) (x7 : News g L h ((l, listOf vs.toArray k) :: news₁)) (x8 : ∀ p ∈ news₁, @Ne Nat p.1 I) (x9 : ∀ p ∈ news₁, @Ne Nat p.1 l) (x10 : g.get? I = none) (x11 : J i m₁ news₁) : InvC s Γ L I l k vs J kk s'
section
variable {prog : Program} {w : World} {A : Around} {E : Value → Shared → Prop} {s : Shared} {L : Addr} {m : Str → Option Value} {env : Env}
theorem forC {x : Str} {px pos : Pos} {iter : PySem.Expr} {body : List Stmt} {Q : Flow → Shared → Prop} {Γ : Heap → Prop} {g : Heap} {l k : Nat} {vs : List Value} {news : List (Addr × Obj)} (J : Nat → (Str → Option Value) → List (Addr × Obj) → Prop)
    (hLe : env.locals = L) (hx : env.kindOf x = some .local) (hp : (env.scope.kind == .class || (env.scope.kind == .module && env.locals != env.globals)) = false) (hh : A.handled = none)
    (he : ∀ Q', Q' (.ref l) s → wpAny (model prog w) A (eval iter env) Q' E s)
    (hΓ : Γ g) (F : Fr g L s.heap m) (N : News g L s.heap ((l, listOf vs.toArray k) :: news)) (off : ∀ p ∈ news, @Ne Nat p.1 l) (hJ : J 0 m news)
    (turn : ∀ i v I oI g m news h tk, i < vs.length → vs[i]? = some v → Γ g → J i m news → Fr g L h (fun y => if y = x then some v else m y) → News g L h ((I, oI) :: (l, listOf vs.toArray k) :: news) → (∀ p ∈ news, @Ne Nat p.1 I) → (∀ p ∈ news, @Ne Nat p.1 l) → @Ne Nat l I → (∃ z, oI.data = .fields #[.ref l, .int z 0]) →
      wpC (model prog w) A (execs body env) (TurnC Γ L I l k oI vs (J (i + 1)) { s with heap := h, toks := tk }) (fun _ _ => False) { s with heap := h, toks := tk })
    (done : ∀ g m news h tk, Γ g → J vs.length m news → Fr g L h m → News g L h ((l, listOf vs.toArray k) :: news) → Q .next { s with heap := h, toks := tk })
    (hs : ∀ x, foldedSetIterable iter env x = pure x := by intro _; rfl) : wpC (model prog w) A (exec (.For (.Name x px) iter body [] pos) env) Q E s := by
  subst hLe
  refine wpC_For (he _ ?_) hs
  have hl : s.heap.IsList l vs.toArray := ⟨_, (N _ (.head _)).1, rfl, k, rfl⟩
  refine wpAny_pyIter_list hl ?_
  have up : ∀ (o' : Obj) b o, s.heap.get? b = some o → (s.heap.push o').get? b = some o := fun _ b o e => Heap.get?_push_of_some _ e
  have hI0 : (s.heap.push { cls := .type "list_iterator", data := .fields #[.ref l, .int 0 0] }).get? s.heap.objs.size = some { cls := .type "list_iterator", data := .fields #[.ref l, .int 0 0] } := Heap.get?_push_size _ rfl
  have hNI : ∀ p ∈ (l, listOf vs.toArray k) :: news, @Ne Nat p.1 s.heap.objs.size := fun p hp => Nat.ne_of_lt (Heap.lt_size (N p hp).1)
  have hlI : @Ne Nat l s.heap.objs.size := hNI _ (.head _)
  have hLI0 : @Ne Nat env.locals s.heap.objs.size := Nat.ne_of_lt F.ns.lt
  have hgI : g.get? s.heap.objs.size = none := next_is_new F
  have hIt : (s.heap.push { cls := .type "list_iterator", data := .fields #[.ref l, .int 0 0] }).IsListIter s.heap.objs.size l 0 := ⟨_, hI0, rfl, rfl⟩
  have kup := up { cls := .type "list_iterator", data := .fields #[.ref l, .int 0 0] }
  generalize (s.heap.push { cls := .type "list_iterator", data := .fields #[.ref l, .int 0 0] }) = H at kup hIt ⊢
  generalize s.heap.objs.size = I at hNI hlI hLI0 hgI hIt ⊢
  have W := Walks.list (prog := prog) (w := w) (A := A) hh I l hlI vs.toArray
  refine ⟨fun kk s' => InvC s Γ env.locals I l k vs J kk s', vs.length,
    ⟨0, H, s.toks, g, m, news, Nat.zero_le _, rfl, rfl, hIt, hΓ, F.keeps kup, N.grown kup, fun p hp => hNI p (.tail _ hp), off, hgI, hJ⟩, ?_⟩
  intro kk s' hx2
  refine hide fun G kG => ?_
  obtain ⟨i, h, tk, g₁, m₁, news₁, hi, rfl, rfl, hit, hΓ₁, F₁, N₁, offI, offl, hgI₁, hJ₁⟩ := hx2
  refine kG ?_
  have hL₁ : h.IsList l vs.toArray := ⟨_, (N₁ _ (.head _)).1, rfl, k, rfl⟩
  by_cases hlt : i < vs.length
  · refine W.item i _ _ _ (by simpa using hlt) ⟨hit, hL₁⟩ fun v h₁ tk₁ hv hst₁ hk₁ => ?_
    dsimp only
    refine wpAny_pure ?_
    refine wpAny_assign_Name (wpAny_storeName_local hx (F₁.ns.at' fun o e => hk₁ _ o (by simpa using hLI0) e) (fun h₂ hn₂ hs₂ => ?_) hp)
    have hLg : g₁.get? env.locals = none := Heap.get?_none_of_le F₁.above
    have k₂ : ∀ b o, b ≠ I → b ≠ env.locals → h.get? b = some o → h₂.get? b = some o := fun b o h1 h2 e => hs₂.extBut b o h2 (hk₁ b o (by simpa using h1) e)
    refine hide fun G kG => ?_
    obtain ⟨oI, heI, _, hdI⟩ := hst₁.1
    refine kG ?_
    have heI₂ : h₂.get? I = some oI := hs₂.extBut _ _ (Ne.symm hLI0) heI
    have F₂ : Fr g₁ env.locals h₂ (fun y => if y = x then some v else m₁ y) := ⟨hn₂, fun b o e => k₂ b o (fun q => by rw [q, hgI₁] at e; cases e) (fun q => by rw [q, hLg] at e; cases e) (F₁.keep b o e), F₁.above⟩
    have hNl : ∀ p ∈ (l, listOf vs.toArray k) :: news₁, @Ne Nat p.1 I := fun p hp => by
      rcases List.mem_cons.mp hp with rfl | hp
      · exact hlI
      · exact offI p hp
    have N₂ : News g₁ env.locals h₂ ((I, oI) :: (l, listOf vs.toArray k) :: news₁) := fun p hp => by
      rcases List.mem_cons.mp hp with rfl | hp
      · exact ⟨heI₂, Ne.symm hLI0, hgI₁⟩
      · exact ⟨k₂ _ _ (hNl p hp) (N₁ p hp).2.1 (N₁ p hp).1, (N₁ p hp).2⟩
    have hv' : vs[i]? = some v := by simpa using hv
    refine wpC_mono (turn i v I oI g₁ m₁ news₁ h₂ _ hlt hv' hΓ₁ hJ₁ F₂ N₂ offI offl hlI ⟨_, hdI⟩) (fun f s₄ h₄ => ?_) fun _ _ z => z
    refine hide fun G kG => ?_
    obtain ⟨hf, g₅, h', tk', m', news', rfl, hΓ₅, F₅, N₅, offI₅, offl₅, J₅⟩ := h₄
    refine kG ?_
    have fin : ∃ m, m < vs.length - i ∧ InvC s Γ env.locals I l k vs J m { s with heap := h', toks := tk' } := by
      refine ⟨vs.length - (i + 1), by omega, i + 1, h', tk', g₅, m', news', hlt, rfl, rfl, hst₁.1.at fun o e => ?_, hΓ₅, F₅, fun p hp => N₅ p (.tail _ hp), offI₅, offl₅, (N₅ _ (.head _)).2.2, J₅⟩
      rw [heI] at e
      cases e
      exact (N₅ _ (.head _)).1
    rcases hf with rfl | rfl
    · exact fin
    · exact fin
  · obtain rfl : i = vs.length := Nat.le_antisymm hi (Nat.not_lt.mp hlt)
    refine W.done _ _ _ ⟨by simpa using hit, hL₁⟩ fun h₂ tk₂ hk₂ => ?_
    dsimp only
    have k₂ : ∀ b o, b ≠ I → h.get? b = some o → h₂.get? b = some o := fun b o h1 e => hk₂ b o (by simpa using h1) e
    exact done g₁ m₁ news₁ h₂ tk₂ hΓ₁ hJ₁ ⟨F₁.ns.at' fun o e => k₂ _ o hLI0 e, fun b o e => k₂ b o (fun q => by rw [q, hgI₁] at e; cases e) (F₁.keep b o e), F₁.above⟩ fun p hp => ⟨k₂ _ _ (by
      rcases List.mem_cons.mp hp with rfl | hp
      · exact hlI
      · exact offI p hp) (N₁ p hp).1, (N₁ p hp).2⟩
end
end
section
section
variable {α : Type} {prog : Program} {w : World} {A : Around} {E : Value → Shared → Prop} {s : Shared}
theorem wpC_mark {own : List String} {e : Value} {Q : Unit → Shared → Prop} (h : Q () s) : wpC (model prog w) A (markTheRefusal own e) Q E s := by
  unfold markTheRefusal
  refine wpC_bind (wpC_stack fun l hl => ?_)
  have hf : pythonCodeMadeTheCall own (l.map (·.1)) = false := by
    unfold pythonCodeMadeTheCall
    refine Bool.and_eq_false_iff.mpr (.inl (Bool.and_eq_false_iff.mpr (.inl ?_)))
    exact congrArg (fun b => !b) hl
  rw [hf]
  exact wpC_of (wpAny_pure h)
theorem binder_refuses {msg : String} {Q : α → Shared → Prop} (hh : A.handled = none) (hm : (Str.ofString msg).length ≤ sizeLine)
    (h : ∀ h' tk e, Heap.NewExc s.heap h' e "TypeError" → E (.ref e) { s with heap := h', toks := tk }) :
    wpC (model prog w) A (theBinderRefuses msg : Sem α) Q E s := by
  unfold theBinderRefuses
  refine wpC_bind (wpC_of (wpAny_mkStr (wpC_bind ?_) hm))
  refine wpC_of ?_
  unfold newExc newTuple
  refine wpAny_bind (wpAny_newObj_type ?_ (by size_fits))
  refine wpAny_bind (m := firstArgMember _ _) (wpAny_of_eq (a := Value.none) (by first | rfl | (simp only [firstArgMember]; rfl)) ?_)
  rw [ownMembersOf_TypeError]
  refine wpAny_newObj_type ?_ (by size_fits)
  refine wpC_bind (wpC_mark ?_)
  refine wpC_of ?_
  unfold raiseNew
  refine wpAny_bind (wpAny_handled ?_)
  rw [hh]
  refine wpAny_bind (wpAny_pure (wpAny_throw ?_))
  obtain ⟨hp, g, d, tk, os⟩ := s
  dsimp only
  exact h _ _ _ ⟨fun a o e => Heap.get?_push_of_some _ (Heap.get?_push_of_some _ e), Heap.get?_none_of_le (by simp), _, _, Heap.get?_push_size _ rfl, rfl, rfl⟩
end
end
section
theorem bind_130 (ps1 ps2 ps3 : Pos) (fd : FuncData) (hp : fd.params = { posonlyargs := [], args := [⟨Str.ofString "_cls", none, ps1⟩, ⟨Str.ofString "name", none, ps2⟩, ⟨Str.ofString "value", none, ps3⟩], vararg := none, kwonlyargs := [], kw_defaults := [], kwarg := none, defaults := [] })
    (hd : fd.defaults = .none) (hq : fd.qualname = Str.ofString "Pair.__new__") (v0 v1 : Value) : ∃ (msg : String) (k : Unit → Sem (List (Str × Value))), bindArgs fd ⟨[v0, v1], []⟩ = (seqItems? Value.none >>= fun _ => rule "call.bind.missing-positional" >>= fun _ => (theBinderRefuses msg : Sem Unit) >>= k) ∧ (Str.ofString msg).length ≤ sizeLine := by
  refine ⟨?msg, ?k, ?h, ?len⟩
  case h =>
    unfold bindArgs
    rw [hp, hd, hq]
    simp only [List.map_nil, List.map_cons, List.nil_append, List.append_nil, List.length_cons, List.length_nil, List.zip_cons_cons, List.zip_nil_right, List.forIn_nil]
    rfl
  case len =>
    rw [sizeLine_eq]
    exact Nat.le_trans (m := 62) (Nat.le_of_eq (by kernel_rfl)) (by decide)
theorem wpC_bind130 {prog : Program} {w : World} {A : Around} {s : Shared} {Q : List (Str × Value) → Shared → Prop} {E : Value → Shared → Prop} (ps1 ps2 ps3 : Pos) (fd : FuncData) (hp : fd.params = { posonlyargs := [], args := [⟨Str.ofString "_cls", none, ps1⟩, ⟨Str.ofString "name", none, ps2⟩, ⟨Str.ofString "value", none, ps3⟩], vararg := none, kwonlyargs := [], kw_defaults := [], kwarg := none, defaults := [] })
    (hd : fd.defaults = .none) (hq : fd.qualname = Str.ofString "Pair.__new__") (v0 v1 : Value) (hh : A.handled = none)
    (h : ∀ h' tk e, Heap.NewExc s.heap h' e "TypeError" → E (.ref e) { s with heap := h', toks := tk }) :
    wpC (model prog w) A (bindArgs fd ⟨[v0, v1], []⟩) Q E s := by
  obtain ⟨msg, k, e, hm⟩ := bind_130 ps1 ps2 ps3 fd hp hd hq v0 v1
  rw [e]
  exact wpC_bind (wpC_of (wpAny_pure (wpC_bind (wpC_of (wpAny_rule (wpC_bind (binder_refuses hh hm h)))))))
end
section
section
variable {prog : Program} {w : World} {A : Around} {s : Shared} {Q : Fin → Shared → Prop} {E : Value → Shared → Prop}
theorem callFunction_refuses {a c : Addr} {fd : FuncData} {args : Args} {vs : Array Value} {q : Str} {t : Tok} {oc : Obj} (hcode : fd.code = .ref c) (hc : s.heap.get? c = some oc) (hoc : oc.data = .fields vs) (hvs : vs[1]? = some (.str q t))
    (h : ∀ Q, wpC (model prog w) A (bindArgs fd args) Q E s) : wpC (model prog w) A (callFunction a fd args) Q E s := by
  unfold callFunction
  rw [hcode]
  refine wpC_bind (wpC_of ?_)
  refine wpAny_field hc hoc hvs ?_
  dsimp only
  refine wpC_bind ?_
  refine wpC_of ?_
  refine wpAny_pure ?_
  refine wpC_bind ?_
  exact h _
end
theorem refuse_130 {w : World} {A : Around} {s : Shared} {R : Result → Shared → Prop} {v0 v1 : Value} (X : (hd.heap_39 w.params).In s.heap) (hh : A.handled = none)
    (h : ∀ h' tk e, Heap.NewExc s.heap h' e "TypeError" → R (.error (.ref e)) { s with heap := h', toks := tk }) :
    codeC (model Challenge.rw_in0190_01.row.prog w) A (.call (.ref 130) ⟨[v0, v1], []⟩) R s := by
  revert X; k_fill; intro X
  have o130 := X 130 _ rfl
  have o129 := X 129 _ rfl
  have hh2 : ∀ c, (A.under c).handled = none := fun c => hh
  refine codeC_of_tree ?_
  show wpC _ _ (callAny (.ref 130) _) _ _ _
  unfold callAny
  refine wpC_bind (wpC_of (wpAny_load o130 ?_))
  dsimp only
  refine callFunction_refuses rfl o129 rfl rfl fun Q => ?_
  with_reducible refine' wpC_bind130 _ _ _ _ ?ka ?kb ?kc v0 v1 ?kd h
  case ka => rfl
  case kb => rfl
  case kc => rfl
  case kd => exact hh2 _
end
section
section
variable {prog : Program} {w : World} {A : Around} {R : Result → Shared → Prop} {h : Heap} {g : Array GenState} {d : Drawn} {t : Nat} {os : OsState}
theorem codeC_call_builtin {s : Shared} {id : String} {args : Args} (hq : (Code.builtin id args).quiet = true)
    (h : wpAny (model prog w) A.in1 (checkBuiltinCall id args) (fun _ s₁ => codeC (model prog w) A (.builtin id args) R s₁) (fun e s' => R (.error e) s') s) : codeC (model prog w) A (.call (.builtin id) args) R s := by
  refine codeC_of_tree (wpC_of ?_)
  show wpAny _ A.in1 (do checkBuiltinCall id args; again (.builtin id args)) _ _ s
  exact wpAny_bind (wpAny_mono h (fun _ s₁ h₁ => wpAny_pure (And.intro hq h₁)) fun _ _ h' => h')
theorem codeC_builtin {s : Shared} {id : String} {args : Args} {b : Builtin} (hb : entryFor table id = some b)
    (h : wpC (model prog w) (A.under (.builtin id args)) (b args) (fun fin s' => match fin with | .done f => R (.ok f) s' | .again c' => c'.quiet = true ∧ codeC (model prog w) A c' R s') (fun e s' => R (.error e) s') s) : codeC (model prog w) A (.builtin id args) R s := by
  refine codeC_of_tree ?_
  show wpC _ _ (match entryFor table id with | some b => b args | none => unsupported ((withoutEnding? id "#data").getD id)) _ _ s
  rw [hb]; exact h
theorem call_pairC {v0 : Value} {rest : List Value} (Y : PairCls (model prog w) h)
    (hq : wpAny (model prog w) (A.under (.builtin "type.__call__" ⟨.ref 203 :: v0 :: rest, []⟩)) (getAttr (.ref 203) "__new__") (fun v s₁ => codeC (model prog w) (A.under (.builtin "type.__call__" ⟨.ref 203 :: v0 :: rest, []⟩)) (.call v ⟨.ref 203 :: v0 :: rest, []⟩) (fun r s₂ => match r with | .error e => R (.error e) s₂ | _ => False) s₁) (fun _ _ => False) ⟨h, g, d, t, os⟩) :
    codeC (model prog w) A (.call (.ref 203) ⟨v0 :: rest, []⟩) R ⟨h, g, d, t, os⟩ := by
  obtain ⟨⟨oc, odd, cd, sl, hC, e1, e2, e4, e5⟩, made, self, call, typ, init, tup, new⟩ := Y
  refine codeC_of_tree (wpC_of ?_)
  show wpAny _ _ (callAny (.ref 203) _) _ _ _
  refine nd_load hC ?_
  show wpAny _ _ (callAny.viaDunder (.ref 203) _) _ _ _
  unfold callAny.viaDunder
  refine wpAny_bind (call.at ?_)
  dsimp only
  rw [tc_bind]
  refine wpAny_bind (wpAny_pure (wpAny_bind (wpAny_pure ?_)))
  refine wpAny_pure (a := Fin.again (.call (.builtin "type.__call__") ⟨.ref 203 :: v0 :: rest, []⟩)) (And.intro rfl ?_)
  refine codeC_call_builtin (Code.quiet_builtin _ (by decide +kernel)) (check_slot tc_kind tc_split typ (tc_args _ _ _) ?_)
  refine codeC_builtin entry_typeCall ?_
  unfold Builtin.«type.__call__»
  have hm : Looks (model prog w) h (mroOf (.ref 203)) [Value.ref 203, Value.ref 180, Value.type "tuple", Value.type "object"] := e4 ▸ ((Looks.ld (part := none) hC).andThen .now).andThen .now
  show wpC _ _ (mroOf (.ref 203) >>= _) _ _ _
  refine wpC_bind (wpC_of (hm.at ?_))
  show wpC _ _ (Bind.madeBy (.ref 203) >>= _) _ _ _
  refine wpC_bind (wpC_of (made.at ?_))
  show wpC _ _ (getAttr (.ref 203) "__new__" >>= _) _ _ _
  refine wpC_bind (wpC_of (wpAny_mono hq (fun v s₁ h₁ => ?_) fun _ _ x => x.elim))
  refine wpC_bind (wpC_holding (wpC_call (codeC_mono h₁ fun r s₂ z => ?_)))
  rcases r with e | f
  · exact z
  · exact z.elim
end
end
section
theorem codeC_method {prog : Program} {w : World} {A : Around} {s : Shared} {R : Result → Shared → Prop} {q g : Addr} {self : Value} {pos : List Value} {kw : List (Str × Value)} (hb : s.heap.get? q = some (methodObj (.ref g) self))
    (h : codeC (model prog w) A (.call (.ref g) ⟨self :: pos, kw⟩) R s) : codeC (model prog w) A (.call (.ref q) ⟨pos, kw⟩) R s := by
  refine codeC_of_tree (wpC_of ?_)
  show wpAny _ A.in1 (callAny (.ref q) ⟨pos, kw⟩) _ _ _
  unfold callAny
  refine wpAny_bind (wpAny_load hb ?_)
  show wpAny _ _ (again (.call (.ref g) ⟨self :: pos, kw⟩)) _ _ _
  exact wpAny_pure (And.intro rfl h)
theorem wpC_CallName {prog : Program} {w : World} {A : Around} {E : Value → Shared → Prop} {s : Shared} {env : Env} {f : Str} {p0 p1 : Pos} {as : List PySem.Expr} {Q : Value → Shared → Prop}
    (h : wpAny (model prog w) A (eval (.Name f p0) env) (fun v s₁ => wpC (model prog w) A (callWith p1 v [] (backTo p1 (starEach as env)) []) Q E s₁) E s) : wpC (model prog w) A (eval (.Call (.Name f p0) as [] p1) env) Q E s :=
  wpC_bind (wpC_of h)
theorem pair_one (w : World) (mean : ExcName → Option Value) (mg mb : Str → Option Value) (x a : Str) (tx : Tok) (news : CbLed)
   (dp un : Nat) (gd : Option (List Code)) (cn : Str) (cs : Scope) (a0 : Addr) (ccd : Value) (cl : List (Str × Addr)) (outer : List Env) (A₀ : Around) (base h₀ : Heap) (L : Addr) (m : Str → Option Value) (s : Shared) (R : Result → Shared → Prop)
   (B : Below A₀ base outer h₀) (F : Fr h₀ L s.heap m) (X : (hd.heap_39 w.params).In h₀) (N : News h₀ L s.heap news) (T : Top topProg looseL mean mg mb h₀) (XB : (hd.heap_39 w.params).In base) (TB : Top topProg looseL mean mg mb base) (g₀ : Heap) (D : KtsDicts (outer.filterMap (·.frame)) h₀) (T0 : KtsTurn (outer.filterMap (·.frame)) g₀ h₀)
   (hk : cs.kind = .function) (hdp : dp + 4 < recursionLimit) (hu : un + 24 < cLine) (hx : Txt.splitMax x (Str.ofString "=") 1 = [a]) (hz : x.length + 2 ≤ sizeLine)
   (hret : ∀ (h₀' h' : Heap) (tk' : Nat), KtsTurn (outer.filterMap (·.frame)) g₀ h₀' → Fr h₀' L h' m → News h₀' L h' news → Below A₀ base outer h₀' → (hd.heap_39 w.params).In h₀' → Top topProg looseL mean mg mb h₀' → KtsDicts (outer.filterMap (·.frame)) h₀' → R (.ok (.ret .none)) { s with heap := h', toks := tk' }) :
   codeC (model Challenge.rw_in0190_01.row.prog w) (ktrTop dp un gd cn cs L a0 ccd cl outer) (.call (.ref 272) ⟨[.str x tx], []⟩) R s := by
  have X0 := X
  revert X; k_fill; intro X
  (refine' enterS (g₀ := g₀) ?k1 ?k2 ?k3 ?k4 ?k5 ?kXB ?kTB ?kD ?kT0 ?kA ?kF ?kK ?k6 ?k7 ?k8 ?k9 ?kB ?_ ?c2 ?c3 ?c4 ?c5; (case kA | kF => exact rfl); (case kXB => exact XB); (case kTB => exact TB); (case kD => exact D); (case kT0 => exact T0); (case kK => assumption); (case k1 | k2 => k_asm); (case k3 | k4 | k5 => k_asm); (case k6 | k7 => k_is); (case k8 => ktr_room); (case k9 => exact BindsTo.of_eq rfl); (case c5 => decide); (case kB => exact locs rfl); (case c2 | c3 | c4 => exact rfl); intro g' L' h' FG' F' N' B' X' T' hLow D'; have l1 := hLow.all; (try dsimp only))
  refine wpC_execs_cons (wpC_Try (wpC_execs_cons (wpC_Return ?_)))
  refine wpC_MethodCall (he := rfl) ?_
  show wpAny _ _ (eval (.Name _ _) _) _ _ _
  walk1
  walk1
  walk1
  rename_i q1 h1 F1 N1 lq
  refine wpC_callWith (P := MethP (hd.heap_39 w.params) q1 197 (.ref 203)) (keeps_M (by kernel_rfl)) (Calls.evalArgs_plain (x := eval _ _) (rest := []) (Calls.spliced_cons ?_))
  walk1
  refine Calls.spliced_nil ⟨methP N1 (.head _) (X'.keeps F1.keep), ?_⟩
  refine wpC_call (codeC_method (N1 _ (.head _)).1 ?_)
  (refine' enterC ?k1 ?k2 ?k3 ?k4 ?k5 ?kA ?kF ?kK ?k6 ?k7 ?k8 ?k9 ?kB ?_ ?c2 ?c3 ?c4 ?c5; (case kA | kF | kK => exact rfl); (case k1 | k2 => k_asm); (case k3 | k4 | k5 => k_asm); (case k6 | k7 => k_is); (case k8 => ktr_room); (case k9 => exact BindsTo.of_eq rfl); (case c5 => decide); (case kB => exact locs rfl); (case c2 | c3 | c4 => exact rfl); intro g2 L2 h2 FG2 F2 N2 B2 X2 T2 hLow2; have l2 := hLow2.all; (try dsimp only))
  refine wpC_execs_cons (wpC_Return ?_)
  refine wpC_CallName ?_
  walk1
  refine wpC_callWith (P := (hd.heap_39 w.params).In) (keeps_K (by kernel_rfl)) (ks_lone (x := eval _ _) ?_)
  repeat' (first | (k_unfold; try dsimp only) | (k_end; kc_close) | (walk1; all_goals ((try k_fold); (try dsimp only); try with_reducible refine wpAny_tk fun _ => ?_)) | (dsimp only; walk1) | (leave1; try dsimp only))
  refine getAttr_strip fun t9 => ?_
  repeat' (first | (k_unfold; try dsimp only) | (k_end; kc_close) | (walk1; all_goals ((try k_fold); (try dsimp only); try with_reducible refine wpAny_tk fun _ => ?_)) | (dsimp only; walk1) | (leave1; try dsimp only))
  rename_i l h3 tk3 e1 e2 e3 e4 F3 N3
  rw [hx] at e1
  obtain ⟨ta, l1', rfl, e5⟩ := KSpl.cons_of e1
  obtain rfl := KSpl.nil_of e5
  generalize h2.objs.size = li at *
  have hli := (N3 _ (.head _)).1
  refine call_map (items := #[.str a ta]) (n := 0) hli fun h4 m1 m2 m3 k4 => ?_
  have hlt : li < h3.objs.size := Heap.lt_size hli
  refine star_map (items := #[.str a ta]) (xs := [a]) rfl m3 m2 ⟨_, m1, rfl, rfl⟩ ⟨_, k4 _ _ hli, rfl, 0, rfl⟩ (fun i hi => ?_) (Nat.ne_of_gt (by omega)) (Nat.ne_of_gt (by omega)) (Nat.ne_of_lt hlt) (by show 1 ≤ sizeLine; rw [sizeLine_eq]; decide) fun s4 acc hm hacc => ?_
  · rcases i with _ | i
    · exact ⟨a, ta, rfl, rfl, Nat.le_trans (e3 a (.head _)) (by omega)⟩
    · exact absurd (show i + 1 < 1 from hi) (by omega)
  obtain ⟨v0, ev, ⟨x0, t0, ex0, rfl⟩⟩ := acc_one hacc
  rw [ev]
  obtain rfl : a = x0 := Option.some.inj ex0
  obtain ⟨h5, g5, d5, tk5, os5⟩ := s4
  obtain ⟨q1', q2, q3, q4, q5⟩ := hm
  dsimp only at q1' q2 q3 q4 q5
  subst q2 q3 q4
  have k35 : ∀ b o, h3.get? b = some o → h5.get? b = some o := fun b o e => q1' b o (fun q => absurd (Heap.lt_size e) (by rw [List.mem_singleton.mp q]; exact Nat.lt_irrefl _)) (k4 b o e)
  have F5 := PyProof.Rows.Fr.keeps F3 k35
  have N5 := PyProof.Rows.News.keepsAll N3 k35
  have X5 := X2.keeps F5.keep
  refine ⟨X5, wpC_call (call_pairC (pairCls rfl X5) ?_)⟩
  walk1
  refine refuse_130 X5 rfl fun h6 tk6 e hxe => ?_
  show wpAny _ _ (leaving _ _) _ _ _
  refine leave_newS B2 hxe F5 N5 fun h7 R7 R7' U7 => ?_
  refine caught_SN0 (X := "TypeError") (T' := "TypeError") R7 (by assumption) B' U7 XB TB D' KtsTurn.refl (by k_is) (by first | boot_by_name | rfl | kernel_rfl) (by decide) (by rw [isSubtype_type]; kernel_rfl) (by first | (rw [isSubtype_type]; kernel_rfl) | kernel_rfl) (by rw [isSubtype_type]; kernel_rfl) ?_
  intro h8 g8 T8 F8 N8 B8 X8 TT8 D8
  repeat' (first | (k_unfold; try dsimp only) | (k_end; kc_close) | (walk1; all_goals ((try k_fold); (try dsimp only); try with_reducible refine wpAny_tk fun _ => ?_)) | (dsimp only; walk1) | (leave1; try dsimp only))
  rename_i kg kT kF kN kB kX0 kP kD kX
  exact hret kg _ _ kT kF (PySem.W.KStt.news_of kN fun p hp => List.mem_cons_of_mem _ (List.mem_cons_of_mem _ hp)) kB kX0 kP kD
end
section
noncomputable def playFor (k : Frag) : List Stmt := match fnBody k 291 with
  | _ :: _ :: _ :: .For _ _ r _ _ :: _ => r
  | _ => []
noncomputable def playLine (x : Str) (σ : PS) : PS := match Txt.splitMax x (Str.ofString "=") 1 with
  | [a, b] => if Txt.strip a = Str.ofString "mask" then σ.setMask (numF (Txt.strip b)) else if Txt.strip b = Str.ofString "" then σ.take (Txt.strip a) else σ.store (Txt.strip a) (numF (Txt.strip b))
  | _ => if x = Str.ofString "!" then σ.freeze else σ.ask x
noncomputable def LineOk (x : Str) : Prop := x.length + 2 ≤ sizeLine ∧ ((∃ a, Txt.splitMax x (Str.ofString "=") 1 = [a]) ∨
  ∃ a b, Txt.splitMax x (Str.ofString "=") 1 = [a, b] ∧ x ≠ Str.ofString "!" ∧ (Txt.strip b).length ≤ 6 ∧ 0 ≤ numF (Txt.strip b) ∧ numF (Txt.strip b) < 65536)
structure PSok (σ : PS) : Prop where
  rows : ∀ r ∈ σ.rs, 0 ≤ r.2 ∧ r.2 < 65536
  left : 0 ≤ leftF σ.mask ∧ leftF σ.mask < 65536
theorem LamIn.mono {w : World} {f mc mk : Nat} {rest rest' : CbLed} (h : LamIn w f mc mk rest) (k : ∀ p ∈ rest, p ∈ rest') : LamIn w f mc mk rest' := by
  obtain ⟨P, BODY, SC, nm, qual, pm, ctv, c2, oc, oc0, vs, t', h1, h2, h3, h4, h5, h6, h7⟩ := h
  exact ⟨P, BODY, SC, nm, qual, pm, ctv, c2, oc, oc0, vs, t', h1, k _ h2, k _ h3, h4, k _ h5, h6, h7⟩
theorem play_turn (w : World) (mean : ExcName → Option Value) (mg mb : Str → Option Value) (b dx f mc mk tA : Nat) (es : List DictEntry) (ep : Nat) (fro : Option (Tok × Addr)) (t100 : Obj) (tv : List Value) (e1 : Nat) (tkm : Tok) (e0 : Nat) (σ : PS) (fx rest : CbLed) (x : Str) (tx : Tok)
   (dp un : Nat) (gd : Option (List Code)) (outer : List Env) (A₀ : Around) (base g₀ g : Heap) (L : Addr) (m : Str → Option Value) (s : Shared) (Q : Flow → Shared → Prop) (E : Value → Shared → Prop)
   (G : Gd A₀ base outer (hd.heap_39 w.params) topProg looseL mean mg mb (outer.filterMap (·.frame)) g₀ g) (F : Fr g L s.heap m) (N : News g L s.heap (playLed w b dx f mk tA es ep fro t100 tv e1 σ.mask tkm e0 rest))
   (XB : (hd.heap_39 w.params).In base) (TB : Top topProg looseL mean mg mb base) (hx : LineOk x) (hσ : PSok σ)
   (C1 : CodeHd base 104 100) (O : PlayOk w b dx f mc mk tA rest) (hfx : ∀ p ∈ fx, p ∈ rest) (hfi : ∀ p ∈ fx, isFx p.2 = true) (Z : Fz w b fro t100 σ.shut fx) (En : Ents w es σ.rs) (Tl : ToldAre tv σ.told) (hz : σ.rs.length ≤ 100) (htz : σ.told.length ≤ 100)
   (m1 : m "line" = some (.str x tx)) (m3 : m "book" = some (.ref b)) (m4 : m "told" = some (.ref tA))
   (hdp : dp + 8 < recursionLimit) (hu : un + 60 < cLine)
   (hret : ∀ (g' : Heap) (es' : List DictEntry) (ep' : Nat) (fro' : Option (Tok × Addr)) (t100' : Obj) (tv' : List Value) (e1' : Nat) (tkm' : Tok) (e0' : Nat) (fx' : CbLed) (m' : Str → Option Value) (h' : Heap) (tk' : Nat),
     Gd A₀ base outer (hd.heap_39 w.params) topProg looseL mean mg mb (outer.filterMap (·.frame)) g₀ g' → Ents w es' (playLine x σ).rs → ToldAre tv' (playLine x σ).told → Fz w b fro' t100' (playLine x σ).shut fx' → (∀ p ∈ fx', isFx p.2 = true) → m' "book" = some (.ref b) → m' "told" = some (.ref tA) → Fr g' L h' m' →
     News g' L h' (playLed w b dx f mk tA es' ep' fro' t100' tv' e1' (playLine x σ).mask tkm' e0' (fx' ++ rest)) → Q .next { s with heap := h', toks := tk' }) :
   wpC (model Challenge.rw_in0190_01.row.prog w) (ktrTop dp un gd (Str.ofString "_law_play") (playScope (hd.heap_39 w.params)) L 291 (.ref 290) [(Str.ofString "mask", mc)] outer) (execs (playFor (hd.heap_39 w.params)) (envX (Str.ofString "_law_play") (playScope (hd.heap_39 w.params)) L 291 (.ref 290) [(Str.ofString "mask", mc)])) Q E s := by
  have ef : playFor (hd.heap_39 w.params) = _ :: playIf (hd.heap_39 w.params) := rfl
  rw [ef]
  have es0 : playScope (hd.heap_39 w.params) = _ := rfl
  obtain ⟨T0, B, X, T, D⟩ := G
  have X0 := X
  replace F := fr_four F m1 m3 m4 m4
  have hL := hx.2
  refine wpC_execs_cons (wpC_Assign_Name (wpC_CallName ?_))
  revert X; k_fill; intro X
  rw [es0]
  walk1
  refine wpC_callWith (P := (hd.heap_39 w.params).In) (keeps_K (by kernel_rfl)) (Calls.evalArgs_plain (x := eval _ _) (rest := []) (Calls.spliced_cons ?_))
  walk1
  refine Calls.spliced_nil ⟨X.keeps (Fr.keep (h₀ := g) (by k_asm)), ?_⟩
  dsimp only
  rcases hL with ⟨a, ha⟩ | ⟨a, b', ha, hne, hle, hlo, hhi⟩
  · refine wpC_call ?_
    refine pair_one w mean mg mb x a tx _ dp _ gd _ _ _ _ _ _ A₀ base g L _ _ _ B (by k_asm) X0 N T XB TB g₀ D T0 rfl (by first | exact room_of hdp rfl | exact room_of (c := 5) hdp rfl | omega) (by first | exact room_of hu rfl | exact room_of (c := 27) hu rfl | omega) ha hx.1 fun g1 h1 tk1 T1 F1 N1 B1 X1 TT1 D1 => ?_
    dsimp only
    repeat' (first | (k_unfold; try dsimp only) | (k_end; kc_close) | (walk1; all_goals ((try k_fold); (try dsimp only); try with_reducible refine wpAny_tk fun _ => ?_)) | (dsimp only; walk1) | (leave1; try dsimp only))
    rename Fr g1 L _ _ => FA
    rename News g1 L _ _ => NA
    refine wpC_of ?_
    have G1 : Gd A₀ base outer (hd.heap_39 w.params) topProg looseL mean mg mb (outer.filterMap (·.frame)) g₀ g1 := ⟨T1, B1, X1, TT1, D1⟩
    by_cases hb : x = Str.ofString "!"
    · have ea : playLine x σ = σ.freeze := by unfold playLine; rw [ha]; simp only [hb, if_true]
      rw [ea] at hret
      subst hb
      exact deed_freeze w mean mg mb b dx f mc mk tA es ep fro t100 tv e1 tkm e0 σ fx rest (Str.ofString "!") tx dp un gd outer A₀ base g1 L _ _ Q E B1 FA X1 NA TT1 C1 O hfx hfi Z En Tl hz htz rfl rfl rfl rfl hdp hu fun es' ep' fro' t100' tv' e1' tkm' e0' fx' m' h' tk' a1 a2 a3 a4 a5 a6 a7 a8 => hret g1 es' ep' fro' t100' tv' e1' tkm' e0' fx' m' h' tk' G1 a1 a2 a3 a4 a5 a6 a7 a8
    · have ea : playLine x σ = σ.ask x := by unfold playLine; rw [ha]; simp only [hb, if_false]
      rw [ea] at hret
      exact deed_ask w mean mg mb b dx f mc mk tA es ep fro t100 tv e1 tkm e0 σ fx rest x tx dp un gd outer A₀ base g1 L _ _ Q E hb hσ.rows hσ.left B1 FA X1 NA TT1 C1 O hfx hfi Z En Tl hz htz rfl rfl rfl rfl hdp hu fun es' ep' fro' t100' tv' e1' tkm' e0' fx' m' h' tk' a1 a2 a3 a4 a5 a6 a7 a8 => hret g1 es' ep' fro' t100' tv' e1' tkm' e0' fx' m' h' tk' G1 a1 a2 a3 a4 a5 a6 a7 a8
  · refine wpC_of ?_
    refine pair_two w mean mg mb x a b' tx _ dp _ gd _ _ _ _ _ _ A₀ base g L _ _ _ _ B (by k_asm) X0 N T rfl (by first | exact room_of hdp rfl | exact room_of (c := 5) hdp rfl | omega) (by first | exact room_of hu rfl | exact room_of (c := 27) hu rfl | omega) ha hx.1 fun p0 d0 u0 u1 h1 tk1 hlt hpd F1 N1 => ?_
    have G1 : Gd A₀ base outer (hd.heap_39 w.params) topProg looseL mean mg mb (outer.filterMap (·.frame)) g₀ g := ⟨T0, B, X0, T, D⟩
    have N2 : News g L h1 (playLed w b dx f mk tA es ep fro t100 tv e1 σ.mask tkm e0 ((p0, pairObj d0 (.str (Txt.strip a) u0) (.str (Txt.strip b') u1)) :: (d0, emptyDict) :: rest)) := PySem.W.KStt.news_of N1 fun p hp => by
      first | (revert p; (repeat (first | exact sub_nil | (refine sub_cons ?_ ?_; (· repeat (first | assumption | exact List.Mem.head _ | refine List.Mem.tail _ ?_))) | refine sub_app ?_ ?_ | (intro p hp; (repeat (first | exact hp | exact List.mem_append_left _ hp | exact List.mem_append_right _ hp | refine List.Mem.tail _ ?_))))); done) | (simp only [playLed, List.mem_cons] at hp ⊢; rcases hp with h | h | h | h | h | h | h | h <;> first | ((repeat (first | exact h | exact Or.inl h | refine Or.inr ?_)); done) | simp only [h, true_or, or_true])
    have hr2 : ∀ p ∈ rest, p ∈ (p0, pairObj d0 (.str (Txt.strip a) u0) (.str (Txt.strip b') u1)) :: (d0, emptyDict) :: rest := fun p hp => .tail _ (.tail _ hp)
    have l1 : @LT.lt Nat _ b d0 := hlt _ (.head _)
    have l2 : @LT.lt Nat _ dx d0 := hlt _ (.tail _ (.head _))
    have l3 : @LT.lt Nat _ 100 d0 := hlt _ (.tail _ (.tail _ (.head _)))
    have l4 : @LT.lt Nat _ tA d0 := hlt _ (.tail _ (.tail _ (.tail _ (.head _))))
    have l5 : @LT.lt Nat _ mk d0 := hlt _ (.tail _ (.tail _ (.tail _ (.tail _ (.head _)))))
    have O2 : PlayOk w b dx f mc mk tA ((p0, pairObj d0 (.str (Txt.strip a) u0) (.str (Txt.strip b') u1)) :: (d0, emptyDict) :: rest) := by
      refine { O with off := fun p hp => ?_, lam := O.lam.mono hr2 }
      simp only [List.mem_cons] at hp
      rcases hp with rfl | rfl | hp
      · subst hpd; exact ⟨Nat.ne_of_gt (Nat.lt_succ_of_lt l1), Nat.ne_of_gt (Nat.lt_succ_of_lt l2), Nat.ne_of_gt (Nat.lt_succ_of_lt l3), Nat.ne_of_gt (Nat.lt_succ_of_lt l4), Nat.ne_of_gt (Nat.lt_succ_of_lt l5)⟩
      · exact ⟨Nat.ne_of_gt l1, Nat.ne_of_gt l2, Nat.ne_of_gt l3, Nat.ne_of_gt l4, Nat.ne_of_gt l5⟩
      · exact O.off p hp
    clear N1 N
    repeat' (first | (k_unfold; try dsimp only) | (k_end; kc_close) | (walk1; all_goals ((try k_fold); (try dsimp only); try with_reducible refine wpAny_tk fun _ => ?_)) | (dsimp only; walk1) | (leave1; try dsimp only))
    rename Fr g L _ _ => FA
    rename News g L _ _ => NA
    refine wpC_of ?_
    have fin : ∀ (τ : PS), playLine x σ = τ → ∀ (es' : List DictEntry) (ep' : Nat) (fro' : Option (Tok × Addr)) (t100' : Obj) (tv' : List Value) (e1' : Nat) (tkm' : Tok) (e0' : Nat) (fx' : CbLed) (m' : Str → Option Value) (h' : Heap) (tk' : Nat),
       Ents w es' τ.rs → ToldAre tv' τ.told → Fz w b fro' t100' τ.shut fx' → (∀ p ∈ fx', isFx p.2 = true) → m' "book" = some (.ref b) → m' "told" = some (.ref tA) → Fr g L h' m' →
       News g L h' (playLed w b dx f mk tA es' ep' fro' t100' tv' e1' τ.mask tkm' e0' (fx' ++ ((p0, pairObj d0 (.str (Txt.strip a) u0) (.str (Txt.strip b') u1)) :: (d0, emptyDict) :: rest))) → Q .next { s with heap := h', toks := tk' } := by
      rintro τ rfl es' ep' fro' t100' tv' e1' tkm' e0' fx' m' h' tk' a1 a2 a3 a4 a5 a6 a7 a8
      refine hret g es' ep' fro' t100' tv' e1' tkm' e0' fx' m' h' tk' G1 a1 a2 a3 a4 a5 a6 a7 (PySem.W.KStt.news_of a8 fun p hp => ?_)
      first | (revert p; (repeat (first | exact sub_nil | (refine sub_cons ?_ ?_; (· repeat (first | assumption | exact List.Mem.head _ | refine List.Mem.tail _ ?_))) | refine sub_app ?_ ?_ | (intro p hp; (repeat (first | exact hp | exact List.mem_append_left _ hp | exact List.mem_append_right _ hp | refine List.Mem.tail _ ?_))))); done) | (simp only [playLed, List.mem_cons, List.mem_append] at hp ⊢; rcases hp with h | h | h | h | h | h | h <;> first | ((repeat (first | exact h | exact Or.inl h | refine Or.inr ?_)); done) | simp only [h, true_or, or_true])
    by_cases hm : Txt.strip a = Str.ofString "mask"
    · have ea : playLine x σ = σ.setMask (numF (Txt.strip b')) := by unfold playLine; rw [ha]; simp only [hm, if_true]
      exact deed_mask w mean mg mb b dx f mc mk tA es ep fro t100 tv e1 tkm e0 σ fx _ x tx dp un gd outer A₀ base g L _ _ Q E p0 d0 _ _ u0 u1 (.head _) (.tail _ (.head _)) hne hm hle B FA X0 NA T C1 O2 (fun p hp => hr2 p (hfx p hp)) hfi Z En Tl hz htz rfl rfl rfl rfl hdp hu (fin _ ea)
    · by_cases hv : Txt.strip b' = Str.ofString ""
      · have ea : playLine x σ = σ.take (Txt.strip a) := by unfold playLine; rw [ha]; simp only [hm, hv, if_true, if_false]
        exact deed_take w mean mg mb b dx f mc mk tA es ep fro t100 tv e1 tkm e0 σ fx _ x tx dp un gd outer A₀ base g L _ _ Q E p0 d0 _ _ u0 u1 (.head _) (.tail _ (.head _)) hne hm hv hσ.rows B FA X0 NA T C1 O2 (fun p hp => hr2 p (hfx p hp)) hfi Z En Tl hz htz rfl rfl rfl rfl hdp hu (fin _ ea)
      · have ea : playLine x σ = σ.store (Txt.strip a) (numF (Txt.strip b')) := by unfold playLine; rw [ha]; simp only [hm, hv, if_false]
        exact deed_store w mean mg mb b dx f mc mk tA es ep fro t100 tv e1 tkm e0 σ fx _ x tx dp un gd outer A₀ base g L _ _ Q E p0 d0 _ _ u0 u1 (.head _) (.tail _ (.head _)) hne hm hle hv B FA X0 NA T C1 O2 (fun p hp => hr2 p (hfx p hp)) hfi Z En Tl hz htz rfl rfl rfl rfl hdp hu (fin _ ea)
end
section
noncomputable def plays (xs : List Str) (σ : PS) : PS := xs.foldl (fun τ x => playLine x τ) σ
theorem plays_snoc {xs : List Str} {x : Str} {i : Nat} {σ : PS} (h : xs[i]? = some x) : plays (xs.take (i + 1)) σ = playLine x (plays (xs.take i) σ) := by
  unfold plays
  rw [List.take_add_one, h, List.foldl_append]
  rfl
theorem putR_len (rs : List (Str × Int)) (n : Str) (v : Int) : (putR rs n v).length ≤ rs.length + 1 := by
  unfold putR
  split
  · rw [List.length_modify]; omega
  · rw [List.length_append]; exact Nat.le_refl _
theorem cutR_len (rs : List (Str × Int)) (n : Str) : (cutR rs n).length ≤ rs.length := by
  unfold cutR
  split
  · exact List.length_eraseIdx_le ..
  · exact Nat.le_refl _
theorem playLine_len (x : Str) (σ : PS) : (playLine x σ).rs.length ≤ σ.rs.length + 1 ∧ (playLine x σ).told.length ≤ σ.told.length + 1 := by
  unfold playLine
  split
  · split
    · exact ⟨Nat.le_succ _, Nat.le_succ _⟩
    · split
      · unfold PS.take
        split
        · exact ⟨Nat.le_succ_of_le (cutR_len _ _), by simp⟩
        · exact ⟨Nat.le_succ _, by simp⟩
      · exact ⟨putR_len _ _ _, Nat.le_succ _⟩
  · split
    · exact ⟨Nat.le_succ _, by simp [PS.freeze]⟩
    · unfold PS.ask
      split
      · exact ⟨Nat.le_succ _, by simp⟩
      · refine ⟨?_, by simp⟩
        dsimp only
        split
        · exact Nat.le_succ _
        · exact putR_len _ _ _
theorem leftF_ok (v : Int) (h0 : 0 ≤ v) : 0 ≤ leftF v ∧ leftF v < 65536 := by
  have ec : Builtin.bitOr (Builtin.bitOr (Builtin.bitOr (Builtin.bitOr (Builtin.bitOr 256 128) 32) 16) 4) 2 = 438 := by decide +kernel
  unfold leftF
  rw [ec, PyProof.Rows.bitOr_and]
  have a1 := PyProof.Rows.bitAnd_pp (x := 438) (y := v) (by decide) h0
  have a2 : ((438 : Int).toNat &&& v.toNat) ≤ 438 := Nat.and_le_left
  rw [a1]
  have a3 : (0 : Int) ≤ 438 - (((438 : Int).toNat &&& v.toNat : Nat) : Int) := by omega
  have a4 := PyProof.Rows.bitAnd_pp (x := 32768) (y := 438 - (((438 : Int).toNat &&& v.toNat : Nat) : Int)) (by decide) a3
  rw [a4]
  have a5 : ((32768 : Int).toNat &&& (438 - (((438 : Int).toNat &&& v.toNat : Nat) : Int)).toNat) ≤ 32768 := Nat.and_le_left
  omega
theorem putR_ok {P : Int → Prop} {rs : List (Str × Int)} {n : Str} {v : Int} (h : ∀ r ∈ rs, P r.2) (hv : P v) : ∀ r ∈ putR rs n v, P r.2 := by
  unfold putR
  split
  · next i _ =>
    intro r hr
    obtain ⟨j, hj, e⟩ := List.getElem_of_mem hr
    rw [List.getElem_modify] at e
    split at e
    · rw [← e]; exact hv
    · rw [← e]; exact h _ (List.getElem_mem _)
  · intro r hr
    rcases List.mem_append.mp hr with hr | hr
    · exact h r hr
    · rw [List.mem_singleton.mp hr]; exact hv
theorem cutR_ok {P : Int → Prop} {rs : List (Str × Int)} {n : Str} (h : ∀ r ∈ rs, P r.2) : ∀ r ∈ cutR rs n, P r.2 := by
  unfold cutR
  split
  · exact fun r hr => h r (List.mem_of_mem_eraseIdx hr)
  · exact h
theorem playLine_ok {x : Str} {σ : PS} (hx : LineOk x) (h : PSok σ) : PSok (playLine x σ) := by
  unfold playLine
  rcases hx.2 with ⟨a, ha⟩ | ⟨a, b, ha, _, _, h1, h2⟩
  · rw [ha]
    dsimp only
    split
    · exact ⟨h.rows, h.left⟩
    · unfold PS.ask
      split
      · exact ⟨h.rows, h.left⟩
      · refine ⟨?_, h.left⟩
        dsimp only
        split
        · exact h.rows
        · exact putR_ok (P := fun v => 0 ≤ v ∧ v < 65536) h.rows h.left
  · rw [ha]
    dsimp only
    split
    · exact ⟨h.rows, leftF_ok _ h1⟩
    · split
      · unfold PS.take
        split
        · exact ⟨cutR_ok (P := fun v => 0 ≤ v ∧ v < 65536) h.rows, h.left⟩
        · exact ⟨h.rows, h.left⟩
      · exact ⟨putR_ok (P := fun v => 0 ≤ v ∧ v < 65536) h.rows ⟨h1, h2⟩, h.left⟩
theorem plays_ok : ∀ {xs : List Str} {σ : PS}, (∀ x ∈ xs, LineOk x) → PSok σ → PSok (plays xs σ)
  | [], _, _, h => h
  | x :: xs, σ, hx, h => plays_ok (xs := xs) (σ := playLine x σ) (fun y hy => hx y (List.mem_cons_of_mem _ hy)) (playLine_ok (hx _ (.head _)) h)
theorem plays_len : ∀ {xs : List Str} {σ : PS}, (plays xs σ).rs.length ≤ σ.rs.length + xs.length ∧ (plays xs σ).told.length ≤ σ.told.length + xs.length
  | [], _ => ⟨Nat.le_refl _, Nat.le_refl _⟩
  | x :: xs, σ => by
    have a := plays_len (xs := xs) (σ := playLine x σ)
    have b := playLine_len x σ
    exact ⟨len_step a.1 b.1, len_step a.2 b.2⟩
noncomputable def playLoop (k : Frag) : List Stmt := match fnBody k 291 with
  | _ :: _ :: _ :: r => r
  | _ => []
noncomputable def playEnd (k : Frag) : List Stmt := match fnBody k 291 with
  | _ :: _ :: _ :: _ :: r => r
  | _ => []
theorem play_loop (w : World) (mean : ExcName → Option Value) (mg mb : Str → Option Value) (b dx f mc mk tA l k : Nat) (vs : List Value) (xs : List Str) (tkm : Tok) (e1 e0 : Nat) (mask : Int) (rest : CbLed)
   (dp un : Nat) (gd : Option (List Code)) (outer : List Env) (A₀ : Around) (base g₀ : Heap) (L : Addr) (m : Str → Option Value) (s : Shared) (Q : Flow → Shared → Prop) (E : Value → Shared → Prop)
   (G : Gd A₀ base outer (hd.heap_39 w.params) topProg looseL mean mg mb (outer.filterMap (·.frame)) g₀ g₀) (F : Fr g₀ L s.heap m) (N : News g₀ L s.heap ((l, W.listOf vs.toArray k) :: playLed w b dx f mk tA [] 0 none (tabObj #[]) [] e1 mask tkm e0 rest))
   (XB : (hd.heap_39 w.params).In base) (TB : Top topProg looseL mean mg mb base) (hvs : StrsAre vs xs) (hx : ∀ x ∈ xs, LineOk x) (hn : xs.length ≤ 100) (hmask : 0 ≤ mask)
   (C1 : CodeHd base 104 100) (O : PlayOk w b dx f mc mk tA rest) (offl : ∀ p ∈ playLed w b dx f mk tA [] 0 none (tabObj #[]) [] e1 mask tkm e0 rest, @Ne Nat p.1 l)
   (m1 : m "lines" = some (.ref l)) (m3 : m "book" = some (.ref b)) (m4 : m "told" = some (.ref tA))
   (hdp : dp + 8 < recursionLimit) (hu : un + 60 < cLine)
   (done : ∀ (g' : Heap) (es' : List DictEntry) (ep' : Nat) (fro' : Option (Tok × Addr)) (t100' : Obj) (tv' : List Value) (e1' : Nat) (tkm' : Tok) (e0' : Nat) (fx' : CbLed) (m' : Str → Option Value) (h' : Heap) (tk' : Nat),
     let σ' := plays xs ⟨mask, false, [], []⟩
     Gd A₀ base outer (hd.heap_39 w.params) topProg looseL mean mg mb (outer.filterMap (·.frame)) g₀ g' → Ents w es' σ'.rs → ToldAre tv' σ'.told → Fz w b fro' t100' σ'.shut fx' → (∀ p ∈ fx', isFx p.2 = true) → m' "book" = some (.ref b) → m' "told" = some (.ref tA) → Fr g' L h' m' →
     News g' L h' ((l, W.listOf vs.toArray k) :: playLed w b dx f mk tA es' ep' fro' t100' tv' e1' σ'.mask tkm' e0' (fx' ++ rest)) →
     wpC (model Challenge.rw_in0190_01.row.prog w) (ktrTop dp un gd (Str.ofString "_law_play") (playScope (hd.heap_39 w.params)) L 291 (.ref 290) [(Str.ofString "mask", mc)] outer) (execs (playEnd (hd.heap_39 w.params)) (envX (Str.ofString "_law_play") (playScope (hd.heap_39 w.params)) L 291 (.ref 290) [(Str.ofString "mask", mc)])) Q E { s with heap := h', toks := tk' }) :
   wpC (model Challenge.rw_in0190_01.row.prog w) (ktrTop dp un gd (Str.ofString "_law_play") (playScope (hd.heap_39 w.params)) L 291 (.ref 290) [(Str.ofString "mask", mc)] outer) (execs (playLoop (hd.heap_39 w.params)) (envX (Str.ofString "_law_play") (playScope (hd.heap_39 w.params)) L 291 (.ref 290) [(Str.ofString "mask", mc)])) Q E s := by
  have ef : playLoop (hd.heap_39 w.params) = .For (.Name _ _) (.Name (Str.ofString "lines") _) (playFor (hd.heap_39 w.params)) [] _ :: playEnd (hd.heap_39 w.params) := rfl
  rw [ef]
  have es0 : playScope (hd.heap_39 w.params) = _ := rfl
  refine wpC_execs_cons (forC (Γ := fun g => Gd A₀ base outer (hd.heap_39 w.params) topProg looseL mean mg mb (outer.filterMap (·.frame)) g₀ g) (Q := fun f s' => match f with | .next => wpC (model Challenge.rw_in0190_01.row.prog w) (ktrTop dp un gd (Str.ofString "_law_play") (playScope (hd.heap_39 w.params)) L 291 (.ref 290) [(Str.ofString "mask", mc)] outer) (execs (playEnd (hd.heap_39 w.params)) (envX (Str.ofString "_law_play") (playScope (hd.heap_39 w.params)) L 291 (.ref 290) [(Str.ofString "mask", mc)])) Q E s' | f => Q f s')
    (fun i m nw => ∃ (es : List DictEntry) (ep : Nat) (fro : Option (Tok × Addr)) (t100 : Obj) (tv : List Value) (e1 : Nat) (tkm : Tok) (e0 : Nat) (fx : CbLed), nw = playLed w b dx f mk tA es ep fro t100 tv e1 (plays (xs.take i) ⟨mask, false, [], []⟩).mask tkm e0 (fx ++ rest) ∧ Ents w es (plays (xs.take i) ⟨mask, false, [], []⟩).rs ∧ ToldAre tv (plays (xs.take i) ⟨mask, false, [], []⟩).told ∧ Fz w b fro t100 (plays (xs.take i) ⟨mask, false, [], []⟩).shut fx ∧ (∀ p ∈ fx, isFx p.2 = true) ∧ m "book" = some (.ref b) ∧ m "told" = some (.ref tA))
    rfl (by rw [es0]; rfl) (by rw [es0]; rfl) rfl (fun Q' hq => nameX_L F m1 hq (by rw [es0]; rfl) (by rw [es0]; rfl) (by decide)) G F N offl ⟨[], 0, none, tabObj #[], [], e1, tkm, e0, [], rfl, trivial, trivial, .opn rfl rfl rfl rfl, by simp, m3, m4⟩ ?_ ?_)
  · intro i v I oI g m nw h tk hi hv hG hJ F1 N1 oI1 ol1 hlI hdI
    obtain ⟨es, ep, fro, t100, tv, e1, tkm, e0, fx, rfl, En, Tl, Z, hfi, hb1, ht1⟩ := hJ
    obtain ⟨x, tx, rfl, hxi⟩ := hvs.item i v hv
    have hlen : xs.length = vs.length := (StrsAre.len_eq hvs).symm
    have hL := plays_len (xs := xs.take i) (σ := ⟨mask, false, [], []⟩)
    rw [List.length_take] at hL
    have hok := plays_ok (xs := xs.take i) (σ := ⟨mask, false, [], []⟩) (fun y hy => hx y (List.mem_of_mem_take hy)) ⟨by simp, leftF_ok _ hmask⟩
    have es1 := plays_snoc (σ := ⟨mask, false, [], []⟩) hxi
    generalize hσ : plays (xs.take i) ⟨mask, false, [], []⟩ = σ at *
    rw [es1]
    have hIx : isFx oI = false := by
      obtain ⟨z, hz⟩ := hdI
      unfold isFx
      rw [hz]
      rfl
    have hIb := oI1 _ (.head _)
    have hId := oI1 _ (.tail _ (.head _))
    have hI1 := oI1 _ (.tail _ (.tail _ (.head _)))
    have hIt := oI1 _ (.tail _ (.tail _ (.tail _ (.head _))))
    have hIm := oI1 _ (.tail _ (.tail _ (.tail _ (.tail _ (.head _)))))
    have hlb := ol1 _ (.head _)
    have hld := ol1 _ (.tail _ (.head _))
    have hl1 := ol1 _ (.tail _ (.tail _ (.head _)))
    have hlt := ol1 _ (.tail _ (.tail _ (.tail _ (.head _))))
    have hlm := ol1 _ (.tail _ (.tail _ (.tail _ (.tail _ (.head _)))))
    dsimp only at hIb hId hI1 hIt hIm hlb hld hl1 hlt hlm
    have hT : ∀ p ∈ fx ++ rest, p ∈ (I, oI) :: (l, W.listOf vs.toArray k) :: playLed w b dx f mk tA es ep fro t100 tv e1 σ.mask tkm e0 (fx ++ rest) := fun p hp => .tail _ (.tail _ (.tail _ (.tail _ (.tail _ (.tail _ (.tail _ hp))))))
    have z1 : isFx t100 = false := by
      rcases Z with ⟨_, _, rfl, _⟩ | ⟨_, _, _, _, _, _, _, _, _, _, _, _, _, _, _, _, _, rfl, _⟩ <;> rfl
    have z2 : isFx (dxObj w fro) = false := by cases fro <;> rfl
    have O1 : PlayOk w b dx f mc mk tA ((I, oI) :: (l, W.listOf vs.toArray k) :: (fx ++ rest)) := by
      refine { O with off := fun p hp => ?_, lam := O.lam.mono fun p hp => .tail _ (.tail _ (List.mem_append_right _ hp)) }
      simp only [List.mem_cons, List.mem_append] at hp
      rcases hp with rfl | rfl | hp | hp
      · exact ⟨Ne.symm hIb, Ne.symm hId, Ne.symm hI1, Ne.symm hIt, Ne.symm hIm⟩
      · exact ⟨Ne.symm hlb, Ne.symm hld, Ne.symm hl1, Ne.symm hlt, Ne.symm hlm⟩
      · have hm := hT p (List.mem_append_left _ hp)
        have hf := hfi p hp
        exact ⟨fx_ne N1 hm (.tail _ (.tail _ (.head _))) hf rfl, fx_ne N1 hm (.tail _ (.tail _ (.tail _ (.head _)))) hf z2, fx_ne N1 hm (.tail _ (.tail _ (.tail _ (.tail _ (.head _))))) hf z1, fx_ne N1 hm (.tail _ (.tail _ (.tail _ (.tail _ (.tail _ (.head _)))))) hf rfl, fx_ne N1 hm (.tail _ (.tail _ (.tail _ (.tail _ (.tail _ (.tail _ (.head _))))))) hf rfl⟩
      · exact O.off p hp
    have N2 : News g L h (playLed w b dx f mk tA es ep fro t100 tv e1 σ.mask tkm e0 ((I, oI) :: (l, W.listOf vs.toArray k) :: (fx ++ rest))) := PySem.W.KStt.news_of N1 fun p hp => by
      first | (revert p; (repeat (first | exact sub_nil | (refine sub_cons ?_ ?_; (· repeat (first | assumption | exact List.Mem.head _ | refine List.Mem.tail _ ?_))) | refine sub_app ?_ ?_ | (intro p hp; (repeat (first | exact hp | exact List.mem_append_left _ hp | exact List.mem_append_right _ hp | refine List.Mem.tail _ ?_))))); done) | (simp only [playLed, List.mem_cons, List.mem_append] at hp ⊢; rcases hp with h | h | h | h | h | h | h | h | h <;> first | ((repeat (first | exact h | exact Or.inl h | refine Or.inr ?_)); done) | simp only [h, true_or, or_true])
    refine play_turn w mean mg mb b dx f mc mk tA es ep fro t100 tv e1 tkm e0 σ fx _ x tx dp un gd outer A₀ base g₀ g L _ _ _ _ hG F1 N2 XB TB (hx x (List.mem_of_getElem? hxi)) hok C1 O1 (fun p hp => .tail _ (.tail _ (List.mem_append_left _ hp))) hfi Z En Tl (by simp at hL; omega) (by simp at hL; omega) rfl ((if_neg (by decide)).trans hb1) ((if_neg (by decide)).trans ht1) hdp hu ?_
    intro g' es' ep' fro' t100' tv' e1' tkm' e0' fx' m' h' tk' G' a1 a2 a3 a4 a5 a6 a7 a8
    have N3 : News g' L h' ((I, oI) :: (l, W.listOf vs.toArray k) :: playLed w b dx f mk tA es' ep' fro' t100' tv' e1' (playLine x σ).mask tkm' e0' (fx' ++ rest)) := PySem.W.KStt.news_of a8 fun p hp => by
      first | (revert p; (repeat (first | exact sub_nil | (refine sub_cons ?_ ?_; (· repeat (first | assumption | exact List.Mem.head _ | refine List.Mem.tail _ ?_))) | refine sub_app ?_ ?_ | (intro p hp; (repeat (first | exact hp | exact List.mem_append_left _ hp | exact List.mem_append_right _ hp | refine List.Mem.tail _ ?_))))); done) | (simp only [playLed, List.mem_cons, List.mem_append] at hp ⊢; rcases hp with h | h | h | h | h | h | h | h | h <;> first | ((repeat (first | exact h | exact Or.inl h | refine Or.inr ?_)); done) | simp only [h, true_or, or_true])
    refine ⟨.inl rfl, g', h', tk', m', _, rfl, G', a7, N3, fun p hp => ?_, fun p hp => ?_, es', ep', fro', t100', tv', e1', tkm', e0', fx', rfl, a1, a2, a3, a4, a5, a6⟩
    · have hp0 := hp
      simp only [playLed, List.mem_cons, List.mem_append] at hp
      rcases hp with rfl | rfl | rfl | rfl | rfl | hp | hp
      · exact hIb
      · exact hId
      · exact hI1
      · exact hIt
      · exact hIm
      · exact fx_ne N3 (.tail _ (.tail _ hp0)) (.head _) (a4 p hp) hIx
      · exact oI1 p (.tail _ (.tail _ (.tail _ (.tail _ (.tail _ (List.mem_append_right _ hp))))))
    · have hp0 := hp
      simp only [playLed, List.mem_cons, List.mem_append] at hp
      rcases hp with rfl | rfl | rfl | rfl | rfl | hp | hp
      · exact hlb
      · exact hld
      · exact hl1
      · exact hlt
      · exact hlm
      · exact fx_ne N3 (.tail _ (.tail _ hp0)) (.tail _ (.head _)) (a4 p hp) rfl
      · exact ol1 p (.tail _ (.tail _ (.tail _ (.tail _ (.tail _ (List.mem_append_right _ hp))))))
  · intro g m nw h tk hG hJ F1 N1
    obtain ⟨es, ep, fro, t100, tv, e1, tkm, e0, fx, rfl, En, Tl, Z, hfi, hb1, ht1⟩ := hJ
    have hlen : xs.take vs.length = xs := by rw [StrsAre.len_eq hvs]; exact List.take_length
    rw [hlen] at En Tl Z N1
    exact done g es ep fro t100 tv e1 tkm e0 fx m h tk hG En Tl Z hfi hb1 ht1 F1 N1
end
section
section
variable {prog : Program} {w : World} {A : Around} {E : Value → Shared → Prop} {h : Heap} {g : Array GenState} {d : Drawn} {t : Nat} {os : OsState}
theorem ownsItem : Builtin.Dict_items.ownsTuple "dict_itemiterator" = true := by decide
theorem iter_items {v b ep : Nat} {od : Obj} {es : List DictEntry} {Q : Value → Shared → Prop} (hv : h.IsItemsView v b) (hb : h.get? b = some od) (hd : od.data = .dict es.toArray ep)
    (hq : Q (.ref h.objs.size) ⟨h.push { cls := .type "dict_itemiterator", data := .fields #[.none, .bool false, .ref b, .int 0 0, .int es.length 0, .int ep 0, .none, .none] }, g, d, t, os⟩) :
    wpAny (model prog w) A (pyIter (.ref v)) Q E ⟨h, g, d, t, os⟩ := by
  have hT : Shared.TypeIs ⟨h, g, d, t, os⟩ (.ref v) "dict_items" := hv.typeIs (s := ⟨h, g, d, t, os⟩)
  obtain ⟨ov, h1, h2, h3⟩ := hv
  refine wpAny_pyIter_slot hT F.slot_dict_items_iter (wpAny_call_entry F.slot_dict_items_iter hT F.entry_dict_items_iter ?_ (F.args_dict_items_iter_1 _))
  unfold Builtin.«dict_items.__iter__» Builtin.Dict_items.dictOf Builtin.Dict_items.newIterator
  refine wpAny_bind (wpAny_pure (wpAny_bind (wpAny_bind (wpAny_field h1 h3 (x := .ref b) rfl (wpAny_pure ?_)))))
  refine wpAny_bind (wpAny_bind (wpAny_dictEntries hb hd (wpAny_bind (wpAny_dictEpoch hb hd ?_))))
  repeat (first | simp -iota only [ownsItem, if_true] | dsimp only)
  refine wpAny_newObj_type (wpAny_pure ⟨_, rfl, "dict_itemiterator", _, ⟨_, Heap.get?_push_size _ rfl, rfl⟩, F.slot_dict_itemiterator_next.lookup, ?_⟩) ?_
  · simpa [rawInt, Builtin.Dict_items.ownedTupleFields] using hq
  · simp only [sizeOk, Builtin.Dict_items.ownedTupleFields, List.size_toArray, List.length_append, List.length_cons, List.length_nil, sizeLine_eq]
    omega
theorem next_items {I b ep i : Nat} {ok ov : Value} {od : Obj} {es : List DictEntry} {e : DictEntry} {Q : Option Value → Shared → Prop} (hit : IsItemIter h I b i es.length ep ok ov) (hb : h.get? b = some od) (hd : od.data = .dict es.toArray ep)
    (hx : es[i]? = some e)
    (hq : ∀ h', IsItemIterOut h' I b (i + 1) es.length ep e.key e.val h.objs.size → h'.get? h.objs.size = some { cls := .type "tuple", data := .seq #[e.key, e.val] } →
      (∀ a o, a ≠ I → h.get? a = some o → h'.get? a = some o) → Q (some (.ref h.objs.size)) ⟨h', g, d, t, os⟩) :
    wpAny (model prog w) A (pyNext (.ref I)) Q E ⟨h, g, d, t, os⟩ := by
  have hT : Shared.TypeIs ⟨h, g, d, t, os⟩ (.ref I) "dict_itemiterator" := ⟨_, hit, rfl⟩
  have hlt : i < es.toArray.size := by
    rw [List.size_toArray]
    exact (List.getElem?_eq_some_iff.mp hx).1
  have he : es.toArray[i] = e := by
    have := List.getElem?_eq_some_iff.mp hx
    obtain ⟨_, q⟩ := this
    simpa using q
  have hI : I < h.objs.size := Heap.lt_size hit
  have hIne : h.objs.size ≠ I := Nat.ne_of_gt hI
  unfold pyNext
  refine wpAny_bind (wpAny_attempt (wpAny_callSpecial?_slot (name := Str.ofString "__next__") hT F.slot_dict_itemiterator_next
    (wpAny_call_entry F.slot_dict_itemiterator_next hT F.entry_dict_itemiterator_next ?_ (F.args_dict_itemiterator_next_1 _))))
  refine wpAny_bind (wpAny_pure (wpAny_bind (wpAny_bind ?_)))
  refine wpAny_bind (wpAny_typeNameOfWhole_itemiter hT (wpAny_pure (wpAny_bind (wpAny_fieldsOf hit rfl ?_))))
  repeat (first | simp -iota only [ownsItem, if_true] | dsimp only)
  show wpAny _ _ (if (Value.ref b == Value.none) = true then _ else _) _ _ _
  rw [if_neg (show ¬ ((Value.ref b == Value.none) = true) from Bool.false_ne_true)]
  refine wpAny_bind (wpAny_pure (wpAny_bind (wpAny_dictEntries hb hd ?_)))
  rw [if_neg (by simp)]
  refine wpAny_bind (wpAny_pure (wpAny_bind (wpAny_dictEpoch hb hd ?_)))
  rw [if_neg (by simp)]
  refine wpAny_pure ?_
  repeat (first | simp -iota only [show ¬ ((i : Int) < 0) from by omega, if_false, Int.toNat_natCast, Array.getElem?_eq_getElem hlt, he] | dsimp only)
  refine wpAny_bind (wpAny_bind (wpAny_typeNameOfWhole_itemiter hT (wpAny_pure ?_)))
  refine wpAny_bind (wpAny_isOneOf_itemiter hT ?_)
  show wpAny _ _ (setField (.ref I) 3 (rawInt ((i : Int) + 1)) >>= _) _ _ _
  refine wpAny_bind (wpAny_setField_rec hit (by simp) fun h1 e1 s1 => ?_)
  have s1' : Heap.SameBut I h h1 := s1
  have i1 : IsItemIter h1 I b (i + 1) es.length ep ok ov := by
    unfold IsItemIter
    rw [show ((i + 1 : Nat) : Int) = (i : Int) + 1 from by omega]
    simpa [rawInt] using e1
  have T1 : Shared.TypeIs ⟨h1, g, d, t, os⟩ (.ref I) "dict_itemiterator" := ⟨_, i1, rfl⟩
  have z1 : h1.objs.size = h.objs.size := s1'.1
  refine wpAny_bind (wpAny_holding (wpAny_bind (wpAny_isOneOf_itemiter T1 (wpAny_bind (wpAny_isOneOf_itemiter T1 ?_)))))
  show wpAny _ _ (Builtin.Dict_items.pairFromOwner (.ref I) 6 e.key e.val) _ _ _
  unfold Builtin.Dict_items.pairFromOwner Builtin.Dict_items.ownedTupleIsFree
  refine wpAny_bind (wpAny_newTuple ?_)
  have i2 : IsItemIter (h1.push { cls := .type "tuple", data := .seq #[e.key, e.val] }) I b (i + 1) es.length ep ok ov := Heap.get?_push_of_some _ i1
  have t2 : (h1.push { cls := .type "tuple", data := .seq #[e.key, e.val] }).get? h.objs.size = some { cls := .type "tuple", data := .seq #[e.key, e.val] } := z1 ▸ Heap.get?_push_size _ rfl
  have k2 : ∀ a o, a ≠ I → h.get? a = some o → (h1.push { cls := .type "tuple", data := .seq #[e.key, e.val] }).get? a = some o := fun a o q z => Heap.get?_push_of_some _ (s1'.extBut a o q z)
  repeat (first | simp -iota only [z1] | dsimp only)
  show wpAny _ _ _ _ _ ⟨h1.push { cls := .type "tuple", data := .seq #[e.key, e.val] }, g, d, t, os⟩
  generalize h1.push { cls := .type "tuple", data := .seq #[e.key, e.val] } = h2 at i2 t2 k2 ⊢
  refine wpAny_bind (wpAny_bind (wpAny_field i2 rfl (x := .none) rfl (wpAny_pure ?_)))
  repeat (first | simp -iota only [if_true] | dsimp only)
  refine wpAny_bind (wpAny_field i2 rfl (x := ok) rfl (wpAny_bind (wpAny_field i2 rfl (x := ov) rfl ?_)))
  refine wpAny_bind (wpAny_setField_rec i2 (by simp) fun h3 e3 s3 => ?_)
  have i3 : IsItemIter h3 I b (i + 1) es.length ep e.key ov := e3
  refine wpAny_bind (wpAny_setField_rec i3 (by simp) fun h4 e4 s4 => ?_)
  have i4 : IsItemIter h4 I b (i + 1) es.length ep e.key e.val := e4
  refine wpAny_bind (wpAny_setField_rec i4 (by simp) fun h5 e5 s5 => ?_)
  have i5 : IsItemIterOut h5 I b (i + 1) es.length ep e.key e.val h.objs.size := e5
  refine wpAny_bind (wpAny_setField_rec i5 (by simp) fun h6 e6 s6 => ?_)
  have i6 : IsItemIterOut h6 I b (i + 1) es.length ep e.key e.val h.objs.size := e6
  have s3' : Heap.SameBut I h2 h3 := s3
  have s4' : Heap.SameBut I h3 h4 := s4
  have s5' : Heap.SameBut I h4 h5 := s5
  have s6' : Heap.SameBut I h5 h6 := s6
  have k6 : ∀ a o, a ≠ I → h2.get? a = some o → h6.get? a = some o := fun a o q z => s6'.extBut a o q (s5'.extBut a o q (s4'.extBut a o q (s3'.extBut a o q z)))
  exact wpAny_bind (wpAny_letGo (wpAny_pure (wpAny_pure ⟨_, rfl, wpAny_pure (hq h6 i6 (k6 _ _ hIne t2) fun a o q z => k6 a o q (k2 a o q z))⟩)))
theorem end_items {I b ep : Nat} {ok ov : Value} {od : Obj} {es : List DictEntry} {Q : Option Value → Shared → Prop} (hh : A.handled = none) (hit : IsItemIter h I b es.length es.length ep ok ov) (hb : h.get? b = some od) (hd : od.data = .dict es.toArray ep)
    (hq : ∀ h', Heap.ExtBut I h h' → Q none ⟨h', g, d, t, os⟩) :
    wpAny (model prog w) A (pyNext (.ref I)) Q E ⟨h, g, d, t, os⟩ := by
  have hT : Shared.TypeIs ⟨h, g, d, t, os⟩ (.ref I) "dict_itemiterator" := ⟨_, hit, rfl⟩
  unfold pyNext
  refine wpAny_bind (wpAny_attempt (wpAny_callSpecial?_slot (name := Str.ofString "__next__") hT F.slot_dict_itemiterator_next
    (wpAny_call_entry F.slot_dict_itemiterator_next hT F.entry_dict_itemiterator_next ?_ (F.args_dict_itemiterator_next_1 _))))
  refine wpAny_bind (wpAny_pure (wpAny_bind (wpAny_bind ?_)))
  refine wpAny_bind (wpAny_typeNameOfWhole_itemiter hT (wpAny_pure (wpAny_bind (wpAny_fieldsOf hit rfl ?_))))
  repeat (first | simp -iota only [ownsItem, if_true] | dsimp only)
  show wpAny _ _ (if (Value.ref b == Value.none) = true then _ else _) _ _ _
  rw [if_neg (show ¬ ((Value.ref b == Value.none) = true) from Bool.false_ne_true)]
  refine wpAny_bind (wpAny_pure (wpAny_bind (wpAny_dictEntries hb hd ?_)))
  rw [if_neg (by simp)]
  refine wpAny_bind (wpAny_pure (wpAny_bind (wpAny_dictEpoch hb hd ?_)))
  rw [if_neg (by simp)]
  refine wpAny_pure ?_
  have hge : es.toArray.size ≤ es.length := Nat.le_of_eq (List.size_toArray ..)
  repeat (first | simp -iota only [show ¬ ((es.length : Int) < 0) from by omega, if_false, Int.toNat_natCast, Array.getElem?_eq_none hge] | dsimp only)
  refine wpAny_bind (wpAny_bind (wpAny_typeNameOfWhole_itemiter hT (wpAny_pure ?_)))
  show wpAny _ _ (setField (.ref I) 2 .none >>= _) _ _ _
  refine wpAny_bind (wpAny_setField_rec hit (by simp) fun h1 e1 s1 => ?_)
  have x1 : Heap.ExtBut I h h1 := Heap.SameBut.extBut s1
  repeat (first | simp -iota only [newExc, newTuple, raiseNew] | dsimp only)
  refine wpAny_bind (wpAny_bind (wpAny_newObj_type ?_ (by size_fits)))
  refine wpAny_bind (m := firstArgMember _ _) (wpAny_of_eq (a := Value.none) (by first | rfl | (simp only [firstArgMember]; rfl)) (wpAny_newObj_type ?_ (by size_fits)))
  refine wpAny_bind (wpAny_handled ?_)
  rw [show A.in1.handled = none from hh]
  refine wpAny_bind (wpAny_pure (wpAny_throw ?_))
  refine wpAny_bind (wpAny_isInstance (T := "StopIteration") (b := true) ⟨_, Heap.get?_push_size _ rfl, rfl⟩ isSubtype_stop ?_)
  exact wpAny_pure (hq _ ((x1.push _).push _))
end
theorem dit_kind : builtinKind "dict.items" = some .method ∨ builtinKind "dict.items" = some .slot := by rw [builtinKind_eq_fast]; decide +kernel
theorem dit_split : splitId "dict.items" = some ("dict", "items") := by decide +kernel
section
variable {prog : Program} {w : World} {A : Around} {E : Value → Shared → Prop} {h : Heap} {g : Array GenState} {d : Drawn} {t : Nat} {os : OsState}
theorem items_book {b dx : Addr} {es : List DictEntry} {ep : Nat} {sl : Array (Option Value)} {Q : Value → Shared → Prop} (Y : BookCls (model prog w) h) (hb : h.get? b = some (bookObj dx es ep sl)) (hlo : (b == sysModules) = false)
    (hq : Q (.ref h.objs.size) ⟨h.push { cls := .type "dict_items", data := .fields #[.ref b] }, g, d, t, os⟩) :
    wpAny (model prog w) A (call (.builtin "dict.items") [.ref b]) Q E ⟨h, g, d, t, os⟩ := by
  have tb : Looks (model prog w) h (typeOf (.ref b)) (.ref 108) := (Looks.ld hb).andThen .now
  have ib : Looks (model prog w) h (isInstance (.ref b) (.type "dict")) true := tb.andThen Y.dict
  have io : Looks (model prog w) h (isInstance (.ref b) (.type "collections.OrderedDict")) false := tb.andThen Y.od
  refine wpAny_call (codeAny_call_builtin (by decide +kernel) PySem.F.entry_dict_items (@check_any (model prog w) _ _ _ "dict.items" "dict" "items" (.ref b) [] [] _ dit_kind dit_split ib (PySem.F.args_dict_items_1 (.ref b)) ?_))
  unfold Builtin.«dict.items»
  obtain ⟨⟨oc, odd, cd, sl', hC', e1, e2, e4, e5, e6⟩, _⟩ := Y
  obtain ⟨c1, c2, c3, c4, c5, c6, c7, c8, c9, c10, c11⟩ := cd
  dsimp only at e1 e2 e4
  subst e1 e2 e4
  unfold Builtin.Dict.noArgs Builtin.Dict.notOrdered Builtin.Dict.showsAll
  repeat (first | simp -iota only [hlo, bne_self_eq_false, Bool.false_eq_true, if_false, Bool.not_true] | dsimp only | lk)
  exact hq
end
end
section
structure BlockAt (h₀ : Heap) (L I C D : Addr) (h : Heap) (m m' : Str → Option Value) (ys : List Value) (nw : List (Addr × Obj)) : Prop where
  fr : Fr h₀ L h m
  ns : h.Ns C m'
  news : News h₀ L h ((D, LCg.lst ys) :: nw)
  off : LCg.Off3 I C D nw
inductive ItmSrc (prog : Program) (w : World) (A : Around) (h₀ : Heap) (L : Addr) (m : Str → Option Value) (env : Env) (elt : PySem.Expr) (a c : Str) (scope : Scope) (cl : List (Str × Addr)) (Q : Value → Shared → Prop) (xv : Value) (s₁ : Shared) : Prop
  | mk (vw b : Addr) (od : Obj) (es : List DictEntry) (ep : Nat) (news : List (Addr × Obj)) (J : Nat → List Value → List (Addr × Obj) → Prop) (x1 : xv = .ref vw) (x2 : A.handled = none) (x3 : Fr h₀ L s₁.heap m) (x4 : News h₀ L s₁.heap news) (x5 : s₁.heap.IsItemsView vw b) (x6 : (b, od) ∈ news) (x7 : od.data = .dict es.toArray ep) (x8 : es.length ≤ sizeLine) (x9 : J 0 [] news) (x10 : ∀ (i : Nat) (e : DictEntry) (I C D : Addr) (oI oC : Obj) (m₂ : Str → Option Value) (h : Heap) (tk : Nat) (ys : List Value) (nw : List (Addr × Obj)) (E' : Value → Shared → Prop), es[i]? = some e → J i ys nw → (b, od) ∈ nw → LCg.NsObj oC m₂ → m₂ a = some e.key → m₂ c = some e.val →       Fr h₀ L h m → News h₀ L h ((I, oI) :: (C, oC) :: (D, LCg.lst ys) :: nw) → LCg.Off3 I C D nw → ((@Ne Nat I C) ∧ (@Ne Nat I D) ∧ (@Ne Nat C D)) →       wpAny (model prog w) A (eval elt (compEnvC scope cl C env)) (LCg.CompEnd h₀ L m { s₁ with heap := h, toks := tk } I oI C oC D (LCg.lst ys) (fun nw => (b, od) ∈ nw) (fun y nw' => J (i + 1) (ys ++ [y]) nw')) E' { s₁ with heap := h, toks := tk }) (x11 : ∀ (D : Addr) (h : Heap) (tk : Nat) (ys : List Value) (nw : List (Addr × Obj)), J es.length ys nw → Fr h₀ L h m → News h₀ L h ((D, LCg.lst ys) :: nw) → LCg.Off1 D nw → Q (.ref D) { s₁ with heap := h, toks := tk }) : ItmSrc prog w A h₀ L m env elt a c scope cl Q xv s₁
inductive InvI (g : Array GenState) (dr : Drawn) (os : OsState) (h₀ : Heap) (L I C D b : Addr) (od : Obj) (m : Str → Option Value) (es : List DictEntry) (ep : Nat) (J : Nat → List Value → List (Addr × Obj) → Prop) (k : Nat) (s' : Shared) : Prop
  | mk (h' : Heap) (tk i : Nat) (ys : List Value) (m' : Str → Option Value) (nw : List (Addr × Obj)) (x1 : s' = ⟨h', g, dr, tk, os⟩) (x2 : i ≤ es.length) (x3 : k = es.length + 1 - i) (x4 : ∃ ok ov, IsItemIter h' I b i es.length ep ok ov) (x5 : BlockAt h₀ L I C D h' m m' ys nw) (x6 : (b, od) ∈ nw) (x7 : ys.length = i) (x8 : J i ys nw) : InvI g dr os h₀ L I C D b od m es ep J k s'
section
variable {prog : Program} {w : World} {A : Around} {E : Value → Shared → Prop} {s : Shared} {h₀ : Heap} {L : Addr} {m : Str → Option Value} {env : Env}
theorem ListComp_items {elt iter : PySem.Expr} {a c : Str} {pa pc tp : Pos} {kk : Nat} {scope : Scope} {cl : List (Str × Addr)} {pos : Pos} {Q : Value → Shared → Prop} (kF₀ : Fr h₀ L s.heap m)
    (hclos : closureFor scope env = pure cl) (hcell : ∀ y ∈ scope.names, y.2 ≠ .cell) (hkind : scope.kind = .function)
    (hnames : ∀ y ∈ scope.names, y.2 = .local → scope.names.lookup y.1 = some .local) (hxa : scope.names.lookup a = some .local) (hxc : scope.names.lookup c = some .local) (hac : ¬ a = c)
    (h : wpAny (model prog w) A (eval iter env) (ItmSrc prog w A h₀ L m env elt a c scope cl Q) E s)
    (hs : ∀ x, foldedSetIterable iter env x = pure x := by intro _; rfl) :
    wpAny (model prog w) A (eval (.ListComp elt [⟨.Tuple [.Name a pa, .Name c pc] kk tp, iter, [], 0⟩] scope pos) env) Q E s := by
  rw [eval_ListComp]
  refine wpAny_comprehension_free (use := none) rfl hs hclos hkind hnames (wpAny_mono h (fun xv s₁ h₁ => ?_) fun _ _ e => e)
  obtain ⟨vw, b, od, es, ep, news, J, rfl, hh, F, N, hv, hmd, hd, hsz, hJ, step, fin⟩ := h₁
  obtain ⟨H, g, dr, t, os⟩ := s₁
  refine iter_items hv (N _ hmd).1 hd ?_
  have hII : IsItemIter (H.push { cls := .type "dict_itemiterator", data := .fields #[.none, .bool false, .ref b, .int 0 0, .int es.length 0, .int ep 0, .none, .none] }) H.objs.size b 0 es.length ep .none .none := Heap.get?_push_size _ rfl
  have kup : ∀ x o, H.get? x = some o → (H.push { cls := .type "dict_itemiterator", data := .fields #[.none, .bool false, .ref b, .int 0 0, .int es.length 0, .int ep 0, .none, .none] }).get? x = some o := fun x o e => Heap.get?_push_of_some _ e
  have hNI : ∀ p ∈ news, @Ne Nat p.1 H.objs.size := fun p hp => Nat.ne_of_lt (Heap.lt_size (N p hp).1)
  have hLI : @Ne Nat L H.objs.size := Nat.ne_of_lt F.ns.lt
  have hgI : h₀.get? H.objs.size = none := next_is_new F
  have F1 := F.keeps kup
  have N1 := N.grown kup
  generalize hI : H.objs.size = I at hII hNI hLI hgI ⊢
  generalize (H.push { cls := .type "dict_itemiterator", data := .fields #[.none, .bool false, .ref b, .int 0 0, .int es.length 0, .int ep 0, .none, .none] }) = H1 at hII F1 N1 ⊢
  clear kup hv hI
  have hI1 : @LT.lt Nat _ I H1.objs.size := Heap.lt_size hII
  refine wpAny_newObj_type (wpAny_newFunctionEnv hcell (by intro y hy; simp at hy) (fun h2 hns hsb => ?_) hkind)
  dsimp only at hns hsb ⊢
  have hD0 : (H1.push (LCg.lst [])).get? H1.objs.size = some (LCg.lst []) := Heap.get?_push_size _ rfl
  have hz : (H1.push (LCg.lst [])).objs.size = H1.objs.size + 1 := Heap.size_push ..
  have kD : ∀ x o, H1.get? x = some o → (H1.push (LCg.lst [])).get? x = some o := fun x o e => Heap.get?_push_of_some _ e
  have F2 := F1.keeps kD
  have N2 := N1.grown kD
  have hND : ∀ p ∈ news, @Ne Nat p.1 H1.objs.size := fun p hp => Nat.ne_of_lt (Heap.lt_size (N1 p hp).1)
  have hLD : @Ne Nat L H1.objs.size := Nat.ne_of_lt F1.ns.lt
  have hgD : h₀.get? H1.objs.size = none := next_is_new F1
  have hII2 := kD _ _ hII
  change h2.Ns (H1.push (LCg.lst [])).objs.size _ at hns
  change Heap.SameBut (H1.push (LCg.lst [])).objs.size ((H1.push (LCg.lst [])).push _) h2 at hsb
  show codeAny _ _ (.compStart _ 0 (.ref I) (.ref H1.objs.size) (compEnvC scope cl (H1.push (LCg.lst [])).objs.size env)) _ _
  generalize hH2 : H1.push (LCg.lst []) = H2 at *
  have hDlt : @LT.lt Nat _ H1.objs.size H2.objs.size := by omega
  have kC : ∀ x o, H2.get? x = some o → h2.get? x = some o := fun x o e => hsb.extBut x o (Nat.ne_of_lt (Heap.lt_size e)) (Heap.get?_push_of_some _ e)
  have F3 := F2.keeps kC
  have N3 := N2.grown kC
  have hNC : ∀ p ∈ news, @Ne Nat p.1 H2.objs.size := fun p hp => Nat.ne_of_lt (Heap.lt_size (N2 p hp).1)
  have hLC : @Ne Nat L H2.objs.size := Nat.ne_of_lt F2.ns.lt
  have hgC : h₀.get? H2.objs.size = none := next_is_new F2
  have hII3 := kC _ _ hII2
  have hD3 := kC _ _ hD0
  have hIC : @Ne Nat I H2.objs.size := by omega
  have hID : @Ne Nat I H1.objs.size := by omega
  have hCD : @Ne Nat H2.objs.size H1.objs.size := by omega
  generalize H2.objs.size = C at *
  generalize H1.objs.size = D at *
  clear hH2 hz kD kC hD0 F1 F2 N1 N2 hsb
  have loop : ∀ s3 : Shared, s3 = ⟨h2, g, dr, t, os⟩ → codeAny (model prog w) A (.compLoop (.ListComp elt [⟨.Tuple [.Name a pa, .Name c pc] kk tp, iter, [], 0⟩] scope pos) 0 (.ref I) (.ref D) (compEnvC scope cl C env)) (compPost (model prog w) A E none Q (.ref D) C) s3 := by
    rintro s3 rfl
    refine kcp_loop (fun k s' => InvI g dr os h₀ L I C D b od m es ep J k s') ?_ (es.length + 1)
      ⟨h2, t, 0, [], _, news, rfl, Nat.zero_le _, rfl, ⟨_, _, hII3⟩, ⟨F3, hns, fun p hp => ?_, LCg.Off3.of fun p hp => ⟨hNI p hp, hNC p hp, hND p hp⟩⟩, hmd, rfl, hJ⟩
    · rintro k s' ⟨h', tk, i, ys, m', nw, rfl, hi, rfl, ⟨ok, ov, hit⟩, ⟨F4, n4, N4, off4⟩, hb4, hyl, hJ4⟩
      have off := off4.mem
      have hbo := (N4 _ (.tail _ hb4)).1
      by_cases hlt : i < es.length
      · have hx : es[i]? = some es[i] := List.getElem?_eq_getElem hlt
        generalize es[i] = e at hx
        refine next_items hit hbo hd hx fun h5 o5 t5 k5 => ?_
        refine wpAny_letOwnedTupleGo_items o5 fun h6 i6 s6 => ?_
        have s6' : Heap.SameBut I h5 h6 := s6
        have hT5 : h'.objs.size ≠ I := Nat.ne_of_gt (Heap.lt_size hit)
        have t6 : h6.IsTuple h'.objs.size #[e.key, e.val] := ⟨_, s6'.extBut _ _ hT5 t5, rfl, 0, rfl⟩
        have k6 : ∀ x o, x ≠ I → h'.get? x = some o → h6.get? x = some o := fun x o q z => s6'.extBut x o q (k5 x o q z)
        refine kcp_assign (env := compEnvC scope cl C env) hh t6 (lookup_relabel_local hxa) (lookup_relabel_local hxc) (by simp [compEnvC, relabel, hkind]) (n4.at' fun o z => k6 _ o (Ne.symm hIC) z) fun h7 tk7 n7 k7 => ?_
        have k7' : ∀ x o, x ≠ I → x ≠ C → h'.get? x = some o → h7.get? x = some o := fun x o q1 q2 z => k7 x o q2 (k6 x o q1 z)
        have i7 : IsItemIter h7 I b (i + 1) es.length ep e.key e.val := k7 I _ hIC i6
        obtain ⟨oI, eI, hoI⟩ : ∃ oI : Obj, h7.get? I = some oI ∧ ∀ h : Heap, h.get? I = some oI → IsItemIter h I b (i + 1) es.length ep e.key e.val := ⟨_, i7, fun _ z => z⟩
        obtain ⟨oC, eC, hoC⟩ := LCg.ns_obj n7
        have F7 : Fr h₀ L h7 m := ⟨F4.ns.at' fun o z => k7' _ o hLI hLC z, fun x o z => k7' x o (fun q => by rw [q, hgI] at z; cases z) (fun q => by rw [q, hgC] at z; cases z) (F4.keep x o z), F4.above⟩
        have N7 : News h₀ L h7 ((I, oI) :: (C, oC) :: (D, LCg.lst ys) :: nw) := fun p hp => by
          simp only [List.mem_cons] at hp
          rcases hp with rfl | rfl | rfl | hp
          · exact ⟨eI, Ne.symm hLI, hgI⟩
          · exact ⟨eC, Ne.symm hLC, hgC⟩
          · exact ⟨k7' _ _ (Ne.symm hID) (Ne.symm hCD) (N4 _ (.head _)).1, (N4 _ (.head _)).2⟩
          · exact ⟨k7' _ _ (off p hp).1 (off p hp).2.1 (N4 _ (.tail _ hp)).1, (N4 _ (.tail _ hp)).2⟩
        refine wpAny_mono (step i e I C D oI oC _ h7 _ ys nw _ hx hJ4 hb4 hoC (by simp [hac]) (by simp) F7 N7 off4 ⟨hIC, hID, hCD⟩) (fun y s8 h8 => ?_) fun _ _ z => z
        obtain ⟨h9, tk9, nw9, rfl, F9, N9, off9, hb9, hJ9⟩ := h8
        have zI := (N9 _ (.head _)).1
        have zC := (N9 _ (.tail _ (.head _))).1
        have zD := (N9 _ (.tail _ (.tail _ (.head _)))).1
        refine append_at (hsz := by show ys.toArray.size ≤ sizeLine; rw [List.size_toArray, hyl]; exact Nat.le_trans hi hsz) zD fun h10 s10 D10 => ?_
        refine ⟨es.length + 1 - (i + 1), by omega, h10, tk9, i + 1, ys ++ [y], _, nw9, rfl, hlt, rfl, ⟨_, _, hoI h10 (s10.extBut I oI hID zI)⟩, ⟨F9.change s10 (Ne.symm hLD) hgD, (hoC.ns zC).sameBut s10 hCD, fun p hp => ?_, off9⟩, hb9, by rw [List.length_append, List.length_singleton, hyl], hJ9⟩
        rcases List.mem_cons.mp hp with rfl | hp
        · exact ⟨D10.trans (congrArg some (LCg.lst_snoc ys y)), Ne.symm hLD, hgD⟩
        · exact ⟨s10.extBut _ _ (off9.mem p hp).2.2 (N9 _ (.tail _ (.tail _ (.tail _ hp)))).1, (N9 _ (.tail _ (.tail _ (.tail _ hp)))).2⟩
      · obtain rfl : i = es.length := Nat.le_antisymm hi (Nat.not_lt.mp hlt)
        refine end_items hh hit hbo hd fun h5 x5 => ?_
        dsimp only
        have k5 : ∀ x o, x ∉ [I] → h'.get? x = some o → h5.get? x = some o := fun x o q z => x5 x o (by simpa using q) z
        have hND4 : ∀ p ∈ (D, LCg.lst ys) :: nw, p.1 ≠ I := fun p hp => by
          rcases List.mem_cons.mp hp with rfl | hp
          · exact Ne.symm hID
          · exact (off p hp).1
        have F5 := LCg.fr_but F4 k5 hLI hgI
        have N5 := LCg.news_but N4 k5 hND4
        refine ⟨m', n4.at' fun o z => k5 _ o (by simpa using Ne.symm hIC) z, fun h'' hs'' => fin D h'' tk ys nw hJ4 (F5.change hs'' (Ne.symm hLC) hgC) (fun p hp => ⟨hs''.extBut _ _ ?_ (N5 p hp).1, (N5 p hp).2⟩) off4.one⟩
        rcases List.mem_cons.mp hp with rfl | hp
        · exact Ne.symm hCD
        · exact (off p hp).2.1
    · rcases List.mem_cons.mp hp with rfl | hp
      · exact ⟨hD3, Ne.symm hLD, hgD⟩
      · exact N3 p hp
  exact codeAny_compStart_list (loop _ rfl) (kcp_self hII3 (loop _ rfl))
end
end
section
noncomputable def RowsAt (nw : CbLed) : List Value → List (Str × Str) → Prop
  | [], [] => True
  | v :: vs, (n, y) :: rs => (∃ (a k : Nat) (t t' : Tok), v = .ref a ∧ (a, W.listOf #[.str n t, .str y t'] k) ∈ nw) ∧ RowsAt nw vs rs
  | _, _ => False
theorem RowsAt.mono {nw nw' : CbLed} (k : ∀ p ∈ nw, p ∈ nw') : ∀ {vs : List Value} {rs : List (Str × Str)}, RowsAt nw vs rs → RowsAt nw' vs rs
  | [], [], _ => trivial
  | _ :: _, (_, _) :: _, ⟨⟨a, j, t, t', e, hm⟩, r⟩ => ⟨⟨a, j, t, t', e, k _ hm⟩, RowsAt.mono k r⟩
theorem RowsAt.snoc {nw : CbLed} {v : Value} {n y : Str} (hv : ∃ (a k : Nat) (t t' : Tok), v = .ref a ∧ (a, W.listOf #[.str n t, .str y t'] k) ∈ nw) : ∀ {vs : List Value} {rs : List (Str × Str)}, RowsAt nw vs rs → RowsAt nw (vs ++ [v]) (rs ++ [(n, y)])
  | [], [], _ => ⟨hv, trivial⟩
  | _ :: _, (_, _) :: _, ⟨h, r⟩ => ⟨h, RowsAt.snoc hv r⟩
theorem ents_get {w : World} : ∀ {es : List DictEntry} {rs : List (Str × Int)} {i : Nat} {e : DictEntry}, Ents w es rs → es[i]? = some e → ∃ n v t t', rs[i]? = some (n, v) ∧ e.key = .str n t ∧ e.val = .int v t'
  | e :: es, (n, v) :: rs, 0, e', ⟨⟨t, h1⟩, ⟨t', h2⟩, _, _⟩, h => by
    obtain rfl : e = e' := Option.some.inj h
    exact ⟨n, v, t, t', rfl, h1, h2⟩
  | e :: es, (n, v) :: rs, i + 1, e', ⟨_, _, _, r⟩, h => ents_get r (i := i) h
  | [], _, _, _, _, h => by simp at h
  | _ :: _, [], _, _, h, _ => h.elim
theorem ents_len {w : World} : ∀ {es : List DictEntry} {rs : List (Str × Int)}, Ents w es rs → es.length = rs.length
  | [], [], _ => rfl
  | _ :: _, (_, _) :: _, ⟨_, _, _, r⟩ => congrArg (· + 1) (ents_len r)
  | [], _ :: _, h => h.elim
  | _ :: _, [], h => h.elim
noncomputable def rowsF (rs : List (Str × Int)) : List (Str × Str) := rs.map fun r => (r.1, fmF r.2)
theorem rowsF_snoc {rs : List (Str × Int)} {i : Nat} {n : Str} {v : Int} (h : rs[i]? = some (n, v)) : rowsF (rs.take (i + 1)) = rowsF (rs.take i) ++ [(n, fmF v)] := by
  unfold rowsF
  rw [List.take_add_one, h]
  simp
theorem CompEnd_new {h₀ : Heap} {L I C D p : Addr} {m : Str → Option Value} {s₁ : Shared} {oI oC oD o : Obj} {S : List (Addr × Obj) → Prop} {rest : Value → List (Addr × Obj) → Prop} {y : Value} {h' : Heap} {tk : Nat} {nw : List (Addr × Obj)}
    (F : Fr h₀ L h' m) (N : News h₀ L h' ((p, o) :: (I, oI) :: (C, oC) :: (D, oD) :: nw)) (lA : @LT.lt Nat _ I p ∧ @LT.lt Nat _ C p ∧ @LT.lt Nat _ D p ∧ AllLt p nw) (off : LCg.Off3 I C D nw) (hS : S ((p, o) :: nw)) (r : rest y ((p, o) :: nw)) :
    LCg.CompEnd h₀ L m s₁ I oI C oC D oD S rest y { s₁ with heap := h', toks := tk } :=
  CompEnd_same (news' := (p, o) :: nw) F (PySem.W.KStt.news_of N fun q hq => by
    first | (revert q; (repeat (first | exact sub_nil | (refine sub_cons ?_ ?_; (· repeat (first | assumption | exact List.Mem.head _ | refine List.Mem.tail _ ?_))) | refine sub_app ?_ ?_ | (intro p hp; (repeat (first | exact hp | exact List.mem_append_left _ hp | exact List.mem_append_right _ hp | refine List.Mem.tail _ ?_))))); done) | (simp only [List.mem_cons] at hq ⊢; rcases hq with h | h | h | h | h <;> first | ((repeat (first | exact h | exact Or.inl h | refine Or.inr ?_)); done) | simp only [h, true_or, or_true])) ⟨⟨Nat.ne_of_gt lA.1, Nat.ne_of_gt lA.2.1, Nat.ne_of_gt lA.2.2.1⟩, off⟩ hS r
theorem play_end (w : World) (mean : ExcName → Option Value) (mg mb : Str → Option Value) (b dx f mc mk tA : Nat) (es : List DictEntry) (ep : Nat) (fro : Option (Tok × Addr)) (t100 : Obj) (tv : List Value) (e1 : Nat) (mask : Int) (tkm : Tok) (e0 : Nat) (rs : List (Str × Int)) (rest : CbLed)
   (dp un : Nat) (gd : Option (List Code)) (outer : List Env) (A₀ : Around) (base g : Heap) (L : Addr) (m : Str → Option Value) (s : Shared) (Q : Flow → Shared → Prop) (E : Value → Shared → Prop)
   (B : Below A₀ base outer g) (F : Fr g L s.heap m) (X : (hd.heap_39 w.params).In g) (N : News g L s.heap (playLed w b dx f mk tA es ep fro t100 tv e1 mask tkm e0 rest)) (T : Top topProg looseL mean mg mb g)
   (En : Ents w es rs) (hz : rs.length ≤ 200) (hrs : ∀ r ∈ rs, 0 ≤ r.2 ∧ r.2 < 65536) (hb : @LE.le Nat _ 314 b) (m3 : m "book" = some (.ref b)) (m4 : m "told" = some (.ref tA))
   (hdp : dp + 8 < recursionLimit) (hu : un + 60 < cLine)
   (hret : ∀ (p D kp : Nat) (ys : List Value) (nw : CbLed) (m' : Str → Option Value) (h' : Heap) (tk' : Nat), RowsAt nw ys (rowsF rs) → (∀ q ∈ playLed w b dx f mk tA es ep fro t100 tv e1 mask tkm e0 rest, q ∈ nw) → Fr g L h' m' →
     News g L h' ((p, ({ cls := .type "tuple", data := .seq #[.ref tA, .ref D] kp } : Obj)) :: (D, LCg.lst ys) :: nw) → Q (.ret (.ref p)) { s with heap := h', toks := tk' }) :
   wpC (model Challenge.rw_in0190_01.row.prog w) (ktrTop dp un gd (Str.ofString "_law_play") (playScope (hd.heap_39 w.params)) L 291 (.ref 290) [(Str.ofString "mask", mc)] outer) (execs (playEnd (hd.heap_39 w.params)) (envX (Str.ofString "_law_play") (playScope (hd.heap_39 w.params)) L 291 (.ref 290) [(Str.ofString "mask", mc)])) Q E s := by
  have st9 := Stop.mk "getMethod ref"
  have ei : playEnd (hd.heap_39 w.params) = [_] := rfl
  rw [ei]
  have es0 : playScope (hd.heap_39 w.params) = _ := rfl
  rw [es0]
  clear ei es0
  replace F := fr_two F m3 m4
  have X0 := X
  refine wpC_of ?_
  revert X; k_fill; intro X
  repeat' (first | (k_unfold; try dsimp only) | (k_end; kc_close) | (walk1; all_goals ((try k_fold); (try dsimp only); try with_reducible refine wpAny_tk fun _ => ?_)) | (dsimp only; walk1) | (leave1; try dsimp only))
  refine Halt.in ?_
  refine ListComp_items (by k_asm) (by with_unfolding_all rfl) (by decide) (by rfl) (by decide) (by rfl) (by rfl) (by decide) ?_
  repeat' (first | (k_unfold; try dsimp only) | (k_end; kc_close) | (walk1; all_goals ((try k_fold); (try dsimp only); try with_reducible refine wpAny_tk fun _ => ?_)) | (dsimp only; walk1) | (leave1; try dsimp only))
  have XF : (hd.heap_39 w.params).In s.heap := X0.keeps (Fr.keep (h₀ := g) (by k_asm))
  have ZL := bookLk (M := model Challenge.rw_in0190_01.row.prog w) rfl XF
  refine Halt.in ?_
  refine getMethod_book ZL (N _ (.head _)).1 (N _ (.tail _ (.head _))).1 ZL.items (Looks.of_pure (by first | rfl | kernel_rfl)) (by decide +kernel) (fun hh t0 l0 => by first | rfl | kernel_rfl) fun tk2 => ?_
  repeat' (first | (k_unfold; try dsimp only) | (k_end; kc_close) | (walk1; all_goals ((try k_fold); (try dsimp only); try with_reducible refine wpAny_tk fun _ => ?_)) | (dsimp only; walk1) | (leave1; try dsimp only))
  refine items_book (bookCls (prog := Challenge.rw_in0190_01.row.prog) rfl XF) (N _ (.head _)).1 (by simp only [beq_eq_false_iff_ne, ne_eq]; intro q; rw [q] at hb; exact absurd hb (by decide)) ?_
  have up : ∀ (o' : Obj) x o, s.heap.get? x = some o → (s.heap.push o').get? x = some o := fun _ x o e => Heap.get?_push_of_some _ e
  have hlen : es.length = rs.length := ents_len En
  refine ⟨_, b, bookObj dx es ep #[some (.ref f)], es, ep, playLed w b dx f mk tA es ep fro t100 tv e1 mask tkm e0 rest, fun i ys nw => RowsAt nw ys (rowsF (rs.take i)) ∧ ∀ q ∈ playLed w b dx f mk tA es ep fro t100 tv e1 mask tkm e0 rest, q ∈ nw, rfl, rfl, F.keeps (up _), N.grown (up _), ⟨_, Heap.get?_push_size _ rfl, rfl, rfl⟩, .head _, rfl, ?_, ⟨trivial, fun q h => h⟩, ?_, ?_⟩
  · rw [hlen, sizeLine_eq]; omega
  · intro i e I C D oI oC m₂ h tk ys nw E' hx hJ hbn hoC h1 h2 F' N' off' ne'
    obtain ⟨hr, hsub⟩ := hJ
    obtain ⟨n, v, t, t', hri, hk, hv⟩ := ents_get En hx
    rw [hk] at h1
    rw [hv] at h2
    clear N
    repeat' (first | (k_unfold; try dsimp only) | (k_end; kc_close) | (walk1; all_goals ((try k_fold); (try dsimp only); try with_reducible refine wpAny_tk fun _ => ?_)) | (dsimp only; walk1) | (leave1; try dsimp only))
    refine fm_c w mean mg mb _ _ _ dp _ gd _ _ _ _ _ _ A₀ base g L _ _ _ _ B F' X0 N' T rfl (hrs _ (List.mem_of_getElem? hri)) (by first | exact room_of hdp rfl | exact room_of (c := 5) hdp rfl | omega) (by first | exact room_of hu rfl | exact room_of (c := 27) hu rfl | omega) fun t3 h3 tk3 F3 N3 => ?_
    repeat' (first | (k_unfold; try dsimp only) | (k_end; kc_close) | (walk1; all_goals ((try k_fold); (try dsimp only); try with_reducible refine wpAny_tk fun _ => ?_)) | (dsimp only; walk1) | (leave1; try dsimp only))
    rename Fr g L _ _ => FA
    rename News g L _ _ => NA
    rename @LT.lt Nat _ I _ ∧ _ => lA
    refine CompEnd_new FA NA lA off' (.tail _ hbn) ⟨?_, fun q hq => .tail _ (hsub q hq)⟩
    rw [rowsF_snoc hri]
    exact RowsAt.snoc ⟨_, _, t, t3, rfl, .head _⟩ (hr.mono fun q hq => .tail _ hq)
  · intro D h tk ys nw hJ F' N' off'
    obtain ⟨hr, hsub⟩ := hJ
    rw [hlen, List.take_length] at hr
    repeat' (first | (k_unfold; try dsimp only) | (k_end; kc_close) | (walk1; all_goals ((try k_fold); (try dsimp only); try with_reducible refine wpAny_tk fun _ => ?_)) | (dsimp only; walk1) | (leave1; try dsimp only))
    rename Fr g L _ _ => FA
    rename News g L _ _ => NA
    exact hret _ D _ ys nw _ _ _ hr hsub FA NA
end
section
theorem news_ord {g h : Heap} {L : Addr} {a0 a1 a2 a3 a4 a5 a6 a7 a8 a9 : Addr × Obj} {r : CbLed} (N : News g L h (a0 :: a1 :: a2 :: a3 :: a4 :: a5 :: a6 :: a7 :: a8 :: a9 :: r)) : News g L h (a9 :: a1 :: a2 :: a7 :: a0 :: a5 :: a3 :: a4 :: a6 :: a8 :: r) := PySem.W.KStt.news_of N fun p hp => by
  first | (revert p; (repeat (first | exact sub_nil | (refine sub_cons ?_ ?_; (· repeat (first | assumption | exact List.Mem.head _ | refine List.Mem.tail _ ?_))) | refine sub_app ?_ ?_ | (intro p hp; (repeat (first | exact hp | exact List.mem_append_left _ hp | exact List.mem_append_right _ hp | refine List.Mem.tail _ ?_))))); done) | (simp only [List.mem_cons] at hp ⊢; rcases hp with h | h | h | h | h | h | h | h | h | h | h <;> first | ((repeat (first | exact h | exact Or.inl h | refine Or.inr ?_)); done) | simp only [h, true_or, or_true])
theorem news_mv {g h : Heap} {L : Addr} {a0 a1 a2 a3 a4 a5 : Addr × Obj} {r : CbLed} (N : News g L h (a0 :: a1 :: a2 :: a3 :: a4 :: a5 :: r)) : News g L h (a1 :: a2 :: a3 :: a4 :: a5 :: a0 :: r) := PySem.W.KStt.news_of N fun p hp => by
  first | (revert p; (repeat (first | exact sub_nil | (refine sub_cons ?_ ?_; (· repeat (first | assumption | exact List.Mem.head _ | refine List.Mem.tail _ ?_))) | refine sub_app ?_ ?_ | (intro p hp; (repeat (first | exact hp | exact List.mem_append_left _ hp | exact List.mem_append_right _ hp | refine List.Mem.tail _ ?_))))); done) | (simp only [List.mem_cons] at hp ⊢; rcases hp with h | h | h | h | h | h | h <;> first | ((repeat (first | exact h | exact Or.inl h | refine Or.inr ?_)); done) | simp only [h, true_or, or_true])
noncomputable def Up : Nat → List Nat → Prop
  | _, [] => True
  | a, b :: l => a < b ∧ Up b l
theorem Up.pw {a : Nat} {l : List Nat} (h : Up a l) : (a :: l).Pairwise (· < ·) := by
  induction l generalizing a with
  | nil => exact List.pairwise_singleton _ _
  | cons b l ih =>
    refine List.pairwise_cons.mpr ⟨fun x hx => ?_, ih h.2⟩
    rcases List.mem_cons.mp hx with rfl | hx
    · exact h.1
    · exact Nat.lt_trans h.1 (List.rel_of_pairwise_cons (ih h.2) hx)
theorem Up.lt {a : Nat} {l : List Nat} (h : Up a l) (i j : Nat) {x y : Nat} (hx : (a :: l)[i]? = some x) (hy : (a :: l)[j]? = some y) (hij : i < j) : x < y := by
  obtain ⟨h1, e1⟩ := List.getElem?_eq_some_iff.mp hx
  obtain ⟨h2, e2⟩ := List.getElem?_eq_some_iff.mp hy
  exact e1 ▸ e2 ▸ List.pairwise_iff_getElem.mp h.pw i j h1 h2 hij
theorem Up.ne {a : Nat} {l : List Nat} (h : Up a l) (i j : Nat) {x y : Nat} (hx : (a :: l)[i]? = some x) (hy : (a :: l)[j]? = some y) (hij : i < j) : @Ne Nat x y := Nat.ne_of_lt (h.lt i j hx hy hij)
theorem Up.en {a : Nat} {l : List Nat} (h : Up a l) (i j : Nat) {x y : Nat} (hx : (a :: l)[i]? = some x) (hy : (a :: l)[j]? = some y) (hij : i < j) : @Ne Nat y x := Nat.ne_of_gt (h.lt i j hx hy hij)
theorem playOk_at {w : World} {d0 L mk c f dx tA : Nat} {o1 o2 o3 o4 : Obj} {news : CbLed} (h0 : @LE.le Nat _ 314 d0) (h1 : @LT.lt Nat _ d0 L) (h2 : @LT.lt Nat _ (L + 1) mk) (h3 : @LT.lt Nat _ mk c) (h4 : @LT.lt Nat _ c f) (h5 : @LT.lt Nat _ f dx) (h6 : @LT.lt Nat _ (dx + 1) tA)
    (hn : ∀ p ∈ news, @Ne Nat p.1 100 ∧ @LT.lt Nat _ p.1 L) (lam : LamIn w f (L + 1) mk ((f, o1) :: (c, o2) :: (L + 1, o3) :: (288, o4) :: news)) : PlayOk w (dx + 1) dx f (L + 1) mk tA ((f, o1) :: (c, o2) :: (L + 1, o3) :: (288, o4) :: news) := by
  have S : Up 100 [288, L, L + 1, mk, c, f, dx, dx + 1, tA] := ⟨by decide, Nat.lt_of_lt_of_le (Nat.lt_of_lt_of_le (by decide) h0) (Nat.le_of_lt h1), Nat.lt_succ_self _, h2, h3, h4, h5, Nat.lt_succ_self _, h6, trivial⟩
  have g : @LE.le Nat _ 314 L := Nat.le_trans h0 (Nat.le_of_lt h1)
  refine ⟨Nat.le_trans g (Nat.le_of_lt (S.lt 2 8 rfl rfl (by decide))), Nat.le_trans g (Nat.le_of_lt (S.lt 2 7 rfl rfl (by decide))), Nat.le_trans g (Nat.le_of_lt (S.lt 2 4 rfl rfl (by decide))), Nat.le_succ_of_le g, Nat.le_trans g (Nat.le_of_lt (S.lt 2 9 rfl rfl (by decide))),
    S.en 7 8 rfl rfl (by decide), S.ne 8 9 rfl rfl (by decide), S.en 4 8 rfl rfl (by decide), S.ne 7 9 rfl rfl (by decide), S.en 4 7 rfl rfl (by decide), S.en 4 9 rfl rfl (by decide), fun p hp => ?_, lam⟩
  rcases List.mem_cons.mp hp with rfl | hp
  · exact ⟨S.ne 6 8 rfl rfl (by decide), S.ne 6 7 rfl rfl (by decide), S.en 0 6 rfl rfl (by decide), S.ne 6 9 rfl rfl (by decide), S.en 4 6 rfl rfl (by decide)⟩
  rcases List.mem_cons.mp hp with rfl | hp
  · exact ⟨S.ne 5 8 rfl rfl (by decide), S.ne 5 7 rfl rfl (by decide), S.en 0 5 rfl rfl (by decide), S.ne 5 9 rfl rfl (by decide), S.en 4 5 rfl rfl (by decide)⟩
  rcases List.mem_cons.mp hp with rfl | hp
  · exact ⟨S.ne 3 8 rfl rfl (by decide), S.ne 3 7 rfl rfl (by decide), S.en 0 3 rfl rfl (by decide), S.ne 3 9 rfl rfl (by decide), S.ne 3 4 rfl rfl (by decide)⟩
  rcases List.mem_cons.mp hp with rfl | hp
  · exact ⟨S.ne 1 8 rfl rfl (by decide), S.ne 1 7 rfl rfl (by decide), S.en 0 1 rfl rfl (by decide), S.ne 1 9 rfl rfl (by decide), S.ne 1 4 rfl rfl (by decide)⟩
  · obtain ⟨q1, q2⟩ := hn p hp
    exact ⟨Nat.ne_of_lt (Nat.lt_trans q2 (S.lt 2 8 rfl rfl (by decide))), Nat.ne_of_lt (Nat.lt_trans q2 (S.lt 2 7 rfl rfl (by decide))), q1, Nat.ne_of_lt (Nat.lt_trans q2 (S.lt 2 9 rfl rfl (by decide))), Nat.ne_of_lt (Nat.lt_trans q2 (S.lt 2 4 rfl rfl (by decide)))⟩
theorem playOff_at {l L mk c f dx tA : Nat} {o1 o2 o3 o4 o5 o6 o7 o8 o9 : Obj} {news : CbLed} (h1 : @LT.lt Nat _ l L) (h2 : @LT.lt Nat _ (L + 1) mk) (h3 : @LT.lt Nat _ mk c) (h4 : @LT.lt Nat _ c f) (h5 : @LT.lt Nat _ f dx) (h6 : @LT.lt Nat _ (dx + 1) tA) (hl1 : @Ne Nat l 100) (hl2 : @Ne Nat l 288)
    (hn : ∀ p ∈ news, @Ne Nat p.1 l) : ∀ p ∈ (dx + 1, o1) :: (dx, o2) :: (100, o3) :: (tA, o4) :: (mk, o5) :: (f, o6) :: (c, o7) :: (L + 1, o8) :: (288, o9) :: news, @Ne Nat p.1 l := fun p hp => by
  have S : Up l [L, L + 1, mk, c, f, dx, dx + 1, tA] := ⟨h1, Nat.lt_succ_self _, h2, h3, h4, h5, Nat.lt_succ_self _, h6, trivial⟩
  rcases List.mem_cons.mp hp with rfl | hp
  · exact S.en 0 7 rfl rfl (by decide)
  rcases List.mem_cons.mp hp with rfl | hp
  · exact S.en 0 6 rfl rfl (by decide)
  rcases List.mem_cons.mp hp with rfl | hp
  · exact Ne.symm hl1
  rcases List.mem_cons.mp hp with rfl | hp
  · exact S.en 0 8 rfl rfl (by decide)
  rcases List.mem_cons.mp hp with rfl | hp
  · exact S.en 0 3 rfl rfl (by decide)
  rcases List.mem_cons.mp hp with rfl | hp
  · exact S.en 0 5 rfl rfl (by decide)
  rcases List.mem_cons.mp hp with rfl | hp
  · exact S.en 0 4 rfl rfl (by decide)
  rcases List.mem_cons.mp hp with rfl | hp
  · exact S.en 0 2 rfl rfl (by decide)
  rcases List.mem_cons.mp hp with rfl | hp
  · exact Ne.symm hl2
  · exact hn p hp
theorem play_c (w : World) (mean : ExcName → Option Value) (mg mb : Str → Option Value) (l k : Nat) (vs : List Value) (xs : List Str) (news : CbLed)
   (dp un : Nat) (gd : Option (List Code)) (cn : Str) (cs : Scope) (a : Addr) (ccd : Value) (cl : List (Str × Addr)) (A₀ : Around) (base h₀ : Heap) (L : Addr) (m : Str → Option Value) (s : Shared) (R : Result → Shared → Prop)
   (B : Below A₀ base [] h₀) (F : Fr h₀ L s.heap m) (X : (hd.heap_39 w.params).In h₀) (N : News h₀ L s.heap ((100, tabObj #[]) :: (288, tabObj #[]) :: (l, listOf vs.toArray k) :: news)) (T : Top topProg looseL mean mg mb h₀)
   (XB : (hd.heap_39 w.params).In base) (TB : Top topProg looseL mean mg mb base) (C1 : CodeHd base 104 100) (C2 : CodeHd base 290 288) (hHigh : ∀ p ∈ news, p.1 ≠ (100 : Addr)) (h288 : ∀ p ∈ news, p.1 ≠ (288 : Addr)) (hl : @Ne Nat l 100 ∧ @Ne Nat l 288) (d0 : Nat) (o0 : Obj) (hd0 : (d0, o0) ∈ news) (hd1 : @LE.le Nat _ 314 d0) (hk : cs.kind = .function)
   (hdp : dp + 10 < recursionLimit) (hu : un + 80 < cLine) (hvs : StrsAre vs xs) (hx : ∀ x ∈ xs, LineOk x) (hn : xs.length ≤ 100) (offl : ∀ p ∈ news, @Ne Nat p.1 l)
   (hret : ∀ (p D kp tA e1 : Nat) (ys tv : List Value) (nw : CbLed) (t100 t288 : Array Value) (h' : Heap) (tk' : Nat), RowsAt nw ys (rowsF (plays xs ⟨18, false, [], []⟩).rs) → ToldAre tv (plays xs ⟨18, false, [], []⟩).told → (tA, W.listOf tv.toArray e1) ∈ nw →
     (100, tabObj t100) ∈ nw → (288, tabObj t288) ∈ nw → (l, W.listOf vs.toArray k) ∈ nw → (∀ q ∈ news, q ∈ nw) → Fr h₀ L h' m → News h₀ L h' ((p, ({ cls := .type "tuple", data := .seq #[.ref tA, .ref D] kp } : Obj)) :: (D, LCg.lst ys) :: nw) → R (.ok (.ret (.ref p))) { s with heap := h', toks := tk' }) :
   codeC (model Challenge.rw_in0190_01.row.prog w) (ktrTop dp un gd cn cs L a ccd cl []) (.call (.ref 291) ⟨[.ref l], []⟩) R s := by
  have X0 := X
  revert X; k_fill; intro X
  (refine' enterS0C ?k1 ?k2 ?k3 ?k4 ?k5 ?kA ?kF ?kK ?k6 ?k7 ?k8 ?k9 ?kB ?kD ?_ ?c2 ?c3 ?c4; (case kA | kF => exact rfl); (case kK => assumption); (case k1 | k2 => k_asm); (case k3 | k4 | k5 => k_asm); (case k6 | k7 => k_is); (case k8 => ktr_room); (case k9 => exact BindsTo.of_eq rfl); (case kB => exact rfl); (case kD => decide +kernel); (case c2 | c3 | c4 => exact rfl); k_whole; intro g' L' h' tk' cells' FG' F' N' Y' B' X' T' l1 D'; have hLow := low_of l1; (repeat (replace hLow := low_tail hLow)); (try k_lt l1); k_cells Y'; (try simp only [List.cons_append, List.nil_append] at N'); (try dsimp only); (try k_lift B'); (try k_fold))
  refine wpC_execs_cons (wpC_of ?_)
  repeat' (first | (k_unfold; try dsimp only) | (k_end; kc_close) | (walk1; all_goals ((try k_fold); (try dsimp only); try with_reducible refine wpAny_tk fun _ => ?_)) | (dsimp only; walk1) | (leave1; try dsimp only))
  refine wpC_execs_cons (wpC_of ?_)
  repeat' (first | (k_unfold; try dsimp only) | (k_end; kc_close) | (walk1; all_goals ((try k_fold); (try dsimp only); try with_reducible refine wpAny_tk fun _ => ?_)) | (dsimp only; walk1) | (leave1; try dsimp only))
  refine wpAny_call ?_
  rename_i o1 e1 _ _ _ _ _ _ _ _ _ mk h1 l1 h2 mo F2x N2x d1 _ _ _ _ _ _ f2 c2 oc2 vs2 t2 ct2 h3 tk3 F3 N3 d2 d3 l3 l4
  have X3 := X'.keeps F3.keep
  have hz : g'.get? (h3.objs.size + 1) = none := Heap.get?_none_of_le (Nat.le_trans (Nat.le_of_lt (Nat.lt_of_le_of_lt F3.above F3.ns.lt)) (Nat.le_succ _))
  refine make_book (bookCls (prog := Challenge.rw_in0190_01.row.prog) rfl X') F3.keep (N3 _ (.head _)).1 rfl hz fun h4 u1 u2 k4 => ?_
  have F4 := PyProof.Rows.Fr.keeps F3 k4
  have N4 := news_add F3 (news_fresh F3 N3 k4 u1 fun a o e => Heap.lt_size e) u2 fun a o e => Nat.lt_succ_of_lt (Heap.lt_size e)
  have l5 : @LT.lt Nat _ f2 h3.objs.size := Heap.lt_size (N3 _ (.head _)).1
  generalize h3.objs.size = dx at *
  dsimp only
  repeat' (first | (k_unfold; try dsimp only) | (k_end; kc_close) | (walk1; all_goals ((try k_fold); (try dsimp only); try with_reducible refine wpAny_tk fun _ => ?_)) | (dsimp only; walk1) | (leave1; try dsimp only))
  refine wpC_execs_cons (wpC_of ?_)
  repeat' (first | (k_unfold; try dsimp only) | (k_end; kc_close) | (walk1; all_goals ((try k_fold); (try dsimp only); try with_reducible refine wpAny_tk fun _ => ?_)) | (dsimp only; walk1) | (leave1; try dsimp only))
  rename Fr g' L' _ _ => FA
  rename News g' L' _ _ => NA
  show wpC _ (ktrTop (dp + 1) (un + 3) gd (Str.ofString "_law_play") (playScope (hd.heap_39 w.params)) L' 291 (.ref 290) [(Str.ofString "mask", L' + 1)] [envX cn cs L a ccd cl]) (execs (playLoop (hd.heap_39 w.params)) (envX (Str.ofString "_law_play") (playScope (hd.heap_39 w.params)) L' 291 (.ref 290) [(Str.ofString "mask", L' + 1)])) _ _ _
  have hdL : @LT.lt Nat _ d0 L' := hLow _ hd0
  refine play_loop w mean mg mb _ _ _ _ _ _ l k vs xs _ _ _ _ _ (dp + 1) (un + 3) gd [envX cn cs L a ccd cl] _ base g' L' _ _ _ _ ⟨KtsTurn.refl, B', X0.keeps (Fr.keep (h₀ := h₀) (by k_asm)), T', D'⟩ FA (news_ord NA) XB TB hvs hx hn ?_ C1 ?_ ?_ ?_ ?_ ?_ ?_ ?_ ?_
  · decide
  · exact playOk_at hd1 hdL l1.1 l3.1 l4 l5 (by omega) (fun p hp => ⟨hHigh p hp, hLow p hp⟩) ⟨_, _, _, _, _, _, _, _, _, _, _, _, rfl, .head _, .tail _ (.tail _ (.head _)), d1, .tail _ (.head _), d2, d3⟩
  · exact playOff_at (by omega) l1.1 l3.1 l4 l5 (by omega) hl.1 hl.2 offl
  · rfl
  · rfl
  · rfl
  · omega
  · omega
  · intro g2 es' ep' fro' t100' tv' e1' tkm' e0' fx' m' h2 tk2 σ' G2 En Tl Z hfi b1 b2 F2 N2
    have hL := plays_len (xs := xs) (σ := ⟨18, false, [], []⟩)
    have hok := plays_ok (xs := xs) (σ := ⟨18, false, [], []⟩) hx ⟨by simp, by decide +kernel⟩
    have ht1 : ∃ t, t100' = tabObj t := by
      rcases Z with ⟨_, _, rfl, _⟩ | ⟨_, _, _, _, _, _, _, _, _, _, _, _, _, _, _, _, _, rfl, _⟩
      · exact ⟨_, rfl⟩
      · exact ⟨_, rfl⟩
    obtain ⟨t1, rfl⟩ := ht1
    have hl2 : (plays xs ⟨18, false, [], []⟩).rs.length ≤ 200 := by simp at hL; omega
    refine play_end w mean mg mb _ _ _ _ _ _ es' ep' fro' (tabObj t1) tv' e1' _ tkm' e0' _ _ (dp + 1) (un + 3) gd [envX cn cs L a ccd cl] _ base g2 L' m' _ _ _ G2.below F2 G2.inK (news_mv N2) G2.top En hl2 hok.rows (by omega) b1 b2 (by first | exact room_of hdp rfl | exact room_of (c := 5) hdp rfl | omega) (by first | exact room_of hu rfl | exact room_of (c := 27) hu rfl | omega) fun p D kp ys nw m'' h'' tk'' hr hsub F3 N3 => leaveS0_ F3 N3 G2.turn fun F4 N4 => ?_
    refine hret p D kp _ e1' ys tv' nw t1 _ h'' tk'' hr Tl (hsub _ (.tail _ (.tail _ (.tail _ (.head _))))) (hsub _ (.tail _ (.tail _ (.head _)))) (hsub _ (.tail _ (.tail _ (.tail _ (.tail _ (.tail _ (.tail _ (List.mem_append_right _ (.tail _ (.tail _ (.tail _ (.head _))))))))))))
      (hsub _ (.tail _ (.tail _ (.tail _ (.tail _ (.tail _ (.head _))))))) (fun q hq => hsub _ (.tail _ (.tail _ (.tail _ (.tail _ (.tail _ (.tail _ (List.mem_append_right _ (.tail _ (.tail _ (.tail _ (.tail _ hq))))))))))))  F4 N4
end
section
section
variable {prog : Program} {w : World} {A : Around} {E : Value → Shared → Prop} {s : Shared} {L : Addr} {m : Str → Option Value} {env : Env}
theorem assign4 {env : Env} {a b c d : Str} {pa pb pc pd tp : Pos} {kk : Nat} {T mc : Addr} {x y z u : Value} {v₀ : Option Value} {m : Str → Option Value} {Q : Unit → Shared → Prop} (hh : A.handled = none) (ht : s.heap.IsTuple T #[x, y, z, u])
    (ha : env.kindOf a = some .local) (hb : env.kindOf b = some .cell) (hc : env.kindOf c = some .local) (hd : env.kindOf d = some .local) (hk : env.scope.kind = .function) (hcl : env.cells.lookup b = some mc) (hv : s.heap.IsCell mc v₀)
    (hp : (env.scope.kind == .class || (env.scope.kind == .module && env.locals != env.globals)) = false) (hn : s.heap.Ns env.locals m) (hLm : @Ne Nat env.locals mc)
    (h : ∀ (h' : Heap) (tk : Nat), h'.Ns env.locals (fun q => if q = d then some u else if q = c then some z else if q = a then some x else m q) → h'.IsCell mc (some y) → (∀ c o, c ≠ env.locals → c ≠ mc → s.heap.get? c = some o → h'.get? c = some o) → Q () { s with heap := h', toks := tk }) :
    wpAny (model prog w) A (assign (.Tuple [.Name a pa, .Name b pb, .Name c pc, .Name d pd] kk tp) env (.ref T)) Q E s := by
  refine wpAny_assign_Tuple hh ht rfl rfl fun h₁ he₁ => ?_
  have hL : env.locals ≠ s.heap.objs.size := Nat.ne_of_lt hn.lt
  have hn₁ : h₁.Ns env.locals m := hn.at' fun o e => he₁ _ o hL e
  have up₁ : ∀ c o, s.heap.get? c = some o → h₁.get? c = some o := fun c o e => he₁ c o (Nat.ne_of_lt (Heap.lt_size e)) e
  show wpAny _ _ (assignInOrder [assign (.Name a pa) env, assign (.Name b pb) env, assign (.Name c pc) env, assign (.Name d pd) env] [x, y, z, u]) _ _ _
  refine assignInOrder_cons ?_
  refine wpAny_assign_Name (wpAny_storeName_local ha hn₁ (fun h₂ hn₂ hs₂ => ?_) hp)
  refine assignInOrder_cons ?_
  have hv₂ : h₂.IsCell mc v₀ := by
    refine hide fun G kG => ?_
    obtain ⟨o, e, hd⟩ := hv
    refine kG ?_
    exact ⟨o, hs₂.extBut _ _ (Ne.symm hLm) (up₁ _ _ e), hd⟩
  refine wpAny_assign_Name (wpAny_storeName_cell hk hb hcl hv₂ fun h₃ hv₃ hs₃ => ?_)
  have hn₃ := hn₂.sameBut hs₃ hLm
  refine assignInOrder_cons ?_
  refine wpAny_assign_Name (wpAny_storeName_local hc hn₃ (fun h₄ hn₄ hs₄ => ?_) hp)
  refine assignInOrder_cons ?_
  refine wpAny_assign_Name (wpAny_storeName_local hd hn₄ (fun h₅ hn₅ hs₅ => ?_) hp)
  refine assignInOrder_nil ?_
  refine h h₅ _ hn₅ ?_ fun c o hc hm e => hs₅.extBut c o hc (hs₄.extBut c o hc (hs₃.extBut c o hm (hs₂.extBut c o hc (up₁ c o e))))
  refine hide fun G kG => ?_
  obtain ⟨o, e, hd⟩ := hv₃
  refine kG ?_
  exact ⟨o, hs₅.extBut _ _ (Ne.symm hLm) (hs₄.extBut _ _ (Ne.symm hLm) e), hd⟩
inductive TurnS (g : Heap) (L I l k mc : Addr) (oI : Obj) (vs : List Value) (J : (Str → Option Value) → List (Addr × Obj) → Prop) (s₁ : Shared) (f : Flow) (s' : Shared) : Prop
  | mk (x1 : f = .next ∨ f = .cont) (h' : Heap) (tk : Nat) (m' : Str → Option Value) (oc : Obj) (v₀ : Option Value) (news' : List (Addr × Obj)) (x2 : s' = { s₁ with heap := h', toks := tk }) (x3 : Fr g L h' m') (x4 : oc.data = .cell v₀) (x5 : News g L h' ((I, oI) :: (l, listOf vs.toArray k) :: (mc, oc) :: news')) (x6 : ∀ p ∈ news', @Ne Nat p.1 I) (x7 : ∀ p ∈ news', @Ne Nat p.1 l) (x8 : ∀ p ∈ news', @Ne Nat p.1 mc) (x9 : J m' news') : TurnS g L I l k mc oI vs J s₁ f s'
inductive InvS (s : Shared) (g : Heap) (L I : Addr) (l k mc : Nat) (vs : List Value) (J : Nat → (Str → Option Value) → List (Addr × Obj) → Prop) (kk : Nat) (s' : Shared) : Prop
  | mk (i : Nat) (h : Heap) (tk : Nat) (m₁ : Str → Option Value) (oc₁ : Obj) (v₁ : Option Value) (news₁ : List (Addr × Obj)) (x1 : i ≤ vs.length) (x2 : kk = vs.length - i) (x3 : s' = { s with heap := h, toks := tk }) (x4 : h.IsListIter I l i) (x5 : Fr g L h m₁) (x6 : oc₁.data = .cell v₁) (x7 : News g L h ((l, listOf vs.toArray k) :: (mc, oc₁) :: news₁)) (x8 : ∀ p ∈ news₁, @Ne Nat p.1 I) (x9 : ∀ p ∈ news₁, @Ne Nat p.1 l) (x10 : ∀ p ∈ news₁, @Ne Nat p.1 mc) (x11 : J i m₁ news₁) : InvS s g L I l k mc vs J kk s'
theorem forS {a b c d : Str} {pa pb pc pd tp pos : Pos} {kk : Nat} {iter : PySem.Expr} {body : List Stmt} {Q : Flow → Shared → Prop} {g : Heap} {l k mc : Nat} {oc : Obj} {v₀ : Option Value} {vs : List Value} {news : List (Addr × Obj)} (P : Nat → Value → Value → Value → Value → Prop) (J : Nat → (Str → Option Value) → List (Addr × Obj) → Prop)
    (hLe : env.locals = L) (ha : env.kindOf a = some .local) (hb : env.kindOf b = some .cell) (hc : env.kindOf c = some .local) (hd : env.kindOf d = some .local) (hk : env.scope.kind = .function) (hcl : env.cells.lookup b = some mc)
    (hp : (env.scope.kind == .class || (env.scope.kind == .module && env.locals != env.globals)) = false) (hh : A.handled = none)
    (he : ∀ Q', Q' (.ref l) s → wpAny (model prog w) A (eval iter env) Q' E s)
    (F : Fr g L s.heap m) (hoc : oc.data = .cell v₀) (N : News g L s.heap ((l, listOf vs.toArray k) :: (mc, oc) :: news)) (hlm : @Ne Nat l mc) (off : ∀ p ∈ news, @Ne Nat p.1 l) (offm : ∀ p ∈ news, @Ne Nat p.1 mc) (hJ : J 0 m news)
    (hT : ∀ i v, vs[i]? = some v → ∃ (T j : Nat) (x y z u : Value), v = .ref T ∧ P i x y z u ∧ ∀ m nw, J i m nw → (T, tup4 j x y z u) ∈ nw)
    (turn : ∀ i x y z u I oI oc m news h tk, i < vs.length → P i x y z u → J i m news → oc.data = .cell (some y) → Fr g L h (fun q => if q = d then some u else if q = c then some z else if q = a then some x else m q) → News g L h ((I, oI) :: (l, listOf vs.toArray k) :: (mc, oc) :: news) →
      (∀ p ∈ news, @Ne Nat p.1 I) → (∀ p ∈ news, @Ne Nat p.1 l) → (∀ p ∈ news, @Ne Nat p.1 mc) → @Ne Nat l I → @Ne Nat mc I →
      wpAny (model prog w) A (execs body env) (TurnS g L I l k mc oI vs (J (i + 1)) { s with heap := h, toks := tk }) (fun _ _ => False) { s with heap := h, toks := tk })
    (done : ∀ m oc news h tk, J vs.length m news → Fr g L h m → News g L h ((l, listOf vs.toArray k) :: (mc, oc) :: news) → Q .next { s with heap := h, toks := tk })
    (hs : ∀ x, foldedSetIterable iter env x = pure x := by intro _; rfl) : wpAny (model prog w) A (exec (.For (.Tuple [.Name a pa, .Name b pb, .Name c pc, .Name d pd] kk tp) iter body [] pos) env) Q E s := by
  subst hLe
  refine wpAny_ForI (he _ ?_) hs
  have hl : s.heap.IsList l vs.toArray := ⟨_, (N _ (.head _)).1, rfl, k, rfl⟩
  refine wpAny_pyIter_list hl ?_
  have up : ∀ (o' : Obj) b o, s.heap.get? b = some o → (s.heap.push o').get? b = some o := fun _ b o e => Heap.get?_push_of_some _ e
  have hI0 : (s.heap.push { cls := .type "list_iterator", data := .fields #[.ref l, .int 0 0] }).get? s.heap.objs.size = some { cls := .type "list_iterator", data := .fields #[.ref l, .int 0 0] } := Heap.get?_push_size _ rfl
  have hNI : ∀ p ∈ (l, listOf vs.toArray k) :: (mc, oc) :: news, @Ne Nat p.1 s.heap.objs.size := fun p hp => Nat.ne_of_lt (Heap.lt_size (N p hp).1)
  have hlI : @Ne Nat l s.heap.objs.size := hNI _ (.head _)
  have hmI : @Ne Nat mc s.heap.objs.size := hNI _ (.tail _ (.head _))
  have hLI0 : @Ne Nat env.locals s.heap.objs.size := Nat.ne_of_lt F.ns.lt
  have hLm : @Ne Nat env.locals mc := Ne.symm (N _ (.tail _ (.head _))).2.1
  have hgm : g.get? mc = none := (N _ (.tail _ (.head _))).2.2
  have hgI : g.get? s.heap.objs.size = none := next_is_new F
  have hIt : (s.heap.push { cls := .type "list_iterator", data := .fields #[.ref l, .int 0 0] }).IsListIter s.heap.objs.size l 0 := ⟨_, hI0, rfl, rfl⟩
  have kup := up { cls := .type "list_iterator", data := .fields #[.ref l, .int 0 0] }
  generalize (s.heap.push { cls := .type "list_iterator", data := .fields #[.ref l, .int 0 0] }) = H at kup hIt ⊢
  generalize s.heap.objs.size = I at hNI hlI hmI hLI0 hgI hIt ⊢
  have W := Walks.list (prog := prog) (w := w) (A := A) hh I l hlI vs.toArray
  refine ⟨fun kk s' => InvS s g env.locals I l k mc vs J kk s', vs.length,
    ⟨0, H, s.toks, m, oc, v₀, news, Nat.zero_le _, rfl, rfl, hIt, F.keeps kup, hoc, N.grown kup, fun p hp => hNI p (.tail _ (.tail _ hp)), off, offm, hJ⟩, ?_⟩
  intro kk s' hx2
  refine hide fun G kG => ?_
  obtain ⟨i, h, tk, m₁, oc₁, v₁, news₁, hi, rfl, rfl, hit, F₁, hoc₁, N₁, offI, offl, offc, hJ₁⟩ := hx2
  refine kG ?_
  have hL₁ : h.IsList l vs.toArray := ⟨_, (N₁ _ (.head _)).1, rfl, k, rfl⟩
  by_cases hlt : i < vs.length
  · refine W.item i _ _ _ (by simpa using hlt) ⟨hit, hL₁⟩ fun v h₁ tk₁ hv hst₁ hk₁ => ?_
    dsimp only
    have hv' : vs[i]? = some v := by simpa using hv
    refine hide fun G kG => ?_
    obtain ⟨T, j, x, y, z, u, rfl, hP, hTm⟩ := hT i v hv'
    refine kG ?_
    have hTn := hTm _ _ hJ₁
    refine wpAny_letOwnedTupleGo_listiter hst₁.1 ?_
    have hTT : h₁.IsTuple T #[x, y, z, u] := ⟨_, hk₁ T _ (by have := offI _ hTn; simpa using this) (N₁ _ (.tail _ (.tail _ hTn))).1, rfl, j, rfl⟩
    have hC1 : h₁.IsCell mc v₁ := ⟨_, hk₁ mc _ (by simpa using hmI) (N₁ _ (.tail _ (.head _))).1, hoc₁⟩
    refine assign4 hh hTT ha hb hc hd hk hcl hC1 hp (F₁.ns.at' fun o e => hk₁ _ o (by simpa using hLI0) e) hLm fun h₂ tk₂ hn₂ hc₂ hs₂ => ?_
    have hLg : g.get? env.locals = none := Heap.get?_none_of_le F₁.above
    have k₂ : ∀ b o, b ≠ I → b ≠ env.locals → b ≠ mc → h.get? b = some o → h₂.get? b = some o := fun b o h1 h2 h3 e => hs₂ b o h2 h3 (hk₁ b o (by simpa using h1) e)
    refine hide fun G kG => ?_
    obtain ⟨oI, heI, hcI, hdI⟩ := hst₁.1
    refine kG ?_
    have heI₂ : h₂.get? I = some oI := hs₂ _ _ (Ne.symm hLI0) (Ne.symm hmI) heI
    refine hide fun G kG => ?_
    obtain ⟨oc₂, hec₂, hdc₂⟩ := hc₂
    refine kG ?_
    have F₂ : Fr g env.locals h₂ (fun q => if q = d then some u else if q = c then some z else if q = a then some x else m₁ q) := ⟨hn₂, fun b o e => k₂ b o (fun q => by rw [q, hgI] at e; cases e) (fun q => by rw [q, hLg] at e; cases e) (fun q => by rw [q, hgm] at e; cases e) (F₁.keep b o e), F₁.above⟩
    have N₂ : News g env.locals h₂ ((I, oI) :: (l, listOf vs.toArray k) :: (mc, oc₂) :: news₁) := fun p hp => by
      simp only [List.mem_cons] at hp
      rcases hp with rfl | rfl | rfl | hp
      · exact ⟨heI₂, Ne.symm hLI0, hgI⟩
      · exact ⟨k₂ _ _ hlI (N₁ _ (.head _)).2.1 hlm (N₁ _ (.head _)).1, (N₁ _ (.head _)).2⟩
      · exact ⟨hec₂, Ne.symm hLm, hgm⟩
      · have q := N₁ p (.tail _ (.tail _ hp))
        exact ⟨k₂ _ _ (offI p hp) q.2.1 (offc p hp) q.1, q.2⟩
    refine wpAny_mono (turn i x y z u I oI oc₂ m₁ news₁ h₂ _ hlt hP hJ₁ hdc₂ F₂ N₂ offI offl offc hlI hmI) (fun f s₄ h₄ => ?_) fun _ _ z => z
    refine hide fun G kG => ?_
    obtain ⟨hf, h', tk', m', oc', v', news', rfl, F₅, hoc', N₅, offI₅, offl₅, offc₅, J₅⟩ := h₄
    refine kG ?_
    have fin : ∃ m, m < vs.length - i ∧ InvS s g env.locals I l k mc vs J m { s with heap := h', toks := tk' } := by
      exact ⟨vs.length - (i + 1), by omega, i + 1, h', tk', m', oc', v', news', hlt, rfl, rfl, ⟨oI, (N₅ _ (.head _)).1, hcI, hdI⟩, F₅, hoc', fun p hp => N₅ p (.tail _ hp), offI₅, offl₅, offc₅, J₅⟩
    rcases hf with rfl | rfl
    · exact fin
    · exact fin
  · obtain rfl : i = vs.length := Nat.le_antisymm hi (Nat.not_lt.mp hlt)
    refine W.done _ _ _ ⟨by simpa using hit, hL₁⟩ fun h₂ tk₂ hk₂ => ?_
    dsimp only
    have k₂ : ∀ b o, b ≠ I → h.get? b = some o → h₂.get? b = some o := fun b o h1 e => hk₂ b o (by simpa using h1) e
    refine wpAny_execs_nil ?_
    refine done m₁ oc₁ news₁ h₂ tk₂ hJ₁ ⟨F₁.ns.at' fun o e => k₂ _ o hLI0 e, fun b o e => k₂ b o (fun q => by rw [q, hgI] at e; cases e) (F₁.keep b o e), F₁.above⟩ fun p hp => ⟨k₂ _ _ ?_ (N₁ p hp).1, (N₁ p hp).2⟩
    simp only [List.mem_cons] at hp
    rcases hp with rfl | rfl | hp
    · exact hlI
    · exact hmI
    · exact offI p hp
end
end
section
noncomputable def dueScope (k : Frag) : Scope := match k.lookup 308 with
  | some ⟨_, _, .func fd, _⟩ => fd.scope
  | _ => default
noncomputable def dueFor (k : Frag) : List Stmt := match fnBody k 308 with
  | _ :: _ :: _ :: _ :: .For _ _ r _ _ :: _ => r
  | _ => []
noncomputable def dueIf (k : Frag) : List Stmt := match dueFor k with
  | _ :: r => r
  | [] => []
noncomputable abbrev rowO (n y : Str) (k : Nat) (t t' : Tok) : Obj := W.listOf #[.str n t, .str y t'] k
noncomputable def RowsL : CbLed → List (Str × Str) → Prop
  | [], [] => True
  | p :: l, r :: rs => (∃ k t t', p.2 = rowO r.1 r.2 k t t') ∧ RowsL l rs
  | _, _ => False
noncomputable abbrev refsOf (l : CbLed) : List Value := l.map fun p => .ref p.1
noncomputable def hits (n : Str) : CbLed → List (Str × Str) → List Value
  | p :: l, r :: rs => if r.1 = n then .ref p.1 :: hits n l rs else hits n l rs
  | _, _ => []
theorem hits_cons (n : Str) (p : Addr × Obj) (l : CbLed) (r : Str × Str) (rs : List (Str × Str)) : hits n (p :: l) (r :: rs) = if r.1 = n then .ref p.1 :: hits n l rs else hits n l rs := rfl
theorem RowsL.get : ∀ {l : CbLed} {rs : List (Str × Str)} {i : Nat} {p : Addr × Obj}, RowsL l rs → l[i]? = some p → ∃ r k t t', rs[i]? = some r ∧ p.2 = rowO r.1 r.2 k t t'
  | q :: l, r :: rs, 0, p, ⟨⟨k, t, t', h⟩, _⟩, e => by
    obtain rfl : q = p := Option.some.inj e
    exact ⟨r, k, t, t', rfl, h⟩
  | q :: l, r :: rs, i + 1, p, ⟨_, h⟩, e => RowsL.get h (i := i) e
  | [], _, _, _, _, e => by simp at e
  | _ :: _, [], _, _, h, _ => h.elim
theorem RowsL.len : ∀ {l : CbLed} {rs : List (Str × Str)}, RowsL l rs → l.length = rs.length
  | [], [], _ => rfl
  | _ :: _, _ :: _, ⟨_, h⟩ => congrArg (· + 1) h.len
  | [], _ :: _, h => h.elim
  | _ :: _, [], h => h.elim
theorem hits_snoc {n : Str} : ∀ {l : CbLed} {rs : List (Str × Str)} {i : Nat} {p : Addr × Obj} {r : Str × Str}, l[i]? = some p → rs[i]? = some r →
    hits n (l.take (i + 1)) (rs.take (i + 1)) = hits n (l.take i) (rs.take i) ++ (if r.1 = n then [.ref p.1] else [])
  | q :: l, u :: rs, 0, p, r, h1, h2 => by
    obtain rfl : q = p := Option.some.inj h1
    obtain rfl : u = r := Option.some.inj h2
    show hits n [q] [u] = _
    rw [hits_cons]
    split <;> rfl
  | q :: l, u :: rs, i + 1, p, r, h1, h2 => by
    have := hits_snoc (n := n) (l := l) (rs := rs) (i := i) h1 h2
    rw [List.take_succ_cons, List.take_succ_cons, List.take_succ_cons, List.take_succ_cons]
    rw [hits_cons, hits_cons, this]
    split
    · rw [List.cons_append]
    · rfl
  | [], _, _, _, _, h, _ => by simp at h
  | _ :: _, [], _, _, _, _, h => by simp at h
theorem restT_ind {prog : Program} {w : World} {A : Around} {h₀ : Heap} {L : Addr} {m : Str → Option Value} {env : Env} {ct elt : PySem.Expr} {x : Str} {scope : Scope} {cl : List (Str × Addr)} {s : Shared} {S : List (Addr × Obj) → Prop} {P : Nat → Value → Prop}
    {Fin : List Value → List (Addr × Obj) → Prop} {news : List (Addr × Obj)} (N : Nat) (f : Nat → List Value) (hf : f 0 = []) (h0 : Fin (f N) news)
    (hs : ∀ i j, i < N → LCt.CompRestT prog w A h₀ L m env ct elt x scope cl s S P Fin j (i + 1) (f (i + 1)) news → LCt.CompRestT prog w A h₀ L m env ct elt x scope cl s S P Fin (j + 1) i (f i) news) :
    LCt.CompRestT prog w A h₀ L m env ct elt x scope cl s S P Fin N 0 [] news := by
  have key : ∀ j i, i + j = N → LCt.CompRestT prog w A h₀ L m env ct elt x scope cl s S P Fin j i (f i) news := by
    intro j
    induction j with
    | zero =>
      intro i e
      obtain rfl : i = N := e
      exact h0
    | succ j ih => exact fun i e => hs i j (by omega) (ih (i + 1) (by omega))
  rw [← hf]
  exact key N 0 (Nat.zero_add _)
theorem off1_mem {D : Addr} {l : CbLed} (h : LCg.Off1 D l) : ∀ p ∈ l, @Ne Nat p.1 D := by
  induction l with
  | nil => exact fun p hp => by simp at hp
  | cons q l ih =>
    intro p hp
    rcases List.mem_cons.mp hp with rfl | hp
    · exact h.1
    · exact ih h.2 p hp
theorem fr_one {h₀ h : Heap} {L : Addr} {m : Str → Option Value} {a : Str} {u : Value} (F : Fr h₀ L h m) (e1 : m a = some u) : Fr h₀ L h (fun y => if y = a then some u else m y) := fr_eq F fun y => by
  split
  · next q => rw [q, e1]
  · rfl
theorem here_c (w : World) (mean : ExcName → Option Value) (mg mb : Str → Option Value) (rw mc k : Nat) (rl : CbLed) (rs : List (Str × Str)) (n : Str) (tn : Tok) (oc : Obj) (rest : CbLed)
   (dp un : Nat) (gd : Option (List Code)) (outer : List Env) (A₀ : Around) (base g : Heap) (L : Addr) (m : Str → Option Value) (s : Shared) (Q : Flow → Shared → Prop) (E : Value → Shared → Prop)
   (B : Below A₀ base outer g) (F : Fr g L s.heap m) (X : (hd.heap_39 w.params).In g) (N : News g L s.heap ((rw, W.listOf (refsOf rl).toArray k) :: (mc, oc) :: (rl ++ rest))) (T : Top topProg looseL mean mg mb g)
   (hoc : oc.data = .cell (some (.str n tn))) (hr : RowsL rl rs) (hz : rl.length ≤ 200) (m1 : m "rows" = some (.ref rw))
   (hret : ∀ (D : Addr) (h' : Heap) (tk' : Nat), Fr g L h' (fun z => if z = "here" then some (.ref D) else m z) → News g L h' ((D, LCg.lst (hits n rl rs)) :: (rw, W.listOf (refsOf rl).toArray k) :: (mc, oc) :: (rl ++ rest)) →
     (∀ p ∈ (rw, W.listOf (refsOf rl).toArray k) :: (mc, oc) :: (rl ++ rest), @Ne Nat p.1 D) →
     wpAny (model Challenge.rw_in0190_01.row.prog w) (ktrTop dp un gd (Str.ofString "_law_due") (dueScope (hd.heap_39 w.params)) L 308 (.ref 307) [(Str.ofString "name", mc)] outer) (execs (dueIf (hd.heap_39 w.params)) (envX (Str.ofString "_law_due") (dueScope (hd.heap_39 w.params)) L 308 (.ref 307) [(Str.ofString "name", mc)])) Q E { s with heap := h', toks := tk' }) :
   wpAny (model Challenge.rw_in0190_01.row.prog w) (ktrTop dp un gd (Str.ofString "_law_due") (dueScope (hd.heap_39 w.params)) L 308 (.ref 307) [(Str.ofString "name", mc)] outer) (execs (dueFor (hd.heap_39 w.params)) (envX (Str.ofString "_law_due") (dueScope (hd.heap_39 w.params)) L 308 (.ref 307) [(Str.ofString "name", mc)])) Q E s := by
  have ei : dueFor (hd.heap_39 w.params) = _ :: dueIf (hd.heap_39 w.params) := rfl
  rw [ei]
  have es0 : dueScope (hd.heap_39 w.params) = _ := rfl
  rw [es0] at hret ⊢
  clear ei es0
  replace F := fr_one F m1
  have X0 := X
  revert X; k_fill; intro X
  repeat' (first | (k_unfold; try dsimp only) | (k_end; kc_close) | (walk1; all_goals ((try k_fold); (try dsimp only); try with_reducible refine wpAny_tk fun _ => ?_)) | (dsimp only; walk1) | (leave1; try dsimp only))
  refine Halt.in ?_
  refine LCt.Assign_ListComp_T (F₀ := by k_asm) (by rfl) (by with_unfolding_all rfl) (by with_unfolding_all rfl) (by decide) (by rfl) (by decide) (by rfl) (by rfl) (by rfl) ?_
  repeat' (first | (k_unfold; try dsimp only) | (k_end; kc_close) | (walk1; all_goals ((try k_fold); (try dsimp only); try with_reducible refine wpAny_tk fun _ => ?_)) | (dsimp only; walk1) | (leave1; try dsimp only))
  have hz' : (refsOf rl).toArray.size ≤ sizeLine := by
    rw [List.size_toArray, List.length_map, sizeLine_eq]
    omega
  refine LCt.CompSrcT.ledger (by rfl) (by k_asm) (by k_asm) (by k_mem) hz' ?_
  intro g'
  have hsz : (refsOf rl).toArray.size = rl.length := by rw [List.size_toArray, List.length_map]
  rw [hsz]
  refine restT_ind rl.length (fun i => hits n (rl.take i) (rs.take i)) rfl ?_ ?_
  · intro D h tk F' N' off'
    rw [List.take_length, hr.len, List.take_length] at N'
    refine hret D h tk (fr_eq F' fun y => ?_) N' ?_
    · split
      · rfl
      · dsimp only
        split
        · next q => rw [q, m1]
        · rfl
    · exact off1_mem off'
  · intro i j hi ih
    refine LCt.CompRestT.succ ?_
    intro v I oI C oC D m₂ h tk E' hv hC hx F' N' off' ne'
    have hp : rl[i]? = some rl[i] := List.getElem?_eq_getElem hi
    obtain ⟨r, k1, t, t', hri, ho⟩ := hr.get hp
    have hv2 : v = .ref rl[i].1 := by
      rw [List.getElem?_toArray, List.getElem?_map, hp] at hv
      exact (Option.some.inj hv).symm
    have hmem : rl[i] ∈ rl := List.getElem_mem hi
    have hh := hits_snoc (n := n) hp hri
    generalize rl[i] = p at *
    obtain ⟨a, o⟩ := p
    dsimp only at ho hv2
    subst ho hv2
    have N3 := N'
    clear N'
    have N2 : News g L h ((I, oI) :: (C, oC) :: (D, LCg.lst (hits n (rl.take i) (rs.take i))) :: (a, rowO r.1 r.2 k1 t t') :: (rw, W.listOf (refsOf rl).toArray k) :: (mc, oc) :: (rl ++ rest)) := PySem.W.KStt.news_of N3 fun p hp => by
      first | (revert p; (repeat (first | exact sub_nil | (refine sub_cons ?_ ?_; (· repeat (first | assumption | exact List.Mem.head _ | refine List.Mem.tail _ ?_))) | refine sub_app ?_ ?_ | (intro p hp; (repeat (first | exact hp | exact List.mem_append_left _ hp | exact List.mem_append_right _ hp | refine List.Mem.tail _ ?_))))); done) | (simp only [List.mem_cons, List.mem_append] at hp ⊢; rcases hp with h | h | h | h | h | h | h | h <;> first | ((repeat (first | exact h | exact h ▸ hmem | exact Or.inl h | refine Or.inr ?_)); done) | simp only [h, hmem, true_or, or_true])
    have hS : LCg.SrcAt g rw (refsOf rl).toArray ((rw, W.listOf (refsOf rl).toArray k) :: (mc, oc) :: (rl ++ rest)) := .inr ⟨_, .head _, rfl, _, rfl⟩
    repeat' (first | (k_unfold; try dsimp only) | (k_end; kc_close) | (walk1; all_goals ((try k_fold); (try dsimp only); try with_reducible refine wpAny_tk fun _ => ?_)) | (dsimp only; walk1) | (leave1; try dsimp only))
    · rename _ = true => hq
      rw [if_pos (eq_of_beq hq)] at hh
      refine CompEnd_same F' N3 off' hS ?_
      rw [← hh]
      exact ih
    · rename _ = false => hq
      rw [if_neg (fun q => by rw [beq_eq_false_iff_ne] at hq; exact hq q), List.append_nil] at hh
      refine CompEnd_same F' N3 off' hS ?_
      rw [← hh]
      exact ih
end
section
structure DS where
  shown : Str
  grows : Bool
  rs : List (Str × Str)
  told : List (Option Str)
noncomputable def DS.freeze (σ : DS) : DS := { σ with grows := false, told := σ.told ++ [none] }
noncomputable def DS.mask (σ : DS) (y : Str) : DS := { σ with shown := y }
noncomputable def DS.ask (σ : DS) (n : Str) : DS := match σ.rs.lookup n with
  | some y => { σ with told := σ.told ++ [some y] }
  | none => { σ with told := σ.told ++ [some σ.shown], rs := if σ.grows then σ.rs ++ [(n, σ.shown)] else σ.rs }
noncomputable def DS.take (σ : DS) (n : Str) : DS := { σ with told := σ.told ++ [σ.rs.lookup n], rs := σ.rs.filter fun r => !(r.1 == n) }
noncomputable def DS.store (σ : DS) (n y : Str) : DS := match σ.rs.lookup n with
  | some _ => { σ with rs := σ.rs.map fun r => if r.1 = n then (n, y) else r }
  | none => { σ with rs := σ.rs ++ [(n, y)] }
noncomputable abbrev dueLed (rw tA kr : Nat) (rl : CbLed) (tv : List Value) (e1 : Nat) (rest : CbLed) : CbLed := (rw, W.listOf (refsOf rl).toArray kr) :: (tA, W.listOf tv.toArray e1) :: (rl ++ rest)
structure DOk (rw tA : Nat) (rl rest : CbLed) : Prop where
  rt : @Ne Nat rw tA
  r : ∀ p ∈ rest, @Ne Nat p.1 rw
  t : ∀ p ∈ rest, @Ne Nat p.1 tA
  l : ∀ p ∈ rl, @Ne Nat p.1 rw ∧ @Ne Nat p.1 tA ∧ ∀ q ∈ rest, @Ne Nat q.1 p.1
  x : (rl.map (·.1)).Nodup
structure FrD (σ : DS) (rw tA : Nat) (m : Str → Option Value) : Prop where
  shown : ∃ t, m "shown" = some (.str σ.shown t)
  rows : m "rows" = some (.ref rw)
  grows : m "grows" = some (.bool σ.grows)
  told : m "told" = some (.ref tA)
noncomputable def DueEnd (g : Heap) (L : Addr) (s : Shared) (tA : Nat) (rest : CbLed) (σ : DS) (Q : Flow → Shared → Prop) : Prop :=
  ∀ (rw kr e1 : Nat) (rl : CbLed) (tv : List Value) (m' : Str → Option Value) (h' : Heap) (tk' : Nat), RowsL rl σ.rs → ToldAre tv σ.told → DOk rw tA rl rest → FrD σ rw tA m' → Fr g L h' m' → News g L h' (dueLed rw tA kr rl tv e1 rest) → Q .next { s with heap := h', toks := tk' }
theorem hits_none {n : Str} : ∀ {l : CbLed} {rs : List (Str × Str)}, (∀ r ∈ rs, r.1 ≠ n) → hits n l rs = []
  | [], [], _ => rfl
  | [], _ :: _, _ => rfl
  | _ :: _, [], _ => rfl
  | p :: l, r :: rs, h => by
    rw [hits_cons, if_neg (h r (.head _))]
    exact hits_none fun q hq => h q (.tail _ hq)
theorem lookup_none {n : Str} : ∀ {rs : List (Str × Str)}, (∀ r ∈ rs, r.1 ≠ n) → rs.lookup n = none
  | [], _ => rfl
  | (a, b) :: rs, h => by
    rw [List.lookup_cons]
    have : (n == a) = false := by
      rw [beq_eq_false_iff_ne]
      exact fun q => h _ (.head _) q.symm
    rw [this]
    exact lookup_none fun q hq => h q (.tail _ hq)
theorem lookup_mid {n y : Str} : ∀ {r1 r2 : List (Str × Str)}, (∀ r ∈ r1, r.1 ≠ n) → (r1 ++ (n, y) :: r2).lookup n = some y
  | [], r2, _ => by simp
  | (a, b) :: rs, r2, h => by
    rw [List.cons_append, List.lookup_cons]
    have : (n == a) = false := by
      rw [beq_eq_false_iff_ne]
      exact fun q => h _ (.head _) q.symm
    rw [this]
    exact lookup_mid fun q hq => h q (.tail _ hq)
inductive SplitAt (n : Str) (rl : CbLed) (rs : List (Str × Str)) : Prop
  | off (hh : hits n rl rs = []) (hno : ∀ r ∈ rs, r.1 ≠ n)
  | one (l1 : CbLed) (a : Nat) (y : Str) (k : Nat) (t t' : Tok) (l2 : CbLed) (r1 r2 : List (Str × Str)) (hrl : rl = l1 ++ (a, rowO n y k t t') :: l2) (hrs : rs = r1 ++ (n, y) :: r2) (R1 : RowsL l1 r1) (R2 : RowsL l2 r2)
    (h5 : ∀ r ∈ r1, r.1 ≠ n) (h6 : ∀ r ∈ r2, r.1 ≠ n) (hh : hits n rl rs = [.ref a])
theorem off_cons {n : Str} {r : Str × Str} {rs : List (Str × Str)} (q : r.1 ≠ n) (h : ∀ r ∈ rs, r.1 ≠ n) : ∀ x ∈ r :: rs, x.1 ≠ n := fun x hx => by
  rcases List.mem_cons.mp hx with rfl | hx
  · exact q
  · exact h x hx
theorem due_split {n : Str} {rl : CbLed} : ∀ {rs : List (Str × Str)}, RowsL rl rs → (rs.map (·.1)).Nodup → SplitAt n rl rs := by
  induction rl with
  | nil =>
    intro rs h _
    cases rs with
    | nil => exact .off rfl (by simp)
    | cons r rs => exact h.elim
  | cons p l ih =>
    intro rs h nd
    cases rs with
    | nil => exact h.elim
    | cons r rs =>
      obtain ⟨a, o⟩ := p
      obtain ⟨n', y⟩ := r
      obtain ⟨⟨k, t, t', ho⟩, h⟩ := h
      obtain rfl : o = rowO n' y k t t' := ho
      rw [List.map_cons, List.nodup_cons] at nd
      by_cases q : n' = n
      · subst q
        have hn : ∀ r ∈ rs, r.1 ≠ n' := fun r hr e => nd.1 (List.mem_map.mpr ⟨r, hr, e⟩)
        exact .one [] a y k t t' l [] rs rfl rfl trivial h (by simp) hn (by rw [hits_cons, if_pos rfl, hits_none hn])
      · have e : hits n ((a, rowO n' y k t t') :: l) ((n', y) :: rs) = hits n l rs := by rw [hits_cons, if_neg q]
        cases ih h nd.2 with
        | off h1 h2 => exact .off (e.trans h1) (off_cons q h2)
        | one l1 a' y' k' u u' l2 r1 r2 hl hr h3 h4 h5 h6 h7 =>
          exact .one ((a, rowO n' y k t t') :: l1) a' y' k' u u' l2 ((n', y) :: r1) r2 (congrArg _ hl) (congrArg _ hr) ⟨⟨k, t, t', rfl⟩, h3⟩ h4 (off_cons q h5) h6 (e.trans h7)
noncomputable abbrev sgOk (c0 c1 c2 c3 c4 c5 : Nat) : Prop := 48 ≤ c0 ∧ c0 < 50 ∧ 48 ≤ c1 ∧ c1 < 56 ∧ 48 ≤ c2 ∧ c2 < 56 ∧ 48 ≤ c3 ∧ c3 < 56 ∧ 48 ≤ c4 ∧ c4 < 56 ∧ 48 ≤ c5 ∧ c5 < 56
theorem fr_seven {h₀ h : Heap} {L : Addr} {m : Str → Option Value} {a1 a2 a3 a4 a5 a6 a7 : Str} {u1 u2 u3 u4 u5 u6 u7 : Value} (F : Fr h₀ L h m) (e1 : m a1 = some u1) (e2 : m a2 = some u2) (e3 : m a3 = some u3) (e4 : m a4 = some u4) (e5 : m a5 = some u5) (e6 : m a6 = some u6) (e7 : m a7 = some u7) :
    Fr h₀ L h (fun z => if z = a1 then some u1 else if z = a2 then some u2 else if z = a3 then some u3 else if z = a4 then some u4 else if z = a5 then some u5 else if z = a6 then some u6 else if z = a7 then some u7 else m z) :=
  fr_eq F fun z => by
    split
    · next q => rw [q, e1]
    split
    · next q => rw [q, e2]
    split
    · next q => rw [q, e3]
    split
    · next q => rw [q, e4]
    split
    · next q => rw [q, e5]
    split
    · next q => rw [q, e6]
    split
    · next q => rw [q, e7]
    rfl
noncomputable abbrev sOk (x : Str) : Bool := PyData.strOk x
section
variable {prog : Program} {w : World} {A : Around} {E : Value → Shared → Prop} {s : Shared} {h₀ : Heap} {L : Addr} {news : CbLed} {Q : Value → Shared → Prop} {D a e : Nat} {n y : Str} {k j : Nat} {t t' : Tok}
theorem hit_reads (N : News h₀ L s.heap news) (h1 : (D, LCg.lst [.ref a]) ∈ news) (h2 : (a, rowO n y k t t') ∈ news) : PySem.Reads s.heap (.ref D) (.list [.list [.str n, .str y]]) ([D, a]) :=
  .list (N _ h1).1 rfl rfl (.cons (.list (N _ h2).1 rfl rfl (.cons (.str _ _) (.cons (.str _ _) .nil))) .nil)
theorem nil_reads (N : News h₀ L s.heap news) (h3 : (e, W.listOf #[] j) ∈ news) : PySem.Reads s.heap (.ref e) (.list []) [e] := .list (N _ h3).1 rfl rfl .nil
theorem hit_shaped (hn : sOk n = true) (hy : sOk y = true) : SeqAt.shaped (.list [.list [.str n, .str y]]) = true := by
  have e1 : PyData.canLay0 (.list [.list [.str n, .str y]]) = ((((sOk n && (sOk y && true))) && true) : Bool) := rfl
  unfold SeqAt.shaped
  rw [e1, hn, hy]
  rfl
theorem ne_hit (N : News h₀ L s.heap news) (h1 : (D, LCg.lst [.ref a]) ∈ news) (h2 : (a, rowO n y k t t') ∈ news) (h3 : (e, W.listOf #[] j) ∈ news) (hn : sOk n = true) (hy : sOk y = true) (hu : A.units + 64 < cLine) (h : Q (.bool true) s) :
    wpAny (model prog w) A (compareOp .NotEq (.ref D) (.ref e)) Q E s :=
  ne_dataH (hit_reads N h1 h2) (nil_reads N h3) (hit_shaped hn hy) rfl hu h
theorem eq_hit (N : News h₀ L s.heap news) (h1 : (D, LCg.lst [.ref a]) ∈ news) (h2 : (a, rowO n y k t t') ∈ news) (h3 : (e, W.listOf #[] j) ∈ news) (hn : sOk n = true) (hy : sOk y = true) (hu : A.units + 64 < cLine) (h : Q (.bool false) s) :
    wpAny (model prog w) A (compareOp .Eq (.ref D) (.ref e)) Q E s :=
  eq_dataH (hit_reads N h1 h2) (nil_reads N h3) (hit_shaped hn hy) rfl hu h
end
section
variable {prog : Program} {w : World} {A : Around} {E : Value → Shared → Prop} {s : Shared} {h₀ : Heap} {L : Addr} {news : CbLed} {Q : Value → Shared → Prop} {D e : Nat} {j : Nat}
theorem eq_nil (N : News h₀ L s.heap news) (h1 : (D, LCg.lst []) ∈ news) (h3 : (e, W.listOf #[] j) ∈ news) (hu : A.units + 64 < cLine) (h : Q (.bool true) s) : wpAny (model prog w) A (compareOp .Eq (.ref D) (.ref e)) Q E s :=
  eq_dataH (nil_reads N (j := 0) h1) (nil_reads N h3) rfl rfl hu h
theorem ne_nil (N : News h₀ L s.heap news) (h1 : (D, LCg.lst []) ∈ news) (h3 : (e, W.listOf #[] j) ∈ news) (hu : A.units + 64 < cLine) (h : Q (.bool false) s) : wpAny (model prog w) A (compareOp .NotEq (.ref D) (.ref e)) Q E s :=
  ne_dataH (nil_reads N (j := 0) h1) (nil_reads N h3) rfl rfl hu h
end
theorem off_rl {rw tA : Nat} {rl rest : CbLed} (O : DOk rw tA rl rest) : ∀ p ∈ rl ++ rest, p.1 ≠ tA := fun p hp => by
  rcases List.mem_append.mp hp with hp | hp
  · exact (O.l p hp).2.1
  · exact O.t p hp
theorem off_rw {rw tA : Nat} {rl rest : CbLed} (O : DOk rw tA rl rest) : ∀ p ∈ rl ++ rest, p.1 ≠ rw := fun p hp => by
  rcases List.mem_append.mp hp with hp | hp
  · exact (O.l p hp).1
  · exact O.r p hp
theorem told_size {tv : List Value} {os : List (Option Str)} (h : ToldAre tv os) (hz : os.length ≤ 100) : tv.length ≤ sizeLine := by
  rw [told_len h]; exact Nat.le_trans hz (by rw [sizeLine_eq]; decide)
theorem RowsL_snoc {n y : Str} {a k : Nat} {t t' : Tok} : ∀ {l : CbLed} {rs : List (Str × Str)}, RowsL l rs → RowsL (l ++ [(a, rowO n y k t t')]) (rs ++ [(n, y)])
  | [], [], _ => ⟨⟨k, t, t', rfl⟩, trivial⟩
  | _ :: _, _ :: _, ⟨h, r⟩ => ⟨h, RowsL_snoc r⟩
  | [], _ :: _, h => h.elim
  | _ :: _, [], h => h.elim
theorem refs_snoc {l : CbLed} {a : Nat} {o : Obj} : refsOf (l ++ [(a, o)]) = refsOf l ++ [Value.ref a] := by
  unfold refsOf
  rw [List.map_append]
  rfl
theorem allLt_mem {a : Nat} : ∀ {l : CbLed}, AllLt a l → ∀ p ∈ l, @LT.lt Nat _ p.1 a := by
  intro l h
  induction l with
  | nil => exact fun p hp => by simp at hp
  | cons q l ih =>
    intro p hp
    rcases List.mem_cons.mp hp with rfl | hp
    · exact h.1
    · exact ih h.2 p hp
theorem DOk.snoc {rw tA a : Nat} {rl rest : CbLed} {o : Obj} (O : DOk rw tA rl rest) (h1 : @LT.lt Nat _ rw a) (h2 : @LT.lt Nat _ tA a) (h3 : AllLt a (rl ++ rest)) : DOk rw tA (rl ++ [(a, o)]) rest := by
  have h3 := allLt_mem h3
  refine ⟨O.rt, O.r, O.t, fun p hp => ?_, ?_⟩
  · rcases List.mem_append.mp hp with hp | hp
    · exact O.l p hp
    · rw [List.mem_singleton.mp hp]
      exact ⟨Nat.ne_of_gt h1, Nat.ne_of_gt h2, fun q hq => Nat.ne_of_lt (h3 q (List.mem_append_right _ hq))⟩
  · rw [List.map_append, List.nodup_append]
    refine ⟨O.x, by simp, fun x hx y hy => ?_⟩
    obtain ⟨p, hp, rfl⟩ := List.mem_map.mp hx
    simp only [List.map_cons, List.map_nil, List.mem_singleton] at hy
    subst hy
    exact Nat.ne_of_lt (h3 p (List.mem_append_left _ hp))
noncomputable def keepL (n : Str) : CbLed → List (Str × Str) → CbLed
  | p :: l, r :: rs => if r.1 = n then keepL n l rs else p :: keepL n l rs
  | _, _ => []
theorem keepL_cons (n : Str) (p : Addr × Obj) (l : CbLed) (r : Str × Str) (rs : List (Str × Str)) : keepL n (p :: l) (r :: rs) = if r.1 = n then keepL n l rs else p :: keepL n l rs := rfl
theorem keepL_snoc {n : Str} : ∀ {l : CbLed} {rs : List (Str × Str)} {i : Nat} {p : Addr × Obj} {r : Str × Str}, l[i]? = some p → rs[i]? = some r →
    keepL n (l.take (i + 1)) (rs.take (i + 1)) = keepL n (l.take i) (rs.take i) ++ (if r.1 = n then [] else [p])
  | q :: l, u :: rs, 0, p, r, h1, h2 => by
    obtain rfl : q = p := Option.some.inj h1
    obtain rfl : u = r := Option.some.inj h2
    show keepL n [q] [u] = _
    rw [keepL_cons]
    split <;> rfl
  | q :: l, u :: rs, i + 1, p, r, h1, h2 => by
    have := keepL_snoc (n := n) (l := l) (rs := rs) (i := i) h1 h2
    rw [List.take_succ_cons, List.take_succ_cons, List.take_succ_cons, List.take_succ_cons, keepL_cons, keepL_cons, this]
    split
    · rfl
    · rw [List.cons_append]
  | [], _, _, _, _, h, _ => by simp at h
  | _ :: _, [], _, _, _, _, h => by simp at h
theorem keepL_sub {n : Str} : ∀ {l : CbLed} {rs : List (Str × Str)}, List.Sublist (keepL n l rs) l
  | [], [] => .slnil
  | [], _ :: _ => .slnil
  | _ :: _, [] => List.nil_sublist _
  | p :: l, r :: rs => by
    rw [keepL_cons]
    split
    · exact .cons _ keepL_sub
    · exact .cons₂ _ keepL_sub
theorem keepL_rows {n : Str} : ∀ {l : CbLed} {rs : List (Str × Str)}, RowsL l rs → RowsL (keepL n l rs) (rs.filter fun r => !(r.1 == n))
  | [], [], _ => trivial
  | p :: l, r :: rs, ⟨h, g⟩ => by
    by_cases q : r.1 = n
    · have e1 : keepL n (p :: l) (r :: rs) = keepL n l rs := by rw [keepL_cons, if_pos q]
      have e2 : (r :: rs).filter (fun r => !(r.1 == n)) = rs.filter (fun r => !(r.1 == n)) := by
        rw [List.filter_cons_of_neg]
        simp [q]
      rw [e1, e2]
      exact keepL_rows g
    · have e1 : keepL n (p :: l) (r :: rs) = p :: keepL n l rs := by rw [keepL_cons, if_neg q]
      have e2 : (r :: rs).filter (fun r => !(r.1 == n)) = r :: rs.filter (fun r => !(r.1 == n)) := by
        rw [List.filter_cons_of_pos]
        simp [q]
      rw [e1, e2]
      exact ⟨h, keepL_rows g⟩
  | [], _ :: _, h => h.elim
  | _ :: _, [], h => h.elim
theorem DOk.keep {rw tA D n} {rl rest : CbLed} {rs : List (Str × Str)} (O : DOk rw tA rl rest) (h : ∀ p ∈ rl ++ rest, @Ne Nat p.1 D) (h2 : @Ne Nat tA D) : DOk D tA (keepL n rl rs) rest :=
  ⟨Ne.symm h2, fun p hp => h p (List.mem_append_right _ hp), O.t, fun p hp => ⟨h p (List.mem_append_left _ (keepL_sub.subset hp)), (O.l p (keepL_sub.subset hp)).2⟩, O.x.sublist (keepL_sub.map _)⟩
theorem keepL_len {n : Str} {l : CbLed} {rs : List (Str × Str)} : (refsOf (keepL n l rs)).length = (keepL n l rs).length := List.length_map _
theorem set_row {prog : Program} {w : World} {A : Around} {E : Value → Shared → Prop} {s : Shared} {h₀ : Heap} {L a : Addr} {m : Str → Option Value} {pre post : CbLed} {n y y' : Str} {k : Nat} {t t' u i : Tok} {Q : Unit → Shared → Prop}
    (F : Fr h₀ L s.heap m) (N : News h₀ L s.heap (pre ++ (a, rowO n y k t t') :: post)) (h1 : ∀ p ∈ pre, p.1 ≠ a) (h2 : ∀ p ∈ post, p.1 ≠ a)
    (h : ∀ h', Fr h₀ L h' m → News h₀ L h' (pre ++ (a, rowO n y' k t u) :: post) → Q () { s with heap := h' }) : wpAny (model prog w) A (setItem (.ref a) (.int 1 i) (.str y' u)) Q E s := by
  have z := N (a, rowO n y k t t') (List.mem_append_right _ (.head _))
  exact ki_setAt z.1 (by decide) (by decide) (by show (1 : Int) < 2; decide) (h _ (F.change (Heap.SameBut.update ..) z.2.1 z.2.2) (ki_turn _ N h1 h2 rfl rfl))
theorem RowsL_mid {n y : Str} {a k : Nat} {t t' : Tok} {l2 : CbLed} {r2 : List (Str × Str)} (h2 : RowsL l2 r2) : ∀ {l1 : CbLed} {r1 : List (Str × Str)}, RowsL l1 r1 → RowsL (l1 ++ (a, rowO n y k t t') :: l2) (r1 ++ (n, y) :: r2)
  | [], [], _ => ⟨⟨k, t, t', rfl⟩, h2⟩
  | _ :: _, _ :: _, ⟨h, r⟩ => ⟨h, RowsL_mid h2 r⟩
  | [], _ :: _, h => h.elim
  | _ :: _, [], h => h.elim
theorem DOk.set {rw tA a : Nat} {l1 l2 rest : CbLed} {o o' : Obj} (O : DOk rw tA (l1 ++ (a, o) :: l2) rest) : DOk rw tA (l1 ++ (a, o') :: l2) rest := by
  refine ⟨O.rt, O.r, O.t, fun p hp => ?_, ?_⟩
  · rcases List.mem_append.mp hp with hp | hp
    · exact O.l p (List.mem_append_left _ hp)
    · rcases List.mem_cons.mp hp with rfl | hp
      · exact O.l (a, o) (List.mem_append_right _ (.head _))
      · exact O.l p (List.mem_append_right _ (.tail _ hp))
  · have := O.x
    rw [List.map_append, List.map_cons] at this ⊢
    exact this
theorem DOk.apart {rw tA a : Nat} {l1 l2 rest : CbLed} {o : Obj} (O : DOk rw tA (l1 ++ (a, o) :: l2) rest) : (∀ p ∈ l1, p.1 ≠ a) ∧ (∀ p ∈ l2 ++ rest, p.1 ≠ a) := by
  have := O.x
  rw [List.map_append, List.map_cons, List.nodup_append, List.nodup_cons] at this
  obtain ⟨_, ⟨q1, _⟩, q2⟩ := this
  refine ⟨fun p hp => q2 _ (List.mem_map_of_mem hp) _ (.head _), fun p hp => ?_⟩
  rcases List.mem_append.mp hp with hp | hp
  · exact fun e => q1 (List.mem_map.mpr ⟨p, hp, e⟩)
  · exact (O.l (a, o) (List.mem_append_right _ (.head _))).2.2 p hp
theorem refs_mid {l1 l2 : CbLed} {a : Nat} {o o' : Obj} : refsOf (l1 ++ (a, o) :: l2) = refsOf (l1 ++ (a, o') :: l2) := by
  unfold refsOf
  rw [List.map_append, List.map_append, List.map_cons, List.map_cons]
theorem store_mid {n y y' : Str} {r1 r2 : List (Str × Str)} (h1 : ∀ r ∈ r1, r.1 ≠ n) (h2 : ∀ r ∈ r2, r.1 ≠ n) : (r1 ++ (n, y) :: r2).map (fun r => if r.1 = n then (n, y') else r) = r1 ++ (n, y') :: r2 := by
  have e : ∀ {r : List (Str × Str)}, (∀ q ∈ r, q.1 ≠ n) → r.map (fun r => if r.1 = n then (n, y') else r) = r := fun {r} h => by
    conv => rhs; rw [← List.map_id r]
    exact List.map_congr_left fun q hq => if_neg (h q hq)
  rw [List.map_append, List.map_cons, e h1, e h2, if_pos rfl]
end
section
theorem sp_at {i : Nat} (h : i < 3) : [spS 0, spS 1, spS 2].getD (Int.toNat (i : Int)) Str.empty = spS i := by
  have : i = 0 ∨ i = 1 ∨ i = 2 := three h
  rcases this with rfl | rfl | rfl <;> rfl
theorem sgL_len {c0 c1 c2 c3 c4 c5 i : Nat} (h : i < 3) : (⟨(sgL c0 c1 c2 c3 c4 c5 i).toArray⟩ : Str).length = 1 + 3 * i := by
  have : i = 0 ∨ i = 1 ∨ i = 2 := three h
  rcases this with rfl | rfl | rfl <;> rfl
theorem lo_at {i : Nat} (h : i < 3) : (Str.ofString "sst").cps[(i : Int).toNat]? = some (loC i) := by
  have : i = 0 ∨ i = 1 ∨ i = 2 := three h
  rcases this with rfl | rfl | rfl <;> decide +kernel
theorem up_at {i : Nat} (h : i < 3) : (Str.ofString "SST").cps[(i : Int).toNat]? = some (upC i) := by
  have : i = 0 ∨ i = 1 ∨ i = 2 := three h
  rcases this with rfl | rfl | rfl <;> decide +kernel
theorem signs_c (w : World) (mean : ExcName → Option Value) (mg mb : Str → Option Value) (c0 c1 c2 c3 c4 c5 : Nat) (t : CbTok) (news : CbLed) :
   Claim w mean mg mb 298 news (48 ≤ c0 ∧ c0 < 50 ∧ 48 ≤ c1 ∧ c1 < 56 ∧ 48 ≤ c2 ∧ c2 < 56 ∧ 48 ≤ c3 ∧ c3 < 56 ∧ 48 ≤ c4 ∧ c4 < 56 ∧ 48 ≤ c5 ∧ c5 < 56) [.str ⟨#[c0, c1, c2, c3, c4, c5]⟩ t] (fun t => .str (sgF c0 c1 c2 c3 c4 c5) t) := by
  have st9 := Stop.mk "subscriptTail"
  dsimp only [Claim, CbClaim, CbLists, CbRet]
  k_fill
  intros
  rename_i hpre _ _ hret
  (refine wpAny_call ?_; refine' enterP ?k1 ?k2 ?k3 ?k4 ?k5 ?kA ?kF ?kK ?k6 ?k7 ?k8 ?k9 ?kB ?_ ?c2 ?c3 ?c4 ?c5; (case kA | kF => exact rfl); (case kK => assumption); (case k1 | k2 => k_asm); (case k3 | k4 | k5 => k_asm); (case k6 | k7 => k_is); (case k8 => ktr_room); (case k9 => exact BindsTo.of_eq rfl); (case c5 => decide); (case kB => exact locs rfl); (case c2 | c3 | c4 => exact rfl); k_whole; intro g' L' h' FG' F' N' B' X' T' hLow; have l1 := hLow.all; (repeat (replace hLow := low_tail hLow)); (try k_lt l1); (try dsimp only); (try k_lift B'); (try k_fold))
  repeat' (first | (k_unfold; try dsimp only) | (k_end; kc_close) | (walk1; all_goals ((try k_fold); (try dsimp only); try with_reducible refine wpAny_tk fun _ => ?_)) | (dsimp only; walk1) | (leave1; try dsimp only))
  refine Halt.in ?_
  rw [slice2]
  refine' call_get2_strTab (D := sgD) (dd := .str (Str.ofString "?")) ?k1 ?k2 ?k3
  case k1 => k_tabat
  case k2 => exact PyProof.V.Flat.str _ _
  intro v9 hv9
  replace hv9 := (congrArg (PyProof.V.Flat v9) (sg_look c0 c1 (by omega) (by omega) (by omega) (by omega))).mp hv9
  dict_open hv9
  repeat' (first | (k_unfold; try dsimp only) | (k_end; kc_close) | (walk1; all_goals ((try k_fold); (try dsimp only); try with_reducible refine wpAny_tk fun _ => ?_)) | (dsimp only; walk1) | (leave1; try dsimp only))
  refine Halt.in ?_
  refine forK (by k_asm) (by rfl) (by rfl) (by rfl) ?_
  repeat' (first | (k_unfold; try dsimp only) | (k_end; kc_close) | (walk1; all_goals ((try k_fold); (try dsimp only); try with_reducible refine wpAny_tk fun _ => ?_)) | (dsimp only; walk1) | (leave1; try dsimp only))
  refine forSrc_range (n := 3) (fun i m nw => nw = news ∧ (∃ t', m (Str.ofString "signs") = some (.str ⟨(sgL c0 c1 c2 c3 c4 c5 i).toArray⟩ t')) ∧ m (Str.ofString "figures") = some (.str ⟨#[c0, c1, c2, c3, c4, c5]⟩ t)) (by rfl) (by k_asm) (PySem.W.KStt.news_of (by k_asm) fun p hp => ?_) (by assumption) (by rfl) (by rfl) ⟨rfl, ⟨_, rfl⟩, rfl⟩ ?_ ?_
  · repeat (first | exact hp | refine List.mem_cons_of_mem _ ?_)
  · rintro I i ti oI m₁ nw h tk hi ⟨rfl, ⟨ts, e1⟩, e2⟩ F₁ N₁ off
    replace F₁ := fr_eq F₁ (m' := fun y => if y = Str.ofString "place" then some (.int ((i : Nat) : Int) ti) else if y = Str.ofString "signs" then some (.str ⟨(sgL c0 c1 c2 c3 c4 c5 i).toArray⟩ ts) else if y = Str.ofString "figures" then some (.str ⟨#[c0, c1, c2, c3, c4, c5]⟩ t) else m₁ y) (fun y => by
      by_cases q : y = Str.ofString "place"
      · simp only [if_pos q, Int.zero_add]
      · simp only [if_neg q]
        by_cases q1 : y = Str.ofString "signs"
        · rw [if_pos q1, q1, e1]
        · rw [if_neg q1]
          by_cases q2 : y = Str.ofString "figures"
          · rw [if_pos q2, q2, e2]
          · rw [if_neg q2])
    obtain ⟨cx, hcx, hx1, hx2⟩ : ∃ cx, (#[c0, c1, c2, c3, c4, c5] : Array Nat)[i + 3]? = some cx ∧ 48 ≤ cx ∧ cx < 56 := by
      have : i = 0 ∨ i = 1 ∨ i = 2 := three hi
      rcases this with rfl | rfl | rfl
      · exact ⟨c3, rfl, by omega, by omega⟩
      · exact ⟨c4, rfl, by omega, by omega⟩
      · exact ⟨c5, rfl, by omega, by omega⟩
    have hsl : sgL c0 c1 c2 c3 c4 c5 (i + 1) = sgL c0 c1 c2 c3 c4 c5 i ++ thrF i cx c2 := by
      have : i = 0 ∨ i = 1 ∨ i = 2 := three hi
      rcases this with rfl | rfl | rfl <;> (cases hcx; rfl)
    repeat' (first | (k_unfold; try dsimp only) | (k_end; kc_close) | (walk1; all_goals ((try k_fold); (try dsimp only); try with_reducible refine wpAny_tk fun _ => ?_)) | (dsimp only; walk1) | (leave1; try dsimp only))
    refine Halt.in ?_
    refine item_at cx (by omega) (by omega) (Nat.le_of_ble_eq_true rfl) (by rw [show ((i : Int) + 3).toNat = i + 3 by omega]; exact hcx) ?_
    repeat' (first | (k_unfold; try dsimp only) | (k_end; kc_close) | (walk1; all_goals ((try k_fold); (try dsimp only); try with_reducible refine wpAny_tk fun _ => ?_)) | (dsimp only; walk1) | (leave1; try dsimp only))
    refine Halt.in ?_
    refine dict_at (by k_tabat) (th_look cx hx1 hx2) ?_
    intro t8
    repeat' (first | (k_unfold; try dsimp only) | (k_end; kc_close) | (walk1; all_goals ((try k_fold); (try dsimp only); try with_reducible refine wpAny_tk fun _ => ?_)) | (dsimp only; walk1) | (leave1; try dsimp only))
    refine Halt.in ?_
    refine KTb.item_tup (ws := [spS 0, spS 1, spS 2]) (News.isTup (by k_asm) (by k_mem)) (.cons _ _ (.cons _ _ (.cons _ _ .nil))) (by omega) (by simp only [List.length_cons, List.length_nil]; omega) (by omega) ?_ (by with_unfolding_all rfl)
    intro t7 _
    rw [show [spS 0, spS 1, spS 2].getD (Int.toNat (i : Int)) Str.empty = spS i from sp_at hi]
    k_unfold
    try dsimp only
    rw [item6_2]
    refine in_sp i c2 hi (by omega) (by omega) ?_
    have hlA : (⟨#[rC cx, wC cx, xC cx]⟩ : Str).length = 3 := rfl
    have hlB : (⟨(sgL c0 c1 c2 c3 c4 c5 i).toArray⟩ : Str).length = 1 + 3 * i := sgL_len hi
    have hlC : (⟨#[rC cx, wC cx]⟩ : Str).length = 2 := rfl
    have hlD : (⟨#[loC i]⟩ : Str).length = 1 := rfl
    have hlE : (⟨#[upC i]⟩ : Str).length = 1 := rfl
    repeat' (first | (k_unfold; try dsimp only) | (k_end; kc_close) | (walk1; all_goals ((try k_fold); (try dsimp only); try with_reducible refine wpAny_tk fun _ => ?_)) | (dsimp only; walk1) | (leave1; try dsimp only))
    · refine Halt.in ?_
      refine item_at (loC i) (by omega) (by omega) (Nat.le_of_ble_eq_true rfl) (lo_at hi) ?_
      k_unfold
      try dsimp only
      rw [slice2of3]
      repeat' (first | (k_unfold; try dsimp only) | (k_end; kc_close) | (walk1; all_goals ((try k_fold); (try dsimp only); try with_reducible refine wpAny_tk fun _ => ?_)) | (dsimp only; walk1) | (leave1; try dsimp only))
      rename Fr _ _ _ _ => kF
      rename News _ _ _ _ => kN
      refine ⟨_, _, _, nw, rfl, kF, PySem.W.KStt.news_of kN (fun p hp => ?_), off, rfl, ⟨_, some_str ?_⟩, rfl⟩
      · rcases List.mem_cons.mp hp with rfl | hp
        · k_mem
        · repeat (first | exact hp | refine List.mem_cons_of_mem _ ?_)
      · rw [sg_step, hsl, thr_lo (by assumption) (by rw [← item3_2 (rC cx) (wC cx)]; assumption)]
    · refine Halt.in ?_
      refine item_at (upC i) (by omega) (by omega) (Nat.le_of_ble_eq_true rfl) (up_at hi) ?_
      k_unfold
      try dsimp only
      rw [slice2of3]
      repeat' (first | (k_unfold; try dsimp only) | (k_end; kc_close) | (walk1; all_goals ((try k_fold); (try dsimp only); try with_reducible refine wpAny_tk fun _ => ?_)) | (dsimp only; walk1) | (leave1; try dsimp only))
      rename Fr _ _ _ _ => kF
      rename News _ _ _ _ => kN
      refine ⟨_, _, _, nw, rfl, kF, PySem.W.KStt.news_of kN (fun p hp => ?_), off, rfl, ⟨_, some_str ?_⟩, rfl⟩
      · rcases List.mem_cons.mp hp with rfl | hp
        · k_mem
        · repeat (first | exact hp | refine List.mem_cons_of_mem _ ?_)
      · rw [sg_step, hsl, thr_up (by assumption) (by rw [← item3_2 (rC cx) (wC cx)]; assumption)]
    · rename Fr _ _ _ _ => kF
      rename News _ _ _ _ => kN
      refine ⟨_, _, _, nw, rfl, kF, PySem.W.KStt.news_of kN (fun p hp => ?_), off, rfl, ⟨_, some_str ?_⟩, rfl⟩
      · rcases List.mem_cons.mp hp with rfl | hp
        · k_mem
        · repeat (first | exact hp | refine List.mem_cons_of_mem _ ?_)
      · rw [sg_step', hsl, thr_no (by assumption)]
  · rintro m₁ nw h tk ⟨rfl, ⟨ts, e1⟩, e2⟩ F₁ N₁
    replace F₁ := fr_eq F₁ (m' := fun y => if y = Str.ofString "signs" then some (.str ⟨(sgL c0 c1 c2 c3 c4 c5 3).toArray⟩ ts) else m₁ y) (fun y => by
      by_cases q1 : y = Str.ofString "signs"
      · rw [if_pos q1, q1, e1]
      · rw [if_neg q1])
    repeat' (first | (k_unfold; try dsimp only) | (k_end; kc_close) | (walk1; all_goals ((try k_fold); (try dsimp only); try with_reducible refine wpAny_tk fun _ => ?_)) | (dsimp only; walk1) | (leave1; try dsimp only))
    exact hret _ _ _ (by k_asm) (by k_asm)
end
section
theorem due_freeze (w : World) (mean : ExcName → Option Value) (mg mb : Str → Option Value) (rw tA mc kr e1 D : Nat) (rl : CbLed) (tv : List Value) (oc : Obj) (σ : DS) (n fg : Str) (tn td tf : Tok) (rest : CbLed)
   (dp un : Nat) (gd : Option (List Code)) (outer : List Env) (A₀ : Around) (base g : Heap) (L : Addr) (m : Str → Option Value) (s : Shared) (Q : Flow → Shared → Prop) (E : Value → Shared → Prop)
   (B : Below A₀ base outer g) (F : Fr g L s.heap m) (X : (hd.heap_39 w.params).In g) (N : News g L s.heap ((D, LCg.lst (hits n rl σ.rs)) :: dueLed rw tA kr rl tv e1 rest)) (T : Top topProg looseL mean mg mb g)
   (hD : ∀ p ∈ dueLed rw tA kr rl tv e1 rest, @Ne Nat p.1 D) (O : DOk rw tA rl rest) (hmc : (mc, oc) ∈ rest) (hoc : oc.data = .cell (some (.str n tn))) (Rl : RowsL rl σ.rs) (Nd : (σ.rs.map (·.1)).Nodup) (Tl : ToldAre tv σ.told) (hz : σ.rs.length ≤ 100) (htz : σ.told.length ≤ 100) (hS : ∀ r ∈ σ.rs, sOk r.1 = true ∧ sOk r.2 = true)
   (m1 : m "deed" = some (.str (Str.ofString "freeze") td)) (m2 : m "figures" = some (.str fg tf)) (m3 : m "here" = some (.ref D)) (M : FrD σ rw tA m)
   (hdp : dp + 8 < recursionLimit) (hu : un + 90 < cLine)
   (hret : DueEnd g L s tA rest (σ.freeze) Q) :
   wpAny (model Challenge.rw_in0190_01.row.prog w) (ktrTop dp un gd (Str.ofString "_law_due") (dueScope (hd.heap_39 w.params)) L 308 (.ref 307) [(Str.ofString "name", mc)] outer) (execs (dueIf (hd.heap_39 w.params)) (envX (Str.ofString "_law_due") (dueScope (hd.heap_39 w.params)) L 308 (.ref 307) [(Str.ofString "name", mc)])) Q E s := by
  have ei : dueIf (hd.heap_39 w.params) = [_] := rfl
  rw [ei]
  have es0 : dueScope (hd.heap_39 w.params) = _ := rfl
  rw [es0]
  clear ei es0
  obtain ⟨⟨ts, m4⟩, m5, m6, m7⟩ := M
  replace F := fr_seven F m1 m2 m3 m4 m5 m6 m7
  have X0 := X
  have O0 := O
  obtain ⟨oRT, oR, oT, oL, oX⟩ := O
  revert X; k_fill; intro X
  repeat' (first | (k_unfold; try dsimp only) | (k_end; kc_close) | (walk1; all_goals ((try k_fold); (try dsimp only); try with_reducible refine wpAny_tk fun _ => ?_)) | (dsimp only; walk1) | (leave1; try dsimp only))
  rename News _ _ _ _ => NA
  rename Fr g L _ _ => FA
  refine append_mine (pre := [_, _]) FA NA (fun p hp => ?_) (off_rl O0) (told_size Tl htz) fun h2 F2 N2 => ?_
  · simp only [List.mem_cons, List.not_mem_nil, or_false] at hp
    rcases hp with rfl | rfl
    · exact Ne.symm (hD _ (.tail _ (.head _)))
    · exact oRT
  repeat' (first | (k_unfold; try dsimp only) | (k_end; kc_close) | (walk1; all_goals ((try k_fold); (try dsimp only); try with_reducible refine wpAny_tk fun _ => ?_)) | (dsimp only; walk1) | (leave1; try dsimp only))
  exact hret rw kr (e1 + 1) rl (tv ++ [Value.none]) _ h2 _ Rl (told_snoc (v := .none) (o := none) (show ToldIs Value.none none from rfl) Tl) O0 ⟨⟨ts, rfl⟩, rfl, rfl, rfl⟩ F2 (PySem.W.KStt.news_of N2 fun p hp => List.mem_cons_of_mem _ hp)
end
section
theorem due_mask (w : World) (mean : ExcName → Option Value) (mg mb : Str → Option Value) (rw tA mc kr e1 D : Nat) (rl : CbLed) (tv : List Value) (oc : Obj) (σ : DS) (n fg : Str) (tn td tf : Tok) (rest : CbLed) (c0 c1 c2 c3 c4 c5 : Nat)
   (dp un : Nat) (gd : Option (List Code)) (outer : List Env) (A₀ : Around) (base g : Heap) (L : Addr) (m : Str → Option Value) (s : Shared) (Q : Flow → Shared → Prop) (E : Value → Shared → Prop)
   (B : Below A₀ base outer g) (F : Fr g L s.heap m) (X : (hd.heap_39 w.params).In g) (N : News g L s.heap ((D, LCg.lst (hits n rl σ.rs)) :: dueLed rw tA kr rl tv e1 rest)) (T : Top topProg looseL mean mg mb g)
   (hD : ∀ p ∈ dueLed rw tA kr rl tv e1 rest, @Ne Nat p.1 D) (O : DOk rw tA rl rest) (hmc : (mc, oc) ∈ rest) (hoc : oc.data = .cell (some (.str n tn))) (Rl : RowsL rl σ.rs) (Nd : (σ.rs.map (·.1)).Nodup) (Tl : ToldAre tv σ.told) (hz : σ.rs.length ≤ 100) (htz : σ.told.length ≤ 100) (hS : ∀ r ∈ σ.rs, sOk r.1 = true ∧ sOk r.2 = true)
   (m1 : m "deed" = some (.str (Str.ofString "mask") td)) (m2 : m "figures" = some (.str fg tf)) (m3 : m "here" = some (.ref D)) (M : FrD σ rw tA m) (hfg : fg = ⟨#[c0, c1, c2, c3, c4, c5]⟩) (hc : 48 ≤ c3 ∧ c3 < 56 ∧ 48 ≤ c4 ∧ c4 < 56 ∧ 48 ≤ c5 ∧ c5 < 56)
   (hdp : dp + 8 < recursionLimit) (hu : un + 90 < cLine)
   (hret : DueEnd g L s tA rest (σ.mask (shF c3 c4 c5)) Q) :
   wpAny (model Challenge.rw_in0190_01.row.prog w) (ktrTop dp un gd (Str.ofString "_law_due") (dueScope (hd.heap_39 w.params)) L 308 (.ref 307) [(Str.ofString "name", mc)] outer) (execs (dueIf (hd.heap_39 w.params)) (envX (Str.ofString "_law_due") (dueScope (hd.heap_39 w.params)) L 308 (.ref 307) [(Str.ofString "name", mc)])) Q E s := by
  have ei : dueIf (hd.heap_39 w.params) = [_] := rfl
  rw [ei]
  have es0 : dueScope (hd.heap_39 w.params) = _ := rfl
  rw [es0]
  clear ei es0
  obtain ⟨⟨ts, m4⟩, m5, m6, m7⟩ := M
  replace F := fr_seven F m1 m2 m3 m4 m5 m6 m7
  have X0 := X
  have O0 := O
  obtain ⟨oRT, oR, oT, oL, oX⟩ := O
  subst hfg
  revert X; k_fill; intro X
  repeat' (first | (k_unfold; try dsimp only) | (k_end; kc_close) | (walk1; all_goals ((try k_fold); (try dsimp only); try with_reducible refine wpAny_tk fun _ => ?_)) | (dsimp only; walk1) | (leave1; try dsimp only))
  refine shown_c w mean mg mb c0 c1 c2 c3 c4 c5 tf _ dp _ gd _ _ _ _ _ _ A₀ base g L _ _ _ _ B F X0 N T rfl hc (by first | exact room_of hdp rfl | exact room_of (c := 5) hdp rfl | omega) (by first | exact room_of hu rfl | exact room_of (c := 27) hu rfl | omega) fun t3 h3 tk3 F3 N3 => ?_
  repeat' (first | (k_unfold; try dsimp only) | (k_end; kc_close) | (walk1; all_goals ((try k_fold); (try dsimp only); try with_reducible refine wpAny_tk fun _ => ?_)) | (dsimp only; walk1) | (leave1; try dsimp only))
  rename News _ _ _ _ => NA
  rename Fr g L _ _ => FA
  exact hret rw kr e1 rl tv _ _ _ Rl Tl O0 ⟨⟨t3, rfl⟩, rfl, rfl, rfl⟩ FA (PySem.W.KStt.news_of NA fun p hp => List.mem_cons_of_mem _ hp)
end
section
theorem due_ask_no (w : World) (mean : ExcName → Option Value) (mg mb : Str → Option Value) (rw tA mc kr e1 D : Nat) (rl : CbLed) (tv : List Value) (oc : Obj) (σ : DS) (n fg : Str) (tn td tf : Tok) (rest : CbLed)
   (dp un : Nat) (gd : Option (List Code)) (outer : List Env) (A₀ : Around) (base g : Heap) (L : Addr) (m : Str → Option Value) (s : Shared) (Q : Flow → Shared → Prop) (E : Value → Shared → Prop)
   (B : Below A₀ base outer g) (F : Fr g L s.heap m) (X : (hd.heap_39 w.params).In g) (N : News g L s.heap ((D, LCg.lst (hits n rl σ.rs)) :: dueLed rw tA kr rl tv e1 rest)) (T : Top topProg looseL mean mg mb g)
   (hD : ∀ p ∈ dueLed rw tA kr rl tv e1 rest, @Ne Nat p.1 D) (O : DOk rw tA rl rest) (hmc : (mc, oc) ∈ rest) (hoc : oc.data = .cell (some (.str n tn))) (Rl : RowsL rl σ.rs) (Nd : (σ.rs.map (·.1)).Nodup) (Tl : ToldAre tv σ.told) (hz : σ.rs.length ≤ 100) (htz : σ.told.length ≤ 100) (hS : ∀ r ∈ σ.rs, sOk r.1 = true ∧ sOk r.2 = true)
   (m1 : m "deed" = some (.str (Str.ofString "ask") td)) (m2 : m "figures" = some (.str fg tf)) (m3 : m "here" = some (.ref D)) (M : FrD σ rw tA m)
   (hh : hits n rl σ.rs = []) (hno : ∀ r ∈ σ.rs, r.1 ≠ n)
   (hdp : dp + 8 < recursionLimit) (hu : un + 90 < cLine)
   (hret : DueEnd g L s tA rest (σ.ask n) Q) :
   wpAny (model Challenge.rw_in0190_01.row.prog w) (ktrTop dp un gd (Str.ofString "_law_due") (dueScope (hd.heap_39 w.params)) L 308 (.ref 307) [(Str.ofString "name", mc)] outer) (execs (dueIf (hd.heap_39 w.params)) (envX (Str.ofString "_law_due") (dueScope (hd.heap_39 w.params)) L 308 (.ref 307) [(Str.ofString "name", mc)])) Q E s := by
  have ei : dueIf (hd.heap_39 w.params) = [_] := rfl
  rw [ei]
  have es0 : dueScope (hd.heap_39 w.params) = _ := rfl
  rw [es0]
  clear ei es0
  obtain ⟨⟨ts, m4⟩, m5, m6, m7⟩ := M
  replace F := fr_seven F m1 m2 m3 m4 m5 m6 m7
  have X0 := X
  have O0 := O
  obtain ⟨oRT, oR, oT, oL, oX⟩ := O
  revert X; k_fill; intro X
  rw [hh] at N
  replace N : News g L s.heap ((D, LCg.lst []) :: (mc, oc) :: dueLed rw tA kr rl tv e1 rest) := PySem.W.KStt.news_of N fun p hp => by
    first | (revert p; (repeat (first | exact sub_nil | (refine sub_cons ?_ ?_; (· repeat (first | assumption | exact List.Mem.head _ | refine List.Mem.tail _ ?_))) | refine sub_app ?_ ?_ | (intro p hp; (repeat (first | exact hp | exact List.mem_append_left _ hp | exact List.mem_append_right _ hp | refine List.Mem.tail _ ?_))))); done) | (simp only [dueLed, List.mem_cons, List.mem_append] at hp ⊢; rcases hp with h | h | h | h | h | h <;> first | ((repeat (first | exact h | exact h ▸ hmc | exact Or.inl h | refine Or.inr ?_)); done) | simp only [h, hmc, true_or, or_true])
  repeat' (first | (k_unfold; try dsimp only) | (k_end; kc_close) | (walk1; all_goals ((try k_fold); (try dsimp only); try with_reducible refine wpAny_tk fun _ => ?_)) | (dsimp only; walk1) | (leave1; try dsimp only))
  refine Halt.in ?_
  refine ne_nil (by assumption) (.tail _ (.head _)) (.head _) (by show un + 64 < cLine; omega) ?_
  repeat' (first | (k_unfold; try dsimp only) | (k_end; kc_close) | (walk1; all_goals ((try k_fold); (try dsimp only); try with_reducible refine wpAny_tk fun _ => ?_)) | (dsimp only; walk1) | (leave1; try dsimp only))
  rename News _ _ _ _ => NA
  rename Fr g L _ _ => FA
  have hlk := lookup_none hno
  refine append_mine (pre := [_, _, _, _]) FA NA (fun p hp => ?_) (off_rl O0) (told_size Tl htz) fun h2 F2 N2 => ?_
  · simp only [List.mem_cons, List.not_mem_nil, or_false] at hp
    rcases hp with rfl | rfl | rfl | rfl
    · exact (show @Ne Nat _ _ by omega)
    · exact Ne.symm (hD _ (.tail _ (.head _)))
    · exact oT _ hmc
    · exact oRT
  clear NA FA
  simp only [List.cons_append, List.nil_append] at N2
  repeat' (first | (k_unfold; try dsimp only) | (k_end; kc_close) | (walk1; all_goals ((try k_fold); (try dsimp only); try with_reducible refine wpAny_tk fun _ => ?_)) | (dsimp only; walk1) | (leave1; try dsimp only))
  refine Halt.in ?_
  rename News _ _ _ _ => NA
  refine eq_nil NA (.tail _ (.tail _ (.head _))) (.head _) (by show un + 64 < cLine; omega) ?_
  repeat' (first | (k_unfold; try dsimp only) | (k_end; kc_close) | (walk1; all_goals ((try k_fold); (try dsimp only); try with_reducible refine wpAny_tk fun _ => ?_)) | (dsimp only; walk1) | (leave1; try dsimp only))
  · rename σ.grows = true => hgr
    have ea : σ.ask n = { σ with told := σ.told ++ [some σ.shown], rs := σ.rs ++ [(n, σ.shown)] } := by simp only [DS.ask, hlk, hgr, if_true]
    rw [ea] at hret
    rename News _ _ _ _ => NA
    rename Fr g L _ _ => FA
    rename @LT.lt Nat _ _ _ ∧ _ => lA
    refine append_mine (pre := [_, _, _, _, _]) FA NA (fun p hp => ?_) (fun p hp => ?_) (by rw [List.length_map, Rl.len, sizeLine_eq]; omega) fun h3 F3 N3 => ?_
    · simp only [List.mem_cons, List.not_mem_nil, or_false] at hp
      rcases hp with rfl | rfl | rfl | rfl | rfl
      · exact (show @Ne Nat _ _ by omega)
      · exact (show @Ne Nat _ _ by omega)
      · exact (show @Ne Nat _ _ by omega)
      · exact Ne.symm (hD _ (.head _))
      · exact oR _ hmc
    · rcases List.mem_cons.mp hp with rfl | hp
      · exact Ne.symm oRT
      · exact off_rw O0 p hp
    clear NA FA
    repeat' (first | (k_unfold; try dsimp only) | (k_end; kc_close) | (walk1; all_goals ((try k_fold); (try dsimp only); try with_reducible refine wpAny_tk fun _ => ?_)) | (dsimp only; walk1) | (leave1; try dsimp only))
    rw [← refs_snoc (o := rowO n σ.shown 0 tn ts)] at N3
    refine hret rw (kr + 1) (e1 + 1) _ (tv ++ [Value.str σ.shown ts]) _ _ _ (RowsL_snoc (k := 0) (t := tn) (t' := ts) Rl) (told_snoc (v := .str σ.shown ts) (o := some σ.shown) ⟨ts, rfl⟩ Tl) (O0.snoc (by first | exact room_of hdp rfl | exact room_of (c := 5) hdp rfl | omega) (by first | exact room_of hu rfl | exact room_of (c := 27) hu rfl | omega) lA.2.2.2.2.2.2) ⟨⟨ts, rfl⟩, rfl, rfl, rfl⟩ F3 (PySem.W.KStt.news_of N3 fun p hp => ?_)
    first | (revert p; (repeat (first | exact sub_nil | (refine sub_cons ?_ ?_; (· repeat (first | assumption | exact List.Mem.head _ | refine List.Mem.tail _ ?_))) | refine sub_app ?_ ?_ | (intro p hp; (repeat (first | exact hp | exact List.mem_append_left _ hp | exact List.mem_append_right _ hp | refine List.Mem.tail _ ?_))))); done) | (simp only [dueLed, List.mem_cons, List.mem_append, List.not_mem_nil, or_false] at hp ⊢; rcases hp with h | h | (h | h) | h <;> first | ((repeat (first | exact h | exact Or.inl h | refine Or.inr ?_)); done) | simp only [h, true_or, or_true])
  · rename σ.grows = false => hgr
    have ea : σ.ask n = { σ with told := σ.told ++ [some σ.shown] } := by simp only [DS.ask, hlk, hgr, Bool.false_eq_true, if_false]
    rw [ea] at hret
    rename News _ _ _ _ => NB
    rename Fr g L _ _ => FB
    refine hret rw kr (e1 + 1) rl (tv ++ [Value.str σ.shown ts]) _ _ _ Rl (told_snoc (v := .str σ.shown ts) (o := some σ.shown) ⟨ts, rfl⟩ Tl) O0 ⟨⟨ts, rfl⟩, rfl, rfl, rfl⟩ FB (PySem.W.KStt.news_of NB fun p hp => ?_)
    first | (revert p; (repeat (first | exact sub_nil | (refine sub_cons ?_ ?_; (· repeat (first | assumption | exact List.Mem.head _ | refine List.Mem.tail _ ?_))) | refine sub_app ?_ ?_ | (intro p hp; (repeat (first | exact hp | exact List.mem_append_left _ hp | exact List.mem_append_right _ hp | refine List.Mem.tail _ ?_))))); done) | (simp only [dueLed, List.mem_cons, List.mem_append] at hp ⊢; rcases hp with h | h | h | h <;> first | ((repeat (first | exact h | exact Or.inl h | refine Or.inr ?_)); done) | simp only [h, true_or, or_true])
end
section
theorem due_ask_hit (w : World) (mean : ExcName → Option Value) (mg mb : Str → Option Value) (rw tA mc kr e1 D : Nat) (rl : CbLed) (tv : List Value) (oc : Obj) (σ : DS) (n fg : Str) (tn td tf : Tok) (rest : CbLed)
   (dp un : Nat) (gd : Option (List Code)) (outer : List Env) (A₀ : Around) (base g : Heap) (L : Addr) (m : Str → Option Value) (s : Shared) (Q : Flow → Shared → Prop) (E : Value → Shared → Prop)
   (B : Below A₀ base outer g) (F : Fr g L s.heap m) (X : (hd.heap_39 w.params).In g) (N : News g L s.heap ((D, LCg.lst (hits n rl σ.rs)) :: dueLed rw tA kr rl tv e1 rest)) (T : Top topProg looseL mean mg mb g)
   (hD : ∀ p ∈ dueLed rw tA kr rl tv e1 rest, @Ne Nat p.1 D) (O : DOk rw tA rl rest) (hmc : (mc, oc) ∈ rest) (hoc : oc.data = .cell (some (.str n tn))) (Rl : RowsL rl σ.rs) (Nd : (σ.rs.map (·.1)).Nodup) (Tl : ToldAre tv σ.told) (hz : σ.rs.length ≤ 100) (htz : σ.told.length ≤ 100) (hS : ∀ r ∈ σ.rs, sOk r.1 = true ∧ sOk r.2 = true)
   (m1 : m "deed" = some (.str (Str.ofString "ask") td)) (m2 : m "figures" = some (.str fg tf)) (m3 : m "here" = some (.ref D)) (M : FrD σ rw tA m)
   (a k : Nat) (y : Str) (t t' : Tok) (hh : hits n rl σ.rs = [.ref a]) (ha : (a, rowO n y k t t') ∈ rl) (hno : σ.rs.lookup n = some y) (hok : sOk n = true ∧ sOk y = true)
   (hdp : dp + 8 < recursionLimit) (hu : un + 90 < cLine)
   (hret : DueEnd g L s tA rest (σ.ask n) Q) :
   wpAny (model Challenge.rw_in0190_01.row.prog w) (ktrTop dp un gd (Str.ofString "_law_due") (dueScope (hd.heap_39 w.params)) L 308 (.ref 307) [(Str.ofString "name", mc)] outer) (execs (dueIf (hd.heap_39 w.params)) (envX (Str.ofString "_law_due") (dueScope (hd.heap_39 w.params)) L 308 (.ref 307) [(Str.ofString "name", mc)])) Q E s := by
  have ei : dueIf (hd.heap_39 w.params) = [_] := rfl
  rw [ei]
  have es0 : dueScope (hd.heap_39 w.params) = _ := rfl
  rw [es0]
  clear ei es0
  obtain ⟨⟨ts, m4⟩, m5, m6, m7⟩ := M
  replace F := fr_seven F m1 m2 m3 m4 m5 m6 m7
  have X0 := X
  have O0 := O
  obtain ⟨oRT, oR, oT, oL, oX⟩ := O
  revert X; k_fill; intro X
  rw [hh] at N
  replace N : News g L s.heap ((D, LCg.lst [.ref a]) :: (mc, oc) :: (a, rowO n y k t t') :: dueLed rw tA kr rl tv e1 rest) := PySem.W.KStt.news_of N fun p hp => by
    first | (revert p; (repeat (first | exact sub_nil | (refine sub_cons ?_ ?_; (· repeat (first | assumption | exact List.Mem.head _ | refine List.Mem.tail _ ?_))) | refine sub_app ?_ ?_ | (intro p hp; (repeat (first | exact hp | exact List.mem_append_left _ hp | exact List.mem_append_right _ hp | refine List.Mem.tail _ ?_))))); done) | (simp only [dueLed, List.mem_cons, List.mem_append] at hp ⊢; rcases hp with h | h | h | h | h | h | h <;> first | ((repeat (first | exact h | exact h ▸ ha | exact h ▸ hmc | exact Or.inl h | refine Or.inr ?_)); done) | simp only [h, ha, hmc, true_or, or_true])
  repeat' (first | (k_unfold; try dsimp only) | (k_end; kc_close) | (walk1; all_goals ((try k_fold); (try dsimp only); try with_reducible refine wpAny_tk fun _ => ?_)) | (dsimp only; walk1) | (leave1; try dsimp only))
  refine Halt.in ?_
  rename News _ _ _ _ => NA
  refine ne_hit NA (.tail _ (.head _)) (.tail _ (.tail _ (.tail _ (.head _)))) (.head _) hok.1 hok.2 (by show un + 64 < cLine; omega) ?_
  repeat' (first | (k_unfold; try dsimp only) | (k_end; kc_close) | (walk1; all_goals ((try k_fold); (try dsimp only); try with_reducible refine wpAny_tk fun _ => ?_)) | (dsimp only; walk1) | (leave1; try dsimp only))
  rename Fr g L _ _ => FA
  have haN : (a, rowO n y k t t') ∈ dueLed rw tA kr rl tv e1 rest := .tail _ (.tail _ (List.mem_append_left _ ha))
  refine append_mine (pre := [_, _, _, _, _]) FA NA (fun p hp => ?_) (off_rl O0) (told_size Tl htz) fun h2 F2 N2 => ?_
  · simp only [List.mem_cons, List.not_mem_nil, or_false] at hp
    rcases hp with rfl | rfl | rfl | rfl | rfl
    · exact (show @Ne Nat _ _ by omega)
    · exact Ne.symm (hD _ (.tail _ (.head _)))
    · exact oT _ hmc
    · exact (oL _ ha).2.1
    · exact oRT
  clear NA FA
  simp only [List.cons_append, List.nil_append] at N2
  repeat' (first | (k_unfold; try dsimp only) | (k_end; kc_close) | (walk1; all_goals ((try k_fold); (try dsimp only); try with_reducible refine wpAny_tk fun _ => ?_)) | (dsimp only; walk1) | (leave1; try dsimp only))
  refine Halt.in ?_
  rename News _ _ _ _ => NA
  refine eq_hit NA (.tail _ (.tail _ (.head _))) (.tail _ (.tail _ (.tail _ (.tail _ (.head _))))) (.head _) hok.1 hok.2 (by show un + 64 < cLine; omega) ?_
  repeat' (first | (k_unfold; try dsimp only) | (k_end; kc_close) | (walk1; all_goals ((try k_fold); (try dsimp only); try with_reducible refine wpAny_tk fun _ => ?_)) | (dsimp only; walk1) | (leave1; try dsimp only))
  have ea : σ.ask n = { σ with told := σ.told ++ [some y] } := by simp only [DS.ask, hno]
  rw [ea] at hret
  rename Fr g L _ _ => FB
  refine hret rw kr (e1 + 1) rl (tv ++ [Value.str y t']) _ _ _ Rl (told_snoc (v := .str y t') (o := some y) ⟨t', rfl⟩ Tl) O0 ⟨⟨ts, rfl⟩, rfl, rfl, rfl⟩ FB (PySem.W.KStt.news_of NA fun p hp => ?_)
  first | (revert p; (repeat (first | exact sub_nil | (refine sub_cons ?_ ?_; (· repeat (first | assumption | exact List.Mem.head _ | refine List.Mem.tail _ ?_))) | refine sub_app ?_ ?_ | (intro p hp; (repeat (first | exact hp | exact List.mem_append_left _ hp | exact List.mem_append_right _ hp | refine List.Mem.tail _ ?_))))); done) | (simp only [dueLed, List.mem_cons, List.mem_append] at hp ⊢; rcases hp with h | h | h | h <;> first | ((repeat (first | exact h | exact Or.inl h | refine Or.inr ?_)); done) | simp only [h, true_or, or_true])
end
section
theorem due_take_no (w : World) (mean : ExcName → Option Value) (mg mb : Str → Option Value) (rw tA mc kr e1 D : Nat) (rl : CbLed) (tv : List Value) (oc : Obj) (σ : DS) (n fg : Str) (tn td tf : Tok) (rest : CbLed)
   (dp un : Nat) (gd : Option (List Code)) (outer : List Env) (A₀ : Around) (base g : Heap) (L : Addr) (m : Str → Option Value) (s : Shared) (Q : Flow → Shared → Prop) (E : Value → Shared → Prop)
   (B : Below A₀ base outer g) (F : Fr g L s.heap m) (X : (hd.heap_39 w.params).In g) (N : News g L s.heap ((D, LCg.lst (hits n rl σ.rs)) :: dueLed rw tA kr rl tv e1 rest)) (T : Top topProg looseL mean mg mb g)
   (hD : ∀ p ∈ dueLed rw tA kr rl tv e1 rest, @Ne Nat p.1 D) (O : DOk rw tA rl rest) (hmc : (mc, oc) ∈ rest) (hoc : oc.data = .cell (some (.str n tn))) (Rl : RowsL rl σ.rs) (Nd : (σ.rs.map (·.1)).Nodup) (Tl : ToldAre tv σ.told) (hz : σ.rs.length ≤ 100) (htz : σ.told.length ≤ 100) (hS : ∀ r ∈ σ.rs, sOk r.1 = true ∧ sOk r.2 = true)
   (m1 : m "deed" = some (.str (Str.ofString "take") td)) (m2 : m "figures" = some (.str fg tf)) (m3 : m "here" = some (.ref D)) (M : FrD σ rw tA m)
   (hh : hits n rl σ.rs = []) (hno : ∀ r ∈ σ.rs, r.1 ≠ n)
   (hdp : dp + 8 < recursionLimit) (hu : un + 90 < cLine)
   (hret : DueEnd g L s tA rest (σ.take n) Q) :
   wpAny (model Challenge.rw_in0190_01.row.prog w) (ktrTop dp un gd (Str.ofString "_law_due") (dueScope (hd.heap_39 w.params)) L 308 (.ref 307) [(Str.ofString "name", mc)] outer) (execs (dueIf (hd.heap_39 w.params)) (envX (Str.ofString "_law_due") (dueScope (hd.heap_39 w.params)) L 308 (.ref 307) [(Str.ofString "name", mc)])) Q E s := by
  have ei : dueIf (hd.heap_39 w.params) = [_] := rfl
  rw [ei]
  have es0 : dueScope (hd.heap_39 w.params) = _ := rfl
  rw [es0]
  clear ei es0
  obtain ⟨⟨ts, m4⟩, m5, m6, m7⟩ := M
  replace F := fr_seven F m1 m2 m3 m4 m5 m6 m7
  have X0 := X
  have O0 := O
  obtain ⟨oRT, oR, oT, oL, oX⟩ := O
  revert X; k_fill; intro X
  rw [hh] at N
  replace N : News g L s.heap ((D, LCg.lst []) :: (mc, oc) :: dueLed rw tA kr rl tv e1 rest) := PySem.W.KStt.news_of N fun p hp => by
    first | (revert p; (repeat (first | exact sub_nil | (refine sub_cons ?_ ?_; (· repeat (first | assumption | exact List.Mem.head _ | refine List.Mem.tail _ ?_))) | refine sub_app ?_ ?_ | (intro p hp; (repeat (first | exact hp | exact List.mem_append_left _ hp | exact List.mem_append_right _ hp | refine List.Mem.tail _ ?_))))); done) | (simp only [dueLed, List.mem_cons, List.mem_append] at hp ⊢; rcases hp with h | h | h | h | h | h <;> first | ((repeat (first | exact h | exact h ▸ hmc | exact Or.inl h | refine Or.inr ?_)); done) | simp only [h, hmc, true_or, or_true])
  repeat' (first | (k_unfold; try dsimp only) | (k_end; kc_close) | (walk1; all_goals ((try k_fold); (try dsimp only); try with_reducible refine wpAny_tk fun _ => ?_)) | (dsimp only; walk1) | (leave1; try dsimp only))
  refine Halt.in ?_
  rename News _ _ _ _ => NA
  refine ne_nil NA (.tail _ (.head _)) (.head _) (by show un + 64 < cLine; omega) ?_
  repeat' (first | (k_unfold; try dsimp only) | (k_end; kc_close) | (walk1; all_goals ((try k_fold); (try dsimp only); try with_reducible refine wpAny_tk fun _ => ?_)) | (dsimp only; walk1) | (leave1; try dsimp only))
  rename Fr g L _ _ => FA
  refine append_mine (pre := [_, _, _, _]) FA NA (fun p hp => ?_) (off_rl O0) (told_size Tl htz) fun h2 F2 N2 => ?_
  · simp only [List.mem_cons, List.not_mem_nil, or_false] at hp
    rcases hp with rfl | rfl | rfl | rfl
    · exact (show @Ne Nat _ _ by omega)
    · exact Ne.symm (hD _ (.tail _ (.head _)))
    · exact oT _ hmc
    · exact oRT
  clear NA FA
  replace N2 : News g L h2 ((mc, oc) :: (rw, W.listOf (refsOf rl).toArray kr) :: (tA, W.listOf (tv ++ [Value.none]).toArray (e1 + 1)) :: (rl ++ rest)) := PySem.W.KStt.news_of N2 fun p hp => by
    first | (revert p; (repeat (first | exact sub_nil | (refine sub_cons ?_ ?_; (· repeat (first | assumption | exact List.Mem.head _ | refine List.Mem.tail _ ?_))) | refine sub_app ?_ ?_ | (intro p hp; (repeat (first | exact hp | exact List.mem_append_left _ hp | exact List.mem_append_right _ hp | refine List.Mem.tail _ ?_))))); done) | (simp only [List.cons_append, List.nil_append, List.mem_cons] at hp ⊢; rcases hp with h | h | h | h <;> first | ((repeat (first | exact h | exact Or.inl h | refine Or.inr ?_)); done) | simp only [h, true_or, or_true])
  repeat' (first | (k_unfold; try dsimp only) | (k_end; kc_close) | (walk1; all_goals ((try k_fold); (try dsimp only); try with_reducible refine wpAny_tk fun _ => ?_)) | (dsimp only; walk1) | (leave1; try dsimp only))
  refine Halt.in ?_
  refine LCt.Assign_ListComp_T (F₀ := by k_asm) (by rfl) (by with_unfolding_all rfl) (by with_unfolding_all rfl) (by decide) (by rfl) (by decide) (by rfl) (by rfl) (by rfl) ?_
  repeat' (first | (k_unfold; try dsimp only) | (k_end; kc_close) | (walk1; all_goals ((try k_fold); (try dsimp only); try with_reducible refine wpAny_tk fun _ => ?_)) | (dsimp only; walk1) | (leave1; try dsimp only))
  have hz' : (refsOf rl).toArray.size ≤ sizeLine := by
    rw [List.size_toArray, List.length_map, Rl.len, sizeLine_eq]
    omega
  refine LCt.CompSrcT.ledger (by rfl) (by k_asm) (by k_asm) (by k_mem) hz' ?_
  intro g'
  have hsz : (refsOf rl).toArray.size = rl.length := by rw [List.size_toArray, List.length_map]
  rw [hsz]
  refine restT_ind rl.length (fun i => refsOf (keepL n (rl.take i) (σ.rs.take i))) rfl ?_ ?_
  · intro D' h tk F' N' off'
    rw [List.take_length, Rl.len, List.take_length] at N'
    have off1 := off1_mem off'
    clear N2
    repeat' (first | (k_unfold; try dsimp only) | (k_end; kc_close) | (walk1; all_goals ((try k_fold); (try dsimp only); try with_reducible refine wpAny_tk fun _ => ?_)) | (dsimp only; walk1) | (leave1; try dsimp only))
    refine hret D' (refsOf (keepL n rl σ.rs)).length (e1 + 1) _ (tv ++ [Value.none]) _ _ _ (keepL_rows Rl) (told_snoc (v := Value.none) (o := σ.rs.lookup n) (show ToldIs Value.none (σ.rs.lookup n) from by rw [lookup_none hno]; rfl) Tl) (O0.keep (fun p hp => off1 p (.tail _ (.tail _ (.tail _ hp)))) (off1 _ (.tail _ (.tail _ (.head _))))) ⟨⟨ts, rfl⟩, rfl, rfl, rfl⟩ F' (PySem.W.KStt.news_of N' fun p hp => ?_)
    simp only [dueLed, List.mem_cons, List.mem_append] at hp ⊢
    rcases hp with h | h | h | h
    · simp only [h, true_or, or_true]
    · simp only [h, true_or, or_true]
    · simp only [keepL_sub.subset h, true_or, or_true]
    · simp only [h, true_or, or_true]
  · intro i j hi ih
    refine LCt.CompRestT.succ ?_
    intro v I oI C oC D m₂ h tk E' hv hC hx F' N' off' ne'
    have hp : rl[i]? = some rl[i] := List.getElem?_eq_getElem hi
    obtain ⟨r, k1, u, u', hri, ho⟩ := Rl.get hp
    have hv2 : v = .ref rl[i].1 := by
      rw [List.getElem?_toArray, List.getElem?_map, hp] at hv
      exact (Option.some.inj hv).symm
    have hmem : rl[i] ∈ rl := List.getElem_mem hi
    have hh := keepL_snoc (n := n) hp hri
    generalize rl[i] = p at *
    obtain ⟨b, o⟩ := p
    dsimp only at ho hv2
    subst ho hv2
    clear N2
    have NB := N'
    clear N'
    have N2 : News g L h ((I, oI) :: (C, oC) :: (D, LCg.lst (refsOf (keepL n (rl.take i) (σ.rs.take i)))) :: (b, rowO r.1 r.2 k1 u u') :: (mc, oc) :: (rw, W.listOf (refsOf rl).toArray kr) :: (tA, W.listOf (tv ++ [Value.none]).toArray (e1 + 1)) :: (rl ++ rest)) := PySem.W.KStt.news_of NB fun p hp => by
      first | (revert p; (repeat (first | exact sub_nil | (refine sub_cons ?_ ?_; (· repeat (first | assumption | exact List.Mem.head _ | refine List.Mem.tail _ ?_))) | refine sub_app ?_ ?_ | (intro p hp; (repeat (first | exact hp | exact List.mem_append_left _ hp | exact List.mem_append_right _ hp | refine List.Mem.tail _ ?_))))); done) | (simp only [List.mem_cons, List.mem_append] at hp ⊢; rcases hp with h | h | h | h | h | h | h | h | h <;> first | ((repeat (first | exact h | exact h ▸ hmem | exact Or.inl h | refine Or.inr ?_)); done) | simp only [h, hmem, true_or, or_true])
    have hS2 : LCg.SrcAt g rw (refsOf rl).toArray ((mc, oc) :: (rw, W.listOf (refsOf rl).toArray kr) :: (tA, W.listOf (tv ++ [Value.none]).toArray (e1 + 1)) :: (rl ++ rest)) := .inr ⟨_, .tail _ (.head _), rfl, _, rfl⟩
    repeat' (first | (k_unfold; try dsimp only) | (k_end; kc_close) | (walk1; all_goals ((try k_fold); (try dsimp only); try with_reducible refine wpAny_tk fun _ => ?_)) | (dsimp only; walk1) | (leave1; try dsimp only))
    · rename _ = true => hq
      rw [if_neg (fun q => by rw [bne_iff_ne] at hq; exact hq q)] at hh
      refine CompEnd_same F' NB off' hS2 ?_
      rw [← refs_snoc (o := rowO r.1 r.2 k1 u u'), ← hh]
      exact ih
    · rename _ = false => hq
      rw [if_pos (by rw [bne_eq_false_iff_eq] at hq; exact hq), List.append_nil] at hh
      refine CompEnd_same F' NB off' hS2 ?_
      rw [← hh]
      exact ih
end
section
theorem due_take_hit (w : World) (mean : ExcName → Option Value) (mg mb : Str → Option Value) (rw tA mc kr e1 D : Nat) (rl : CbLed) (tv : List Value) (oc : Obj) (σ : DS) (n fg : Str) (tn td tf : Tok) (rest : CbLed)
   (dp un : Nat) (gd : Option (List Code)) (outer : List Env) (A₀ : Around) (base g : Heap) (L : Addr) (m : Str → Option Value) (s : Shared) (Q : Flow → Shared → Prop) (E : Value → Shared → Prop)
   (B : Below A₀ base outer g) (F : Fr g L s.heap m) (X : (hd.heap_39 w.params).In g) (N : News g L s.heap ((D, LCg.lst (hits n rl σ.rs)) :: dueLed rw tA kr rl tv e1 rest)) (T : Top topProg looseL mean mg mb g)
   (hD : ∀ p ∈ dueLed rw tA kr rl tv e1 rest, @Ne Nat p.1 D) (O : DOk rw tA rl rest) (hmc : (mc, oc) ∈ rest) (hoc : oc.data = .cell (some (.str n tn))) (Rl : RowsL rl σ.rs) (Nd : (σ.rs.map (·.1)).Nodup) (Tl : ToldAre tv σ.told) (hz : σ.rs.length ≤ 100) (htz : σ.told.length ≤ 100) (hS : ∀ r ∈ σ.rs, sOk r.1 = true ∧ sOk r.2 = true)
   (m1 : m "deed" = some (.str (Str.ofString "take") td)) (m2 : m "figures" = some (.str fg tf)) (m3 : m "here" = some (.ref D)) (M : FrD σ rw tA m)
   (a k : Nat) (y : Str) (t t' : Tok) (hh : hits n rl σ.rs = [.ref a]) (ha : (a, rowO n y k t t') ∈ rl) (hno : σ.rs.lookup n = some y) (hok : sOk n = true ∧ sOk y = true)
   (hdp : dp + 8 < recursionLimit) (hu : un + 90 < cLine)
   (hret : DueEnd g L s tA rest (σ.take n) Q) :
   wpAny (model Challenge.rw_in0190_01.row.prog w) (ktrTop dp un gd (Str.ofString "_law_due") (dueScope (hd.heap_39 w.params)) L 308 (.ref 307) [(Str.ofString "name", mc)] outer) (execs (dueIf (hd.heap_39 w.params)) (envX (Str.ofString "_law_due") (dueScope (hd.heap_39 w.params)) L 308 (.ref 307) [(Str.ofString "name", mc)])) Q E s := by
  have ei : dueIf (hd.heap_39 w.params) = [_] := rfl
  rw [ei]
  have es0 : dueScope (hd.heap_39 w.params) = _ := rfl
  rw [es0]
  clear ei es0
  obtain ⟨⟨ts, m4⟩, m5, m6, m7⟩ := M
  replace F := fr_seven F m1 m2 m3 m4 m5 m6 m7
  have X0 := X
  have O0 := O
  obtain ⟨oRT, oR, oT, oL, oX⟩ := O
  revert X; k_fill; intro X
  rw [hh] at N
  replace N : News g L s.heap ((D, LCg.lst [.ref a]) :: (mc, oc) :: (a, rowO n y k t t') :: dueLed rw tA kr rl tv e1 rest) := PySem.W.KStt.news_of N fun p hp => by
    first | (revert p; (repeat (first | exact sub_nil | (refine sub_cons ?_ ?_; (· repeat (first | assumption | exact List.Mem.head _ | refine List.Mem.tail _ ?_))) | refine sub_app ?_ ?_ | (intro p hp; (repeat (first | exact hp | exact List.mem_append_left _ hp | exact List.mem_append_right _ hp | refine List.Mem.tail _ ?_))))); done) | (simp only [dueLed, List.mem_cons, List.mem_append] at hp ⊢; rcases hp with h | h | h | h | h | h | h <;> first | ((repeat (first | exact h | exact h ▸ ha | exact h ▸ hmc | exact Or.inl h | refine Or.inr ?_)); done) | simp only [h, ha, hmc, true_or, or_true])
  repeat' (first | (k_unfold; try dsimp only) | (k_end; kc_close) | (walk1; all_goals ((try k_fold); (try dsimp only); try with_reducible refine wpAny_tk fun _ => ?_)) | (dsimp only; walk1) | (leave1; try dsimp only))
  refine Halt.in ?_
  rename News _ _ _ _ => NA
  refine ne_hit NA (.tail _ (.head _)) (.tail _ (.tail _ (.tail _ (.head _)))) (.head _) hok.1 hok.2 (by show un + 64 < cLine; omega) ?_
  repeat' (first | (k_unfold; try dsimp only) | (k_end; kc_close) | (walk1; all_goals ((try k_fold); (try dsimp only); try with_reducible refine wpAny_tk fun _ => ?_)) | (dsimp only; walk1) | (leave1; try dsimp only))
  rename Fr g L _ _ => FA
  refine append_mine (pre := [_, _, _, _, _]) FA NA (fun p hp => ?_) (off_rl O0) (told_size Tl htz) fun h2 F2 N2 => ?_
  · simp only [List.mem_cons, List.not_mem_nil, or_false] at hp
    rcases hp with rfl | rfl | rfl | rfl | rfl
    · exact (show @Ne Nat _ _ by omega)
    · exact Ne.symm (hD _ (.tail _ (.head _)))
    · exact oT _ hmc
    · exact (oL _ ha).2.1
    · exact oRT
  clear NA FA
  replace N2 : News g L h2 ((mc, oc) :: (rw, W.listOf (refsOf rl).toArray kr) :: (tA, W.listOf (tv ++ [Value.str y t']).toArray (e1 + 1)) :: (rl ++ rest)) := PySem.W.KStt.news_of N2 fun p hp => by
    first | (revert p; (repeat (first | exact sub_nil | (refine sub_cons ?_ ?_; (· repeat (first | assumption | exact List.Mem.head _ | refine List.Mem.tail _ ?_))) | refine sub_app ?_ ?_ | (intro p hp; (repeat (first | exact hp | exact List.mem_append_left _ hp | exact List.mem_append_right _ hp | refine List.Mem.tail _ ?_))))); done) | (simp only [List.cons_append, List.nil_append, List.mem_cons] at hp ⊢; rcases hp with h | h | h | h <;> first | ((repeat (first | exact h | exact Or.inl h | refine Or.inr ?_)); done) | simp only [h, true_or, or_true])
  repeat' (first | (k_unfold; try dsimp only) | (k_end; kc_close) | (walk1; all_goals ((try k_fold); (try dsimp only); try with_reducible refine wpAny_tk fun _ => ?_)) | (dsimp only; walk1) | (leave1; try dsimp only))
  refine Halt.in ?_
  refine LCt.Assign_ListComp_T (F₀ := by k_asm) (by rfl) (by with_unfolding_all rfl) (by with_unfolding_all rfl) (by decide) (by rfl) (by decide) (by rfl) (by rfl) (by rfl) ?_
  repeat' (first | (k_unfold; try dsimp only) | (k_end; kc_close) | (walk1; all_goals ((try k_fold); (try dsimp only); try with_reducible refine wpAny_tk fun _ => ?_)) | (dsimp only; walk1) | (leave1; try dsimp only))
  have hz' : (refsOf rl).toArray.size ≤ sizeLine := by
    rw [List.size_toArray, List.length_map, Rl.len, sizeLine_eq]
    omega
  refine LCt.CompSrcT.ledger (by rfl) (by k_asm) (by k_asm) (by k_mem) hz' ?_
  intro g'
  have hsz : (refsOf rl).toArray.size = rl.length := by rw [List.size_toArray, List.length_map]
  rw [hsz]
  refine restT_ind rl.length (fun i => refsOf (keepL n (rl.take i) (σ.rs.take i))) rfl ?_ ?_
  · intro D' h tk F' N' off'
    rw [List.take_length, Rl.len, List.take_length] at N'
    have off1 := off1_mem off'
    clear N2
    repeat' (first | (k_unfold; try dsimp only) | (k_end; kc_close) | (walk1; all_goals ((try k_fold); (try dsimp only); try with_reducible refine wpAny_tk fun _ => ?_)) | (dsimp only; walk1) | (leave1; try dsimp only))
    refine hret D' (refsOf (keepL n rl σ.rs)).length (e1 + 1) _ (tv ++ [Value.str y t']) _ _ _ (keepL_rows Rl) (told_snoc (v := Value.str y t') (o := σ.rs.lookup n) (show ToldIs (Value.str y t') (σ.rs.lookup n) from by rw [hno]; exact ⟨t', rfl⟩) Tl) (O0.keep (fun p hp => off1 p (.tail _ (.tail _ (.tail _ hp)))) (off1 _ (.tail _ (.tail _ (.head _))))) ⟨⟨ts, rfl⟩, rfl, rfl, rfl⟩ F' (PySem.W.KStt.news_of N' fun p hp => ?_)
    simp only [dueLed, List.mem_cons, List.mem_append] at hp ⊢
    rcases hp with h | h | h | h
    · simp only [h, true_or, or_true]
    · simp only [h, true_or, or_true]
    · simp only [keepL_sub.subset h, true_or, or_true]
    · simp only [h, true_or, or_true]
  · intro i j hi ih
    refine LCt.CompRestT.succ ?_
    intro v I oI C oC D m₂ h tk E' hv hC hx F' N' off' ne'
    have hp : rl[i]? = some rl[i] := List.getElem?_eq_getElem hi
    obtain ⟨r, k1, u, u', hri, ho⟩ := Rl.get hp
    have hv2 : v = .ref rl[i].1 := by
      rw [List.getElem?_toArray, List.getElem?_map, hp] at hv
      exact (Option.some.inj hv).symm
    have hmem : rl[i] ∈ rl := List.getElem_mem hi
    have hh := keepL_snoc (n := n) hp hri
    generalize rl[i] = p at *
    obtain ⟨b, o⟩ := p
    dsimp only at ho hv2
    subst ho hv2
    clear N2
    have NB := N'
    clear N'
    have N2 : News g L h ((I, oI) :: (C, oC) :: (D, LCg.lst (refsOf (keepL n (rl.take i) (σ.rs.take i)))) :: (b, rowO r.1 r.2 k1 u u') :: (mc, oc) :: (rw, W.listOf (refsOf rl).toArray kr) :: (tA, W.listOf (tv ++ [Value.str y t']).toArray (e1 + 1)) :: (rl ++ rest)) := PySem.W.KStt.news_of NB fun p hp => by
      first | (revert p; (repeat (first | exact sub_nil | (refine sub_cons ?_ ?_; (· repeat (first | assumption | exact List.Mem.head _ | refine List.Mem.tail _ ?_))) | refine sub_app ?_ ?_ | (intro p hp; (repeat (first | exact hp | exact List.mem_append_left _ hp | exact List.mem_append_right _ hp | refine List.Mem.tail _ ?_))))); done) | (simp only [List.mem_cons, List.mem_append] at hp ⊢; rcases hp with h | h | h | h | h | h | h | h | h <;> first | ((repeat (first | exact h | exact h ▸ hmem | exact Or.inl h | refine Or.inr ?_)); done) | simp only [h, hmem, true_or, or_true])
    have hS2 : LCg.SrcAt g rw (refsOf rl).toArray ((mc, oc) :: (rw, W.listOf (refsOf rl).toArray kr) :: (tA, W.listOf (tv ++ [Value.str y t']).toArray (e1 + 1)) :: (rl ++ rest)) := .inr ⟨_, .tail _ (.head _), rfl, _, rfl⟩
    repeat' (first | (k_unfold; try dsimp only) | (k_end; kc_close) | (walk1; all_goals ((try k_fold); (try dsimp only); try with_reducible refine wpAny_tk fun _ => ?_)) | (dsimp only; walk1) | (leave1; try dsimp only))
    · rename _ = true => hq
      rw [if_neg (fun q => by rw [bne_iff_ne] at hq; exact hq q)] at hh
      refine CompEnd_same F' NB off' hS2 ?_
      rw [← refs_snoc (o := rowO r.1 r.2 k1 u u'), ← hh]
      exact ih
    · rename _ = false => hq
      rw [if_pos (by rw [bne_eq_false_iff_eq] at hq; exact hq), List.append_nil] at hh
      refine CompEnd_same F' NB off' hS2 ?_
      rw [← hh]
      exact ih
end
section
theorem due_store_no (w : World) (mean : ExcName → Option Value) (mg mb : Str → Option Value) (rw tA mc kr e1 D : Nat) (rl : CbLed) (tv : List Value) (oc : Obj) (σ : DS) (n fg : Str) (tn td tf : Tok) (rest : CbLed) (c0 c1 c2 c3 c4 c5 : Nat)
   (dp un : Nat) (gd : Option (List Code)) (outer : List Env) (A₀ : Around) (base g : Heap) (L : Addr) (m : Str → Option Value) (s : Shared) (Q : Flow → Shared → Prop) (E : Value → Shared → Prop)
   (B : Below A₀ base outer g) (F : Fr g L s.heap m) (X : (hd.heap_39 w.params).In g) (N : News g L s.heap ((D, LCg.lst (hits n rl σ.rs)) :: dueLed rw tA kr rl tv e1 rest)) (T : Top topProg looseL mean mg mb g)
   (hD : ∀ p ∈ dueLed rw tA kr rl tv e1 rest, @Ne Nat p.1 D) (O : DOk rw tA rl rest) (hmc : (mc, oc) ∈ rest) (hoc : oc.data = .cell (some (.str n tn))) (Rl : RowsL rl σ.rs) (Nd : (σ.rs.map (·.1)).Nodup) (Tl : ToldAre tv σ.told) (hz : σ.rs.length ≤ 100) (htz : σ.told.length ≤ 100) (hS : ∀ r ∈ σ.rs, sOk r.1 = true ∧ sOk r.2 = true)
   (m1 : m "deed" = some (.str (Str.ofString "store") td)) (m2 : m "figures" = some (.str fg tf)) (m3 : m "here" = some (.ref D)) (M : FrD σ rw tA m) (hfg : fg = ⟨#[c0, c1, c2, c3, c4, c5]⟩) (hc : sgOk c0 c1 c2 c3 c4 c5)
   (hh : hits n rl σ.rs = []) (hno : ∀ r ∈ σ.rs, r.1 ≠ n)
   (hdp : dp + 8 < recursionLimit) (hu : un + 90 < cLine)
   (hret : DueEnd g L s tA rest (σ.store n (sgF c0 c1 c2 c3 c4 c5)) Q) :
   wpAny (model Challenge.rw_in0190_01.row.prog w) (ktrTop dp un gd (Str.ofString "_law_due") (dueScope (hd.heap_39 w.params)) L 308 (.ref 307) [(Str.ofString "name", mc)] outer) (execs (dueIf (hd.heap_39 w.params)) (envX (Str.ofString "_law_due") (dueScope (hd.heap_39 w.params)) L 308 (.ref 307) [(Str.ofString "name", mc)])) Q E s := by
  have ei : dueIf (hd.heap_39 w.params) = [_] := rfl
  rw [ei]
  have es0 : dueScope (hd.heap_39 w.params) = _ := rfl
  rw [es0]
  clear ei es0
  obtain ⟨⟨ts, m4⟩, m5, m6, m7⟩ := M
  replace F := fr_seven F m1 m2 m3 m4 m5 m6 m7
  have X0 := X
  have O0 := O
  obtain ⟨oRT, oR, oT, oL, oX⟩ := O
  subst hfg
  revert X; k_fill; intro X
  rw [hh] at N
  replace N : News g L s.heap ((D, LCg.lst []) :: (mc, oc) :: dueLed rw tA kr rl tv e1 rest) := PySem.W.KStt.news_of N fun p hp => by
    first | (revert p; (repeat (first | exact sub_nil | (refine sub_cons ?_ ?_; (· repeat (first | assumption | exact List.Mem.head _ | refine List.Mem.tail _ ?_))) | refine sub_app ?_ ?_ | (intro p hp; (repeat (first | exact hp | exact List.mem_append_left _ hp | exact List.mem_append_right _ hp | refine List.Mem.tail _ ?_))))); done) | (simp only [dueLed, List.mem_cons, List.mem_append] at hp ⊢; rcases hp with h | h | h | h | h | h <;> first | ((repeat (first | exact h | exact h ▸ hmc | exact Or.inl h | refine Or.inr ?_)); done) | simp only [h, hmc, true_or, or_true])
  repeat' (first | (k_unfold; try dsimp only) | (k_end; kc_close) | (walk1; all_goals ((try k_fold); (try dsimp only); try with_reducible refine wpAny_tk fun _ => ?_)) | (dsimp only; walk1) | (leave1; try dsimp only))
  refine Halt.in ?_
  rename News _ _ _ _ => NA
  refine ne_nil NA (.tail _ (.head _)) (.head _) (by show un + 64 < cLine; omega) ?_
  repeat' (first | (k_unfold; try dsimp only) | (k_end; kc_close) | (walk1; all_goals ((try k_fold); (try dsimp only); try with_reducible refine wpAny_tk fun _ => ?_)) | (dsimp only; walk1) | (leave1; try dsimp only))
  refine signs_c w mean mg mb c0 c1 c2 c3 c4 c5 tf _ dp _ gd _ _ _ _ _ _ A₀ base g L _ _ _ _ B (by k_asm) X0 (by assumption) T rfl hc (by first | exact room_of hdp rfl | exact room_of (c := 5) hdp rfl | omega) (by first | exact room_of hu rfl | exact room_of (c := 27) hu rfl | omega) fun t3 h3 tk3 F3 N3 => ?_
  clear NA
  repeat' (first | (k_unfold; try dsimp only) | (k_end; kc_close) | (walk1; all_goals ((try k_fold); (try dsimp only); try with_reducible refine wpAny_tk fun _ => ?_)) | (dsimp only; walk1) | (leave1; try dsimp only))
  rename News _ _ _ _ => NA
  rename Fr g L _ _ => FA
  rename @LT.lt Nat _ _ _ ∧ _ => lA
  have ea : σ.store n (sgF c0 c1 c2 c3 c4 c5) = { σ with rs := σ.rs ++ [(n, sgF c0 c1 c2 c3 c4 c5)] } := by
    have e1 := lookup_none hno
    simp only [DS.store, e1]
  rw [ea] at hret
  refine append_mine (pre := [_, _, _, _]) FA NA (fun p hp => ?_) (fun p hp => ?_) (by rw [List.length_map, Rl.len, sizeLine_eq]; omega) fun h4 F4 N4 => ?_
  · simp only [List.mem_cons, List.not_mem_nil, or_false] at hp
    rcases hp with rfl | rfl | rfl | rfl
    · exact (show @Ne Nat _ _ by omega)
    · exact (show @Ne Nat _ _ by omega)
    · exact Ne.symm (hD _ (.head _))
    · exact oR _ hmc
  · rcases List.mem_cons.mp hp with rfl | hp
    · exact Ne.symm oRT
    · exact off_rw O0 p hp
  clear NA FA
  repeat' (first | (k_unfold; try dsimp only) | (k_end; kc_close) | (walk1; all_goals ((try k_fold); (try dsimp only); try with_reducible refine wpAny_tk fun _ => ?_)) | (dsimp only; walk1) | (leave1; try dsimp only))
  rw [← refs_snoc (o := rowO n (sgF c0 c1 c2 c3 c4 c5) 0 tn t3)] at N4
  refine hret rw (kr + 1) e1 _ tv _ _ _ (RowsL_snoc (k := 0) (t := tn) (t' := t3) Rl) Tl (O0.snoc (by first | exact room_of hdp rfl | exact room_of (c := 5) hdp rfl | omega) (by first | exact room_of hu rfl | exact room_of (c := 27) hu rfl | omega) lA.2.2.2.2.2) ⟨⟨ts, rfl⟩, rfl, rfl, rfl⟩ F4 (PySem.W.KStt.news_of N4 fun p hp => ?_)
  first | (revert p; (repeat (first | exact sub_nil | (refine sub_cons ?_ ?_; (· repeat (first | assumption | exact List.Mem.head _ | refine List.Mem.tail _ ?_))) | refine sub_app ?_ ?_ | (intro p hp; (repeat (first | exact hp | exact List.mem_append_left _ hp | exact List.mem_append_right _ hp | refine List.Mem.tail _ ?_))))); done) | (simp only [dueLed, List.mem_cons, List.mem_append, List.not_mem_nil, or_false] at hp ⊢; rcases hp with h | h | (h | h) | h <;> first | ((repeat (first | exact h | exact Or.inl h | refine Or.inr ?_)); done) | simp only [h, true_or, or_true])
end
section
theorem due_store_hit (w : World) (mean : ExcName → Option Value) (mg mb : Str → Option Value) (rw tA mc kr e1 D : Nat) (rl : CbLed) (tv : List Value) (oc : Obj) (σ : DS) (n fg : Str) (tn td tf : Tok) (rest : CbLed) (c0 c1 c2 c3 c4 c5 : Nat)
   (dp un : Nat) (gd : Option (List Code)) (outer : List Env) (A₀ : Around) (base g : Heap) (L : Addr) (m : Str → Option Value) (s : Shared) (Q : Flow → Shared → Prop) (E : Value → Shared → Prop)
   (B : Below A₀ base outer g) (F : Fr g L s.heap m) (X : (hd.heap_39 w.params).In g) (N : News g L s.heap ((D, LCg.lst (hits n rl σ.rs)) :: dueLed rw tA kr rl tv e1 rest)) (T : Top topProg looseL mean mg mb g)
   (hD : ∀ p ∈ dueLed rw tA kr rl tv e1 rest, @Ne Nat p.1 D) (O : DOk rw tA rl rest) (hmc : (mc, oc) ∈ rest) (hoc : oc.data = .cell (some (.str n tn))) (Rl : RowsL rl σ.rs) (Nd : (σ.rs.map (·.1)).Nodup) (Tl : ToldAre tv σ.told) (hz : σ.rs.length ≤ 100) (htz : σ.told.length ≤ 100) (hS : ∀ r ∈ σ.rs, sOk r.1 = true ∧ sOk r.2 = true)
   (m1 : m "deed" = some (.str (Str.ofString "store") td)) (m2 : m "figures" = some (.str fg tf)) (m3 : m "here" = some (.ref D)) (M : FrD σ rw tA m) (hfg : fg = ⟨#[c0, c1, c2, c3, c4, c5]⟩) (hc : sgOk c0 c1 c2 c3 c4 c5)
   (a k : Nat) (y : Str) (t t' : Tok) (l1 l2 : CbLed) (r1 r2 : List (Str × Str)) (hh : hits n rl σ.rs = [.ref a]) (hrl : rl = l1 ++ (a, rowO n y k t t') :: l2) (hrs : σ.rs = r1 ++ (n, y) :: r2) (R1 : RowsL l1 r1) (R2 : RowsL l2 r2) (h5 : ∀ r ∈ r1, r.1 ≠ n) (h6 : ∀ r ∈ r2, r.1 ≠ n)
   (hdp : dp + 8 < recursionLimit) (hu : un + 90 < cLine)
   (hret : DueEnd g L s tA rest (σ.store n (sgF c0 c1 c2 c3 c4 c5)) Q) :
   wpAny (model Challenge.rw_in0190_01.row.prog w) (ktrTop dp un gd (Str.ofString "_law_due") (dueScope (hd.heap_39 w.params)) L 308 (.ref 307) [(Str.ofString "name", mc)] outer) (execs (dueIf (hd.heap_39 w.params)) (envX (Str.ofString "_law_due") (dueScope (hd.heap_39 w.params)) L 308 (.ref 307) [(Str.ofString "name", mc)])) Q E s := by
  have st9 := Stop.mk "call ref"
  have ei : dueIf (hd.heap_39 w.params) = [_] := rfl
  rw [ei]
  have es0 : dueScope (hd.heap_39 w.params) = _ := rfl
  rw [es0]
  clear ei es0
  obtain ⟨⟨ts, m4⟩, m5, m6, m7⟩ := M
  replace F := fr_seven F m1 m2 m3 m4 m5 m6 m7
  have X0 := X
  have O0 := O
  obtain ⟨oRT, oR, oT, oL, oX⟩ := O
  subst hfg
  revert X; k_fill; intro X
  have ha : (a, rowO n y k t t') ∈ rl := hrl ▸ List.mem_append_right _ (.head _)
  have hok : sOk n = true ∧ sOk y = true := hS (n, y) (hrs ▸ List.mem_append_right _ (.head _))
  have ea : σ.store n (sgF c0 c1 c2 c3 c4 c5) = { σ with rs := r1 ++ (n, sgF c0 c1 c2 c3 c4 c5) :: r2 } := by
    have e1 : σ.rs.lookup n = some y := by rw [hrs]; exact lookup_mid h5
    simp only [DS.store, e1]
    rw [hrs, store_mid h5 h6]
  rw [ea] at hret
  rw [hh] at N
  replace N : News g L s.heap ((D, LCg.lst [.ref a]) :: (mc, oc) :: (a, rowO n y k t t') :: dueLed rw tA kr rl tv e1 rest) := PySem.W.KStt.news_of N fun p hp => by
    first | (revert p; (repeat (first | exact sub_nil | (refine sub_cons ?_ ?_; (· repeat (first | assumption | exact List.Mem.head _ | refine List.Mem.tail _ ?_))) | refine sub_app ?_ ?_ | (intro p hp; (repeat (first | exact hp | exact List.mem_append_left _ hp | exact List.mem_append_right _ hp | refine List.Mem.tail _ ?_))))); done) | (simp only [dueLed, List.mem_cons, List.mem_append] at hp ⊢; rcases hp with h | h | h | h | h | h | h <;> first | ((repeat (first | exact h | exact h ▸ ha | exact h ▸ hmc | exact Or.inl h | refine Or.inr ?_)); done) | simp only [h, ha, hmc, true_or, or_true])
  repeat' (first | (k_unfold; try dsimp only) | (k_end; kc_close) | (walk1; all_goals ((try k_fold); (try dsimp only); try with_reducible refine wpAny_tk fun _ => ?_)) | (dsimp only; walk1) | (leave1; try dsimp only))
  refine Halt.in ?_
  rename News _ _ _ _ => NA
  refine ne_hit NA (.tail _ (.head _)) (.tail _ (.tail _ (.tail _ (.head _)))) (.head _) hok.1 hok.2 (by show un + 64 < cLine; omega) ?_
  repeat' (first | (k_unfold; try dsimp only) | (k_end; kc_close) | (walk1; all_goals ((try k_fold); (try dsimp only); try with_reducible refine wpAny_tk fun _ => ?_)) | (dsimp only; walk1) | (leave1; try dsimp only))
  refine Halt.in ?_
  refine signs_c w mean mg mb c0 c1 c2 c3 c4 c5 tf _ dp _ gd _ _ _ _ _ _ A₀ base g L _ _ _ _ B (by k_asm) X0 (by assumption) T rfl hc (by first | exact room_of hdp rfl | exact room_of (c := 5) hdp rfl | omega) (by first | exact room_of hu rfl | exact room_of (c := 27) hu rfl | omega) fun t3 h3 tk3 F3 N3 => ?_
  clear NA
  repeat' (first | (k_unfold; try dsimp only) | (k_end; kc_close) | (walk1; all_goals ((try k_fold); (try dsimp only); try with_reducible refine wpAny_tk fun _ => ?_)) | (dsimp only; walk1) | (leave1; try dsimp only))
  rename News _ _ _ _ => NA
  rename Fr g L _ _ => FA
  rename @LT.lt Nat _ _ _ ∧ _ => lA
  subst hrl
  have ap := O0.apart
  replace NA := PySem.W.KStt.news_of NA (b := [(_, W.listOf #[] 0), (D, LCg.lst [.ref a]), (mc, oc), (rw, W.listOf (refsOf (l1 ++ (a, rowO n y k t t') :: l2)).toArray kr), (tA, W.listOf tv.toArray e1)] ++ l1 ++ (a, rowO n y k t t') :: (l2 ++ rest)) fun p hp => by
    simp only [dueLed, List.mem_cons, List.mem_append, List.not_mem_nil, or_false] at hp ⊢
    rcases hp with ((h | h | h | h | h) | h) | h | h | h
    · exact .inl h
    all_goals simp only [h, true_or, or_true]
  refine set_row FA NA (fun p hp => ?_) ap.2 fun h4 F4 N4 => ?_
  · rcases List.mem_append.mp hp with hp | hp
    · simp only [List.mem_cons, List.not_mem_nil, or_false] at hp
      rcases hp with rfl | rfl | rfl | rfl | rfl
      · exact (show @Ne Nat _ _ by omega)
      · exact Ne.symm (hD _ (.tail _ (.tail _ (List.mem_append_left _ ha))))
      · exact (oL _ ha).2.2 _ hmc
      · exact Ne.symm (oL _ ha).1
      · exact Ne.symm (oL _ ha).2.1
    · exact ap.1 p hp
  clear NA FA
  repeat' (first | (k_unfold; try dsimp only) | (k_end; kc_close) | (walk1; all_goals ((try k_fold); (try dsimp only); try with_reducible refine wpAny_tk fun _ => ?_)) | (dsimp only; walk1) | (leave1; try dsimp only))
  rw [refs_mid (l1 := l1) (l2 := l2) (a := a) (o := rowO n y k t t') (o' := rowO n (sgF c0 c1 c2 c3 c4 c5) k t t3)] at N4
  refine hret rw kr e1 (l1 ++ (a, rowO n (sgF c0 c1 c2 c3 c4 c5) k t t3) :: l2) tv _ _ _ (RowsL_mid R2 R1) Tl O0.set ⟨⟨ts, rfl⟩, rfl, rfl, rfl⟩ F4 (PySem.W.KStt.news_of N4 fun p hp => ?_)
  first | (revert p; (repeat (first | exact sub_nil | (refine sub_cons ?_ ?_; (· repeat (first | assumption | exact List.Mem.head _ | refine List.Mem.tail _ ?_))) | refine sub_app ?_ ?_ | (intro p hp; (repeat (first | exact hp | exact List.mem_append_left _ hp | exact List.mem_append_right _ hp | refine List.Mem.tail _ ?_))))); done) | (simp only [dueLed, List.mem_cons, List.mem_append, List.not_mem_nil, or_false] at hp ⊢; rcases hp with h | h | (h | h | h) | h <;> first | ((repeat (first | exact h | exact Or.inl h | refine Or.inr ?_)); done) | simp only [h, true_or, or_true])
end
section
noncomputable def shS (fg : Str) : Str := shF (fg.cps.getD 3 0) (fg.cps.getD 4 0) (fg.cps.getD 5 0)
noncomputable def sgS (fg : Str) : Str := sgF (fg.cps.getD 0 0) (fg.cps.getD 1 0) (fg.cps.getD 2 0) (fg.cps.getD 3 0) (fg.cps.getD 4 0) (fg.cps.getD 5 0)
structure Step where
  deed : Str
  name : Str
  figs : Str
  pad : Str
noncomputable def FgOk (fg : Str) : Prop := ∃ c0 c1 c2 c3 c4 c5, fg = ⟨#[c0, c1, c2, c3, c4, c5]⟩ ∧ sgOk c0 c1 c2 c3 c4 c5
noncomputable def StepOk (st : Step) : Prop := sOk st.name = true ∧ (st.deed = "freeze" ∨ st.deed = "ask" ∨ st.deed = "take" ∨ (st.deed = "mask" ∧ FgOk st.figs) ∨ (st.deed = "store" ∧ FgOk st.figs))
noncomputable def dueStep (σ : DS) (st : Step) : DS :=
  if st.deed = "freeze" then σ.freeze else if st.deed = "mask" then σ.mask (shS st.figs) else if st.deed = "ask" then σ.ask st.name else if st.deed = "take" then σ.take st.name else σ.store st.name (sgS st.figs)
structure DSok (σ : DS) : Prop where
  nd : (σ.rs.map (·.1)).Nodup
  rows : ∀ r ∈ σ.rs, sOk r.1 = true ∧ sOk r.2 = true
  shown : sOk σ.shown = true
theorem lookup_ne {n : Str} : ∀ {rs : List (Str × Str)}, rs.lookup n = none → ∀ r ∈ rs, r.1 ≠ n
  | [], _, r, hr => by simp at hr
  | (a, b) :: rs, h, r, hr => by
    rw [List.lookup_cons] at h
    by_cases q : (n == a) = true
    · rw [q] at h; cases h
    · have q' : (n == a) = false := by simpa using q
      rw [q'] at h
      rcases List.mem_cons.mp hr with rfl | hr
      · exact fun e => by have e' : a = n := e; rw [e'] at q'; simp at q'
      · exact lookup_ne h r hr
theorem nodup_snoc {n y : Str} {rs : List (Str × Str)} (h : (rs.map (·.1)).Nodup) (hn : rs.lookup n = none) : ((rs ++ [(n, y)]).map (·.1)).Nodup := by
  rw [List.map_append, List.nodup_append]
  refine ⟨h, by simp, fun a ha b hb => ?_⟩
  simp only [List.map_cons, List.map_nil, List.mem_singleton] at hb
  subst hb
  obtain ⟨r, hr, rfl⟩ := List.mem_map.mp ha
  exact lookup_ne hn r hr
theorem sOk_list {l : List Nat} (h : ∀ c ∈ l, c < 0x110000) : sOk ⟨l.toArray⟩ = true := by
  unfold sOk PyData.strOk
  rw [Array.all_eq_true_iff_forall_mem]
  intro c hc
  exact decide_eq_true (h c (List.mem_toArray.mp hc))
theorem shTab_lt (c : Nat) : ∀ x ∈ shTab c, x < 0x110000 := tabN_all (fun l => ∀ x ∈ l, x < 0x110000) (by decide) (by decide) c
theorem shF_ok (a b c : Nat) : sOk (shF a b c) = true := by
  unfold shF
  refine sOk_list fun x hx => ?_
  simp only [List.mem_append, List.mem_cons, List.not_mem_nil, or_false] at hx
  rcases hx with ((rfl | h) | h) | h
  · omega
  · exact shTab_lt _ x h
  · exact shTab_lt _ x h
  · exact shTab_lt _ x h
theorem rC_lt (c : Nat) : rC c < 0x110000 := by unfold rC; split <;> omega
theorem wC_lt (c : Nat) : wC c < 0x110000 := tabN_all (· < 0x110000) (by decide) (by decide) c
theorem xC_lt (c : Nat) : xC c < 0x110000 := tabN_all (· < 0x110000) (by decide) (by decide) c
theorem loC_lt (c : Nat) : loC c < 0x110000 := tabN_all (· < 0x110000) (by decide) (by decide) c
theorem upC_lt (c : Nat) : upC c < 0x110000 := tabN_all (· < 0x110000) (by decide) (by decide) c
theorem typC_lt (a b : Nat) : typC a b < 0x110000 := tabN_all (· < 0x110000) (by decide) (by decide) _
theorem thrF_lt (i c d : Nat) : ∀ x ∈ thrF i c d, x < 0x110000 := by
  intro x hx
  simp only [thrF, List.mem_cons, List.not_mem_nil, or_false] at hx
  rcases hx with rfl | rfl | rfl
  · exact rC_lt c
  · exact wC_lt c
  · split
    · split
      · exact loC_lt i
      · exact upC_lt i
    · exact xC_lt c
theorem sgF_ok (a b c d e f : Nat) : sOk (sgF a b c d e f) = true := by
  show sOk ⟨([typC a b] ++ thrF 0 d c ++ thrF 1 e c ++ thrF 2 f c).toArray⟩ = true
  refine sOk_list fun x hx => ?_
  simp only [List.mem_append, List.mem_cons, List.not_mem_nil, or_false] at hx
  rcases hx with ((rfl | h) | h) | h
  · exact typC_lt a b
  · exact thrF_lt _ _ _ x h
  · exact thrF_lt _ _ _ x h
  · exact thrF_lt _ _ _ x h
theorem dueStep_ok {σ : DS} {st : Step} (h : DSok σ) (hs : StepOk st) : DSok (dueStep σ st) := by
  unfold dueStep
  split
  · exact ⟨h.nd, h.rows, h.shown⟩
  split
  · exact ⟨h.nd, h.rows, shF_ok _ _ _⟩
  split
  · unfold DS.ask
    split
    · exact ⟨h.nd, h.rows, h.shown⟩
    · next q =>
      refine ⟨?_, ?_, h.shown⟩
      · dsimp only
        split
        · exact nodup_snoc h.nd q
        · exact h.nd
      · dsimp only
        split
        · intro r hr
          rcases List.mem_append.mp hr with hr | hr
          · exact h.rows r hr
          · rw [List.mem_singleton.mp hr]
            exact ⟨hs.1, h.shown⟩
        · exact h.rows
  split
  · exact ⟨h.nd.sublist ((List.filter_sublist).map _), fun r hr => h.rows r (List.mem_filter.mp hr).1, h.shown⟩
  · unfold DS.store
    split
    · next y q =>
      refine ⟨?_, fun r hr => ?_, h.shown⟩
      · dsimp only
        have e : (σ.rs.map fun r => if r.1 = st.name then (st.name, sgS st.figs) else r).map (·.1) = σ.rs.map (·.1) := by
          rw [List.map_map]
          refine List.map_congr_left fun r _ => ?_
          simp only [Function.comp]
          split
          · next e => exact e.symm
          · rfl
        rw [e]
        exact h.nd
      · obtain ⟨q, hq, rfl⟩ := List.mem_map.mp hr
        split
        · exact ⟨hs.1, sgF_ok _ _ _ _ _ _⟩
        · exact h.rows q hq
    · next q =>
      refine ⟨nodup_snoc h.nd q, fun r hr => ?_, h.shown⟩
      rcases List.mem_append.mp hr with hr | hr
      · exact h.rows r hr
      · rw [List.mem_singleton.mp hr]
        exact ⟨hs.1, sgF_ok _ _ _ _ _ _⟩
theorem dueStep_len (σ : DS) (st : Step) : (dueStep σ st).rs.length ≤ σ.rs.length + 1 ∧ (dueStep σ st).told.length ≤ σ.told.length + 1 := by
  unfold dueStep
  split
  · simp [DS.freeze]
  split
  · simp [DS.mask]
  split
  · unfold DS.ask
    split
    · simp
    · refine ⟨?_, by simp⟩
      dsimp only
      split
      · simp
      · omega
  split
  · refine ⟨Nat.le_succ_of_le (List.length_filter_le ..), by simp [DS.take]⟩
  · unfold DS.store
    split
    · simp
    · simp
theorem due_turn (w : World) (mean : ExcName → Option Value) (mg mb : Str → Option Value) (rw tA mc kr e1 : Nat) (rl : CbLed) (tv : List Value) (oc : Obj) (σ : DS) (st : Step) (tn td tf : Tok) (rest : CbLed)
   (dp un : Nat) (gd : Option (List Code)) (outer : List Env) (A₀ : Around) (base g : Heap) (L : Addr) (m : Str → Option Value) (s : Shared) (Q : Flow → Shared → Prop) (E : Value → Shared → Prop)
   (B : Below A₀ base outer g) (F : Fr g L s.heap m) (X : (hd.heap_39 w.params).In g) (N : News g L s.heap (dueLed rw tA kr rl tv e1 rest)) (T : Top topProg looseL mean mg mb g)
   (O : DOk rw tA rl rest) (hmc : (mc, oc) ∈ rest) (hoc : oc.data = .cell (some (.str st.name tn))) (Rl : RowsL rl σ.rs) (Ok : DSok σ) (Tl : ToldAre tv σ.told) (hz : σ.rs.length ≤ 100) (htz : σ.told.length ≤ 100) (hst : StepOk st)
   (m1 : m "deed" = some (.str st.deed td)) (m2 : m "figures" = some (.str st.figs tf)) (M : FrD σ rw tA m)
   (hdp : dp + 8 < recursionLimit) (hu : un + 90 < cLine)
   (hret : DueEnd g L s tA rest (dueStep σ st) Q) :
   wpAny (model Challenge.rw_in0190_01.row.prog w) (ktrTop dp un gd (Str.ofString "_law_due") (dueScope (hd.heap_39 w.params)) L 308 (.ref 307) [(Str.ofString "name", mc)] outer) (execs (dueFor (hd.heap_39 w.params)) (envX (Str.ofString "_law_due") (dueScope (hd.heap_39 w.params)) L 308 (.ref 307) [(Str.ofString "name", mc)])) Q E s := by
  refine here_c w mean mg mb rw mc kr rl σ.rs st.name tn oc ((tA, W.listOf tv.toArray e1) :: rest) dp un gd outer A₀ base g L m s Q E B F X (PySem.W.KStt.news_of N fun p hp => ?_) T hoc Rl (by rw [Rl.len]; omega) M.rows fun D h1 tk1 F1 N1 off => ?_
  · first | (revert p; (repeat (first | exact sub_nil | (refine sub_cons ?_ ?_; (· repeat (first | assumption | exact List.Mem.head _ | refine List.Mem.tail _ ?_))) | refine sub_app ?_ ?_ | (intro p hp; (repeat (first | exact hp | exact List.mem_append_left _ hp | exact List.mem_append_right _ hp | refine List.Mem.tail _ ?_))))); done) | (simp only [dueLed, List.mem_cons, List.mem_append] at hp ⊢; rcases hp with h | h | h | h | h <;> first | ((repeat (first | exact h | exact h ▸ hmc | exact Or.inl h | refine Or.inr ?_)); done) | simp only [h, hmc, true_or, or_true])
  have N2 : News g L h1 ((D, LCg.lst (hits st.name rl σ.rs)) :: dueLed rw tA kr rl tv e1 rest) := PySem.W.KStt.news_of N1 fun p hp => by
    first | (revert p; (repeat (first | exact sub_nil | (refine sub_cons ?_ ?_; (· repeat (first | assumption | exact List.Mem.head _ | refine List.Mem.tail _ ?_))) | refine sub_app ?_ ?_ | (intro p hp; (repeat (first | exact hp | exact List.mem_append_left _ hp | exact List.mem_append_right _ hp | refine List.Mem.tail _ ?_))))); done) | (simp only [dueLed, List.mem_cons, List.mem_append] at hp ⊢; rcases hp with h | h | h | h | h <;> first | ((repeat (first | exact h | exact Or.inl h | refine Or.inr ?_)); done) | simp only [h, true_or, or_true])
  have hD : ∀ p ∈ dueLed rw tA kr rl tv e1 rest, @Ne Nat p.1 D := fun p hp => off p (by
    first | (revert p; (repeat (first | exact sub_nil | (refine sub_cons ?_ ?_; (· repeat (first | assumption | exact List.Mem.head _ | refine List.Mem.tail _ ?_))) | refine sub_app ?_ ?_ | (intro p hp; (repeat (first | exact hp | exact List.mem_append_left _ hp | exact List.mem_append_right _ hp | refine List.Mem.tail _ ?_))))); done) | (simp only [dueLed, List.mem_cons, List.mem_append] at hp ⊢; rcases hp with h | h | h | h <;> first | ((repeat (first | exact h | exact Or.inl h | refine Or.inr ?_)); done) | simp only [h, true_or, or_true]))
  have M1 : FrD σ rw tA (fun z => if z = "here" then some (.ref D) else m z) := ⟨by obtain ⟨t, h⟩ := M.shown; exact ⟨t, (if_neg (by decide)).trans h⟩, (if_neg (by decide)).trans M.rows, (if_neg (by decide)).trans M.grows, (if_neg (by decide)).trans M.told⟩
  have k1 : (fun z => if z = "here" then some (Value.ref D) else m z) "deed" = some (.str st.deed td) := (if_neg (by decide)).trans m1
  have k2 : (fun z => if z = "here" then some (Value.ref D) else m z) "figures" = some (.str st.figs tf) := (if_neg (by decide)).trans m2
  have k3 : (fun z => if z = "here" then some (Value.ref D) else m z) "here" = some (.ref D) := if_pos rfl
  clear N N1 off
  obtain ⟨d, n, fg, pd⟩ := st
  obtain ⟨hn, hcase⟩ := hst
  dsimp only at hn hcase hoc N2 k1 k2 hret
  rcases hcase with rfl | rfl | rfl | ⟨rfl, c0, c1, c2, c3, c4, c5, rfl, hc⟩ | ⟨rfl, c0, c1, c2, c3, c4, c5, rfl, hc⟩
  · exact due_freeze w mean mg mb rw tA mc kr e1 D rl tv oc σ n fg tn td tf rest dp un gd outer A₀ base g L _ _ Q E B F1 X N2 T hD O hmc hoc Rl Ok.nd Tl hz htz Ok.rows k1 k2 k3 M1 hdp hu hret
  · rcases due_split (n := n) Rl Ok.nd with ⟨hh, hno⟩ | ⟨l1, a, y, k, t, t', l2, r1, r2, hrl, hrs, R1, R2, h5, h6, hh⟩
    · exact due_ask_no w mean mg mb rw tA mc kr e1 D rl tv oc σ n fg tn td tf rest dp un gd outer A₀ base g L _ _ Q E B F1 X N2 T hD O hmc hoc Rl Ok.nd Tl hz htz Ok.rows k1 k2 k3 M1 hh hno hdp hu hret
    · have ha : (a, rowO n y k t t') ∈ rl := hrl ▸ List.mem_append_right _ (.head _)
      exact due_ask_hit w mean mg mb rw tA mc kr e1 D rl tv oc σ n fg tn td tf rest dp un gd outer A₀ base g L _ _ Q E B F1 X N2 T hD O hmc hoc Rl Ok.nd Tl hz htz Ok.rows k1 k2 k3 M1 a k y t t' hh ha (by rw [hrs]; exact lookup_mid h5) (Ok.rows (n, y) (hrs ▸ List.mem_append_right _ (.head _))) hdp hu hret
  · rcases due_split (n := n) Rl Ok.nd with ⟨hh, hno⟩ | ⟨l1, a, y, k, t, t', l2, r1, r2, hrl, hrs, R1, R2, h5, h6, hh⟩
    · exact due_take_no w mean mg mb rw tA mc kr e1 D rl tv oc σ n fg tn td tf rest dp un gd outer A₀ base g L _ _ Q E B F1 X N2 T hD O hmc hoc Rl Ok.nd Tl hz htz Ok.rows k1 k2 k3 M1 hh hno hdp hu hret
    · have ha : (a, rowO n y k t t') ∈ rl := hrl ▸ List.mem_append_right _ (.head _)
      exact due_take_hit w mean mg mb rw tA mc kr e1 D rl tv oc σ n fg tn td tf rest dp un gd outer A₀ base g L _ _ Q E B F1 X N2 T hD O hmc hoc Rl Ok.nd Tl hz htz Ok.rows k1 k2 k3 M1 a k y t t' hh ha (by rw [hrs]; exact lookup_mid h5) (Ok.rows (n, y) (hrs ▸ List.mem_append_right _ (.head _))) hdp hu hret
  · exact due_mask w mean mg mb rw tA mc kr e1 D rl tv oc σ n _ tn td tf rest c0 c1 c2 c3 c4 c5 dp un gd outer A₀ base g L _ _ Q E B F1 X N2 T hD O hmc hoc Rl Ok.nd Tl hz htz Ok.rows k1 k2 k3 M1 rfl ⟨hc.2.2.2.2.2.2.1, hc.2.2.2.2.2.2.2.1, hc.2.2.2.2.2.2.2.2.1, hc.2.2.2.2.2.2.2.2.2.1, hc.2.2.2.2.2.2.2.2.2.2⟩ hdp hu hret
  · rcases due_split (n := n) Rl Ok.nd with ⟨hh, hno⟩ | ⟨l1, a, y, k, t, t', l2, r1, r2, hrl, hrs, R1, R2, h5, h6, hh⟩
    · exact due_store_no w mean mg mb rw tA mc kr e1 D rl tv oc σ n _ tn td tf rest c0 c1 c2 c3 c4 c5 dp un gd outer A₀ base g L _ _ Q E B F1 X N2 T hD O hmc hoc Rl Ok.nd Tl hz htz Ok.rows k1 k2 k3 M1 rfl hc hh hno hdp hu hret
    · exact due_store_hit w mean mg mb rw tA mc kr e1 D rl tv oc σ n _ tn td tf rest c0 c1 c2 c3 c4 c5 dp un gd outer A₀ base g L _ _ Q E B F1 X N2 T hD O hmc hoc Rl Ok.nd Tl hz htz Ok.rows k1 k2 k3 M1 rfl hc a k y t t' l1 l2 r1 r2 hh hrl hrs R1 R2 h5 h6 hdp hu hret
end
section
noncomputable def dues (sts : List Step) (σ : DS) : DS := sts.foldl dueStep σ
theorem dues_snoc {sts : List Step} {st : Step} {i : Nat} {σ : DS} (h : sts[i]? = some st) : dues (sts.take (i + 1)) σ = dueStep (dues (sts.take i) σ) st := by
  unfold dues
  rw [List.take_add_one, h, List.foldl_append]
  rfl
theorem dues_ok : ∀ {sts : List Step} {σ : DS}, (∀ x ∈ sts, StepOk x) → DSok σ → DSok (dues sts σ)
  | [], _, _, h => h
  | x :: xs, σ, hx, h => dues_ok (sts := xs) (σ := dueStep σ x) (fun y hy => hx y (List.mem_cons_of_mem _ hy)) (dueStep_ok h (hx _ (.head _)))
theorem dues_len : ∀ {sts : List Step} {σ : DS}, (dues sts σ).rs.length ≤ σ.rs.length + sts.length ∧ (dues sts σ).told.length ≤ σ.told.length + sts.length
  | [], _ => ⟨Nat.le_refl _, Nat.le_refl _⟩
  | x :: xs, σ => by
    have a := dues_len (sts := xs) (σ := dueStep σ x)
    have b := dueStep_len σ x
    exact ⟨len_step a.1 b.1, len_step a.2 b.2⟩
noncomputable def StepsAre (nw : CbLed) : List Value → List Step → Prop
  | [], [] => True
  | v :: vs, st :: sts => (∃ (T j : Nat) (t0 t1 t2 t3 : Tok), v = .ref T ∧ (T, tup4 j (.str st.deed t0) (.str st.name t1) (.str st.figs t2) (.str st.pad t3)) ∈ nw) ∧ StepsAre nw vs sts
  | _, _ => False
theorem StepsAre.get {nw : CbLed} : ∀ {vs : List Value} {sts : List Step} {i : Nat} {v : Value}, StepsAre nw vs sts → vs[i]? = some v →
    ∃ st, sts[i]? = some st ∧ ∃ (T j : Nat) (t0 t1 t2 t3 : Tok), v = .ref T ∧ (T, tup4 j (.str st.deed t0) (.str st.name t1) (.str st.figs t2) (.str st.pad t3)) ∈ nw
  | v :: vs, st :: sts, 0, v', ⟨h, _⟩, e => by
    obtain rfl : v = v' := Option.some.inj e
    exact ⟨st, rfl, h⟩
  | v :: vs, st :: sts, i + 1, v', ⟨_, r⟩, e => StepsAre.get r (i := i) e
  | [], _, _, _, _, e => by simp at e
  | _ :: _, [], _, _, h, _ => h.elim
theorem StepsAre.len {nw : CbLed} : ∀ {vs : List Value} {sts : List Step}, StepsAre nw vs sts → vs.length = sts.length
  | [], [], _ => rfl
  | _ :: _, _ :: _, ⟨_, r⟩ => congrArg (· + 1) r.len
  | [], _ :: _, h => h.elim
  | _ :: _, [], h => h.elim
theorem StepsAre.mono {nw nw' : CbLed} (k : ∀ p ∈ nw, p ∈ nw') : ∀ {vs : List Value} {sts : List Step}, StepsAre nw vs sts → StepsAre nw' vs sts
  | [], [], _ => trivial
  | _ :: _, _ :: _, ⟨⟨T, j, t0, t1, t2, t3, e, h⟩, r⟩ => ⟨⟨T, j, t0, t1, t2, t3, e, k _ h⟩, r.mono k⟩
  | [], _ :: _, h => h.elim
  | _ :: _, [], h => h.elim
theorem DOk.sub {rw tA : Nat} {rl rest rest' : CbLed} (O : DOk rw tA rl rest) (k : ∀ p ∈ rest', p ∈ rest) : DOk rw tA rl rest' :=
  ⟨O.rt, fun p hp => O.r p (k p hp), fun p hp => O.t p (k p hp), fun p hp => ⟨(O.l p hp).1, (O.l p hp).2.1, fun q hq => (O.l p hp).2.2 q (k q hq)⟩, O.x⟩
theorem DOk.cons {rw tA kr e1 : Nat} {rl rest : CbLed} {tv : List Value} {p : Addr × Obj} (O : DOk rw tA rl rest) (h : ∀ q ∈ dueLed rw tA kr rl tv e1 rest, @Ne Nat q.1 p.1) : DOk rw tA rl (p :: rest) := by
  refine ⟨O.rt, fun q hq => ?_, fun q hq => ?_, fun q hq => ⟨(O.l q hq).1, (O.l q hq).2.1, fun r hr => ?_⟩, O.x⟩
  · rcases List.mem_cons.mp hq with rfl | hq
    · exact Ne.symm (h _ (.head _))
    · exact O.r q hq
  · rcases List.mem_cons.mp hq with rfl | hq
    · exact Ne.symm (h _ (.tail _ (.head _)))
    · exact O.t q hq
  · rcases List.mem_cons.mp hr with rfl | hr
    · exact Ne.symm (h _ (.tail _ (.tail _ (List.mem_append_left _ hq))))
    · exact (O.l q hq).2.2 r hr
theorem DOk.out {rw tA kr e1 : Nat} {rl rest rest' : CbLed} {tv : List Value} {p : Addr × Obj} (O : DOk rw tA rl rest) (hp : p ∈ rest) (h' : ∀ q ∈ rest', @Ne Nat q.1 p.1) : ∀ q ∈ dueLed rw tA kr rl tv e1 rest', @Ne Nat q.1 p.1 := fun q hq => by
  simp only [dueLed, List.mem_cons, List.mem_append] at hq
  rcases hq with rfl | rfl | hq | hq
  · exact Ne.symm (O.r _ hp)
  · exact Ne.symm (O.t _ hp)
  · exact Ne.symm ((O.l q hq).2.2 p hp)
  · exact h' q hq
noncomputable def due0 : DS := ⟨shF 48 50 50, true, [], []⟩
noncomputable def dueForS (k : Frag) : Stmt := match fnBody k 308 with
  | _ :: _ :: _ :: _ :: r :: _ => r
  | _ => .Pass default
theorem due_loop (w : World) (mean : ExcName → Option Value) (mg mb : Str → Option Value) (rw tA mc kr e1 l k : Nat) (vs : List Value) (sts : List Step) (oc : Obj) (v₀ : Option Value) (news : CbLed)
   (dp un : Nat) (gd : Option (List Code)) (outer : List Env) (A₀ : Around) (base g : Heap) (L : Addr) (m : Str → Option Value) (s : Shared) (Q : Flow → Shared → Prop) (E : Value → Shared → Prop)
   (B : Below A₀ base outer g) (F : Fr g L s.heap m) (X : (hd.heap_39 w.params).In g) (N : News g L s.heap ((l, W.listOf vs.toArray k) :: (mc, oc) :: dueLed rw tA kr [] [] e1 news)) (T : Top topProg looseL mean mg mb g)
   (O : DOk rw tA [] news) (hoc : oc.data = .cell v₀) (hlm : @Ne Nat l mc) (offl : ∀ p ∈ dueLed rw tA kr [] [] e1 news, @Ne Nat p.1 l) (offm : ∀ p ∈ dueLed rw tA kr [] [] e1 news, @Ne Nat p.1 mc)
   (hvs : StepsAre news vs sts) (hx : ∀ x ∈ sts, StepOk x) (hn : sts.length ≤ 90) (m1 : m "steps" = some (.ref l)) (M : FrD due0 rw tA m)
   (hdp : dp + 8 < recursionLimit) (hu : un + 90 < cLine)
   (done : ∀ (rw kr e1 : Nat) (rl : CbLed) (tv : List Value) (oc : Obj) (m' : Str → Option Value) (h' : Heap) (tk' : Nat), RowsL rl (dues sts due0).rs → ToldAre tv (dues sts due0).told → m' "rows" = some (.ref rw) → m' "told" = some (.ref tA) → Fr g L h' m' →
     News g L h' ((l, W.listOf vs.toArray k) :: (mc, oc) :: dueLed rw tA kr rl tv e1 news) →
     Q .next { s with heap := h', toks := tk' }) :
   wpAny (model Challenge.rw_in0190_01.row.prog w) (ktrTop dp un gd (Str.ofString "_law_due") (dueScope (hd.heap_39 w.params)) L 308 (.ref 307) [(Str.ofString "name", mc)] outer) (exec (dueForS (hd.heap_39 w.params)) (envX (Str.ofString "_law_due") (dueScope (hd.heap_39 w.params)) L 308 (.ref 307) [(Str.ofString "name", mc)])) Q E s := by
  have ef : dueForS (hd.heap_39 w.params) = .For (.Tuple [.Name _ _, .Name _ _, .Name _ _, .Name _ _] _ _) (.Name (Str.ofString "steps") _) (dueFor (hd.heap_39 w.params)) [] _ := rfl
  rw [ef]
  have es0 : dueScope (hd.heap_39 w.params) = _ := rfl
  refine (forS (Q := Q)
    (fun i x y z u => ∃ st t0 t1 t2 t3, sts[i]? = some st ∧ x = .str st.deed t0 ∧ y = .str st.name t1 ∧ z = .str st.figs t2 ∧ u = .str st.pad t3)
    (fun i m nw => ∃ (rw kr e1 : Nat) (rl : CbLed) (tv : List Value), nw = dueLed rw tA kr rl tv e1 news ∧ RowsL rl (dues (sts.take i) due0).rs ∧ ToldAre tv (dues (sts.take i) due0).told ∧ DOk rw tA rl news ∧ FrD (dues (sts.take i) due0) rw tA m)
    rfl (by rw [es0]; rfl) (by rw [es0]; rfl) (by rw [es0]; rfl) (by rw [es0]; rfl) (by rw [es0]; rfl) rfl (by rw [es0]; rfl) rfl (fun Q' hq => nameX_L F m1 hq (by rw [es0]; rfl) (by rw [es0]; rfl) (by decide)) F hoc N hlm offl offm ⟨rw, kr, e1, [], [], rfl, trivial, trivial, O, M⟩ ?_ ?_ ?_)
  · intro i v hv
    obtain ⟨st, hst, T, j, t0, t1, t2, t3, rfl, hm⟩ := hvs.get hv
    refine ⟨T, j, _, _, _, _, rfl, ⟨st, t0, t1, t2, t3, hst, rfl, rfl, rfl, rfl⟩, ?_⟩
    rintro m nw ⟨rw, kr, e1, rl, tv, rfl, _⟩
    exact .tail _ (.tail _ (List.mem_append_right _ hm))
  · rintro i x y z u I oI oc m nw h tk hi ⟨st, t0, t1, t2, t3, hst, rfl, rfl, rfl, rfl⟩ ⟨rw, kr, e1, rl, tv, rfl, Rl, Tl, O, M⟩ hoc F1 N1 oI1 ol1 oc1 hlI hmI
    have hL := dues_len (sts := sts.take i) (σ := due0)
    rw [List.length_take] at hL
    have hok := dues_ok (sts := sts.take i) (σ := due0) (fun y hy => hx y (List.mem_of_mem_take hy)) ⟨List.nodup_nil, by simp [due0], shF_ok _ _ _⟩
    have es1 := dues_snoc (σ := due0) hst
    have hz : (dues (sts.take i) due0).rs.length ≤ 100 := by simp only [due0, List.length_nil] at hL ⊢; omega
    have htz : (dues (sts.take i) due0).told.length ≤ 100 := by simp only [due0, List.length_nil] at hL ⊢; omega
    generalize dues (sts.take i) due0 = σ at *
    have O1 : DOk rw tA rl ((I, oI) :: (l, W.listOf vs.toArray k) :: (mc, oc) :: news) := by
      have O2 := O.cons (p := (mc, oc)) oc1
      have O3 := O2.cons (p := (l, W.listOf vs.toArray k)) (kr := kr) (e1 := e1) (tv := tv) (fun q hq => by
        simp only [dueLed, List.mem_cons, List.mem_append] at hq
        rcases hq with rfl | rfl | hq | rfl | hq
        · exact ol1 _ (.head _)
        · exact ol1 _ (.tail _ (.head _))
        · exact ol1 _ (.tail _ (.tail _ (List.mem_append_left _ hq)))
        · exact Ne.symm hlm
        · exact ol1 _ (.tail _ (.tail _ (List.mem_append_right _ hq))))
      exact O3.cons (p := (I, oI)) (kr := kr) (e1 := e1) (tv := tv) (fun q hq => by
        simp only [dueLed, List.mem_cons, List.mem_append] at hq
        rcases hq with rfl | rfl | hq | rfl | rfl | hq
        · exact oI1 _ (.head _)
        · exact oI1 _ (.tail _ (.head _))
        · exact oI1 _ (.tail _ (.tail _ (List.mem_append_left _ hq)))
        · exact hlI
        · exact hmI
        · exact oI1 _ (.tail _ (.tail _ (List.mem_append_right _ hq))))
    have N2 : News g L h (dueLed rw tA kr rl tv e1 ((I, oI) :: (l, W.listOf vs.toArray k) :: (mc, oc) :: news)) := PySem.W.KStt.news_of N1 fun p hp => by
      first | (revert p; (repeat (first | exact sub_nil | (refine sub_cons ?_ ?_; (· repeat (first | assumption | exact List.Mem.head _ | refine List.Mem.tail _ ?_))) | refine sub_app ?_ ?_ | (intro p hp; (repeat (first | exact hp | exact List.mem_append_left _ hp | exact List.mem_append_right _ hp | refine List.Mem.tail _ ?_))))); done) | (simp only [dueLed, List.mem_cons, List.mem_append] at hp ⊢; rcases hp with h | h | h | h | h | h | h <;> first | ((repeat (first | exact h | exact Or.inl h | refine Or.inr ?_)); done) | simp only [h, true_or, or_true])
    obtain ⟨⟨ts, f1⟩, f2, f3, f4⟩ := M
    refine due_turn w mean mg mb rw tA mc kr e1 rl tv oc σ st t1 t0 t2 ((I, oI) :: (l, W.listOf vs.toArray k) :: (mc, oc) :: news) dp un gd outer A₀ base g L _ _ _ _ B F1 X N2 T O1 (.tail _ (.tail _ (.head _))) hoc Rl hok Tl hz htz (hx st (List.mem_of_getElem? hst)) rfl rfl ⟨⟨ts, f1⟩, f2, f3, f4⟩ hdp hu ?_
    intro rw' kr' e1' rl' tv' m' h' tk' R' T' O' M' F' N'
    rw [← es1] at R' T' M'
    refine ⟨.inl rfl, h', tk', m', oc, _, dueLed rw' tA kr' rl' tv' e1' news, rfl, F', hoc, PySem.W.KStt.news_of N' fun p hp => ?_, O'.out (.head _) (fun q hq => oI1 q (.tail _ (.tail _ (List.mem_append_right _ hq)))), O'.out (.tail _ (.head _)) (fun q hq => ol1 q (.tail _ (.tail _ (List.mem_append_right _ hq)))), O'.out (.tail _ (.tail _ (.head _))) (fun q hq => oc1 q (.tail _ (.tail _ (List.mem_append_right _ hq)))),
      rw', kr', e1', rl', tv', rfl, R', T', O'.sub (fun p hp => .tail _ (.tail _ (.tail _ hp))), M'⟩
    first | (revert p; (repeat (first | exact sub_nil | (refine sub_cons ?_ ?_; (· repeat (first | assumption | exact List.Mem.head _ | refine List.Mem.tail _ ?_))) | refine sub_app ?_ ?_ | (intro p hp; (repeat (first | exact hp | exact List.mem_append_left _ hp | exact List.mem_append_right _ hp | refine List.Mem.tail _ ?_))))); done) | (simp only [dueLed, List.mem_cons, List.mem_append] at hp ⊢; rcases hp with h | h | h | h | h | h | h <;> first | ((repeat (first | exact h | exact Or.inl h | refine Or.inr ?_)); done) | simp only [h, true_or, or_true])
  · rintro m oc nw h tk ⟨rw, kr, e1, rl, tv, rfl, Rl, Tl, O, M⟩ F1 N1
    have hlen : sts.take vs.length = sts := by rw [hvs.len]; exact List.take_length
    rw [hlen] at Rl Tl M
    exact done rw kr e1 rl tv oc m h tk Rl Tl M.rows M.told F1 N1
end
section
theorem fig22 : Str.ofString "000022" = ⟨#[48, 48, 48, 48, 50, 50]⟩ := by decide +kernel
theorem news_due {g h : Heap} {L : Addr} {a0 a1 a2 a3 : Addr × Obj} {r : CbLed} (N : News g L h (a0 :: a1 :: a2 :: a3 :: r)) : News g L h (a3 :: a2 :: a1 :: a0 :: r) := PySem.W.KStt.news_of N fun p hp => by
  first | (revert p; (repeat (first | exact sub_nil | (refine sub_cons ?_ ?_; (· repeat (first | assumption | exact List.Mem.head _ | refine List.Mem.tail _ ?_))) | refine sub_app ?_ ?_ | (intro p hp; (repeat (first | exact hp | exact List.mem_append_left _ hp | exact List.mem_append_right _ hp | refine List.Mem.tail _ ?_))))); done) | (simp only [List.mem_cons] at hp ⊢; rcases hp with h | h | h | h | h <;> first | ((repeat (first | exact h | exact Or.inl h | refine Or.inr ?_)); done) | simp only [h, true_or, or_true])
theorem news_dueR {g h : Heap} {L : Addr} {a0 a1 a2 a3 a4 : Addr × Obj} {rl r : CbLed} (N : News g L h (a0 :: a1 :: a2 :: a3 :: a4 :: (rl ++ r))) : News g L h (a0 :: a3 :: a4 :: (rl ++ a1 :: r)) := PySem.W.KStt.news_of N fun p hp => by
  first | (revert p; (repeat (first | exact sub_nil | (refine sub_cons ?_ ?_; (· repeat (first | assumption | exact List.Mem.head _ | refine List.Mem.tail _ ?_))) | refine sub_app ?_ ?_ | (intro p hp; (repeat (first | exact hp | exact List.mem_append_left _ hp | exact List.mem_append_right _ hp | refine List.Mem.tail _ ?_))))); done) | (simp only [List.mem_cons, List.mem_append] at hp ⊢; rcases hp with h | h | h | h | h | h <;> first | ((repeat (first | exact h | exact Or.inl h | refine Or.inr ?_)); done) | simp only [h, true_or, or_true])
theorem due_c (w : World) (mean : ExcName → Option Value) (mg mb : Str → Option Value) (l k : Nat) (vs : List Value) (sts : List Step) (news : CbLed)
   (dp un : Nat) (gd : Option (List Code)) (cn : Str) (cs : Scope) (a : Addr) (ccd : Value) (cl : List (Str × Addr)) (outer : List Env) (A₀ : Around) (base h₀ : Heap) (L : Addr) (m : Str → Option Value) (s : Shared) (Q E : Value → Shared → Prop)
   (B : Below A₀ base outer h₀) (F : Fr h₀ L s.heap m) (X : (hd.heap_39 w.params).In h₀) (N : News h₀ L s.heap ((l, W.listOf vs.toArray k) :: news)) (T : Top topProg looseL mean mg mb h₀)
   (hk : cs.kind = .function) (hvs : StepsAre news vs sts) (hx : ∀ x ∈ sts, StepOk x) (hn : sts.length ≤ 90) (offl : ∀ p ∈ news, @Ne Nat p.1 l)
   (hdp : dp + 12 < recursionLimit) (hu : un + 110 < cLine)
   (hret : ∀ (p kp rw tA kr e1 : Nat) (rl : CbLed) (tv : List Value) (h' : Heap) (tk' : Nat), RowsL rl (dues sts due0).rs → ToldAre tv (dues sts due0).told → Fr h₀ L h' m →
     News h₀ L h' ((p, ({ cls := .type "tuple", data := .seq #[.ref tA, .ref rw] kp } : Obj)) :: dueLed rw tA kr rl tv e1 ((l, W.listOf vs.toArray k) :: news)) → Q (.ref p) { s with heap := h', toks := tk' }) :
   wpAny (model Challenge.rw_in0190_01.row.prog w) (ktrTop dp un gd cn cs L a ccd cl outer) (call (.ref 308) [.ref l]) Q E s := by
  have X0 := X
  revert X; k_fill; intro X
  refine wpAny_call ?_
  (refine' code_defC ?k1 ?k2 ?k3 ?k4 ?k5 ?kA ?kF ?kK ?k6 ?k7 ?k8 ?k9 ?kB ?kD ?_ ?c2 ?c3 ?c4; (case kA | kF => exact rfl); (case kK => assumption); (case k1 | k2 => k_asm); (case k3 | k4 | k5 => k_asm); (case k6 | k7 => k_is); (case k8 => ktr_room); (case k9 => exact BindsTo.of_eq rfl); (case kB => exact rfl); (case kD => decide +kernel); (case c2 | c3 | c4 => exact rfl); k_whole; intro g' L' h' tk' cells' FG' F' N' Y' B' X' T' l1; have hLow := low_of l1; (repeat (replace hLow := low_tail hLow)); (try k_lt l1); k_cells Y'; (try simp only [List.cons_append, List.nil_append] at N'); (try dsimp only); (try k_lift B'); (try k_fold))
  repeat' (first | (k_unfold; try dsimp only) | (k_end; kc_close) | (walk1; all_goals ((try k_fold); (try dsimp only); try with_reducible refine wpAny_tk fun _ => ?_)) | (dsimp only; walk1) | (leave1; try dsimp only))
  have X1 := X0.keeps FG'.keep
  rw [fig22]
  refine shown_c w mean mg mb 48 48 48 48 50 50 _ _ (dp + 1) (un + 3) gd _ _ _ _ _ _ _ base _ _ _ _ _ _ B' (by k_asm) X1 N' T' rfl (by decide) (by first | exact room_of hdp rfl | exact room_of (c := 5) hdp rfl | omega) (by first | exact room_of hu rfl | exact room_of (c := 27) hu rfl | omega) fun t3 h3 tk3 F3 N3 => ?_
  repeat' (first | (k_unfold; try dsimp only) | (k_end; kc_close) | (walk1; all_goals ((try k_fold); (try dsimp only); try with_reducible refine wpAny_tk fun _ => ?_)) | (dsimp only; walk1) | (leave1; try dsimp only))
  rename Fr g' L' _ _ => FA
  rename News g' L' _ _ => NA
  rename @LT.lt Nat _ _ _ ∧ @LT.lt Nat _ _ _ ∧ _ => lA
  show wpAny _ (ktrTop (dp + 1) (un + 3) gd (Str.ofString "_law_due") (dueScope (hd.heap_39 w.params)) L' 308 (.ref 307) [(Str.ofString "name", L' + 1)] (envX cn cs L a ccd cl :: outer)) (exec (dueForS (hd.heap_39 w.params)) (envX (Str.ofString "_law_due") (dueScope (hd.heap_39 w.params)) L' 308 (.ref 307) [(Str.ofString "name", L' + 1)])) _ _ _
  refine due_loop w mean mg mb _ _ _ 0 0 l k vs sts _ _ news (dp + 1) (un + 3) gd (envX cn cs L a ccd cl :: outer) _ base g' L' _ _ _ _ B' FA X1 (news_due NA) T' ?_ (by assumption) ?_ ?_ ?_ hvs hx hn rfl ⟨⟨t3, rfl⟩, rfl, rfl, rfl⟩ (by first | exact room_of hdp rfl | exact room_of (c := 5) hdp rfl | omega) (by first | exact room_of hu rfl | exact room_of (c := 27) hu rfl | omega) ?_
  · refine ⟨by omega, fun p hp => ?_, fun p hp => ?_, fun p hp => by simp at hp, List.nodup_nil⟩
    · have q2 : @LT.lt Nat _ p.1 L' := hLow p hp
      omega
    · have q2 : @LT.lt Nat _ p.1 L' := hLow p hp
      omega
  · omega
  · intro p hp
    simp only [dueLed, List.mem_cons, List.nil_append] at hp
    rcases hp with rfl | rfl | hp
    · dsimp only; omega
    · dsimp only; omega
    · exact offl p hp
  · intro p hp
    simp only [dueLed, List.mem_cons, List.nil_append] at hp
    rcases hp with rfl | rfl | hp
    · dsimp only; omega
    · dsimp only; omega
    · have q2 : @LT.lt Nat _ p.1 L' := hLow p hp
      omega
  · intro rw' kr' e1' rl tv oc m' h' tk' Rl Tl f2 f4 F4 N4
    replace F4 := fr_two F4 f2 f4
    dsimp only
    clear NA FA
    repeat' (first | (k_unfold; try dsimp only) | (k_end; kc_close) | (walk1; all_goals ((try k_fold); (try dsimp only); try with_reducible refine wpAny_tk fun _ => ?_)) | (dsimp only; walk1) | (leave1; try dsimp only))
    rename Fr h₀ L _ _ => FA
    rename News h₀ L _ _ => NA
    exact hret _ _ rw' _ kr' e1' rl tv _ _ Rl Tl FA (news_dueR NA)
end
section
theorem wpC_Compare1 {prog : Program} {w : World} {A : Around} {E : Value → Shared → Prop} {s : Shared} {env : Env} {l r : PySem.Expr} {op : CmpOp} {pos : Pos} {Q : Value → Shared → Prop}
    (h : wpC (model prog w) A (eval l env) (fun a s₁ => wpAny (model prog w) A (eval r env) (fun b s₂ => wpAny (model prog w) A (compareOp op a b) Q E s₂) E s₁) E s)
    (hm : behindInMarks op r = false := by with_unfolding_all rfl) : wpC (model prog w) A (eval (.Compare l [op] [r] pos) env) Q E s := by
  rw [eval_Compare1, markedBehindIn_of_false hm]
  refine wpC_bind (wpC_mono h (fun a s₁ h₁ => ?_) fun _ _ x => x)
  refine wpC_of ?_
  refine wpAny_bind (wpAny_holding (wpAny_mono h₁ (fun b s₂ h₂ => ?_) fun _ _ x => x))
  exact wpAny_bind (wpAny_standAt (wpAny_operating h₂))
noncomputable def lawRet (k : Frag) : List Stmt := match lawBody k with
  | _ :: _ :: r => r
  | _ => []
noncomputable def lineS (st : Step) : Str := lineOf st.deed st.name st.figs st.pad
theorem fr_hide {g h : Heap} {L : Addr} {m : Str → Option Value} {a : Addr} (F : Fr g L h m) : Fr (hideAll g [a]) L h m := ⟨F.ns, fun b o e => F.keep b o (of_hideAll _ e), by rw [hideAll_size]; exact F.above⟩
theorem fr_show {g h : Heap} {L : Addr} {m : Str → Option Value} {a : Addr} {o : Obj} (F : Fr (hideAll g [a]) L h m) (ho : h.get? a = some o) (hg : g.get? a = some o) : Fr g L h m := ⟨F.ns, fun b ob e => by
    by_cases q : b = a
    · rw [q] at e ⊢
      rw [hg] at e
      cases e
      exact ho
    · exact F.keep b ob (hideAll_get _ e (by simpa using q)), by have := F.above; rw [hideAll_size] at this; exact this⟩
theorem none_show {g : Heap} {a b : Addr} (h : (hideAll g [a]).get? b = none) (q : b ≠ a) : g.get? b = none := by
  cases e : g.get? b with
  | none => rfl
  | some o =>
    have := hideAll_get [a] e (by simpa using q)
    rw [h] at this
    cases this
theorem StepsAre.append {nw : CbLed} {ws : List Value} {tts : List Step} (h2 : StepsAre nw ws tts) : ∀ {vs : List Value} {sts : List Step}, StepsAre nw vs sts → StepsAre nw (vs ++ ws) (sts ++ tts)
  | [], [], _ => h2
  | v :: vs, st :: sts, ⟨h, r⟩ => ⟨h, StepsAre.append h2 (vs := vs) (sts := sts) r⟩
  | [], _ :: _, h => h.elim
  | _ :: _, [], h => h.elim
theorem rest_indJ {prog : Program} {w : World} {A : Around} {h₀ : Heap} {L : Addr} {m : Str → Option Value} {env : Env} {elt : PySem.Expr} {x : Str} {scope : Scope} {cl : List (Str × Addr)} {s : Shared} {S : List (Addr × Obj) → Prop} {P : Nat → Value → Prop}
    {Fin : List Value → List (Addr × Obj) → Prop} {news : List (Addr × Obj)} (N : Nat) (J : Nat → List Value → CbLed → Prop) (hJ : J 0 [] news) (h0 : ∀ ys nw, J N ys nw → Fin ys nw)
    (hs : ∀ i j ys nw, i < N → J i ys nw → (∀ ys' nw', J (i + 1) ys' nw' → LCg.CompRest prog w A h₀ L m env elt x scope cl s S P Fin j (i + 1) ys' nw') → LCg.CompRest prog w A h₀ L m env elt x scope cl s S P Fin (j + 1) i ys nw) :
    LCg.CompRest prog w A h₀ L m env elt x scope cl s S P Fin N 0 [] news := by
  have key : ∀ j i ys nw, i + j = N → J i ys nw → LCg.CompRest prog w A h₀ L m env elt x scope cl s S P Fin j i ys nw := by
    intro j
    induction j with
    | zero =>
      intro i ys nw e h
      obtain rfl : i = N := e
      exact h0 ys nw h
    | succ j ih => exact fun i ys nw e h => hs i j ys nw (by omega) h fun ys' nw' h' => ih (i + 1) ys' nw' (by omega) h'
  exact key N 0 [] news (Nat.zero_add _) hJ
theorem lines_snoc {sts : List Step} {i : Nat} {st : Step} (h : sts[i]? = some st) : (sts.take (i + 1)).map lineS = (sts.take i).map lineS ++ [lineS st] := by
  rw [List.take_add_one, h]
  simp
noncomputable def tD : Option Str → PyData
  | none => .none
  | some y => .str y
noncomputable def rD (r : Str × Str) : PyData := .list [.str r.1, .str r.2]
noncomputable def bothD (told : List (Option Str)) (rs : List (Str × Str)) : PyData := .tuple [.list (told.map tD), .list (rs.map rD)]
theorem told_reads {h : Heap} : ∀ {tv : List Value} {os : List (Option Str)}, ToldAre tv os → PySem.ReadsAll h tv (os.map tD) []
  | [], [], _ => .nil
  | v :: vs, none :: os, ⟨e, r⟩ => by
    have e : v = .none := e
    subst e
    exact .cons .none (told_reads r)
  | v :: vs, some y :: os, ⟨e, r⟩ => by
    obtain ⟨t, e⟩ : ∃ t, v = .str y t := e
    subst e
    exact .cons (.str y t) (told_reads r)
  | [], _ :: _, h => h.elim
  | _ :: _, [], h => h.elim
theorem rows_reads {h₀ h : Heap} {L : Addr} {news : CbLed} (N : News h₀ L h news) : ∀ {ys : List Value} {rs : List (Str × Str)}, RowsAt news ys rs → ∃ as, PySem.ReadsAll h ys (rs.map rD) as
  | [], [], _ => ⟨_, .nil⟩
  | v :: vs, (n, y) :: rs, ⟨⟨a, k, t, t', e, hm⟩, r⟩ => by
    subst e
    obtain ⟨as, hr⟩ := rows_reads N r
    exact ⟨_, .cons (.list (N _ hm).1 rfl rfl (.cons (.str n t) (.cons (.str y t') .nil))) hr⟩
  | [], _ :: _, h => h.elim
  | _ :: _, [], h => h.elim
theorem rowsL_at {nw : CbLed} : ∀ {l : CbLed} {rs : List (Str × Str)}, RowsL l rs → (∀ p ∈ l, p ∈ nw) → RowsAt nw (refsOf l) rs
  | [], [], _, _ => trivial
  | (a, o) :: l, (n, y) :: rs, ⟨⟨k, t, t', e⟩, r⟩, hs => by
    dsimp only at e
    subst e
    exact ⟨⟨a, k, t, t', rfl, hs _ (.head _)⟩, rowsL_at r fun p hp => hs p (.tail _ hp)⟩
  | [], _ :: _, h, _ => h.elim
  | _ :: _, [], h, _ => h.elim
theorem both_reads {h₀ h : Heap} {L : Addr} {news : CbLed} {p a b kp ka kb : Nat} {tv ys : List Value} {told : List (Option Str)} {rs : List (Str × Str)} (N : News h₀ L h news) (hp : (p, ({ cls := .type "tuple", data := .seq #[.ref a, .ref b] kp } : Obj)) ∈ news)
    (ha : (a, W.listOf tv.toArray ka) ∈ news) (hb : (b, W.listOf ys.toArray kb) ∈ news) (Tl : ToldAre tv told) (Rl : RowsAt news ys rs) : ∃ as, PySem.Reads h (.ref p) (bothD told rs) as := by
  obtain ⟨as, hr⟩ := rows_reads N Rl
  exact ⟨_, .tuple (N _ hp).1 rfl rfl (.cons (.list (N _ ha).1 rfl rfl (told_reads Tl)) (.cons (.list (N _ hb).1 rfl rfl hr) .nil))⟩
theorem can_told : ∀ {os : List (Option Str)}, (∀ o ∈ os, ∀ y, o = some y → sOk y = true) → PyData.canLayAll0 (os.map tD) = true
  | [], _ => rfl
  | none :: os, h => by
    show (true && PyData.canLayAll0 (os.map tD)) = true
    rw [Bool.true_and]
    exact can_told fun o ho => h o (.tail _ ho)
  | some y :: os, h => by
    show (sOk y && PyData.canLayAll0 (os.map tD)) = true
    rw [h _ (.head _) y rfl, Bool.true_and]
    exact can_told fun o ho => h o (.tail _ ho)
theorem can_rows : ∀ {rs : List (Str × Str)}, (∀ r ∈ rs, sOk r.1 = true ∧ sOk r.2 = true) → PyData.canLayAll0 (rs.map rD) = true
  | [], _ => rfl
  | r :: rs, h => by
    show ((sOk r.1 && (sOk r.2 && true)) && PyData.canLayAll0 (rs.map rD)) = true
    rw [(h _ (.head _)).1, (h _ (.head _)).2]
    exact can_rows fun o ho => h o (.tail _ ho)
theorem depth_told : ∀ {os : List (Option Str)}, PyData.depthAll (os.map tD) = 0
  | [] => rfl
  | none :: os => by
    show max 0 (PyData.depthAll (os.map tD)) = 0
    rw [depth_told]; rfl
  | some y :: os => by
    show max 0 (PyData.depthAll (os.map tD)) = 0
    rw [depth_told]; rfl
theorem depth_rows : ∀ {rs : List (Str × Str)}, PyData.depthAll (rs.map rD) ≤ 1
  | [] => Nat.zero_le _
  | r :: rs => by
    show max 1 (PyData.depthAll (rs.map rD)) ≤ 1
    exact Nat.max_le.mpr ⟨Nat.le_refl _, depth_rows⟩
theorem both_shaped {told : List (Option Str)} {rs : List (Str × Str)} (h1 : ∀ o ∈ told, ∀ y, o = some y → sOk y = true) (h2 : ∀ r ∈ rs, sOk r.1 = true ∧ sOk r.2 = true) : SeqAt.shaped (bothD told rs) = true := by
  unfold SeqAt.shaped
  have e1 : PyData.canLay0 (bothD told rs) = true := by
    show (PyData.canLayAll0 (told.map tD) && (PyData.canLayAll0 (rs.map rD) && true)) = true
    rw [can_told h1, can_rows h2]
    rfl
  rw [e1, Bool.true_and, decide_eq_true_eq]
  show max (PyData.depthAll (told.map tD) + 1) (max (PyData.depthAll (rs.map rD) + 1) 0) + 1 ≤ 64
  have := depth_rows (rs := rs)
  rw [depth_told]
  omega
noncomputable def lotStep (n : Int) : Step := ⟨deedOf n, nameOf n, figsOf (modeOf n), padOf n⟩
noncomputable def lotOf (ks : List Int) : List Step := ks.map fun k => lotStep (k.fmod 12582912)
theorem lotOf_snoc {ks : List Int} {i : Nat} {k : Int} (h : ks[i]? = some k) : lotOf (ks.take (i + 1)) = lotOf (ks.take i) ++ [lotStep (k.fmod 12582912)] := by
  unfold lotOf
  rw [List.take_add_one, h]
  simp
theorem StepsAre.snoc {nw : CbLed} {v : Value} {st : Step} (hv : ∃ (T j : Nat) (t0 t1 t2 t3 : Tok), v = .ref T ∧ (T, tup4 j (.str st.deed t0) (.str st.name t1) (.str st.figs t2) (.str st.pad t3)) ∈ nw) : ∀ {vs : List Value} {sts : List Step}, StepsAre nw vs sts → StepsAre nw (vs ++ [v]) (sts ++ [st])
  | [], [], _ => ⟨hv, trivial⟩
  | _ :: _, _ :: _, ⟨h, r⟩ => ⟨h, r.snoc hv⟩
  | [], _ :: _, h => h.elim
  | _ :: _, [], h => h.elim
end
section
theorem law_ret (w : World) (mean : ExcName → Option Value) (mg mb : Str → Option Value) (lo ow k : Nat) (ys os : List Value) (sL sO : List Step) (nw : CbLed)
   (dp un : Nat) (gd : Option (List Code)) (fa : Addr) (cd : Value) (A₀ : Around) (g : Heap) (L : Addr) (m : Str → Option Value) (s : Shared) (Q : Flow → Shared → Prop) (E : Value → Shared → Prop)
   (B : Below A₀ g [] g) (F : Fr g L s.heap m) (X : (hd.heap_39 w.params).In g) (N : News g L s.heap ((lo, LCg.lst ys) :: (ow, W.listOf os.toArray k) :: (100, tabObj #[]) :: (288, tabObj #[]) :: nw)) (T : Top topProg looseL mean mg mb g)
   (C1 : CodeHd g 104 100) (C2 : CodeHd g 290 288) (hH : ∀ q ∈ (lo, LCg.lst ys) :: (ow, W.listOf os.toArray k) :: nw, @Ne Nat q.1 100 ∧ @Ne Nat q.1 288) (hO : @LT.lt Nat _ 313 ow) (hLo : StepsAre nw ys sL) (hOw : StepsAre nw os sO) (m1 : m "lot" = some (.ref lo)) (m2 : m "own" = some (.ref ow))
   (hdp : dp + 30 < recursionLimit) (hu : un + 200 < cLine)
   (hS : ∀ st ∈ sL ++ sO, StepOk st ∧ st.name.length ≤ 6 ∧ st.figs.length ≤ 6 ∧ st.pad.length ≤ 2) (hX : ∀ st ∈ sL ++ sO, LineOk (lineS st)) (hn : (sL ++ sO).length ≤ 90)
   (law1 : (plays ((sL ++ sO).map lineS) ⟨18, false, [], []⟩).told = (dues (sL ++ sO) due0).told) (law2 : rowsF (plays ((sL ++ sO).map lineS) ⟨18, false, [], []⟩).rs = (dues (sL ++ sO) due0).rs) (hTok : ∀ o ∈ (dues (sL ++ sO) due0).told, ∀ y, o = some y → sOk y = true)
   (hret : ∀ (h' : Heap) (tk' : Nat) (m' : Str → Option Value) (t100 t288 : Array Value), Fr g L h' m' → News g L h' [(100, tabObj t100), (288, tabObj t288)] → Q (.ret (.bool true)) { s with heap := h', toks := tk' }) :
   wpC (model Challenge.rw_in0190_01.row.prog w) (ktrTop dp un gd (Str.ofString "law") (lawScope (hd.heap_39 w.params)) L fa cd [] []) (execs (lawRet (hd.heap_39 w.params)) (envOf (Str.ofString "law") (lawScope (hd.heap_39 w.params)) L fa cd)) Q E s := by
  have st9 := Stop.mk "call ref"
  have eb : lawRet (hd.heap_39 w.params) = [_] := rfl
  rw [eb]
  have es0 : lawScope (hd.heap_39 w.params) = _ := rfl
  rw [es0]
  clear eb es0
  have X0 := X
  replace F := fr_two F m1 m2
  revert X; k_fill; intro X
  refine wpC_execs_cons ?_
  refine wpC_Return ?_
  refine wpC_Compare1 ?_
  refine wpC_CallName ?_
  walk1
  refine wpC_callWith (P := (hd.heap_39 w.params).In) (keeps_K (by kernel_rfl)) (Calls.evalArgs_plain (x := eval _ _) (rest := []) (Calls.spliced_cons ?_))
  repeat' (first | (k_unfold; try dsimp only) | (k_end; kc_close) | (walk1; all_goals ((try k_fold); (try dsimp only); try with_reducible refine wpAny_tk fun _ => ?_)) | (dsimp only; walk1) | (leave1; try dsimp only))
  refine Halt.in ?_
  refine LCg.ListComp_U (F₀ := by k_asm) (by with_unfolding_all rfl) (by decide) (by rfl) (by decide) (by rfl) ?_
  repeat' (first | (k_unfold; try dsimp only) | (k_end; kc_close) | (walk1; all_goals ((try k_fold); (try dsimp only); try with_reducible refine wpAny_tk fun _ => ?_)) | (dsimp only; walk1) | (leave1; try dsimp only))
  have hst : StepsAre nw (ys ++ os) (sL ++ sO) := StepsAre.append hOw hLo
  have hlen : (ys ++ os).length = (sL ++ sO).length := hst.len
  refine kmk_add_lit (its := ys.toArray) (its2 := os.toArray) (zs := ys ++ os) F N ⟨_, (N _ (.head _)).1, rfl, _, rfl⟩ ⟨_, (N _ (.tail _ (.head _))).1, rfl, _, rfl⟩ (by simp) (fun D h2 F2 N2 lt => ?_) (by simp only [List.length_append] at hlen hn ⊢; rw [sizeLine_eq]; omega)
  repeat' (first | (k_unfold; try dsimp only) | (k_end; kc_close) | (walk1; all_goals ((try k_fold); (try dsimp only); try with_reducible refine wpAny_tk fun _ => ?_)) | (dsimp only; walk1) | (leave1; try dsimp only))
  refine Halt.in ?_
  have hsz : (ys ++ os).toArray.size = (sL ++ sO).length := by rw [List.size_toArray]; exact hlen
  refine LCg.CompSrc.ledger (by rfl) F2 N2 (.head _) (by rw [hsz, sizeLine_eq]; omega) ?_
  intro g'
  rw [hsz]
  refine rest_indJ _ (fun i yz nw2 => nw2 = (D, W.listOf (ys ++ os).toArray 0) :: (lo, LCg.lst ys) :: (ow, W.listOf os.toArray k) :: (100, tabObj #[]) :: (288, tabObj #[]) :: nw ∧ StrsAre yz (((sL ++ sO).take i).map lineS)) ⟨rfl, .nil⟩ ?_ ?_
  · rintro yz nw2 ⟨rfl, hstr⟩
    rw [List.take_length] at hstr
    intro D2 h3 tk3 F3 N3 off3
    have off1 := off1_mem off3
    clear N2 F2
    refine Calls.spliced_nil ⟨X0.keeps F3.keep, ?_⟩
    dsimp only
    refine wpC_call ?_
    have q2 : @LT.lt Nat _ ow D := lt _ (.tail _ (.head _))
    refine play_c w mean mg mb D2 yz.length yz ((sL ++ sO).map lineS) ((D, W.listOf (ys ++ os).toArray 0) :: (lo, LCg.lst ys) :: (ow, W.listOf os.toArray k) :: nw) dp un gd _ _ fa cd [] A₀ g g L _ _ _ B F3 X0 (PySem.W.KStt.news_of N3 fun q hq => ?_) T X0 T C1 C2 ?_ ?_ ⟨Ne.symm (off1 _ (.tail _ (.tail _ (.tail _ (.head _))))), Ne.symm (off1 _ (.tail _ (.tail _ (.tail _ (.tail _ (.head _))))))⟩ D _ (.head _) (by omega) rfl (by first | exact room_of hdp rfl | exact room_of (c := 5) hdp rfl | omega) (by first | exact room_of hu rfl | exact room_of (c := 27) hu rfl | omega) hstr ?_ ?_ ?_ ?_
    · first | (revert q; (repeat (first | exact sub_nil | (refine sub_cons ?_ ?_; (· repeat (first | assumption | exact List.Mem.head _ | refine List.Mem.tail _ ?_))) | refine sub_app ?_ ?_ | (intro p hp; (repeat (first | exact hp | exact List.mem_append_left _ hp | exact List.mem_append_right _ hp | refine List.Mem.tail _ ?_))))); done) | (simp only [List.mem_cons] at hq ⊢; rcases hq with h | h | h | h | h | h | h <;> first | ((repeat (first | exact h | exact Or.inl h | refine Or.inr ?_)); done) | simp only [h, true_or, or_true])
    · intro q hq
      rcases List.mem_cons.mp hq with rfl | hq
      · exact (show @Ne Nat D 100 by omega)
      · exact (hH q hq).1
    · intro q hq
      rcases List.mem_cons.mp hq with rfl | hq
      · exact (show @Ne Nat D 288 by omega)
      · exact (hH q hq).2
    · intro x hx
      obtain ⟨st, hst2, rfl⟩ := List.mem_map.mp hx
      exact hX st hst2
    · rw [List.length_map]; omega
    · intro q hq
      refine off1 q ?_
      first | (revert q; (repeat (first | exact sub_nil | (refine sub_cons ?_ ?_; (· repeat (first | assumption | exact List.Mem.head _ | refine List.Mem.tail _ ?_))) | refine sub_app ?_ ?_ | (intro p hp; (repeat (first | exact hp | exact List.mem_append_left _ hp | exact List.mem_append_right _ hp | refine List.Mem.tail _ ?_))))); done) | (simp only [List.mem_cons] at hq ⊢; rcases hq with h | h | h | h <;> first | ((repeat (first | exact h | exact Or.inl h | refine Or.inr ?_)); done) | simp only [h, true_or, or_true])
    · intro p Dr kp tA e1 ysr tv nwr t100 t288 h4 tk4 Rw Tl i1 i2 i3 i4 hsub F4 N4
      rw [law1] at Tl
      rw [law2] at Rw
      have N5 : News g L h4 ((lo, LCg.lst ys) :: (ow, W.listOf os.toArray k) :: (p, ({ cls := .type "tuple", data := .seq #[.ref tA, .ref Dr] kp } : Obj)) :: (Dr, LCg.lst ysr) :: nwr) := fun q hq => by
        rcases List.mem_cons.mp hq with rfl | hq
        · exact N4 _ (.tail _ (.tail _ (hsub _ (.tail _ (.head _)))))
        · rcases List.mem_cons.mp hq with rfl | hq
          · exact N4 _ (.tail _ (.tail _ (hsub _ (.tail _ (.tail _ (.head _))))))
          · exact N4 q hq
      clear N4 N3 F3
      dsimp only
      repeat' (first | (k_unfold; try dsimp only) | (k_end; kc_close) | (walk1; all_goals ((try k_fold); (try dsimp only); try with_reducible refine wpAny_tk fun _ => ?_)) | (dsimp only; walk1) | (leave1; try dsimp only))
      refine Halt.in ?_
      have off5 : ∀ q ∈ (lo, LCg.lst ys) :: (ow, W.listOf os.toArray k) :: (p, ({ cls := .type "tuple", data := .seq #[.ref tA, .ref Dr] kp } : Obj)) :: (Dr, LCg.lst ysr) :: nwr, @Ne Nat q.1 h4.objs.size := fun q hq => Nat.ne_of_lt (Heap.lt_size (N5 q hq).1)
      clear N5 F4
      rename Fr g L _ _ => F6
      rename News g L _ _ => N6
      have hst5 : StepsAre ((lo, LCg.lst ys) :: (ow, W.listOf os.toArray k) :: (p, ({ cls := .type "tuple", data := .seq #[.ref tA, .ref Dr] kp } : Obj)) :: (Dr, LCg.lst ysr) :: nwr) (ys ++ os) (sL ++ sO) := hst.mono fun q hq => .tail _ (.tail _ (.tail _ (.tail _ (hsub q (.tail _ (.tail _ (.tail _ hq)))))))
      refine due_c w mean mg mb h4.objs.size 0 (ys ++ os) (sL ++ sO) _ dp un gd _ _ fa cd [] [] A₀ g g L _ _ _ _ B F6 X0 N6 T rfl hst5 (fun st hs => (hS st hs).1) hn off5 (by first | exact room_of hdp rfl | exact room_of (c := 5) hdp rfl | omega) (by first | exact room_of hu rfl | exact room_of (c := 27) hu rfl | omega) fun p2 kp2 rw2 tA2 kr2 e2 rl2 tv2 h7 tk7 Rl2 Tl2 F7 N7 => ?_
      have hsh := both_shaped hTok (dues_ok (sts := sL ++ sO) (σ := due0) (fun st hs => (hS st hs).1) ⟨List.nodup_nil, by simp [due0], shF_ok _ _ _⟩).rows
      have up : ∀ q ∈ nwr, q ∈ dueLed rw2 tA2 kr2 rl2 tv2 e2 ((h4.objs.size, W.listOf (ys ++ os).toArray 0) :: (lo, LCg.lst ys) :: (ow, W.listOf os.toArray k) :: (p, ({ cls := .type "tuple", data := .seq #[.ref tA, .ref Dr] kp } : Obj)) :: (Dr, LCg.lst ysr) :: nwr) := fun q hq => .tail _ (.tail _ (List.mem_append_right _ (.tail _ (.tail _ (.tail _ (.tail _ (.tail _ hq)))))))
      obtain ⟨as, ra⟩ := both_reads N7 (p := p) (a := tA) (b := Dr) (.tail _ (.tail _ (.tail _ (List.mem_append_right _ (.tail _ (.tail _ (.tail _ (.head _)))))))) (.tail _ (up _ i1)) (.tail _ (.tail _ (.tail _ (List.mem_append_right _ (.tail _ (.tail _ (.tail _ (.tail _ (.head _))))))))) Tl (Rw.mono fun q hq => .tail _ (up q hq))
      obtain ⟨bs, rb⟩ := both_reads N7 (p := p2) (a := tA2) (b := rw2) (.head _) (.tail _ (.tail _ (.head _))) (.tail _ (.head _)) Tl2 (rowsL_at Rl2 fun q hq => .tail _ (.tail _ (.tail _ (List.mem_append_left _ hq))))
      refine eq_dataH ra rb hsh hsh (by show un + 64 < cLine; omega) ?_
      rw [SeqAt.eqv_refl _ (SeqAt.canLay_of_shaped hsh)]
      refine hret _ _ _ t100 t288 F7 fun q hq => ?_
      simp only [List.mem_cons, List.not_mem_nil, or_false] at hq
      rcases hq with rfl | rfl
      · exact N7 _ (.tail _ (up _ i2))
      · exact N7 _ (.tail _ (up _ i3))
  · rintro i j yz nw2 hi ⟨rfl, hstr⟩ ih
    refine LCg.CompRest.succ ?_
    intro v I oI C oC D2 m₂ h tk E' hv hC hx F' N' off' ne'
    obtain ⟨st, hsti, T0, j0, t0, t1, t2, t3, rfl, hm⟩ := hst.get (by rw [List.getElem?_toArray] at hv; exact hv)
    obtain ⟨_, z1, z2, z3⟩ := hS st (List.mem_of_getElem? hsti)
    clear N2 F2
    repeat' (first | (k_unfold; try dsimp only) | (k_end; kc_close) | (walk1; all_goals ((try k_fold); (try dsimp only); try with_reducible refine wpAny_tk fun _ => ?_)) | (dsimp only; walk1) | (leave1; try dsimp only))
    refine Halt.in ?_
    have N4 : News g L h ((T0, tup4 j0 (.str st.deed t0) (.str st.name t1) (.str st.figs t2) (.str st.pad t3)) :: (I, oI) :: (C, oC) :: (D2, LCg.lst yz) :: (D, W.listOf (ys ++ os).toArray 0) :: (lo, LCg.lst ys) :: (ow, W.listOf os.toArray k) :: (100, tabObj #[]) :: (288, tabObj #[]) :: nw) := fun q hq => by
      rcases List.mem_cons.mp hq with rfl | hq
      · exact N' _ (.tail _ (.tail _ (.tail _ (.tail _ (.tail _ (.tail _ (.tail _ (.tail _ hm))))))))
      · exact N' q hq
    refine lin_c w mean mg mb _ T0 j0 st.deed st.name st.figs st.pad t0 t1 t2 t3 _ _ _ _ _ _ _ _ _ A₀ g g L _ _ _ _ B F' X0 N4 T rfl z1 z2 z3 (by first | exact room_of hdp rfl | exact room_of (c := 5) hdp rfl | omega) (by first | exact room_of hu rfl | exact room_of (c := 27) hu rfl | omega) fun t9 h9 tk9 F9 N9 => ?_
    clear N4 N'
    repeat' (first | (k_unfold; try dsimp only) | (k_end; kc_close) | (walk1; all_goals ((try k_fold); (try dsimp only); try with_reducible refine wpAny_tk fun _ => ?_)) | (dsimp only; walk1) | (leave1; try dsimp only))
    refine CompEnd_same F9 (PySem.W.KStt.news_of N9 fun q hq => .tail _ hq) off' (.inr ⟨_, .head _, rfl, _, rfl⟩) ?_
    refine ih _ _ ⟨rfl, ?_⟩
    rw [lines_snoc hsti]
    exact PySem.W.KStt.strs_snoc hstr
end
section
section
open Builtin Builtin.Str StrLaws
theorem occ_stay (s sub : Str) (hi : Nat) : ∀ (l : List Nat) (st : Array Nat × Nat), st.fst.size = 1 → (forIn l st (occBody s sub hi 1)).run.fst = st.fst
  | [], st, _ => rfl
  | a :: l, st, h => by
    rw [List.forIn_cons]
    unfold occBody
    rw [if_neg (fun q => by have := q.1.1.1; omega)]
    exact occ_stay s sub hi l st h
theorem occ_hit (s sub : Str) (hi n : Nat) (l2 : List Nat) (hc : n + sub.length ≤ hi ∧ subAt s sub n = true) : ∀ (l1 : List Nat) (free : Nat), free ≤ n → (∀ i ∈ l1, ¬ (i + sub.length ≤ hi ∧ subAt s sub i = true)) →
    (forIn (l1 ++ n :: l2) ((#[] : Array Nat), free) (occBody s sub hi 1)).run.fst = #[n]
  | [], free, hf, _ => by
    rw [List.nil_append, List.forIn_cons]
    unfold occBody
    rw [if_pos ⟨⟨⟨by simp, hf⟩, hc.1⟩, hc.2⟩]
    exact occ_stay s sub hi l2 _ rfl
  | a :: l1, free, hf, h => by
    rw [List.cons_append, List.forIn_cons]
    unfold occBody
    rw [if_neg (fun q => h a (.head _) ⟨q.1.2, q.2⟩)]
    exact occ_hit s sub hi n l2 hc l1 free hf fun i hi' => h i (.tail _ hi')
theorem eq_sign : Str.ofString "=" = ⟨#[61]⟩ := by decide +kernel
theorem kind_one : Builtin.Str.strKind ⟨#[61]⟩ = 1 := by decide +kernel
theorem kind_pos (x : Str) : ¬ (Builtin.Str.strKind x < 1) := by
  unfold Builtin.Str.strKind
  split
  · omega
  · split <;> omega
theorem split_one {a b : List Nat} (ha : 61 ∉ a) : Txt.splitMax ⟨(a ++ 61 :: b).toArray⟩ (Str.ofString "=") 1 = [⟨a.toArray⟩, ⟨b.toArray⟩] := by
  rw [eq_sign]
  have hl : (⟨(a ++ 61 :: b).toArray⟩ : Str).length = a.length + (b.length + 1) := by simp [Str.length]
  have hocc : occurrences ⟨(a ++ 61 :: b).toArray⟩ ⟨#[61]⟩ 0 (⟨(a ++ 61 :: b).toArray⟩ : Str).length 1 = [a.length] := by
    rw [occ_eq]
    have hr : List.range' 0 ((⟨(a ++ 61 :: b).toArray⟩ : Str).length + 1 - 0) = List.range' 0 a.length ++ a.length :: List.range' (a.length + 1) (b.length + 1) := by
      rw [hl, show a.length + (b.length + 1) + 1 - 0 = a.length + (b.length + 2) from rfl, ← List.range'_append_1]
      simp [List.range'_succ]
    rw [hr, occ_hit _ _ _ _ _ ?_ _ _ (Nat.zero_le _) ?_]
    · rw [subAt_one]
      simp
    · intro i hi
      rw [subAt_one]
      have hi' : i < a.length := by simpa [List.mem_range'] using hi
      intro q
      rw [show (⟨(a ++ 61 :: b).toArray⟩ : Str).cps.toList = a ++ 61 :: b from rfl, List.getElem?_append_left hi'] at q
      exact ha (List.mem_of_getElem? q)
  have h1 : (decide ((⟨(a ++ 61 :: b).toArray⟩ : Str).length < (⟨#[61]⟩ : Str).length) || decide (strKind ⟨(a ++ 61 :: b).toArray⟩ < strKind ⟨#[61]⟩)) = false := by
    rw [Bool.or_eq_false_iff, decide_eq_false_iff_not, decide_eq_false_iff_not, kind_one]
    refine ⟨?_, kind_pos _⟩
    rw [hl]
    exact Nat.not_lt.mpr (Nat.le_trans (Nat.le_add_left 1 _) (Nat.le_add_left _ _))
  unfold Txt.splitMax
  rw [h1, if_neg Bool.false_ne_true]
  rw [show limitOf (⟨(a ++ 61 :: b).toArray⟩ : Str) 1 = 1 from rfl, hocc]
  rw [if_neg (by simp)]
  unfold partsBetween strSub
  simp [Str.length]
  exact List.take_of_length_le (by omega)
theorem split_none {a : List Nat} (ha : 61 ∉ a) : Txt.splitMax ⟨a.toArray⟩ (Str.ofString "=") 1 = [⟨a.toArray⟩] := by
  rw [eq_sign]
  have h := found_one ⟨a.toArray⟩ 61
  rw [decide_eq_false (by simpa using ha)] at h
  have h2 : (occurrences ⟨a.toArray⟩ ⟨#[61]⟩ 0 (⟨a.toArray⟩ : Str).length 1).isEmpty = true := by simpa using h
  unfold Txt.splitMax
  rw [show limitOf (⟨a.toArray⟩ : Str) 1 = 1 from rfl]
  rw [if_pos h2]
  split <;> rfl
theorem tw_all {p : Nat → Bool} {a b : List Nat} (h : ∀ c ∈ a, p c = true) : (a ++ b).takeWhile p = a ++ b.takeWhile p := by
  induction a with
  | nil => rfl
  | cons c a ih =>
    rw [List.cons_append, List.takeWhile_cons, if_pos (h c (.head _)), ih fun x hx => h x (.tail _ hx)]
    rfl
theorem strip_mid {p m q : List Nat} (hp : ∀ c ∈ p, Unicode.isSpace c = true) (hq : ∀ c ∈ q, Unicode.isSpace c = true) (hm : ∀ c ∈ m.head?, Unicode.isSpace c = false) (hm' : ∀ c ∈ m.getLast?, Unicode.isSpace c = false) (hne : m ≠ []) :
    Txt.strip ⟨(p ++ (m ++ q)).toArray⟩ = ⟨m.toArray⟩ := by
  have e1 : (m ++ q).takeWhile Unicode.isSpace = [] := by
    cases m with
    | nil => exact absurd rfl hne
    | cons c m =>
      rw [List.cons_append, List.takeWhile_cons, if_neg (by rw [hm c rfl]; exact Bool.false_ne_true)]
  have hlo : stripLo Unicode.isSpace true (⟨(p ++ (m ++ q)).toArray⟩ : Str) = p.length := by
    simp only [stripLo, if_true]
    show ((p ++ (m ++ q)).takeWhile Unicode.isSpace).length = p.length
    rw [tw_all hp, e1, List.append_nil]
  have e2 : ((p ++ (m ++ q)).drop p.length).reverse.takeWhile Unicode.isSpace = q.reverse := by
    rw [List.drop_left, List.reverse_append, tw_all (fun c hc => hq c (List.mem_reverse.mp hc))]
    have : m.reverse.takeWhile Unicode.isSpace = [] := by
      cases hr : m.reverse with
      | nil => rfl
      | cons c r =>
        have : m.getLast? = some c := by rw [List.getLast?_eq_head?_reverse, hr]; rfl
        rw [List.takeWhile_cons, if_neg (by rw [hm' c this]; exact Bool.false_ne_true)]
    rw [this, List.append_nil]
  have hhi : stripHi Unicode.isSpace true (⟨(p ++ (m ++ q)).toArray⟩ : Str) p.length = p.length + m.length := by
    simp only [stripHi, if_true]
    show (⟨(p ++ (m ++ q)).toArray⟩ : Str).length - (((p ++ (m ++ q)).drop p.length).reverse.takeWhile Unicode.isSpace).length = _
    rw [e2]
    show (p ++ (m ++ q)).length - q.reverse.length = _
    rw [List.length_reverse, List.length_append, List.length_append, ← Nat.add_assoc]
    exact Nat.add_sub_cancel ..
  unfold Txt.strip
  rw [PyProof.Rows.stripBy_eq, hlo, hhi]
  unfold strSub
  refine Str.ext' ?_
  simp
end
theorem find_dig (c : Nat) (h1 : 48 ≤ c) (h2 : c < 56) : Txt.find (Str.ofString "01234567") ⟨#[c]⟩ = (c : Int) - 48 := by
  have : c = 48 ∨ c = 49 ∨ c = 50 ∨ c = 51 ∨ c = 52 ∨ c = 53 ∨ c = 54 ∨ c = 55 := oct8 h1 h2
  rcases this with rfl | rfl | rfl | rfl | rfl | rfl | rfl | rfl <;> decide +kernel
noncomputable def numN (c0 c1 c2 c3 c4 c5 : Nat) : Nat := (((((c0 - 48) * 8 + (c1 - 48)) * 8 + (c2 - 48)) * 8 + (c3 - 48)) * 8 + (c4 - 48)) * 8 + (c5 - 48)
theorem dig_first {c : Nat} (h : 48 ≤ c) : (0 : Int) * 8 + ((c : Int) - 48) = ((c - 48 : Nat) : Int) := by
  rw [Int.zero_mul, Int.zero_add, Int.natCast_sub h]
  rfl
theorem dig_step {a : Int} {n c : Nat} (e : a = (n : Int)) (h : 48 ≤ c) : a * 8 + ((c : Int) - 48) = ((n * 8 + (c - 48) : Nat) : Int) := by
  rw [e, Int.natCast_add, Int.natCast_mul, Int.natCast_sub h]
  rfl
theorem dgl {c k : Nat} (h : c < 48 + k) (hk : 0 < k) : c - 48 < k := by omega
theorem dig_lt {n B c : Nat} (h : n < B) (h2 : c < 56) : n * 8 + (c - 48) < B * 8 := Nat.lt_of_lt_of_le (Nat.add_lt_add_left (dgl (k := 8) h2 (by decide)) _) (by rw [← Nat.succ_mul]; exact Nat.mul_le_mul_right 8 h)
theorem num_six (c0 c1 c2 c3 c4 c5 : Nat) (h : sgOk c0 c1 c2 c3 c4 c5) : numF ⟨#[c0, c1, c2, c3, c4, c5]⟩ = (numN c0 c1 c2 c3 c4 c5 : Int) := by
  obtain ⟨a0, b0, a1, b1, a2, b2, a3, b3, a4, b4, a5, b5⟩ := h
  have e : signs ⟨#[c0, c1, c2, c3, c4, c5]⟩ = [⟨#[c0]⟩, ⟨#[c1]⟩, ⟨#[c2]⟩, ⟨#[c3]⟩, ⟨#[c4]⟩, ⟨#[c5]⟩] := rfl
  unfold numF
  rw [e]
  simp only [List.foldl_cons, List.foldl_nil]
  rw [find_dig c0 a0 (Nat.lt_trans b0 (by decide)), find_dig c1 a1 b1, find_dig c2 a2 b2, find_dig c3 a3 b3, find_dig c4 a4 b4, find_dig c5 a5 b5]
  unfold numN
  exact dig_step (dig_step (dig_step (dig_step (dig_step (dig_first a0) a1) a2) a3) a4) a5
theorem numN_lt (c0 c1 c2 c3 c4 c5 : Nat) (h : sgOk c0 c1 c2 c3 c4 c5) : numN c0 c1 c2 c3 c4 c5 < 65536 := by
  obtain ⟨a0, b0, a1, b1, a2, b2, a3, b3, a4, b4, a5, b5⟩ := h
  unfold numN
  exact Nat.lt_of_lt_of_eq (dig_lt (dig_lt (dig_lt (dig_lt (dig_lt (dgl (k := 2) b0 (by decide)) b1) b2) b3) b4) b5) rfl
end
section
theorem and_pow2 (n i : Nat) : n &&& 2 ^ i = (n.testBit i).toNat * 2 ^ i := by
  refine Nat.eq_of_testBit_eq fun j => ?_
  rw [Nat.testBit_and, Nat.testBit_two_pow]
  by_cases h : i = j
  · subst h
    cases hb : n.testBit i <;> simp [Nat.testBit_two_pow]
  · cases hb : n.testBit i <;> simp [h, Nat.testBit_two_pow]
theorem tb_dig {x d : Nat} (h : d < 8) (j : Nat) : (x * 8 + d).testBit j = if j < 3 then d.testBit j else x.testBit (j - 3) := by
  have := Nat.testBit_two_pow_mul_add x (b := d) (i := 3) h j
  rw [Nat.mul_comm x 8]
  exact this
theorem and_dig {a r m t : Nat} (h1 : r < 8) (h2 : t < 8) : (a * 8 + r) &&& (m * 8 + t) = (a &&& m) * 8 + (r &&& t) := by
  refine Nat.eq_of_testBit_eq fun j => ?_
  have h3 : r &&& t < 8 := Nat.lt_of_le_of_lt Nat.and_le_left h1
  rw [Nat.testBit_and, tb_dig h1, tb_dig h2, tb_dig h3]
  split
  · rw [Nat.testBit_and]
  · rw [Nat.testBit_and]
theorem test_pow {i N k : Nat} {b : Int} (hi : i ≠ 0) (hb : b = ((2 ^ k : Nat) : Int)) : fmTest i (N : Int) b = N.testBit k := by
  subst hb
  unfold fmTest
  rw [if_neg hi, PyProof.Rows.bitAnd_pp (Int.natCast_nonneg _) (Int.natCast_nonneg _), Int.toNat_natCast, Int.toNat_natCast, and_pow2]
  have hp : 0 < 2 ^ k := Nat.two_pow_pos k
  cases N.testBit k
  · simp only [Bool.toNat_false, Nat.zero_mul, decide_eq_false_iff_not]
    intro q
    have := Int.ofNat.inj q
    omega
  · simp
theorem test_two {i N k j M : Nat} {b : Int} (hi : i ≠ 0) (hM : M = 2 ^ k ||| 2 ^ j) (hb : b = (M : Int)) (hk : M ≠ 0) (hk1 : M ≠ 2 ^ k) (hk2 : M ≠ 2 ^ j) : fmTest i (N : Int) b = (N.testBit k && N.testBit j) := by
  subst hb
  unfold fmTest
  rw [if_neg hi, PyProof.Rows.bitAnd_pp (Int.natCast_nonneg _) (Int.natCast_nonneg _), Int.toNat_natCast, Int.toNat_natCast]
  have e : N &&& M = ((N.testBit k).toNat * 2 ^ k) ||| ((N.testBit j).toNat * 2 ^ j) := by rw [hM, Nat.and_or_distrib_left, and_pow2, and_pow2]
  rw [e]
  cases N.testBit k <;> cases N.testBit j
  · simp only [Bool.toNat_false, Nat.zero_mul, Nat.or_zero, Bool.and_self, decide_eq_false_iff_not]
    exact fun q => hk (Int.ofNat.inj q).symm
  · simp only [Bool.toNat_false, Nat.zero_mul, Nat.zero_or, Bool.toNat_true, Nat.one_mul, Bool.and_true, decide_eq_false_iff_not]
    exact fun q => hk2 (Int.ofNat.inj q).symm
  · simp only [Bool.toNat_false, Nat.zero_mul, Nat.or_zero, Bool.toNat_true, Nat.one_mul, Bool.and_false, decide_eq_false_iff_not]
    exact fun q => hk1 (Int.ofNat.inj q).symm
  · simp only [Bool.toNat_true, Nat.one_mul, Bool.and_self, decide_eq_true_eq]
    rw [hM]
theorem fmC_one {i N k c : Nat} {b : Int} (ht : fmTab i = [(b, c)]) (hi : i ≠ 0) (hb : b = ((2 ^ k : Nat) : Int)) : fmC (N : Int) i = if N.testBit k = true then c else 45 := by
  unfold fmC
  rw [ht]
  simp only [List.find?_cons, List.find?_nil, test_pow hi hb, if_neg hi]
  cases N.testBit k <;> rfl
theorem fmC_three {i N k j M c1 c2 c3 : Nat} {b1 b2 b3 : Int} (ht : fmTab i = [(b1, c1), (b2, c2), (b3, c3)]) (hi : i ≠ 0) (hM : M = 2 ^ k ||| 2 ^ j) (h1 : b1 = (M : Int)) (h2 : b2 = ((2 ^ k : Nat) : Int)) (h3 : b3 = ((2 ^ j : Nat) : Int)) (hk : M ≠ 0) (hk1 : M ≠ 2 ^ k) (hk2 : M ≠ 2 ^ j) :
    fmC (N : Int) i = if N.testBit k = true then (if N.testBit j = true then c1 else c2) else (if N.testBit j = true then c3 else 45) := by
  unfold fmC
  rw [ht]
  simp only [List.find?_cons, List.find?_nil, test_two hi hM h1 hk hk1 hk2, test_pow hi h2, test_pow hi h3, if_neg hi]
  cases N.testBit k <;> cases N.testBit j <;> rfl
theorem numN_shape (c0 c1 c2 c3 c4 c5 : Nat) : numN c0 c1 c2 c3 c4 c5 = (((((c0 - 48) * 8 + (c1 - 48)) * 8 + (c2 - 48)) * 8 + (c3 - 48)) * 8 + (c4 - 48)) * 8 + (c5 - 48) := rfl
theorem num_typ {c0 c1 c2 c3 c4 c5 : Nat} (h : sgOk c0 c1 c2 c3 c4 c5) : numN c0 c1 c2 c3 c4 c5 &&& 61440 = ((c0 - 48) * 8 + (c1 - 48)) * 4096 := by
  obtain ⟨a0, b0, a1, b1, a2, b2, a3, b3, a4, b4, a5, b5⟩ := h
  have e : 61440 = (((15 * 8 + 0) * 8 + 0) * 8 + 0) * 8 + 0 := rfl
  rw [numN_shape, e, and_dig (dgl b5 (by decide)) (by decide), and_dig (dgl b4 (by decide)) (by decide), and_dig (dgl b3 (by decide)) (by decide), and_dig (dgl b2 (by decide)) (by decide)]
  have e2 : ((c0 - 48) * 8 + (c1 - 48)) &&& 15 = (c0 - 48) * 8 + (c1 - 48) := by
    have h0 : c0 = 48 ∨ c0 = 49 := oct2 a0 b0
    have h1 : c1 = 48 ∨ c1 = 49 ∨ c1 = 50 ∨ c1 = 51 ∨ c1 = 52 ∨ c1 = 53 ∨ c1 = 54 ∨ c1 = 55 := oct8 a1 b1
    rcases h0 with rfl | rfl <;> rcases h1 with rfl | rfl | rfl | rfl | rfl | rfl | rfl | rfl <;> rfl
  rw [e2]
  simp only [Nat.and_zero, Nat.add_zero, Nat.mul_assoc]
theorem fm_typ {c0 c1 c2 c3 c4 c5 : Nat} (h : sgOk c0 c1 c2 c3 c4 c5) : fmC (numN c0 c1 c2 c3 c4 c5 : Int) 0 = typC c0 c1 := by
  have e := num_typ h
  have e2 : Builtin.bitAnd (numN c0 c1 c2 c3 c4 c5 : Int) 61440 = ((((c0 - 48) * 8 + (c1 - 48)) * 4096 : Nat) : Int) := by
    rw [PyProof.Rows.bitAnd_pp (Int.natCast_nonneg _) (by decide), Int.toNat_natCast, ← e]
    rfl
  unfold fmC fmTest
  simp only [if_true, e2]
  obtain ⟨a0, b0, a1, b1, _⟩ := h
  have h0 : c0 = 48 ∨ c0 = 49 := oct2 a0 b0
  have h1 : c1 = 48 ∨ c1 = 49 ∨ c1 = 50 ∨ c1 = 51 ∨ c1 = 52 ∨ c1 = 53 ∨ c1 = 54 ∨ c1 = 55 := oct8 a1 b1
  rcases h0 with rfl | rfl <;> rcases h1 with rfl | rfl | rfl | rfl | rfl | rfl | rfl | rfl <;> rfl
theorem r_bit {c : Nat} (h1 : 48 ≤ c) (h2 : c < 56) : (if (c - 48).testBit 2 = true then 114 else 45) = rC c := by
  rcases oct8 h1 h2 with rfl | rfl | rfl | rfl | rfl | rfl | rfl | rfl <;> rfl
theorem w_bit {c : Nat} (h1 : 48 ≤ c) (h2 : c < 56) : (if (c - 48).testBit 1 = true then 119 else 45) = wC c := by
  rcases oct8 h1 h2 with rfl | rfl | rfl | rfl | rfl | rfl | rfl | rfl <;> rfl
theorem sp_bit0 {c : Nat} (h1 : 48 ≤ c) (h2 : c < 56) : (c - 48).testBit 2 = spB 0 c := by
  rcases oct8 h1 h2 with rfl | rfl | rfl | rfl | rfl | rfl | rfl | rfl <;> rfl
theorem sp_bit1 {c : Nat} (h1 : 48 ≤ c) (h2 : c < 56) : (c - 48).testBit 1 = spB 1 c := by
  rcases oct8 h1 h2 with rfl | rfl | rfl | rfl | rfl | rfl | rfl | rfl <;> rfl
theorem sp_bit2 {c : Nat} (h1 : 48 ≤ c) (h2 : c < 56) : (c - 48).testBit 0 = spB 2 c := by
  rcases oct8 h1 h2 with rfl | rfl | rfl | rfl | rfl | rfl | rfl | rfl <;> rfl
theorem x_bit {c a b : Nat} (s : Bool) (h1 : 48 ≤ c) (h2 : c < 56) : (if s = true then (if (c - 48).testBit 0 = true then a else b) else (if (c - 48).testBit 0 = true then 120 else 45)) = (if s = true then (if xC c = 120 then a else b) else xC c) := by
  cases s <;> rcases oct8 h1 h2 with rfl | rfl | rfl | rfl | rfl | rfl | rfl | rfl <;> rfl
theorem fm_num {c0 c1 c2 c3 c4 c5 : Nat} (h : sgOk c0 c1 c2 c3 c4 c5) : fmF (numN c0 c1 c2 c3 c4 c5 : Int) = sgF c0 c1 c2 c3 c4 c5 := by
  have e0 := fm_typ h
  obtain ⟨a0, b0, a1, b1, a2, b2, a3, b3, a4, b4, a5, b5⟩ := h
  have d2 : c2 - 48 < 8 := dgl b2 (by decide)
  have d3 : c3 - 48 < 8 := dgl b3 (by decide)
  have d4 : c4 - 48 < 8 := dgl b4 (by decide)
  have d5 : c5 - 48 < 8 := dgl b5 (by decide)
  have e1 : fmC (numN c0 c1 c2 c3 c4 c5 : Int) 1 = rC c3 := by
    rw [fmC_one (k := 8) rfl (by decide) rfl, ← r_bit a3 b3, numN_shape, tb_dig d5, tb_dig d4, tb_dig d3]
    rfl
  have e2 : fmC (numN c0 c1 c2 c3 c4 c5 : Int) 2 = wC c3 := by
    rw [fmC_one (k := 7) rfl (by decide) rfl, ← w_bit a3 b3, numN_shape, tb_dig d5, tb_dig d4, tb_dig d3]
    rfl
  have e4 : fmC (numN c0 c1 c2 c3 c4 c5 : Int) 4 = rC c4 := by
    rw [fmC_one (k := 5) rfl (by decide) rfl, ← r_bit a4 b4, numN_shape, tb_dig d5, tb_dig d4]
    rfl
  have e5 : fmC (numN c0 c1 c2 c3 c4 c5 : Int) 5 = wC c4 := by
    rw [fmC_one (k := 4) rfl (by decide) rfl, ← w_bit a4 b4, numN_shape, tb_dig d5, tb_dig d4]
    rfl
  have e7 : fmC (numN c0 c1 c2 c3 c4 c5 : Int) 7 = rC c5 := by
    rw [fmC_one (k := 2) rfl (by decide) rfl, ← r_bit a5 b5, numN_shape, tb_dig d5]
    rfl
  have e8 : fmC (numN c0 c1 c2 c3 c4 c5 : Int) 8 = wC c5 := by
    rw [fmC_one (k := 1) rfl (by decide) rfl, ← w_bit a5 b5, numN_shape, tb_dig d5]
    rfl
  have e3 : fmC (numN c0 c1 c2 c3 c4 c5 : Int) 3 = if spB 0 c2 = true then (if xC c3 = 120 then loC 0 else upC 0) else xC c3 := by
    rw [fmC_three (k := 11) (j := 6) (M := 2112) rfl (by decide) rfl rfl rfl rfl (by decide) (by decide) (by decide), ← x_bit _ a3 b3, ← sp_bit0 a2 b2, numN_shape, tb_dig d5, tb_dig d4, tb_dig d3, tb_dig d2, tb_dig d5, tb_dig d4, tb_dig d3]
    rfl
  have e6 : fmC (numN c0 c1 c2 c3 c4 c5 : Int) 6 = if spB 1 c2 = true then (if xC c4 = 120 then loC 1 else upC 1) else xC c4 := by
    rw [fmC_three (k := 10) (j := 3) (M := 1032) rfl (by decide) rfl rfl rfl rfl (by decide) (by decide) (by decide), ← x_bit _ a4 b4, ← sp_bit1 a2 b2, numN_shape, tb_dig d5, tb_dig d4, tb_dig d3, tb_dig d2, tb_dig d5, tb_dig d4]
    rfl
  have e9 : fmC (numN c0 c1 c2 c3 c4 c5 : Int) 9 = if spB 2 c2 = true then (if xC c5 = 120 then loC 2 else upC 2) else xC c5 := by
    rw [fmC_three (k := 9) (j := 0) (M := 513) rfl (by decide) rfl rfl rfl rfl (by decide) (by decide) (by decide), ← x_bit _ a5 b5, ← sp_bit2 a2 b2, numN_shape, tb_dig d5, tb_dig d4, tb_dig d3, tb_dig d2, tb_dig d5]
    rfl
  unfold fmF sgF
  rw [show (List.range 10).map (fmC (numN c0 c1 c2 c3 c4 c5 : Int)) = [fmC (numN c0 c1 c2 c3 c4 c5 : Int) 0, fmC (numN c0 c1 c2 c3 c4 c5 : Int) 1, fmC (numN c0 c1 c2 c3 c4 c5 : Int) 2, fmC (numN c0 c1 c2 c3 c4 c5 : Int) 3, fmC (numN c0 c1 c2 c3 c4 c5 : Int) 4, fmC (numN c0 c1 c2 c3 c4 c5 : Int) 5, fmC (numN c0 c1 c2 c3 c4 c5 : Int) 6, fmC (numN c0 c1 c2 c3 c4 c5 : Int) 7, fmC (numN c0 c1 c2 c3 c4 c5 : Int) 8, fmC (numN c0 c1 c2 c3 c4 c5 : Int) 9] from rfl, e0, e1, e2, e3, e4, e5, e6, e7, e8, e9]
  rfl
noncomputable def leftC (c : Nat) : Nat := 48 + (6 - ((c - 48) &&& 6))
theorem left_dig {c : Nat} (i : Nat) (h1 : 48 ≤ c) (h2 : c < 56) : thrF i (leftC c) 48 = shTab c := by
  have e : spB i 48 = false := by
    exact tabN_all (fun l => List.contains l 48 = false) rfl (by decide) i
  unfold thrF
  rw [e]
  rcases oct8 h1 h2 with rfl | rfl | rfl | rfl | rfl | rfl | rfl | rfl <;> rfl
theorem leftC_ok {c : Nat} (h1 : 48 ≤ c) (h2 : c < 56) : 48 ≤ leftC c ∧ leftC c < 56 ∧ leftC c - 48 + ((c - 48) &&& 6) = 6 := by
  rcases oct8 h1 h2 with rfl | rfl | rfl | rfl | rfl | rfl | rfl | rfl <;> decide
theorem six_less {x y z u v w : Nat} (h1 : u + x = 6) (h2 : v + y = 6) (h3 : w + z = 6) : (438 : Int) - (((x * 8 + y) * 8 + z : Nat) : Int) = (((u * 8 + v) * 8 + w : Nat) : Int) := by omega
theorem six_lt {x y z : Nat} (h1 : x < 8) (h2 : y < 8) (h3 : z < 8) : (x * 8 + y) * 8 + z < 2 ^ 15 := by omega
theorem six_sum (x y z : Nat) : (32768 : Int) + (((x * 8 + y) * 8 + z : Nat) : Int) - ((0 : Nat) : Int) = ((((((49 - 48) * 8 + (48 - 48)) * 8 + (48 - 48)) * 8 + x) * 8 + y) * 8 + z : Nat) := by omega
theorem leftF_num {c0 c1 c2 c3 c4 c5 : Nat} (h : sgOk c0 c1 c2 c3 c4 c5) : leftF (numN c0 c1 c2 c3 c4 c5 : Int) = (numN 49 48 48 (leftC c3) (leftC c4) (leftC c5) : Int) := by
  obtain ⟨a0, b0, a1, b1, a2, b2, a3, b3, a4, b4, a5, b5⟩ := h
  obtain ⟨l3, m3, z3⟩ := leftC_ok a3 b3
  obtain ⟨l4, m4, z4⟩ := leftC_ok a4 b4
  obtain ⟨l5, m5, z5⟩ := leftC_ok a5 b5
  have ec : Builtin.bitOr (Builtin.bitOr (Builtin.bitOr (Builtin.bitOr (Builtin.bitOr 256 128) 32) 16) 4) 2 = 438 := by decide +kernel
  have e1 : 438 &&& numN c0 c1 c2 c3 c4 c5 = (((c3 - 48) &&& 6) * 8 + ((c4 - 48) &&& 6)) * 8 + ((c5 - 48) &&& 6) := by
    have e : 438 = ((0 * 8 + 6) * 8 + 6) * 8 + 6 := rfl
    rw [Nat.and_comm, numN_shape, e, and_dig (dgl b5 (by decide)) (by decide), and_dig (dgl b4 (by decide)) (by decide), and_dig (dgl b3 (by decide)) (by decide)]
    simp only [Nat.and_zero, Nat.zero_mul, Nat.zero_add]
  have e2 : Builtin.bitAnd 438 (numN c0 c1 c2 c3 c4 c5 : Int) = (((((c3 - 48) &&& 6) * 8 + ((c4 - 48) &&& 6)) * 8 + ((c5 - 48) &&& 6) : Nat) : Int) := by
    rw [PyProof.Rows.bitAnd_pp (by decide) (Int.natCast_nonneg _), Int.toNat_natCast, ← e1]
    rfl
  unfold leftF
  rw [ec, e2]
  have e3 : (438 : Int) - (((((c3 - 48) &&& 6) * 8 + ((c4 - 48) &&& 6)) * 8 + ((c5 - 48) &&& 6) : Nat) : Int) = ((((leftC c3 - 48) * 8 + (leftC c4 - 48)) * 8 + (leftC c5 - 48) : Nat) : Int) := six_less z3 z4 z5
  rw [e3, PyProof.Rows.bitOr_and, PyProof.Rows.bitAnd_pp (by decide) (Int.natCast_nonneg _), Int.toNat_natCast]
  have e4 : (32768 : Int).toNat &&& (((leftC c3 - 48) * 8 + (leftC c4 - 48)) * 8 + (leftC c5 - 48)) = 0 := by
    show (2 ^ 15) &&& _ = 0
    rw [Nat.and_comm, and_pow2, Nat.testBit_lt_two_pow (six_lt (dgl m3 (by decide)) (dgl m4 (by decide)) (dgl m5 (by decide)))]
    rfl
  rw [e4, numN_shape]
  exact six_sum _ _ _
theorem fm_left {c0 c1 c2 c3 c4 c5 : Nat} (h : sgOk c0 c1 c2 c3 c4 c5) : fmF (leftF (numN c0 c1 c2 c3 c4 c5 : Int)) = shF c3 c4 c5 := by
  rw [leftF_num h]
  obtain ⟨a0, b0, a1, b1, a2, b2, a3, b3, a4, b4, a5, b5⟩ := h
  obtain ⟨l3, m3, z3⟩ := leftC_ok a3 b3
  obtain ⟨l4, m4, z4⟩ := leftC_ok a4 b4
  obtain ⟨l5, m5, z5⟩ := leftC_ok a5 b5
  rw [fm_num ⟨by decide, by decide, by decide, by decide, by decide, by decide, l3, m3, l4, m4, l5, m5⟩]
  unfold sgF sgL shF
  rw [left_dig 0 a3 b3, left_dig 1 a4 b4, left_dig 2 a5 b5]
  rfl
end
section
theorem getR_cons (a : Str) (u : Int) (rs : List (Str × Int)) (n : Str) : getR ((a, u) :: rs) n = if a = n then some u else getR rs n := by
  unfold getR
  rw [List.find?_cons]
  by_cases h : a = n
  · subst h; simp
  · have : (a == n) = false := by simpa using h
    simp [this, h]
theorem putR_cons (a : Str) (u : Int) (rs : List (Str × Int)) (n : Str) (v : Int) : putR ((a, u) :: rs) n v = if a = n then (a, v) :: rs else (a, u) :: putR rs n v := by
  unfold putR
  rw [List.findIdx?_cons]
  by_cases h : a = n
  · subst h; simp
  · have : (a == n) = false := by simpa using h
    simp only [this, h, if_false, Bool.false_eq_true]
    cases rs.findIdx? fun r => r.1 == n <;> simp
theorem cutR_cons (a : Str) (u : Int) (rs : List (Str × Int)) (n : Str) : cutR ((a, u) :: rs) n = if a = n then rs else (a, u) :: cutR rs n := by
  unfold cutR
  rw [List.findIdx?_cons]
  by_cases h : a = n
  · subst h; simp
  · have : (a == n) = false := by simpa using h
    simp only [this, h, if_false, Bool.false_eq_true]
    cases rs.findIdx? fun r => r.1 == n <;> simp
theorem rel_look (n : Str) : ∀ rs : List (Str × Int), (rowsF rs).lookup n = (getR rs n).map fmF
  | [] => rfl
  | (a, u) :: rs => by
    rw [getR_cons]
    show ((a, fmF u) :: rowsF rs).lookup n = _
    rw [List.lookup_cons]
    by_cases h : a = n
    · subst h; simp
    · have : (n == a) = false := by simpa using Ne.symm h
      rw [this, if_neg h]
      exact rel_look n rs
theorem rel_put_none {n : Str} {v : Int} : ∀ {rs : List (Str × Int)}, getR rs n = none → putR rs n v = rs ++ [(n, v)]
  | [], _ => rfl
  | (a, u) :: rs, h => by
    rw [getR_cons] at h
    by_cases q : a = n
    · rw [if_pos q] at h; cases h
    · rw [if_neg q] at h
      rw [putR_cons, if_neg q, rel_put_none h]
      rfl
theorem map_off {n : Str} {y : Str} : ∀ {rs : List (Str × Int)}, n ∉ rs.map (·.1) → (rowsF rs).map (fun r => if r.1 = n then (n, y) else r) = rowsF rs
  | [], _ => rfl
  | (a, u) :: rs, h => by
    rw [List.map_cons, List.mem_cons, not_or] at h
    show (if a = n then (n, y) else (a, fmF u)) :: (rowsF rs).map _ = (a, fmF u) :: rowsF rs
    rw [if_neg (Ne.symm h.1), map_off h.2]
theorem rel_put_some {n : Str} {v : Int} : ∀ {rs : List (Str × Int)} {w : Int}, (rs.map (·.1)).Nodup → getR rs n = some w → rowsF (putR rs n v) = (rowsF rs).map (fun r => if r.1 = n then (n, fmF v) else r)
  | [], _, _, h => by cases h
  | (a, u) :: rs, w, nd, h => by
    rw [getR_cons] at h
    rw [List.map_cons, List.nodup_cons] at nd
    rw [putR_cons]
    by_cases q : a = n
    · subst q
      rw [if_pos rfl]
      show (a, fmF v) :: rowsF rs = (if a = a then (a, fmF v) else (a, fmF u)) :: (rowsF rs).map _
      rw [if_pos rfl, map_off nd.1]
    · rw [if_neg q] at h ⊢
      show (a, fmF u) :: rowsF (putR rs n v) = (if a = n then (n, fmF v) else (a, fmF u)) :: (rowsF rs).map _
      rw [if_neg q, rel_put_some nd.2 h]
theorem filter_off {n : Str} : ∀ {rs : List (Str × Int)}, n ∉ rs.map (·.1) → (rowsF rs).filter (fun r => !(r.1 == n)) = rowsF rs
  | [], _ => rfl
  | (a, u) :: rs, h => by
    rw [List.map_cons, List.mem_cons, not_or] at h
    show ((a, fmF u) :: rowsF rs).filter _ = (a, fmF u) :: rowsF rs
    have : (a == n) = false := by simpa using Ne.symm h.1
    rw [List.filter_cons_of_pos (by simp [this]), filter_off h.2]
theorem rel_cut {n : Str} : ∀ {rs : List (Str × Int)}, (rs.map (·.1)).Nodup → rowsF (cutR rs n) = (rowsF rs).filter (fun r => !(r.1 == n))
  | [], _ => rfl
  | (a, u) :: rs, nd => by
    rw [List.map_cons, List.nodup_cons] at nd
    rw [cutR_cons]
    show _ = ((a, fmF u) :: rowsF rs).filter _
    by_cases q : a = n
    · subst q
      rw [if_pos rfl, List.filter_cons_of_neg (by simp), filter_off nd.1]
    · have : (a == n) = false := by simpa using q
      rw [if_neg q, List.filter_cons_of_pos (by simp [this])]
      show (a, fmF u) :: rowsF (cutR rs n) = _
      rw [rel_cut nd.2]
theorem cut_none {n : Str} : ∀ {rs : List (Str × Int)}, getR rs n = none → n ∉ rs.map (·.1)
  | [], _ => by simp
  | (a, u) :: rs, h => by
    rw [getR_cons] at h
    by_cases q : a = n
    · rw [if_pos q] at h; cases h
    · rw [if_neg q] at h
      rw [List.map_cons, List.mem_cons, not_or]
      exact ⟨Ne.symm q, cut_none h⟩
theorem rowsF_names (rs : List (Str × Int)) : (rowsF rs).map (·.1) = rs.map (·.1) := by
  unfold rowsF
  rw [List.map_map]
  rfl
structure Rel (σ : PS) (τ : DS) : Prop where
  shown : τ.shown = fmF (leftF σ.mask)
  grows : τ.grows = !σ.shut
  rs : τ.rs = rowsF σ.rs
  told : τ.told = σ.told
theorem rel_freeze {σ : PS} {τ : DS} (R : Rel σ τ) : Rel σ.freeze τ.freeze := ⟨R.shown, rfl, R.rs, by show τ.told ++ _ = σ.told ++ _; rw [R.told]⟩
theorem rel_mask {σ : PS} {τ : DS} {v : Int} {y : Str} (R : Rel σ τ) (h : y = fmF (leftF v)) : Rel (σ.setMask v) (τ.mask y) := ⟨h, R.grows, R.rs, R.told⟩
theorem rel_ask {σ : PS} {τ : DS} {n : Str} (R : Rel σ τ) : Rel (σ.ask n) (τ.ask n) := by
  have hl := rel_look n σ.rs
  rw [← R.rs] at hl
  unfold PS.ask DS.ask
  cases hg : getR σ.rs n with
  | some v =>
    rw [hg] at hl
    rw [hl]
    exact ⟨R.shown, R.grows, R.rs, by show τ.told ++ _ = σ.told ++ _; rw [R.told]⟩
  | none =>
    rw [hg] at hl
    rw [hl]
    refine ⟨R.shown, R.grows, ?_, by show τ.told ++ [some τ.shown] = σ.told ++ [some (fmF (leftF σ.mask))]; rw [R.told, R.shown]⟩
    show (if τ.grows = true then τ.rs ++ [(n, τ.shown)] else τ.rs) = rowsF (if σ.shut = true then σ.rs else putR σ.rs n (leftF σ.mask))
    rw [R.grows]
    cases hs : σ.shut
    · rw [if_pos (show (!false) = true from rfl), if_neg (by simp), rel_put_none hg, R.rs, R.shown]
      unfold rowsF
      rw [List.map_append]
      rfl
    · rw [if_neg (by simp), if_pos rfl]
      exact R.rs
theorem rel_take {σ : PS} {τ : DS} {n : Str} (R : Rel σ τ) (nd : (τ.rs.map (·.1)).Nodup) : Rel (σ.take n) (τ.take n) := by
  have hl := rel_look n σ.rs
  rw [← R.rs] at hl
  rw [R.rs, rowsF_names] at nd
  unfold PS.take DS.take
  cases hg : getR σ.rs n with
  | some v =>
    rw [hg] at hl
    refine ⟨R.shown, R.grows, ?_, ?_⟩
    · show τ.rs.filter _ = rowsF (cutR σ.rs n)
      rw [rel_cut nd, R.rs]
    · show τ.told ++ [τ.rs.lookup n] = σ.told ++ _
      rw [hl, R.told]
      rfl
  | none =>
    rw [hg] at hl
    refine ⟨R.shown, R.grows, ?_, ?_⟩
    · show τ.rs.filter _ = rowsF σ.rs
      rw [R.rs, filter_off (cut_none hg)]
    · show τ.told ++ [τ.rs.lookup n] = σ.told ++ _
      rw [hl, R.told]
      rfl
theorem rel_store {σ : PS} {τ : DS} {n : Str} {v : Int} {y : Str} (R : Rel σ τ) (nd : (τ.rs.map (·.1)).Nodup) (h : y = fmF v) : Rel (σ.store n v) (τ.store n y) := by
  have hl := rel_look n σ.rs
  rw [← R.rs] at hl
  rw [R.rs, rowsF_names] at nd
  subst h
  unfold PS.store DS.store
  cases hg : getR σ.rs n with
  | some v =>
    rw [hg] at hl
    rw [hl]
    refine ⟨R.shown, R.grows, ?_, R.told⟩
    show τ.rs.map _ = rowsF (putR σ.rs n _)
    rw [rel_put_some nd hg, R.rs]
  | none =>
    rw [hg] at hl
    rw [hl]
    refine ⟨R.shown, R.grows, ?_, R.told⟩
    show τ.rs ++ [(n, _)] = rowsF (putR σ.rs n _)
    rw [rel_put_none hg, R.rs]
    unfold rowsF
    rw [List.map_append]
    rfl
noncomputable def padOk (p : Str) : Prop := p = ⟨#[]⟩ ∨ p = ⟨#[32]⟩ ∨ p = ⟨#[9]⟩ ∨ p = ⟨#[32, 10]⟩
noncomputable def nameOk (n : Str) : Prop := n = ⟨#[97]⟩ ∨ n = ⟨#[98]⟩ ∨ n = ⟨#[97, 32, 98]⟩ ∨ n = ⟨#[99]⟩
noncomputable def keyMask : Str := ⟨#[109, 97, 115, 107]⟩
theorem keyMask_eq : Str.ofString "mask" = keyMask := by decide +kernel
theorem bang_eq : Str.ofString "!" = ⟨#[33]⟩ := by decide +kernel
theorem pad_space {p : Str} (h : padOk p) : (∀ c ∈ p.cps.toList, Unicode.isSpace c = true) ∧ 61 ∉ p.cps.toList ∧ p.length ≤ 2 := by
  rcases h with rfl | rfl | rfl | rfl <;> decide +kernel
noncomputable def KeyOk (k : Str) : Prop := (∀ c ∈ k.cps.toList.head?, Unicode.isSpace c = false) ∧ (∀ c ∈ k.cps.toList.getLast?, Unicode.isSpace c = false) ∧ k.cps.toList ≠ [] ∧ 61 ∉ k.cps.toList
theorem key_mask : KeyOk keyMask := by unfold KeyOk; decide +kernel
theorem key_name {n : Str} (h : nameOk n) : KeyOk n ∧ n ≠ keyMask ∧ n ≠ ⟨#[33]⟩ ∧ n.length ≤ 3 ∧ sOk n = true := by
  unfold KeyOk
  rcases h with rfl | rfl | rfl | rfl <;> decide +kernel
theorem dig_space {c : Nat} (h1 : 48 ≤ c) (h2 : c < 56) : Unicode.isSpace c = false := by
  rcases oct8 h1 h2 with rfl | rfl | rfl | rfl | rfl | rfl | rfl | rfl <;> decide +kernel
theorem line_cat (pd k fg : Str) : pd ++ k ++ pd ++ (⟨#[61]⟩ : Str) ++ pd ++ fg ++ pd = ⟨((pd.cps.toList ++ (k.cps.toList ++ pd.cps.toList)) ++ 61 :: (pd.cps.toList ++ (fg.cps.toList ++ pd.cps.toList))).toArray⟩ := by
  refine Str.ext' ?_
  apply Array.toList_inj.mp
  simp [Str.cps_append]
theorem line_cat0 (pd k : Str) : pd ++ k ++ pd ++ (⟨#[61]⟩ : Str) ++ pd = ⟨((pd.cps.toList ++ (k.cps.toList ++ pd.cps.toList)) ++ 61 :: pd.cps.toList).toArray⟩ := by
  refine Str.ext' ?_
  apply Array.toList_inj.mp
  simp [Str.cps_append]
theorem str_list (k : Str) : (⟨k.cps.toList.toArray⟩ : Str) = k := rfl
theorem key_no61 {pd k : Str} (hp : padOk pd) (hk : KeyOk k) : 61 ∉ pd.cps.toList ++ (k.cps.toList ++ pd.cps.toList) := by
  have := (pad_space hp).2.1
  simp only [List.mem_append, not_or]
  exact ⟨this, hk.2.2.2, this⟩
theorem strip_key {pd k : Str} (hp : padOk pd) (hk : KeyOk k) : Txt.strip ⟨(pd.cps.toList ++ (k.cps.toList ++ pd.cps.toList)).toArray⟩ = k := by
  rw [strip_mid (pad_space hp).1 (pad_space hp).1 hk.1 hk.2.1 hk.2.2.1, str_list]
theorem strip_pad {pd : Str} (hp : padOk pd) : Txt.strip ⟨pd.cps.toList.toArray⟩ = ⟨#[]⟩ := by
  rcases hp with rfl | rfl | rfl | rfl <;> decide +kernel
theorem ne61 {c : Nat} (h : c < 56) : ¬ 61 = c := fun e => absurd (e ▸ h) (by decide)
theorem fig_key {c0 c1 c2 c3 c4 c5 : Nat} (h : sgOk c0 c1 c2 c3 c4 c5) : KeyOk ⟨#[c0, c1, c2, c3, c4, c5]⟩ := by
  obtain ⟨a0, b0, a1, b1, a2, b2, a3, b3, a4, b4, a5, b5⟩ := h
  refine ⟨fun c hc => ?_, fun c hc => ?_, by simp, ?_⟩
  · have : c0 = c := by simpa using hc
    subst this
    exact dig_space a0 (Nat.lt_trans b0 (by decide))
  · have : c5 = c := by simpa using hc
    subst this
    exact dig_space a5 b5
  · show 61 ∉ [c0, c1, c2, c3, c4, c5]
    simp only [List.mem_cons, List.not_mem_nil, or_false, not_or]
    exact ⟨ne61 (Nat.lt_trans b0 (by decide)), ne61 b1, ne61 b2, ne61 b3, ne61 b4, ne61 b5⟩
theorem two_parts {x : Str} {a b : List Nat} {k v : Str} {σ : PS} (hx : x = ⟨(a ++ 61 :: b).toArray⟩) (ha : 61 ∉ a) (h1 : Txt.strip ⟨a.toArray⟩ = k) (h2 : Txt.strip ⟨b.toArray⟩ = v) :
    playLine x σ = (if k = keyMask then σ.setMask (numF v) else if v = ⟨#[]⟩ then σ.take k else σ.store k (numF v)) ∧ (v.length ≤ 6 → 0 ≤ numF v → numF v < 65536 → x.length + 2 ≤ sizeLine → LineOk x) := by
  have hs := split_one (b := b) ha
  rw [← hx] at hs
  constructor
  · unfold playLine
    rw [hs]
    dsimp only
    rw [h1, h2, keyMask_eq, PyProof.Rows.ofString_empty]
  · intro l1 l2 l3 l4
    refine ⟨l4, .inr ⟨_, _, hs, fun q => ?_, by rw [h2]; exact l1, by rw [h2]; exact l2, by rw [h2]; exact l3⟩⟩
    rw [q, show Txt.splitMax (Str.ofString "!") (Str.ofString "=") 1 = [Str.ofString "!"] from by decide +kernel] at hs
    cases hs
structure GoodStep (st : Step) : Prop where
  pad : padOk st.pad
  name : st.name = ⟨#[]⟩ ∨ nameOk st.name
  figs : st.figs = ⟨#[]⟩ ∨ FgOk st.figs
  deed : st.deed = "freeze" ∨ (st.deed = "ask" ∧ nameOk st.name) ∨ (st.deed = "take" ∧ nameOk st.name) ∨ (st.deed = "mask" ∧ FgOk st.figs) ∨ (st.deed = "store" ∧ nameOk st.name ∧ FgOk st.figs)
theorem fg_len {fg : Str} (h : FgOk fg) : fg.length = 6 := by
  obtain ⟨c0, c1, c2, c3, c4, c5, rfl, _⟩ := h
  rfl
theorem fg_num {fg : Str} (h : FgOk fg) : 0 ≤ numF fg ∧ numF fg < 65536 ∧ fmF (numF fg) = sgS fg ∧ fmF (leftF (numF fg)) = shS fg ∧ KeyOk fg := by
  obtain ⟨c0, c1, c2, c3, c4, c5, rfl, hc⟩ := h
  rw [num_six _ _ _ _ _ _ hc]
  have := numN_lt _ _ _ _ _ _ hc
  exact ⟨Int.natCast_nonneg _, Int.ofNat_lt.mpr this, fm_num hc, fm_left hc, fig_key hc⟩
theorem sim_step {st : Step} {σ : PS} {τ : DS} (hg : GoodStep st) (R : Rel σ τ) (Ok : DSok τ) : Rel (playLine (lineS st) σ) (dueStep τ st) ∧ LineOk (lineS st) := by
  obtain ⟨d, n, fg, pd⟩ := st
  obtain ⟨hp, hn, hf, hd⟩ := hg
  dsimp only at hp hn hf hd
  have pl := (pad_space hp).2.2
  have big : 100 ≤ sizeLine := by rw [sizeLine_eq]; decide
  have big2 : 90 + 2 ≤ sizeLine := by rw [sizeLine_eq]; decide
  rcases hd with rfl | ⟨rfl, hk⟩ | ⟨rfl, hk⟩ | ⟨rfl, hg⟩ | ⟨rfl, hk, hg⟩
  · have e1 : lineS ⟨Str.ofString "freeze", n, fg, pd⟩ = Str.ofString "!" := rfl
    have hs : Txt.splitMax (Str.ofString "!") (Str.ofString "=") 1 = [Str.ofString "!"] := by decide +kernel
    have e2 : playLine (Str.ofString "!") σ = σ.freeze := by unfold playLine; rw [hs]; simp only [if_true]
    have e3 : dueStep τ ⟨Str.ofString "freeze", n, fg, pd⟩ = τ.freeze := rfl
    rw [e1, e2, e3]
    exact ⟨rel_freeze R, by rw [bang_eq]; exact Nat.le_trans (by decide) big, .inl ⟨_, hs⟩⟩
  · have e1 : lineS ⟨Str.ofString "ask", n, fg, pd⟩ = n := rfl
    obtain ⟨k1, k2, k3, k4, _⟩ := key_name hk
    have hs : Txt.splitMax n (Str.ofString "=") 1 = [n] := split_none (a := n.cps.toList) k1.2.2.2
    have e2 : playLine n σ = σ.ask n := by unfold playLine; rw [hs]; simp only [bang_eq, k3, if_false]
    have e3 : dueStep τ ⟨Str.ofString "ask", n, fg, pd⟩ = τ.ask n := rfl
    rw [e1, e2, e3]
    exact ⟨rel_ask R, Nat.le_trans (Nat.add_le_add_right k4 2) (Nat.le_trans (by decide) big), .inl ⟨_, hs⟩⟩
  · have e1 : lineS ⟨Str.ofString "take", n, fg, pd⟩ = pd ++ n ++ pd ++ Str.ofString "=" ++ pd := rfl
    obtain ⟨k1, k2, k3, k4, _⟩ := key_name hk
    rw [eq_sign] at e1
    have e3 : dueStep τ ⟨Str.ofString "take", n, fg, pd⟩ = τ.take n := rfl
    obtain ⟨t1, t2⟩ := two_parts (σ := σ) (e1.trans (line_cat0 pd n)) (key_no61 hp k1) (strip_key hp k1) (strip_pad hp)
    rw [if_neg k2, if_pos rfl] at t1
    have hl : (lineS ⟨Str.ofString "take", n, fg, pd⟩).length ≤ 90 := by
      rw [e1]
      exact Nat.le_trans (PySem.W.KT.len_app (PySem.W.KT.len_app (PySem.W.KT.len_app (PySem.W.KT.len_app pl k4) pl) (Nat.le_refl 1)) pl) (by decide)
    rw [t1, e3]
    exact ⟨rel_take R Ok.nd, t2 (by decide) (by decide) (by decide) (Nat.le_trans (Nat.add_le_add_right hl 2) big2)⟩
  · have e1 : lineS ⟨Str.ofString "mask", n, fg, pd⟩ = pd ++ keyMask ++ pd ++ (⟨#[61]⟩ : Str) ++ pd ++ fg ++ pd := by rw [← keyMask_eq, ← eq_sign]; rfl
    obtain ⟨f1, f2, f3, f4, f5⟩ := fg_num hg
    have f6 := fg_len hg
    have e3 : dueStep τ ⟨Str.ofString "mask", n, fg, pd⟩ = τ.mask (shS fg) := rfl
    obtain ⟨t1, t2⟩ := two_parts (σ := σ) (e1.trans (line_cat pd keyMask fg)) (key_no61 hp key_mask) (strip_key hp key_mask) (strip_key hp f5)
    rw [if_pos rfl] at t1
    have hl : (lineS ⟨Str.ofString "mask", n, fg, pd⟩).length ≤ 90 := by
      rw [e1]
      exact Nat.le_trans (PySem.W.KT.len_app (PySem.W.KT.len_app (PySem.W.KT.len_app (PySem.W.KT.len_app (PySem.W.KT.len_app (PySem.W.KT.len_app pl (Nat.le_refl 4)) pl) (Nat.le_refl 1)) pl) (Nat.le_of_eq f6)) pl) (by decide)
    rw [t1, e3]
    exact ⟨rel_mask R f4.symm, t2 (Nat.le_of_eq f6) f1 f2 (Nat.le_trans (Nat.add_le_add_right hl 2) big2)⟩
  · have e1 : lineS ⟨Str.ofString "store", n, fg, pd⟩ = pd ++ n ++ pd ++ Str.ofString "=" ++ pd ++ fg ++ pd := rfl
    obtain ⟨f1, f2, f3, f4, f5⟩ := fg_num hg
    obtain ⟨k1, k2, k3, k4, _⟩ := key_name hk
    have f6 := fg_len hg
    rw [eq_sign] at e1
    have e3 : dueStep τ ⟨Str.ofString "store", n, fg, pd⟩ = τ.store n (sgS fg) := rfl
    obtain ⟨t1, t2⟩ := two_parts (σ := σ) (e1.trans (line_cat pd n fg)) (key_no61 hp k1) (strip_key hp k1) (strip_key hp f5)
    rw [if_neg k2, if_neg (fun q => by rw [q] at f6; cases f6)] at t1
    have hl : (lineS ⟨Str.ofString "store", n, fg, pd⟩).length ≤ 90 := by
      rw [e1]
      exact Nat.le_trans (PySem.W.KT.len_app (PySem.W.KT.len_app (PySem.W.KT.len_app (PySem.W.KT.len_app (PySem.W.KT.len_app (PySem.W.KT.len_app pl k4) pl) (Nat.le_refl 1)) pl) (Nat.le_of_eq f6)) pl) (by decide)
    rw [t1, e3]
    exact ⟨rel_store R Ok.nd f3.symm, t2 (Nat.le_of_eq f6) f1 f2 (Nat.le_trans (Nat.add_le_add_right hl 2) big2)⟩
theorem good_ok {st : Step} (h : GoodStep st) : StepOk st ∧ st.name.length ≤ 6 ∧ st.figs.length ≤ 6 ∧ st.pad.length ≤ 2 := by
  have hp := (pad_space h.pad).2.2
  have hn : sOk st.name = true ∧ st.name.length ≤ 6 := by
    rcases h.name with e | e
    · rw [e]; decide +kernel
    · obtain ⟨_, _, _, k4, k5⟩ := key_name e
      exact ⟨k5, Nat.le_trans k4 (by decide)⟩
  have hf : st.figs.length ≤ 6 := by
    rcases h.figs with e | e
    · rw [e]; decide
    · exact Nat.le_of_eq (fg_len e)
  refine ⟨⟨hn.1, ?_⟩, hn.2, hf, hp⟩
  rcases h.deed with e | ⟨e, _⟩ | ⟨e, _⟩ | ⟨e, q⟩ | ⟨e, _, q⟩
  · exact .inl e
  · exact .inr (.inl e)
  · exact .inr (.inr (.inl e))
  · exact .inr (.inr (.inr (.inl ⟨e, q⟩)))
  · exact .inr (.inr (.inr (.inr ⟨e, q⟩)))
theorem sim_all : ∀ {sts : List Step} {σ : PS} {τ : DS}, (∀ st ∈ sts, GoodStep st) → Rel σ τ → DSok τ → Rel (plays (sts.map lineS) σ) (dues sts τ)
  | [], _, _, _, R, _ => R
  | st :: sts, σ, τ, h, R, Ok => sim_all (sts := sts) (σ := playLine (lineS st) σ) (τ := dueStep τ st) (fun x hx => h x (.tail _ hx)) (sim_step (h st (.head _)) R Ok).1 (dueStep_ok Ok (good_ok (h st (.head _))).1)
theorem rel0 : Rel ⟨18, false, [], []⟩ due0 := by
  refine ⟨?_, rfl, rfl, rfl⟩
  show shF 48 50 50 = fmF (leftF 18)
  exact (fm_left (c0 := 48) (c1 := 48) (c2 := 48) (c3 := 48) (c4 := 50) (c5 := 50) (by decide)).symm
theorem due0_ok : DSok due0 := ⟨List.nodup_nil, by simp [due0], shF_ok _ _ _⟩
noncomputable def TokOk (os : List (Option Str)) : Prop := ∀ o ∈ os, ∀ y, o = some y → sOk y = true
theorem tok_snoc {os : List (Option Str)} {o : Option Str} (h : TokOk os) (ho : ∀ y, o = some y → sOk y = true) : TokOk (os ++ [o]) := fun p hp => by
  rcases List.mem_append.mp hp with hp | hp
  · exact h p hp
  · rw [List.mem_singleton.mp hp]
    exact ho
theorem lookup_mem {n y : Str} : ∀ {rs : List (Str × Str)}, rs.lookup n = some y → (n, y) ∈ rs
  | (a, b) :: rs, h => by
    rw [List.lookup_cons] at h
    by_cases q : n = a
    · subst q
      simp only [beq_self_eq_true] at h
      obtain rfl : b = y := Option.some.inj h
      exact .head _
    · have : (n == a) = false := by simpa using q
      rw [this] at h
      exact .tail _ (lookup_mem h)
theorem dueStep_tok {τ : DS} {st : Step} (Ok : DSok τ) (h : TokOk τ.told) : TokOk (dueStep τ st).told := by
  unfold dueStep
  split
  · exact tok_snoc h fun y hy => by cases hy
  split
  · exact h
  split
  · unfold DS.ask
    split
    · next y q => exact tok_snoc h fun z hz => by cases hz; exact (Ok.rows _ (lookup_mem q)).2
    · exact tok_snoc h fun z hz => by cases hz; exact Ok.shown
  split
  · exact tok_snoc h fun z hz => (Ok.rows _ (lookup_mem hz)).2
  · unfold DS.store
    split <;> exact h
theorem dues_tok : ∀ {sts : List Step} {τ : DS}, (∀ x ∈ sts, StepOk x) → DSok τ → TokOk τ.told → TokOk (dues sts τ).told
  | [], _, _, _, h => h
  | x :: xs, τ, hx, Ok, h => dues_tok (sts := xs) (τ := dueStep τ x) (fun y hy => hx y (.tail _ hy)) (dueStep_ok Ok (hx _ (.head _))) (dueStep_tok Ok h)
end
section
noncomputable def fgB (fg : Str) : Bool := fg.cps.toList.length == 6 && decide (sgOk (fg.cps.toList.getD 0 0) (fg.cps.toList.getD 1 0) (fg.cps.toList.getD 2 0) (fg.cps.toList.getD 3 0) (fg.cps.toList.getD 4 0) (fg.cps.toList.getD 5 0))
theorem fgB_ok {fg : Str} (h : fgB fg = true) : FgOk fg := by
  obtain ⟨⟨l⟩⟩ := fg
  have h1 : l.length = 6 := eq_of_beq (Bool.and_eq_true _ _ ▸ h).1
  have h2 := of_decide_eq_true (Bool.and_eq_true _ _ ▸ h).2
  revert h2
  apply cons_of h1; intro c0 r h
  apply cons_of h; intro c1 r h
  apply cons_of h; intro c2 r h
  apply cons_of h; intro c3 r h
  apply cons_of h; intro c4 r h
  apply cons_of h; intro c5 r h
  apply nil_of h; exact fun h2 => ⟨c0, c1, c2, c3, c4, c5, rfl, h2⟩
noncomputable def padB (p : Str) : Bool := p == ⟨#[]⟩ || p == ⟨#[32]⟩ || p == ⟨#[9]⟩ || p == ⟨#[32, 10]⟩
noncomputable def nameB (n : Str) : Bool := n == ⟨#[97]⟩ || n == ⟨#[98]⟩ || n == ⟨#[97, 32, 98]⟩ || n == ⟨#[99]⟩
theorem padB_ok {p : Str} (h : padB p = true) : padOk p := by
  unfold padB at h
  simp only [Bool.or_eq_true, beq_iff_eq] at h
  unfold padOk
  simpa only [or_assoc] using h
theorem nameB_ok {p : Str} (h : nameB p = true) : nameOk p := by
  unfold nameB at h
  simp only [Bool.or_eq_true, beq_iff_eq] at h
  unfold nameOk
  simpa only [or_assoc] using h
noncomputable def goodB (st : Step) : Bool := padB st.pad && (st.name == ⟨#[]⟩ || nameB st.name) && (st.figs == ⟨#[]⟩ || fgB st.figs) &&
  (st.deed == Str.ofString "freeze" || (st.deed == Str.ofString "ask" && nameB st.name) || (st.deed == Str.ofString "take" && nameB st.name) || (st.deed == Str.ofString "mask" && fgB st.figs) || (st.deed == Str.ofString "store" && nameB st.name && fgB st.figs))
theorem goodB_ok {st : Step} (h : goodB st = true) : GoodStep st := by
  unfold goodB at h
  simp only [Bool.and_eq_true, Bool.or_eq_true, beq_iff_eq] at h
  obtain ⟨⟨⟨h1, h2⟩, h3⟩, h4⟩ := h
  refine ⟨padB_ok h1, h2.imp id nameB_ok, h3.imp id fgB_ok, ?_⟩
  rcases h4 with (((e | ⟨e, q⟩) | ⟨e, q⟩) | ⟨e, q⟩) | ⟨⟨e, q⟩, r⟩
  · exact .inl e
  · exact .inr (.inl ⟨e, nameB_ok q⟩)
  · exact .inr (.inr (.inl ⟨e, nameB_ok q⟩))
  · exact .inr (.inr (.inr (.inl ⟨e, fgB_ok q⟩)))
  · exact .inr (.inr (.inr (.inr ⟨e, nameB_ok q, fgB_ok r⟩)))
noncomputable def ownS : List Step := [⟨Str.ofString "ask", Str.ofString "a", Str.ofString "", Str.ofString ""⟩, ⟨Str.ofString "mask", Str.ofString "", Str.ofString "000027", Str.ofString " "⟩, ⟨Str.ofString "ask", Str.ofString "b", Str.ofString "", Str.ofString ""⟩,
  ⟨Str.ofString "store", Str.ofString "a b", Str.ofString "104755", Str.ofString "\t"⟩, ⟨Str.ofString "ask", Str.ofString "a b", Str.ofString "", Str.ofString ""⟩, ⟨Str.ofString "freeze", Str.ofString "", Str.ofString "", Str.ofString ""⟩,
  ⟨Str.ofString "ask", Str.ofString "c", Str.ofString "", Str.ofString ""⟩, ⟨Str.ofString "mask", Str.ofString "", Str.ofString "000700", Str.ofString ""⟩, ⟨Str.ofString "ask", Str.ofString "c", Str.ofString "", Str.ofString ""⟩,
  ⟨Str.ofString "ask", Str.ofString "a", Str.ofString "", Str.ofString ""⟩, ⟨Str.ofString "take", Str.ofString "b", Str.ofString "", Str.ofString " \n"⟩, ⟨Str.ofString "ask", Str.ofString "b", Str.ofString "", Str.ofString ""⟩,
  ⟨Str.ofString "store", Str.ofString "b", Str.ofString "041777", Str.ofString " "⟩, ⟨Str.ofString "take", Str.ofString "c", Str.ofString "", Str.ofString ""⟩, ⟨Str.ofString "store", Str.ofString "a", Str.ofString "106004", Str.ofString ""⟩,
  ⟨Str.ofString "ask", Str.ofString "a", Str.ofString "", Str.ofString ""⟩]
theorem own_all : ownS.all goodB = true := by decide +kernel
theorem own_good : ∀ st ∈ ownS, GoodStep st := fun st h => goodB_ok (List.all_eq_true.mp own_all st h)
theorem pads_good : ∀ i, i < 4 → padB ([Str.ofString "", Str.ofString " ", Str.ofString "\t", Str.ofString " \n"].getD i Str.empty) = true := by decide +kernel
theorem names_good : ∀ i, i < 3 → nameB ([Str.ofString "a", Str.ofString "b", Str.ofString "a b"].getD i Str.empty) = true := by decide +kernel
noncomputable def deedB (d : Str) : Bool := d == Str.ofString "freeze" || d == Str.ofString "ask" || d == Str.ofString "take" || d == Str.ofString "mask" || d == Str.ofString "store"
theorem deeds_good : ∀ i, i < 16 → deedB ([Str.ofString "store", Str.ofString "store", Str.ofString "store", Str.ofString "store", Str.ofString "store", Str.ofString "ask", Str.ofString "ask", Str.ofString "ask", Str.ofString "ask", Str.ofString "ask", Str.ofString "take", Str.ofString "take", Str.ofString "mask", Str.ofString "mask", Str.ofString "mask", Str.ofString "freeze"].getD i Str.empty) = true := by decide +kernel
theorem dLo (x : Int) : 48 ≤ 48 + x.toNat := Nat.le_add_right _ _
theorem dHi {x : Int} (h0 : 0 ≤ x) (h : x < 8) : 48 + x.toNat < 56 := by omega
theorem dHi2 {x : Int} (h0 : 0 ≤ x) (h : x < 2) : 48 + x.toNat < 50 := by omega
theorem figs_good {m : Int} (h0 : 0 ≤ m) (h1 : m < 65536) : FgOk (figsOf m) := by
  have lo : ∀ k, 0 ≤ figOf m k := fun k => Int.fmod_nonneg_of_pos _ (by decide)
  have hi : ∀ k, figOf m k < 8 := fun k => PySem.W.fmod_hi _ (by decide)
  have h5 : figOf m 5 < 2 := by
    unfold figOf
    rw [show ((8 : Int) ^ Int.toNat 5) = 32768 from rfl, PyProof.Rows.fdiv_eq _ (by decide), Int.fmod_eq_emod_of_nonneg _ (by decide : (0 : Int) ≤ 8)]
    omega
  exact ⟨_, _, _, _, _, _, rfl, dLo _, dHi2 (lo 5) h5, dLo _, dHi (lo 4) (hi 4), dLo _, dHi (lo 3) (hi 3), dLo _, dHi (lo 2) (hi 2), dLo _, dHi (lo 1) (hi 1), dLo _, dHi (lo 0) (hi 0)⟩
theorem lot_good {n : Int} (h0 : 0 ≤ n) (h1 : n < 12582912) : GoodStep (lotStep n) := by
  have hp : padOk (padOf n) := padB_ok (pads_good _ (by rw [PyProof.Rows.fdiv_eq _ (by decide)]; omega))
  have hn : nameOk (nameOf n) := nameB_ok (names_good _ (by have a := Int.fmod_nonneg_of_pos (n.fdiv 16) (b := 3) (by decide); have b := PySem.W.fmod_hi (n.fdiv 16) (n := 3) (by decide); omega))
  have hf : FgOk (figsOf (modeOf n)) := figs_good (Int.fmod_nonneg_of_pos _ (by decide)) (PySem.W.fmod_hi _ (by decide))
  have hd : deedB (deedOf n) = true := deeds_good _ (by have a := Int.fmod_nonneg_of_pos n (b := 16) (by decide); have b := PySem.W.fmod_hi n (n := 16) (by decide); omega)
  refine ⟨hp, .inr hn, .inr hf, ?_⟩
  unfold deedB at hd
  simp only [Bool.or_eq_true, beq_iff_eq] at hd
  rcases hd with (((e | e) | e) | e) | e
  · exact .inl e
  · exact .inr (.inl ⟨e, hn⟩)
  · exact .inr (.inr (.inl ⟨e, hn⟩))
  · exact .inr (.inr (.inr (.inl ⟨e, hf⟩)))
  · exact .inr (.inr (.inr (.inr ⟨e, hn, hf⟩)))
theorem lots_good (ks : List Int) : ∀ st ∈ lotOf ks, GoodStep st := fun st h => by
  obtain ⟨k, _, rfl⟩ := List.mem_map.mp h
  exact lot_good (Int.fmod_nonneg_of_pos _ (by decide)) (PySem.W.fmod_hi _ (by decide))
theorem all_good (ks : List Int) : ∀ st ∈ lotOf ks ++ ownS, GoodStep st := fun st h => by
  rcases List.mem_append.mp h with h | h
  · exact lots_good ks st h
  · exact own_good st h
theorem lines_ok : ∀ {sts : List Step}, (∀ st ∈ sts, GoodStep st) → ∀ st ∈ sts, LineOk (lineS st) := fun h st hs => (sim_step (h st hs) rel0 due0_ok).2
end
section
inductive StepsLit : List PySem.Expr → List Step → Prop
  | nil : StepsLit [] []
  | cons {a b c d : Str} {k0 k1 k2 k3 k4 : Nat} {p0 p1 p2 p3 p4 : Pos} {es : List PySem.Expr} {sts : List Step} (h : StepsLit es sts) :
    StepsLit (.Tuple [.Constant (.str a) k0 p0, .Constant (.str b) k1 p1, .Constant (.str c) k2 p2, .Constant (.str d) k3 p3] k4 p4 :: es) (⟨a, b, c, d⟩ :: sts)
theorem own_eval {M : Model} {A : Around} {E : Value → Shared → Prop} {gs : Array GenState} {d : Drawn} {os : OsState} {h₀ : Heap} {L : Addr} {m : Str → Option Value} {env : Env} {pos : Pos} {es : List PySem.Expr} {sts : List Step} (e : StepsLit es sts) :
    ∀ {h : Heap} {k : Nat} {news : CbLed} {Q : List Value → Shared → Prop}, Fr h₀ L h m → News h₀ L h news →
    (∀ (vs : List Value) (nw : CbLed) (h' : Heap) (k' : Nat), StepsAre nw vs sts → Fr h₀ L h' m → News h₀ L h' (nw ++ news) → (∀ p ∈ nw, ∀ q ∈ news, @LT.lt Nat _ q.1 p.1) → Q vs ⟨h', gs, d, k', os⟩) →
    wpAny M A (spliced (backTo pos (starEach es env))) Q E ⟨h, gs, d, k, os⟩ := by
  induction e with
  | nil => exact fun {h k news Q} F N hq => PyProof.Rows.args_nil (hq [] [] h k trivial F N (fun _ h => by cases h))
  | cons _ ih =>
    intro h k news Q F N hq
    refine PyProof.Rows.args_cons (PyProof.Rows.Tuple_ (PyProof.Rows.args_cons (PySem.Calls.Constant_str (PyProof.Rows.args_cons (PySem.Calls.Constant_str (PyProof.Rows.args_cons (PySem.Calls.Constant_str (PyProof.Rows.args_cons (PySem.Calls.Constant_str (PyProof.Rows.args_nil ?_))))))))))
    refine kup_newTuple F N (fun D h1 F1 N1 lt => ?_) (show 4 ≤ sizeLine by rw [sizeLine_eq]; decide)
    refine ih F1 N1 fun vs nw h2 k2 hs F2 N2 hlt => ?_
    refine hq (.ref D :: vs) (nw ++ [(D, _)]) h2 k2 ⟨⟨D, 0, _, _, _, _, rfl, List.mem_append_right _ (.head _)⟩, hs.mono fun q hq => List.mem_append_left _ hq⟩ F2 (by rw [List.append_assoc]; exact N2) fun p hp q hq => ?_
    rcases List.mem_append.mp hp with hp | hp
    · exact hlt p hp q (.tail _ hq)
    · cases hp with
      | head => exact lt q hq
      | tail _ h => cases h
theorem law_walks : LawWalks := by
  have st9 := Stop.mk "call ref"
  have st8 := Stop.mk "eval List"
  intro w mean mg mb g s L fa l cd vs ns B F X N T C1 C2 hL hl hns hlen
  have X0 := X
  have eb : lawBody (hd.heap_39 w.params) = [_, _, _] := rfl
  rw [eb]
  have es0 : lawScope (hd.heap_39 w.params) = _ := rfl
  rw [es0]
  revert X; k_fill; intro X
  refine wpC_execs_cons (wpC_of ?_)
  change wpAny _ (ktrTop _ _ _ _ _ L fa cd [] []) _ _ _ _
  repeat' (first | (k_unfold; try dsimp only) | (k_end; kc_close) | (walk1; all_goals ((try k_fold); (try dsimp only); try with_reducible refine wpAny_tk fun _ => ?_)) | (dsimp only; walk1) | (leave1; try dsimp only))
  refine Halt.in ?_
  refine LCg.Assign_ListComp_U (F₀ := by k_asm) (by rfl) (by with_unfolding_all rfl) (by with_unfolding_all rfl) (by decide) (by rfl) (by decide) (by rfl) (by rfl) (by rfl) ?_
  repeat' (first | (k_unfold; try dsimp only) | (k_end; kc_close) | (walk1; all_goals ((try k_fold); (try dsimp only); try with_reducible refine wpAny_tk fun _ => ?_)) | (dsimp only; walk1) | (leave1; try dsimp only))
  refine Halt.in ?_
  obtain ⟨o313, h313⟩ : ∃ o, g.get? 313 = some o := ⟨_, X0 313 _ rfl⟩
  rename Nat => kz
  refine' kmk_slice_ints (s := ⟨s.heap, s.gens, s.drawn, kz, s.os⟩) (h₀ := hideAll g [313]) (news := (313, o313) :: (100, tabObj #[]) :: (288, tabObj #[]) :: []) ?F ?N ?l ?p ?q ?i ?m ?c ?_ ?s ?t ?z
  case F => exact fr_hide (by k_asm)
  case N =>
    intro p hp
    rcases List.mem_cons.mp hp with rfl | hp
    · exact ⟨F.keep _ _ h313, (show @Ne Nat _ _ by omega), hideAll_none _ (.head _)⟩
    · refine ⟨(N p hp).1, (N p hp).2.1, ?_⟩
      cases q : (hideAll g [313]).get? p.1 with
      | none => rfl
      | some o => have := of_hideAll _ q; rw [(N p hp).2.2] at this; cases this
  case l => kmk_list
  case p => kmk_part
  case q => kmk_part
  case i => l_ints
  case m => kmk_nums
  case c => kmk_len
  case s => with_unfolding_all rfl
  case t => kmk_pure
  case z => kmk_size
  intro D1 ws h1 F1 N1 lt1 hI hC1 hL1
  have q1 : @LT.lt Nat _ 313 D1 := lt1 _ (.head _)
  have FA := fr_show F1 (N1 _ (.tail _ (.head _))).1 h313
  have NA : News g L h1 [(D1, W.listOf ws.toArray 0), (100, tabObj #[]), (288, tabObj #[])] := fun p hp => by
    simp only [List.mem_cons, List.not_mem_nil, or_false] at hp
    rcases hp with rfl | rfl | rfl
    · exact ⟨(N1 _ (.head _)).1, (N1 _ (.head _)).2.1, none_show (N1 _ (.head _)).2.2 (Nat.ne_of_gt q1)⟩
    · exact ⟨(N1 _ (.tail _ (.tail _ (.head _)))).1, (N _ (.head _)).2⟩
    · exact ⟨(N1 _ (.tail _ (.tail _ (.tail _ (.head _))))).1, (N _ (.tail _ (.head _))).2⟩
  clear N1 F1 lt1
  repeat' (first | (k_unfold; try dsimp only) | (k_end; kc_close) | (walk1; all_goals ((try k_fold); (try dsimp only); try with_reducible refine wpAny_tk fun _ => ?_)) | (dsimp only; walk1) | (leave1; try dsimp only))
  refine Halt.in ?_
  change IntsAre ws (ns.take 12) at hI
  have hwl : ws.length = (ns.take 12).length := hI.length
  have hk12 : (ns.take 12).length ≤ 12 := by rw [List.length_take]; omega
  generalize ns.take 12 = ks at hI hwl hk12
  have hsz : ws.toArray.size = ks.length := by rw [List.size_toArray]; exact hwl
  refine LCg.CompSrc.ledger (by rfl) FA NA (.head _) (by rw [hsz, sizeLine_eq]; omega) ?_
  intro g'
  rw [hsz]
  refine rest_indJ _ (fun i ys nw => ∃ tl : CbLed, nw = tl ++ [(D1, W.listOf ws.toArray 0), (100, tabObj #[]), (288, tabObj #[])] ∧ StepsAre tl ys (lotOf (ks.take i)) ∧ ∀ q ∈ tl, @LT.lt Nat _ 313 q.1) ⟨[], rfl, trivial, by simp⟩ ?_ ?_
  · rintro ys nw ⟨tl, rfl, hst, hgt⟩
    rw [List.take_length] at hst
    intro D h tk F' N' off'
    clear NA FA
    have off1 := off1_mem off'
    have NB : News g L h ((D, LCg.lst ys) :: (D1, W.listOf ws.toArray 0) :: (100, tabObj #[]) :: (288, tabObj #[]) :: tl) := PySem.W.KStt.news_of N' fun q hq => by
      first | (revert q; (repeat (first | exact sub_nil | (refine sub_cons ?_ ?_; (· repeat (first | assumption | exact List.Mem.head _ | refine List.Mem.tail _ ?_))) | refine sub_app ?_ ?_ | (intro p hp; (repeat (first | exact hp | exact List.mem_append_left _ hp | exact List.mem_append_right _ hp | refine List.Mem.tail _ ?_))))); done) | (simp only [List.mem_cons, List.mem_append] at hq ⊢; rcases hq with h | h | h | h | h <;> first | ((repeat (first | exact h | exact Or.inl h | refine Or.inr ?_)); done) | simp only [h, true_or, or_true])
    try dsimp only
    refine wpC_execs_cons ?_
    refine wpC_of ?_
    clear N'
    repeat' (first | (k_unfold; try dsimp only) | (k_end; kc_close) | (walk1; all_goals ((try k_fold); (try dsimp only); try with_reducible refine wpAny_tk fun _ => ?_)) | (dsimp only; walk1) | (leave1; try dsimp only))
    refine Halt.in ?_
    refine PyProof.Rows.List_ ?_
    with_reducible refine' own_eval (sts := ownS) ?e F' NB ?_
    case e =>
      unfold ownS
      repeat (first | exact .nil | refine .cons ?_)
    intro vs nw h2 k2 hso F2 N2 hlt
    have hD : @LT.lt Nat _ 313 D1 := q1
    have hg2 : ∀ q ∈ nw ++ tl, @LT.lt Nat _ 313 q.1 := fun q hq => by
      rcases List.mem_append.mp hq with hq | hq
      · have := hlt q hq (D1, W.listOf ws.toArray 0) (.tail _ (.head _))
        dsimp only at this
        omega
      · exact hgt q hq
    clear hgt hlt NB
    refine newList_K F2 N2 ?_ (by rw [hso.len, sizeLine_eq]; decide)
    intro l2 h3 F3 N3 l3
    have hl2 : @LT.lt Nat _ 313 l2 := Nat.lt_trans hD (l3 (D1, W.listOf ws.toArray 0) (List.mem_append_right _ (.tail _ (.head _))))
    have NE : News g L h3 ((D, LCg.lst ys) :: (l2, W.listOf vs.toArray 0) :: (100, tabObj #[]) :: (288, tabObj #[]) :: (nw ++ tl)) := PySem.W.KStt.news_of N3 fun q hq => by
      first | (revert q; (repeat (first | exact sub_nil | (refine sub_cons ?_ ?_; (· repeat (first | assumption | exact List.Mem.head _ | refine List.Mem.tail _ ?_))) | refine sub_app ?_ ?_ | (intro p hp; (repeat (first | exact hp | exact List.mem_append_left _ hp | exact List.mem_append_right _ hp | refine List.Mem.tail _ ?_))))); done) | (simp only [List.mem_cons, List.mem_append] at hq ⊢; rcases hq with h | h | h | h | h | h <;> first | ((repeat (first | exact h | exact Or.inl h | refine Or.inr ?_)); done) | simp only [h, true_or, or_true])
    clear N3 N2 l3
    repeat' (first | (k_unfold; try dsimp only) | (k_end; kc_close) | (walk1; all_goals ((try k_fold); (try dsimp only); try with_reducible refine wpAny_tk fun _ => ?_)) | (dsimp only; walk1) | (leave1; try dsimp only))
    rename Fr g L _ _ => FC
    rename News g L _ _ => NC
    try dsimp only
    show wpC _ (ktrTop _ _ _ (Str.ofString "law") (lawScope (hd.heap_39 w.params)) L fa cd [] []) (execs (lawRet (hd.heap_39 w.params)) (envOf (Str.ofString "law") (lawScope (hd.heap_39 w.params)) L fa cd)) _ _ _
    have hgood := all_good ks
    have hok : ∀ st ∈ lotOf ks ++ ownS, StepOk st := fun st hs => (good_ok (hgood st hs)).1
    have hrel := sim_all hgood rel0 due0_ok
    refine law_ret w mean mg mb D _ 0 ys _ (lotOf ks) ownS _ _ _ _ fa cd callerA g L _ _ _ _ B FC X0 NC T C1 C2 ?_ ?_ (hst.mono ?_) ?_ rfl rfl (by decide) (by decide) (fun st hs => good_ok (hgood st hs)) (lines_ok hgood) ?_ hrel.told.symm hrel.rs.symm (dues_tok hok due0_ok (fun o ho => by simp [due0] at ho)) ?_
    · intro q hq
      rcases List.mem_cons.mp hq with rfl | hq
      · exact ⟨Ne.symm (off1 (100, tabObj #[]) (List.mem_append_right _ (.tail _ (.head _)))), Ne.symm (off1 (288, tabObj #[]) (List.mem_append_right _ (.tail _ (.tail _ (.head _)))))⟩
      · rcases List.mem_cons.mp hq with rfl | hq
        · exact ⟨(show @Ne Nat _ _ by omega), (show @Ne Nat _ _ by omega)⟩
        · have := hg2 q hq
          exact ⟨by omega, by omega⟩
    · exact hl2
    · intro q hq
      exact List.mem_append_right _ hq
    · exact hso.mono fun q hq => List.mem_append_left _ hq
    · have : (lotOf ks).length = ks.length := List.length_map _
      rw [List.length_append, this]
      show ks.length + 16 ≤ 90
      omega
    · intro h' tk' m' t100 t288 F9 N9
      exact ⟨rfl, h', tk', m', t100, t288, rfl, F9, N9⟩
  · rintro i j ys nw hi ⟨tl, rfl, hst, hgt⟩ ih
    refine LCg.CompRest.succ ?_
    intro v I oI C oC D m₂ h tk E' hv hC hx F' N' off' ne'
    obtain ⟨x, t, rfl, hxi⟩ := hI.at i v (by rw [List.getElem?_toArray] at hv; exact hv)
    clear NA FA
    repeat' (first | (k_unfold; try dsimp only) | (k_end; kc_close) | (walk1; all_goals ((try k_fold); (try dsimp only); try with_reducible refine wpAny_tk fun _ => ?_)) | (dsimp only; walk1) | (leave1; try dsimp only))
    refine Halt.in ?_
    refine stp_c w mean mg mb _ _ _ _ _ _ _ _ _ _ _ _ _ g g L _ _ _ _ B F' X0 N' T rfl (Int.fmod_nonneg_of_pos _ (by decide)) (PySem.W.fmod_hi _ (by decide)) (by decide) (by decide) fun p k t0 t1 t2 t3 h3 tk3 lz F3 N3 => ?_
    repeat' (first | (k_unfold; try dsimp only) | (k_end; kc_close) | (walk1; all_goals ((try k_fold); (try dsimp only); try with_reducible refine wpAny_tk fun _ => ?_)) | (dsimp only; walk1) | (leave1; try dsimp only))
    have lzD : @LT.lt Nat _ D1 p := allLt_mem lz.2.2.2 (D1, W.listOf ws.toArray 0) (List.mem_append_right _ (.head _))
    refine CompEnd_new F3 N3 lz off' (.inr ⟨_, .tail _ (List.mem_append_right _ (.head _)), rfl, _, rfl⟩) ?_
    refine ih _ _ ⟨(p, _) :: tl, rfl, ?_, fun q hq => ?_⟩
    · rw [lotOf_snoc hxi]
      exact StepsAre.snoc (st := lotStep (x.fmod 12582912)) ⟨p, k, t0, t1, t2, t3, rfl, .head _⟩ (hst.mono fun q hq => .tail _ hq)
    · rcases List.mem_cons.mp hq with rfl | hq
      · dsimp only; omega
      · exact hgt q hq
end
end Mine
theorem PySem.Challenge.cw_in0190_01_holds : PySem.Challenge.rw_in0190_01.Holds := by
  exact Mine.law_of Mine.law_walks
