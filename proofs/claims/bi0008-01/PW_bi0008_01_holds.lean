import PyProof.Rows.All
import Wide.All
import OpenK.AllK
import Wide.FinOn
import PySem.Challenge.RW_bi0008_01
set_option Elab.async false
section
open PySem PySem.W PyProof.Rows
set_option maxRecDepth 100000
namespace Mine
open PySem.Sem (wp)

/-- a code that holds a bytearray's memory while it runs -/
def holder (c : Code) : Bool := match c with
  | .builtin id _ => (["bytearray.__contains__", "bytearray.__mod__", "bytearray.__rmod__", "_struct.pack_into.held", "bytearray.find.held"] ++ PySem.Builtin.Bytes.decodersThatHold).contains id
  | _ => false
def CleanL (l : List (Code × Pos)) : Prop := ∀ x ∈ l, holder x.1 = false
structure Clean (Γ : PySem.Ctx) : Prop where
  own : holder Γ.code = false
  below : CleanL Γ.below

/-- as wpAny, over contexts whose stack holds no holder -/
def wpC {α : Type} (M : Model) (A : Around) (t : Sem α) (Q : α → Shared → Prop) (E : Value → Shared → Prop) (s : Shared) : Prop :=
  ∀ Γ p, Γ.In A → Clean Γ → wp M Γ t (fun a _ s' => Q a s') (fun e _ s' => E e s') p s
def codeC (M : Model) (A : Around) (c : Code) (R : Result → Shared → Prop) (s : Shared) : Prop :=
  ∀ Γ p, Γ.code = c → Γ.Below A → CleanL Γ.below → wpCode M Γ R p s

section
variable {α β : Type} {M : Model} {A : Around} {E : Value → Shared → Prop} {s : Shared}
theorem wpC_of {t : Sem α} {Q : α → Shared → Prop} (h : wpAny M A t Q E s) : wpC M A t Q E s := fun Γ p hΓ _ => h Γ p hΓ
theorem codeC_of {c : Code} {R : Result → Shared → Prop} (h : codeAny M A c R s) : codeC M A c R s := fun Γ p hc hΓ _ => h Γ p hc hΓ
theorem wpC_mono {t : Sem α} {Q Q' : α → Shared → Prop} {E' : Value → Shared → Prop} (h : wpC M A t Q E s) (hQ : ∀ a s, Q a s → Q' a s) (hE : ∀ e s, E e s → E' e s) : wpC M A t Q' E' s :=
  fun Γ p hΓ hC => Sem.wp_mono M Γ t (fun a _ s => hQ a s) (fun e _ s => hE e s) p s (h Γ p hΓ hC)
theorem wpC_bind {m : Sem α} {f : α → Sem β} {Q : β → Shared → Prop} (h : wpC M A m (fun a s' => wpC M A (f a) Q E s') E s) : wpC M A (m >>= f) Q E s := fun Γ p hΓ hC => by
  rw [Sem.wp_bind']
  exact Sem.wp_mono M Γ m (fun a p' s' h' => h' Γ p' hΓ hC) (fun _ _ _ h' => h') p s (h Γ p hΓ hC)
/-- the first part by wpAny, the rest by wpC -/
theorem wpC_seq {m : Sem α} {f : α → Sem β} {Q : β → Shared → Prop} (h : wpAny M A m (fun a s' => wpC M A (f a) Q E s') E s) : wpC M A (m >>= f) Q E s := wpC_bind (wpC_of h)
theorem wpC_pure {a : α} {Q : α → Shared → Prop} (h : Q a s) : wpC M A (pure a) Q E s := fun _ _ _ _ => h
theorem wpC_holding {vs : List Value} {m : Sem α} {Q : α → Shared → Prop} (h : wpC M A m Q E s) : wpC M A (holding vs m) Q E s :=
  fun Γ p hΓ hC => by rw [Sem.wp_holding]; exact h Γ p hΓ hC
theorem wpC_onRaise {m : Sem α} {k : Value → Sem Unit} {Q : α → Shared → Prop}
    (h : wpC M A m Q (fun e s' => wpAny M A (k e) (fun _ s'' => E e s'') E s') s) : wpC M A (m.onRaise k) Q E s := fun Γ p hΓ hC => by
  rw [Sem.wp_onRaise]
  exact Sem.wp_mono M Γ m (fun _ _ _ h' => h') (fun e p' s' h' => h' Γ p' hΓ) p s (h Γ p hΓ hC)
theorem codeC_mono {c : Code} {R R' : Result → Shared → Prop} (h : codeC M A c R s) (hR : ∀ r s, R r s → R' r s) : codeC M A c R' s :=
  fun Γ p hc hΓ hC => wpCode_mono hR (h Γ p hc hΓ hC)
theorem wpC_runValue {c : Code} {Q : Value → Shared → Prop}
    (hc : codeC M A c (fun r s' => match r with | .ok (.ret v) => Q v s' | .ok _ => False | .error e => E e s') s) : wpC M A (runValue c) Q E s := fun Γ p hΓ hC => by
  rw [Sem.wp_runValue]
  refine hc _ p rfl (hΓ.enter c none p (by intro x; cases x)) fun x hx => ?_
  rcases List.mem_cons.mp hx with rfl | hx
  · exact hC.own
  · exact hC.below x hx
theorem wpC_call {f : Value} {pos : List Value} {kw : List (Str × Value)} {Q : Value → Shared → Prop}
    (hc : codeC M A (.call f ⟨pos, kw⟩) (fun r s' => match r with | .ok (.ret v) => Q v s' | .ok _ => False | .error e => E e s') s) : wpC M A (call f pos kw) Q E s := wpC_runValue hc
theorem codeC_of_tree {c : Code} {R : Result → Shared → Prop} (ho : holder c = false)
    (h : wpC M (A.under c) (M.den c) (fun fin s' => match fin with | .done f => R (.ok f) s' | .again c' => c'.quiet = true ∧ codeC M A c' R s')
      (fun e s' => R (.error e) s') s) : codeC M A c R s := fun Γ p hc hΓ hC => by
  rw [wpCode_iff_wp, hc]
  refine Sem.wp_mono M Γ _ (fun fin p' s' h' => ?_) (fun _ _ _ h' => h') p s (h Γ p (hc ▸ hΓ.in) ⟨hc ▸ ho, hC⟩)
  cases fin with
  | done f => exact h'
  | again c' => exact ⟨h'.1, h'.2 (Γ.goto c') p' rfl (hΓ.goto c') hC⟩
theorem wp_of_wpC_done {Γ : PySem.Ctx} {t : Sem Fin} {R : Result → Shared → Prop} (hin : Γ.In A) (hC : Clean Γ)
    (h : wpC M A t (fun fin s' => ∃ f, fin = .done f ∧ R (.ok f) s') (fun e s' => R (.error e) s') s) (p : Pos) :
    wp M Γ t (Sem.finPost M Γ R) (fun e _ s' => R (.error e) s') p s := by
  refine Sem.wp_mono M Γ t (fun fin p' s' h' => ?_) (fun _ _ _ h' => h') p s (h Γ p hin hC)
  obtain ⟨f, rfl, hf⟩ := h'
  exact hf
end
theorem caller_clean : Clean ⟨.builtin "claim.caller" {}, none, none, [], none⟩ := ⟨by decide +kernel, fun x hx => nomatch hx⟩
end Mine
end
section
open PySem PySem.W PyProof.Rows PySem.Calls
set_option maxRecDepth 100000
namespace Mine

theorem thread_ends_C {prog : Program} {w : World} {t : Sem Fin} {s : Shared} {R : Result → Shared → Prop} (hreg : s.asleep)
    (h : wpC (model prog w) callerA t (fun fin s' => ∃ f, fin = .done f ∧ (R (.ok f) s' ∧ leftWithCleanup s'.gens = false)) (fun e s' => R (.error e) s' ∧ leftWithCleanup s'.gens = false) s) :
    ∃ n r s' s'', runN (denote table) prog w n s ⟨t, .builtin "claim.caller" {}, default, []⟩ = .halted (outcomeOf r) s' ∧
      schedN (denote table) prog w n (.single s ⟨t, .builtin "claim.caller" {}, default, []⟩) = .halted (outcomeOf r) s' ∧ s'.forget = s''.forget ∧ R r s'' := by
  obtain ⟨n, r, s₁, s₂, hs, hn, hfo, hR⟩ := wp_halts_full (M := model prog w) (R := R) hreg (wp_of_wpC_done (R := fun r s' => R r s' ∧ leftWithCleanup s'.gens = false) caller_in caller_clean h default)
  exact ⟨n, r, s₂, s₁, hn, hs, hfo, hR⟩

/-- a call from the caller's context, shown over clean stacks -/
theorem callFrom_C {c : ClaimW} {tree : List Value → Sem Fin} {w : World} {s : Shared} {free : Addr → Prop} {gens : Prop} {kept : Heap → Prop} (hz : s.asleep) (hgens : s.gens = #[])
    (hspec : ∀ args, c.pre args = true → WData.layableAll args = true → ∀ ord : List DictEntry → List DictEntry, (∀ l, (ord l).Perm l) →
      ∃ vs s₁, layAllW c.records (classAt s.heap) w.params ord args s = some (vs, s₁) ∧
        wpC (model c.prog w) callerA (tree vs) (fun fin s' => ∃ f, fin = .done f ∧ (c.Ends s args vs s₁ (.ok f) s' ∧ s'.os = s.os ∧ AllBare s'.gens ∧ kept s'.heap))
          (fun e s' => c.Ends s args vs s₁ (.error e) s' ∧ s'.os = s.os ∧ AllBare s'.gens ∧ kept s'.heap) s₁) :
    c.CallFrom (fun vs => ⟨tree vs, .builtin "claim.caller" {}, default, []⟩) w free gens kept s := by
  intro args hpre hlay ord hord
  obtain ⟨vs, s₁, hlaid, hcode⟩ := hspec args hpre hlay ord hord
  have rest := layAllW_rest _ _ _ hlaid
  have run := thread_ends_C (prog := c.prog) (w := w) (t := tree vs) (s := s₁) (R := fun r s' => c.Ends s args vs s₁ r s' ∧ s'.os = s.os ∧ kept s'.heap) (Shared.asleep_of_life rest.2.2.2 hz)
    (wpC_mono hcode (fun fin s' ⟨f, e, a, b, g, k⟩ => ⟨f, e, ⟨a, b, k⟩, leftWithCleanup_false_of_bare g⟩) fun e s' ⟨a, b, g, k⟩ => ⟨⟨a, b, k⟩, leftWithCleanup_false_of_bare g⟩)
  obtain ⟨n, r, sA, sB, hrun, hsched, hf, ends, hos, hkept⟩ := run
  obtain ⟨heq, _, _, oeq, _⟩ := Shared.forget_eq hf
  have ends := ends.congr heq
  have hkept : kept sA.heap := heq.symm ▸ hkept
  have hosA : sA.os = s.os := oeq.trans hos
  have hlife : sA.heap.life = s.heap.life := (runN_life _ _ _ hrun).trans rest.2.2.2
  refine ⟨vs, s₁, hlaid, n, _, sA, hsched, ?_, (fun _ i x hx => by rw [hgens] at hx; simp at hx), hkept, by rw [hlife], Shared.rest_eq hosA⟩
  rcases ends with ⟨v, rfl, a, b, c', d, e⟩ | ⟨e, ob, cls, rfl, a, b, c', d, f⟩
  · exact .inl ⟨v, rfl, a, b, c', fun b o y _ => d b o y, e⟩
  · exact .inr ⟨e, ob, cls, rfl, a, b, c', d, fun b o y _ => f b o y⟩

abbrev WalkC (q : Program) (loose : List Str) (XP : (Str → Option Value) → Heap → Prop) (YP : World → Heap → Prop) (r : RowW) (d : DefRec) (kwd : List (Str × Expr)) : Prop :=
  ∀ (w : World) (s₀ s₁ : Shared) (mg mb : Str → Option Value), Ground q loose r.records XP w s₀ mg mb s₁.heap → YP w s₁.heap → ∀ (a : Addr) (o : Obj) (pm cd doc dV kV : Value), s₁.heap.get? a = some o →
    o.data = .func { docDef d.name d.params d.body d.scope pm cd doc with defaults := dV, kwdefaults := kV } → s₁.heap.CodeRec cd d.name → Dflts mg s₁.heap d.params kwd dV kV → mg d.name = some (.ref a) → s₁.gens = #[] →
    ∀ (args : List WData) (vals : List Value) (as : List Addr), r.claim.pre args = true → WData.layableAll args = true → ReadsAllW r.records (classAt s₀.heap) s₁.heap vals args as → WellAll w.params s₁.heap vals args → (∀ a ∈ as, (a == sysModules) = false) →
      wpC (model r.prog w) callerA (PySem.call (.ref a) vals) (fun v s' => GoodWG r.claim (classAt s₀.heap) (ExcName.means s₀.heap) args s₁ (.ok (.ret v)) s')
        (fun e s' => GoodWG r.claim (classAt s₀.heap) (ExcName.means s₀.heap) args s₁ (.error e) s') s₁

/-- the head over clean stacks; its name is the library's own within this namespace, so that open_top asks it -/
theorem PySem.W.holds_open {r : OpenRow} {q : Program} {loose : List Str} {Xt : Shared → Bool} {XP : (Str → Option Value) → Heap → Prop} {α : Type} {Yf : Shared → α} {Ya : World → α} {YP : World → Heap → Prop} {d : DefRec} {kwd : List (Str × Expr)} {N : Nat}
    (left : LeftO r.prog q loose Xt Yf Ya N) (hY : ∀ w s, Yf s = Ya w → YP w s.heap) (hYk : ∀ w h h', YP w h → (∀ b o, h.get? b = some o → h'.get? b = some o) → YP w h')
    (hX : ∀ s, Xt s = true → XP (s.heap.nsMap mainGlobals) s.heap) (hXk : ∀ mg h h', XP mg h → (∀ b o, h.get? b = some o → h'.get? b = some o) → XP mg h')
    (hdef : defOf q r.name = some (d, kwd)) (hp : r.prog.theDef r.name = some (d.params, d.body, d.scope)) (hk : kwWritten? d.params.kwonlyargs d.params.kw_defaults = some kwd) (hRf : ∀ s, Xt s = true → RecFacts r.records s.heap) (hwr : (!r.writes || r.records.isEmpty) = true)
    (k1 : r.wellSaid = true) (ok : (chainsOk q && opensWell r.prog && (frees r.toRowW && r.within.isEmpty)) = true) (hb : r.prog.bare) (hw : r.toRowW.promised)
    (call : WalkC q loose XP YP r.toRowW d kwd) : r.Holds := by
  simp only [Bool.and_eq_true] at ok
  obtain ⟨⟨hch, o1⟩, k5, k6⟩ := ok
  obtain ⟨hsame, hu, ha, hap, hm⟩ := frees_parts k5
  have hwi : r.toRowW.claim.within = [] := List.isEmpty_iff.mp k6
  refine ⟨k1, hw, ⟨hb, o1, by show r.makers.map _ = []; rw [hm]; rfl⟩, hw.witness, fun w => ⟨(left.behind hX hch w).1, fun sI hsI => ?_⟩⟩
  obtain ⟨s₀, hf, hg0, s, hT, hz, hgens, hg, GX, y⟩ := (left.behind (XP := fun mg h => XP mg h ∧ RecFacts r.records h) (fun s hs => ⟨hX s hs, hRf s hs⟩) hch w).2 sI hsI
  have RF := GX.X.2
  have G0 : Ground q loose [] XP w s (s.heap.nsMap mainGlobals) (s.heap.nsMap builtinsNs) s.heap := ⟨GX.T, GX.B, GX.D, GX.TE, GX.TD, GX.W, GX.X.1, GX.cls, GX.has, GX.apart, GX.once, GX.K⟩
  have G : Ground q loose r.records XP w s _ _ s.heap := RF.ground G0
  have hgens : s.gens = #[] := Array.eq_empty_of_size_eq_zero (beq_iff_eq.mp hgens)
  refine ⟨s₀, hf, hg0, s, hT, fun n hn => ?_, RF.1, RF.2.1, ?_⟩
  · obtain rfl : n = r.name := by split at hn <;> simp_all
    exact pinned_of_view hg G0 hdef hp hk
  refine callFrom_C (c := r.toRowW.claim) (tree := fun vs => do match ← nsGet mainNs r.name with
      | some f => do ret (← PySem.call f vs)
      | none => unsupported "claim.caller:no-such-global") hz hgens fun args hpre hlay ord hord => ?_
  obtain ⟨⟨vs, s₁⟩, hlaid⟩ := Option.isSome_iff_exists.mp (layAllW_isSome (P := w.params) (ord := ord) G.has args r.args s (pre_splitW hpre).1)
  have keeps := layAllW_keeps _ _ _ hlaid
  have rest := layAllW_rest _ _ _ hlaid
  obtain ⟨as, hrd, hin, hold⟩ := reads_layAllW hord _ _ _ hlaid hlay s₁.heap (fun _ _ e => e)
  have L : Laid r.records w s s₁ args vs as := ⟨⟨ord, hord, hlaid⟩, hrd, hin, hold, keeps, rest.1.trans hgens, rest.2.2.1⟩
  have G₁ := G.keeps hXk keeps
  obtain ⟨a, o, pm, cd, doc, dV, kV, h1, h2, h3, h4, h5⟩ := G₁.fn hdef
  have main := call w s s₁ _ _ G₁ (hYk _ _ _ (hY w s y) keeps) a o pm cd doc dV kV h2 h3 h4 h5 (defOf_name hdef ▸ h1) L.gens args vs as hpre hlay L.reads L.well (L.low G.low)
  have hi := ident_freeW hu ha hap
  have fin : ∀ (R : Result) (s' : Shared), GoodWG r.toRowW.claim (classAt s.heap) (ExcName.means s.heap) args s₁ R s' →
      r.toRowW.claim.Ends s args vs s₁ R s' ∧ s'.os = s.os ∧ AllBare s'.gens ∧ (r.writes = true → namesKept r.prog r.keeps s.heap s'.heap ∧ ∀ x ∈ r.records, ∀ a, classAt s.heap x.1 = some a → recordClass s'.heap a x.1 (x.2.map (·.1)) = true) := fun R s' g =>
    have z := g.laid (c := r.toRowW.claim) hsame hwi hi L
    ⟨z.1, z.2.1, z.2.2, fun q => ⟨namesKept_of hT hg r.keeps keeps g.2.1.old, noTable hwr q⟩⟩
  refine ⟨vs, s₁, hlaid, ?_⟩
  refine wpC_seq (wpAny_nsGet G₁.T.g ?_)
  rw [h1]
  exact wpC_bind (wpC_mono main (fun v s' g => wpC_pure ⟨_, rfl, fin _ _ g⟩) fun e s' g => fin _ _ g)
end Mine
end
section
open PySem PySem.W PyProof.Rows
namespace Mine
set_option maxRecDepth 100000 in
set_option maxHeartbeats 8000000 in
open_top hd for PySem.Challenge.rw_bi0008_01
#print axioms hd
end Mine
end
section
open PySem PySem.W PyProof.Rows PySem.Calls
set_option maxRecDepth 100000
namespace Mine
section
variable {prog : Program} {w : World} {A : Around} {R : Result → Shared → Prop} {s : Shared}
theorem codeC_func {body : List Stmt} {env : Env} (hb : holder (.func body env) = false)
    (h : wpC (model prog w) (A.deeper env) (execs body env) (fun f s' => R (.ok (.ret (match f with | .ret v => v | _ => .none))) s')
      (fun e s' => wpAny (model prog w) (A.deeper env) (leaving env e) (fun _ s'' => R (.error e) s'') (fun e' s'' => R (.error e') s'') s') s) :
    codeC (model prog w) A (.func body env) R s := by
  refine codeC_of_tree hb ?_
  show wpC _ (A.deeper env) (do point; match ← (execs body env).onRaise (leaving env) with | .ret v => ret v | _ => ret .none) _ _ s
  refine wpC_seq (wpAny_point (wpC_bind (wpC_onRaise (wpC_mono h (fun f s' h' => ?_) fun _ _ h' => h'))))
  cases f <;> exact wpC_pure h'
/-- a call of a def with cells, from module level, over clean stacks -/
theorem callC_cells {name : Str} {params : Arguments} {body : List Stmt} {scope : Scope} {pm cd doc : Value} {a : Addr} {o : Obj} {args : List Value} {binds : List (Str × Value)}
    (hroom : A.depth < recursionLimit) (ho : s.heap.get? a = some o) (hdata : o.data = .func (docDef name params body scope pm cd doc)) (hlim : s.heap.NoLimit) (hcd : s.heap.CodeRec cd name)
    (hbind : bindArgs (docDef name params body scope pm cd doc) ⟨args, []⟩ = pure binds)
    (hkind : ∀ x ∈ binds, scope.names.lookup x.1 = some .local ∨ (scope.names.lookup x.1 = some .cell ∧ ((cellsFrom (s.heap.objs.size + 1) scope.names []).lookup x.1).isSome = true))
    (hnd : ((cellsFrom 0 scope.names []).map (·.1)).Nodup)
    (h : ∀ h₁ tk cells, Fr s.heap s.heap.objs.size h₁ (bindL (envOfC name scope s.heap.objs.size a cd).kindOf binds fun _ => none) → News s.heap s.heap.objs.size h₁ cells →
      CellsAre (bindC (envOfC name scope s.heap.objs.size a cd).kindOf binds fun _ => none) (cellsFrom (s.heap.objs.size + 1) scope.names []) cells →
      wpC (model prog w) (A.deeper (envOfC name scope s.heap.objs.size a cd)) (execs body (envOfC name scope s.heap.objs.size a cd))
        (fun f s' => R (.ok (.ret (match f with | .ret v => v | _ => .none))) s')
        (fun e s' => wpAny (model prog w) (A.deeper (envOfC name scope s.heap.objs.size a cd)) (leaving (envOfC name scope s.heap.objs.size a cd) e)
          (fun _ s'' => R (.error e) s'') (fun e' s'' => R (.error e') s'') s')
        { s with heap := h₁, toks := tk })
    (hco : scope.isCoroutine = false) (hgen : scope.isGenerator = false) (hk : scope.kind = .function) :
    codeC (model prog w) A (.call (.ref a) ⟨args, []⟩) R s := by
  refine codeC_of_tree rfl ?_
  show wpC _ A.in1 (callAny (.ref a) ⟨args, []⟩) _ _ s
  simp only [callAny]
  refine wpC_of (wpAny_bind (wpAny_load ho ?_))
  obtain ⟨c, oc, vs, tq, hc, hoc, hdc, hq⟩ := hcd
  subst hc
  simp only [hdata, callFunction, docDef, hco, hgen]
  refine wpAny_bind (m := field (.ref c) 1) (wpAny_field hoc hdc hq (wpAny_bind (wpAny_pure ?_)))
  refine wpAny_bind (wpAny_of_eq hbind (wpAny_bind (wpAny_newFunctionEnv_cells hk hkind fun env' he s' X => ?_)))
  obtain ⟨h₁, tk, rfl, _⟩ := X.done
  subst he
  refine wpAny_bind (wpAny_enterFrame (hlim.keeps X.toInCall.keep) hroom (wpAny_pure ⟨rfl, ?_⟩))
  obtain ⟨cells, N, Y⟩ := Cl.news (h₀ := s.heap) (Nat.le_refl _) fun n c hm => ⟨X.cell n c (lookup_of_mem_nodup (cellsFrom_names scope.names 0 (s.heap.objs.size + 1) [] [] rfl ▸ hnd) hm), X.above n c hm⟩
  exact codeC_func rfl (h h₁ tk cells ⟨X.toInCall.ns, X.toInCall.keep, X.toInCall.fresh⟩ N Y)
/-- the entry of the call whose end is GoodWG -/
theorem enter_C {f : Value} {pos : List Value} {c : ClaimW} {cl : Str → Option Addr} {mean : ExcName → Option Value} {args : List WData} {s₁ : Shared}
    (h : codeC (model prog w) A (.call f ⟨pos, []⟩) (GoodWG c cl mean args s₁) s) :
    wpC (model prog w) A (PySem.call f pos) (fun v s' => GoodWG c cl mean args s₁ (.ok (.ret v)) s') (fun e s' => GoodWG c cl mean args s₁ (.error e) s') s :=
  wpC_call (codeC_mono h fun res s' g => by rcases g.1 with ⟨v, _, _, rfl, _⟩ | ⟨e, _, _, rfl, _⟩ <;> exact g)
end
end Mine
end
section
open PySem PySem.W PyProof.Rows
namespace Mine
open PySem.Sem (wp)
section
variable {M : Model} {A : Around} {env : Env} {l l1 l2 : List Stmt} {s : Shared}
theorem wp_execs_app {Γ : PySem.Ctx} {Q : Flow → Pos → Shared → Prop} {E : Value → Pos → Shared → Prop} : ∀ {l1 : List Stmt} {p : Pos} {s : Shared},
    wp M Γ (execs l1 env) (fun f p' s' => match f with | .next => wp M Γ (execs l2 env) Q E p' s' | f => Q f p' s') E p s → wp M Γ (execs (l1 ++ l2) env) Q E p s
  | [], p, s, h => h
  | st :: r, p, s, h => by
    rw [execs_cons, Sem.wp_bind'] at h
    show wp M Γ (execs (st :: (r ++ l2)) env) Q E p s
    rw [execs_cons, Sem.wp_bind']
    refine Sem.wp_mono M Γ _ (fun f p' s' h' => ?_) (fun _ _ _ h' => h') _ _ h
    cases f with
    | next => exact wp_execs_app h'
    | _ => exact h'
theorem execs_split {E : Value → Shared → Prop} {Q : Flow → Shared → Prop} (n : Nat)
    (h : wpAny M A (execs (l.take n) env) (fun f s' => match f with | .next => wpAny M A (execs (l.drop n) env) Q E s' | f => Q f s') E s) : wpAny M A (execs l env) Q E s := fun Γ p hΓ => by
  rw [← List.take_append_drop n l]
  refine wp_execs_app (Sem.wp_mono M Γ _ (fun f p' s' h' => ?_) (fun _ _ _ h' => h') _ _ (h Γ p hΓ))
  cases f with
  | next => exact h' Γ p' hΓ
  | _ => exact h'
theorem execsC_split {E : Value → Shared → Prop} {Q : Flow → Shared → Prop} (n : Nat)
    (h : wpC M A (execs (l.take n) env) (fun f s' => match f with | .next => wpC M A (execs (l.drop n) env) Q E s' | f => Q f s') E s) : wpC M A (execs l env) Q E s := fun Γ p hΓ hC => by
  rw [← List.take_append_drop n l]
  refine wp_execs_app (Sem.wp_mono M Γ _ (fun f p' s' h' => ?_) (fun _ _ _ h' => h') _ _ (h Γ p hΓ hC))
  cases f with
  | next => exact h' Γ p' hΓ hC
  | _ => exact h'
end
end Mine
end
section
open PySem PySem.W PyProof.Rows
namespace Mine
/-! the plain functions -/
def cadd (a b : Int) : Int := (a + b) % 65536 + (a + b) / 65536
def wsum : List Int → Int
  | [] => 0
  | [a] => a * 256
  | a :: b :: r => a * 256 + b + wsum r
def norm (x : Int) : Int := if 0 < x then (x - 1) % 65535 + 1 else 0
def lsum (ks : List Int) : Int := norm (wsum ks)
def octs (ws : List Int) : List Int := ws.flatMap fun w => [w / 256, w % 256]
/-- the little-endian words' sum (octets in pairs) -/
def lesum : List Int → Int
  | [] => 0
  | [a] => a
  | a :: b :: r => a + b * 256 + lesum r

theorem cadd_of (x : Int) : PySem.Builtin.bitAnd x 65535 + x.fdiv (2 ^ Int.toNat 16) = x % 65536 + x / 65536 := by
  rw [bitAnd_m16, Int.fdiv_eq_ediv_of_nonneg _ (by decide)]
  rfl

/-- the octets' bounds -/
def Oct (ks : List Int) : Prop := ∀ k ∈ ks, 0 ≤ k ∧ k < 256
theorem Oct.head {k : Int} {r : List Int} (h : Oct (k :: r)) : 0 ≤ k ∧ k < 256 := h k (.head _)
theorem Oct.tail {k : Int} {r : List Int} (h : Oct (k :: r)) : Oct r := fun x hx => h x (.tail _ hx)
theorem Oct.app {a b : List Int} (h : Oct a) (h' : Oct b) : Oct (a ++ b) := fun x hx => (List.mem_append.mp hx).elim (h x) (h' x)
theorem oct_bytes (b : Array UInt8) : Oct (KBw.bInts b) := fun _ h => KBw.ints_in h
theorem wsum_nonneg : ∀ {ks : List Int}, Oct ks → 0 ≤ wsum ks
  | [], _ => by simp [wsum]
  | [a], h => by have := h.head; simp only [wsum]; omega
  | a :: b :: r, h => by
    have h1 := h.head
    have h2 := h.tail.head
    have h3 := wsum_nonneg h.tail.tail
    simp only [wsum]
    omega
theorem wsum_pad : ∀ (ks : List Int), ks.length % 2 = 1 → wsum (ks ++ [0]) = wsum ks
  | [], h => by simp at h
  | [a], _ => by simp [wsum]
  | a :: b :: r, h => by
    have := wsum_pad r (by simp only [List.length_cons] at h; omega)
    simp only [List.cons_append, wsum, this]
theorem norm_congr {x y : Int} (h0 : 0 ≤ x) (h1 : 0 ≤ y) (hz : x = 0 ↔ y = 0) (hm : x % 65535 = y % 65535) : norm x = norm y := by
  unfold norm
  by_cases hx : 0 < x
  · rw [if_pos hx, if_pos (by omega)]
    omega
  · rw [if_neg hx, if_neg (by omega)]
theorem norm_range {x : Int} : 0 ≤ norm x ∧ norm x ≤ 65535 := by
  unfold norm
  split <;> omega
theorem norm_mod {x : Int} (h : 0 ≤ x) : norm x % 65535 = x % 65535 := by
  unfold norm
  split <;> omega
theorem norm_zero {x : Int} (h : 0 ≤ x) : norm x = 0 ↔ x = 0 := by
  unfold norm
  split <;> omega
theorem lsum_range (ks : List Int) : 0 ≤ lsum ks ∧ lsum ks ≤ 65535 := norm_range
abbrev fromB (a : Int) (ks : List Int) : Int := ks.foldl (fun a k => a * 256 + k) a
theorem fromB_spec : ∀ (ks : List Int) (a : Int), 0 ≤ a → Oct ks → 0 ≤ fromB a (ks ++ List.replicate (ks.length % 2) 0) ∧ fromB a (ks ++ List.replicate (ks.length % 2) 0) % 65535 = (a + wsum ks) % 65535 ∧
    (fromB a (ks ++ List.replicate (ks.length % 2) 0) = 0 ↔ a + wsum ks = 0)
  | [], a, ha, _ => by simp [fromB, wsum, ha]
  | [x], a, ha, h => by
    have := h.head
    simp only [fromB, List.length_singleton, List.replicate, List.cons_append, List.nil_append, List.foldl_cons, List.foldl_nil, wsum]
    omega
  | x :: y :: r, a, ha, h => by
    have h1 := h.head
    have h2 := h.tail.head
    have e : (x :: y :: r).length % 2 = r.length % 2 := by simp only [List.length_cons]; omega
    obtain ⟨i1, i2, i3⟩ := fromB_spec r ((a * 256 + x) * 256 + y) (by omega) h.tail.tail
    have hw := wsum_nonneg h.tail.tail
    rw [e]
    simp only [fromB, List.cons_append, List.foldl_cons, wsum] at i1 i2 i3 ⊢
    refine ⟨i1, ?_, ?_⟩
    · rw [i2]; omega
    · rw [i3]; omega
theorem value_spec {ks : List Int} (h : Oct ks) : norm (KFB.value (ks ++ List.replicate (ks.length % 2) 0)) = lsum ks := by
  obtain ⟨a, b, c⟩ := fromB_spec ks 0 (by omega) h
  rw [Int.zero_add] at b c
  exact norm_congr a (wsum_nonneg h) c b
theorem ls_pos {x : Int} (h : 0 < x) : (x - 1).fmod 65535 + 1 = norm x := by
  unfold norm
  rw [if_pos h, Int.fmod_eq_emod_of_nonneg _ (by decide)]
theorem ls_neg {x : Int} (h : ¬ 0 < x) : 0 = norm x := by
  unfold norm
  rw [if_neg h]
theorem pad_ints (b : Array UInt8) : KBw.bInts (b ++ Array.replicate (((KBw.bInts b).length : Int).fmod 2).toNat 0) = KBw.bInts b ++ List.replicate ((KBw.bInts b).length % 2) 0 := by
  rw [KBw.ints_app rfl rfl]
  congr 1
  have e : (((KBw.bInts b).length : Int).fmod 2).toNat = (KBw.bInts b).length % 2 := by
    rw [Int.fmod_eq_emod_of_nonneg _ (by decide)]
    omega
  rw [e]
  simp [KBw.bInts]
theorem ls_end (b : Array UInt8) : norm (KFB.value (KBw.bInts (b ++ Array.replicate (((KBw.bInts b).length : Int).fmod 2).toNat 0))) = lsum (KBw.bInts b) := by
  rw [pad_ints, value_spec (oct_bytes b)]
end Mine
end
section
open PySem PySem.W PyProof.Rows
set_option maxRecDepth 100000
namespace Mine
open PySem.Builtin

theorem look_bytes_bytes : typeLookup (.type "bytes") "__bytes__" = pure (some (.builtin "bytes.__bytes__")) := by rw [typeLookup_type, builtinLookup_eq_fast]; kernel_rfl

theorem look_int_bytes : typeLookup (.type "int") "__bytes__" = pure none := by rw [typeLookup_type, builtinLookup_eq_fast]; kernel_rfl
theorem sub_ba : isSubtype (.type "bytearray") (.type "bytearray") = pure true := by rw [isSubtype_type]; kernel_rfl
theorem look_ba_bytes : typeLookup (.type "bytearray") "__bytes__" = pure none := by rw [typeLookup_type, builtinLookup_eq_fast]; kernel_rfl
theorem look_ba_index : typeLookup (.type "bytearray") "__index__" = pure none := by rw [typeLookup_type, builtinLookup_eq_fast]; kernel_rfl
theorem look_ba_buffer : typeLookup (.type "bytearray") "__buffer__" = pure (some (.builtin "bytearray.__buffer__")) := by rw [typeLookup_type, builtinLookup_eq_fast]; kernel_rfl
theorem look_ba_release : typeLookup (.type "bytearray") "__release_buffer__" = pure (some (.builtin "bytearray.__release_buffer__")) := by rw [typeLookup_type, builtinLookup_eq_fast]; kernel_rfl

section
variable {prog : Program} {w : World} {A : Around} {E : Value → Shared → Prop} {s : Shared} {b : Array UInt8} {t : Tok}

theorem bytes_new_bytes {Q : Value → Shared → Prop} (h : Q (.bytes b t) s) :
    codeAny (model prog w) A (.call (.builtin "bytes.__new__") ⟨[.type "bytes", .bytes b t], []⟩) (PySem.wants Q E) s := by
  refine PySem.codeAny_of_tree ?_
  show wpAny _ A.in1 (do checkBuiltinCall "bytes.__new__" ⟨[.type "bytes", .bytes b t], []⟩; again (.builtin "bytes.__new__" ⟨[.type "bytes", .bytes b t], []⟩)) _ _ s
  refine wpAny_bind (wpAny_of_eq (F.bm_newCall _) (wpAny_pure ⟨plainId_quiet F.bm_plain _, codeAny_builtin F.bm_entry ?_⟩))
  rw [Around.under_plainId F.bm_plain _]
  unfold Builtin.«bytes.__new__»
  refine wpAny_bind (wpAny_of_eq (a := true) rfl ?_)
  refine bm_if_false rfl ?_
  refine wpAny_bind (wpAny_of_eq F.bm_sub ?_)
  refine bm_if_false rfl ?_
  refine wpAny_bind (wpAny_of_eq (F.bm_bind _) ?_)
  refine wpAny_bind (wpAny_of_eq (a := ()) rfl ?_)
  refine wpAny_bind (wpAny_of_eq (a := ()) rfl ?_)
  refine bm_if_false rfl ?_
  refine wpAny_bind (wpAny_of_eq (KBy.special_eq look_bytes_bytes) ?_)
  refine wpAny_bind (wpAny_rule ?_)
  refine wpAny_bind (wpAny_of_eq (a := .type "bytes") rfl ?_)
  refine bm_if_true (by decide) ?_
  show wpAny _ _ (if (Value.type "bytes" == Value.type "bytes") = true then _ else _) _ _ _
  refine bm_if_true (by decide) ?_
  first
    | exact wpAny_pure h
    | exact wpAny_bind (wpAny_pure (wpAny_pure h))

theorem call_bytes_bytes {Q : Value → Shared → Prop} (h : Q (.bytes b t) s) : wpAny (model prog w) A (call (.type "bytes") [.bytes b t]) Q E s := by
  refine callType_codes (Q₁ := fun obj s₁ => s₁.TypeIs obj "bytes" ∧ Q obj s₁) F.bm_called (F.bm_typeCall _) F.entry_object_init
    (bytes_new_bytes ⟨PySem.W.typeIs_bytes _ _ _, h⟩) fun obj s₁ h₁ => ?_
  exact ⟨h₁.1, F.args_object_init_2 obj _, object_init_meets F.bm_called.init.lookup F.bm_called.made (by decide) prog w A.in1 _ s₁ ⟨h₁.1, rfl, h₁.2⟩⟩

theorem bytes_new_int {i : Int} {u : Tok} {Q : Value → Shared → Prop} (h0 : 0 ≤ i) (hn : i ≤ 1000) (h : ∀ t' k, Q (.bytes (Array.replicate i.toNat 0) t') { s with toks := k }) :
    codeAny (model prog w) A (.call (.builtin "bytes.__new__") ⟨[.type "bytes", .int i u], []⟩) (PySem.wants Q E) s := by
  refine PySem.codeAny_of_tree ?_
  show wpAny _ A.in1 (do checkBuiltinCall "bytes.__new__" ⟨[.type "bytes", .int i u], []⟩; again (.builtin "bytes.__new__" ⟨[.type "bytes", .int i u], []⟩)) _ _ s
  refine wpAny_bind (wpAny_of_eq (F.bm_newCall _) (wpAny_pure ⟨plainId_quiet F.bm_plain _, codeAny_builtin F.bm_entry ?_⟩))
  rw [Around.under_plainId F.bm_plain _]
  unfold Builtin.«bytes.__new__»
  refine wpAny_bind (wpAny_of_eq (a := true) rfl ?_)
  refine bm_if_false rfl ?_
  refine wpAny_bind (wpAny_of_eq F.bm_sub ?_)
  refine bm_if_false rfl ?_
  refine wpAny_bind (wpAny_of_eq (F.bm_bind _) ?_)
  refine wpAny_bind (wpAny_of_eq (a := ()) rfl ?_)
  refine wpAny_bind (wpAny_of_eq (a := ()) rfl ?_)
  refine bm_if_false rfl ?_
  refine wpAny_bind (wpAny_specialOf (T := "int") (typeIs_int _ _ _) look_int_bytes ?_)
  dsimp only
  refine wpAny_bind (wpAny_of_eq (a := false) rfl ?_)
  refine bm_if_false rfl ?_
  refine wpAny_bind (wpAny_specialOf (T := "int") (typeIs_int _ _ _) F.slot_int_index.lookup ?_)
  refine bm_if_false rfl ?_
  refine wpAny_bind (wpAny_attempt (wpAny_of_eq (a := i) rfl ?_))
  dsimp only
  have hf : Bytes.fitsIndex i = true := by
    unfold Bytes.fitsIndex
    rw [Bool.and_eq_true, decide_eq_true_eq, decide_eq_true_eq]
    omega
  refine bm_if_false (by rw [hf]; rfl) ?_
  refine wpAny_ite (KBy.ite_no (Int.not_lt.mpr h0) ?_)
  refine wpAny_ite (KBy.ite_no (Int.not_lt.mpr (Int.le_trans (b := 1000) hn (by decide +kernel))) ?_)
  refine bm_if_false (KBy.tooLong_not (by omega)) ?_
  refine wpAny_bind (wpAny_rule ?_)
  refine wpAny_bind (wpAny_mkBytes ?_ (by rw [Array.size_replicate, sizeLine_eq]; omega))
  show wpAny _ _ (if (Value.type "bytes" == Value.type "bytes") = true then _ else _) _ _ _
  refine bm_if_true (by decide) ?_
  first
    | exact wpAny_pure (h _ _)
    | exact wpAny_bind (wpAny_pure (wpAny_pure (h _ _)))
theorem call_bytes_int {i : Int} {u : Tok} {Q : Value → Shared → Prop} (h0 : 0 ≤ i) (hn : i ≤ 1000) (h : ∀ t' k, Q (.bytes (Array.replicate i.toNat 0) t') { s with toks := k }) :
    wpAny (model prog w) A (call (.type "bytes") [.int i u]) Q E s := by
  refine callType_codes (Q₁ := fun obj s₁ => s₁.TypeIs obj "bytes" ∧ Q obj s₁) F.bm_called (F.bm_typeCall _) F.entry_object_init
    (bytes_new_int h0 hn fun t' k => ⟨PySem.W.typeIs_bytes _ _ _, h t' k⟩) fun obj s₁ h₁ => ?_
  exact ⟨h₁.1, F.args_object_init_2 obj _, object_init_meets F.bm_called.init.lookup F.bm_called.made (by decide) prog w A.in1 _ s₁ ⟨h₁.1, rfl, h₁.2⟩⟩

theorem own_of_ba {D : Addr} {name : String} {id : String} {Q : Bool → Shared → Prop} (hT : s.TypeIs (.ref D) "bytearray") (hl : typeLookup (.type "bytearray") name = pure (some (.builtin id)))
    (he : (!id.endsWith ("." ++ name)) = false) (ho : (id.dropRight (name.length + 1)) = "bytearray") (h : Q true s) : wpAny (model prog w) A (Bytes.slotIsOwn (.ref D) name) Q E s := by
  unfold Bytes.slotIsOwn
  refine wpAny_bind (wpAny_specialOf hT hl ?_)
  dsimp only
  refine bm_if_false he ?_
  rw [ho]
  exact wpAny_isInstance hT sub_ba h
theorem buffer_ba {D : Addr} {id : String} {full : Bool} {Q : Option (Array UInt8) → Shared → Prop} (hD : s.heap.get? D = some { cls := .type "bytearray", data := .bytearray b }) (h : Q (some b) s) :
    wpAny (model prog w) A (Bytes.buffer? id (.ref D) full) Q E s := by
  have hT : s.TypeIs (.ref D) "bytearray" := ⟨_, hD, rfl⟩
  unfold Bytes.buffer?
  refine wpAny_bind (wpAny_specialOf hT look_ba_buffer ?_)
  dsimp only
  refine wpAny_bind (own_of_ba hT look_ba_buffer (by decide +kernel) (by decide +kernel) ?_)
  refine bm_if_false rfl ?_
  refine wpAny_bind (wpAny_specialOf hT look_ba_buffer ?_)
  try dsimp only
  refine wpAny_bind (wpAny_bind (own_of_ba hT look_ba_release (by decide +kernel) (by decide +kernel) ?_))
  refine wpAny_pure ?_
  refine bm_if_false rfl ?_
  refine wpAny_bind (wpAny_bind ?_)
  show wpAny _ _ (load D >>= _) _ _ _
  exact wpAny_bind (wpAny_load hD (wpAny_pure (wpAny_pure (wpAny_pure h))))
theorem bytes_new_ba {D : Addr} {Q : Value → Shared → Prop} (hD : s.heap.get? D = some { cls := .type "bytearray", data := .bytearray b }) (hz : b.size ≤ 1000) (h : ∀ t' k, Q (.bytes b t') { s with toks := k }) :
    codeAny (model prog w) A (.call (.builtin "bytes.__new__") ⟨[.type "bytes", .ref D], []⟩) (PySem.wants Q E) s := by
  refine PySem.codeAny_of_tree ?_
  show wpAny _ A.in1 (do checkBuiltinCall "bytes.__new__" ⟨[.type "bytes", .ref D], []⟩; again (.builtin "bytes.__new__" ⟨[.type "bytes", .ref D], []⟩)) _ _ s
  refine wpAny_bind (wpAny_of_eq (F.bm_newCall _) (wpAny_pure ⟨plainId_quiet F.bm_plain _, codeAny_builtin F.bm_entry ?_⟩))
  rw [Around.under_plainId F.bm_plain _]
  have hT : s.TypeIs (.ref D) "bytearray" := ⟨_, hD, rfl⟩
  unfold Builtin.«bytes.__new__»
  refine wpAny_bind (wpAny_of_eq (a := true) rfl ?_)
  refine bm_if_false rfl ?_
  refine wpAny_bind (wpAny_of_eq F.bm_sub ?_)
  refine bm_if_false rfl ?_
  refine wpAny_bind (wpAny_of_eq (F.bm_bind _) ?_)
  refine wpAny_bind (wpAny_of_eq (a := ()) rfl ?_)
  refine wpAny_bind (wpAny_of_eq (a := ()) rfl ?_)
  refine bm_if_false rfl ?_
  refine wpAny_bind (wpAny_specialOf hT look_ba_bytes ?_)
  dsimp only
  refine wpAny_bind (wpAny_bind ?_)
  show wpAny _ _ (load D >>= _) _ _ _
  refine wpAny_bind (wpAny_load hD ?_)
  refine wpAny_pure (wpAny_pure ?_)
  refine bm_if_false rfl ?_
  refine wpAny_bind (wpAny_specialOf hT look_ba_index ?_)
  refine bm_if_true rfl ?_
  first
    | show wpAny _ _ (Builtin.Bytes.buffer? "bytes.__new__" (.ref D) true >>= _) _ _ _
    | (refine wpAny_bind ?_; show wpAny _ _ (Builtin.Bytes.buffer? "bytes.__new__" (.ref D) true >>= _) _ _ _)
  refine wpAny_bind (buffer_ba hD ?_)
  dsimp only
  refine wpAny_bind (wpAny_rule ?_)
  refine wpAny_bind (wpAny_mkBytes ?_ (by rw [sizeLine_eq]; omega))
  first
    | (show wpAny _ _ (if (Value.type "bytes" == Value.type "bytes") = true then _ else _) _ _ _; refine bm_if_true (by decide) ?_)
    | (refine wpAny_bind ?_; show wpAny _ _ (if (Value.type "bytes" == Value.type "bytes") = true then _ else _) _ _ _; refine bm_if_true (by decide) ?_)
  first
    | exact wpAny_pure (h _ _)
    | exact wpAny_bind (wpAny_pure (wpAny_pure (h _ _)))
    | exact wpAny_pure (wpAny_pure (h _ _))
theorem call_bytes_ba {D : Addr} {Q : Value → Shared → Prop} (hD : s.heap.get? D = some { cls := .type "bytearray", data := .bytearray b }) (hz : b.size ≤ 1000) (h : ∀ t' k, Q (.bytes b t') { s with toks := k }) :
    wpAny (model prog w) A (call (.type "bytes") [.ref D]) Q E s := by
  refine callType_codes (Q₁ := fun obj s₁ => s₁.TypeIs obj "bytes" ∧ Q obj s₁) F.bm_called (F.bm_typeCall _) F.entry_object_init
    (bytes_new_ba hD hz fun t' k => ⟨PySem.W.typeIs_bytes _ _ _, h t' k⟩) fun obj s₁ h₁ => ?_
  exact ⟨h₁.1, F.args_object_init_2 obj _, object_init_meets F.bm_called.init.lookup F.bm_called.made (by decide) prog w A.in1 _ s₁ ⟨h₁.1, rfl, h₁.2⟩⟩
end
end Mine
end
section
open PySem PySem.W PyProof.Rows
set_option maxRecDepth 100000
namespace Mine
section
variable {prog : Program} {w : World} {M : Model} {A : Around} {E : Value → Shared → Prop} {s : Shared} {h₀ : Heap} {L : Addr} {news : List (Addr × Obj)}
theorem grown_wide {n k : Nat} {Q : Value → Shared → Prop} (hk : k ≤ 134217728) (hn : n < 2 ^ k) (h : Q (.int (n : Int) s.toks) { s with toks := s.toks + 1 }) : wpAny M A (mkIntGrown (n : Int)) Q E s := by
  unfold mkIntGrown
  have hl : ¬ ((n : Int).natAbs.log2 ≥ bitsLine) := by
    rw [Int.natAbs_natCast]
    have hb : bitsLine = 134217728 := by first | rfl | decide
    by_cases hz : n = 0
    · subst hz
      rw [hb]
      decide
    · have h1 := (Nat.log2_lt hz).mpr hn
      omega
  rw [if_neg hl]
  exact wpAny_mkInt h
/-- int.from_bytes(b, 'big') of up to 1,000 octets -/
theorem tree_bigN {b : Array UInt8} {t u : Tok} {P : Fin → Shared → Prop} (hl : b.size ≤ 1000) (h : P (.done (.ret (.int (KFB.value (KBw.bInts b)) s.toks))) { s with toks := s.toks + 1 }) :
    wpAny M A (Builtin.«int.from_bytes» ⟨[.type "int", .bytes b t, .str (PySem.Str.ofString "big") u], []⟩) P E s := by
  have hv : ((b.toList.foldl (fun (acc : Nat) (b : UInt8) => acc * 256 + b.toNat) 0 : Nat) : Int) = KFB.value (KBw.bInts b) := KFB.fold_cast b.toList 0
  have hn : b.toList.foldl (fun (acc : Nat) (b : UInt8) => acc * 256 + b.toNat) 0 < 2 ^ (8 * b.size) := by
    have h1 := KFB.fold_lt b.toList 0
    rw [Nat.zero_add, Nat.one_mul, Array.length_toList] at h1
    rw [Nat.pow_mul]
    exact h1
  unfold Builtin.«int.from_bytes»
  refine wpAny_bind (wpAny_of_eq (a := true) KFB.type_int ?_)
  refine KFB.if_not rfl ?_
  refine wpAny_bind (wpAny_of_eq (a := true) F.conv_sub_int ?_)
  refine KFB.if_not rfl ?_
  refine wpAny_bind (wpAny_of_eq (a := [some (.bytes b t), some (.str (PySem.Str.ofString "big") u), none]) (by kernel_rfl) ?_)
  refine wpAny_bind (wpAny_of_eq (a := PySem.Str.ofString "big") (by kernel_rfl) ?_)
  refine wpAny_bind (wpAny_of_eq (a := false) rfl ?_)
  refine wpAny_bind (wpAny_of_eq (a := false) (by kernel_rfl) ?_)
  refine wpAny_bind (wpAny_of_eq (a := b) rfl ?_)
  show wpAny _ _ (mkIntGrown (b.toList.foldl (fun (acc : Int) (b : UInt8) => acc * 256 + (b.toNat : Int)) ((0 : Nat) : Int)) >>= fun v => _) _ _ _
  rw [KFB.foldI_eq]
  refine wpAny_bind (grown_wide (k := 8 * b.size) (by omega) hn ?_)
  rw [hv]
  refine KFB.if_so (by decide +kernel) ?_
  exact wpAny_bind (wpAny_pure (wpAny_pure h))
theorem call_bigN {x : Addr} {b : Array UInt8} {t u : Tok} {Q : Value → Shared → Prop} (N : News h₀ L s.heap news) (hm : (x, KFB.bound) ∈ news) (hl : b.size ≤ 1000)
    (h : ∀ t' k, Q (.int (KFB.value (KBw.bInts b)) t') { s with toks := k }) : wpAny (model prog w) A (call (.ref x) [.bytes b t, .str (PySem.Str.ofString "big") u]) Q E s :=
  KFB.call_of (KFB.at_of N hm) (fun z => tree_bigN hl z) (h _ _)
theorem bInts_zeros (n : Nat) : KBw.bInts (Array.replicate n 0) = List.replicate n 0 := by
  simp [KBw.bInts]
end
end Mine
end
section
open PySem PySem.W PyProof.Rows
set_option maxRecDepth 100000
namespace Mine
section
variable {prog : Program} {w : World} {A : Around} {E : Value → Shared → Prop} {s : Shared}
/-- the next int of a bytes' iterator, as zip draws it -/
theorem nextB_item {it : Addr} {b : Array UInt8} {t : Tok} {i : Nat} {c : UInt8} {Q : Value → Shared → Prop} (hit : KBw.IsBytesIter s.heap it b t i) (hx : b[i]? = some c)
    (hQ : ∀ h', KBw.IsBytesIter h' it b t (i + 1) → Heap.SameBut it s.heap h' → Q (.int (c.toNat : Int) s.toks) { s with heap := h', toks := s.toks + 1 }) : wpAny (model prog w) A (Builtin.SmallTypes.nextOf (.ref it)) Q E s := by
  obtain ⟨o, ho, hc, hd⟩ := id hit
  unfold Builtin.SmallTypes.nextOf
  refine wpAny_bind (wpAny_callSpecial?_slot (name := PySem.Str.ofString "__next__") (KBw.iter_typeIs hit) KBw.slot_next
    (wpAny_call_entry KBw.slot_next (KBw.iter_typeIs hit) KBw.entry_next ?_ (KBw.args_next _)))
  show wpAny _ _ (field (.ref it) 0 >>= _) _ _ s
  refine wpAny_bind (wpAny_field ho hd (x := .bytes b t) rfl ?_)
  show wpAny _ _ (if (Value.bytes b t == Value.none) = true then _ else _) _ _ s
  rw [if_neg (show ¬ ((Value.bytes b t == Value.none) = true) from Bool.false_ne_true)]
  show wpAny _ _ (field (.ref it) 1 >>= _) _ _ s
  refine wpAny_bind (wpAny_field ho hd (x := .int i 0) rfl ?_)
  refine wpAny_bind (wpAny_of_eq (a := b) rfl ?_)
  simp only [Int.toNat_natCast, hx]
  refine wpAny_bind (wpAny_setField ho hd (by simp) (wpAny_bind (wpAny_mkInt (wpAny_pure ⟨_, rfl, wpAny_pure (hQ _ ?_ (Heap.SameBut.update ..))⟩))))
  exact ⟨_, Heap.get?_update_self _ ho (Obj.isFreed_of_fields (Obj.data_mapFields hd _)), (Obj.cls_mapFields ..).trans hc, by
    rw [Obj.data_mapFields hd]; simp [rawInt]⟩
theorem nextB_end {it : Addr} {b : Array UInt8} {t : Tok} {i : Nat} {Q : Value → Shared → Prop} (hh : A.handled = none) (hit : KBw.IsBytesIter s.heap it b t i) (hx : b[i]? = none)
    (hE : ∀ h' e, Heap.ExtBut it s.heap h' → (∃ o, h'.get? e = some o ∧ o.cls = .type "StopIteration") → E (.ref e) { s with heap := h' }) : wpAny (model prog w) A (Builtin.SmallTypes.nextOf (.ref it)) Q E s := by
  obtain ⟨o, ho, hc, hd⟩ := id hit
  unfold Builtin.SmallTypes.nextOf
  refine wpAny_bind (wpAny_callSpecial?_slot (name := PySem.Str.ofString "__next__") (KBw.iter_typeIs hit) KBw.slot_next
    (wpAny_call_entry KBw.slot_next (KBw.iter_typeIs hit) KBw.entry_next ?_ (KBw.args_next _)))
  show wpAny _ _ (field (.ref it) 0 >>= _) _ _ s
  refine wpAny_bind (wpAny_field ho hd (x := .bytes b t) rfl ?_)
  show wpAny _ _ (if (Value.bytes b t == Value.none) = true then _ else _) _ _ s
  rw [if_neg (show ¬ ((Value.bytes b t == Value.none) = true) from Bool.false_ne_true)]
  show wpAny _ _ (field (.ref it) 1 >>= _) _ _ s
  refine wpAny_bind (wpAny_field ho hd (x := .int i 0) rfl ?_)
  refine wpAny_bind (wpAny_of_eq (a := b) rfl ?_)
  simp only [Int.toNat_natCast, hx]
  refine wpAny_bind (wpAny_rule (wpAny_bind (wpAny_setField ho hd (by simp) ?_)))
  show wpAny _ _ (newExc (.type "StopIteration") [] >>= _) _ _ _
  refine wpAny_bind ?_
  simp only [newExc, newTuple]
  refine wpAny_bind (wpAny_newObj_type ?_ (by size_fits))
  refine wpAny_bind (m := firstArgMember _ _) (wpAny_of_eq (a := Value.none) (by first | rfl | (simp only [firstArgMember]; rfl)) ?_)
  refine wpAny_newObj_type ?_ (by size_fits)
  simp only [raiseNew]
  refine wpAny_bind (wpAny_handled ?_)
  rw [show A.in1.handled = none from hh]
  refine wpAny_bind (wpAny_pure (wpAny_throw ?_))
  exact hE _ _ (((Heap.SameBut.update ..).extBut.push _).push _) ⟨_, Heap.get?_push_size _ rfl, rfl⟩

/-- where the five objects of zip(bytes, bytes) stand, in the order in which they were made -/
structure ZbAt (z0 i1 i2 TI TO z : Nat) : Prop where
  a : i1 = z0
  b : i2 = z0 + 1
  c : TI = z0 + 2
  d : TO = z0 + 3
  e : z = z0 + 4

structure ZbSt (i1 i2 TI TO z : Nat) (X Y : Array UInt8) (tx ty : Tok) (f0 : Value) (k : Nat) (h : Heap) : Prop where
  hz : IsZip h z TI TO f0
  hTI : IsPair h TI (.ref i1) (.ref i2)
  hTO : ∃ a b, IsPair h TO a b
  h1 : KBw.IsBytesIter h i1 X tx k
  h2 : KBw.IsBytesIter h i2 Y ty k

theorem iterB_at {h h' : Heap} {a : Addr} {b : Array UInt8} {t : Tok} {i : Nat} (y : KBw.IsBytesIter h a b t i) (e : ∀ o, h.get? a = some o → h'.get? a = some o) : KBw.IsBytesIter h' a b t i := by
  obtain ⟨o, ho, r⟩ := y
  exact ⟨o, e o ho, r⟩
theorem ZbSt.keep {i1 i2 TI TO z : Nat} {X Y : Array UInt8} {tx ty : Tok} {f0 : Value} {k : Nat} {h h' : Heap} {z0 : Nat} (D : ZbAt z0 i1 i2 TI TO z) (S : ZbSt i1 i2 TI TO z X Y tx ty f0 k h)
    (e : ∀ (b : Nat) o, b < z0 + 5 → h.get? b = some o → h'.get? b = some o) : ZbSt i1 i2 TI TO z X Y tx ty f0 k h' := by
  obtain ⟨ha, hb, hc, hd, he⟩ := D
  obtain ⟨hz, hTI, ⟨a, b, hTO⟩, h1, h2⟩ := S
  exact ⟨e _ _ (by omega) hz, e _ _ (by omega) hTI, ⟨a, b, e _ _ (by omega) hTO⟩, iterB_at h1 fun o x => e _ _ (by omega) x, iterB_at h2 fun o x => e _ _ (by omega) x⟩

theorem zb_next_item {z0 i1 i2 TI TO z : Nat} {X Y : Array UInt8} {tx ty : Tok} {k : Nat} {x y : UInt8} {Q : Option Value → Shared → Prop} (D : ZbAt z0 i1 i2 TI TO z)
    (S : ZbSt i1 i2 TI TO z X Y tx ty .none k s.heap) (hx : X[k]? = some x) (hy : Y[k]? = some y)
    (hQ : ∀ h' t u tk, ZbSt i1 i2 TI TO z X Y tx ty (rawInt s.heap.objs.size) (k + 1) h' → IsPair h' s.heap.objs.size (.int (x.toNat : Int) t) (.int (y.toNat : Int) u) → h'.objs.size = s.heap.objs.size + 1 →
      (∀ (c : Nat) o, (c < z0 ∨ z0 + 5 ≤ c) → s.heap.get? c = some o → h'.get? c = some o) → Q (some (.ref s.heap.objs.size)) { s with heap := h', toks := tk }) :
    wpAny (model prog w) A (pyNext (.ref z)) Q E s := by
  obtain ⟨ha, hb, hc, hd, he⟩ := D
  obtain ⟨hz, hTI, ⟨a, b, hTO⟩, h1, h2⟩ := S
  have hT : s.TypeIs (.ref z) "zip" := ⟨_, hz, rfl⟩
  have zTO : z ≠ TO := by omega
  have zTI : z ≠ TI := by omega
  have zi1 : z ≠ i1 := by omega
  have zi2 : z ≠ i2 := by omega
  have TOi1 : TO ≠ i1 := by omega
  have TOi2 : TO ≠ i2 := by omega
  have TOTI : TO ≠ TI := by omega
  have i12 : i1 ≠ i2 := by omega
  have TIi1 : TI ≠ i1 := by omega
  have TIi2 : TI ≠ i2 := by omega
  unfold pyNext
  refine wpAny_bind (wpAny_attempt (wpAny_callSpecial?_slot (name := PySem.Str.ofString "__next__") hT F.slot_zip_next
    (wpAny_call_entry F.slot_zip_next hT F.entry_zip_next ?_ (F.args_zip_next_1 _))))
  show wpAny _ _ (field (.ref z) 2 >>= _) _ _ _
  refine wpAny_bind (wpAny_field hz rfl (x := .bool false) rfl ?_)
  show wpAny _ _ (field (.ref z) 3 >>= _) _ _ _
  refine wpAny_bind (wpAny_field hz rfl (x := .ref TI) rfl ?_)
  refine wpAny_bind (wpAny_seqItems hTI rfl ?_)
  show wpAny _ _ (Builtin.SmallTypes.ownedTupleIsFree (.ref z) >>= _) _ _ _
  refine wpAny_bind ?_
  unfold Builtin.SmallTypes.ownedTupleIsFree
  refine wpAny_bind (wpAny_field hz rfl (x := .none) rfl (wpAny_pure ?_))
  simp only [if_true]
  refine wpAny_bind (wpAny_rule ?_)
  refine wpAny_bind (wpAny_field hz rfl (x := .ref TO) rfl ?_)
  refine wpAny_bind (wpAny_setField_rec hz (by simp) fun h₁ hz₁ hs₁ => ?_)
  replace hz₁ : IsZip h₁ z TI TO .ellipsis := hz₁
  refine wpAny_bind ?_
  simp only [List.zipIdx_cons, List.zipIdx_nil, List.forIn_cons, List.forIn_nil]
  -- the first iterator
  refine wpAny_bind (wpAny_bind (wpAny_onRaise ?_))
  show wpAny _ _ (Builtin.SmallTypes.nextOf (.ref i1) >>= _) _ _ _
  refine wpAny_bind (nextB_item (iterB_at h1 fun o e => hs₁.extBut _ _ zi1.symm e) hx fun h₂ h1₂ hs₂ => wpAny_pure ?_)
  have hTO₂ : IsPair h₂ TO a b := hs₂.extBut _ _ TOi1 (hs₁.extBut _ _ zTO.symm hTO)
  refine wpAny_bind (wpAny_seqItems hTO₂ rfl ?_)
  refine wpAny_bind (wpAny_updateSeq_pair hTO₂ fun h₃ hTO₃ hs₃ => ?_)
  replace hTO₃ : IsPair h₃ TO (.int (x.toNat : Int) s.toks) b := hTO₃
  refine wpAny_bind (wpAny_letGo (wpAny_pure ?_))
  -- the second one
  refine wpAny_bind (wpAny_bind (wpAny_onRaise ?_))
  show wpAny _ _ (Builtin.SmallTypes.nextOf (.ref i2) >>= _) _ _ _
  refine wpAny_bind (nextB_item (iterB_at h2 fun o e => hs₃.extBut _ _ TOi2.symm (hs₂.extBut _ _ i12.symm (hs₁.extBut _ _ zi2.symm e))) hy fun h₄ h2₄ hs₄ => wpAny_pure ?_)
  have hTO₄ := hs₄.extBut _ _ TOi2 hTO₃
  refine wpAny_bind (wpAny_seqItems hTO₄ rfl ?_)
  refine wpAny_bind (wpAny_updateSeq_pair hTO₄ fun h₅ hTO₅ hs₅ => ?_)
  replace hTO₅ : IsPair h₅ TO (.int (x.toNat : Int) s.toks) (.int (y.toNat : Int) (s.toks + 1)) := hTO₅
  refine wpAny_bind (wpAny_letGo (wpAny_pure (wpAny_pure ?_)))
  refine wpAny_bind (wpAny_seqItems hTO₅ rfl ?_)
  refine wpAny_bind (wpAny_newTuple ?_)
  have hsz : h₅.objs.size = s.heap.objs.size := by rw [hs₅.1, hs₄.1, hs₃.1, hs₂.1, hs₁.1]
  have up₅ : ∀ (c : Nat) o, c ≠ z → c ≠ i1 → c ≠ TO → c ≠ i2 → s.heap.get? c = some o → h₅.get? c = some o := fun c o c1 c2 c3 c4 e =>
    hs₅.extBut _ _ c3 (hs₄.extBut _ _ c4 (hs₃.extBut _ _ c3 (hs₂.extBut _ _ c2 (hs₁.extBut _ _ c1 e))))
  have hz₅ : IsZip h₅ z TI TO .ellipsis := hs₅.extBut _ _ zTO (hs₄.extBut _ _ zi2 (hs₃.extBut _ _ zTO (hs₂.extBut _ _ zi1 hz₁)))
  have h1₅ : KBw.IsBytesIter h₅ i1 X tx (k + 1) := iterB_at h1₂ fun o e => hs₅.extBut _ _ TOi1.symm (hs₄.extBut _ _ i12 (hs₃.extBut _ _ TOi1.symm e))
  have h2₅ : KBw.IsBytesIter h₅ i2 Y ty (k + 1) := iterB_at h2₄ fun o e => hs₅.extBut _ _ TOi2.symm e
  have hzlt : z < h₅.objs.size := Heap.lt_size hz₅
  show wpAny _ _ (Builtin.SmallTypes.ownedTupleHandOut (.ref z) (.ref h₅.objs.size) >>= _) _ _ _
  refine wpAny_bind ?_
  unfold Builtin.SmallTypes.ownedTupleHandOut
  have hz₆ : IsZip (h₅.push { cls := .type "tuple", data := .seq #[.int (x.toNat : Int) s.toks, .int (y.toNat : Int) (s.toks + 1)] }) z TI TO .ellipsis := Heap.get?_push_of_some _ hz₅
  refine wpAny_bind (wpAny_setField_rec hz₆ (by simp) fun h₇ hz₇ hs₇ => ?_)
  replace hz₇ : IsZip h₇ z TI TO (rawInt h₅.objs.size) := hz₇
  refine wpAny_setField_rec hz₇ (by simp) fun h₈ hz₈ hs₈ => ?_
  replace hz₈ : IsZip h₈ z TI TO (rawInt h₅.objs.size) := hz₈
  have up : ∀ (c : Nat) o, c ≠ z → h₅.get? c = some o → h₈.get? c = some o := fun c o c1 e => hs₈.extBut _ _ c1 (hs₇.extBut _ _ c1 (Heap.get?_push_of_some _ e))
  have hT₈ : IsPair h₈ h₅.objs.size (.int (x.toNat : Int) s.toks) (.int (y.toNat : Int) (s.toks + 1)) := hs₈.extBut _ _ (Nat.ne_of_gt hzlt) (hs₇.extBut _ _ (Nat.ne_of_gt hzlt) (Heap.get?_push_size _ rfl))
  have hz8 : h₈.objs.size = h₅.objs.size + 1 := by rw [hs₈.1, hs₇.1, Heap.size_push]
  rw [hsz] at hz₈ hT₈ hz8
  refine wpAny_pure ⟨_, rfl, ?_⟩
  refine wpAny_pure ?_
  show Q (some (.ref h₅.objs.size)) _
  rw [hsz]
  refine hQ h₈ _ _ _ ⟨hz₈, up _ _ zTI.symm (up₅ _ _ zTI.symm TIi1 TOTI.symm TIi2 hTI), ⟨_, _, up _ _ zTO.symm hTO₅⟩, iterB_at h1₅ fun o e => up _ o zi1.symm e, iterB_at h2₅ fun o e => up _ o zi2.symm e⟩ hT₈ hz8 fun c o hc e => ?_
  exact up c o (by omega) (up₅ c o (by omega) (by omega) (by omega) (by omega) e)

theorem zb_next_end {z0 i1 i2 TI TO z : Nat} {X Y : Array UInt8} {tx ty : Tok} {k : Nat} {Q : Option Value → Shared → Prop} (hh : A.handled = none) (D : ZbAt z0 i1 i2 TI TO z)
    (S : ZbSt i1 i2 TI TO z X Y tx ty .none k s.heap) (hx : X[k]? = none)
    (hQ : ∀ h', (∀ (c : Nat) o, (c < z0 ∨ z0 + 5 ≤ c) → s.heap.get? c = some o → h'.get? c = some o) → Q none { s with heap := h' }) :
    wpAny (model prog w) A (pyNext (.ref z)) Q E s := by
  obtain ⟨ha, hb, hc, hd, he⟩ := D
  obtain ⟨hz, hTI, ⟨a, b, hTO⟩, h1, h2⟩ := S
  have hT : s.TypeIs (.ref z) "zip" := ⟨_, hz, rfl⟩
  have zi1 : z ≠ i1 := by omega
  unfold pyNext
  refine wpAny_bind (wpAny_attempt (wpAny_callSpecial?_slot (name := PySem.Str.ofString "__next__") hT F.slot_zip_next
    (wpAny_call_entry F.slot_zip_next hT F.entry_zip_next ?_ (F.args_zip_next_1 _))))
  show wpAny _ _ (field (.ref z) 2 >>= _) _ _ _
  refine wpAny_bind (wpAny_field hz rfl (x := .bool false) rfl ?_)
  show wpAny _ _ (field (.ref z) 3 >>= _) _ _ _
  refine wpAny_bind (wpAny_field hz rfl (x := .ref TI) rfl ?_)
  refine wpAny_bind (wpAny_seqItems hTI rfl ?_)
  show wpAny _ _ (Builtin.SmallTypes.ownedTupleIsFree (.ref z) >>= _) _ _ _
  refine wpAny_bind ?_
  unfold Builtin.SmallTypes.ownedTupleIsFree
  refine wpAny_bind (wpAny_field hz rfl (x := .none) rfl (wpAny_pure ?_))
  simp only [if_true]
  refine wpAny_bind (wpAny_rule ?_)
  refine wpAny_bind (wpAny_field hz rfl (x := .ref TO) rfl ?_)
  refine wpAny_bind (wpAny_setField_rec hz (by simp) fun h₁ hz₁ hs₁ => ?_)
  replace hz₁ : IsZip h₁ z TI TO .ellipsis := hz₁
  refine wpAny_bind ?_
  simp only [List.zipIdx_cons, List.zipIdx_nil, List.forIn_cons, List.forIn_nil]
  refine wpAny_bind (wpAny_bind (wpAny_onRaise ?_))
  show wpAny _ _ (Builtin.SmallTypes.nextOf (.ref i1) >>= _) _ _ _
  refine wpAny_bind (nextB_end hh (iterB_at h1 fun o e => hs₁.extBut _ _ zi1.symm e) hx fun h₂ e hs₂ he => ?_)
  obtain ⟨oe, hoe, hce⟩ := he
  have hz₂ : IsZip h₂ z TI TO .ellipsis := hs₂ _ _ zi1 hz₁
  have hez : e ≠ z := fun x => by subst x; rw [hz₂] at hoe; cases hoe; simp at hce
  refine wpAny_setField_rec hz₂ (by simp) fun h₃ _ hs₃ => ?_
  refine wpAny_bind (wpAny_isInstance (T := "StopIteration") (b := true) ⟨oe, hs₃.extBut _ _ hez hoe, hce⟩ isSubtype_stop ?_)
  refine wpAny_pure (hQ _ fun c o hc x => ?_)
  have c1 : c ≠ z := by omega
  have c2 : c ≠ i1 := by omega
  exact hs₃.extBut _ _ c1 (hs₂ _ _ c2 (hs₁.extBut _ _ c1 x))

theorem meets_zb_new (X Y : Array UInt8) (tx ty : Tok) :
    Meets (Builtin.«zip.__new__» ⟨[.type "zip", .bytes X tx, .bytes Y ty], []⟩) (fun _ R s => ∀ h', ZbSt s.heap.objs.size (s.heap.objs.size + 1) (s.heap.objs.size + 2) (s.heap.objs.size + 3) (s.heap.objs.size + 4) X Y tx ty .none 0 h' →
      h'.objs.size = s.heap.objs.size + 5 → (∀ c o, s.heap.get? c = some o → h'.get? c = some o) → R (.ok (.ret (.ref (s.heap.objs.size + 4)))) { s with heap := h' }) :=
  .of_wp fun prog w A R s h => by
    obtain ⟨hp, g, d, tk, os⟩ := s
    have hcls : Builtin.SmallTypes.newClass "zip" ⟨[.type "zip", .bytes X tx, .bytes Y ty], []⟩ = pure (.type "zip", [.bytes X tx, .bytes Y ty]) := by
      unfold Builtin.SmallTypes.newClass
      show (isType (.type "zip") >>= fun r => _) = _
      rw [show isType (.type "zip") = pure true from rfl]
      show (isSubtype (.type "zip") (.type "zip") >>= fun r => _) = _
      rw [sub_zip]
      rfl
    unfold Builtin.«zip.__new__»
    refine wpAny_bind (wpAny_of_eq hcls ?_)
    dsimp only
    refine wpAny_ite (KBy.ite_no (show ¬ ([] : List (PySem.Str × Value)).length > 1 from by decide) ?_)
    refine wpAny_bind ?_
    unfold Builtin.SmallTypes.iterAll
    simp only [List.forIn_cons, List.forIn_nil]
    refine wpAny_bind (wpAny_bind (wpAny_bind (wpAny_holding (KBw.pyIter_bytes ?_))))
    refine wpAny_pure ?_
    refine wpAny_bind (wpAny_bind (wpAny_holding (KBw.pyIter_bytes ?_)))
    refine wpAny_pure ?_
    refine wpAny_pure ?_
    refine wpAny_pure ?_
    dsimp only
    show wpAny _ _ (newTuple [.ref hp.objs.size, .ref (hp.push _).objs.size] >>= fun v => newTuple [.none, .none] >>= fun u => _) _ _ _
    refine wpAny_bind (wpAny_newTuple ?_)
    refine wpAny_bind (wpAny_newTuple ?_)
    show wpAny _ _ (newObj (.type "zip") (.fields #[.none, .bool false, .bool false, .ref _, .ref _]) >>= _) _ _ _
    refine wpAny_bind (wpAny_newObj_type ?_)
    refine wpAny_pure ⟨_, rfl, ?_⟩
    dsimp only at h ⊢
    have z1 : (hp.push { cls := .type "bytes_iterator", data := .fields #[.bytes X tx, .int 0 0] }).objs.size = hp.objs.size + 1 := Heap.size_push ..
    have z2 : ((hp.push { cls := .type "bytes_iterator", data := .fields #[.bytes X tx, .int 0 0] }).push { cls := .type "bytes_iterator", data := .fields #[.bytes Y ty, .int 0 0] }).objs.size = hp.objs.size + 2 := by rw [Heap.size_push, z1]
    simp only [Heap.size_push] at h ⊢
    have e2 : hp.objs.size + 1 + 1 = hp.objs.size + 2 := rfl
    have p0 : ∀ o' : Obj, o'.isFreed = false → ∀ h : Heap, (h.push o').get? h.objs.size = some o' := fun o' hf h => Heap.get?_push_size _ hf
    refine h _ ⟨?_, ?_, ⟨.none, .none, ?_⟩, ⟨{ cls := .type "bytes_iterator", data := .fields #[.bytes X tx, .int 0 0] }, ?_, rfl, rfl⟩, ⟨{ cls := .type "bytes_iterator", data := .fields #[.bytes Y ty, .int 0 0] }, ?_, rfl, rfl⟩⟩ ?_ ?_
    · have := Heap.get?_push_size (h := (((hp.push { cls := .type "bytes_iterator", data := .fields #[.bytes X tx, .int 0 0] }).push { cls := .type "bytes_iterator", data := .fields #[.bytes Y ty, .int 0 0] }).push
            { cls := .type "tuple", data := .seq #[.ref hp.objs.size, .ref (hp.objs.size + 1)] }).push { cls := .type "tuple", data := .seq #[.none, .none] }) (o := { cls := .type "zip", data := .fields #[.none, .bool false, .bool false, .ref (hp.objs.size + 1 + 1), .ref (hp.objs.size + 1 + 1 + 1)] }) rfl
      simp only [Heap.size_push] at this
      exact this
    · have := Heap.get?_push_size (h := (hp.push { cls := .type "bytes_iterator", data := .fields #[.bytes X tx, .int 0 0] }).push { cls := .type "bytes_iterator", data := .fields #[.bytes Y ty, .int 0 0] })
            (o := { cls := .type "tuple", data := .seq #[.ref hp.objs.size, .ref (hp.objs.size + 1)] }) rfl
      simp only [Heap.size_push] at this
      exact Heap.get?_push_of_some _ (Heap.get?_push_of_some _ this)
    · have := Heap.get?_push_size (h := ((hp.push { cls := .type "bytes_iterator", data := .fields #[.bytes X tx, .int 0 0] }).push { cls := .type "bytes_iterator", data := .fields #[.bytes Y ty, .int 0 0] }).push
            { cls := .type "tuple", data := .seq #[.ref hp.objs.size, .ref (hp.objs.size + 1)] }) (o := { cls := .type "tuple", data := .seq #[.none, .none] }) rfl
      simp only [Heap.size_push] at this
      exact Heap.get?_push_of_some _ this
    · exact Heap.get?_push_of_some _ (Heap.get?_push_of_some _ (Heap.get?_push_of_some _ (Heap.get?_push_of_some _ (Heap.get?_push_size _ rfl))))
    · have := Heap.get?_push_size (h := hp.push { cls := .type "bytes_iterator", data := .fields #[.bytes X tx, .int 0 0] }) (o := { cls := .type "bytes_iterator", data := .fields #[.bytes Y ty, .int 0 0] }) rfl
      simp only [Heap.size_push] at this
      exact Heap.get?_push_of_some _ (Heap.get?_push_of_some _ (Heap.get?_push_of_some _ this))
    · simp only [Heap.size_push]
    · exact fun c o x => Heap.get?_push_of_some _ (Heap.get?_push_of_some _ (Heap.get?_push_of_some _ (Heap.get?_push_of_some _ (Heap.get?_push_of_some _ x))))

theorem call_zb {X Y : Array UInt8} {tx ty : Tok} {Q : Value → Shared → Prop}
    (h : ∀ h', ZbSt s.heap.objs.size (s.heap.objs.size + 1) (s.heap.objs.size + 2) (s.heap.objs.size + 3) (s.heap.objs.size + 4) X Y tx ty .none 0 h' →
      h'.objs.size = s.heap.objs.size + 5 → (∀ c o, s.heap.get? c = some o → h'.get? c = some o) → Q (.ref (s.heap.objs.size + 4)) { s with heap := h' }) :
    wpAny (model prog w) A (call (.type "zip") [.bytes X tx, .bytes Y ty]) Q E s := by
  refine callType_new F.called_zip (by decide) (F.typeCall_zip_2 _ _) (F.newCall_zip_2 _ _) (fun obj => F.args_object_init_3 obj _ _) F.entry_zip_new (meets_zb_new X Y tx ty) ?_
  intro h' S z k
  exact ⟨⟨_, S.hz, rfl⟩, h h' S z k⟩
end
end Mine
end
section
open PySem PySem.W PyProof.Rows PyProof.Rows.LCg
set_option maxRecDepth 100000
namespace Mine
section
variable {prog : Program} {w : World} {A : Around} {E : Value → Shared → Prop} {s : Shared} {h₀ : Heap} {L : Nat} {m : PySem.Str → Option Value} {env : Env}

/-- what the comprehension's source must be: a zip over two bytes of one length, made last -/
def ZbSrc (h₀ : Heap) (L : Nat) (m : PySem.Str → Option Value) (f : Int → Int → Int) (Q : Value → Shared → Prop) (xv : Value) (s₁ : Shared) : Prop :=
  ∃ (z0 i1 i2 TI TO z : Nat) (X Y : Array UInt8) (tx ty : Tok) (news : List (Addr × Obj)), xv = .ref z ∧ Fr h₀ L s₁.heap m ∧ News h₀ L s₁.heap news ∧ ZbAt z0 i1 i2 TI TO z ∧ ZbSt i1 i2 TI TO z X Y tx ty .none 0 s₁.heap ∧
    s₁.heap.objs.size = z0 + 5 ∧ L < z0 ∧ (∀ p ∈ news, @LT.lt Nat _ p.1 z0) ∧ X.size = Y.size ∧ X.size ≤ 1000 ∧
    ∀ D h tk ys, Fr h₀ L h m → News h₀ L h ((D, lst ys) :: news) → (∀ p ∈ news, p.1 < D) →
      IntsAre ys ((List.range X.size).map fun k => f ((X.getD k 0).toNat : Int) ((Y.getD k 0).toNat : Int)) → Q (.ref D) { s₁ with heap := h, toks := tk }

theorem zb_ListComp {elt iter : PySem.Expr} {a b : PySem.Str} {pa pb tp : Pos} {kk : Nat} {scope : Scope} {cl : List (PySem.Str × Addr)} {pos : Pos} {Q : Value → Shared → Prop} {f : Int → Int → Int}
    (hclos : closureFor scope env = pure cl) (hcell : ∀ y ∈ scope.names, y.2 ≠ .cell) (hkind : scope.kind = .function)
    (hnames : ∀ y ∈ scope.names, y.2 = .local → scope.names.lookup y.1 = some .local) (hxa : scope.names.lookup a = some .local) (hxb : scope.names.lookup b = some .local) (hab : ¬ a = b) (hh : A.handled = none) (_F₀ : Fr h₀ L s.heap m)
    (helt : ∀ (g : Shared) (C : Nat) (m₂ : PySem.Str → Option Value) (x y : Int) (t u : Tok) (E' : Value → Shared → Prop), 0 ≤ x → x < 256 → 0 ≤ y → y < 256 → g.heap.Ns C m₂ → m₂ a = some (.int x t) → m₂ b = some (.int y u) →
      wpAny (model prog w) A (eval elt (compEnvC scope cl C env)) (fun v g' => ∃ t' k', v = .int (f x y) t' ∧ g' = { g with toks := k' }) E' g)
    (h : wpAny (model prog w) A (eval iter env) (ZbSrc h₀ L m f Q) E s)
    (hs : ∀ x, foldedSetIterable iter env x = pure x := by intro _; rfl) :
    wpAny (model prog w) A (eval (.ListComp elt [⟨.Tuple [.Name a pa, .Name b pb] kk tp, iter, [], 0⟩] scope pos) env) Q E s := by
  rw [eval_ListComp]
  refine wpAny_comprehension_free (use := none) rfl hs hclos hkind hnames (wpAny_mono h (fun xv s₁ h₁ => ?_) fun _ _ e => e)
  obtain ⟨z0, i1, i2, TI, TO, z, X, Y, tx, ty, news, rfl, F, N, D, S, hsize, hL, hN, hXY, hX, fin⟩ := h₁
  refine wpAny_pyIter_zip S.hz ?_
  refine wpAny_newObj_type (wpAny_newFunctionEnv hcell (by intro y hy; simp at hy) (fun h₁ hns₁ hsb₁ => ?_) hkind)
  dsimp only at hns₁ hsb₁ ⊢
  generalize hH2 : s₁.heap.push { cls := .type "list", dict := none, data := .seq ([] : List Value).toArray } = H2 at hns₁ hsb₁ ⊢
  have hH2s : H2.objs.size = z0 + 6 := by rw [← hH2, Heap.size_push, hsize]
  have hDs : s₁.heap.objs.size = z0 + 5 := hsize
  rw [hH2s] at hns₁ hsb₁ ⊢
  have hD : (s₁.heap.push { cls := .type "list", dict := none, data := .seq ([] : List Value).toArray }).get? (z0 + 5) = some (lst []) := by
    rw [← hDs]; exact Heap.get?_push_size _ rfl
  rw [hDs]
  have old : ∀ (c : Nat) o, c < z0 + 5 → s₁.heap.get? c = some o → h₁.get? c = some o := fun c o hc e => by
    have c1 : c ≠ z0 + 6 := by omega
    exact hsb₁.extBut c o c1 (Heap.get?_push_of_some _ (hH2 ▸ Heap.get?_push_of_some _ e))
  have hacc : h₁.get? (z0 + 5) = some (lst []) := by
    have c1 : z0 + 5 ≠ z0 + 6 := by omega
    exact hsb₁.extBut _ _ c1 (Heap.get?_push_of_some _ (hH2 ▸ hD))
  have hsz₁ : h₁.objs.size = z0 + 7 := by rw [hsb₁.1, Heap.size_push, hH2s]
  have S₁ := S.keep D fun c o hc e => old c o hc e
  have loop : ∀ s₃ : Shared, s₃ = { s₁ with heap := h₁, toks := s₁.toks + ([] : List (PySem.Str × Value)).length } →
      codeAny (model prog w) A (.compLoop (.ListComp elt [⟨.Tuple [.Name a pa, .Name b pb] kk tp, iter, [], 0⟩] scope pos) 0 (.ref z) (.ref (z0 + 5)) (compEnvC scope cl (z0 + 6) env))
        (compPost (model prog w) A E none Q (.ref (z0 + 5)) (z0 + 6)) s₃ := by
    rintro s₃ rfl
    refine kcp_loop (fun k s' => ∃ h' tk i ys m', s' = { s₁ with heap := h', toks := tk } ∧ i ≤ X.size ∧ k = X.size + 1 - i ∧
        IntsAre ys ((List.range i).map fun k => f ((X.getD k 0).toNat : Int) ((Y.getD k 0).toNat : Int)) ∧ ZbSt i1 i2 TI TO z X Y tx ty .none i h' ∧
        (∀ (c : Nat) o, c < z0 → s₁.heap.get? c = some o → h'.get? c = some o) ∧ h'.Ns (z0 + 6) m' ∧ h'.get? (z0 + 5) = some (lst ys) ∧ @LT.lt Nat _ (z0 + 6) h'.objs.size) ?_ (X.size + 1)
      ⟨h₁, _, 0, [], _, rfl, Nat.zero_le _, rfl, .nil, S₁, fun c o hc e => old c o (by omega) e, hns₁, hacc, by omega⟩
    rintro k s' ⟨h', tk, i, ys, m', rfl, hi, rfl, hys, S', K', hn', hD', hsz'⟩
    by_cases hlt : i < X.size
    · have hxi : X[i]? = some (X.getD i 0) := by simp [hlt]
      have hyi : Y[i]? = some (Y.getD i 0) := by simp [hXY ▸ hlt]
      refine zb_next_item D S' hxi hyi fun h₂ t u tk₂ S₂ hT₂ hz₂ k₂ => ?_
      refine wpAny_letOwnedTupleGo_zip S₂.hz fun h₃ hz₃ hs₃ => ?_
      have zz : z = z0 + 4 := D.e
      have S₃ : ZbSt i1 i2 TI TO z X Y tx ty .none (i + 1) h₃ := by
        obtain ⟨da, db, dc, dd, de⟩ := D
        obtain ⟨_, hTI, ⟨a', b', hTO⟩, h1, h2⟩ := S₂
        have c1 : TI ≠ z := by omega
        have c2 : TO ≠ z := by omega
        have c3 : i1 ≠ z := by omega
        have c4 : i2 ≠ z := by omega
        exact ⟨hz₃, hs₃.extBut _ _ c1 hTI, ⟨a', b', hs₃.extBut _ _ c2 hTO⟩, iterB_at h1 fun o e => hs₃.extBut _ _ c3 e, iterB_at h2 fun o e => hs₃.extBut _ _ c4 e⟩
      have hTz : h'.objs.size ≠ z := by omega
      have hT₃ : h₃.IsTuple h'.objs.size #[.int ((X.getD i 0).toNat : Int) t, .int ((Y.getD i 0).toNat : Int) u] := ⟨_, hs₃.extBut _ _ hTz hT₂, rfl, _, rfl⟩
      have up₃ : ∀ (c : Nat) o, (c < z0 ∨ z0 + 5 ≤ c) → h'.get? c = some o → h₃.get? c = some o := fun c o hc e => by
        have c1 : c ≠ z := by omega
        exact hs₃.extBut _ _ c1 (k₂ c o hc e)
      have hn₃ : h₃.Ns (z0 + 6) m' := hn'.at' fun o e => up₃ _ o (.inr (by omega)) e
      refine kcp_assign (env := compEnvC scope cl (z0 + 6) env) hh hT₃ (lookup_relabel_local hxa) (lookup_relabel_local hxb) (by simp [compEnvC, relabel, hkind]) hn₃ fun h₄ tk₄ hn₄ hs₄ => ?_
      have up₄ : ∀ (c : Nat) o, c ≠ z0 + 6 → h₃.get? c = some o → h₄.get? c = some o := hs₄
      have S₄ := S₃.keep D fun c o hc e => up₄ c o (by omega) e
      have bx := (X.getD i 0).toNat_lt
      have by' := (Y.getD i 0).toNat_lt
      refine wpAny_mono (helt _ (z0 + 6) _ ((X.getD i 0).toNat : Int) ((Y.getD i 0).toNat : Int) t u _ (by omega) (by omega) (by omega) (by omega) hn₄ (by simp [hab]) (by simp)) (fun v g' hv => ?_) fun _ _ e => e
      obtain ⟨t', k', rfl, rfl⟩ := hv
      have hD₄ : h₄.get? (z0 + 5) = some (lst ys) := up₄ _ _ (by omega) (up₃ _ _ (.inr (by omega)) hD')
      have hyl : ys.length = i := by rw [hys.length]; simp
      refine append_at (hsz := by show ys.toArray.size ≤ sizeLine; rw [List.size_toArray, hyl, sizeLine_eq]; omega) hD₄ fun h₅ hs₅ hD₅ => ?_
      have up₅ : ∀ (c : Nat) o, c ≠ z0 + 5 → h₄.get? c = some o → h₅.get? c = some o := fun c o hc e => hs₅.extBut c o hc e
      refine ⟨X.size + 1 - (i + 1), by omega, h₅, k', i + 1, ys ++ [.int (f ((X.getD i 0).toNat : Int) ((Y.getD i 0).toNat : Int)) t'], _, rfl, hlt, rfl, ?_, S₄.keep D fun c o hc e => up₅ c o (by omega) e, fun c o hc e => up₅ c o (by omega) (up₄ c o (by omega) (up₃ c o (.inl hc) (K' c o hc e))), hn₄.at' fun o e => up₅ (z0 + 6) o (by omega) e,
        hD₅.trans (congrArg some (lst_snoc ys _)), ?_⟩
      · rw [List.range_succ, List.map_append]
        exact hys.append (.cons _ _ .nil)
      · obtain ⟨oC, eC, _⟩ := ns_obj hn₄
        have z4 : @LT.lt Nat _ (z0 + 6) h₄.objs.size := Heap.lt_size eC
        rw [hs₅.1]
        exact z4
    · obtain rfl : i = X.size := Nat.le_antisymm hi (Nat.not_lt.mp hlt)
      refine zb_next_end hh D S' (by simp) fun h₂ k₂ => ?_
      refine ⟨m', hn'.at' fun o e => k₂ _ o (.inr (by omega)) e, fun h₃ hs₃ => ?_⟩
      have up : ∀ (c : Nat) o, c < z0 → s₁.heap.get? c = some o → h₃.get? c = some o := fun c o hc e => by
        have c1 : c ≠ z0 + 6 := by omega
        exact hs₃.extBut c o c1 (k₂ c o (.inl hc) (K' c o hc e))
      have F₃ : Fr h₀ L h₃ m := ⟨F.ns.at' fun o e => up _ o hL e, fun c o e => up c o (Nat.lt_of_lt_of_le (Heap.lt_size e) (Nat.le_trans F.above (Nat.le_of_lt hL))) (F.keep c o e), F.above⟩
      have hD₃ : h₃.get? (z0 + 5) = some (lst ys) := by
        have c1 : z0 + 5 ≠ z0 + 6 := by omega
        exact hs₃.extBut _ _ c1 (k₂ _ _ (.inr (by omega)) hD')
      refine fin (z0 + 5) h₃ tk ys F₃ (fun p hp => ?_) (fun p hp => Nat.lt_of_lt_of_le (hN p hp) (Nat.le_add_right _ _)) hys
      rcases List.mem_cons.mp hp with rfl | hp
      · refine ⟨hD₃, ?_, ?_⟩
        · show z0 + 5 ≠ L
          omega
        · cases e : h₀.get? (z0 + 5) with
          | none => rfl
          | some o =>
            have q1 : @LT.lt Nat _ (z0 + 5) h₀.objs.size := Heap.lt_size e
            have q2 : @LE.le Nat _ h₀.objs.size L := F.above
            omega
      · exact ⟨up _ _ (hN p hp) (N p hp).1, (N p hp).2⟩
  exact codeAny_compStart_list (loop _ rfl) (wpAny_pyIter_zip S₁.hz (loop _ rfl))
end
end Mine
end
section
open PySem PySem.W PyProof.Rows PyProof.V PySem.Spec
set_option maxRecDepth 100000
namespace Mine
open PySem.Builtin PySem.Calls

def picked2 (b : Array UInt8) (lo : Option Int) : Array UInt8 := Bytes.sliced b (sliceBounds lo none (some 2) b.size).1 (sliceBounds lo none (some 2) b.size).2.1 (sliceBounds lo none (some 2) b.size).2.2

theorem meets_slice2 (b : Array UInt8) (t : Tok) (a : Addr) {l : Value} {u : Tok} {lo : Option Int} (hl : IsPart l lo) :
    Meets («bytes.__getitem__» ⟨[.bytes b t, .ref a], []⟩) (fun _ R s => s.heap.IsSliceOf a l .none (.int 2 u) ∧ (picked2 b lo).size ≤ sizeLine ∧ R (.ok (.ret (.bytes (picked2 b lo) s.toks))) { s with toks := s.toks + 1 }) := by
  refine .of_wp fun prog w A R s hS => ?_
  obtain ⟨⟨o, ho, hc, hd⟩, hsz, h⟩ := hS
  have hT : s.TypeIs (.ref a) "slice" := ⟨o, ho, hc⟩
  show wpAny _ _ (Bytes.payload (.bytes b t) >>= fun r => _) _ _ s
  refine wpAny_bind (wpAny_of_eq (a := b) rfl ?_)
  show wpAny _ _ (Bytes.subscript? (.ref a) >>= fun r => _) _ _ s
  refine wpAny_bind ?_
  unfold Bytes.subscript?
  refine wpAny_bind (wpAny_specialOf hT slice_no_index (wpAny_pure ?_))
  refine wpAny_bind (wpAny_typeOf hT ?_)
  show wpAny _ _ (Bytes.sliceParts (.ref a) >>= fun r => _) _ _ s
  refine wpAny_bind ?_
  unfold Bytes.sliceParts
  refine wpAny_bind (wpAny_field (x := .int 2 u) ho hd rfl ?_)
  kby_int
  refine bm_if_false (by decide) ?_
  have go : wpAny (model prog w) A.in1 (sliceIndices (rawPart lo) (rawPart none) (rawPart (some 2)) b.size) (fun r s' => r = sliceBounds lo none (some 2) b.size ∧ s' = s) (fun _ _ => False) s :=
    wpAny_of_eq (sliceIndices_raw lo none (some 2) b.size (by decide)) ⟨rfl, rfl⟩
  have fin : wpAny (model prog w) A.in1 (sliceIndices (rawPart lo) (rawPart none) (rawPart (some 2)) b.size >>= fun x => match x with
      | (start, stop, step) => if (start == 0 && step == 1 && stop == (b.size : Int) && !b.isEmpty) = true then do
            let ty ← typeOf (Value.bytes b t)
            if (ty == Value.type "bytes") = true then do
                rule "bytes.__getitem__.whole"
                ret (Value.bytes b t)
              else do
                let v ← mkBytes (Bytes.sliced b start stop step)
                ret v
          else do
            let v ← mkBytes (Bytes.sliced b start stop step)
            ret v) (fun fin s' => ∃ v, fin = .done (.ret v) ∧ R (.ok (.ret v)) s') (fun e s' => R (.error e) s') s := by
    refine wpAny_bind (wpAny_mono go (fun r s' hr => ?_) fun _ _ e => e.elim)
    obtain ⟨hr1, hr2⟩ := hr
    subst hr1 hr2
    refine wpAny_ite (KBy.ite_no ?_ ?_)
    · have e3 : ((some (2 : Int)).getD 1 == 1) = false := by decide
      rw [e3]
      simp
    · exact wpAny_bind (wpAny_mkBytes (wpAny_pure ⟨_, rfl, h⟩) hsz)
  cases hl with
  | none =>
    refine wpAny_bind (wpAny_field (x := .none) ho hd rfl ?_)
    kby_none
    refine wpAny_bind (wpAny_field (x := .none) ho hd rfl ?_)
    kby_none
    exact wpAny_pure fin
  | int i ti =>
    refine wpAny_bind (wpAny_field (x := .int i ti) ho hd rfl ?_)
    kby_int
    refine wpAny_bind (wpAny_field (x := .none) ho hd rfl ?_)
    kby_none
    exact wpAny_pure fin
section
variable {prog : Program} {w : World} {A : Around} {E : Value → Shared → Prop} {s : Shared} {h₀ : Heap} {L : Addr} {m : PySem.Str → Option Value} {news : List (Addr × Obj)} {b : Array UInt8} {t : Tok} {Q : Value → Shared → Prop} {value slice : PySem.Expr}
theorem slice2_N {l : Value} {u : Tok} {lo : Option Int} (hF : Fr h₀ L s.heap m) (hN : News h₀ L s.heap news) (hl : IsPart l lo) (hz : (picked2 b lo).size ≤ 16777216)
    (h : ∀ h' t' k, Fr h₀ L h' m → News h₀ L h' news → Q (.bytes (picked2 b lo) t') { s with heap := h', toks := k })
    (hs : subscripted slice false (.bytes b t) (.ref s.heap.objs.size) = operate [.ref s.heap.objs.size, .bytes b t] (getItem (.bytes b t) (.ref s.heap.objs.size)) := by with_unfolding_all rfl)
    (ht : ∀ r, letTemporaryGo value (.bytes b t) r = pure () := by intro _; with_unfolding_all rfl) :
    wpAny (model prog w) A (subscriptTail value slice (.bytes b t) (.ref s.heap.objs.size)) Q E { s with heap := s.heap.push { cls := .type "slice", data := .fields #[l, .none, .int 2 u] } } :=
  tail_of_ItemOn ⟨"bytes", _, FB.slot_bytes_getitem.lookup, typeIs_bytes _ _ _, getItem_meets (typeIs_bytes _ _ _) (by decide) FB.slot_bytes_getitem FB.entry_bytes_getitem (FB.args_bytes_getitem_2 _ _) (meets_slice2 b t _ hl)
    ⟨Heap.IsSliceOf.new _ _ _ _, by rw [sizeLine_eq]; exact hz, h _ _ _ (hF.push _) (News.pushKeep hN _)⟩⟩ hs ht
end
theorem noI_bytes_add : typeLookup (.type "bytes") (dunderI "add") = pure none := by rw [typeLookup_type, builtinLookup_eq_fast]; kernel_rfl
theorem iadd_bytes {prog : Program} {w : World} {A : Around} {E : Value → Shared → Prop} {s : Shared} {b c : Array UInt8} {t u : Tok} {Q : Value → Shared → Prop} (hsz : b.size + c.size ≤ 16777216) (h : ∀ t' k, Q (.bytes (b ++ c) t') { s with toks := k }) :
    wpAny (model prog w) A (inplaceOp .Add (.bytes b t) (.bytes c u)) Q E s := by
  refine iconcat_gives (typeIs_bytes s b t) (typeIs_bytes s c u) noI_bytes_add KBy.noFill_bytes_add KBy.seq_bytes_add FB.slot_bytes_add FB.entry_bytes_add (FB.args_bytes_add_2 _ _) (KBy.gives_bytes_add (KBy.tooLong_not hsz)) ?_
  by_cases hb : b.isEmpty = true
  · rw [if_pos hb]
    have e : b = #[] := Array.isEmpty_iff.1 hb
    have h' := h u s.toks
    rw [e, Array.empty_append] at h'
    exact h'
  · rw [if_neg hb]
    by_cases hc : c.isEmpty = true
    · rw [if_pos hc]
      have e : c = #[] := Array.isEmpty_iff.1 hc
      have h' := h t s.toks
      rw [e, Array.append_empty] at h'
      exact h'
    · rw [if_neg hc]
      exact ⟨by rw [Array.size_append, sizeLine_eq]; exact hsz, h s.toks (s.toks + 1)⟩
/-! what the two cuts hold -/
theorem filterMap_at {b : Array UInt8} : ∀ (js : List Nat), (∀ j ∈ js, j < b.size) → js.filterMap (b[·]?) = js.map fun j => b.getD j 0
  | [], _ => rfl
  | j :: r, h => by
    have hj := h j (.head _)
    have e : b[j]? = some (b.getD j 0) := by simp [hj]
    rw [List.filterMap_cons, e, List.map_cons, filterMap_at r fun k hk => h k (.tail _ hk)]
theorem cut0 {b : Array UInt8} {n : Nat} (hb : b.size = 2 * n) : picked2 b none = ((List.range n).map fun k => b.getD (2 * k) 0).toArray := by
  unfold picked2 Bytes.sliced
  have e : sliceRange (sliceBounds none none (some 2) b.size).1 (sliceBounds none none (some 2) b.size).2.1 (sliceBounds none none (some 2) b.size).2.2 = (List.range n).map fun k => 2 * k := by
    show sliceRange 0 (b.size : Int) 2 = _
    unfold sliceRange
    have c : (if (2 : Int) > 0 then (if (0 : Int) < (b.size : Int) then ((b.size : Int) - 0 + 2 - 1) / 2 else 0) else (if (0 : Int) > (b.size : Int) then (0 - (b.size : Int) - 2 - 1) / (-2) else 0)).toNat = n := by
      rw [if_pos (by decide)]
      split <;> omega
    dsimp only
    rw [c]
    exact List.map_congr_left fun k _ => by omega
  rw [e, filterMap_at _ (by intro j hj; simp at hj; omega), List.map_map]
  rfl
theorem cut1 {b : Array UInt8} {n : Nat} (hb : b.size = 2 * n) : picked2 b (some 1) = ((List.range n).map fun k => b.getD (2 * k + 1) 0).toArray := by
  unfold picked2 Bytes.sliced
  have e : sliceRange (sliceBounds (some 1) none (some 2) b.size).1 (sliceBounds (some 1) none (some 2) b.size).2.1 (sliceBounds (some 1) none (some 2) b.size).2.2 = (List.range n).map fun k => 2 * k + 1 := by
    show sliceRange (max 0 (min (if (1 : Int) < 0 then 1 + (b.size : Int) else 1) (b.size : Int))) (b.size : Int) 2 = _
    rw [if_neg (by decide)]
    unfold sliceRange
    have c : (if (2 : Int) > 0 then (if max 0 (min 1 (b.size : Int)) < (b.size : Int) then ((b.size : Int) - max 0 (min 1 (b.size : Int)) + 2 - 1) / 2 else 0) else (if max 0 (min 1 (b.size : Int)) > (b.size : Int) then (max 0 (min 1 (b.size : Int)) - (b.size : Int) - 2 - 1) / (-2) else 0)).toNat = n := by
      rw [if_pos (by decide)]
      split <;> omega
    dsimp only
    rw [c]
    refine List.map_congr_left fun k hk => ?_
    have := List.mem_range.mp hk
    omega
  rw [e, filterMap_at _ (by intro j hj; simp at hj; omega), List.map_map]
  rfl
end Mine
end
section
open PySem PySem.W PyProof.Rows
namespace Mine
theorem or8 {x y : Int} (h0 : 0 ≤ x) (h1 : x < 256) (hy : 0 ≤ y) : PySem.Builtin.bitOr x (y * 2 ^ Int.toNat 8) = x + y * 256 := by
  have e : (2 : Int) ^ Int.toNat 8 = 256 := by decide
  rw [e, bitOr_and, bitAnd_pp h0 (by omega)]
  have z : x.toNat &&& (y * 256).toNat = 0 := by
    have ey : (y * 256).toNat = y.toNat * 2 ^ 8 := by omega
    rw [ey]
    refine Nat.eq_of_testBit_eq fun i => ?_
    rw [Nat.testBit_and, Nat.zero_testBit, Nat.testBit_mul_two_pow]
    by_cases hi : 8 ≤ i
    · have : x.toNat.testBit i = false := Nat.testBit_lt_two_pow (Nat.lt_of_lt_of_le (show x.toNat < 2 ^ 8 by omega) (Nat.pow_le_pow_right (by decide) hi))
      rw [this, Bool.false_and]
    · simp [hi]
  rw [z]
  simp
theorem lesum_range : ∀ (n : Nat) (l : List Int), l.length = 2 * n → ((List.range n).map fun k => l.getD (2 * k) 0 + l.getD (2 * k + 1) 0 * 256).sum = lesum l
  | 0, l, h => by
    have : l = [] := List.length_eq_zero_iff.mp (by omega)
    subst this
    rfl
  | n + 1, l, h => by
    match l, h with
    | a :: b :: r, h =>
      have ih := lesum_range n r (by simp only [List.length_cons] at h; omega)
      rw [List.range_succ_eq_map, List.map_cons, List.sum_cons, List.map_map]
      simp only [lesum]
      rw [← ih]
      rfl
theorem sum_even {b : Array UInt8} {n : Nat} (hz : b.size = 2 * n) :
    ((List.range (picked2 b none).size).map fun k => PySem.Builtin.bitOr (((picked2 b none).getD k 0).toNat : Int) ((((picked2 b (some 1)).getD k 0).toNat : Int) * 2 ^ Int.toNat 8)).sum = lesum (KBw.bInts b) := by
  rw [cut0 hz, cut1 hz]
  have e1 : (List.map (fun k => b.getD (2 * k) 0) (List.range n)).toArray.size = n := by simp
  rw [e1, ← lesum_range n (KBw.bInts b) (by rw [KBw.ints_length, hz])]
  congr 1
  refine List.map_congr_left fun k hk => ?_
  have hk := List.mem_range.mp hk
  have g : ∀ j, ((b.getD j 0).toNat : Int) = (KBw.bInts b).getD j 0 := fun j => by
    rw [show (KBw.bInts b) = b.toList.map fun c => ((c.toNat : Nat) : Int) from rfl, ← KBw.getD_ints b.toList j]
    simp
  have x1 : (List.map (fun k => b.getD (2 * k) 0) (List.range n)).toArray.getD k 0 = b.getD (2 * k) 0 := by simp [hk]
  have x2 : (List.map (fun k => b.getD (2 * k + 1) 0) (List.range n)).toArray.getD k 0 = b.getD (2 * k + 1) 0 := by simp [hk]
  rw [x1, x2]
  have b1 := (b.getD (2 * k) 0).toNat_lt
  rw [or8 (by omega) (by omega) (by omega), g, g]
theorem lesum_spec : ∀ {n : Nat} {ks : List Int}, ks.length = 2 * n → Oct ks → 0 ≤ lesum ks ∧ lesum ks ≤ 65535 * n ∧ (lesum ks * 256) % 65535 = wsum ks % 65535 ∧ (lesum ks = 0 ↔ wsum ks = 0)
  | 0, ks, h, _ => by
    have : ks = [] := List.length_eq_zero_iff.mp (by omega)
    subst this
    simp [lesum, wsum]
  | n + 1, ks, h, o => by
    match ks, h, o with
    | a :: b :: r, h, o =>
      have h1 := o.head
      have h2 := o.tail.head
      obtain ⟨i1, i2, i3, i4⟩ := lesum_spec (n := n) (ks := r) (by simp only [List.length_cons] at h; omega) o.tail.tail
      have hw := wsum_nonneg o.tail.tail
      simp only [lesum, wsum]
      refine ⟨by omega, by omega, by omega, ?_⟩
      omega
theorem norm_of {x y : Int} (h0 : 0 ≤ x) (h1 : x ≤ 65535) (hy : 0 ≤ y) (hz : x = 0 ↔ y = 0) (hm : x % 65535 = y % 65535) : x = norm y := by
  unfold norm
  by_cases h : 0 < y
  · rw [if_pos h]; omega
  · rw [if_neg h]; omega
theorem ck_fold {S : Int} (hS : 0 ≤ S) (hB : S ≤ 65535 * 33) : ∃ c : Int, 0 ≤ c ∧ c ≤ 65535 ∧ (c = 0 ↔ S = 0) ∧ c % 65535 = S % 65535 ∧
    (-((S % 65536 + S / 65536) + (S % 65536 + S / 65536) / 65536) - 1) % 65536 = 65535 - c := by
  generalize hs : S % 65536 + S / 65536 = s1
  by_cases h : s1 < 65536
  · refine ⟨s1, by omega, by omega, by omega, by omega, ?_⟩
    have : s1 / 65536 = 0 := by omega
    rw [this]
    omega
  · refine ⟨s1 - 65535, by omega, by omega, by omega, by omega, ?_⟩
    have : s1 / 65536 = 1 := by omega
    rw [this]
    omega
theorem ck_swap {c W : Int} (h0 : 0 ≤ c) (h1 : c ≤ 65535) (hW : 0 ≤ W) (hz : c = 0 ↔ W = 0) (hm : (c * 256) % 65535 = W % 65535) :
    (65535 - c) % 256 * 256 + (65535 - c) / 256 % 256 = 65535 - norm W := by
  have e : c % 256 * 256 + c / 256 = norm W := by
    refine norm_of (by omega) (by omega) hW (by omega) ?_
    rw [← hm]
    omega
  have e1 : (65535 - c) % 256 = 255 - c % 256 := by omega
  have e2 : (65535 - c) / 256 = 255 - c / 256 := by omega
  rw [e1, e2, ← e]
  omega
/-- checksum's arithmetic behind the sum -/
theorem ck_arith {S W x : Int} (hS : 0 ≤ S) (hB : S ≤ 65535 * 33) (hW : 0 ≤ W) (hm : (S * 256) % 65535 = W % 65535) (hz : S = 0 ↔ W = 0)
    (hx : x = (-((S % 65536 + S / 65536) + (S % 65536 + S / 65536) / 65536) - 1) % 65536) :
    x % 256 * 256 + x / 256 % 256 = 65535 - norm W := by
  obtain ⟨c, a, b, z, m, e⟩ := ck_fold hS hB
  rw [hx, e]
  refine ck_swap a b hW (z.trans hz) ?_
  rw [← hm]
  omega
end Mine
end
section
open PySem PySem.W PyProof.Rows
set_option maxRecDepth 100000
namespace Mine
abbrev LawProg : Program := PySem.Challenge.rw_bi0008_01.row.prog
set_option maxHeartbeats 4000000 in
theorem ca_call {w : World} {mean : ExcName → Option Value} {mg mb : Str → Option Value} {dp un : Nat} {gd : Option (List Code)} {cn : Str} {cs : Scope} {a : Addr} {ccd : Value} {cl : List (Str × Addr)} {outer : List Env} {A₀ : Around} {base h₀ : Heap} {L : Addr} {m : Str → Option Value} {news : List (Addr × Obj)} {s : Shared} {Q E : Value → Shared → Prop}
    {x y : Int} {tx ty : Tok} (B : Below A₀ base outer h₀) (F : Fr h₀ L s.heap m) (X : (hd.heap_39 w.params).In h₀) (N : News h₀ L s.heap news) (T : Top hd.view_39 (looseW hd.view_39 []) mean mg mb h₀) (hk : cs.kind = .function)
    (hd' : dp + 1 < recursionLimit) (hu : un + 8 < cLine)
    (ret : ∀ t h' tk', Fr h₀ L h' m → News h₀ L h' news → Q (.int (cadd x y) t) { s with heap := h', toks := tk' }) :
    wpAny (model PySem.Challenge.rw_bi0008_01.row.prog w) (ktrTop dp un gd cn cs L a ccd cl outer) (call (.ref 21) [.int x tx, .int y ty]) Q E s := by
  revert X
  k_fill
  intro X
  refine wpAny_call ?_
  k_dflt cell_enter
  k_steps
  refine' cb_retI ret (cadd_of _) ?F ?N
  · k_asm
  · k_asm
end Mine
end
section
open PySem PySem.W PyProof.Rows
set_option maxRecDepth 100000
namespace Mine
theorem pad_le (x : Int) : (Array.replicate (x.fmod 2).toNat (0 : UInt8)).size ≤ 1 := by
  rw [Array.size_replicate]
  have := fmod_hi x (n := 2) (by decide)
  omega
theorem padded_le {b : Array UInt8} {n : Nat} (hz : b.size ≤ 64) (hn : 65 ≤ n) (x : Int) : b.size + (Array.replicate (x.fmod 2).toNat (0 : UInt8)).size ≤ n := by
  have := pad_le x
  omega
theorem padded_le' {b : Array UInt8} {n : Nat} (hz : b.size ≤ 64) (hn : 65 ≤ n) (x : Int) : (b ++ Array.replicate (x.fmod 2).toNat (0 : UInt8)).size ≤ n := by
  rw [Array.size_append]
  exact padded_le hz hn x
local macro_rules | `(tactic| walk_at "call type:bytes") => `(tactic| (k_here; (with_reducible show wpAny _ _ (call (Value.type "bytes") [Value.bytes _ _]) _ _ _); (refine call_bytes_bytes ?_)))
local macro_rules | `(tactic| walk_at "call type:bytes") => `(tactic| (k_here; (with_reducible show wpAny _ _ (call (Value.type "bytes") [Value.int _ _]) _ _ _); (refine call_bytes_int (by first | omega | exact fmod_lo _ (by decide)) (by first | omega | exact Int.le_of_lt (Int.lt_of_lt_of_le (fmod_hi _ (by decide)) (by decide))) ?_); intro _ _))
local macro_rules | `(tactic| walk_at "binaryOp Add bytes bytes") => `(tactic| (k_here; (with_reducible show wpAny _ _ (binaryOp Operator.Add (Value.bytes _ _) (Value.bytes _ _)) _ _ _); (refine KBy.add_bytes (padded_le (by assumption) (by decide) _) ?_); intro _ _))
local macro_rules | `(tactic| walk_at "call ref") => `(tactic| (k_here; (with_reducible show wpAny _ _ (call (Value.ref _) [Value.bytes _ _, Value.str _ _]) _ _ _); kfb_any; k_dflt (refine call_bigN (by k_asm) (by k_mem) (padded_le' (by assumption) (by decide) _) ?_); intro _ _))
set_option maxHeartbeats 4000000 in
theorem ls_call {w : World} {mean : ExcName → Option Value} {mg mb : Str → Option Value} {dp un : Nat} {gd : Option (List Code)} {cn : Str} {cs : Scope} {a : Addr} {ccd : Value} {cl : List (Str × Addr)} {outer : List Env} {A₀ : Around} {base h₀ : Heap} {L : Addr} {m : Str → Option Value} {news : List (Addr × Obj)} {s : Shared} {Q E : Value → Shared → Prop}
    {b : Array UInt8} {t : Tok} (B : Below A₀ base outer h₀) (F : Fr h₀ L s.heap m) (X : (hd.heap_39 w.params).In h₀) (N : News h₀ L s.heap news) (T : Top hd.view_39 (looseW hd.view_39 []) mean mg mb h₀) (hk : cs.kind = .function)
    (hd' : dp + 1 < recursionLimit) (hu : un + 8 < cLine) (hz : b.size ≤ 64)
    (ret : ∀ t h' tk', Fr h₀ L h' m → News h₀ L h' news → Q (.int (lsum (KBw.bInts b)) t) { s with heap := h', toks := tk' }) :
    wpAny (model PySem.Challenge.rw_bi0008_01.row.prog w) (ktrTop dp un gd cn cs L a ccd cl outer) (call (.ref 33) [.bytes b t]) Q E s := by
  have hlen : (b.size : Int).fmod 2 = ((b.size % 2 : Nat) : Int) := by rw [Int.fmod_eq_emod_of_nonneg _ (by decide)]; omega
  have hks : KBw.bInts b = KBw.bInts b := rfl
  have hlen2 : (KBw.bInts b).length = b.size := KBw.ints_length b
  revert X
  k_fill
  intro X
  refine wpAny_call ?_
  k_dflt cell_enter
  k_steps
  · refine' cb_retI ret ((ls_pos ‹_›).trans (ls_end b)) ?F (cb_drop ?N ?S)
    (case F => k_asm)
    (case N => k_asm)
    (case S => kcj_all)
  · refine' cb_retI ret ((ls_neg ‹_›).trans (ls_end b)) ?F (cb_drop ?N ?S)
    (case F => k_asm)
    (case N => k_asm)
    (case S => kcj_all)
end Mine
end
section
open PySem PySem.W PyProof.Rows PyProof.Rows.LCg
set_option maxRecDepth 100000
namespace Mine
section
variable {prog : Program} {w : World} {A : Around} {E : Value → Shared → Prop} {s : Shared} {h₀ : Heap} {L : Addr} {m : PySem.Str → Option Value} {news : List (Addr × Obj)}
theorem call_zbK {f : Int → Int → Int} {Q : Value → Shared → Prop} {X Y : Array UInt8} {tx ty : Tok} (F : Fr h₀ L s.heap m) (N : News h₀ L s.heap news) (hXY : X.size = Y.size) (hX : X.size ≤ 1000)
    (fin : ∀ D h tk ys, Fr h₀ L h m → News h₀ L h ((D, lst ys) :: news) → (∀ p ∈ news, p.1 < D) →
      IntsAre ys ((List.range X.size).map fun k => f ((X.getD k 0).toNat : Int) ((Y.getD k 0).toNat : Int)) → Q (.ref D) { s with heap := h, toks := tk }) :
    wpAny (model prog w) A (call (.type "zip") [.bytes X tx, .bytes Y ty]) (ZbSrc h₀ L m f Q) E s := by
  refine call_zb fun h' S z k => ?_
  refine ⟨s.heap.objs.size, _, _, _, _, _, X, Y, tx, ty, news, rfl, F.keeps k, fun p hp => ⟨k _ _ (N p hp).1, (N p hp).2⟩, ⟨rfl, rfl, rfl, rfl, rfl⟩, S, z, F.ns.lt, fun p hp => Heap.lt_size (N p hp).1, hXY, hX, fun D h tk ys F' N' l i => fin D h tk ys F' N' l i⟩
end
def ckBody : List Stmt := match PySem.Challenge.pw_bi0008_01.main.body with
  | _ :: _ :: .FunctionDef _ _ b _ _ _ _ _ _ _ :: _ => b
  | _ => []
def ckScope : Scope := match PySem.Challenge.pw_bi0008_01.main.body with
  | _ :: _ :: .FunctionDef _ _ _ _ _ _ sc _ _ _ :: _ => sc
  | _ => default
theorem ck_elt {prog : Program} {w : World} {A : Around} {E : Value → Shared → Prop} {scope : Scope} {cl : List (PySem.Str × Addr)} {env : Env} {na nb : PySem.Str} {pa pb pc p1 p2 : Pos} {kk : Nat} {g : Shared} {C : Nat} {m₂ : PySem.Str → Option Value} {x y : Int} {t u : Tok}
    (hkind : scope.kind = .function) (hxa : scope.names.lookup na = some .local) (hxb : scope.names.lookup nb = some .local) (hda : (na == ("__debug__" : PySem.Str)) = false) (hdb : (nb == ("__debug__" : PySem.Str)) = false)
    (h2 : 0 ≤ y) (h3 : y < 256) (hn : g.heap.Ns C m₂) (ha : m₂ na = some (.int x t)) (hb : m₂ nb = some (.int y u)) :
    wpAny (model prog w) A (eval (.BinOp (.Name na pa) .BitOr (.BinOp (.Name nb pb) .LShift (.Constant (.int 8) kk pc) p2) p1) (compEnvC scope cl C env)) (fun v g' => ∃ t' k', v = .int (PySem.Builtin.bitOr x (y * 2 ^ Int.toNat 8)) t' ∧ g' = { g with toks := k' }) E g := by
  have hk' : (compEnvC scope cl C env).scope.kind = .function := by simp [compEnvC, relabel, hkind]
  refine wpAny_BinOp (wpAny_Name (wpAny_loadName_local hk' (lookup_relabel_local hxa) hn ha ?_) hda)
  refine wpAny_BinOp (wpAny_Name (wpAny_loadName_local hk' (lookup_relabel_local hxb) hn hb ?_) hdb)
  refine wpAny_Constant_int ?_
  refine lshift_int_small (by decide) (by decide) (by omega) ?_
  exact or_int ⟨_, _, rfl, rfl⟩
theorem conv_use {w : World} {A : Around} {E : Value → Shared → Prop} {s : Shared} {Q : Value → Shared → Prop} {h₀ : Heap} {L : Addr} {news : List (Addr × Obj)} {v : Value} {b : Array UInt8}
    (conv : ∀ {A : Around} {E' : Value → Shared → Prop} {s' : Shared} {Q' : Value → Shared → Prop}, News h₀ L s'.heap news → (∀ t tk, Q' (.bytes b t) { s' with toks := tk }) → wpAny (model PySem.Challenge.rw_bi0008_01.row.prog w) A (call (.type "bytes") [v]) Q' E' s')
    (N : News h₀ L s.heap news) (h : ∀ t tk, Q (.bytes b t) { s with toks := tk }) : wpAny (model PySem.Challenge.rw_bi0008_01.row.prog w) A (call (.type "bytes") [v]) Q E s := conv N h
theorem and16 (x : Int) : 0 ≤ PySem.Builtin.bitAnd x 65535 ∧ PySem.Builtin.bitAnd x 65535 < 65536 := by
  rw [bitAnd_m16]
  omega
theorem cut_size {b : Array UInt8} {n : Nat} (hz : b.size = 2 * n) (hn : n ≤ 33) : (picked2 b none).size ≤ 33 ∧ (picked2 b (some 1)).size = (picked2 b none).size := by
  rw [cut0 hz, cut1 hz]
  simp
  exact hn
local macro_rules | `(tactic| walk_at "call type:bytes") => `(tactic| (k_here; (with_reducible rename News _ _ _ _ => N9); (refine conv_use (by assumption) N9 ?_); intro _ _))
local macro_rules | `(tactic| walk_at "eval ListComp") => `(tactic| (k_here; (rename Fr _ _ _ _ => F9); k_dflt (refine' zb_ListComp (f := fun x y => PySem.Builtin.bitOr x (y * 2 ^ Int.toNat 8)) ?c1 ?c2 ?c3 ?c4 ?c5 ?c6 ?c7 ?c8 F9 ?helt ?hsrc ?c9; (case c9 => intro _; rfl); (case c1 => rfl); (case c2 => decide); (case c3 => rfl); (case c4 => decide); (case c5 => rfl); (case c6 => rfl); (case c7 => decide); (case c8 => rfl); (case helt => intro g C m₂ x y t u E' _ _ h2 h3 hn ha hb; exact ck_elt (by rfl) (by rfl) (by rfl) (by decide) (by decide) h2 h3 hn ha hb))))
local macro_rules | `(tactic| walk_at "inplaceOp Add bytes bytes") => `(tactic| (k_here; (with_reducible show wpAny _ _ (inplaceOp Operator.Add (Value.bytes _ _) (Value.bytes _ _)) _ _ _); (refine iadd_bytes (by show _ + 1 ≤ 16777216; omega) ?_); intro _ _))
local macro_rules | `(tactic| walk_at "subscriptTail") => `(tactic| (k_here; (with_reducible show wpAny _ _ (subscriptTail _ (Expr.Slice _ _ (some _) _) (Value.bytes _ _) (Value.ref _)) _ _ _); (with_reducible rename Fr _ _ _ _ => F'); (with_reducible rename News _ _ _ _ => N'); (refine slice2_N (s := ⟨_, _, _, _, _⟩) F' N' (by constructor) ?hz ?_; (case hz => (have q := cut_size (by assumption) (by assumption); omega))); intro _ _ _ _ _))
local macro_rules | `(tactic| walk_at "call type:zip") => `(tactic| (k_here; k_dflt (refine' call_zbK ?k1 ?k2 ?k3 ?k4 ?_; (case k1 => k_asm); (case k2 => k_asm); (case k3 => (have q := cut_size (by assumption) (by assumption); exact q.2.symm)); (case k4 => (have q := cut_size (by assumption) (by assumption); omega))); intro D9 h9 tk9 ys9 F9 N9 l9 i9; (try dsimp only)))
local macro_rules | `(tactic| walk_at "call builtin:int.to_bytes") => `(tactic| (k_here; (try dsimp only [List.nil_append, List.cons_append]); (with_reducible show wpAny _ _ (call (Value.builtin "int.to_bytes") [Value.int _ _, Value.int _ _, Value.str _ _]) _ _ _); (with_unfolding_all refine KTBy.to_little (k := 2) (B := 65536) (by decide) (by decide) (and16 _).1 (and16 _).2 ?_); intro b9 t9 k9 hb9 hl9))
local macro_rules | `(tactic| walk_at "call ref") => `(tactic| (k_here; (try dsimp only [List.nil_append, List.cons_append]); (with_reducible show wpAny _ _ (call (Value.ref _) [Value.bytes _ _, Value.str _ _]) _ _ _); kfb_any; k_dflt (refine KFB.call_big (by k_asm) (by k_mem) (by assumption) (by rw [KTBy.little_length]; decide) ?_); intro _ _))
theorem ck_end {b : Array UInt8} {n : Nat} (hz : b.size = 2 * n) (hn : n ≤ 33) {S s1 s2 : Int} (hS : S = lesum (KBw.bInts b)) (h1 : s1 = PySem.Builtin.bitAnd S 65535 + S.fdiv (2 ^ Int.toNat 16)) (h2 : s2 = s1 + s1.fdiv (2 ^ Int.toNat 16)) :
    KFB.value (KTBy.little 2 (PySem.Builtin.bitAnd (PySem.Builtin.bitNot s2) 65535)) = 65535 - lsum (KBw.bInts b) := by
  obtain ⟨a, c, d, e⟩ := lesum_spec (n := n) (by rw [KBw.ints_length, hz]) (oct_bytes b)
  have w := wsum_nonneg (oct_bytes b)
  have e16 : (2 : Int) ^ Int.toNat 16 = 65536 := by decide
  rw [e16, Int.fdiv_eq_ediv_of_nonneg _ (by decide)] at h1 h2
  rw [bitAnd_m16] at h1 ⊢
  rw [← hS] at a c d e
  have := ck_arith (S := S) (W := wsum (KBw.bInts b)) (x := PySem.Builtin.bitNot s2 % 65536) a (by omega) w d e (by
    unfold PySem.Builtin.bitNot
    rw [h2, h1])
  show 0 * 256 + PySem.Builtin.bitNot s2 % 65536 % 256 |> fun z => z * 256 + PySem.Builtin.bitNot s2 % 65536 / 256 % 256 = _
  unfold lsum
  rw [← this]
  omega
set_option maxHeartbeats 400000 in
theorem ck_tail {w : World} {mean : ExcName → Option Value} {mg mb : Str → Option Value} {dp un : Nat} {gd : Option (List Code)} {cn : Str} {cs : Scope} {a : Addr} {ccd : Value} {cl : List (Str × Addr)} {outer : List Env} {h₀ : Heap} {L L' : Addr} {m : Str → Option Value} {news : List (Addr × Obj)} {s : Shared} {Q : Flow → Shared → Prop} {E : Value → Shared → Prop}
    {b : Array UInt8} {t : Tok} {n : Nat} (F : Fr h₀ L' s.heap (fun y => if y = Str.ofString "data" then some (.bytes b t) else m y)) (X : (hd.heap_39 w.params).In h₀) (N : News h₀ L' s.heap news) (T : Top hd.view_39 (looseW hd.view_39 []) mean mg mb h₀)
    (hz : b.size = 2 * n) (hn : n ≤ 33)
    (ret : ∀ x t h' tk' m', x = 65535 - lsum (KBw.bInts b) → Fr h₀ L' h' m' → News h₀ L' h' news → Q (.ret (.int x t)) { s with heap := h', toks := tk' }) :
    wpAny (model PySem.Challenge.rw_bi0008_01.row.prog w) ((ktrTop dp un gd cn cs L a ccd cl outer).deeper (envOf (Str.ofString "checksum") ckScope L' 26 (.ref 25))) (execs (ckBody.drop 2) (envOf (Str.ofString "checksum") ckScope L' 26 (.ref 25))) Q E s := by
  revert X
  k_fill
  intro X
  show wpAny _ (Around.deeper _ (envOf _ ⟨_, _, _, _, _⟩ _ _ _)) (execs (_ :: _) (envOf _ ⟨_, _, _, _, _⟩ _ _ _)) _ _ _
  k_steps
  refine' ret _ _ _ _ _ ?e ?F (cb_drop ?N ?S)
  (case F => k_asm)
  (case N => k_asm)
  (case S => kcj_all)
  exact ck_end hz hn (sum_even hz) rfl rfl
theorem fr_one {h₀ h : Heap} {L : Addr} {x : PySem.Str} {v : Value} (F : Fr h₀ L h (fun y => List.lookup y [(x, v)])) : Fr h₀ L h (fun y => if y = x then some v else none) := by
  have e : (fun y => List.lookup y [(x, v)]) = fun y => if y = x then some v else none := by
    funext y
    by_cases hy : y = x
    · subst hy; simp
    · rw [if_neg hy, List.lookup_cons, show (y == x) = false from beq_eq_false_iff_ne.mpr hy]
      rfl
  rwa [e] at F
theorem ck_odd {b : Array UInt8} (ho : ((KBw.bInts b).length : Int).fmod 2 ≠ 0) (hz : b.size ≤ 64) : ∃ n, (b ++ #[0]).size = 2 * n ∧ n ≤ 33 ∧ lsum (KBw.bInts (b ++ #[0])) = lsum (KBw.bInts b) := by
  rw [Int.fmod_eq_emod_of_nonneg _ (by decide), KBw.ints_length] at ho
  refine ⟨(b.size + 1) / 2, by rw [Array.size_append]; show b.size + 1 = _; omega, by omega, ?_⟩
  have e : KBw.bInts (b ++ #[0]) = KBw.bInts b ++ [0] := KBw.ints_app rfl rfl
  rw [e]
  unfold lsum
  congr 1
  have h1 : (KBw.bInts b).length % 2 = 1 := by rw [KBw.ints_length]; omega
  generalize KBw.bInts b = ks at h1
  exact wsum_pad _ h1
theorem ck_even {b : Array UInt8} (ho : ((KBw.bInts b).length : Int).fmod 2 = 0) (hz : b.size ≤ 64) : ∃ n, b.size = 2 * n ∧ n ≤ 33 ∧ lsum (KBw.bInts b) = lsum (KBw.bInts b) := by
  rw [Int.fmod_eq_emod_of_nonneg _ (by decide), KBw.ints_length] at ho
  exact ⟨b.size / 2, by omega, by omega, rfl⟩
set_option maxHeartbeats 400000 in
theorem ck_head {w : World} {mean : ExcName → Option Value} {mg mb : Str → Option Value} {dp un : Nat} {gd : Option (List Code)} {cn : Str} {cs : Scope} {a : Addr} {ccd : Value} {cl : List (Str × Addr)} {outer : List Env} {h₀ : Heap} {L L' : Addr} {m : Str → Option Value} {news : List (Addr × Obj)} {s : Shared} {Q : Flow → Shared → Prop} {E : Value → Shared → Prop}
    {b : Array UInt8} {v : Value} (F : Fr h₀ L' s.heap (fun y => if y = Str.ofString "data" then some v else m y)) (X : (hd.heap_39 w.params).In h₀) (N : News h₀ L' s.heap news) (T : Top hd.view_39 (looseW hd.view_39 []) mean mg mb h₀)
    (hz : b.size ≤ 64)
    (conv : ∀ {A : Around} {E' : Value → Shared → Prop} {s' : Shared} {Q' : Value → Shared → Prop}, News h₀ L' s'.heap news → (∀ t tk, Q' (.bytes b t) { s' with toks := tk }) → wpAny (model PySem.Challenge.rw_bi0008_01.row.prog w) A (call (.type "bytes") [v]) Q' E' s')
    (k : ∀ d td h' tk' n (m' : PySem.Str → Option Value), (d.size = 2 * n ∧ n ≤ 33 ∧ lsum (KBw.bInts d) = lsum (KBw.bInts b)) → Fr h₀ L' h' (fun y => if y = Str.ofString "data" then some (.bytes d td) else m' y) → News h₀ L' h' news → Q .next { s with heap := h', toks := tk' }) :
    wpAny (model PySem.Challenge.rw_bi0008_01.row.prog w) ((ktrTop dp un gd cn cs L a ccd cl outer).deeper (envOf (Str.ofString "checksum") ckScope L' 26 (.ref 25))) (execs (ckBody.take 2) (envOf (Str.ofString "checksum") ckScope L' 26 (.ref 25))) Q E s := by
  have hks : KBw.bInts b = KBw.bInts b := rfl
  have hlen2 : (KBw.bInts b).length = b.size := KBw.ints_length b
  revert X
  k_fill
  intro X
  show wpAny _ (Around.deeper _ (envOf _ ⟨_, _, _, _, _⟩ _ _ _)) (execs [_, _] (envOf _ ⟨_, _, _, _, _⟩ _ _ _)) _ _ _
  k_steps
  · obtain ⟨n, e⟩ := ck_odd ‹_› hz
    refine' k _ _ _ _ n _ e ?F ?N
    (case F => k_asm)
    (case N => k_asm)
  · obtain ⟨n, e⟩ := ck_even ‹_› hz
    refine' k _ _ _ _ n _ e ?F ?N
    (case F => k_asm)
    (case N => k_asm)
set_option maxHeartbeats 400000 in
/-- checksum's contract, for whatever bytes(data) turns to the octets b -/
theorem ck_gen {w : World} {mean : ExcName → Option Value} {mg mb : Str → Option Value} {dp un : Nat} {gd : Option (List Code)} {cn : Str} {cs : Scope} {a : Addr} {ccd : Value} {cl : List (Str × Addr)} {outer : List Env} {A₀ : Around} {base h₀ : Heap} {L : Addr} {m : Str → Option Value} {news : List (Addr × Obj)} {s : Shared} {Q E : Value → Shared → Prop}
    {b : Array UInt8} {v : Value} (B : Below A₀ base outer h₀) (F : Fr h₀ L s.heap m) (X : (hd.heap_39 w.params).In h₀) (N : News h₀ L s.heap news) (T : Top hd.view_39 (looseW hd.view_39 []) mean mg mb h₀) (hk : cs.kind = .function)
    (hd' : dp + 1 < recursionLimit) (hz : b.size ≤ 64)
    (conv : ∀ {g : Heap} {L' : Addr} {A : Around} {E' : Value → Shared → Prop} {s' : Shared} {Q' : Value → Shared → Prop}, News g L' s'.heap news → (∀ t tk, Q' (.bytes b t) { s' with toks := tk }) → wpAny (model PySem.Challenge.rw_bi0008_01.row.prog w) A (call (.type "bytes") [v]) Q' E' s')
    (ret : ∀ t h' tk', Fr h₀ L h' m → News h₀ L h' news → Q (.int (65535 - lsum (KBw.bInts b)) t) { s with heap := h', toks := tk' }) :
    wpAny (model PySem.Challenge.rw_bi0008_01.row.prog w) (ktrTop dp un gd cn cs L a ccd cl outer) (call (.ref 26) [v]) Q E s := by
  revert X
  k_fill
  intro X
  refine wpAny_call ?_
  k_dflt cell_enter
  refine execs_split 2 ?_
  rename_i g' L' h' FG' F' N' B' X' T'
  refine ck_head (v := v) (fr_one F') X' N' T' hz (fun n k => conv n k) ?_
  intro d td h2 tk2 n m2 hd2 F2 N2
  refine ck_tail F2 X' N2 T' hd2.1 hd2.2.1 ?_
  rintro x t h3 tk3 m3 rfl F3 N3
  rw [hd2.2.2]
  clear conv F2 N2
  k_steps
  refine' cb_retI ret rfl ?F ?N
  (case F => k_asm)
  (case N => k_asm)
theorem ck_call {w : World} {mean : ExcName → Option Value} {mg mb : Str → Option Value} {dp un : Nat} {gd : Option (List Code)} {cn : Str} {cs : Scope} {a : Addr} {ccd : Value} {cl : List (Str × Addr)} {outer : List Env} {A₀ : Around} {base h₀ : Heap} {L : Addr} {m : Str → Option Value} {news : List (Addr × Obj)} {s : Shared} {Q E : Value → Shared → Prop}
    {b : Array UInt8} {t : Tok} (B : Below A₀ base outer h₀) (F : Fr h₀ L s.heap m) (X : (hd.heap_39 w.params).In h₀) (N : News h₀ L s.heap news) (T : Top hd.view_39 (looseW hd.view_39 []) mean mg mb h₀) (hk : cs.kind = .function)
    (hd' : dp + 1 < recursionLimit) (hz : b.size ≤ 64)
    (ret : ∀ t h' tk', Fr h₀ L h' m → News h₀ L h' news → Q (.int (65535 - lsum (KBw.bInts b)) t) { s with heap := h', toks := tk' }) :
    wpAny (model PySem.Challenge.rw_bi0008_01.row.prog w) (ktrTop dp un gd cn cs L a ccd cl outer) (call (.ref 26) [.bytes b t]) Q E s :=
  ck_gen B F X N T hk hd' hz (fun _ k => call_bytes_bytes (k _ _)) ret
theorem ckA_call {w : World} {mean : ExcName → Option Value} {mg mb : Str → Option Value} {dp un : Nat} {gd : Option (List Code)} {cn : Str} {cs : Scope} {a : Addr} {ccd : Value} {cl : List (Str × Addr)} {outer : List Env} {A₀ : Around} {base h₀ : Heap} {L : Addr} {m : Str → Option Value} {news : List (Addr × Obj)} {s : Shared} {Q E : Value → Shared → Prop}
    {b : Array UInt8} {D : Addr} (B : Below A₀ base outer h₀) (F : Fr h₀ L s.heap m) (X : (hd.heap_39 w.params).In h₀) (N : News h₀ L s.heap news) (T : Top hd.view_39 (looseW hd.view_39 []) mean mg mb h₀) (hk : cs.kind = .function)
    (hd' : dp + 1 < recursionLimit) (hm : (D, ({ cls := .type "bytearray", data := .bytearray b } : Obj)) ∈ news) (hz : b.size ≤ 64)
    (ret : ∀ t h' tk', Fr h₀ L h' m → News h₀ L h' news → Q (.int (65535 - lsum (KBw.bInts b)) t) { s with heap := h', toks := tk' }) :
    wpAny (model PySem.Challenge.rw_bi0008_01.row.prog w) (ktrTop dp un gd cn cs L a ccd cl outer) (call (.ref 26) [.ref D]) Q E s :=
  ck_gen B F X N T hk hd' hz (fun n k => call_bytes_ba (n _ hm).1 (by omega) k) ret
end Mine
end
section
open PySem PySem.W PyProof.Rows PyProof.Rows.LCg
set_option maxRecDepth 100000
namespace Mine
section
variable {prog : Program} {w : World} {A : Around} {E : Value → Shared → Prop} {s : Shared} {R : Result → Shared → Prop}

/-- a comprehension of two clauses, the inner one over a tuple of two -/
abbrev NcE (elt t1 i1 t2 i2 : PySem.Expr) (scope : Scope) (pos : Pos) : PySem.Expr := .ListComp elt [⟨t1, i1, [], 0⟩, ⟨t2, i2, [], 0⟩] scope pos

theorem nc_turn0 (elt t1 i1 t2 i2 : PySem.Expr) (scope : Scope) (pos : Pos) (it acc : Value) (env : Env) :
    compTurn (NcE elt t1 i1 t2 i2 scope pos) 0 it acc env = (standAt i1.pos >>= fun _ => pyNext it >>= fun r => match r with
      | none => pure (.done .next)
      | some v => letOwnedTupleGo t1 it v >>= fun _ => assign t1 env v >>= fun _ =>
        eval i2 env >>= fun x => standAt i2.pos >>= fun _ => foldedSetIterable i2 env x >>= fun x => holding [x] (pyIter x) >>= fun it' =>
          runOwn (.compStart (NcE elt t1 i1 t2 i2 scope pos) 1 it' acc env) env >>= fun _ => 
          again (.compLoop (NcE elt t1 i1 t2 i2 scope pos) 0 it acc env)) := by rfl
theorem nc_turn1 (elt t1 i1 t2 i2 : PySem.Expr) (scope : Scope) (pos : Pos) (it acc : Value) (env : Env) :
    compTurn (NcE elt t1 i1 t2 i2 scope pos) 1 it acc env = (standAt i2.pos >>= fun _ => pyNext it >>= fun r => match r with
      | none => pure (.done .next)
      | some v => letOwnedTupleGo t2 it v >>= fun _ => assign t2 env v >>= fun _ =>
        (eval elt env >>= fun x => call (.builtin "list.append") [acc, x] >>= fun _ => pure ()) >>= fun _ =>
          again (.compLoop (NcE elt t1 i1 t2 i2 scope pos) 1 it acc env)) := by rfl
theorem nc_start1 {elt t1 i1 t2 i2 : PySem.Expr} {scope : Scope} {pos : Pos} {it acc : Value} {env : Env}
    (h0 : codeAny (model prog w) A (.compLoop (NcE elt t1 i1 t2 i2 scope pos) 1 it acc env) R s)
    (h : wpAny (model prog w) A (pyIter it) (fun it' s' => codeAny (model prog w) A (.compLoop (NcE elt t1 i1 t2 i2 scope pos) 1 it' acc env) R s')
      (notedBy (model prog w) A env fun x s' => R (.error x) s') s) :
    codeAny (model prog w) A (.compStart (NcE elt t1 i1 t2 i2 scope pos) 1 it acc env) R s := by
  refine codeAny_of_tree ?_
  show wpAny _ _ ((compStart (NcE elt t1 i1 t2 i2 scope pos) 1 it acc env).onRaise (fun x => do noteFrame x env; standAt theWindowsPlace)) _ _ s
  refine wpAny_notedAt ?_
  unfold compStart
  show wpAny _ _ (ask >>= _) _ _ s
  refine wpAny_bind (wpAny_askSetting (wpAny_ite ?_))
  split
  · first
      | exact wpAny_bind (wpAny_pure (wpAny_pure (And.intro rfl h0)))
      | exact wpAny_pure (And.intro rfl h0)
  · first
      | exact wpAny_bind (wpAny_rule (wpAny_bind (wpAny_standAt (wpAny_bind (wpAny_mono h (fun it' s' h' => wpAny_pure (And.intro rfl h')) fun _ _ x => x)))))
      | (refine wpAny_bind (wpAny_rule ?_); show wpAny _ _ (standAt i2.pos >>= _) _ _ s; exact wpAny_bind (wpAny_standAt (wpAny_bind (wpAny_mono h (fun it' s' h' => wpAny_pure (And.intro rfl h')) fun _ _ x => x))))

theorem two_get {x y : Int} (t u : Tok) {j : Nat} (h : j < 2) : ∃ vj tj, [Value.int x t, .int y u][j]? = some (Value.int vj tj) := by
  match j, h with
  | 0, _ => exact ⟨x, t, rfl⟩
  | 1, _ => exact ⟨y, u, rfl⟩
theorem nc_start2 {elt t1 i1 t2 i2 : PySem.Expr} {scope : Scope} {pos : Pos} {it T j : Nat} {acc : Value} {env : Env} (hit : s.heap.IsTupleIter it T j)
    (h0 : codeAny (model prog w) A (.compLoop (NcE elt t1 i1 t2 i2 scope pos) 1 (.ref it) acc env) R s) :
    codeAny (model prog w) A (.compStart (NcE elt t1 i1 t2 i2 scope pos) 1 (.ref it) acc env) R s := nc_start1 h0 (wpAny_pyIter_tupleiter hit h0)
set_option maxHeartbeats 1000000 in
/-- the inner loop: over the tuple (a, b), its item appended -/
theorem nc_inner {t1 i1 i2 : PySem.Expr} {nb : PySem.Str} {pb pe : Pos} {scope : Scope} {cl : List (PySem.Str × Addr)} {pos : Pos} {env : Env} {C D T it : Nat} {x y : Int} {t u : Tok} {ys : List Value} {m₂ : PySem.Str → Option Value}
    (hh : A.handled = none) (hkind : scope.kind = .function) (hxb : scope.names.lookup nb = some .local) (hdb : (nb == ("__debug__" : PySem.Str)) = false)
    (hit : s.heap.IsTupleIter it T 0) (hT : s.heap.IsTuple T #[.int x t, .int y u]) (hn : s.heap.Ns C m₂) (hD : s.heap.get? D = some (lst ys)) (hz : ys.length ≤ 1000)
    (c1 : it ≠ T) (c2 : it ≠ C) (c3 : it ≠ D) (c4 : T ≠ C) (c5 : T ≠ D) (c6 : C ≠ D)
    (hR : ∀ h' tk m₃ t' u', (∀ (c : Nat) o, c ≠ it → c ≠ C → c ≠ D → s.heap.get? c = some o → h'.get? c = some o) → h'.Ns C m₃ → h'.get? D = some (lst (ys ++ [.int x t', .int y u'])) → R (.ok .next) { s with heap := h', toks := tk }) :
    codeAny (model prog w) A (.compLoop (NcE (.Name nb pe) t1 i1 (.Name nb pb) i2 scope pos) 1 (.ref it) (.ref D) (compEnvC scope cl C env)) R s := by
  have hk' : (compEnvC scope cl C env).scope.kind = .function := by simp [compEnvC, relabel, hkind]
  refine codeAny_loop rfl (fun k s' => ∃ h' tk j m', s' = { s with heap := h', toks := tk } ∧ j ≤ 2 ∧ k = 3 - j ∧ h'.IsTupleIter it T j ∧ h'.IsTuple T #[.int x t, .int y u] ∧ h'.Ns C m' ∧
      h'.get? D = some (lst (ys ++ [Value.int x t, .int y u].take j)) ∧ (∀ (c : Nat) o, c ≠ it → c ≠ C → c ≠ D → s.heap.get? c = some o → h'.get? c = some o)) ?_ 3
    ⟨s.heap, s.toks, 0, m₂, rfl, by omega, rfl, hit, hT, hn, by simpa using hD, fun _ _ _ _ _ e => e⟩
  rintro k s' ⟨h', tk, j, m', rfl, hj, rfl, hit', hT', hn', hD', K'⟩
  show wpAny _ A ((compTurn (NcE (.Name nb pe) t1 i1 (.Name nb pb) i2 scope pos) 1 (.ref it) (.ref D) (compEnvC scope cl C env)).onRaise (fun x => do noteFrame x (compEnvC scope cl C env); theTreesLotGoes x)) _ _ _
  refine wpAny_noted ?_
  rw [nc_turn1]
  refine wpAny_bind (wpAny_standAt (wpAny_bind ?_))
  by_cases hlt : j < 2
  · obtain ⟨vj, tj, hvj⟩ := two_get (x := x) (y := y) t u hlt
    refine wpAny_pyNext_tuple_item hit' hT' (x := .int vj tj) (by simpa using hvj) fun h₂ hit₂ hs₂ => ?_
    have up₂ : ∀ (c : Nat) o, c ≠ it → h'.get? c = some o → h₂.get? c = some o := fun c o hc e => hs₂.extBut c o hc e
    refine wpAny_bind (wpAny_of_eq (a := ()) rfl ?_)
    have hn₂ : h₂.Ns C m' := hn'.at' fun o e => up₂ C o (Ne.symm c2) e
    refine wpAny_bind (wpAny_assign_Name (wpAny_storeName_local (env := compEnvC scope cl C env) (lookup_relabel_local hxb) hn₂ (fun h₃ hn₃ hs₃ => ?_) (by simp [compEnvC, relabel, hkind])))
    have up₃ : ∀ (c : Nat) o, c ≠ C → h₂.get? c = some o → h₃.get? c = some o := fun c o hc e => hs₃.extBut c o hc e
    refine wpAny_bind (wpAny_bind (wpAny_Name (wpAny_loadName_local hk' (lookup_relabel_local hxb) hn₃ (if_pos rfl) ?_) hdb))
    have hD₃ : h₃.get? D = some (lst (ys ++ [Value.int x t, .int y u].take j)) := up₃ D _ (Ne.symm c6) (up₂ D _ (Ne.symm c3) hD')
    have hl : (ys ++ [Value.int x t, .int y u].take j).length ≤ 1002 := by simp; omega
    refine wpAny_bind (append_at (hsz := by show (ys ++ [Value.int x t, .int y u].take j).toArray.size ≤ sizeLine; rw [List.size_toArray, sizeLine_eq]; omega) hD₃ fun h₄ hs₄ hD₄ => ?_)
    have up₄ : ∀ (c : Nat) o, c ≠ D → h₃.get? c = some o → h₄.get? c = some o := fun c o hc e => hs₄.extBut c o hc e
    refine wpAny_pure (wpAny_pure ⟨rfl, 3 - (j + 1), by omega, h₄, _, j + 1, _, rfl, by omega, rfl, ?_, ?_, hn₃.at' fun o e => up₄ C o c6 e, ?_, ?_⟩)
    · obtain ⟨o, e, r⟩ := hit₂
      exact ⟨o, up₄ it o c3 (up₃ it o c2 e), r⟩
    · obtain ⟨o, e, r⟩ := hT'
      exact ⟨o, up₄ T o c5 (up₃ T o c4 (up₂ T o (Ne.symm c1) e)), r⟩
    · rw [hD₄]
      have e : [Value.int x t, .int y u].take (j + 1) = [Value.int x t, .int y u].take j ++ [.int vj tj] := by
        rw [List.take_add_one, hvj]; rfl
      rw [e, ← List.append_assoc]
      exact congrArg some (lst_snoc _ _)
    · exact fun c o h1 h2 h3 e => up₄ c o h3 (up₃ c o h2 (up₂ c o h1 (K' c o h1 h2 h3 e)))
  · obtain rfl : j = 2 := by omega
    refine wpAny_pyNext_tuple_end hh hit' hT' (by simp) fun h₂ he₂ => ?_
    refine wpAny_pure ?_
    have up₂ : ∀ (c : Nat) o, c ≠ it → h'.get? c = some o → h₂.get? c = some o := he₂
    refine hR h₂ tk m' t u (fun c o h1 h2 h3 e => up₂ c o h1 (K' c o h1 h2 h3 e)) (hn'.at' fun o e => up₂ C o (Ne.symm c2) e) (up₂ D _ (Ne.symm c3) hD')

/-- what the nested comprehension's source must be: a list of whole numbers in news -/
def NcSrc (h₀ : Heap) (L : Nat) (m : PySem.Str → Option Value) (Q : Value → Shared → Prop) (xv : Value) (s₁ : Shared) : Prop :=
  ∃ (W : Nat) (vs : List Value) (ns : List Int) (k : Nat) (news : List (Addr × Obj)), xv = .ref W ∧ Fr h₀ L s₁.heap m ∧ News h₀ L s₁.heap news ∧ (W, ({ cls := .type "list", data := .seq vs.toArray k } : Obj)) ∈ news ∧ IntsAre vs ns ∧ ns.length ≤ 64 ∧ (∀ n ∈ ns, 0 ≤ n ∧ n < 65536) ∧
    ∀ D h tk ys, Fr h₀ L h m → News h₀ L h ((D, lst ys) :: news) → (∀ p ∈ news, p.1 < D) → IntsAre ys (octs ns) → Q (.ref D) { s₁ with heap := h, toks := tk }

theorem octs_take_succ {ns : List Int} {i : Nat} {n : Int} (h : ns[i]? = some n) : octs (ns.take (i + 1)) = octs (ns.take i) ++ [n / 256, n % 256] := by
  unfold octs
  rw [List.take_add_one, h, List.flatMap_append]
  rfl
theorem octs_len (ns : List Int) : (octs ns).length = 2 * ns.length := by
  unfold octs
  induction ns with
  | nil => rfl
  | cons a r ih => rw [List.flatMap_cons, List.length_append, ih, List.length_cons, List.length_cons, List.length_cons, List.length_nil]; omega
theorem ints_get {vs : List Value} {ns : List Int} (h : IntsAre vs ns) {i : Nat} (hi : i < ns.length) : ∃ n t, ns[i]? = some n ∧ vs[i]? = some (.int n t) := by
  induction h generalizing i with
  | nil => exact absurd hi (Nat.not_lt_zero _)
  | cons n t _ ih =>
    cases i with
    | zero => exact ⟨n, t, rfl, rfl⟩
    | succ i => exact ih (Nat.lt_of_succ_lt_succ hi)

set_option maxHeartbeats 1000000 in
theorem nc_ListComp {i1 i2 : PySem.Expr} {na nb : PySem.Str} {pa pb pe : Pos} {scope : Scope} {cl : List (PySem.Str × Addr)} {pos : Pos} {env : Env} {h₀ : Heap} {L : Nat} {m : PySem.Str → Option Value} {Q : Value → Shared → Prop}
    (hclos : closureFor scope env = pure cl) (hcell : ∀ y ∈ scope.names, y.2 ≠ .cell) (hkind : scope.kind = .function)
    (hnames : ∀ y ∈ scope.names, y.2 = .local → scope.names.lookup y.1 = some .local) (hxa : scope.names.lookup na = some .local) (hxb : scope.names.lookup nb = some .local) (hdb : (nb == ("__debug__" : PySem.Str)) = false) (hh : A.handled = none) (_F₀ : Fr h₀ L s.heap m)
    (hi2 : ∀ {A' : Around} (g : Shared) (C : Nat) (m₂ : PySem.Str → Option Value) (n : Int) (t : Tok) (E' : Value → Shared → Prop), 0 ≤ n → n < 65536 → g.heap.Ns C m₂ → m₂ na = some (.int n t) →
      wpAny (model prog w) A' (eval i2 (compEnvC scope cl C env)) (fun v g' => ∃ t' u' k', v = .ref g.heap.objs.size ∧ g' = { g with heap := g.heap.push { cls := .type "tuple", data := .seq #[.int (n / 256) t', .int (n % 256) u'] }, toks := k' }) E' g)
    (hs2 : ∀ C x, foldedSetIterable i2 (compEnvC scope cl C env) x = pure x)
    (h : wpAny (model prog w) A (eval i1 env) (NcSrc h₀ L m Q) E s)
    (hs : ∀ x, foldedSetIterable i1 env x = pure x := by intro _; rfl) :
    wpAny (model prog w) A (eval (NcE (.Name nb pe) (.Name na pa) i1 (.Name nb pb) i2 scope pos) env) Q E s := by
  rw [eval_ListComp]
  refine wpAny_comprehension_free (use := none) rfl hs hclos hkind hnames (wpAny_mono h (fun xv s₁ h₁ => ?_) fun _ _ e => e)
  obtain ⟨W, vs, ns, k₀, news, rfl, F, N, hW, hi, hlen, hns, fin⟩ := h₁
  have LW : s₁.heap.IsList W vs.toArray := ⟨_, (N _ hW).1, rfl, _, rfl⟩
  refine wpAny_pyIter_list LW ?_
  refine wpAny_newObj_type (wpAny_newFunctionEnv hcell (by intro y hy; simp at hy) (fun h₁ hns₁ hsb₁ => ?_) hkind)
  dsimp only at hns₁ hsb₁ ⊢
  obtain ⟨z0, hz0⟩ : ∃ z : Nat, z = s₁.heap.objs.size := ⟨_, rfl⟩
  generalize hH1 : s₁.heap.push { cls := .type "list_iterator", data := .fields #[.ref W, .int 0 0] } = H1 at hns₁ hsb₁ ⊢
  have hH1s : H1.objs.size = z0 + 1 := by rw [← hH1, Heap.size_push, hz0]
  generalize hH2 : H1.push { cls := .type "list", dict := none, data := .seq ([] : List Value).toArray } = H2 at hns₁ hsb₁ ⊢
  have hH2s : H2.objs.size = z0 + 2 := by rw [← hH2, Heap.size_push, hH1s]
  rw [hH2s] at hns₁ hsb₁ ⊢
  rw [hH1s, ← hz0]
  have old : ∀ (c : Nat) o, c < z0 + 2 → H2.get? c = some o → h₁.get? c = some o := fun c o hc e => by
    have c1 : c ≠ z0 + 2 := by omega
    exact hsb₁.extBut c o c1 (Heap.get?_push_of_some _ e)
  have hz1 : h₁.IsListIter z0 W 0 := ⟨_, old z0 _ (by omega) (hH2 ▸ Heap.get?_push_of_some _ (hH1 ▸ hz0 ▸ Heap.get?_push_size _ rfl)), rfl, rfl⟩
  have hacc : h₁.get? (z0 + 1) = some (lst []) := old _ _ (by omega) (hH2 ▸ hH1s ▸ Heap.get?_push_size _ rfl)
  have old0 : ∀ (c : Nat) o, s₁.heap.get? c = some o → h₁.get? c = some o := fun c o e => by
    have q : @LT.lt Nat _ c s₁.heap.objs.size := Heap.lt_size e
    exact old c o (by omega) (hH2 ▸ Heap.get?_push_of_some _ (hH1 ▸ Heap.get?_push_of_some _ e))
  have hWl : @LT.lt Nat _ W z0 := by rw [hz0]; exact Heap.lt_size (N _ hW).1
  have LW1 : h₁.IsList W vs.toArray := ⟨_, old0 _ _ (N _ hW).1, rfl, _, rfl⟩
  have hL : @LT.lt Nat _ L z0 := by
    obtain ⟨oL, eL, _⟩ := ns_obj F.ns
    rw [hz0]
    exact Heap.lt_size eL
  have loop : ∀ s₃ : Shared, s₃ = { s₁ with heap := h₁, toks := s₁.toks + ([] : List (PySem.Str × Value)).length } →
      codeAny (model prog w) A (.compLoop (NcE (.Name nb pe) (.Name na pa) i1 (.Name nb pb) i2 scope pos) 0 (.ref z0) (.ref (z0 + 1)) (compEnvC scope cl (z0 + 2) env))
        (compPost (model prog w) A E none Q (.ref (z0 + 1)) (z0 + 2)) s₃ := by
    rintro s₃ rfl
    refine codeAny_loop rfl (fun k s' => ∃ h' tk i ys m', s' = { s₁ with heap := h', toks := tk } ∧ i ≤ ns.length ∧ k = ns.length + 1 - i ∧
        IntsAre ys (octs (ns.take i)) ∧ h'.IsListIter z0 W i ∧ 
        (∀ (c : Nat) o, c < z0 → s₁.heap.get? c = some o → h'.get? c = some o) ∧ h'.Ns (z0 + 2) m' ∧ h'.get? (z0 + 1) = some (lst ys)) ?_ (ns.length + 1)
      ⟨h₁, _, 0, [], _, rfl, Nat.zero_le _, rfl, .nil, hz1, fun c o hc e => old0 c o e, hns₁, hacc⟩
    rintro k s' ⟨h', tk, i, ys, m', rfl, hi', rfl, hys, Z', K', hn', hD'⟩
    show wpAny _ A ((compTurn (NcE (.Name nb pe) (.Name na pa) i1 (.Name nb pb) i2 scope pos) 0 (.ref z0) (.ref (z0 + 1)) (compEnvC scope cl (z0 + 2) env)).onRaise (fun x => do noteFrame x (compEnvC scope cl (z0 + 2) env); theTreesLotGoes x)) _ _ _
    refine wpAny_noted ?_
    rw [nc_turn0]
    refine wpAny_bind (wpAny_standAt (wpAny_bind ?_))
    have LW' : h'.IsList W vs.toArray := ⟨_, K' W _ hWl (N _ hW).1, rfl, _, rfl⟩
    by_cases hlt : i < ns.length
    · obtain ⟨n, t, hn, hv⟩ := ints_get hi hlt
      have hnr := hns n (List.mem_of_getElem? hn)
      refine wpAny_pyNext_list_item Z' LW' (x := .int n t) (by simpa using hv) fun h₂ Z₂ hs₂ => ?_
      have up₂ : ∀ (c : Nat) o, c ≠ z0 → h'.get? c = some o → h₂.get? c = some o := fun c o hc e => hs₂.extBut c o hc e
      refine wpAny_bind (wpAny_of_eq (a := ()) rfl ?_)
      have hn₂ : h₂.Ns (z0 + 2) m' := hn'.at' fun o e => up₂ (z0 + 2) o (by omega) e
      refine wpAny_bind (wpAny_assign_Name (wpAny_storeName_local (env := compEnvC scope cl (z0 + 2) env) (lookup_relabel_local hxa) hn₂ (fun h₃ hn₃ hs₃ => ?_) (by simp [compEnvC, relabel, hkind])))
      have up₃ : ∀ (c : Nat) o, c ≠ z0 + 2 → h₂.get? c = some o → h₃.get? c = some o := fun c o hc e => hs₃.extBut c o hc e
      refine wpAny_bind (wpAny_mono (hi2 _ (z0 + 2) _ n t _ hnr.1 hnr.2 hn₃ (if_pos rfl)) (fun v g' hv => ?_) fun _ _ e => e)
      obtain ⟨t', u', k', rfl, rfl⟩ := hv
      dsimp only
      obtain ⟨oC, eC, _⟩ := ns_obj hn₃
      have z4 : @LT.lt Nat _ (z0 + 2) h₃.objs.size := Heap.lt_size eC
      obtain ⟨T, hT⟩ : ∃ T : Nat, T = h₃.objs.size := ⟨_, rfl⟩
      rw [← hT] at z4 ⊢
      generalize hH4 : h₃.push { cls := .type "tuple", data := .seq #[.int (n / 256) t', .int (n % 256) u'] } = h₄
      have up₄ : ∀ (c : Nat) o, h₃.get? c = some o → h₄.get? c = some o := fun c o e => hH4 ▸ Heap.get?_push_of_some _ e
      have hT₄ : h₄.IsTuple T #[.int (n / 256) t', .int (n % 256) u'] := ⟨_, hH4 ▸ hT ▸ Heap.get?_push_size _ rfl, rfl, _, rfl⟩
      have h4s : h₄.objs.size = T + 1 := by rw [← hH4, Heap.size_push, hT]
      refine wpAny_bind (wpAny_standAt (wpAny_bind (wpAny_of_eq (hs2 (z0 + 2) _) (wpAny_bind (wpAny_holding ?_)))))
      refine wpAny_pyIter_tuple hT₄ ?_
      dsimp only
      rw [h4s]
      generalize hH5 : h₄.push { cls := .type "tuple_iterator", data := .fields #[.ref T, .int 0 0] } = h₅
      have up₅ : ∀ (c : Nat) o, h₄.get? c = some o → h₅.get? c = some o := fun c o e => hH5 ▸ Heap.get?_push_of_some _ e
      have hit₅ : h₅.IsTupleIter (T + 1) T 0 := ⟨_, hH5 ▸ h4s ▸ Heap.get?_push_size _ rfl, rfl, rfl⟩
      have hT₅ : h₅.IsTuple T #[.int (n / 256) t', .int (n % 256) u'] := by
        obtain ⟨o, e, r⟩ := hT₄
        exact ⟨o, up₅ _ _ e, r⟩
      have hn₅ : h₅.Ns (z0 + 2) _ := hn₃.at' fun o e => up₅ _ o (up₄ _ o e)
      have hD₅ : h₅.get? (z0 + 1) = some (lst ys) := up₅ _ _ (up₄ _ _ (up₃ (z0 + 1) _ (by omega) (up₂ (z0 + 1) _ (by omega) hD')))
      have Z₅ : h₅.IsListIter z0 W (i + 1) := by
        obtain ⟨o, e, r⟩ := Z₂
        exact ⟨o, up₅ _ _ (up₄ _ _ (up₃ z0 _ (by omega) e)), r⟩
      have hyl : ys.length ≤ 1000 := by rw [hys.length, octs_len, List.length_take]; omega
      have lp : ∀ {A' : Around} {R' : Result → Shared → Prop} {tk'}, A'.handled = none → (∀ h' tk m₃ t' u', (∀ (c : Nat) o, c ≠ T + 1 → c ≠ z0 + 2 → c ≠ z0 + 1 → h₅.get? c = some o → h'.get? c = some o) → h'.Ns (z0 + 2) m₃ → h'.get? (z0 + 1) = some (lst (ys ++ [.int (n / 256) t', .int (n % 256) u'])) → R' (.ok .next) { s₁ with heap := h', toks := tk }) →
          codeAny (model prog w) A' (.compLoop (NcE (.Name nb pe) (.Name na pa) i1 (.Name nb pb) i2 scope pos) 1 (.ref (T + 1)) (.ref (z0 + 1)) (compEnvC scope cl (z0 + 2) env)) R' { s₁ with heap := h₅, toks := tk' } := by
        intro A' R' tk' hh' hR'
        exact nc_inner hh' hkind hxb hdb hit₅ hT₅ hn₅ hD₅ hyl (by omega) (by omega) (by omega) (by omega) (by omega) (by omega) hR'
      refine wpAny_bind (wpAny_runOwn (nc_start2 hit₅ (lp hh fun h' tk m₃ t' u' K₆ hn₆ hD₆ => ?_)))
      refine wpAny_pure ⟨rfl, ns.length + 1 - (i + 1), by omega, h', tk, i + 1, _, m₃, rfl, hlt, rfl, ?_, ?_, ?_, hn₆, hD₆⟩
      · rw [octs_take_succ hn]
        exact hys.append (.cons _ _ (.cons _ _ .nil))
      · obtain ⟨o, e, r⟩ := Z₅
        exact ⟨o, K₆ z0 o (by omega) (by omega) (by omega) e, r⟩
      · exact fun c o hc e => K₆ c o (by omega) (by omega) (by omega) (up₅ _ _ (up₄ _ _ (up₃ c _ (by omega) (up₂ c _ (by omega) (K' c o hc e)))))
    · obtain rfl : i = ns.length := by omega
      refine wpAny_pyNext_list_end hh Z' LW' (by rw [List.getElem?_toArray]; exact List.getElem?_eq_none (Nat.le_of_eq hi.length)) fun h₂ k₂ => ?_
      have k₂' : ∀ (c : Nat) o, c ≠ z0 → h'.get? c = some o → h₂.get? c = some o := k₂
      refine wpAny_pure ?_
      refine ⟨m', hn'.at' fun o e => k₂' (z0 + 2) o (by omega) e, fun h₃ hs₃ => ?_⟩
      have up : ∀ (c : Nat) o, c < z0 → s₁.heap.get? c = some o → h₃.get? c = some o := fun c o hc e => by
        have c1 : c ≠ z0 + 2 := by omega
        exact hs₃.extBut c o c1 (k₂' c o (by omega) (K' c o hc e))
      have F₃ : Fr h₀ L h₃ m := ⟨F.ns.at' fun o e => up _ o hL e, fun c o e => up c o (Nat.lt_of_lt_of_le (Heap.lt_size e) (Nat.le_trans F.above (Nat.le_of_lt hL))) (F.keep c o e), F.above⟩
      have hD₃ : h₃.get? (z0 + 1) = some (lst ys) := by
        have c1 : z0 + 1 ≠ z0 + 2 := by omega
        exact hs₃.extBut _ _ c1 (k₂' (z0 + 1) _ (by omega) hD')
      have hN : ∀ p ∈ news, @LT.lt Nat _ p.1 z0 := fun p hp => hz0 ▸ Heap.lt_size (N p hp).1
      rw [List.take_length] at hys
      refine fin (z0 + 1) h₃ tk ys F₃ (fun p hp => ?_) (fun p hp => Nat.lt_of_lt_of_le (hN p hp) (Nat.le_add_right _ _)) hys
      rcases List.mem_cons.mp hp with rfl | hp
      · refine ⟨hD₃, ?_, ?_⟩
        · show z0 + 1 ≠ L
          omega
        · cases e : h₀.get? (z0 + 1) with
          | none => rfl
          | some o =>
            have q1 : @LT.lt Nat _ (z0 + 1) h₀.objs.size := Heap.lt_size e
            have q2 : @LE.le Nat _ h₀.objs.size L := F.above
            omega
      · exact ⟨up _ _ (hN p hp) (N p hp).1, (N p hp).2⟩
  exact codeAny_compStart_list (loop _ rfl) (wpAny_pyIter_listiter hz1 (loop _ rfl))
end
end Mine
end
section
open PySem PySem.W PyProof.Rows PyProof.Rows.LCg
set_option maxRecDepth 100000
namespace Mine
theorem octs_in {ns : List Int} (h : ∀ n ∈ ns, 0 ≤ n ∧ n < 65536) : KBa.In (octs ns) := by
  intro x hx
  obtain ⟨n, hn, hx⟩ := List.mem_flatMap.mp hx
  have := h n hn
  rcases List.mem_cons.mp hx with rfl | hx
  · omega
  · rcases List.mem_cons.mp hx with rfl | hx
    · omega
    · cases hx
theorem lo_tuple {prog : Program} {w : World} {A : Around} {E : Value → Shared → Prop} {scope : Scope} {cl : List (PySem.Str × Addr)} {env : Env} {na : PySem.Str} {pa pb pc p1 p2 p3 pd : Pos} {kk k2 kt : Nat} {g : Shared} {C : Nat} {m₂ : PySem.Str → Option Value} {n : Int} {t : Tok}
    (hkind : scope.kind = .function) (hxa : scope.names.lookup na = some .local) (hda : (na == ("__debug__" : PySem.Str)) = false)
    (h0 : 0 ≤ n) (hn : g.heap.Ns C m₂) (ha : m₂ na = some (.int n t)) :
    wpAny (model prog w) A (eval (.Tuple [.BinOp (.Name na pa) .FloorDiv (.Constant (.int 256) kk pc) p1, .BinOp (.Name na pb) .Mod (.Constant (.int 256) k2 pd) p2] kt p3) (compEnvC scope cl C env))
      (fun v g' => ∃ t' u' k', v = .ref g.heap.objs.size ∧ g' = { g with heap := g.heap.push { cls := .type "tuple", data := .seq #[.int (n / 256) t', .int (n % 256) u'] }, toks := k' }) E g := by
  have hk' : (compEnvC scope cl C env).scope.kind = .function := by simp [compEnvC, relabel, hkind]
  rw [← Int.fdiv_eq_ediv_of_nonneg n (b := 256) (by decide), ← Int.fmod_eq_emod_of_nonneg n (b := 256) (by decide)]
  refine wpAny_Tuple (wpAny_items_cons (wpAny_BinOp (wpAny_Name (wpAny_loadName_local hk' (lookup_relabel_local hxa) hn ha ?_) hda)))
  refine wpAny_Constant_int ?_
  refine floordiv_int (by decide) ?_
  refine wpAny_items_cons (wpAny_BinOp (wpAny_Name (wpAny_loadName_local hk' (lookup_relabel_local hxa) hn ha ?_) hda))
  refine wpAny_Constant_int ?_
  refine mod_int' (by decide) ?_
  refine wpAny_items_nil ?_
  refine ⟨by show 2 ≤ sizeLine; rw [sizeLine_eq]; decide, _, _, _, rfl, rfl⟩
local macro_rules | `(tactic| walk_at "eval ListComp") => `(tactic| (k_here; (rename Fr _ _ _ _ => F9); k_dflt (refine' nc_ListComp ?c1 ?c2 ?c3 ?c4 ?c5 ?c6 ?c7 ?c8 F9 ?helt ?hs2 ?hsrc ?c9; (case c9 => intro _; rfl); (case hs2 => intro _ _; rfl); (case c1 => rfl); (case c2 => decide); (case c3 => rfl); (case c4 => decide); (case c5 => rfl); (case c6 => rfl); (case c7 => decide); (case c8 => rfl); (case helt => intro A' g C m₂ n t E' h0 h1 hn ha; exact lo_tuple (by rfl) (by rfl) (by decide) h0 hn ha))))
local macro_rules | `(tactic| walk_at "call type:bytes") => `(tactic| (k_here; (with_reducible show wpAny _ _ (call (Value.type "bytes") [Value.ref _]) _ _ _); k_dflt (refine' KBa.make_K ?kbaF ?kbaN ?kbah ?kbal ?kbai ?kbar ?kban ?_; (case kbaF => k_asm); (case kbaN => k_asm); (case kbah => rfl); (case kbal => exact lst_isList (by assumption)); (case kbai => assumption); (case kbar => exact octs_in (by assumption)); (case kban => (rw [octs_len]; omega))); intro _ _ _ F' N' kbaIn))
set_option maxHeartbeats 4000000 in
theorem lo_call {w : World} {mean : ExcName → Option Value} {mg mb : Str → Option Value} {dp un : Nat} {gd : Option (List Code)} {cn : Str} {cs : Scope} {a : Addr} {ccd : Value} {cl : List (Str × Addr)} {outer : List Env} {A₀ : Around} {base h₀ : Heap} {L : Addr} {m : Str → Option Value} {news : List (Addr × Obj)} {s : Shared} {Q E : Value → Shared → Prop}
    {D : Addr} {vs : List Value} {ns : List Int} {k : Nat} (B : Below A₀ base outer h₀) (F : Fr h₀ L s.heap m) (X : (hd.heap_39 w.params).In h₀) (N : News h₀ L s.heap news) (T : Top hd.view_39 (looseW hd.view_39 []) mean mg mb h₀) (hk : cs.kind = .function)
    (hd' : dp + 1 < recursionLimit) (hu : un + 8 < cLine) (hm : (D, ({ cls := .type "list", data := .seq vs.toArray k } : Obj)) ∈ news) (hi : IntsAre vs ns) (hn : ∀ n ∈ ns, 0 ≤ n ∧ n < 65536) (hz : ns.length ≤ 32)
    (ret : ∀ (b : Array UInt8) t h' tk', KBw.bInts b = octs ns → Fr h₀ L h' m → News h₀ L h' news → Q (.bytes b t) { s with heap := h', toks := tk' }) :
    wpAny (model PySem.Challenge.rw_bi0008_01.row.prog w) (ktrTop dp un gd cn cs L a ccd cl outer) (call (.ref 38) [.ref D]) Q E s := by
  revert X
  k_fill
  intro X
  refine wpAny_call ?_
  k_dflt cell_enter
  k_steps
  rename Fr _ _ _ _ => F9
  rename News _ _ _ _ => N9
  refine ⟨D, vs, ns, k, news, rfl, F9, N9, hm, hi, by omega, hn, ?_⟩
  intro D8 h8 tk8 ys8 F8 N8 l8 i8
  (try dsimp only)
  k_steps
  k_dflt (refine' KBa.make_K F8 N8 ?kbah ?kbal i8 ?kbar ?kban ?_)
  (case kbah => rfl)
  (case kbal => exact News.isList N8 (by k_mem))
  (case kbar => exact octs_in (by assumption))
  (case kban => (rw [octs_len]; omega))
  intro _ _ _ F' N' kbaIn
  k_steps
  refine' ret _ _ _ _ (KBa.ints_make (octs_in hn)) ?F (cb_drop ?N ?S)
  (case F => k_asm)
  (case N => k_asm)
  (case S => kcj_all)
end Mine
end
section
open PySem PySem.W PyProof.Rows
set_option maxRecDepth 100000
namespace Mine
open PySem.Builtin
open PySem.Sem (wp)
theorem mro_ba : mroOf (.type "bytearray") = pure [.type "bytearray", .type "object"] := by rw [mroOf_type]; kernel_rfl
theorem look_ba_new : typeLookup (.type "bytearray") "__new__" = pure (some (.builtin "bytearray.__new__")) := by rw [typeLookup_type, builtinLookup_eq_fast]; kernel_rfl
theorem slot_ba_init : Slot "bytearray" "__init__" "bytearray.__init__" :=
  .of (owner := "bytearray") (n := "__init__") (by rw [typeLookup_type, builtinLookup_eq_fast]; kernel_rfl) (by decide +kernel) (by decide +kernel) (by decide +kernel)
    (by first | exact .inl (by decide +kernel) | exact .inr (by decide +kernel)) (by rw [isSubtype_type]; kernel_rfl)
theorem called_ba : TypeCalled "bytearray" "bytearray.__new__" "bytearray.__init__" :=
  ⟨by decide +kernel, by decide +kernel, ⟨_, _, mro_ba⟩, madeBy_type mro_ba look_ba_new (by decide +kernel), by decide +kernel, by rw [isSubtype_type]; kernel_rfl, slot_ba_init⟩
theorem typeCall_ba (a : Value) : checkTypeCall "bytearray" ⟨[a], []⟩ = pure () := by kernel_rfl
theorem newCall_ba (a : Value) : checkBuiltinCall "bytearray.__new__" ⟨[.type "bytearray", a], []⟩ = pure () := by kernel_rfl
theorem entry_ba_new : entryFor table "bytearray.__new__" = some Builtin.«list.__new__» :=
  entryFor_alias (id' := "list.__new__") (by kernel_rfl) (by first | rfl | decide +kernel | (unfold String.splitOn; simp +decide [String.splitOnAux])) (by decide +kernel) (by kernel_rfl)
theorem plain_ba_new : plainId "bytearray.__new__" = true := by decide +kernel
theorem entry_ba_init : entryFor table "bytearray.__init__" = some Builtin.«bytearray.__init__» := entryFor_of_tree (by kernel_rfl)
theorem owner_ba : PySem.Manifest.owners.lookup (String.ofList ['y', 'a', 'r', 'r', 'a', 'e', 't', 'y', 'b'].reverse) = some PySem.Manifest.sig_bytearray := by kernel_rfl
theorem args_ba_init (a b : Value) : argsOk "bytearray.__init__" ⟨[a, b], []⟩ := by
  unfold argsOk; rw [signature?_of (id := "bytearray.__init__") (n := ['_', '_', 't', 'i', 'n', 'i', '_', '_']) (o := ['y', 'a', 'r', 'r', 'a', 'e', 't', 'y', 'b']) (by kernel_rfl) owner_ba]; kernel_rfl
set_option maxRecDepth 1000000 in
set_option maxHeartbeats 4000000 in
theorem owner_ba_new : ("bytearray.__new__".splitOn ".__new__").headD "" = "bytearray" := by simp +decide [String.splitOn, String.splitOnAux]
section
variable {prog : Program} {w : World} {A : Around} {E : Value → Shared → Prop} {s : Shared} {b : Array UInt8} {t : Tok}
theorem code_ba_new (a : Value) {Q₁ : Value → Shared → Prop}
    (h : Q₁ (.ref s.heap.objs.size) { s with heap := s.heap.push { cls := .type "bytearray", data := .bytearray #[] } }) :
    codeAny (model prog w) A (.call (.builtin "bytearray.__new__") ⟨[.type "bytearray", a], []⟩) (wants Q₁ E) s := by
  refine codeAny_of_tree ?_
  show wpAny _ A.in1 (do checkBuiltinCall "bytearray.__new__" ⟨[.type "bytearray", a], []⟩; again (.builtin "bytearray.__new__" ⟨[.type "bytearray", a], []⟩)) _ _ s
  refine wpAny_bind (wpAny_of_eq (newCall_ba a) (wpAny_pure ⟨plainId_quiet plain_ba_new _, codeAny_builtin_stack entry_ba_new rfl fun p st => ?_⟩))
  rw [Around.under_plainId plain_ba_new _]
  have hsub := sub_ba
  have hown := owner_ba_new
  obtain ⟨hp, g, d, tk, os⟩ := s
  simp only [hown]
  wp_walk
  exact h
theorem not_held {id : String} {args : Args} (h : holder (.builtin id args) = false) : (["bytearray.__contains__", "bytearray.__mod__", "bytearray.__rmod__", "_struct.pack_into.held", "bytearray.find.held"] ++ Bytes.decodersThatHold).contains id = false := h
theorem wpC_exported {M : Model} {D : Addr} {Q : Bool → Shared → Prop} (h : Q false s) : wpC M A (Bytes.exported (.ref D)) Q E s := fun Γ p hΓ hC => by
  have k : ∀ b : Bool, b = false → Q b s := by
    rintro _ rfl
    exact h
  unfold Bytes.exported
  show Sem.wp _ Γ (Sem.bind stack _) _ _ p s
  unfold stack
  rw [Sem.wp_bind, Sem.wp_stack]
  show Q (List.any ((Γ.code, p) :: Γ.below) _) s
  refine k _ ?_
  rw [List.any_eq_false]
  intro x hx
  have hx : holder x.1 = false := by
    rcases List.mem_cons.mp hx with rfl | hx
    · exact hC.own
    · exact hC.below x hx
  rw [Bool.not_eq_true]
  revert hx
  split <;> intro hx
  · exact absurd (not_held hx) (by decide +kernel)
  · exact absurd (not_held hx) (by decide +kernel)
  · exact absurd (not_held hx) (by decide +kernel)
  · exact absurd (not_held hx) (by decide +kernel)
  · exact absurd (not_held hx) (by decide +kernel)
  · have q := not_held hx
    rw [List.contains_append, Bool.or_eq_false_iff] at q
    rw [q.2, Bool.and_false]
  · rfl
theorem codeC_call_builtin {id : String} {args : Args} {b : Builtin} {R : Result → Shared → Prop} (hq : plainId id = true) (hb : entryFor table id = some b) (ho : holder (.builtin id args) = false)
    (h : wpAny (model prog w) A.in1 (checkBuiltinCall id args) (fun _ s₁ => wpC (model prog w) A.in1 (b args)
      (fun fin s' => ∃ f, fin = .done f ∧ R (.ok f) s') (fun e s' => R (.error e) s') s₁)
      (fun e s' => R (.error e) s') s) : codeC (model prog w) A (.call (.builtin id) args) R s := by
  refine codeC_of_tree rfl ?_
  show wpC _ A.in1 (do checkBuiltinCall id args; again (.builtin id args)) _ _ s
  refine wpC_seq (wpAny_mono h (fun _ s₁ h₁ => wpC_pure (And.intro (plainId_quiet hq args) (codeC_of_tree ho ?_))) fun _ _ h' => h')
  rw [Around.under_plainId hq args]
  show wpC _ _ (match entryFor table id with | some b => b args | none => unsupported ((withoutEnding? id "#data").getD id)) _ _ s₁
  rw [hb]
  refine wpC_mono h₁ (fun fin s' h' => ?_) fun _ _ e => e
  obtain ⟨f, rfl, h'⟩ := h'
  exact h'
end
end Mine
end
section
open PySem PySem.W PyProof.Rows
set_option maxRecDepth 100000
namespace Mine
open PySem.Builtin
section
variable {prog : Program} {w : World} {A : Around} {E : Value → Shared → Prop} {s : Shared} {b : Array UInt8} {t : Tok}
theorem ifC_no {α : Type} {M : Model} {c : Bool} {x y : Sem α} {Q : α → Shared → Prop} (hc : c = false) (h : wpC M A y Q E s) : wpC M A (if c = true then x else y) Q E s := by
  subst hc
  exact h
theorem ifC_yes {α : Type} {M : Model} {c : Bool} {x y : Sem α} {Q : α → Shared → Prop} (hc : c = true) (h : wpC M A x Q E s) : wpC M A (if c = true then x else y) Q E s := by
  subst hc
  exact h
theorem ofEqC {α β : Type} {M : Model} {m : Sem α} {a : α} {f : α → Sem β} {Q : β → Shared → Prop} (e : m = pure a) (h : wpC M A (f a) Q E s) : wpC M A (m >>= f) Q E s := by
  subst e
  exact wpC_seq (wpAny_pure h)
theorem codeC_builtin {id : String} {args : Args} {b : Builtin} {R : Result → Shared → Prop} (hb : entryFor table id = some b) (ho : holder (.builtin id args) = false)
    (h : wpC (model prog w) (A.under (.builtin id args)) (b args)
      (fun fin s' => match fin with | .done f => R (.ok f) s' | .again c' => c'.quiet = true ∧ codeC (model prog w) A c' R s') (fun e s' => R (.error e) s') s) :
    codeC (model prog w) A (.builtin id args) R s := by
  refine codeC_of_tree ho ?_
  show wpC _ _ (match entryFor table id with | some b => b args | none => unsupported ((withoutEnding? id "#data").getD id)) _ _ s
  rw [hb]; exact h
theorem not_holder {id : String} {args : Args} (h : (["bytearray.__contains__", "bytearray.__mod__", "bytearray.__rmod__", "_struct.pack_into.held", "bytearray.find.held"] ++ Bytes.decodersThatHold).contains id = false) : holder (.builtin id args) = false := h
theorem callTypeC {T newId initId : String} {Bi : Builtin} {args : List Value} {Q Q₁ : Value → Shared → Prop} (ft : TypeCalled T newId initId)
    (hct : checkTypeCall T ⟨args, []⟩ = pure ()) (entryI : entryFor table initId = some Bi) (ho : ∀ as, holder (.builtin initId as) = false)
    (hnew : codeAny (model prog w) A.in1 (.call (.builtin newId) ⟨.type T :: args, []⟩) (wants Q₁ E) s)
    (hnext : ∀ obj s₁, Q₁ obj s₁ → s₁.TypeIs obj T ∧ argsOk initId ⟨obj :: args, []⟩ ∧
      wpC (model prog w) A.in1.in1 (Bi ⟨obj :: args, []⟩) (fun fin s' => fin = .done (.ret .none) ∧ Q obj s') E s₁) :
    wpC (model prog w) A (call (.type T) args) Q E s := by
  obtain ⟨c, tl, hmro⟩ := ft.mro
  refine wpC_call (codeC_of_tree rfl ?_)
  show wpC _ _ (callAny (.type T) _) _ _ _
  refine wpC_pure ⟨Code.quiet_builtin _ (by decide +kernel), codeC_builtin F.entry_type_call (not_holder (by decide +kernel)) ?_⟩
  rw [Around.under_plain (weight_type_call_type T args []) rfl]
  show wpC _ _ (Builtin.«type.__call__» ⟨.type T :: args, []⟩) _ _ _
  unfold Builtin.«type.__call__»
  refine ifC_no ft.notType ?_
  refine ifC_no ft.canCreate ?_
  refine ofEqC hct ?_
  refine ofEqC hmro ?_
  refine ifC_no rfl ?_
  refine ofEqC ft.made ?_
  refine wpC_bind (wpC_pure ?_)
  refine wpC_bind (wpC_holding (wpC_call (codeC_of (codeAny_mono hnew fun r s₁ hr => ?_))))
  cases r with
  | error e => exact hr
  | ok fl =>
    cases fl with
    | ret obj =>
      obtain ⟨hT, hok, hsi⟩ := hnext _ _ hr
      dsimp only
      refine wpC_seq (wpAny_isInstance hT ft.sub ?_)
      refine ifC_no rfl ?_
      unfold callSpecial?
      refine wpC_bind (wpC_holding ?_)
      refine wpC_seq (wpAny_specialOf hT ft.init.lookup ?_)
      dsimp only
      refine wpC_holding ?_
      refine ofEqC (ft.init.bind obj) ?_
      dsimp only
      refine wpC_bind (wpC_call (codeC_call_builtin ft.init.plain entryI (ho _) (ft.init.check _ _ _ _ _ _ _ _ hT hok ?_)))
      refine wpC_mono hsi (fun fin s' hf => ?_) fun e s' he => he
      obtain ⟨rfl, hq⟩ := hf
      refine ⟨_, rfl, ?_⟩
      dsimp only
      refine wpC_pure ?_
      refine ifC_no rfl ?_
      refine wpC_pure ?_
      exact hq
    | _ => exact hr.elim
theorem look_bytes_index : typeLookup (.type "bytes") "__index__" = pure none := by rw [typeLookup_type, builtinLookup_eq_fast]; kernel_rfl
theorem ba_bind (v : Value) : Builtin.Bytes.bindOptional "bytearray.__init__" "bytearray" ["source", "encoding", "errors"] [v] [] = pure [some v, none, none] := by kernel_rfl
theorem write_ba {M : Model} {D : Addr} {b c : Array UInt8} {f : Array UInt8 → Array UInt8} {Q : Unit → Shared → Prop} (hD : s.heap.get? D = some { cls := .type "bytearray", data := .bytearray b }) (hf : f b = c) (hz : c.size ≤ 1000)
    (h : ∀ h', Heap.SameBut D s.heap h' → h'.get? D = some { cls := .type "bytearray", data := .bytearray c } → Q () { s with heap := h' }) : wpAny M A (Bytes.write (.ref D) f) Q E s := by
  subst hf
  show wpAny _ _ (updateBytearray D f) _ _ _
  unfold updateBytearray
  refine wpAny_bind (wpAny_load hD ?_)
  show wpAny _ _ (update D (Obj.mapBytearray f) >>= fun _ => lookBehind D) _ _ _
  refine wpAny_bind (wpAny_update hD ?_)
  have hS₂ : (s.heap.update D (Obj.mapBytearray f)).get? D = some { cls := .type "bytearray", data := .bytearray (f b) } := Heap.get?_update_self (Obj.mapBytearray f) hD rfl
  refine wpAny_lookBehind hS₂ ?_ (h _ (Heap.SameBut.update ..) hS₂)
  show (if (f b).size > sizeLine then some "bytearray:memory" else none) = none
  rw [if_neg]
  rw [sizeLine_eq]
  omega
theorem init_ba {D : Addr} {Q : Fin → Shared → Prop} (hD : s.heap.get? D = some { cls := .type "bytearray", data := .bytearray #[] }) (hz : b.size ≤ 1000)
    (h : ∀ h', Heap.SameBut D s.heap h' → h'.get? D = some { cls := .type "bytearray", data := .bytearray b } → Q (.done (.ret .none)) { s with heap := h' }) :
    wpC (model prog w) A (Builtin.«bytearray.__init__» ⟨[.ref D, .bytes b t], []⟩) Q E s := by
  have hT : s.TypeIs (.ref D) "bytearray" := ⟨_, hD, rfl⟩
  unfold Builtin.«bytearray.__init__»
  dsimp only
  refine wpC_bind (wpC_seq (own_of_ba hT look_ba_release (by decide +kernel) (by decide +kernel) (wpC_pure ?_)))
  refine ifC_no rfl ?_
  refine ofEqC (ba_bind _) ?_
  refine ofEqC (a := ()) rfl ?_
  refine ofEqC (a := ()) rfl ?_
  refine wpC_bind (wpC_bind (wpC_exported ?_))
  refine wpC_of ?_
  dsimp only [ToBool.toBool, Bool.false_eq_true, if_false]
  refine wpAny_bind ?_
  show wpAny _ _ (load D >>= _) _ _ _
  refine wpAny_bind (wpAny_load hD (wpAny_pure (wpAny_pure ?_)))
  refine wpC_of ?_
  refine bm_if_false (by decide) ?_
  refine wpAny_bind (write_ba hD (c := #[]) rfl (by decide) fun h₁ hs₁ hD₁ => ?_)
  try dsimp only
  refine wpAny_bind (wpAny_of_eq (a := none) rfl ?_)
  refine bm_if_false rfl ?_
  refine wpAny_bind (bm_if_false rfl (bm_if_false rfl (wpAny_pure ?_)))
  refine wpAny_bind (wpAny_of_eq (KBy.special_eq look_bytes_index) ?_)
  refine bm_if_false rfl ?_
  refine wpAny_bind (wpAny_of_eq KBy.buffer_eq ?_)
  dsimp only
  refine wpAny_bind (wpAny_rule ?_)
  refine wpAny_bind (write_ba hD₁ (c := b) rfl hz fun h₂ hs₂ hD₂ => ?_)
  refine wpAny_bind (wpAny_pure (wpAny_pure ?_))
  exact h h₂ (hs₁.trans hs₂) hD₂
theorem call_ba {h₀ : Heap} {L : Addr} {m : PySem.Str → Option Value} {news : List (Addr × Obj)} {Q : Value → Shared → Prop} (F : Fr h₀ L s.heap m) (N : News h₀ L s.heap news) (hz : b.size ≤ 1000)
    (ret : ∀ D h', Fr h₀ L h' m → News h₀ L h' ((D, ({ cls := .type "bytearray", data := .bytearray b } : Obj)) :: news) → Q (.ref D) { s with heap := h' }) :
    wpC (model prog w) A (call (.type "bytearray") [.bytes b t]) Q E s := by
  refine callTypeC (Q₁ := fun obj s₁ => obj = .ref s.heap.objs.size ∧ s₁ = { s with heap := s.heap.push { cls := .type "bytearray", data := .bytearray #[] } }) called_ba (typeCall_ba _) entry_ba_init (fun _ => not_holder (by decide +kernel))
    (code_ba_new _ ⟨rfl, rfl⟩) fun obj s₁ h₁ => ?_
  obtain ⟨rfl, rfl⟩ := h₁
  have hS : (s.heap.push { cls := .type "bytearray", data := .bytearray #[] }).get? s.heap.objs.size = some { cls := .type "bytearray", data := .bytearray #[] } := Heap.get?_push_size _ rfl
  refine ⟨⟨_, hS, rfl⟩, args_ba_init _ _, init_ba hS hz fun h' hs hD => ⟨rfl, ?_⟩⟩
  have N1 := N.push F { cls := .type "bytearray", data := .bytearray #[] }
  have hL : s.heap.objs.size ≠ L := (N1 _ (.head _)).2.1
  have old : ∀ c o, s.heap.get? c = some o → h'.get? c = some o := fun c o e =>
    hs.extBut c o (Nat.ne_of_lt (Heap.lt_size e)) (Heap.get?_push_of_some _ e)
  refine ret _ h' (F.keeps old) fun p hp => ?_
  rcases List.mem_cons.mp hp with rfl | hp
  · exact ⟨hD, (N1 _ (.head _)).2⟩
  · exact ⟨old _ _ (N p hp).1, (N p hp).2⟩
end
end Mine
end
section
open PySem PySem.W PyProof.Rows
namespace Mine
def lawBody : List Stmt := match PySem.Challenge.pw_bi0008_01.main.body with
  | [_, _, _, _, _, _, .FunctionDef _ _ b _ _ _ _ _ _ _] => b
  | _ => []
def lawScope : Scope := match PySem.Challenge.pw_bi0008_01.main.body with
  | [_, _, _, _, _, _, .FunctionDef _ _ _ _ _ _ sc _ _ _] => sc
  | _ => default
end Mine
end
section
open PySem PySem.W PyProof.Rows
namespace Mine
theorem fr_put {h₀ h : Heap} {L : Addr} {m : PySem.Str → Option Value} {x : PySem.Str} {v : Value} (F : Fr h₀ L h m) (e : m x = some v) : Fr h₀ L h (fun y => if y = x then some v else m y) := by
  have q : (fun y => if y = x then some v else m y) = m := by
    funext y
    by_cases hy : y = x
    · subst hy; rw [if_pos rfl, e]
    · rw [if_neg hy]
  rwa [q]
theorem put_at {m : PySem.Str → Option Value} {x y : PySem.Str} {v : Value} (e : m x = some v) : (if y = x then some v else m y) = m y := by
  by_cases h : y = x
  · subst h; rw [if_pos rfl, e]
  · rw [if_neg h]
section
variable {h₀ h : Heap} {L : Addr} {m : PySem.Str → Option Value} {x1 x2 x3 x4 x5 : PySem.Str} {v1 v2 v3 v4 v5 : Value}
theorem fr_put2 (F : Fr h₀ L h m) (e1 : m x1 = some v1) (e2 : m x2 = some v2) : Fr h₀ L h (fun y => if y = x2 then some v2 else if y = x1 then some v1 else m y) := fr_put (fr_put F e1) ((put_at e1).trans e2)
theorem fr_put3 (F : Fr h₀ L h m) (e1 : m x1 = some v1) (e2 : m x2 = some v2) (e3 : m x3 = some v3) : Fr h₀ L h (fun y => if y = x3 then some v3 else if y = x2 then some v2 else if y = x1 then some v1 else m y) :=
  fr_put (fr_put2 F e1 e2) (by rw [put_at e1, put_at e2]; exact e3)
theorem fr_put4 (F : Fr h₀ L h m) (e1 : m x1 = some v1) (e2 : m x2 = some v2) (e3 : m x3 = some v3) (e4 : m x4 = some v4) : Fr h₀ L h (fun y => if y = x4 then some v4 else if y = x3 then some v3 else if y = x2 then some v2 else if y = x1 then some v1 else m y) :=
  fr_put (fr_put3 F e1 e2 e3) (by rw [put_at e1, put_at e2, put_at e3]; exact e4)
theorem fr_put5 (F : Fr h₀ L h m) (e1 : m x1 = some v1) (e2 : m x2 = some v2) (e3 : m x3 = some v3) (e4 : m x4 = some v4) (e5 : m x5 = some v5) : Fr h₀ L h (fun y => if y = x5 then some v5 else if y = x4 then some v4 else if y = x3 then some v3 else if y = x2 then some v2 else if y = x1 then some v1 else m y) :=
  fr_put (fr_put4 F e1 e2 e3 e4) (by rw [put_at e1, put_at e2, put_at e3, put_at e4]; exact e5)
end
theorem news_cons {h₀ h : Heap} {L : Addr} {p : Addr × Obj} {l l' : List (Addr × Obj)} (N : News h₀ L h l) (hp : p ∈ l) (r : News h₀ L h l') : News h₀ L h (p :: l') := fun q hq => by
  rcases List.mem_cons.mp hq with rfl | hq
  · exact N q hp
  · exact r q hq
/-- a list's object -/
abbrev lobj (vs : List Value) (k : Nat) : Obj := { cls := .type "list", data := .seq vs.toArray k }
section
variable {prog : Program} {w : World} {A : Around} {s : Shared} {env : Env} {h₀ : Heap}
/-- the loop over a list of whole numbers that the body leaves alone -/
def FlAt (prog : Program) (w : World) (A : Around) (h₀ : Heap) (env : Env) (x : PySem.Str) (body : List Stmt) (Q : Flow → Shared → Prop) (xv : Value) (s₁ : Shared) : Prop :=
  ∃ (W : Addr) (vs : List Value) (ns : List Int) (k₀ : Nat) (news : List (Addr × Obj)) (m : PySem.Str → Option Value) (J : Nat → (PySem.Str → Option Value) → List (Addr × Obj) → Prop),
    xv = .ref W ∧ Fr h₀ env.locals s₁.heap m ∧ News h₀ env.locals s₁.heap news ∧ IntsAre vs ns ∧ J 0 m news ∧
    (∀ i m₁ news₁, J i m₁ news₁ → (W, lobj vs k₀) ∈ news₁ ∧ ∀ p ∈ news₁, ∀ xs, p.2.data ≠ .fields xs) ∧
    (∀ i n t I oI m₁ news₁ s₂ E', ns[i]? = some n → (∀ p ∈ news, @LT.lt Nat _ p.1 I) → J i m₁ news₁ → Fr h₀ env.locals s₂.heap (fun y => if y = x then some (.int n t) else m₁ y) → News h₀ env.locals s₂.heap ((I, oI) :: news₁) →
      wpAny (model prog w) A (execs body env) (fun f s₃ => f = .next ∧ ∃ h' tk m₂ news₂, s₃ = { s₂ with heap := h', toks := tk } ∧ Fr h₀ env.locals h' m₂ ∧ News h₀ env.locals h' ((I, oI) :: news₂) ∧ J (i + 1) m₂ news₂) E' s₂) ∧
    (∀ h' tk m' news', Fr h₀ env.locals h' m' → News h₀ env.locals h' news' → J ns.length m' news' → Q .next { s₁ with heap := h', toks := tk })

theorem for_list {E : Value → Shared → Prop} {Q : Flow → Shared → Prop} {x : PySem.Str} {px pos : Pos} {iter : PySem.Expr} {body : List Stmt} (h₀ : Heap) (hx : env.kindOf x = some .local)
    (hp : (env.scope.kind == .class || (env.scope.kind == .module && env.locals != env.globals)) = false) (hh : A.handled = none)
    (h : wpAny (model prog w) A (eval iter env) (FlAt prog w A h₀ env x body Q) E s)
    (hs : ∀ x, foldedSetIterable iter env x = pure x := by intro _; rfl) :
    wpAny (model prog w) A (exec (.For (.Name x px) iter body [] pos) env) Q E s := by
  refine wpAny_For (wpAny_mono h (fun xv s₁ h₁ => ?_) fun _ _ e => e) hs
  obtain ⟨W, vs, ns, k₀, news, m, J, rfl, F, N, hi, h0, hJ, step, fin⟩ := h₁
  have LW : s₁.heap.IsList W vs.toArray := ⟨_, (N _ (hJ _ _ _ h0).1).1, rfl, _, rfl⟩
  refine wpAny_pyIter_list LW ?_
  obtain ⟨I, hI⟩ : ∃ I : Addr, I = s₁.heap.objs.size := ⟨_, rfl⟩
  have above : ∀ p ∈ news, @LT.lt Nat _ p.1 I := fun p hp => hI ▸ Heap.lt_size (N p hp).1
  have N1 := N.push F { cls := .type "list_iterator", data := .fields #[.ref W, .int 0 0] }
  have F1 := F.push { cls := .type "list_iterator", data := .fields #[.ref W, .int 0 0] }
  have It1 : (s₁.heap.push { cls := .type "list_iterator", data := .fields #[.ref W, .int 0 0] }).IsListIter I W 0 := ⟨_, hI ▸ Heap.get?_push_size _ rfl, rfl, rfl⟩
  rw [← hI] at N1 ⊢
  have nI := (N1 _ (.head _)).2
  dsimp only at nI
  generalize s₁.heap.push { cls := .type "list_iterator", data := .fields #[.ref W, .int 0 0] } = H1 at N1 F1 It1 ⊢
  refine codeAny_forLoop (fun k s' => ∃ h' tk i m₁ news₁, s' = { s₁ with heap := h', toks := tk } ∧ i ≤ ns.length ∧ k = ns.length + 1 - i ∧ h'.IsListIter I W i ∧ Fr h₀ env.locals h' m₁ ∧ News h₀ env.locals h' news₁ ∧ J i m₁ news₁) ?_ (ns.length + 1)
    ⟨H1, s₁.toks, 0, m, news, rfl, Nat.zero_le _, rfl, It1, F1, fun p hp => N1 p (.tail _ hp), h0⟩
  rintro k s' ⟨h', tk, i, m₁, news₁, rfl, hle, rfl, It, F', N', J'⟩
  obtain ⟨mW, mC⟩ := hJ _ _ _ J'
  have LW' : h'.IsList W vs.toArray := ⟨_, (N' _ mW).1, rfl, _, rfl⟩
  have apart : ∀ p ∈ news₁, p.1 ≠ I := fun p hp e => by
    obtain ⟨o, ho, _, hd⟩ := It
    have := (N' p hp).1
    rw [e, ho] at this
    exact mC p hp _ ((Option.some.inj this) ▸ hd)
  have next : ∀ h₁ : Heap, (∀ c o, c ≠ I → h'.get? c = some o → h₁.get? c = some o) → Fr h₀ env.locals h₁ m₁ ∧ News h₀ env.locals h₁ news₁ := fun h₁ hk =>
    ⟨⟨F'.ns.at' fun o e => hk _ o (Ne.symm nI.1) e, fun c o e => hk c o (fun q => by rw [q, nI.2] at e; cases e) (F'.keep c o e), F'.above⟩,
     fun p hp => ⟨hk _ _ (apart p hp) (N' p hp).1, (N' p hp).2⟩⟩
  by_cases hlt : i < ns.length
  · obtain ⟨n, hn⟩ : ∃ n, ns[i]? = some n := ⟨_, List.getElem?_eq_getElem hlt⟩
    obtain ⟨t, hv⟩ := hi.get i n hn
    refine wpAny_pyNext_list_item It LW' (x := .int n t) (by simpa using hv) fun h₂ It₂ hs₂ => ?_
    obtain ⟨F₂, N₂⟩ := next h₂ fun c o hc e => hs₂.extBut c o hc e
    dsimp only
    refine wpAny_assign_Name (wpAny_storeName_local hx F₂.ns (fun h₃ hn₃ hs₃ => ?_) hp)
    have F₃ := F₂.set hn₃ hs₃
    obtain ⟨oI, eI, rI⟩ := It₂
    have N₃ : News h₀ env.locals h₃ ((I, oI) :: news₁) := fun p hp => by
      rcases List.mem_cons.mp hp with rfl | hp
      · exact ⟨(hs₃.2 _ nI.1).trans eI, nI⟩
      · exact N₂.set hs₃ p hp
    refine wpAny_mono (step i n t I oI m₁ news₁ { s₁ with heap := h₃, toks := _ } _ hn above J' F₃ N₃) (fun f s₃ h₃ => ?_) fun _ _ e => e
    obtain ⟨rfl, h₄, tk₄, m₂, news₂, rfl, F₄, N₄, J₄⟩ := h₃
    exact ⟨ns.length + 1 - (i + 1), by omega, h₄, tk₄, i + 1, m₂, news₂, rfl, hlt, rfl, ⟨oI, (N₄ _ (.head _)).1, rI⟩, F₄, fun p hp => N₄ p (.tail _ hp), J₄⟩
  · obtain rfl : i = ns.length := by omega
    refine wpAny_pyNext_list_end hh It LW' (by rw [List.getElem?_toArray]; exact List.getElem?_eq_none (Nat.le_of_eq hi.length)) fun h₂ k₂ => ?_
    obtain ⟨F₂, N₂⟩ := next h₂ fun c o hc e => k₂ c o hc e
    dsimp only
    refine wpAny_execs_nil ?_
    exact fin h₂ tk m₁ news₁ F₂ N₂ J'
end
end Mine
end
section
open PySem PySem.W PyProof.Rows
namespace Mine
theorem oct_le {X : Int} {Y : Nat} {f : Int → Int} {Z : List Int} : (byteArr (List.map f (List.take (min (4 + X.fmod 33).toNat Y - 4) Z))).size ≤ 32 := by
  rw [byteArr_size, List.length_map, List.length_take]
  have h := Int.fmod_nonneg_of_pos X (b := 33) (by decide)
  have h2 := Int.fmod_lt_of_pos X (b := 33) (by decide)
  omega
set_option maxRecDepth 100000 in
set_option maxHeartbeats 8000000 in
theorem segA {w : World} {mean : ExcName → Option Value} {mg mb : Str → Option Value} {h₀ : Heap} {L fa S : Addr} {cd : Value} {m : Str → Option Value} {s : Shared} {Q : Flow → Shared → Prop} {E : Value → Shared → Prop}
    {vs0 : List Value} {ns0 : List Int}
    (B : Below callerA h₀ [] h₀) (X : (hd.heap_39 w.params).In h₀) (T : Top hd.view_39 (looseW hd.view_39 []) mean mg mb h₀)
    (F : Fr h₀ L s.heap (fun y => if y = Str.ofString "script" then some (.ref S) else m y))
    {oc : Obj} (dc : oc.data = .cell none) (N : News h₀ L s.heap [(L + 1, oc)])
    (hS : h₀.IsList S vs0.toArray) (hI : IntsAre vs0 ns0) (hn : ns0.length ≤ 63)
    (k : ∀ h' tk' m' Dn vs ns b tb ts sz oc', oc'.data = .cell (some (.bytes b tb)) → m' (Str.ofString "numbers") = some (.ref Dn) → m' (Str.ofString "size") = some (.int sz ts) → sz = (b.size : Int) → Fr h₀ L h' m' →
      News h₀ L h' [(Dn, PySem.W.listOf vs.toArray 0), (L + 1, oc')] → IntsAre vs ns → ns.length = 46 → b.size ≤ 32 → L + 1 < Dn → Q .next { s with heap := h', toks := tk' }) :
    wpAny (model PySem.Challenge.rw_bi0008_01.row.prog w) (callerA.deeper (envOfC (Str.ofString "law") lawScope L fa cd)) (execs (lawBody.take 4) (envOfC (Str.ofString "law") lawScope L fa cd)) Q E s := by
  revert X
  k_fill
  intro X
  show wpAny (model PySem.Challenge.rw_bi0008_01.row.prog w) (callerA.deeper (envOfC _ ⟨_, _, _, _, _⟩ _ _ _)) (execs [_, _, _, _] (envOfC _ ⟨_, _, _, _, _⟩ _ _ _)) _ _ _
  k_steps
  rename Fr _ _ _ _ => F9
  rename News _ _ _ _ => N9
  refine' k _ _ _ _ _ _ _ _ _ _ _ ‹_› ?m1 ?m2 ?sz F9 (news_cons N9 (.tail _ (.tail _ (.head _))) (news_cons N9 (.tail _ (.tail _ (.tail _ (.tail _ (.tail _ (.head _)))))) News.nil)) ?i ?len ?le ?lt
  (case m1 => rw [if_neg (by decide), if_pos rfl])
  (case m2 => exact if_pos rfl)
  (case i => assumption)
  (case len => simp only [List.length_append, List.length_map, rangeKs_length, List.length_take]; omega)
  (case le => exact oct_le)
  (case sz =>
    rw [byteArr_size, List.length_map]
    simp only [List.length_append, List.length_map, rangeKs_length, List.length_take, List.length_drop])
  (case lt => exact (‹_ < _ ∧ _ < _ ∧ L + 1 < _›).2.2)
end Mine
end
section
open PySem PySem.W PyProof.Rows
set_option maxRecDepth 100000
namespace Mine
theorem boot_bytearray : bootBuiltins (PySem.Str.ofString "bytearray") = some (.type "bytearray") := by decide +kernel
local macro_rules | `(tactic| boot_fact) => `(tactic| with_reducible exact boot_bytearray)
local macro_rules | `(tactic| walk_at "my use") => `(tactic| (
    (case k1 => k_asm); (case k2 => k_asm); (case k3 => k_asm); (case k4 => k_asm); (case k5 => k_asm); (case kK => first | exact rfl | assumption); (case kd => ktr_room)))
local macro_rules | `(tactic| walk_at "my after") => `(tactic| (intro t9 h9 tk9 F9 N9; (try dsimp only); (try k_fold)))
local macro_rules | `(tactic| walk_at "call ref") => `(tactic| (k_here; (with_reducible show wpAny _ _ (call (Value.ref 26) [Value.bytes _ _]) _ _ _); k_dflt (refine' ck_call ?k1 ?k2 ?k3 ?k4 ?k5 ?kK ?kd ?kz ?_; (walk_at "my use"); (case kz => first | omega | (simp only [byteArr_size, List.length_map]; omega)); (walk_at "my after"))))
local macro_rules | `(tactic| walk_at "call ref") => `(tactic| (k_here; (with_reducible show wpAny _ _ (call (Value.ref 26) [Value.ref _]) _ _ _); k_dflt (refine' ckA_call ?k1 ?k2 ?k3 ?k4 ?k5 ?kK ?kd ?km ?kz ?_; (walk_at "my use"); (case km => k_mem); (case kz => omega); (walk_at "my after"))))
local macro_rules | `(tactic| walk_at "call ref") => `(tactic| (k_here; (with_reducible show wpAny _ _ (call (Value.ref 33) [Value.bytes _ _]) _ _ _); k_dflt (refine' ls_call ?k1 ?k2 ?k3 ?k4 ?k5 ?kK ?kd ?ku ?kz ?_; (walk_at "my use"); (case ku => ktr_units); (case kz => first | omega | (simp only [byteArr_size, List.length_map]; omega)); (walk_at "my after"))))
local macro_rules | `(tactic| walk_at "call ref") => `(tactic| (k_here; (with_reducible show wpAny _ _ (call (Value.ref 21) [Value.int _ _, Value.int _ _]) _ _ _); k_dflt (refine' ca_call ?k1 ?k2 ?k3 ?k4 ?k5 ?kK ?kd ?ku ?_; (walk_at "my use"); (case ku => ktr_units); (walk_at "my after"))))
open PySem.Sem (wp)
theorem evalArgs_arg {M : Model} {Γ : PySem.Ctx} {f : Value} {t : Sem Value} {Q : Args → Pos → Shared → Prop} {E : Value → Pos → Shared → Prop} {p : Pos} {s : Shared}
    (h : wp M Γ t (fun v p' s' => Q ⟨[v], []⟩ p' s') E p s) : wp M Γ (evalArgs f true [(false, t)] []) Q E p s := by
  unfold evalArgs
  show wp M Γ (spliced [(false, t)] >>= _) _ _ _ _
  rw [Sem.wp_bind', spliced, Sem.wp_bind']
  refine Sem.wp_mono M Γ t (fun v p' s' h' => ?_) (fun _ _ _ e => e) _ _ h
  simp only [Bool.false_eq_true, if_false, Sem.wp_bind', Sem.wp_pure', Sem.wp_holding, spliced]
  exact h'
theorem evalArgs_argI {M : Model} {Γ : PySem.Ctx} {f : Value} {v : Value} {Q : Args → Pos → Shared → Prop} {E : Value → Pos → Shared → Prop} {p : Pos} {s : Shared}
    (h : wp M Γ (evalArgs f true [(false, pure v)] []) Q E p s) : Q ⟨[v], []⟩ p s := by
  unfold evalArgs at h
  have h : wp M Γ (spliced [(false, pure v)] >>= _) _ _ _ _ := h
  rw [Sem.wp_bind', spliced, Sem.wp_bind'] at h
  simp only [Bool.false_eq_true, if_false, Sem.wp_bind', Sem.wp_pure', Sem.wp_holding, spliced] at h
  exact h
theorem callWith_arg {M : Model} {Γ : PySem.Ctx} {pos : Pos} {f : Value} {t : Sem Value} {Q : Value → Pos → Shared → Prop} {E : Value → Pos → Shared → Prop} {p : Pos} {s : Shared}
    (h : wp M Γ t (fun v p' s' => wp M Γ (callWith pos f [] [(false, pure v)] []) Q E p' s') E p s) : wp M Γ (callWith pos f [] [(false, t)] []) Q E p s := by
  unfold callWith at h ⊢
  rw [Sem.wp_bind', Sem.wp_holding]
  refine evalArgs_arg ?_
  refine Sem.wp_mono M Γ t (fun v p' s' h' => ?_) (fun _ _ _ e => e) _ _ h
  rw [Sem.wp_bind', Sem.wp_holding] at h'
  exact evalArgs_argI h'
theorem callWithC_arg {M : Model} {A : Around} {pos : Pos} {f : Value} {t : Sem Value} {Q : Value → Shared → Prop} {E : Value → Shared → Prop} {s : Shared}
    (h : wpC M A t (fun v s' => wpC M A (callWith pos f [] [(false, pure v)] []) Q E s') E s) : wpC M A (callWith pos f [] [(false, t)] []) Q E s := fun Γ p hΓ hC =>
  callWith_arg (Sem.wp_mono M Γ t (fun _ p' _ h' => h' Γ p' hΓ hC) (fun _ _ _ e => e) _ _ (h Γ p hΓ hC))
theorem callWithC_type {M : Model} {A : Around} {pos : Pos} {T : String} {v : Value} {Q : Value → Shared → Prop} {E : Value → Shared → Prop} {s : Shared}
    (h : wpC M A (call (.type T) [v]) Q E s) : wpC M A (callWith pos (.type T) [] [(false, pure v)] []) Q E s := by
  unfold callWith
  refine wpC_bind (wpC_holding (wpC_of (Calls.evalArgs_plain (Calls.spliced_cons (wpAny_pure (Calls.spliced_nil ?_))))))
  refine wpC_seq (wpAny_standAt ?_)
  refine wpC_bind (wpC_pure ?_)
  exact wpC_bind (wpC_mono h (fun r s₂ hr => wpC_of (wpAny_bind (wpAny_holding (wpAny_point (wpAny_pure hr))))) fun _ _ x => x)
section
variable {w : World} {mean : ExcName → Option Value} {mg mb : Str → Option Value} {h₀ : Heap} {L fa : Addr} {cd : Value} {m : Str → Option Value} {s : Shared} {Q E : Value → Shared → Prop}
  {b : Array UInt8} {tb : Tok} {oc : Obj} {news : List (Addr × Obj)}
set_option maxHeartbeats 8000000 in
theorem b_right {p1 p2 p3 p4 p5 : Pos} {kk : Nat} (B : Below callerA h₀ [] h₀) (X : (hd.heap_39 w.params).In h₀) (T : Top hd.view_39 (looseW hd.view_39 []) mean mg mb h₀)
    (F : Fr h₀ L s.heap m) (dc : oc.data = .cell (some (.bytes b tb))) (N : News h₀ L s.heap ((L + 1, oc) :: news)) (hb : b.size ≤ 32)
    (k : ∀ h' tk' t, Fr h₀ L h' m → News h₀ L h' ((L + 1, oc) :: news) → Q (.int (65535 - lsum (KBw.bInts b)) t) { s with heap := h', toks := tk' }) :
    wpAny (model PySem.Challenge.rw_bi0008_01.row.prog w) (callerA.deeper (envOfC (Str.ofString "law") lawScope L fa cd))
      (eval (.BinOp (.Constant (.int 65535) kk p1) .Sub (.Call (.Name (Str.ofString "_law_sum") p2) [.Name (Str.ofString "octets") p3] [] p4) p5) (envOfC (Str.ofString "law") lawScope L fa cd)) Q E s := by
  revert X
  k_fill
  intro X
  show wpAny _ (Around.deeper _ (envOfC _ ⟨_, _, _, _, _⟩ _ _ _)) (eval _ (envOfC _ ⟨_, _, _, _, _⟩ _ _ _)) _ _ _
  k_steps
  refine' k _ _ _ ?F ?N
  (case F => k_asm)
  (case N => k_asm)
set_option maxHeartbeats 8000000 in
theorem b_left {p2 p3 p4 : Pos} (B : Below callerA h₀ [] h₀) (X : (hd.heap_39 w.params).In h₀) (T : Top hd.view_39 (looseW hd.view_39 []) mean mg mb h₀)
    (F : Fr h₀ L s.heap m) (dc : oc.data = .cell (some (.bytes b tb))) (N : News h₀ L s.heap ((L + 1, oc) :: news)) (hb : b.size ≤ 32)
    (k : ∀ h' tk' t, Fr h₀ L h' m → News h₀ L h' ((L + 1, oc) :: news) → Q (.int (65535 - lsum (KBw.bInts b)) t) { s with heap := h', toks := tk' }) :
    wpAny (model PySem.Challenge.rw_bi0008_01.row.prog w) (callerA.deeper (envOfC (Str.ofString "law") lawScope L fa cd))
      (eval (.Call (.Name (Str.ofString "checksum") p2) [.Name (Str.ofString "octets") p3] [] p4) (envOfC (Str.ofString "law") lawScope L fa cd)) Q E s := by
  revert X
  k_fill
  intro X
  show wpAny _ (Around.deeper _ (envOfC _ ⟨_, _, _, _, _⟩ _ _ _)) (eval _ (envOfC _ ⟨_, _, _, _, _⟩ _ _ _)) _ _ _
  k_steps
  refine' k _ _ _ ?F ?N
  (case F => k_asm)
  (case N => k_asm)
set_option maxHeartbeats 8000000 in
theorem n_ck {p2 : Pos} (X : (hd.heap_39 w.params).In h₀) (T : Top hd.view_39 (looseW hd.view_39 []) mean mg mb h₀) (F : Fr h₀ L s.heap m) (k : ∀ tk', Q (.ref 26) { s with toks := tk' }) :
    wpAny (model PySem.Challenge.rw_bi0008_01.row.prog w) (callerA.deeper (envOfC (Str.ofString "law") lawScope L fa cd)) (eval (.Name (Str.ofString "checksum") p2) (envOfC (Str.ofString "law") lawScope L fa cd)) Q E s := by
  revert X
  k_fill
  intro X
  show wpAny _ (Around.deeper _ (envOfC _ ⟨_, _, _, _, _⟩ _ _ _)) (eval _ (envOfC _ ⟨_, _, _, _, _⟩ _ _ _)) _ _ _
  k_steps
  refine' k _
set_option maxHeartbeats 8000000 in
theorem n_ba {p2 : Pos} (X : (hd.heap_39 w.params).In h₀) (T : Top hd.view_39 (looseW hd.view_39 []) mean mg mb h₀) (F : Fr h₀ L s.heap m) (k : ∀ tk', Q (.type "bytearray") { s with toks := tk' }) :
    wpAny (model PySem.Challenge.rw_bi0008_01.row.prog w) (callerA.deeper (envOfC (Str.ofString "law") lawScope L fa cd)) (eval (.Name (Str.ofString "bytearray") p2) (envOfC (Str.ofString "law") lawScope L fa cd)) Q E s := by
  revert X
  k_fill
  intro X
  show wpAny _ (Around.deeper _ (envOfC _ ⟨_, _, _, _, _⟩ _ _ _)) (eval _ (envOfC _ ⟨_, _, _, _, _⟩ _ _ _)) _ _ _
  k_steps
  refine' k _
set_option maxHeartbeats 8000000 in
theorem n_oct {p2 : Pos} (X : (hd.heap_39 w.params).In h₀) (T : Top hd.view_39 (looseW hd.view_39 []) mean mg mb h₀) (F : Fr h₀ L s.heap m) (dc : oc.data = .cell (some (.bytes b tb))) (N : News h₀ L s.heap ((L + 1, oc) :: news)) (k : ∀ tk', Q (.bytes b tb) { s with toks := tk' }) :
    wpAny (model PySem.Challenge.rw_bi0008_01.row.prog w) (callerA.deeper (envOfC (Str.ofString "law") lawScope L fa cd)) (eval (.Name (Str.ofString "octets") p2) (envOfC (Str.ofString "law") lawScope L fa cd)) Q E s := by
  revert X
  k_fill
  intro X
  show wpAny _ (Around.deeper _ (envOfC _ ⟨_, _, _, _, _⟩ _ _ _)) (eval _ (envOfC _ ⟨_, _, _, _, _⟩ _ _ _)) _ _ _
  k_steps
  refine' k _
set_option maxHeartbeats 8000000 in
theorem c_ck {p2 : Pos} {D : Addr} (B : Below callerA h₀ [] h₀) (X : (hd.heap_39 w.params).In h₀) (T : Top hd.view_39 (looseW hd.view_39 []) mean mg mb h₀) (F : Fr h₀ L s.heap m) (N : News h₀ L s.heap ((D, ({ cls := .type "bytearray", data := .bytearray b } : Obj)) :: (L + 1, oc) :: news)) (hb : b.size ≤ 32)
    (k : ∀ h' tk' t, Fr h₀ L h' m → News h₀ L h' ((L + 1, oc) :: news) → Q (.int (65535 - lsum (KBw.bInts b)) t) { s with heap := h', toks := tk' }) :
    wpAny (model PySem.Challenge.rw_bi0008_01.row.prog w) (callerA.deeper (envOfC (Str.ofString "law") lawScope L fa cd)) (callWith p2 (.ref 26) [] [(false, pure (.ref D))] []) Q E s := by
  revert X
  k_fill
  intro X
  show wpAny _ (Around.deeper _ (envOfC _ ⟨_, _, _, _, _⟩ _ _ _)) _ _ _ _
  have XK : (hd.heap_39 w.params).In s.heap := fun a o e => F.keep a o (X a o e)
  k_dflt (refine' callWith_of (P := (hd.heap_39 w.params).In) rfl (keeps_K ?kk) (Calls.evalArgs_plain (Calls.spliced_cons (wpAny_pure (Calls.spliced_nil ⟨XK, ?_⟩)))))
  (case kk => k_is)
  clear XK
  show wpAny _ _ (call (.ref 26) [.ref D]) _ _ _
  k_steps
  refine' k _ _ _ ?F (cb_drop ?N ?S)
  (case F => k_asm)
  (case N => k_asm)
  (case S => exact fun p hp => .tail _ hp)
end
end Mine
end
section
open PySem PySem.W PyProof.Rows
set_option maxRecDepth 100000
namespace Mine
section
variable {w : World} {mean : ExcName → Option Value} {mg mb : Str → Option Value} {h₀ : Heap} {L fa : Addr} {cd : Value} {m : Str → Option Value} {s : Shared} {E : Value → Shared → Prop}
  {b : Array UInt8} {tb : Tok} {oc : Obj} {news : List (Addr × Obj)}
theorem b_left2 {Q : Value → Shared → Prop} {p2 p3 p4 p5 p6 : Pos} (B : Below callerA h₀ [] h₀) (X : (hd.heap_39 w.params).In h₀) (T : Top hd.view_39 (looseW hd.view_39 []) mean mg mb h₀)
    (F : Fr h₀ L s.heap m) (dc : oc.data = .cell (some (.bytes b tb))) (N : News h₀ L s.heap ((L + 1, oc) :: news)) (hb : b.size ≤ 32)
    (k : ∀ h' tk' t, Fr h₀ L h' m → News h₀ L h' ((L + 1, oc) :: news) → Q (.int (65535 - lsum (KBw.bInts b)) t) { s with heap := h', toks := tk' }) :
    wpC (model PySem.Challenge.rw_bi0008_01.row.prog w) (callerA.deeper (envOfC (Str.ofString "law") lawScope L fa cd))
      (eval (.Call (.Name (Str.ofString "checksum") p2) [.Call (.Name (Str.ofString "bytearray") p3) [.Name (Str.ofString "octets") p4] [] p5] [] p6) (envOfC (Str.ofString "law") lawScope L fa cd)) Q E s := by
  show wpC _ _ (eval (.Name (Str.ofString "checksum") p2) _ >>= fun f => callWith p6 f [] [(false, eval (.Call (.Name (Str.ofString "bytearray") p3) [.Name (Str.ofString "octets") p4] [] p5) _)] []) _ _ _
  refine wpC_seq (n_ck X T F fun tk1 => ?_)
  refine callWithC_arg ?_
  show wpC _ _ (eval (.Name (Str.ofString "bytearray") p3) _ >>= fun f => callWith p5 f [] [(false, eval (.Name (Str.ofString "octets") p4) _)] []) _ _ _
  refine wpC_seq (n_ba X T F fun tk2 => ?_)
  refine callWithC_arg ?_
  refine wpC_of (wpAny_mono (n_oct X T F dc N (Q := fun v s' => v = .bytes b tb ∧ ∃ tk, s' = { s with toks := tk }) fun tk3 => ⟨rfl, tk3, rfl⟩) (fun v s' h => ?_) fun _ _ e => e)
  obtain ⟨rfl, tk, rfl⟩ := h
  refine callWithC_type ?_
  refine call_ba F N (by omega) fun D h' F' N' => ?_
  exact wpC_of (c_ck B X T F' N' hb k)
theorem ne_same {prog : Program} {A : Around} {env : Env} {l r whole : PySem.Expr} {Q : Bool → Shared → Prop} {pos : Pos} (hr : ∀ t, markedBehindIn .NotEq r t = t) (hl : wpC (model prog w) A (eval l env) (fun v s' => wpAny (model prog w) A (eval r env) (fun u s'' => ∃ x t t', v = .int x t ∧ u = .int x t' ∧ Q false s'') E s') E s) :
    wpC (model prog w) A (isTrue (.Compare l [.NotEq] [r] pos) env (eval whole env)) Q E s := by
  rw [isTrue_Compare1]
  refine wpC_bind (wpC_mono hl (fun v s' h => ?_) fun _ _ e => e)
  refine wpC_of (wpAny_bind (wpAny_holding ?_))
  rw [hr]
  refine wpAny_mono h (fun u s'' h' => ?_) fun _ _ e => e
  obtain ⟨x, t, t', rfl, rfl, q⟩ := h'
  refine wpAny_bind (wpAny_standAt (wpAny_bind (wpAny_operateT (ne_int ?_))))
  refine wpAny_holding ?_
  rw [show (x != x) = false by simp]
  exact wpAny_pure q
theorem segB {Q : Flow → Shared → Prop} (B : Below callerA h₀ [] h₀) (X : (hd.heap_39 w.params).In h₀) (T : Top hd.view_39 (looseW hd.view_39 []) mean mg mb h₀)
    (F : Fr h₀ L s.heap m) (dc : oc.data = .cell (some (.bytes b tb))) (N : News h₀ L s.heap ((L + 1, oc) :: news)) (hb : b.size ≤ 32)
    (k : ∀ h' tk', Fr h₀ L h' m → News h₀ L h' ((L + 1, oc) :: news) → Q .next { s with heap := h', toks := tk' }) :
    wpC (model PySem.Challenge.rw_bi0008_01.row.prog w) (callerA.deeper (envOfC (Str.ofString "law") lawScope L fa cd)) (execs [lawBody[4]] (envOfC (Str.ofString "law") lawScope L fa cd)) Q E s := by
  show wpC _ _ (execs [Stmt.If (Expr.BoolOp BoolOp.Or [Expr.Compare (.Call (.Name (Str.ofString "checksum") _) [.Name (Str.ofString "octets") _] [] _) [CmpOp.NotEq] [.BinOp (.Constant (.int 65535) _ _) .Sub (.Call (.Name (Str.ofString "_law_sum") _) [.Name (Str.ofString "octets") _] [] _) _] _,
    Expr.Compare (.Call (.Name (Str.ofString "checksum") _) [.Call (.Name (Str.ofString "bytearray") _) [.Name (Str.ofString "octets") _] [] _] [] _) [CmpOp.NotEq] [.BinOp (.Constant (.int 65535) _ _) .Sub (.Call (.Name (Str.ofString "_law_sum") _) [.Name (Str.ofString "octets") _] [] _) _] _] _) _ [] _] _) _ _ _
  rw [execs_cons, exec_If]
  refine wpC_bind (wpC_seq (wpAny_standAt ?_))
  rw [arm_isTrue_BoolOp, arm_allTrue_cons]
  refine wpC_bind (wpC_bind (ne_same (whole := .Compare _ _ _ _) (fun _ => rfl) (wpC_of (b_left B X T F dc N hb fun h1 tk1 t1 F1 N1 => b_right B X T F1 dc N1 hb fun h2 tk2 t2 F2 N2 => ⟨_, _, _, rfl, rfl, ?_⟩))))
  dsimp only
  rw [arm_allTrue_cons]
  refine wpC_bind (ne_same (whole := .Compare _ _ _ _) (fun _ => rfl) (b_left2 B X T F2 dc N2 hb fun h3 tk3 t3 F3 N3 => b_right B X T F3 dc N3 hb fun h4 tk4 t4 F4 N4 => ⟨_, _, _, rfl, rfl, ?_⟩))
  dsimp only
  rw [arm_allTrue_nil]
  refine wpC_pure ?_
  refine ifC_no (by decide) ?_
  refine wpC_of (wpAny_execs_nil ?_)
  dsimp only
  refine wpC_of (wpAny_execs_nil ?_)
  exact k _ _ F4 N4
end
end Mine
end
section
open PySem PySem.W PyProof.Rows
namespace Mine
theorem ints_two {vs : List Value} {ns : List Int} (i : IntsAre vs ns) (e : ns.length = 2) : ∃ a b ta tb, vs = [.int a ta, .int b tb] ∧ ns = [a, b] := by
  match ns, e with
  | [a, b], _ =>
    have hl := i.length
    match vs, hl with
    | [x, y], _ =>
      obtain ⟨t, hx⟩ := i.get 0 a rfl
      obtain ⟨u, hy⟩ := i.get 1 b rfl
      simp at hx hy
      exact ⟨a, b, t, u, by rw [hx, hy], rfl⟩
theorem sorted_two {a b x y n : Int} (p : [a, b].Perm [x, y]) (o : List.Pairwise (fun u v => u ≤ v) [a, b]) (hx : 0 ≤ x ∧ x ≤ n) (hy : 0 ≤ y ∧ y ≤ n) : 0 ≤ a ∧ a ≤ b ∧ b ≤ n := by
  have h1 : a ∈ [x, y] := p.mem_iff.mp (by simp)
  have h2 : b ∈ [x, y] := p.mem_iff.mp (by simp)
  simp at h1 h2 o
  rcases h1 with rfl | rfl <;> rcases h2 with rfl | rfl <;> omega
theorem fmod_in {x : Int} {n : Nat} : 0 ≤ x.fmod ((n : Int) + 1) ∧ x.fmod ((n : Int) + 1) ≤ n := by
  have h := Int.fmod_nonneg_of_pos x (b := (n : Int) + 1) (by omega)
  have h2 := Int.fmod_lt_of_pos x (b := (n : Int) + 1) (by omega)
  omega
local macro_rules | `(tactic| walk_at "assign Tuple") => `(tactic| (k_here; (with_reducible show wpAny _ _ (assign (Expr.Tuple _ _ _) _ (Value.ref _)) _ _ _); (rename IntsAre _ _ => ii); (rename List.Perm _ _ => pp); (rename List.Pairwise _ _ => oo); (obtain ⟨a9, b9, ta9, tb9, hv9, hn9⟩ := ints_two ii (by first | assumption | simpa using ‹_ = 0 + 1 + 1›)); subst hn9; subst hv9; (have hab9 := sorted_two pp oo fmod_in fmod_in); (clear ii pp oo); (walk_at "assign Tuple"); (try dsimp only)))
set_option maxRecDepth 100000 in
set_option maxHeartbeats 8000000 in
theorem segC {w : World} {mean : ExcName → Option Value} {mg mb : Str → Option Value} {h₀ : Heap} {L fa Dn : Addr} {cd : Value} {m₀ : Str → Option Value} {s : Shared} {Q : Flow → Shared → Prop} {E : Value → Shared → Prop}
    {b : Array UInt8} {ts : Tok} {vs : List Value} {ns : List Int} {oc : Obj}
    (B : Below callerA h₀ [] h₀) (X : (hd.heap_39 w.params).In h₀) (T : Top hd.view_39 (looseW hd.view_39 []) mean mg mb h₀)
    (F : Fr h₀ L s.heap (fun y => if y = Str.ofString "size" then some (.int (b.size : Int) ts) else if y = Str.ofString "numbers" then some (.ref Dn) else m₀ y))
    (N : News h₀ L s.heap [(Dn, PySem.W.listOf vs.toArray 0), (L + 1, oc)])
    (hDL : L + 1 < Dn) (hI : IntsAre vs ns) (hn : ns.length = 46) (hb : b.size ≤ 32)
    (k : ∀ h' tk' f1 f2 t1 t2, 0 ≤ f1 → f1 ≤ f2 → f2 ≤ (b.size : Int) →
      Fr h₀ L h' (fun y => if y = Str.ofString "second" then some (.int f2 t2) else if y = Str.ofString "first" then some (.int f1 t1) else if y = Str.ofString "size" then some (.int (b.size : Int) ts) else if y = Str.ofString "numbers" then some (.ref Dn) else m₀ y) →
      News h₀ L h' [(Dn, PySem.W.listOf vs.toArray 0), (L + 1, oc)] → Q .next { s with heap := h', toks := tk' }) :
    wpAny (model PySem.Challenge.rw_bi0008_01.row.prog w) (callerA.deeper (envOfC (Str.ofString "law") lawScope L fa cd)) (execs [lawBody[5]] (envOfC (Str.ofString "law") lawScope L fa cd)) Q E s := by
  revert X
  k_fill
  intro X
  show wpAny (model PySem.Challenge.rw_bi0008_01.row.prog w) (callerA.deeper (envOfC _ ⟨_, _, _, _, _⟩ _ _ _)) (execs [Stmt.Assign _ _ _] (envOfC _ ⟨_, _, _, _, _⟩ _ _ _)) _ _ _
  k_steps
  refine' k _ _ _ _ _ _ ?a ?b ?c ?F (cb_drop ?N ?S)
  (case F => k_asm)
  (case N => k_asm)
  (case S => kcj_all)
  all_goals omega
end Mine
end
section
open PySem PySem.W PyProof.Rows
set_option maxRecDepth 100000
namespace Mine
def turnIter : PySem.Expr := match lawBody.drop 8 with
  | .For _ it _ _ _ :: _ => it
  | _ => .Name (Str.ofString "") ⟨0, 0, 0, 0⟩
def turnBody : List Stmt := match lawBody.drop 8 with
  | .For _ _ b _ _ :: _ => b
  | _ => []
def turns : List (List Int) := [[0, 1, 2], [0, 2, 1], [1, 0, 2], [1, 2, 0], [2, 0, 1], [2, 1, 0]]
theorem six_at {x : Int} {P : Int → Prop} (h0 : P 0) (h1 : P 1) (h2 : P 2) (h3 : P 3) (h4 : P 4) (h5 : P 5) : P (x.fmod 6) := by
  have a := Int.fmod_nonneg_of_pos x (b := 6) (by decide)
  have b := Int.fmod_lt_of_pos x (b := 6) (by decide)
  obtain e | e | e | e | e | e : x.fmod 6 = 0 ∨ x.fmod 6 = 1 ∨ x.fmod 6 = 2 ∨ x.fmod 6 = 3 ∨ x.fmod 6 = 4 ∨ x.fmod 6 = 5 := by omega
  all_goals (rw [e]; assumption)
local macro_rules | `(tactic| walk_at "subscriptTail") => `(tactic| (k_here; (with_reducible show wpAny _ _ (subscriptTail _ _ (Value.ref _) (Value.int (Int.fmod _ 6) _)) _ _ _); (refine' six_at (P := fun i => wpAny _ _ (subscriptTail _ _ _ (Value.int i _)) _ _ _) ?_ ?_ ?_ ?_ ?_ ?_); (all_goals (try dsimp only))))
section
variable {w : World} {mean : ExcName → Option Value} {mg mb : Str → Option Value} {h₀ : Heap} {L fa : Addr} {cd : Value} {m : Str → Option Value} {s : Shared} {E : Value → Shared → Prop}
  {b : Array UInt8} {tb : Tok} {oc : Obj} {news : List (Addr × Obj)}
set_option maxHeartbeats 8000000 in
theorem it8 {Q : Value → Shared → Prop} {vs : List Value} {ns : List Int} {Dn : Addr} (X : (hd.heap_39 w.params).In h₀) (T : Top hd.view_39 (looseW hd.view_39 []) mean mg mb h₀)
    (F : Fr h₀ L s.heap (fun y => if y = Str.ofString "numbers" then some (.ref Dn) else m y)) (N : News h₀ L s.heap ((Dn, PySem.W.listOf vs.toArray 0) :: news)) (hI : IntsAre vs ns) (hn : ns.length = 46)
    (k : ∀ h' tk' Lt vt p, IntsAre vt p → p ∈ turns → Fr h₀ L h' (fun y => if y = Str.ofString "numbers" then some (.ref Dn) else m y) → News h₀ L h' ((Lt, PySem.W.listOf vt.toArray 0) :: (Dn, PySem.W.listOf vs.toArray 0) :: news) → Q (.ref Lt) { s with heap := h', toks := tk' }) :
    wpAny (model PySem.Challenge.rw_bi0008_01.row.prog w) (callerA.deeper (envOfC (Str.ofString "law") lawScope L fa cd)) (eval turnIter (envOfC (Str.ofString "law") lawScope L fa cd)) Q E s := by
  revert X
  k_fill
  intro X
  show wpAny _ (Around.deeper _ (envOfC _ ⟨_, _, _, _, _⟩ _ _ _)) (eval (Expr.Subscript _ _ _) (envOfC _ ⟨_, _, _, _, _⟩ _ _ _)) _ _ _
  k_steps
  all_goals (
    rename News _ _ _ _ => N9
    rename Fr _ _ _ _ => F9
    first
    | refine k _ _ _ _ _ (.cons _ _ (.cons _ _ (.cons _ _ .nil))) ?q1 F9 (news_cons N9 (.tail _ (.head _)) (fun q hq => N9 q (.tail _ (.tail _ (.tail _ (.tail _ (.tail _ (.tail _ (.tail _ hq)))))))))
    | refine k _ _ _ _ _ (.cons _ _ (.cons _ _ (.cons _ _ .nil))) ?q1 F9 (news_cons N9 (.tail _ (.tail _ (.head _))) (fun q hq => N9 q (.tail _ (.tail _ (.tail _ (.tail _ (.tail _ (.tail _ (.tail _ hq)))))))))
    | refine k _ _ _ _ _ (.cons _ _ (.cons _ _ (.cons _ _ .nil))) ?q1 F9 (news_cons N9 (.tail _ (.tail _ (.tail _ (.head _)))) (fun q hq => N9 q (.tail _ (.tail _ (.tail _ (.tail _ (.tail _ (.tail _ (.tail _ hq)))))))))
    | refine k _ _ _ _ _ (.cons _ _ (.cons _ _ (.cons _ _ .nil))) ?q1 F9 (news_cons N9 (.tail _ (.tail _ (.tail _ (.tail _ (.head _))))) (fun q hq => N9 q (.tail _ (.tail _ (.tail _ (.tail _ (.tail _ (.tail _ (.tail _ hq)))))))))
    | refine k _ _ _ _ _ (.cons _ _ (.cons _ _ (.cons _ _ .nil))) ?q1 F9 (news_cons N9 (.tail _ (.tail _ (.tail _ (.tail _ (.tail _ (.head _)))))) (fun q hq => N9 q (.tail _ (.tail _ (.tail _ (.tail _ (.tail _ (.tail _ (.tail _ hq)))))))))
    | refine k _ _ _ _ _ (.cons _ _ (.cons _ _ (.cons _ _ .nil))) ?q1 F9 (news_cons N9 (.tail _ (.tail _ (.tail _ (.tail _ (.tail _ (.tail _ (.head _))))))) (fun q hq => N9 q (.tail _ (.tail _ (.tail _ (.tail _ (.tail _ (.tail _ (.tail _ hq)))))))))
    (case q1 => decide))
end
end Mine
end
section
open PySem PySem.W PyProof.Rows
set_option maxRecDepth 100000
namespace Mine
local macro_rules | `(tactic| walk_at "my use") => `(tactic| (
    (case k1 => k_asm); (case k2 => k_asm); (case k3 => k_asm); (case k4 => k_asm); (case k5 => k_asm); (case kK => first | exact rfl | assumption); (case kd => ktr_room)))
local macro_rules | `(tactic| walk_at "my after") => `(tactic| (intro t9 h9 tk9 F9 N9; (try dsimp only); (try k_fold)))
local macro_rules | `(tactic| walk_at "call ref") => `(tactic| (k_here; (with_reducible show wpAny _ _ (call (Value.ref 26) [Value.bytes _ _]) _ _ _); k_dflt (refine' ck_call ?k1 ?k2 ?k3 ?k4 ?k5 ?kK ?kd ?kz ?_; (walk_at "my use"); (case kz => first | omega | (simp only [byteArr_size, List.length_map]; omega)); (walk_at "my after"))))
local macro_rules | `(tactic| walk_at "call ref") => `(tactic| (k_here; (with_reducible show wpAny _ _ (call (Value.ref 26) [Value.ref _]) _ _ _); k_dflt (refine' ckA_call ?k1 ?k2 ?k3 ?k4 ?k5 ?kK ?kd ?km ?kz ?_; (walk_at "my use"); (case km => k_mem); (case kz => omega); (walk_at "my after"))))
local macro_rules | `(tactic| walk_at "call ref") => `(tactic| (k_here; (with_reducible show wpAny _ _ (call (Value.ref 33) [Value.bytes _ _]) _ _ _); k_dflt (refine' ls_call ?k1 ?k2 ?k3 ?k4 ?k5 ?kK ?kd ?ku ?kz ?_; (walk_at "my use"); (case ku => ktr_units); (case kz => first | omega | (simp only [byteArr_size, List.length_map]; omega)); (walk_at "my after"))))
local macro_rules | `(tactic| walk_at "call ref") => `(tactic| (k_here; (with_reducible show wpAny _ _ (call (Value.ref 21) [Value.int _ _, Value.int _ _]) _ _ _); k_dflt (refine' ca_call ?k1 ?k2 ?k3 ?k4 ?k5 ?kK ?kd ?ku ?_; (walk_at "my use"); (case ku => ktr_units); (walk_at "my after"))))

def swap (v : Int) : Int := v % 256 * 256 + v / 256
def contrib (st : Int) (ks : List Int) : Int := if st % 2 = 1 then swap (lsum ks) else lsum ks
theorem contrib_no {st : Int} {ks : List Int} (h : ¬ st.fmod 2 = 1) : 65535 - (65535 - lsum ks) = contrib st ks := by
  unfold contrib
  rw [Int.fmod_eq_emod_of_nonneg _ (by decide)] at h
  rw [if_neg h]
  omega
theorem contrib_yes {st : Int} {ks : List Int} (h : st.fmod 2 = 1) : (65535 - (65535 - lsum ks)).fmod 256 * 256 + (65535 - (65535 - lsum ks)).fdiv 256 = contrib st ks := by
  unfold contrib swap
  rw [Int.fmod_eq_emod_of_nonneg _ (by decide)] at h ⊢
  rw [if_pos h, Int.fdiv_eq_ediv_of_nonneg _ (by decide)]
  have e : 65535 - (65535 - lsum ks) = lsum ks := by omega
  rw [e]
theorem three_at {x : Int} {P : Int → Prop} (hx : 0 ≤ x ∧ x < 3) (h0 : x = 0 → P 0) (h1 : x = 1 → P 1) (h2 : x = 2 → P 2) : P x := by
  obtain e | e | e : x = 0 ∨ x = 1 ∨ x = 2 := by omega
  all_goals (subst e; first | exact h0 rfl | exact h1 rfl | exact h2 rfl)
abbrev tupB (i : Int) (t : Tok) (c : Array UInt8) (u : Tok) : Obj := { cls := .type "tuple", data := .seq #[.int i t, .bytes c u] }
local macro_rules | `(tactic| walk_at "subscriptTail") => `(tactic| (k_here; (with_reducible show wpAny _ _ (subscriptTail _ _ (Value.ref _) (Value.int _ _)) _ _ _); (refine' three_at (P := fun i => wpAny _ _ (subscriptTail _ _ _ (Value.int i _)) _ _ _) (by assumption) ?_ ?_ ?_); (all_goals (intro hi9; (try dsimp only)))))
section
variable {w : World} {mean : ExcName → Option Value} {mg mb : Str → Option Value} {h₀ : Heap} {L fa : Addr} {cd : Value} {m : Str → Option Value} {s : Shared} {E : Value → Shared → Prop}
  {news : List (Addr × Obj)}
set_option maxHeartbeats 8000000 in
theorem body8 {Q : Flow → Shared → Prop} {i x f1 f2 : Int} {ti tx t0 t1 t2 u0 u1 u2 : Tok} {c0 c1 c2 : Array UInt8} {Lp A0 A1 A2 : Addr} (B : Below callerA h₀ [] h₀) (X : (hd.heap_39 w.params).In h₀) (T : Top hd.view_39 (looseW hd.view_39 []) mean mg mb h₀)
    (F : Fr h₀ L s.heap m) (e1 : m (Str.ofString "turn") = some (.int i ti)) (e2 : m (Str.ofString "parts") = some (.ref Lp)) (e3 : m (Str.ofString "total") = some (.int x tx)) (hi : 0 ≤ i ∧ i < 3)
    (hz0 : c0.size ≤ 32) (hz1 : c1.size ≤ 32) (hz2 : c2.size ≤ 32)
    (N : News h₀ L s.heap ((Lp, PySem.W.listOf #[.ref A0, .ref A1, .ref A2] 0) :: (A2, tupB f2 t2 c2 u2) :: (A1, tupB f1 t1 c1 u1) :: (A0, tupB 0 t0 c0 u0) :: news))
    (k : ∀ h' tk' m' t z st c, Fr h₀ L h' m' → m' (Str.ofString "total") = some (.int z t) → (i = 0 ∧ st = 0 ∧ c = c0 ∨ i = 1 ∧ st = f1 ∧ c = c1 ∨ i = 2 ∧ st = f2 ∧ c = c2) → z = cadd x (contrib st (KBw.bInts c)) →
      (∀ y, y ≠ Str.ofString "start" → y ≠ Str.ofString "part" → y ≠ Str.ofString "one" → y ≠ Str.ofString "total" → m' y = m y) →
      News h₀ L h' ((Lp, PySem.W.listOf #[.ref A0, .ref A1, .ref A2] 0) :: (A2, tupB f2 t2 c2 u2) :: (A1, tupB f1 t1 c1 u1) :: (A0, tupB 0 t0 c0 u0) :: news) → Q .next { s with heap := h', toks := tk' }) :
    wpAny (model PySem.Challenge.rw_bi0008_01.row.prog w) (callerA.deeper (envOfC (Str.ofString "law") lawScope L fa cd)) (execs turnBody (envOfC (Str.ofString "law") lawScope L fa cd)) Q E s := by
  have F' := fr_put3 F e1 e2 e3
  revert X
  k_fill
  intro X
  clear F
  show wpAny _ (Around.deeper _ (envOfC _ ⟨_, _, _, _, _⟩ _ _ _)) (execs [_, _, _, _] (envOfC _ ⟨_, _, _, _, _⟩ _ _ _)) _ _ _
  k_steps
  all_goals (
    rename News _ _ _ _ => N9
    rename Fr _ _ _ _ => F9
    first
    | refine k _ _ _ _ _ _ _ F9 (if_pos rfl) (.inl ⟨‹i = 0›, rfl, rfl⟩) ?tot ?keep N9
    | refine k _ _ _ _ _ _ _ F9 (if_pos rfl) (.inr (.inl ⟨‹i = 1›, rfl, rfl⟩)) ?tot ?keep N9
    | refine k _ _ _ _ _ _ _ F9 (if_pos rfl) (.inr (.inr ⟨‹i = 2›, rfl, rfl⟩)) ?tot ?keep N9
    (case tot => first
      | exact congrArg (cadd x) (contrib_yes ‹_›)
      | exact congrArg (cadd x) (contrib_no ‹_›)
      | exact congrArg (cadd x) (contrib_no (by decide)))
    (case keep =>
      intro y h1 h2 h3 h4
      (repeat (first | rw [if_neg h1] | rw [if_neg h2] | rw [if_neg h3] | rw [if_neg h4]))
      rw [put_at e1, put_at e2]))
end
end Mine
end
section
open PySem PySem.W PyProof.Rows
set_option maxRecDepth 100000
namespace Mine
/-- the three parts' shares -/
def share (f1 f2 : Int) (k0 k1 k2 : List Int) (i : Int) : Int := if i = 0 then contrib 0 k0 else if i = 1 then contrib f1 k1 else contrib f2 k2
def tsum (g : Int → Int) (p : List Int) : Int := p.foldl (fun x j => cadd x (g j)) 0
theorem turn_in {p : List Int} (hp : p ∈ turns) {n : Int} (hn : n ∈ p) : 0 ≤ n ∧ n < 3 := by
  have h : ∀ p ∈ turns, ∀ n ∈ p, 0 ≤ n ∧ n < 3 := by decide
  exact h p hp n hn
theorem tsum_succ {g : Int → Int} {p : List Int} {i : Nat} {n : Int} (h : p[i]? = some n) : tsum g (p.take (i + 1)) = cadd (tsum g (p.take i)) (g n) := by
  unfold tsum
  rw [List.take_add_one, h, List.foldl_append]
  rfl
theorem share_eq {f1 f2 i st : Int} {c0 c1 c2 c : Array UInt8} (h : i = 0 ∧ st = 0 ∧ c = c0 ∨ i = 1 ∧ st = f1 ∧ c = c1 ∨ i = 2 ∧ st = f2 ∧ c = c2) :
    contrib st (KBw.bInts c) = share f1 f2 (KBw.bInts c0) (KBw.bInts c1) (KBw.bInts c2) i := by
  unfold share
  rcases h with ⟨rfl, rfl, rfl⟩ | ⟨rfl, rfl, rfl⟩ | ⟨rfl, rfl, rfl⟩
  · rw [if_pos rfl]
  · rw [if_neg (by decide), if_pos rfl]
  · rw [if_neg (by decide), if_neg (by decide)]
theorem law_local {x : Str} {L fa : Addr} {cd : Value} (h : List.lookup x lawScope.names = some .local) : (envOfC (Str.ofString "law") lawScope L fa cd).kindOf x = some .local := h
theorem law_turn : List.lookup (Str.ofString "turn") lawScope.names = some .local := by rfl
theorem law_fun {L fa : Addr} {cd : Value} : ((envOfC (Str.ofString "law") lawScope L fa cd).scope.kind == .class || ((envOfC (Str.ofString "law") lawScope L fa cd).scope.kind == .module && (envOfC (Str.ofString "law") lawScope L fa cd).locals != (envOfC (Str.ofString "law") lawScope L fa cd).globals)) = false := by
  have h : lawScope.kind = .function := by rfl
  show (lawScope.kind == .class || (lawScope.kind == .module && _)) = false
  rw [h]
  rfl
theorem fold_turn (env : Env) (x : Value) : foldedSetIterable turnIter env x = pure x := by rfl
theorem law_handled {e : Env} : (callerA.deeper e).handled = none := rfl
section
variable {w : World} {mean : ExcName → Option Value} {mg mb : Str → Option Value} {h₀ : Heap} {L fa : Addr} {cd : Value} {m : Str → Option Value} {s : Shared} {E : Value → Shared → Prop}
theorem segD8 {Q : Flow → Shared → Prop} {f1 f2 : Int} {tx t0 t1 t2 u0 u1 u2 : Tok} {c0 c1 c2 : Array UInt8} {Lp A0 A1 A2 Dn : Addr} {oc : Obj} {vs : List Value} {ns : List Int} {vc : Option Value}
    (B : Below callerA h₀ [] h₀) (X : (hd.heap_39 w.params).In h₀) (T : Top hd.view_39 (looseW hd.view_39 []) mean mg mb h₀)
    (F : Fr h₀ L s.heap m) (e1 : m (Str.ofString "numbers") = some (.ref Dn)) (e2 : m (Str.ofString "parts") = some (.ref Lp)) (e3 : m (Str.ofString "total") = some (.int 0 tx))
    (hz0 : c0.size ≤ 32) (hz1 : c1.size ≤ 32) (hz2 : c2.size ≤ 32) (hI : IntsAre vs ns) (hn : ns.length = 46) (dc : oc.data = .cell vc)
    (N : News h₀ L s.heap [(Lp, PySem.W.listOf #[.ref A0, .ref A1, .ref A2] 0), (A2, tupB f2 t2 c2 u2), (A1, tupB f1 t1 c1 u1), (A0, tupB 0 t0 c0 u0), (Dn, PySem.W.listOf vs.toArray 0), (L + 1, oc)])
    (k : ∀ h' tk' m' p t, p ∈ turns → m' (Str.ofString "total") = some (.int (tsum (share f1 f2 (KBw.bInts c0) (KBw.bInts c1) (KBw.bInts c2)) p) t) →
      (∀ y, y ≠ Str.ofString "turn" → y ≠ Str.ofString "start" → y ≠ Str.ofString "part" → y ≠ Str.ofString "one" → y ≠ Str.ofString "total" → m' y = m y) → Fr h₀ L h' m' →
      News h₀ L h' [(Dn, PySem.W.listOf vs.toArray 0), (L + 1, oc)] → Q .next { s with heap := h', toks := tk' }) :
    wpAny (model PySem.Challenge.rw_bi0008_01.row.prog w) (callerA.deeper (envOfC (Str.ofString "law") lawScope L fa cd)) (execs [lawBody[8]] (envOfC (Str.ofString "law") lawScope L fa cd)) Q E s := by
  show wpAny _ _ (execs [Stmt.For (.Name (Str.ofString "turn") _) turnIter turnBody [] _] _) _ _ _
  rw [execs_cons]
  refine wpAny_bind ?_
  refine @for_list PySem.Challenge.rw_bi0008_01.row.prog w (callerA.deeper (envOfC (Str.ofString "law") lawScope L fa cd)) s (envOfC (Str.ofString "law") lawScope L fa cd) E _ (Str.ofString "turn") _ _ turnIter turnBody h₀ (law_local law_turn) law_fun law_handled ?_ (fold_turn _)
  have N0 : News h₀ L s.heap ((Dn, PySem.W.listOf vs.toArray 0) :: [(Lp, PySem.W.listOf #[.ref A0, .ref A1, .ref A2] 0), (A2, tupB f2 t2 c2 u2), (A1, tupB f1 t1 c1 u1), (A0, tupB 0 t0 c0 u0), (L + 1, oc)]) :=
    fun q hq => N q (by simp only [List.mem_cons] at hq ⊢; rcases hq with h | h | h | h | h | h | h <;> simp [h])
  have a1 := fr_put F e1
  refine @it8 w mean mg mb h₀ L fa cd m s E _ _ vs ns Dn X T a1 N0 hI hn ?_
  intro h1 tk1 Lt vt p hp hpt F1 N1
  refine ⟨Lt, vt, p, 0, _, _, fun i m₁ news₁ => (∃ t, m₁ (Str.ofString "total") = some (.int (tsum (share f1 f2 (KBw.bInts c0) (KBw.bInts c1) (KBw.bInts c2)) (p.take i)) t)) ∧
    (∀ y, y ≠ Str.ofString "turn" → y ≠ Str.ofString "start" → y ≠ Str.ofString "part" → y ≠ Str.ofString "one" → y ≠ Str.ofString "total" → m₁ y = m y) ∧
    news₁ = [(Lt, PySem.W.listOf vt.toArray 0), (Dn, PySem.W.listOf vs.toArray 0), (Lp, PySem.W.listOf #[.ref A0, .ref A1, .ref A2] 0), (A2, tupB f2 t2 c2 u2), (A1, tupB f1 t1 c1 u1), (A0, tupB 0 t0 c0 u0), (L + 1, oc)],
    rfl, F1, N1, hp, ⟨⟨tx, ?_⟩, fun y _ _ _ _ _ => put_at e1, rfl⟩, ?_, ?_, ?_⟩
  · exact (put_at e1).trans e3
  · rintro i m₁ news₁ ⟨_, _, rfl⟩
    refine ⟨.head _, fun q hq xs => ?_⟩
    simp only [List.mem_cons, List.not_mem_nil, or_false] at hq
    rcases hq with rfl | rfl | rfl | rfl | rfl | rfl | rfl
    all_goals first | (intro e; cases e) | (show oc.data ≠ _; rw [dc]; intro e; cases e)
  · rintro i n t I oI m₁ news₁ s₂ E' hni _ ⟨⟨tt, ht⟩, hk, rfl⟩ F2 N2
    have kk : ∀ y, y ≠ Str.ofString "turn" → (if y = Str.ofString "turn" then some (Value.int n t) else m₁ y) = m₁ y := fun y h => if_neg h
    have N3 : News h₀ L s₂.heap ((Lp, PySem.W.listOf #[.ref A0, .ref A1, .ref A2] 0) :: (A2, tupB f2 t2 c2 u2) :: (A1, tupB f1 t1 c1 u1) :: (A0, tupB 0 t0 c0 u0) :: [(I, oI), (Lt, PySem.W.listOf vt.toArray 0), (Dn, PySem.W.listOf vs.toArray 0), (L + 1, oc)]) :=
      fun q hq => N2 q (by simp only [List.mem_cons] at hq ⊢; rcases hq with h | h | h | h | h | h | h | h | h <;> simp [h])
    refine @body8 w mean mg mb h₀ L fa cd _ s₂ E' _ _ n (tsum (share f1 f2 (KBw.bInts c0) (KBw.bInts c1) (KBw.bInts c2)) (p.take i)) f1 f2 t tt t0 t1 t2 u0 u1 u2 c0 c1 c2 Lp A0 A1 A2 B X T F2 (if_pos rfl) ((kk _ (by decide)).trans ((hk _ (by decide) (by decide) (by decide) (by decide) (by decide)).trans e2)) ((kk _ (by decide)).trans ht)
      (turn_in hpt (List.mem_of_getElem? hni)) hz0 hz1 hz2 N3 ?_
    intro h3 tk3 m3 t3 z st c F3 hz hor hzv hk3 N3
    refine ⟨rfl, h3, tk3, m3, _, rfl, F3, fun q hq => N3 q (by simp only [List.mem_cons] at hq ⊢; rcases hq with h | h | h | h | h | h | h | h | h <;> simp [h]), ⟨t3, ?_⟩, fun y a1 a2 a3 a4 a5 => ?_, rfl⟩
    · rw [hz, hzv, tsum_succ hni, share_eq hor]
    · rw [hk3 y a2 a3 a4 a5, kk y a1, hk y a1 a2 a3 a4 a5]
  · rintro h4 tk4 m4 news4 F4 N4 ⟨⟨tt, ht⟩, hk, rfl⟩
    dsimp only
    refine wpAny_execs_nil ?_
    rw [List.take_length] at ht
    exact k h4 tk4 m4 p tt hpt ht hk F4 (fun q hq => N4 q (by simp only [List.mem_cons] at hq ⊢; rcases hq with h | h | h <;> simp [h]))
end
end Mine
end
section
open PySem PySem.W PyProof.Rows
set_option maxRecDepth 100000
namespace Mine
section
variable {w : World} {mean : ExcName → Option Value} {mg mb : Str → Option Value} {h₀ : Heap} {L fa : Addr} {cd : Value} {m : Str → Option Value} {s : Shared} {E : Value → Shared → Prop}
  {b : Array UInt8} {tb : Tok} {oc : Obj} {news : List (Addr × Obj)}
set_option maxHeartbeats 8000000 in
theorem segD1 {Q : Flow → Shared → Prop} {f1 f2 : Int} {t1 t2 : Tok} {Dn : Addr} {on : Obj} (X : (hd.heap_39 w.params).In h₀) (T : Top hd.view_39 (looseW hd.view_39 []) mean mg mb h₀)
    (F : Fr h₀ L s.heap (fun y => if y = Str.ofString "second" then some (.int f2 t2) else if y = Str.ofString "first" then some (.int f1 t1) else m y)) (dc : oc.data = .cell (some (.bytes b tb))) (N : News h₀ L s.heap [(Dn, on), (L + 1, oc)]) (hb : b.size ≤ 32)
    (h0 : 0 ≤ f1) (h1 : f1 ≤ f2) (h2 : f2 ≤ (b.size : Int))
    (k : ∀ h' tk' m' Lp A0 A1 A2 c0 c1 c2 t0 u0 u1 u2 tx, Fr h₀ L h' m' → News h₀ L h' [(Lp, PySem.W.listOf #[.ref A0, .ref A1, .ref A2] 0), (A2, tupB f2 t2 c2 u2), (A1, tupB f1 t1 c1 u1), (A0, tupB 0 t0 c0 u0), (Dn, on), (L + 1, oc)] →
      m' (Str.ofString "total") = some (.int 0 tx) → m' (Str.ofString "parts") = some (.ref Lp) → (∀ y, y ≠ Str.ofString "total" → y ≠ Str.ofString "parts" → m' y = if y = Str.ofString "second" then some (.int f2 t2) else if y = Str.ofString "first" then some (.int f1 t1) else m y) →
      KBw.bInts c0 = List.take (clipAt (KBw.bInts b).length f1) (KBw.bInts b) → KBw.bInts c1 = List.take (clipAt (KBw.bInts b).length f2 - clipAt (KBw.bInts b).length f1) (List.drop (clipAt (KBw.bInts b).length f1) (KBw.bInts b)) →
      KBw.bInts c2 = List.take ((KBw.bInts b).length - clipAt (KBw.bInts b).length f2) (List.drop (clipAt (KBw.bInts b).length f2) (KBw.bInts b)) → Q .next { s with heap := h', toks := tk' }) :
    wpAny (model PySem.Challenge.rw_bi0008_01.row.prog w) (callerA.deeper (envOfC (Str.ofString "law") lawScope L fa cd)) (execs [lawBody[6], lawBody[7]] (envOfC (Str.ofString "law") lawScope L fa cd)) Q E s := by
  have hks : KBw.bInts b = KBw.bInts b := rfl
  have hlen2 : (KBw.bInts b).length = b.size := KBw.ints_length b
  revert X
  k_fill
  intro X
  show wpAny _ (Around.deeper _ (envOfC _ ⟨_, _, _, _, _⟩ _ _ _)) (execs [Stmt.Assign _ _ _, Stmt.Assign _ _ _] (envOfC _ ⟨_, _, _, _, _⟩ _ _ _)) _ _ _
  k_steps
  rename Fr _ _ _ _ => F6
  rename News _ _ _ _ => N6
  exact k _ _ _ _ _ _ _ _ _ _ _ _ _ _ _ F6 N6 (if_pos rfl) ((if_neg (by decide)).trans (if_pos rfl)) (fun y a1 a2 => by rw [if_neg a1, if_neg a2]) (by assumption) (by assumption) (by assumption)
end
end Mine
end
section
open PySem PySem.W PyProof.Rows PyProof.Rows.LCg
set_option maxRecDepth 100000
namespace Mine
section
variable {prog : Program} {w : World} {A : Around} {E : Value → Shared → Prop} {s : Shared}
def RgSrc (h₀ : Heap) (L : Nat) (m : PySem.Str → Option Value) (a c : Int) (n : Nat) (news : List (Addr × Obj)) (f : Int → Int) (Q : Value → Shared → Prop) (xv : Value) (s₁ : Shared) : Prop :=
  ∃ (r : Nat) (b : Int) (t u v : Tok), xv = .ref r ∧ Fr h₀ L s₁.heap m ∧ News h₀ L s₁.heap news ∧ IsRange s₁.heap r a b c t u v ∧ Builtin.Range.small a b c = true ∧ Builtin.Range.rangeSize a b c = (n : Int) ∧ n ≤ 1000 ∧
    ∀ D h tk ys, Fr h₀ L h m → News h₀ L h ((D, lst ys) :: news) → (∀ p ∈ news, p.1 < D) → IntsAre ys ((List.range n).map fun (i : Nat) => f (a + (i : Int) * c)) → Q (.ref D) { s₁ with heap := h, toks := tk }
set_option maxHeartbeats 1000000 in
theorem rg_ListComp {elt i1 : PySem.Expr} {na : PySem.Str} {pa : Pos} {scope : Scope} {cl : List (PySem.Str × Addr)} {pos : Pos} {env : Env} {h₀ : Heap} {L : Nat} {m : PySem.Str → Option Value} {Q : Value → Shared → Prop} {a c : Int} {n : Nat} {news : List (Addr × Obj)} {f : Int → Int}
    (hclos : closureFor scope env = pure cl) (hcell : ∀ y ∈ scope.names, y.2 ≠ .cell) (hkind : scope.kind = .function)
    (hnames : ∀ y ∈ scope.names, y.2 = .local → scope.names.lookup y.1 = some .local) (hxa : scope.names.lookup na = some .local) (hh : A.handled = none) (_F₀ : Fr h₀ L s.heap m) (_N₀ : News h₀ L s.heap news)
    (helt : ∀ (g : Shared) (C : Nat) (m₂ : PySem.Str → Option Value) (i : Nat) (t : Tok) (E' : Value → Shared → Prop), i < n → News h₀ L g.heap news → g.heap.Ns C m₂ → m₂ na = some (.int (a + (i : Int) * c) t) →
      wpAny (model prog w) A (eval elt (compEnvC scope cl C env)) (fun v g' => ∃ t' k', v = .int (f (a + (i : Int) * c)) t' ∧ g' = { g with toks := k' }) E' g)
    (h : wpAny (model prog w) A (eval i1 env) (RgSrc h₀ L m a c n news f Q) E s)
    (hs : ∀ x, foldedSetIterable i1 env x = pure x := by intro _; rfl) :
    wpAny (model prog w) A (eval (.ListComp elt [⟨.Name na pa, i1, [], 0⟩] scope pos) env) Q E s := by
  rw [eval_ListComp]
  refine wpAny_comprehension_free (use := none) rfl hs hclos hkind hnames (wpAny_mono h (fun xv s₁ h₁ => ?_) fun _ _ e => e)
  obtain ⟨r, b, tt, uu, vv, rfl, F, N, hr, hsm, hrs, hn, fin⟩ := h₁
  refine wpAny_pyIter_range hr hsm ?_
  rw [hrs]
  refine wpAny_newObj_type (wpAny_newFunctionEnv hcell (by intro y hy; simp at hy) (fun h₁ hns₁ hsb₁ => ?_) hkind)
  dsimp only at hns₁ hsb₁ ⊢
  obtain ⟨z0, hz0⟩ : ∃ z : Nat, z = s₁.heap.objs.size := ⟨_, rfl⟩
  generalize hH1 : s₁.heap.push { cls := .type "range_iterator", data := .fields #[rawInt a, rawInt (n : Int), rawInt c] } = H1 at hns₁ hsb₁ ⊢
  have hH1s : H1.objs.size = z0 + 1 := by rw [← hH1, Heap.size_push, hz0]
  generalize hH2 : H1.push { cls := .type "list", dict := none, data := .seq ([] : List Value).toArray } = H2 at hns₁ hsb₁ ⊢
  have hH2s : H2.objs.size = z0 + 2 := by rw [← hH2, Heap.size_push, hH1s]
  rw [hH2s] at hns₁ hsb₁ ⊢
  rw [hH1s, ← hz0]
  have old : ∀ (c : Nat) o, c < z0 + 2 → H2.get? c = some o → h₁.get? c = some o := fun c o hc e => by
    have c1 : c ≠ z0 + 2 := by omega
    exact hsb₁.extBut c o c1 (Heap.get?_push_of_some _ e)
  have hz1 : IsRangeIter h₁ z0 (a + (0 : Int) * c) ((n : Int) - 0) c := by
    have e1 : a + (0 : Int) * c = a := by omega
    have e2 : (n : Int) - 0 = n := by omega
    rw [e1, e2]
    exact old z0 _ (by omega) (hH2 ▸ Heap.get?_push_of_some _ (hH1 ▸ hz0 ▸ Heap.get?_push_size _ rfl))
  have hacc : h₁.get? (z0 + 1) = some (lst []) := old _ _ (by omega) (hH2 ▸ hH1s ▸ Heap.get?_push_size _ rfl)
  have old0 : ∀ (c : Nat) o, s₁.heap.get? c = some o → h₁.get? c = some o := fun c o e => by
    have q : @LT.lt Nat _ c s₁.heap.objs.size := Heap.lt_size e
    exact old c o (by omega) (hH2 ▸ Heap.get?_push_of_some _ (hH1 ▸ Heap.get?_push_of_some _ e))
  have hL : @LT.lt Nat _ L z0 := by
    obtain ⟨oL, eL, _⟩ := ns_obj F.ns
    rw [hz0]
    exact Heap.lt_size eL
  have hN : ∀ p ∈ news, @LT.lt Nat _ p.1 z0 := fun p hp => hz0 ▸ Heap.lt_size (N p hp).1
  have loop : ∀ s₃ : Shared, s₃ = { s₁ with heap := h₁, toks := s₁.toks + ([] : List (PySem.Str × Value)).length } →
      codeAny (model prog w) A (.compLoop (.ListComp elt [⟨.Name na pa, i1, [], 0⟩] scope pos) 0 (.ref z0) (.ref (z0 + 1)) (compEnvC scope cl (z0 + 2) env))
        (compPost (model prog w) A E none Q (.ref (z0 + 1)) (z0 + 2)) s₃ := by
    rintro s₃ rfl
    refine kcp_loop (fun k s' => ∃ h' tk i ys m', s' = { s₁ with heap := h', toks := tk } ∧ i ≤ n ∧ k = n + 1 - i ∧
        IntsAre ys ((List.range i).map fun (i : Nat) => f (a + (i : Int) * c)) ∧ IsRangeIter h' z0 (a + (i : Int) * c) ((n : Int) - i) c ∧
        (∀ (c : Nat) o, c < z0 → s₁.heap.get? c = some o → h'.get? c = some o) ∧ h'.Ns (z0 + 2) m' ∧ h'.get? (z0 + 1) = some (lst ys)) ?_ (n + 1)
      ⟨h₁, _, 0, [], _, rfl, Nat.zero_le _, rfl, .nil, hz1, fun c o hc e => old0 c o e, hns₁, hacc⟩
    rintro k s' ⟨h', tk, i, ys, m', rfl, hi', rfl, hys, Z', K', hn', hD'⟩
    by_cases hlt : i < n
    · refine wpAny_pyNext_range_item Z' (by omega) fun h₂ Z₂ hs₂ => ?_
      have up₂ : ∀ (c : Nat) o, c ≠ z0 → h'.get? c = some o → h₂.get? c = some o := fun c o hc e => hs₂.extBut c o hc e
      have hn₂ : h₂.Ns (z0 + 2) m' := hn'.at' fun o e => up₂ (z0 + 2) o (by omega) e
      refine wpAny_of_eq (a := ()) rfl ?_
      refine wpAny_assign_Name (wpAny_storeName_local (env := compEnvC scope cl (z0 + 2) env) (lookup_relabel_local hxa) hn₂ (fun h₃ hn₃ hs₃ => ?_) (by simp [compEnvC, relabel, hkind]))
      have up₃ : ∀ (c : Nat) o, c ≠ z0 + 2 → h₂.get? c = some o → h₃.get? c = some o := fun c o hc e => hs₃.extBut c o hc e
      have N₃ : News h₀ L h₃ news := fun p hp => by
        have q := hN p hp
        exact ⟨up₃ p.1 _ (by omega) (up₂ p.1 _ (by omega) (K' p.1 _ q (N p hp).1)), (N p hp).2⟩
      refine wpAny_mono (helt _ (z0 + 2) _ i _ _ hlt N₃ hn₃ (if_pos rfl)) (fun v g' hv => ?_) fun _ _ e => e
      obtain ⟨t', k', rfl, rfl⟩ := hv
      dsimp only
      have hD₃ : h₃.get? (z0 + 1) = some (lst ys) := up₃ (z0 + 1) _ (by omega) (up₂ (z0 + 1) _ (by omega) hD')
      have hyl : ys.length = i := by rw [hys.length]; simp
      refine append_at (hsz := by show ys.toArray.size ≤ sizeLine; rw [List.size_toArray, hyl, sizeLine_eq]; omega) hD₃ fun h₄ hs₄ hD₄ => ?_
      have up₄ : ∀ (c : Nat) o, c ≠ z0 + 1 → h₃.get? c = some o → h₄.get? c = some o := fun c o hc e => hs₄.extBut c o hc e
      refine ⟨n + 1 - (i + 1), by omega, h₄, k', i + 1, ys ++ [.int (f (a + (i : Int) * c)) t'], _, rfl, hlt, rfl, ?_, ?_, fun c o hc e => up₄ c o (by omega) (up₃ c o (by omega) (up₂ c o (by omega) (K' c o hc e))), hn₃.at' fun o e => up₄ (z0 + 2) o (by omega) e, hD₄.trans (congrArg some (lst_snoc ys _))⟩
      · rw [List.range_succ, List.map_append]
        exact hys.append (.cons _ _ .nil)
      · have e1 : a + (i : Int) * c + c = a + ((i + 1 : Nat) : Int) * c := by
          rw [Int.natCast_add, Int.add_mul]; omega
        have e2 : (n : Int) - i - 1 = (n : Int) - ((i + 1 : Nat) : Int) := by omega
        rw [e1, e2] at Z₂
        exact up₄ z0 _ (by omega) (up₃ z0 _ (by omega) Z₂)
    · obtain rfl : i = n := by omega
      refine wpAny_pyNext_range_end hh Z' (by omega) fun h₂ k₂ => ?_
      have k₂' : ∀ (c : Nat) o, c ≠ z0 → h'.get? c = some o → h₂.get? c = some o := k₂
      refine ⟨m', hn'.at' fun o e => k₂' (z0 + 2) o (by omega) e, fun h₃ hs₃ => ?_⟩
      have up : ∀ (c : Nat) o, c < z0 → s₁.heap.get? c = some o → h₃.get? c = some o := fun c o hc e => by
        have c1 : c ≠ z0 + 2 := by omega
        exact hs₃.extBut c o c1 (k₂' c o (by omega) (K' c o hc e))
      have F₃ : Fr h₀ L h₃ m := ⟨F.ns.at' fun o e => up _ o hL e, fun c o e => up c o (Nat.lt_of_lt_of_le (Heap.lt_size e) (Nat.le_trans F.above (Nat.le_of_lt hL))) (F.keep c o e), F.above⟩
      have hD₃ : h₃.get? (z0 + 1) = some (lst ys) := by
        have c1 : z0 + 1 ≠ z0 + 2 := by omega
        exact hs₃.extBut _ _ c1 (k₂' (z0 + 1) _ (by omega) hD')
      refine fin (z0 + 1) h₃ tk ys F₃ (fun p hp => ?_) (fun p hp => Nat.lt_of_lt_of_le (hN p hp) (Nat.le_add_right _ _)) hys
      rcases List.mem_cons.mp hp with rfl | hp
      · refine ⟨hD₃, ?_, ?_⟩
        · show z0 + 1 ≠ L
          omega
        · cases e : h₀.get? (z0 + 1) with
          | none => rfl
          | some o =>
            have q1 : @LT.lt Nat _ (z0 + 1) h₀.objs.size := Heap.lt_size e
            have q2 : @LE.le Nat _ h₀.objs.size L := F.above
            omega
      · exact ⟨up _ _ (hN p hp) (N p hp).1, (N p hp).2⟩
  have ri : ∀ {R : Value → Shared → Prop} {E' : Value → Shared → Prop} {s₄ : Shared}, IsRangeIter s₄.heap z0 (a + (0 : Int) * c) ((n : Int) - 0) c → R (.ref z0) s₄ → wpAny (model prog w) A (pyIter (.ref z0)) R E' s₄ := fun hz q => wpAny_pyIter_rangeiter hz q
  exact codeAny_compStart_list (loop _ rfl) (ri hz1 (loop _ rfl))
end
end Mine
end
section
open PySem PySem.W PyProof.Rows
set_option maxRecDepth 100000
namespace Mine
local macro_rules | `(tactic| walk_at "my use") => `(tactic| (
    (case k1 => k_asm); (case k2 => k_asm); (case k3 => k_asm); (case k4 => k_asm); (case k5 => k_asm); (case kK => first | exact rfl | assumption); (case kd => ktr_room)))
local macro_rules | `(tactic| walk_at "my after") => `(tactic| (intro t9 h9 tk9 F9 N9; (try dsimp only); (try k_fold)))
local macro_rules | `(tactic| walk_at "call ref") => `(tactic| (k_here; (with_reducible show wpAny _ _ (call (Value.ref 26) [Value.bytes _ _]) _ _ _); k_dflt (refine' ck_call ?k1 ?k2 ?k3 ?k4 ?k5 ?kK ?kd ?kz ?_; (walk_at "my use"); (case kz => first | omega | (simp only [byteArr_size, List.length_map]; omega)); (walk_at "my after"))))
local macro_rules | `(tactic| walk_at "call ref") => `(tactic| (k_here; (with_reducible show wpAny _ _ (call (Value.ref 26) [Value.ref _]) _ _ _); k_dflt (refine' ckA_call ?k1 ?k2 ?k3 ?k4 ?k5 ?kK ?kd ?km ?kz ?_; (walk_at "my use"); (case km => k_mem); (case kz => omega); (walk_at "my after"))))
local macro_rules | `(tactic| walk_at "call ref") => `(tactic| (k_here; (with_reducible show wpAny _ _ (call (Value.ref 33) [Value.bytes _ _]) _ _ _); k_dflt (refine' ls_call ?k1 ?k2 ?k3 ?k4 ?k5 ?kK ?kd ?ku ?kz ?_; (walk_at "my use"); (case ku => ktr_units); (case kz => first | omega | (simp only [byteArr_size, List.length_map]; omega)); (walk_at "my after"))))
local macro_rules | `(tactic| walk_at "call ref") => `(tactic| (k_here; (with_reducible show wpAny _ _ (call (Value.ref 21) [Value.int _ _, Value.int _ _]) _ _ _); k_dflt (refine' ca_call ?k1 ?k2 ?k3 ?k4 ?k5 ?kK ?kd ?ku ?_; (walk_at "my use"); (case ku => ktr_units); (walk_at "my after"))))
local macro_rules | `(tactic| walk_at "call ref") => `(tactic| (k_here; (with_reducible show wpAny _ _ (call (Value.ref 38) [Value.ref _]) _ _ _); k_dflt (refine' lo_call ?k1 ?k2 ?k3 ?k4 ?k5 ?kK ?kd ?ku ?km ?ki ?kn ?kz ?_; (walk_at "my use"); (case ku => ktr_units); (case km => k_mem); (case ki => assumption); (case kn => assumption); (case kz => omega); intro b9 t9 h9 tk9 hb9 F9 N9; (try dsimp only); (try k_fold))))
def word (ks : List Int) (x : Int) : Int := ks.getD x.toNat 0 * 256 + ks.getD (x + 1).toNat 0
theorem small_rg {k : Nat} (h : k ≤ 32) : Builtin.Range.small 0 ((k : Int) - 1) 2 = true := by
  have q : ∀ k : Fin 33, Builtin.Range.small 0 ((k.val : Int) - 1) 2 = true := by decide +kernel
  exact q ⟨k, by omega⟩
theorem size_rg {k : Nat} (h : k ≤ 32) : Builtin.Range.rangeSize 0 ((k : Int) - 1) 2 = ((k / 2 : Nat) : Int) := by
  have q : ∀ k : Fin 33, Builtin.Range.rangeSize 0 ((k.val : Int) - 1) 2 = ((k.val / 2 : Nat) : Int) := by decide +kernel
  exact q ⟨k, by omega⟩
theorem word_in (b : Array UInt8) (x : Int) : 0 ≤ word (KBw.bInts b) x ∧ word (KBw.bInts b) x < 65536 := by
  unfold word
  have h1 := KBw.getD_in (ks := KBw.bInts b) (j := x.toNat) fun k hk => KBw.ints_in hk
  have h2 := KBw.getD_in (ks := KBw.bInts b) (j := (x + 1).toNat) fun k hk => KBw.ints_in hk
  omega
theorem words_in (ns : List Int) (b : Array UInt8) (l : List Nat) : ∀ n ∈ l.map (fun (i : Nat) => word (KBw.bInts b) (0 + (i : Int) * 2)) ++ [(ns.getD (Int.toNat 4) 0).fmod 65536, 0], 0 ≤ n ∧ n < 65536 := by
  intro n hn
  rcases List.mem_append.mp hn with h | h
  · obtain ⟨i, _, rfl⟩ := List.mem_map.mp h
    exact word_in b _
  · rcases List.mem_cons.mp h with rfl | h
    · exact ⟨Int.fmod_nonneg_of_pos _ (by decide), Int.fmod_lt_of_pos _ (by decide)⟩
    · rcases List.mem_cons.mp h with rfl | h
      · omega
      · cases h
theorem wd_elt {prog : Program} {w : World} {A : Around} {E : Value → Shared → Prop} {scope : Scope} {cl : List (PySem.Str × Addr)} {env : Env} {na no : PySem.Str} {p1 p2 p3 p4 p5 p6 p7 p8 p9 p10 : Pos} {k1 k2 : Nat} {g : Shared} {C c L : Nat} {m₂ : PySem.Str → Option Value} {x : Int} {t : Tok} {b : Array UInt8} {tb : Tok} {oc : Obj} {h₀ : Heap} {news : List (Addr × Obj)}
    (hkind : scope.kind = .function) (hxa : scope.names.lookup na = some .local) (hxo : (compEnvC scope cl C env).kindOf no = some .cell) (hda : (na == ("__debug__" : PySem.Str)) = false) (hdo : (no == ("__debug__" : PySem.Str)) = false) (hc : cl.lookup no = some c)
    (dc : oc.data = .cell (some (.bytes b tb))) (N : News h₀ L g.heap news) (hm : (c, oc) ∈ news) (hz : b.size ≤ 1000)
    (h0 : 0 ≤ x) (h1 : x + 1 < (b.size : Int)) (hn : g.heap.Ns C m₂) (ha : m₂ na = some (.int x t)) :
    wpAny (model prog w) A (eval (.BinOp (.BinOp (.Subscript (.Name no p1) (.Name na p2) p3) .Mult (.Constant (.int 256) k1 p4) p5) .Add (.Subscript (.Name no p6) (.BinOp (.Name na p7) .Add (.Constant (.int 1) k2 p8) p9) p10) pos) (compEnvC scope cl C env))
      (fun v g' => ∃ t' k', v = .int (word (KBw.bInts b) x) t' ∧ g' = { g with toks := k' }) E g := by
  have hk' : (compEnvC scope cl C env).scope.kind = .function := by simp [compEnvC, relabel, hkind]
  have hl : (KBw.bInts b).length = b.size := KBw.ints_length b
  have o1 : g.heap.get? c = some oc := (N _ hm).1
  refine wpAny_BinOp (wpAny_BinOp (Subscript_ (lcf_cell N hc hm dc (wpAny_Name (wpAny_loadName_local hk' (lookup_relabel_local hxa) hn ha ?_) hda) hk' hxo hdo)))
  refine KBw.item_K rfl (by omega) h0 (by omega) (fun t1 tk1 a1 a2 => ?_) (by rfl) (by intro _; rfl)
  refine wpAny_Constant_int ?_
  refine mul_int ?_ (by mul_fits)
  refine Subscript_ (wpAny_Name (wpAny_loadName_cell hk' hxo hc ⟨oc, o1, dc⟩ ?_) hdo)
  refine wpAny_BinOp (wpAny_Name (wpAny_loadName_local hk' (lookup_relabel_local hxa) hn ha ?_) hda)
  refine wpAny_Constant_int ?_
  refine add_int ?_
  refine KBw.item_K rfl (by omega) (by omega) (by omega) (fun t2 tk2 b1 b2 => ?_) (by rfl) (by intro _; rfl)
  refine add_int ?_
  exact ⟨_, _, rfl, rfl⟩
theorem rg_at {n : Nat} {i : Nat} {z : Nat} (hi : i < n) (hn : n = z / 2) : 0 ≤ (0 : Int) + (i : Int) * 2 ∧ (0 : Int) + (i : Int) * 2 + 1 < (z : Int) := by omega
section
variable {w : World} {mean : ExcName → Option Value} {mg mb : Str → Option Value} {h₀ : Heap} {L fa : Addr} {cd : Value} {m : Str → Option Value} {s : Shared} {E : Value → Shared → Prop}
  {b : Array UInt8} {tb : Tok} {oc : Obj} {news : List (Addr × Obj)}
set_option maxHeartbeats 8000000 in
theorem segD9 {Q : Flow → Shared → Prop} {x : Int} {tx : Tok} (B : Below callerA h₀ [] h₀) (X : (hd.heap_39 w.params).In h₀) (T : Top hd.view_39 (looseW hd.view_39 []) mean mg mb h₀)
    (F : Fr h₀ L s.heap m) (e1 : m (Str.ofString "total") = some (.int x tx)) (hx : x = lsum (KBw.bInts b)) (dc : oc.data = .cell (some (.bytes b tb))) (N : News h₀ L s.heap ((L + 1, oc) :: news)) (hb : b.size ≤ 32)
    (k : ∀ h' tk', Fr h₀ L h' m → News h₀ L h' ((L + 1, oc) :: news) → Q .next { s with heap := h', toks := tk' }) :
    wpAny (model PySem.Challenge.rw_bi0008_01.row.prog w) (callerA.deeper (envOfC (Str.ofString "law") lawScope L fa cd)) (execs [lawBody[9]] (envOfC (Str.ofString "law") lawScope L fa cd)) Q E s := by
  have em : (fun y => if y = Str.ofString "total" then some (Value.int x tx) else m y) = m := funext fun y => put_at e1
  have F' := fr_put F e1
  rw [← em] at k
  clear em e1 F
  revert X
  k_fill
  intro X
  show wpAny _ (Around.deeper _ (envOfC _ ⟨_, _, _, _, _⟩ _ _ _)) (execs [Stmt.If _ _ _ _] (envOfC _ ⟨_, _, _, _, _⟩ _ _ _)) _ _ _
  k_steps
  · exact absurd hx ‹_›
  · rename Fr _ _ _ _ => F8
    rename News _ _ _ _ => N8
    exact k _ _ F8 N8
def wordsComp : PySem.Expr := match lawBody.drop 10 with
  | .Assign _ (.BinOp lc _ _ _) _ :: _ => lc
  | _ => .Name (Str.ofString "") ⟨0, 0, 0, 0⟩
set_option maxHeartbeats 8000000 in
theorem wc {Q : Value → Shared → Prop} {ts : Tok} {vs : List Value} {ns : List Int} {Dn : Addr} (B : Below callerA h₀ [] h₀) (X : (hd.heap_39 w.params).In h₀) (T : Top hd.view_39 (looseW hd.view_39 []) mean mg mb h₀)
    (F : Fr h₀ L s.heap (fun y => if y = Str.ofString "size" then some (.int (b.size : Int) ts) else if y = Str.ofString "numbers" then some (.ref Dn) else m y)) (dc : oc.data = .cell (some (.bytes b tb)))
    (N : News h₀ L s.heap [(Dn, PySem.W.listOf vs.toArray 0), (L + 1, oc)]) (hb : b.size ≤ 32) (hI : IntsAre vs ns) (hn : ns.length = 46)
    (k : ∀ D h' tk' ys, Fr h₀ L h' (fun y => if y = Str.ofString "size" then some (.int (b.size : Int) ts) else if y = Str.ofString "numbers" then some (.ref Dn) else m y) → News h₀ L h' [(D, LCg.lst ys), (Dn, PySem.W.listOf vs.toArray 0), (L + 1, oc)] → Dn < D → L + 1 < D → IntsAre ys ((List.range (b.size / 2)).map fun (i : Nat) => word (KBw.bInts b) (0 + (i : Int) * 2)) → Q (.ref D) { s with heap := h', toks := tk' }) :
    wpAny (model PySem.Challenge.rw_bi0008_01.row.prog w) (callerA.deeper (envOfC (Str.ofString "law") lawScope L fa cd)) (eval wordsComp (envOfC (Str.ofString "law") lawScope L fa cd)) Q E s := by
  revert X
  k_fill
  intro X
  show wpAny _ (Around.deeper _ (envOfC _ ⟨_, _, _, _, _⟩ _ _ _)) (eval (.ListComp _ [⟨.Name _ _, _, [], 0⟩] _ _) (envOfC _ ⟨_, _, _, _, _⟩ _ _ _)) _ _ _
  k_dflt (refine' rg_ListComp (a := 0) (c := 2) (n := b.size / 2) (f := word (KBw.bInts b)) ?c1 ?c2 ?c3 ?c4 ?c5 ?c6 F N ?helt ?hsrc ?c9)
  (case c9 => intro _; rfl)
  (case c1 => rfl)
  (case c2 => decide)
  (case c3 => rfl)
  (case c4 => decide)
  (case c5 => rfl)
  (case c6 => rfl)
  (case helt =>
     intro g C m₂ i t E' hi N' hn ha
     exact wd_elt (by rfl) (by rfl) (by rfl) (by decide) (by decide) (by rfl) dc N' (by k_mem) (by omega) (rg_at hi rfl).1 (rg_at hi rfl).2 hn ha)
  k_steps
  rename Fr _ _ _ _ => F9
  rename News _ _ _ _ => N9
  refine ⟨_, _, _, _, _, rfl, F9, N9, by assumption, small_rg hb, size_rg hb, by omega, ?_⟩
  intro D h tk ys F8 N8 l8 i8
  exact k D h tk ys F8 N8 (l8 _ (.head _)) (l8 _ (.tail _ (.head _))) i8
set_option maxHeartbeats 8000000 in
theorem segE1 {Q : Flow → Shared → Prop} {ts : Tok} {vs : List Value} {ns : List Int} {Dn : Addr} (B : Below callerA h₀ [] h₀) (X : (hd.heap_39 w.params).In h₀) (T : Top hd.view_39 (looseW hd.view_39 []) mean mg mb h₀)
    (F : Fr h₀ L s.heap (fun y => if y = Str.ofString "size" then some (.int (b.size : Int) ts) else if y = Str.ofString "numbers" then some (.ref Dn) else m y)) (dc : oc.data = .cell (some (.bytes b tb)))
    (N : News h₀ L s.heap [(Dn, PySem.W.listOf vs.toArray 0), (L + 1, oc)]) (hb : b.size ≤ 32) (hI : IntsAre vs ns) (hn : ns.length = 46)
    (k : ∀ h' tk' Wd ws W, IntsAre ws W → (∀ n ∈ W, 0 ≤ n ∧ n < 65536) → 2 ≤ W.length → W.length ≤ 18 → L + 1 < Wd → Dn < Wd →
      Fr h₀ L h' (fun y => if y = Str.ofString "words" then some (.ref Wd) else if y = Str.ofString "size" then some (.int (b.size : Int) ts) else if y = Str.ofString "numbers" then some (.ref Dn) else m y) →
      News h₀ L h' [(Wd, PySem.W.listOf ws.toArray 0), (Dn, PySem.W.listOf vs.toArray 0), (L + 1, oc)] → Q .next { s with heap := h', toks := tk' }) :
    wpAny (model PySem.Challenge.rw_bi0008_01.row.prog w) (callerA.deeper (envOfC (Str.ofString "law") lawScope L fa cd)) (execs [lawBody[10]] (envOfC (Str.ofString "law") lawScope L fa cd)) Q E s := by
  have hks : KBw.bInts b = KBw.bInts b := rfl
  have hlen2 : (KBw.bInts b).length = b.size := KBw.ints_length b
  revert X
  k_fill
  intro X
  show wpAny _ (Around.deeper _ (envOfC _ ⟨_, _, _, _, _⟩ _ _ _)) (execs [Stmt.Assign [.Name _ _] (.BinOp wordsComp _ _ _) _] (envOfC _ ⟨_, _, _, _, _⟩ _ _ _)) _ _ _
  k_steps
  k_dflt (refine @wc w mean mg mb h₀ L fa cd m s E b tb oc _ ts vs ns Dn B X T F dc N hb hI hn ?_)
  intro D8 h8 tk8 ys8 F8 N8 l8 l9 i8
  (try dsimp only)
  k_steps
  rename Fr _ _ _ _ => F9
  rename News _ _ _ _ => N9
  have hL8 : ys8.length = b.size / 2 := by rw [i8.length]; simp
  k_dflt (refine' kmk_add_ints F9 N9 ?a ?b i8 (.cons _ _ (.cons _ _ .nil)) ?_ ?z)
  (case a => kmk_list)
  (case b => kmk_list)
  (case z => simp only [sizeLine_eq, List.length_map, List.length_range, List.length_cons, List.length_nil]; omega)
  intro D7 ws7 h7 F7 N7 l7 i7
  clear i8 N9 F9
  (try dsimp only)
  k_steps
  rename Fr _ _ _ _ => F6
  rename News _ _ _ _ => N6
  exact k _ _ _ _ _ i7 (words_in ns b _) (by simp only [List.length_append, List.length_cons, List.length_nil]; omega) (by simp only [List.length_append, List.length_map, List.length_range, List.length_cons, List.length_nil]; omega)
    (l7 _ (.tail _ (.tail _ (.tail _ (.head _))))) (l7 _ (.tail _ (.tail _ (.head _)))) F6 (news_cons N6 (.head _) (news_cons N6 (.tail _ (.tail _ (.tail _ (.head _)))) (news_cons N6 (.tail _ (.tail _ (.tail _ (.tail _ (.head _))))) News.nil)))
end
end Mine
end
section
open PySem PySem.W PyProof.Rows
set_option maxRecDepth 100000
namespace Mine
local macro_rules | `(tactic| walk_at "my use") => `(tactic| (
    (case k1 => k_asm); (case k2 => k_asm); (case k3 => k_asm); (case k4 => k_asm); (case k5 => k_asm); (case kK => first | exact rfl | assumption); (case kd => ktr_room)))
local macro_rules | `(tactic| walk_at "my after") => `(tactic| (intro t9 h9 tk9 F9 N9; (try dsimp only); (try k_fold)))
local macro_rules | `(tactic| walk_at "call ref") => `(tactic| (k_here; (with_reducible show wpAny _ _ (call (Value.ref 26) [Value.bytes _ _]) _ _ _); k_dflt (refine' ck_call ?k1 ?k2 ?k3 ?k4 ?k5 ?kK ?kd ?kz ?_; (walk_at "my use"); (case kz => first | omega | (simp only [byteArr_size, List.length_map]; omega)); (walk_at "my after"))))
local macro_rules | `(tactic| walk_at "call ref") => `(tactic| (k_here; (with_reducible show wpAny _ _ (call (Value.ref 26) [Value.ref _]) _ _ _); k_dflt (refine' ckA_call ?k1 ?k2 ?k3 ?k4 ?k5 ?kK ?kd ?km ?kz ?_; (walk_at "my use"); (case km => k_mem); (case kz => omega); (walk_at "my after"))))
local macro_rules | `(tactic| walk_at "call ref") => `(tactic| (k_here; (with_reducible show wpAny _ _ (call (Value.ref 33) [Value.bytes _ _]) _ _ _); k_dflt (refine' ls_call ?k1 ?k2 ?k3 ?k4 ?k5 ?kK ?kd ?ku ?kz ?_; (walk_at "my use"); (case ku => ktr_units); (case kz => first | omega | (simp only [byteArr_size, List.length_map]; omega)); (walk_at "my after"))))
local macro_rules | `(tactic| walk_at "call ref") => `(tactic| (k_here; (with_reducible show wpAny _ _ (call (Value.ref 21) [Value.int _ _, Value.int _ _]) _ _ _); k_dflt (refine' ca_call ?k1 ?k2 ?k3 ?k4 ?k5 ?kK ?kd ?ku ?_; (walk_at "my use"); (case ku => ktr_units); (walk_at "my after"))))
theorem octs_size {b : Array UInt8} {W : List Int} (h : KBw.bInts b = octs W) : b.size = 2 * W.length := by
  rw [← KBw.ints_length b, h, octs_len]
theorem set_in {W : List Int} {i : Nat} {x : Int} (hw : ∀ n ∈ W, 0 ≤ n ∧ n < 65536) (hx : 0 ≤ x ∧ x < 65536) : ∀ n ∈ W.set i x, 0 ≤ n ∧ n < 65536 := fun n hn =>
  (List.mem_or_eq_of_mem_set hn).elim (hw n) fun e => e ▸ hx
theorem zero_in : (0 : Int) ≤ 0 ∧ (0 : Int) < 65536 := by decide
theorem set_len {W : List Int} {i : Nat} {x : Int} (h : W.length ≤ 18) : (W.set i x).length ≤ 32 := by rw [List.length_set]; omega
theorem set_len2 {W : List Int} {i j : Nat} {x y : Int} (h : W.length ≤ 18) : ((W.set i x).set j y).length ≤ 32 := by rw [List.length_set, List.length_set]; omega
theorem octs_64 {b : Array UInt8} {W : List Int} (h : KBw.bInts b = octs W) (hW : W.length ≤ 32) : b.size ≤ 64 := by
  rw [octs_size h]
  omega
local macro_rules | `(tactic| walk_at "call ref") => `(tactic| (k_here; (with_reducible show wpAny _ _ (call (Value.ref 26) [Value.bytes _ _]) _ _ _); k_dflt (refine' ck_call ?k1 ?k2 ?k3 ?k4 ?k5 ?kK ?kd ?kz ?_; (walk_at "my use"); (case kz => assumption); (walk_at "my after"))))
local macro_rules | `(tactic| walk_at "call ref") => `(tactic| (k_here; (with_reducible show wpAny _ _ (call (Value.ref 38) [Value.ref _]) _ _ _); k_dflt (refine' lo_call ?k1 ?k2 ?k3 ?k4 ?k5 ?kK ?kd ?ku ?km ?ki ?kn ?kz ?_; (walk_at "my use"); (case ku => ktr_units); (case km => k_mem); (case ki => assumption); (case kn => first | assumption | exact set_in (by assumption) zero_in | exact set_in (by assumption) (by assumption) | exact set_in (set_in (by assumption) (by assumption)) zero_in); (case kz => first | omega | exact set_len (by assumption) | exact set_len2 (by assumption)); intro b9 t9 h9 tk9 hb9 F9 N9; (have hz9 := octs_64 hb9 (by first | omega | exact set_len (by assumption) | exact set_len2 (by assumption))); (try dsimp only); (try k_fold))))
theorem idx_lo {x : Int} {n : Nat} (h : 2 ≤ n) : 0 ≤ x.fmod (n : Int) := Int.fmod_nonneg_of_pos _ (by omega)
theorem idx_hi {x : Int} {n : Nat} (h : 2 ≤ n) : x.fmod (n : Int) < (n : Int) := Int.fmod_lt_of_pos _ (by omega)
theorem idx_fit {x : Int} {n : Nat} (h : 2 ≤ n) (h' : n ≤ 18) : x.fmod (n : Int) < 2 ^ 63 := by
  have := idx_hi (x := x) h
  omega
local macro_rules | `(tactic| walk_at "setItem ref int") => `(tactic| (k_here; (with_reducible show wpAny _ _ (setItem (Value.ref _) (Value.int _ _) (Value.int _ _)) _ _ _); k_dflt (refine' ksa_set ?k1 ?k2 ?k3 ?k4 ?k5 ?k6 ?k7 ?_; (case k1 => k_asm); (case k2 => k_asm); (case k3 => k_upd); (case k4 => with_reducible assumption); (case k5 => first | omega | exact idx_lo (by assumption)); (case k6 => first | omega | exact idx_hi (by assumption)); (case k7 => first | omega | exact idx_fit (by assumption) (by assumption)); k_whole); intro h' F' N' hi' hl' hs'; (try k_sweep)))
section
variable {w : World} {mean : ExcName → Option Value} {mg mb : Str → Option Value} {h₀ : Heap} {L fa : Addr} {cd : Value} {m : Str → Option Value} {s : Shared} {E : Value → Shared → Prop}
  {news : List (Addr × Obj)}
set_option maxHeartbeats 8000000 in
theorem segE2 {Q : Flow → Shared → Prop} {vs ws : List Value} {ns W : List Int} {Dn Wd : Addr} {oc : Obj} (B : Below callerA h₀ [] h₀) (X : (hd.heap_39 w.params).In h₀) (T : Top hd.view_39 (looseW hd.view_39 []) mean mg mb h₀)
    (F : Fr h₀ L s.heap (fun y => if y = Str.ofString "words" then some (.ref Wd) else if y = Str.ofString "numbers" then some (.ref Dn) else m y))
    (N : News h₀ L s.heap [(Wd, PySem.W.listOf ws.toArray 0), (Dn, PySem.W.listOf vs.toArray 0), (L + 1, oc)]) (hI : IntsAre vs ns) (hn : ns.length = 46) (hW : IntsAre ws W) (hw : ∀ n ∈ W, 0 ≤ n ∧ n < 65536) (h2 : 2 ≤ W.length) (h18 : W.length ≤ 18) (l1 : @LT.lt Nat _ Dn Wd ∧ @LT.lt Nat _ (L + 1) Wd)
    (k : ∀ h' tk' m' ws' fx told tf tt, Fr h₀ L h' m' → News h₀ L h' [(Wd, PySem.W.listOf ws'.toArray 0), (Dn, PySem.W.listOf vs.toArray 0), (L + 1, oc)] → 0 ≤ fx → fx < (W.length : Int) → told = 65535 - lsum (octs (W.set fx.toNat 0)) → IntsAre ws' (W.set fx.toNat 0) →
      m' (Str.ofString "field") = some (.int fx tf) → m' (Str.ofString "told") = some (.int told tt) → m' (Str.ofString "words") = some (.ref Wd) → m' (Str.ofString "numbers") = some (.ref Dn) → Q .next { s with heap := h', toks := tk' }) :
    wpAny (model PySem.Challenge.rw_bi0008_01.row.prog w) (callerA.deeper (envOfC (Str.ofString "law") lawScope L fa cd)) (execs [lawBody[11], lawBody[12], lawBody[13]] (envOfC (Str.ofString "law") lawScope L fa cd)) Q E s := by
  revert X
  k_fill
  intro X
  show wpAny _ (Around.deeper _ (envOfC _ ⟨_, _, _, _, _⟩ _ _ _)) (execs [Stmt.Assign _ _ _, Stmt.Assign _ _ _, Stmt.Assign _ _ _] (envOfC _ ⟨_, _, _, _, _⟩ _ _ _)) _ _ _
  k_steps
  rename Fr _ _ _ _ => F9
  rename News _ _ _ _ => N9
  exact k _ _ _ _ _ _ _ _ F9 N9 (idx_lo h2) (idx_hi h2) (by rw [‹KBw.bInts _ = octs _›]) (by assumption) ((if_neg (by decide)).trans (if_pos rfl)) (if_pos rfl) ((if_neg (by decide)).trans ((if_neg (by decide)).trans (if_pos rfl))) ((if_neg (by decide)).trans ((if_neg (by decide)).trans ((if_neg (by decide)).trans (if_pos rfl))))
end
end Mine
end
section
open PySem PySem.W PyProof.Rows PyProof.Rows.LSm
namespace Mine
theorem any_nums {prog : Program} {w : World} {A : Around} {E : Value → Shared → Prop} {s : Shared} {h₀ : Heap} {L l : Addr} {m : PySem.Str → Option Value} {news : List (Addr × Obj)} {vs : List Value} {ns : List Int} {Q : Value → Shared → Prop} (F : Fr h₀ L s.heap m) (N : News h₀ L s.heap news) (hh : A.handled = none) (hl : s.heap.IsList l vs.toArray) (hb : IntsAre vs ns)
    (h : ∀ h' tk, Fr h₀ L h' m → News h₀ L h' news → Q (.bool ((ns.map (· != 0)).any id)) { s with heap := h', toks := tk }) : wpAny (model prog w) A (call (.builtin "any") [.ref l]) Q E s := by
  have hlt : l < s.heap.objs.size := by obtain ⟨_, e, _⟩ := hl; exact Heap.lt_size e
  refine call_any_walk (wpAny_pyIter_list hl ?_)
  refine ⟨s.heap.objs.size, [s.heap.objs.size, l], [s.heap.objs.size], vs.toArray.size, _, _, fun i => ((ns.map (· != 0))[i]?).getD false, rfl, Walks.list (A := A.in1) hh _ l (Nat.ne_of_lt hlt) vs.toArray,
    ⟨⟨_, Heap.get?_push_size _ rfl, rfl, rfl⟩, hl.push _⟩, fun i v s' Q' E' hP hQ => ?_, fun h' tk hk => ?_⟩
  · obtain ⟨b, t, rfl, e⟩ := IntsAre.at hb i v (by simpa using hP)
    simp only [List.getElem?_map, e, Option.map_some, Option.getD_some] at hQ
    exact truthy_int hQ
  · have e : ((List.range vs.toArray.size).any fun i => ((ns.map (· != 0))[i]?).getD false) = (ns.map (· != 0)).any id := by
      rw [List.size_toArray, hb.length, ← List.length_map (f := (· != (0 : Int)))]; exact range_any _
    rw [e]
    exact h h' tk (F.keeps (kept_iter hk)) (N.grown (kept_iter hk))
end Mine
end
section
open PySem PySem.W PyProof.Rows
set_option maxRecDepth 100000
namespace Mine
local macro_rules | `(tactic| walk_at "my use") => `(tactic| (
    (case k1 => k_asm); (case k2 => k_asm); (case k3 => k_asm); (case k4 => k_asm); (case k5 => k_asm); (case kK => first | exact rfl | assumption); (case kd => ktr_room)))
local macro_rules | `(tactic| walk_at "my after") => `(tactic| (intro t9 h9 tk9 F9 N9; (try dsimp only); (try k_fold)))
local macro_rules | `(tactic| walk_at "call ref") => `(tactic| (k_here; (with_reducible show wpAny _ _ (call (Value.ref 26) [Value.bytes _ _]) _ _ _); k_dflt (refine' ck_call ?k1 ?k2 ?k3 ?k4 ?k5 ?kK ?kd ?kz ?_; (walk_at "my use"); (case kz => first | omega | (simp only [byteArr_size, List.length_map]; omega)); (walk_at "my after"))))
local macro_rules | `(tactic| walk_at "call ref") => `(tactic| (k_here; (with_reducible show wpAny _ _ (call (Value.ref 26) [Value.ref _]) _ _ _); k_dflt (refine' ckA_call ?k1 ?k2 ?k3 ?k4 ?k5 ?kK ?kd ?km ?kz ?_; (walk_at "my use"); (case km => k_mem); (case kz => omega); (walk_at "my after"))))
local macro_rules | `(tactic| walk_at "call ref") => `(tactic| (k_here; (with_reducible show wpAny _ _ (call (Value.ref 33) [Value.bytes _ _]) _ _ _); k_dflt (refine' ls_call ?k1 ?k2 ?k3 ?k4 ?k5 ?kK ?kd ?ku ?kz ?_; (walk_at "my use"); (case ku => ktr_units); (case kz => first | omega | (simp only [byteArr_size, List.length_map]; omega)); (walk_at "my after"))))
local macro_rules | `(tactic| walk_at "call ref") => `(tactic| (k_here; (with_reducible show wpAny _ _ (call (Value.ref 21) [Value.int _ _, Value.int _ _]) _ _ _); k_dflt (refine' ca_call ?k1 ?k2 ?k3 ?k4 ?k5 ?kK ?kd ?ku ?_; (walk_at "my use"); (case ku => ktr_units); (walk_at "my after"))))
local macro_rules | `(tactic| walk_at "call ref") => `(tactic| (k_here; (with_reducible show wpAny _ _ (call (Value.ref 26) [Value.bytes _ _]) _ _ _); k_dflt (refine' ck_call ?k1 ?k2 ?k3 ?k4 ?k5 ?kK ?kd ?kz ?_; (walk_at "my use"); (case kz => assumption); (walk_at "my after"))))
local macro_rules | `(tactic| walk_at "call ref") => `(tactic| (k_here; (with_reducible show wpAny _ _ (call (Value.ref 38) [Value.ref _]) _ _ _); k_dflt (refine' lo_call ?k1 ?k2 ?k3 ?k4 ?k5 ?kK ?kd ?ku ?km ?ki ?kn ?kz ?_; (walk_at "my use"); (case ku => ktr_units); (case km => k_mem); (case ki => assumption); (case kn => first | assumption | exact set_in (by assumption) zero_in | exact set_in (by assumption) (by assumption) | exact set_in (set_in (by assumption) (by assumption)) zero_in); (case kz => first | omega | exact set_len (by assumption) | exact set_len2 (by assumption)); intro b9 t9 h9 tk9 hb9 F9 N9; (have hz9 := octs_64 hb9 (by first | omega | exact set_len (by assumption) | exact set_len2 (by assumption))); (try dsimp only); (try k_fold))))
local macro_rules | `(tactic| walk_at "setItem ref int") => `(tactic| (k_here; (with_reducible show wpAny _ _ (setItem (Value.ref _) (Value.int _ _) (Value.int _ _)) _ _ _); k_dflt (refine' ksa_set ?k1 ?k2 ?k3 ?k4 ?k5 ?k6 ?k7 ?_; (case k1 => k_asm); (case k2 => k_asm); (case k3 => k_upd); (case k4 => with_reducible assumption); (case k5 => first | omega | exact idx_lo (by assumption)); (case k6 => first | omega | exact idx_hi (by assumption)); (case k7 => first | omega | exact idx_fit (by assumption) (by assumption)); k_whole); intro h' F' N' hi' hl' hs'; (try k_sweep)))
theorem td_no {b : Array UInt8} {W : List Int} {told : Int} (h : KBw.bInts b = octs W) (ht : told = 65535 - lsum (octs W)) (a : told ≠ 65535 - lsum (KBw.bInts b)) : False := a (by rw [h]; exact ht)
theorem no_check {b : Array UInt8} {W : List Int} (h : KBw.bInts b = octs W) (hc : 65535 - lsum (octs W) = 0) (a : 65535 - lsum (KBw.bInts b) ≠ 0) : False := a (by rw [h]; exact hc)
local macro_rules | `(tactic| walk_at "call builtin:any") => `(tactic| (k_here; (with_reducible show wpAny _ _ (call (Value.builtin "any") [Value.ref _]) _ _ _); k_dflt (refine' any_nums ?k1 ?k2 ?k3 ?k4 ?k5 ?_; (case k1 => k_asm); (case k2 => k_asm); (case k3 => rfl); (case k4 => exact News.isList (by k_asm) (by k_mem)); (case k5 => assumption)); intro h9 tk9 F9 N9; (try dsimp only); (try k_fold)))
def hopIter : PySem.Expr := match lawBody.drop 14 with
  | .For _ it _ _ _ :: _ => it
  | _ => .Name (Str.ofString "") ⟨0, 0, 0, 0⟩
def hopBody : List Stmt := match lawBody.drop 14 with
  | .For _ _ b _ _ :: _ => b
  | _ => []
section
variable {w : World} {mean : ExcName → Option Value} {mg mb : Str → Option Value} {h₀ : Heap} {L fa : Addr} {cd : Value} {m : Str → Option Value} {s : Shared} {E : Value → Shared → Prop}
  {news : List (Addr × Obj)}
set_option maxHeartbeats 8000000 in
theorem it14 {Q : Value → Shared → Prop} {vs : List Value} {ns : List Int} {Dn : Addr} (X : (hd.heap_39 w.params).In h₀) (T : Top hd.view_39 (looseW hd.view_39 []) mean mg mb h₀)
    (F : Fr h₀ L s.heap (fun y => if y = Str.ofString "numbers" then some (.ref Dn) else m y)) (N : News h₀ L s.heap ((Dn, PySem.W.listOf vs.toArray 0) :: news)) (hI : IntsAre vs ns) (hn : ns.length = 46)
    (k : ∀ h' tk' Lt vt p, IntsAre vt p → Fr h₀ L h' (fun y => if y = Str.ofString "numbers" then some (.ref Dn) else m y) → News h₀ L h' ((Lt, PySem.W.listOf vt.toArray 0) :: (Dn, PySem.W.listOf vs.toArray 0) :: news) → @LT.lt Nat _ Dn Lt ∧ AllLt Lt news → Q (.ref Lt) { s with heap := h', toks := tk' }) :
    wpAny (model PySem.Challenge.rw_bi0008_01.row.prog w) (callerA.deeper (envOfC (Str.ofString "law") lawScope L fa cd)) (eval hopIter (envOfC (Str.ofString "law") lawScope L fa cd)) Q E s := by
  revert X
  k_fill
  intro X
  show wpAny _ (Around.deeper _ (envOfC _ ⟨_, _, _, _, _⟩ _ _ _)) (eval (Expr.BinOp _ _ _ _) (envOfC _ ⟨_, _, _, _, _⟩ _ _ _)) _ _ _
  k_steps
  rename Fr _ _ _ _ => F9
  rename News _ _ _ _ => N9
  refine k _ _ _ _ _ (by assumption) F9 (news_cons N9 (.head _) (fun q hq => N9 q (.tail _ (.tail _ (.tail _ hq))))) ?_
  rename _ ∧ _ ∧ _ ∧ AllLt _ _ => q9
  exact q9.2.2
set_option maxHeartbeats 8000000 in
theorem hopA {Q : Flow → Shared → Prop} {ws : List Value} {W : List Int} {Wd I Lt : Addr} {oI oL : Obj} {fx told : Int} {tf tt : Tok} (B : Below callerA h₀ [] h₀) (X : (hd.heap_39 w.params).In h₀) (T : Top hd.view_39 (looseW hd.view_39 []) mean mg mb h₀)
    (F : Fr h₀ L s.heap m) (e1 : m (Str.ofString "words") = some (.ref Wd)) (e2 : m (Str.ofString "field") = some (.int fx tf)) (e3 : m (Str.ofString "told") = some (.int told tt))
    (N : News h₀ L s.heap ((I, oI) :: (Lt, oL) :: (Wd, PySem.W.listOf ws.toArray 0) :: news)) (hW : IntsAre ws W) (hw : ∀ n ∈ W, 0 ≤ n ∧ n < 65536) (h2 : 2 ≤ W.length) (h18 : W.length ≤ 18) (l1 : AllLt Wd news) (g1 : @LT.lt Nat _ Wd I) (g2 : @LT.lt Nat _ Wd Lt)
    (hf0 : 0 ≤ fx) (hf1 : fx < (W.length : Int)) (ht : 0 ≤ told ∧ told < 65536) (hc : 65535 - lsum (octs (W.set fx.toNat told)) = 0)
    (k : ∀ h' tk' ws', IntsAre ws' ((W.set fx.toNat told).set fx.toNat 0) → Fr h₀ L h' m → News h₀ L h' ((I, oI) :: (Lt, oL) :: (Wd, PySem.W.listOf ws'.toArray 0) :: news) → Q .next { s with heap := h', toks := tk' }) :
    wpAny (model PySem.Challenge.rw_bi0008_01.row.prog w) (callerA.deeper (envOfC (Str.ofString "law") lawScope L fa cd)) (execs (hopBody.take 3) (envOfC (Str.ofString "law") lawScope L fa cd)) Q E s := by
  have F' := fr_put3 F e1 e2 e3
  have em : (fun y => if y = Str.ofString "told" then some (Value.int told tt) else if y = Str.ofString "field" then some (Value.int fx tf) else if y = Str.ofString "words" then some (Value.ref Wd) else m y) = m := funext fun y => by rw [put_at e1, put_at e2, put_at e3]
  rw [← em] at k
  clear em e1 e2 e3 F
  revert X
  k_fill
  intro X
  show wpAny _ (Around.deeper _ (envOfC _ ⟨_, _, _, _, _⟩ _ _ _)) (execs [_, _, _] (envOfC _ ⟨_, _, _, _, _⟩ _ _ _)) _ _ _
  k_steps
  · exact (no_check ‹KBw.bInts _ = octs _› hc ‹65535 - lsum _ ≠ 0›).elim
  · rename Fr _ _ _ _ => F6
    rename News _ _ _ _ => N6
    exact k _ _ _ (by assumption) F6 N6
theorem new_in (n : Int) : 0 ≤ [0, 65535, (n.fdiv 64).fmod 65536].getD (n.fmod 3).toNat 0 ∧ [0, 65535, (n.fdiv 64).fmod 65536].getD (n.fmod 3).toNat 0 < 65536 := by
  have a := Int.fmod_nonneg_of_pos (n.fdiv 64) (b := 65536) (by decide)
  have b := Int.fmod_lt_of_pos (n.fdiv 64) (b := 65536) (by decide)
  generalize (n.fdiv 64).fmod 65536 = x at a b
  generalize (n.fmod 3).toNat = i
  match i with
  | 0 => exact ⟨Int.le_refl 0, (by decide : (0 : Int) < 65536)⟩
  | 1 => exact ⟨(by decide : (0 : Int) ≤ 65535), (by decide : (65535 : Int) < 65536)⟩
  | 2 => exact ⟨a, b⟩
  | i + 3 => exact ⟨by simp, by simp⟩
theorem place_ne {fx r : Int} {l : Nat} (h2 : 2 ≤ l) (h0 : 0 ≤ fx) (h1 : fx < (l : Int)) : (fx + 1 + r.fmod ((l : Int) - 1)).fmod (l : Int) ≠ fx := by
  have a := Int.fmod_nonneg_of_pos r (b := (l : Int) - 1) (by omega)
  have b := Int.fmod_lt_of_pos r (b := (l : Int) - 1) (by omega)
  generalize r.fmod ((l : Int) - 1) = x at a b
  rw [Int.fmod_eq_emod_of_nonneg _ (by omega)]
  by_cases h : fx + 1 + x < (l : Int)
  · rw [Int.emod_eq_of_lt (by omega) h]
    omega
  · have e : fx + 1 + x = (fx + 1 + x - l) + l := by omega
    rw [e, Int.add_emod_right, Int.emod_eq_of_lt (by omega) (by omega)]
    omega
set_option maxHeartbeats 8000000 in
theorem hopB {Q : Flow → Shared → Prop} {ws : List Value} {W : List Int} {Wd : Addr} {fx n : Int} {tf tn : Tok} (B : Below callerA h₀ [] h₀) (X : (hd.heap_39 w.params).In h₀) (T : Top hd.view_39 (looseW hd.view_39 []) mean mg mb h₀)
    (F : Fr h₀ L s.heap m) (e1 : m (Str.ofString "number") = some (.int n tn)) (e2 : m (Str.ofString "words") = some (.ref Wd)) (e3 : m (Str.ofString "field") = some (.int fx tf))
    (N : News h₀ L s.heap ((Wd, PySem.W.listOf ws.toArray 0) :: news)) (hW : IntsAre ws W) (h2 : 2 ≤ W.length) (h18 : W.length ≤ 18) 
    (hf0 : 0 ≤ fx) (hf1 : fx < (W.length : Int))
    (k : ∀ h' tk' m' pl nw tp tw, Fr h₀ L h' m' → News h₀ L h' ((Wd, PySem.W.listOf ws.toArray 0) :: news) → m' (Str.ofString "new") = some (.int nw tw) → m' (Str.ofString "place") = some (.int pl tp) → 0 ≤ nw ∧ nw < 65536 → 0 ≤ pl → pl < (W.length : Int) → pl ≠ fx →
      (∀ y, y ≠ Str.ofString "new" → y ≠ Str.ofString "place" → m' y = m y) → Q .next { s with heap := h', toks := tk' }) :
    wpAny (model PySem.Challenge.rw_bi0008_01.row.prog w) (callerA.deeper (envOfC (Str.ofString "law") lawScope L fa cd)) (execs ((hopBody.drop 3).take 2) (envOfC (Str.ofString "law") lawScope L fa cd)) Q E s := by
  have F' := fr_put3 F e1 e2 e3
  clear F
  revert X
  k_fill
  intro X
  show wpAny _ (Around.deeper _ (envOfC _ ⟨_, _, _, _, _⟩ _ _ _)) (execs [_, _] (envOfC _ ⟨_, _, _, _, _⟩ _ _ _)) _ _ _
  k_steps
  rename Fr _ _ _ _ => F6
  rename News _ _ _ _ => N6
  refine k _ _ _ _ _ _ _ F6 (fun q hq => N6 q (.tail _ hq)) (if_pos rfl) ((if_neg (by decide)).trans (if_pos rfl)) (new_in n) (idx_lo h2) (idx_hi h2) (place_ne h2 hf0 hf1) ?_
  intro y h1 h2
  rw [if_neg h1, if_neg h2, put_at e1, put_at e2, put_at e3]
set_option maxHeartbeats 8000000 in
theorem hopC {Q : Flow → Shared → Prop} {ws : List Value} {W : List Int} {Wd I Lt : Addr} {oI oL : Obj} {told pl nw : Int} {tt tp tw : Tok} (B : Below callerA h₀ [] h₀) (X : (hd.heap_39 w.params).In h₀) (T : Top hd.view_39 (looseW hd.view_39 []) mean mg mb h₀)
    (F : Fr h₀ L s.heap m) (e1 : m (Str.ofString "told") = some (.int told tt)) (e2 : m (Str.ofString "words") = some (.ref Wd)) (e3 : m (Str.ofString "place") = some (.int pl tp)) (e4 : m (Str.ofString "new") = some (.int nw tw))
    (N : News h₀ L s.heap ((I, oI) :: (Lt, oL) :: (Wd, PySem.W.listOf ws.toArray 0) :: news)) (hW : IntsAre ws W) (hw : ∀ n ∈ W, 0 ≤ n ∧ n < 65536) (h2 : 2 ≤ W.length) (h18 : W.length ≤ 18) (l1 : AllLt Wd news) (g1 : @LT.lt Nat _ Wd I) (g2 : @LT.lt Nat _ Wd Lt)
    (hp0 : 0 ≤ pl) (hp1 : pl < (W.length : Int)) (hnw : 0 ≤ nw ∧ nw < 65536)
    (k : ∀ h' tk' m' ws' md told' tm tt', Fr h₀ L h' m' → News h₀ L h' ((I, oI) :: (Lt, oL) :: (Wd, PySem.W.listOf ws'.toArray 0) :: news) → m' (Str.ofString "mended") = some (.int md tm) → m' (Str.ofString "told") = some (.int told' tt') → md = cadd (cadd (65535 - told) (65535 - W.getD pl.toNat 0)) nw → told' = 65535 - lsum (octs (W.set pl.toNat nw)) →
      IntsAre ws' (W.set pl.toNat nw) → (∀ y, y ≠ Str.ofString "mended" → y ≠ Str.ofString "told" → m' y = m y) → Q .next { s with heap := h', toks := tk' }) :
    wpAny (model PySem.Challenge.rw_bi0008_01.row.prog w) (callerA.deeper (envOfC (Str.ofString "law") lawScope L fa cd)) (execs ((hopBody.drop 5).take 3) (envOfC (Str.ofString "law") lawScope L fa cd)) Q E s := by
  have F' := fr_put4 F e1 e2 e3 e4
  clear F
  revert X
  k_fill
  intro X
  show wpAny _ (Around.deeper _ (envOfC _ ⟨_, _, _, _, _⟩ _ _ _)) (execs [_, _, _] (envOfC _ ⟨_, _, _, _, _⟩ _ _ _)) _ _ _
  k_steps
  rename Fr _ _ _ _ => F6
  rename News _ _ _ _ => N6
  refine k _ _ _ _ _ _ _ _ F6 N6 ((if_neg (by decide)).trans (if_pos rfl)) (if_pos rfl) rfl (by rw [‹KBw.bInts _ = octs _›]) (by assumption) ?_
  intro y h1 h2
  rw [if_neg h2, if_neg h1, put_at e1, put_at e2, put_at e3, put_at e4]
set_option maxHeartbeats 8000000 in
theorem hopD {Q : Flow → Shared → Prop} {ws : List Value} {W : List Int} {Wd : Addr} {told md : Int} {tt tm : Tok} (B : Below callerA h₀ [] h₀) (X : (hd.heap_39 w.params).In h₀) (T : Top hd.view_39 (looseW hd.view_39 []) mean mg mb h₀)
    (F : Fr h₀ L s.heap m) (e1 : m (Str.ofString "words") = some (.ref Wd)) (e2 : m (Str.ofString "mended") = some (.int md tm)) (e3 : m (Str.ofString "told") = some (.int told tt))
    (N : News h₀ L s.heap ((Wd, PySem.W.listOf ws.toArray 0) :: news)) (hW : IntsAre ws W) (hw : ∀ n ∈ W, 0 ≤ n ∧ n < 65536) (h2 : 2 ≤ W.length) (h18 : W.length ≤ 18) 
    (hm1 : (W.map (· != 0)).any id = true → 65535 - md = told) (hm0 : (W.map (· != 0)).any id = false → 65535 - md = 0) (htd : told = 65535 - lsum (octs W))
    (k : ∀ h' tk', Fr h₀ L h' m → News h₀ L h' ((Wd, PySem.W.listOf ws.toArray 0) :: news) → Q .next { s with heap := h', toks := tk' }) :
    wpAny (model PySem.Challenge.rw_bi0008_01.row.prog w) (callerA.deeper (envOfC (Str.ofString "law") lawScope L fa cd)) (execs (hopBody.drop 8) (envOfC (Str.ofString "law") lawScope L fa cd)) Q E s := by
  have F' := fr_put3 F e1 e2 e3
  have em : (fun y => if y = Str.ofString "told" then some (Value.int told tt) else if y = Str.ofString "mended" then some (Value.int md tm) else if y = Str.ofString "words" then some (Value.ref Wd) else m y) = m := funext fun y => by rw [put_at e1, put_at e2, put_at e3]
  rw [← em] at k
  clear em e1 e2 e3 F
  revert X
  k_fill
  intro X
  show wpAny _ (Around.deeper _ (envOfC _ ⟨_, _, _, _, _⟩ _ _ _)) (execs [_] (envOfC _ ⟨_, _, _, _, _⟩ _ _ _)) _ _ _
  k_steps
  all_goals first
    | exact absurd (hm1 ‹_ = true›) ‹65535 - md ≠ told›
    | exact absurd (hm0 ‹_ = false›) ‹65535 - md ≠ 0›
    | exact (td_no ‹KBw.bInts _ = octs _› htd ‹told ≠ _›).elim
    | (rename Fr _ _ _ _ => F6
       rename News _ _ _ _ => N6
       exact k _ _ F6 N6)
end
end Mine
end
section
open PySem PySem.W PyProof.Rows
namespace Mine
theorem norm_self {y : Int} (h : 0 ≤ y ∧ y ≤ 65535) : norm y = y := by
  unfold norm
  split <;> omega
theorem norm_uniq {y z : Int} (h : 0 ≤ y ∧ y ≤ 65535) (hz : 0 ≤ z) (h0 : y = 0 ↔ z = 0) (hm : y % 65535 = z % 65535) : y = norm z := by
  rw [← norm_congr h.1 hz h0 hm, norm_self h]
theorem cadd_eq {a b : Int} (ha : 0 ≤ a ∧ a ≤ 65535) (hb : 0 ≤ b ∧ b ≤ 65535) : cadd a b = norm (a + b) := by
  unfold cadd norm
  split <;> omega
theorem cadd_norm {x y : Int} (hx : 0 ≤ x) (hy : 0 ≤ y) : cadd (norm x) (norm y) = norm (x + y) := by
  have a := norm_range (x := x)
  have b := norm_range (x := y)
  have c := norm_mod hx
  have d := norm_mod hy
  have e := norm_zero hx
  have f := norm_zero hy
  rw [cadd_eq a b]
  exact norm_congr (by omega) (by omega) (by omega) (by omega)
theorem swap_norm {x : Int} (hx : 0 ≤ x) : swap (norm x) = norm (256 * x) := by
  have a := norm_range (x := x)
  have c := norm_mod hx
  have e := norm_zero hx
  unfold swap
  exact norm_uniq (by omega) (by omega) (by omega) (by omega)
/-- the weight of an octet run that starts at an odd place -/
def wt (st : Int) : Int := if st % 2 = 1 then 256 else 1
theorem wt_congr {a b : Int} (h : a % 2 = b % 2) : wt a = wt b := by
  unfold wt
  simp only [h]
theorem contrib_eq {st : Int} {ks : List Int} (h : Oct ks) : contrib st ks = norm (wt st * wsum ks) := by
  have := wsum_nonneg h
  unfold contrib wt
  split
  · exact swap_norm this
  · rw [Int.one_mul]; rfl
theorem wsum_one : ∀ {b : List Int} {x : Int}, wsum (x :: b) % 65535 = (x * 256 + 256 * wsum b) % 65535
  | [], x => by simp [wsum]
  | y :: r, x => by
    have ih := wsum_one (b := r) (x := y)
    have e : wsum (x :: y :: r) = x * 256 + y + wsum r := by simp only [wsum]
    rw [e]
    omega
theorem wsum_app : ∀ {a b : List Int}, wsum (a ++ b) % 65535 = (wsum a + wt (a.length : Int) * wsum b) % 65535
  | [], b => by simp [wsum, wt]
  | [x], b => by
    have := wsum_one (b := b) (x := x)
    show wsum (x :: b) % 65535 = _
    rw [this]
    simp [wsum, wt]
  | x :: y :: r, b => by
    have ih := wsum_app (a := r) (b := b)
    have e : wsum (x :: y :: r ++ b) = x * 256 + y + wsum (r ++ b) := by simp only [List.cons_append, wsum]
    have e2 : wsum (x :: y :: r) = x * 256 + y + wsum r := by simp only [wsum]
    have e3 : wt ((x :: y :: r).length : Int) = wt (r.length : Int) := by
      exact wt_congr (by simp only [List.length_cons]; omega)
    rw [e, e2, e3]
    generalize wt (r.length : Int) * wsum b = z at ih ⊢
    omega
theorem wsum_zero : ∀ {ks : List Int}, Oct ks → (wsum ks = 0 ↔ ∀ k ∈ ks, k = 0)
  | [], _ => by simp [wsum]
  | [a], h => by
    have := h.head
    simp only [wsum, List.mem_cons, List.not_mem_nil, or_false, forall_eq]
    omega
  | a :: b :: r, h => by
    have h1 := h.head
    have h2 := h.tail.head
    have ih := wsum_zero h.tail.tail
    have h3 := wsum_nonneg h.tail.tail
    simp only [wsum, List.mem_cons, forall_eq_or_imp]
    rw [← ih]
    omega
theorem wsum_zero_app {a b : List Int} (ha : Oct a) (hb : Oct b) : wsum (a ++ b) = 0 ↔ wsum a = 0 ∧ wsum b = 0 := by
  rw [wsum_zero (ha.app hb), wsum_zero ha, wsum_zero hb]
  exact List.forall_mem_append
theorem turn_sum {g : Int → Int} {X0 X1 X2 : Int} (h0 : 0 ≤ X0) (h1 : 0 ≤ X1) (h2 : 0 ≤ X2) (e0 : g 0 = norm X0) (e1 : g 1 = norm X1) (e2 : g 2 = norm X2) {p : List Int} (hp : p ∈ turns) : tsum g p = norm (X0 + X1 + X2) := by
  have z : (0 : Int) = norm 0 := by decide
  have two : ∀ {a b c : Int}, 0 ≤ a → 0 ≤ b → 0 ≤ c → cadd (cadd (cadd 0 (norm a)) (norm b)) (norm c) = norm (a + b + c) := by
    intro a b c ha hb hc
    have q : cadd 0 (norm a) = norm a := by
      rw [show cadd 0 (norm a) = cadd (norm 0) (norm a) from by rw [← z], cadd_norm (by decide) ha]
      congr 1
      omega
    rw [q, cadd_norm ha hb, cadd_norm (by omega) hc]
  unfold turns at hp
  simp only [List.mem_cons, List.not_mem_nil, or_false] at hp
  unfold tsum
  rcases hp with rfl | rfl | rfl | rfl | rfl | rfl
  all_goals (simp only [List.foldl_cons, List.foldl_nil, e0, e1, e2]; rw [two (by assumption) (by assumption) (by assumption)] <;> (congr 1; omega))
theorem turns_law {f1 f2 : Nat} {ks k0 k1 k2 : List Int} (h : Oct ks) (e : ks = k0 ++ (k1 ++ k2)) (l0 : k0.length = f1) (l1 : k1.length + f1 = f2) {p : List Int} (hp : p ∈ turns) :
    tsum (share f1 f2 k0 k1 k2) p = lsum ks := by
  subst e
  have o0 : Oct k0 := fun x hx => h x (List.mem_append_left _ hx)
  have o12 : Oct (k1 ++ k2) := fun x hx => h x (List.mem_append_right _ hx)
  have o1 : Oct k1 := fun x hx => o12 x (List.mem_append_left _ hx)
  have o2 : Oct k2 := fun x hx => o12 x (List.mem_append_right _ hx)
  have n0 := wsum_nonneg o0
  have n1 := wsum_nonneg o1
  have n2 := wsum_nonneg o2
  have nn := wsum_nonneg h
  have m0 := wsum_app (a := k0) (b := k1 ++ k2)
  have m1 := wsum_app (a := k1) (b := k2)
  have z0 := wsum_zero_app o0 o12
  have z1 := wsum_zero_app o1 o2
  have w1 : wt (f1 : Int) = 256 ∨ wt (f1 : Int) = 1 := by unfold wt; split <;> simp
  have w2 : wt (f2 : Int) = 256 ∨ wt (f2 : Int) = 1 := by unfold wt; split <;> simp
  rw [turn_sum (X0 := wsum k0) (X1 := wt f1 * wsum k1) (X2 := wt f2 * wsum k2) n0 (by rcases w1 with e | e <;> rw [e] <;> omega) (by rcases w2 with e | e <;> rw [e] <;> omega) ?_ ?_ ?_ hp]
  · unfold lsum
    rw [l0] at m0
    have hw : wt (f1 : Int) = 256 ∧ (wt (k1.length : Int) = 256 ∧ wt (f2 : Int) = 1 ∨ wt (k1.length : Int) = 1 ∧ wt (f2 : Int) = 256) ∨ wt (f1 : Int) = 1 ∧ (wt (k1.length : Int) = 256 ∧ wt (f2 : Int) = 256 ∨ wt (k1.length : Int) = 1 ∧ wt (f2 : Int) = 1) := by
      unfold wt
      rcases Int.emod_two_eq (f1 : Int) with a | a <;> rcases Int.emod_two_eq (k1.length : Int) with b | b <;> rcases Int.emod_two_eq (f2 : Int) with c | c <;> simp [a, b, c] <;> try omega
    rcases hw with ⟨a, ⟨b, c⟩ | ⟨b, c⟩⟩ | ⟨a, ⟨b, c⟩ | ⟨b, c⟩⟩ <;> rw [a, c] <;> rw [a] at m0 <;> rw [b] at m1 <;> exact norm_congr (by omega) (by omega) (by omega) (by omega)
  · show contrib 0 k0 = _
    rw [contrib_eq o0]
    congr 1
    show 1 * wsum k0 = _
    omega
  · show contrib f1 k1 = _
    exact contrib_eq o1
  · show contrib f2 k2 = _
    exact contrib_eq o2
end Mine
end
section
open PySem PySem.W PyProof.Rows
namespace Mine
abbrev InW (W : List Int) : Prop := ∀ n ∈ W, 0 ≤ n ∧ n < 65536
theorem wsum_octs : ∀ {W : List Int}, wsum (octs W) = W.sum
  | [] => rfl
  | a :: r => by
    have ih := wsum_octs (W := r)
    have e : octs (a :: r) = a / 256 :: a % 256 :: octs r := rfl
    rw [e, List.sum_cons]
    simp only [wsum]
    omega
theorem lsum_octs {W : List Int} : lsum (octs W) = norm W.sum := by
  unfold lsum
  rw [wsum_octs]
theorem sum_nn : ∀ {W : List Int}, InW W → 0 ≤ W.sum
  | [], _ => by simp
  | a :: r, h => by
    have h1 := h a (.head _)
    have h2 := sum_nn (W := r) fun x hx => h x (.tail _ hx)
    rw [List.sum_cons]
    omega
theorem get_le : ∀ {W : List Int} {i : Nat}, InW W → W.getD i 0 ≤ W.sum ∧ 0 ≤ W.getD i 0 ∧ W.getD i 0 < 65536
  | [], i, _ => by simp
  | a :: r, 0, h => by
    have h1 := h a (.head _)
    have h2 := sum_nn (W := r) fun x hx => h x (.tail _ hx)
    rw [List.sum_cons]
    show a ≤ a + r.sum ∧ 0 ≤ a ∧ a < 65536
    omega
  | a :: r, i + 1, h => by
    have h1 := h a (.head _)
    have h2 := get_le (W := r) (i := i) fun x hx => h x (.tail _ hx)
    rw [List.sum_cons]
    show r.getD i 0 ≤ a + r.sum ∧ 0 ≤ r.getD i 0 ∧ r.getD i 0 < 65536
    omega
theorem any_sum : ∀ {W : List Int}, InW W → ((W.map (· != 0)).any id = true ↔ 0 < W.sum)
  | [], _ => by simp
  | a :: r, h => by
    have h1 := h a (.head _)
    have hr : InW r := fun x hx => h x (.tail _ hx)
    have h2 := sum_nn hr
    have ih := any_sum hr
    rw [List.map_cons, List.any_cons, List.sum_cons, Bool.or_eq_true, ih]
    show (a != 0) = true ∨ 0 < r.sum ↔ 0 < a + r.sum
    rw [bne_iff_ne]
    omega
theorem hop_check {W : List Int} {f : Nat} {told : Int} (h : InW W) (hf : f < W.length) (h0 : W.getD f 0 = 0) (ht : told = 65535 - lsum (octs W)) : 65535 - lsum (octs (W.set f told)) = 0 := by
  have a := sum_nn h
  rw [lsum_octs] at ht ⊢
  rw [sum_set hf, h0]
  have b := norm_range (x := W.sum)
  have c := norm_mod a
  have d := norm_zero a
  have e : norm (W.sum - 0 + told) = 65535 := (norm_uniq (y := 65535) (by omega) (by omega) (by omega) (by omega)).symm
  omega
theorem hop_mend {W : List Int} {p : Nat} {told nw md told' : Int} (h : InW W) (hp : p < W.length) (hn : 0 ≤ nw ∧ nw < 65536) (ht : told = 65535 - lsum (octs W)) (hm : md = cadd (cadd (65535 - told) (65535 - W.getD p 0)) nw) (ht' : told' = 65535 - lsum (octs (W.set p nw))) :
    (((W.set p nw).map (· != 0)).any id = true → 65535 - md = told') ∧ (((W.set p nw).map (· != 0)).any id = false → 65535 - md = 0) := by
  have a := sum_nn h
  have hW' : InW (W.set p nw) := fun n hn' => (List.mem_or_eq_of_mem_set hn').elim (h n) fun e => e ▸ hn
  have s := any_sum hW'
  have a' := sum_nn hW'
  have g := get_le (i := p) h
  rw [lsum_octs] at ht ht'
  have e1 : 65535 - told = norm W.sum := by omega
  have b := norm_range (x := W.sum)
  have c := norm_mod a
  have d := norm_zero a
  rw [e1, cadd_eq b (by omega)] at hm
  have b2 := norm_range (x := norm W.sum + (65535 - W.getD p 0))
  have c2 := norm_mod (x := norm W.sum + (65535 - W.getD p 0)) (by omega)
  have d2 := norm_zero (x := norm W.sum + (65535 - W.getD p 0)) (by omega)
  rw [cadd_eq b2 (by omega)] at hm
  have b3 := norm_range (x := norm (norm W.sum + (65535 - W.getD p 0)) + nw)
  have c3 := norm_mod (x := norm (norm W.sum + (65535 - W.getD p 0)) + nw) (by omega)
  have d3 := norm_zero (x := norm (norm W.sum + (65535 - W.getD p 0)) + nw) (by omega)
  rw [← hm] at b3 c3 d3
  have e := sum_set (x := nw) hp
  have b4 := norm_range (x := (W.set p nw).sum)
  have c4 := norm_mod a'
  have d4 := norm_zero a'
  have hne : norm W.sum + (65535 - W.getD p 0) ≠ 0 := by
    intro z
    have z1 : norm W.sum = 0 := by omega
    have z2 := d.mp z1
    omega
  constructor
  · intro hy
    have pos := s.mp hy
    have : md = norm (W.set p nw).sum := norm_uniq (by omega) a' (by omega) (by omega)
    omega
  · intro hy
    have z : (W.set p nw).sum = 0 := by
      by_cases hz : 0 < (W.set p nw).sum
      · rw [s.mpr hz] at hy; cases hy
      · omega
    rw [z] at e
    omega
theorem told_in {W : List Int} {told : Int} (ht : told = 65535 - lsum (octs W)) : 0 ≤ told ∧ told < 65536 := by
  have := lsum_range (octs W)
  omega
theorem set_back {W : List Int} {f : Nat} {x : Int} (hf : f < W.length) (h0 : W.getD f 0 = 0) : (W.set f x).set f 0 = W := by
  rw [List.set_set]
  have e : W[f]'hf = 0 := by
    rw [List.getD_eq_getElem?_getD, List.getElem?_eq_getElem hf] at h0
    exact h0
  rw [← e]
  exact List.set_getElem_self hf
theorem get_set_same {W : List Int} {f : Nat} (hf : f < W.length) : (W.set f 0).getD f 0 = 0 := by
  rw [List.getD_eq_getElem?_getD, List.getElem?_set_self hf]
  rfl
theorem get_set_ne {W : List Int} {f p : Nat} {x : Int} (hne : p ≠ f) (h0 : W.getD f 0 = 0) : (W.set p x).getD f 0 = 0 := by
  rw [List.getD_eq_getElem?_getD, List.getElem?_set_ne hne, ← List.getD_eq_getElem?_getD]
  exact h0
end Mine
end
section
open PySem PySem.W PyProof.Rows
set_option maxRecDepth 100000
namespace Mine
theorem hop_drop2 : (hopBody.drop 3).drop 2 = hopBody.drop 5 := by rw [List.drop_drop]
theorem hop_drop3 : (hopBody.drop 5).drop 3 = hopBody.drop 8 := by rw [List.drop_drop]
theorem law_number : List.lookup (Str.ofString "number") lawScope.names = some .local := by rfl
theorem fold_hop (env : Env) (x : Value) : foldedSetIterable hopIter env x = pure x := by rfl
section
variable {w : World} {mean : ExcName → Option Value} {mg mb : Str → Option Value} {h₀ : Heap} {L fa : Addr} {cd : Value} {m : Str → Option Value} {s : Shared} {E : Value → Shared → Prop}
  {news : List (Addr × Obj)}
theorem hop_body {Q : Flow → Shared → Prop} {ws : List Value} {W : List Int} {Wd I Lt : Addr} {oI oL : Obj} {n fx told : Int} {tn tf tt : Tok} (B : Below callerA h₀ [] h₀) (X : (hd.heap_39 w.params).In h₀) (T : Top hd.view_39 (looseW hd.view_39 []) mean mg mb h₀)
    (F : Fr h₀ L s.heap m) (e0 : m (Str.ofString "number") = some (.int n tn)) (e1 : m (Str.ofString "words") = some (.ref Wd)) (e2 : m (Str.ofString "field") = some (.int fx tf)) (e3 : m (Str.ofString "told") = some (.int told tt))
    (N : News h₀ L s.heap ((I, oI) :: (Lt, oL) :: (Wd, PySem.W.listOf ws.toArray 0) :: news)) (hW : IntsAre ws W) (hw : InW W) (h2 : 2 ≤ W.length) (h18 : W.length ≤ 18) (l1 : AllLt Wd news) (g1 : @LT.lt Nat _ Wd I) (g2 : @LT.lt Nat _ Wd Lt)
    (hf0 : 0 ≤ fx) (hf1 : fx < (W.length : Int)) (hz : W.getD fx.toNat 0 = 0) (ht : told = 65535 - lsum (octs W))
    (k : ∀ h' tk' m' ws' W' told' tt', IntsAre ws' W' → InW W' → W'.length = W.length → W'.getD fx.toNat 0 = 0 → told' = 65535 - lsum (octs W') → m' (Str.ofString "told") = some (.int told' tt') →
      (∀ y, y ≠ Str.ofString "new" → y ≠ Str.ofString "place" → y ≠ Str.ofString "mended" → y ≠ Str.ofString "told" → m' y = m y) → Fr h₀ L h' m' → News h₀ L h' ((I, oI) :: (Lt, oL) :: (Wd, PySem.W.listOf ws'.toArray 0) :: news) → Q .next { s with heap := h', toks := tk' }) :
    wpAny (model PySem.Challenge.rw_bi0008_01.row.prog w) (callerA.deeper (envOfC (Str.ofString "law") lawScope L fa cd)) (execs hopBody (envOfC (Str.ofString "law") lawScope L fa cd)) Q E s := by
  have hfn : fx.toNat < W.length := by omega
  refine execs_split 3 ?_
  refine @hopA w mean mg mb h₀ L fa cd m s E news _ ws W Wd I Lt oI oL fx told tf tt B X T F e1 e2 e3 N hW hw h2 h18 l1 g1 g2 hf0 hf1 (told_in ht) (hop_check hw hfn hz ht) ?_
  intro h1 tk1 ws1 hW1 F1 N1
  rw [set_back hfn hz] at hW1
  dsimp only
  refine execs_split 2 ?_
  have N1b : News h₀ L h1 ((Wd, PySem.W.listOf ws1.toArray 0) :: (I, oI) :: (Lt, oL) :: news) := fun q hq => N1 q (by simp only [List.mem_cons] at hq ⊢; rcases hq with h | h | h | h <;> simp [h])
  refine @hopB w mean mg mb h₀ L fa cd m { s with heap := h1, toks := tk1 } E _ _ ws1 W Wd fx n tf tn B X T F1 e0 e1 e2 N1b hW1 h2 h18 hf0 hf1 ?_
  intro h2' tk2 m2 pl nw tp tw F2 N2 b1 b2 hnw hp0 hp1 hpf k2
  rw [hop_drop2]
  dsimp only
  refine execs_split 3 ?_
  have N2b : News h₀ L h2' ((I, oI) :: (Lt, oL) :: (Wd, PySem.W.listOf ws1.toArray 0) :: news) := fun q hq => N2 q (by simp only [List.mem_cons] at hq ⊢; rcases hq with h | h | h | h <;> simp [h])
  have hpn : pl.toNat < W.length := by omega
  have hpf' : pl.toNat ≠ fx.toNat := by omega
  refine @hopC w mean mg mb h₀ L fa cd m2 { s with heap := h2', toks := tk2 } E news _ ws1 W Wd I Lt oI oL told pl nw tt tp tw B X T F2 ((k2 _ (by decide) (by decide)).trans e3) ((k2 _ (by decide) (by decide)).trans e1) b2 b1 N2b hW1 hw h2 h18 l1 g1 g2 hp0 hp1 hnw ?_
  intro h3 tk3 m3 ws3 md told' tm tt' F3 N3 c1 c2 hmd htd hW3 k3
  rw [hop_drop3]
  dsimp only
  have hw3 : InW (W.set pl.toNat nw) := set_in hw hnw
  have N3b : News h₀ L h3 ((Wd, PySem.W.listOf ws3.toArray 0) :: (I, oI) :: (Lt, oL) :: news) := fun q hq => N3 q (by simp only [List.mem_cons] at hq ⊢; rcases hq with h | h | h | h <;> simp [h])
  obtain ⟨hm1, hm0⟩ := hop_mend hw hpn hnw ht hmd htd
  refine @hopD w mean mg mb h₀ L fa cd m3 { s with heap := h3, toks := tk3 } E _ _ ws3 (W.set pl.toNat nw) Wd told' md tt' tm B X T F3 ((k3 _ (by decide) (by decide)).trans ((k2 _ (by decide) (by decide)).trans e1)) c1 c2 N3b hW3 hw3 (by rw [List.length_set]; exact h2) (by rw [List.length_set]; exact h18) hm1 hm0 htd ?_
  intro h4 tk4 F4 N4
  refine k h4 tk4 m3 ws3 (W.set pl.toNat nw) told' tt' hW3 hw3 List.length_set (get_set_ne hpf' hz) htd c2 (fun y a1 a2 a3 a4 => (k3 y a3 a4).trans (k2 y a1 a2)) F4 (fun q hq => N4 q (by simp only [List.mem_cons] at hq ⊢; rcases hq with h | h | h | h <;> simp [h]))
theorem segHop {Q : Flow → Shared → Prop} {ws vs : List Value} {W ns : List Int} {Wd Dn : Addr} {oc : Obj} {vc : Option Value} {fx told : Int} {tf tt : Tok} (B : Below callerA h₀ [] h₀) (X : (hd.heap_39 w.params).In h₀) (T : Top hd.view_39 (looseW hd.view_39 []) mean mg mb h₀)
    (F : Fr h₀ L s.heap m) (e0 : m (Str.ofString "numbers") = some (.ref Dn)) (e1 : m (Str.ofString "words") = some (.ref Wd)) (e2 : m (Str.ofString "field") = some (.int fx tf)) (e3 : m (Str.ofString "told") = some (.int told tt))
    (dc : oc.data = .cell vc) (N : News h₀ L s.heap [(Wd, PySem.W.listOf ws.toArray 0), (Dn, PySem.W.listOf vs.toArray 0), (L + 1, oc)]) (hI : IntsAre vs ns) (hn : ns.length = 46) (hW : IntsAre ws W) (hw : InW W) (h2 : 2 ≤ W.length) (h18 : W.length ≤ 18) (l1 : @LT.lt Nat _ Dn Wd ∧ @LT.lt Nat _ (L + 1) Wd)
    (hf0 : 0 ≤ fx) (hf1 : fx < (W.length : Int)) (hz : W.getD fx.toNat 0 = 0) (ht : told = 65535 - lsum (octs W))
    (k : ∀ h' tk' m', Fr h₀ L h' m' → Q .next { s with heap := h', toks := tk' }) :
    wpAny (model PySem.Challenge.rw_bi0008_01.row.prog w) (callerA.deeper (envOfC (Str.ofString "law") lawScope L fa cd)) (execs [lawBody[14]] (envOfC (Str.ofString "law") lawScope L fa cd)) Q E s := by
  show wpAny _ _ (execs [Stmt.For (.Name (Str.ofString "number") _) hopIter hopBody [] _] _) _ _ _
  rw [execs_cons]
  refine wpAny_bind ?_
  refine @for_list PySem.Challenge.rw_bi0008_01.row.prog w (callerA.deeper (envOfC (Str.ofString "law") lawScope L fa cd)) s (envOfC (Str.ofString "law") lawScope L fa cd) E _ (Str.ofString "number") _ _ hopIter hopBody h₀ (law_local law_number) law_fun law_handled ?_ (fold_hop _)
  have N0 : News h₀ L s.heap ((Dn, PySem.W.listOf vs.toArray 0) :: [(Wd, PySem.W.listOf ws.toArray 0), (L + 1, oc)]) := fun q hq => N q (by simp only [List.mem_cons] at hq ⊢; rcases hq with h | h | h | h <;> simp [h])
  have a1 := fr_put F e0
  refine @it14 w mean mg mb h₀ L fa cd m s E _ _ vs ns Dn X T a1 N0 hI hn ?_
  intro h1 tk1 Lt vt p hp F1 N1 q1
  refine ⟨Lt, vt, p, 0, _, _, fun i m₁ news₁ => ∃ ws' W' told' tt', IntsAre ws' W' ∧ InW W' ∧ W'.length = W.length ∧ W'.getD fx.toNat 0 = 0 ∧ told' = 65535 - lsum (octs W') ∧ m₁ (Str.ofString "told") = some (.int told' tt') ∧
    m₁ (Str.ofString "words") = some (.ref Wd) ∧ m₁ (Str.ofString "field") = some (.int fx tf) ∧ news₁ = [(Lt, PySem.W.listOf vt.toArray 0), (Dn, PySem.W.listOf vs.toArray 0), (Wd, PySem.W.listOf ws'.toArray 0), (L + 1, oc)],
    rfl, F1, N1, hp, ⟨ws, W, told, tt, hW, hw, rfl, hz, ht, (put_at e0).trans e3, (put_at e0).trans e1, (put_at e0).trans e2, rfl⟩, ?_, ?_, ?_⟩
  · rintro i m₁ news₁ ⟨ws', W', told', tt', _, _, _, _, _, _, _, _, rfl⟩
    refine ⟨.head _, fun q hq xs => ?_⟩
    simp only [List.mem_cons, List.not_mem_nil, or_false] at hq
    rcases hq with rfl | rfl | rfl | rfl
    all_goals first | (intro e; cases e) | (show oc.data ≠ _; rw [dc]; intro e; cases e)
  · rintro i n t I oI m₁ news₁ s₂ E' hni hab ⟨ws', W', told', tt', hW', hw', hl', hz', ht', b1, b2, b3, rfl⟩ F2 N2
    have kk : ∀ y, y ≠ Str.ofString "number" → (if y = Str.ofString "number" then some (Value.int n t) else m₁ y) = m₁ y := fun y h => if_neg h
    have g1 : @LT.lt Nat _ Wd I := hab _ (.tail _ (.tail _ (.head _)))
    have N2b : News h₀ L s₂.heap ((I, oI) :: (Lt, PySem.W.listOf vt.toArray 0) :: (Wd, PySem.W.listOf ws'.toArray 0) :: [(Dn, PySem.W.listOf vs.toArray 0), (L + 1, oc)]) := fun q hq => N2 q (by simp only [List.mem_cons] at hq ⊢; rcases hq with h | h | h | h | h | h <;> simp [h])
    refine @hop_body w mean mg mb h₀ L fa cd _ s₂ E' _ _ ws' W' Wd I Lt oI _ n fx told' t tf tt' B X T F2 (if_pos rfl) ((kk _ (by decide)).trans b2) ((kk _ (by decide)).trans b3) ((kk _ (by decide)).trans b1) N2b hW' hw' (by omega) (by omega) ⟨l1.1, l1.2, trivial⟩ g1 q1.2.1 hf0 (by omega) hz' ht' ?_
    intro h3 tk3 m3 ws3 W3 told3 tt3 i1 i2 i3 i4 i5 i6 k3 F3 N3
    refine ⟨rfl, h3, tk3, m3, _, rfl, F3, fun q hq => N3 q (by simp only [List.mem_cons] at hq ⊢; rcases hq with h | h | h | h | h | h <;> simp [h]), ws3, W3, told3, tt3, i1, i2, i3.trans hl', i4, i5, i6, ?_, ?_, rfl⟩
    · exact (k3 _ (by decide) (by decide) (by decide) (by decide)).trans ((kk _ (by decide)).trans b2)
    · exact (k3 _ (by decide) (by decide) (by decide) (by decide)).trans ((kk _ (by decide)).trans b3)
  · rintro h4 tk4 m4 news4 F4 N4 _
    dsimp only
    refine wpAny_execs_nil ?_
    exact k h4 tk4 m4 F4
end
end Mine
end
section
open PySem PySem.W PyProof.Rows
set_option maxRecDepth 100000
namespace Mine
theorem parts_law {b c0 c1 c2 : Array UInt8} {f1 f2 : Int} (h0 : 0 ≤ f1) (h1 : f1 ≤ f2) (h2 : f2 ≤ (b.size : Int)) (e0 : KBw.bInts c0 = List.take (clipAt (KBw.bInts b).length f1) (KBw.bInts b))
    (e1 : KBw.bInts c1 = List.take (clipAt (KBw.bInts b).length f2 - clipAt (KBw.bInts b).length f1) (List.drop (clipAt (KBw.bInts b).length f1) (KBw.bInts b)))
    (e2 : KBw.bInts c2 = List.take ((KBw.bInts b).length - clipAt (KBw.bInts b).length f2) (List.drop (clipAt (KBw.bInts b).length f2) (KBw.bInts b))) :
    (c0.size ≤ b.size ∧ c1.size ≤ b.size ∧ c2.size ≤ b.size) ∧ ∀ p ∈ turns, tsum (share f1 f2 (KBw.bInts c0) (KBw.bInts c1) (KBw.bInts c2)) p = lsum (KBw.bInts b) := by
  obtain ⟨n1, rfl⟩ := Int.eq_ofNat_of_zero_le h0
  obtain ⟨n2, rfl⟩ := Int.eq_ofNat_of_zero_le (Int.le_trans h0 h1)
  have hl : (KBw.bInts b).length = b.size := KBw.ints_length b
  have q1 : n1 ≤ n2 := by omega
  have q2 : n2 ≤ (KBw.bInts b).length := by omega
  have a1 : clipAt (KBw.bInts b).length (n1 : Int) = n1 := by rw [clipAt_nat]; exact Nat.min_eq_left (Nat.le_trans q1 q2)
  have a2 : clipAt (KBw.bInts b).length (n2 : Int) = n2 := by rw [clipAt_nat]; exact Nat.min_eq_left q2
  rw [a1] at e0
  rw [a1, a2] at e1
  rw [a2] at e2
  have s0 := KBw.ints_length c0
  have s1 := KBw.ints_length c1
  have s2 := KBw.ints_length c2
  have l0 : (KBw.bInts c0).length = n1 := by rw [e0, List.length_take]; omega
  have l1 : (KBw.bInts c1).length + n1 = n2 := by rw [e1, List.length_take, List.length_drop]; omega
  have l2 : (KBw.bInts c2).length + n2 = (KBw.bInts b).length := by rw [e2, List.length_take, List.length_drop]; omega
  refine ⟨⟨by omega, by omega, by omega⟩, fun p hp => turns_law (oct_bytes b) ?_ l0 l1 hp⟩
  rw [e2, List.take_of_length_le (by rw [List.length_drop]; omega)]
  rw [e0, e1]
  have : List.drop n2 (KBw.bInts b) = List.drop (n2 - n1) (List.drop n1 (KBw.bInts b)) := by
    rw [List.drop_drop]
    congr 1
    omega
  rw [this, List.take_append_drop, List.take_append_drop]
theorem law_rest : lawBody.drop 4 = [lawBody[4], lawBody[5], lawBody[6], lawBody[7], lawBody[8], lawBody[9], lawBody[10], lawBody[11], lawBody[12], lawBody[13], lawBody[14], lawBody[15]] := by rfl
section
variable {M : Model} {A : Around} {env : Env} {l : List Stmt} {a b c : Stmt} {s : Shared} {E : Value → Shared → Prop} {Q : Flow → Shared → Prop}
theorem one_C (h : wpC M A (execs [a] env) (fun f s' => match f with | .next => wpC M A (execs l env) Q E s' | f => Q f s') E s) : wpC M A (execs (a :: l) env) Q E s := execsC_split (l := a :: l) 1 h
theorem one_s (h : wpAny M A (execs [a] env) (fun f s' => match f with | .next => wpAny M A (execs l env) Q E s' | f => Q f s') E s) : wpAny M A (execs (a :: l) env) Q E s := execs_split (l := a :: l) 1 h
theorem two_s (h : wpAny M A (execs [a, b] env) (fun f s' => match f with | .next => wpAny M A (execs l env) Q E s' | f => Q f s') E s) : wpAny M A (execs (a :: b :: l) env) Q E s := execs_split (l := a :: b :: l) 2 h
theorem three_s (h : wpAny M A (execs [a, b, c] env) (fun f s' => match f with | .next => wpAny M A (execs l env) Q E s' | f => Q f s') E s) : wpAny M A (execs (a :: b :: c :: l) env) Q E s := execs_split (l := a :: b :: c :: l) 3 h
end
section
variable {w : World} {mean : ExcName → Option Value} {mg mb : Str → Option Value} {h₀ : Heap} {L fa : Addr} {cd : Value} {m : Str → Option Value} {s : Shared} {E : Value → Shared → Prop}
theorem law_end {Q : Flow → Shared → Prop} (h : Q (.ret (.bool true)) s) :
    wpAny (model PySem.Challenge.rw_bi0008_01.row.prog w) (callerA.deeper (envOfC (Str.ofString "law") lawScope L fa cd)) (execs [lawBody[15]] (envOfC (Str.ofString "law") lawScope L fa cd)) Q E s := by
  show wpAny _ _ (execs [Stmt.Return (some (.Constant (.bool true) _ _)) _] _) _ _ _
  rw [execs_cons, exec_Return_some]
  refine wpAny_bind (wpAny_bind (wpAny_standAt (wpAny_bind (wpAny_Constant_bool (wpAny_pure ?_)))))
  exact wpAny_pure h
set_option maxHeartbeats 2000000 in
theorem law_walk {Q : Flow → Shared → Prop} {S : Addr} {vs0 : List Value} {ns0 : List Int} {oc : Obj} (B : Below callerA h₀ [] h₀) (X : (hd.heap_39 w.params).In h₀) (T : Top hd.view_39 (looseW hd.view_39 []) mean mg mb h₀)
    (F : Fr h₀ L s.heap m) (e : m (Str.ofString "script") = some (.ref S)) (dc : oc.data = .cell none) (N : News h₀ L s.heap [(L + 1, oc)]) (hS : h₀.IsList S vs0.toArray) (hI : IntsAre vs0 ns0) (hn : ns0.length ≤ 63)
    (k : ∀ h' tk' m', Fr h₀ L h' m' → Q (.ret (.bool true)) { s with heap := h', toks := tk' }) :
    wpC (model PySem.Challenge.rw_bi0008_01.row.prog w) (callerA.deeper (envOfC (Str.ofString "law") lawScope L fa cd)) (execs lawBody (envOfC (Str.ofString "law") lawScope L fa cd)) Q E s := by
  refine execsC_split 4 (wpC_of ?_)
  refine @segA w mean mg mb h₀ L fa S cd m s _ E vs0 ns0 B X T (fr_put F e) oc dc N hS hI hn ?_
  intro hA tkA mA Dn vs ns b tb ts sz oA dA eA1 eA2 hsz FA NA hIn hns hb hlt
  dsimp only
  rw [law_rest]
  subst hsz
  refine one_C ?_
  have NA2 : News h₀ L hA ((L + 1, oA) :: [(Dn, PySem.W.listOf vs.toArray 0)]) := fun q hq => NA q (by simp only [List.mem_cons] at hq ⊢; rcases hq with h | h | h <;> simp [h])
  refine @segB w mean mg mb h₀ L fa cd mA _ E b tb oA _ _ B X T FA dA NA2 hb ?_
  intro hB tkB FB NB
  dsimp only
  have NB2 : News h₀ L hB [(Dn, PySem.W.listOf vs.toArray 0), (L + 1, oA)] := fun q hq => NB q (by simp only [List.mem_cons] at hq ⊢; rcases hq with h | h | h <;> simp [h])
  refine wpC_of ?_
  refine one_s ?_
  refine @segC w mean mg mb h₀ L fa Dn cd mA { s with heap := hB, toks := tkB } _ E b ts vs ns oA B X T (fr_put2 FB eA1 eA2) NB2 hlt hIn hns hb ?_
  intro hC tkC f1 f2 t1 t2 a0 a1 a2 FC NC
  dsimp only
  refine two_s ?_
  refine @segD1 w mean mg mb h₀ L fa cd (fun y => if y = Str.ofString "size" then some (.int (b.size : Int) ts) else if y = Str.ofString "numbers" then some (.ref Dn) else mA y) { s with heap := hC, toks := tkC } E b tb oA _ f1 f2 t1 t2 Dn _ X T FC dA NC hb a0 a1 a2 ?_
  intro hD tkD mD Lp A0 A1 A2 c0 c1 c2 t0 u0 u1 u2 tx FD ND eD1 eD2 kD b0 b1 b2
  obtain ⟨⟨z0, z1, z2⟩, hsum⟩ := parts_law a0 a1 a2 b0 b1 b2
  have eD3 : mD (Str.ofString "numbers") = some (.ref Dn) := (kD _ (by decide) (by decide)).trans ((if_neg (by decide)).trans ((if_neg (by decide)).trans ((if_neg (by decide)).trans (if_pos rfl))))
  have eD4 : mD (Str.ofString "size") = some (.int (b.size : Int) ts) := (kD _ (by decide) (by decide)).trans ((if_neg (by decide)).trans ((if_neg (by decide)).trans (if_pos rfl)))
  dsimp only
  refine one_s ?_
  refine @segD8 w mean mg mb h₀ L fa cd mD { s with heap := hD, toks := tkD } E _ f1 f2 tx t0 t1 t2 u0 u1 u2 c0 c1 c2 Lp A0 A1 A2 Dn oA vs ns _ B X T FD eD3 eD2 eD1 (Nat.le_trans z0 hb) (Nat.le_trans z1 hb) (Nat.le_trans z2 hb) hIn hns dA ND ?_
  intro hT tkT mT p tT hp eT kT FT NT
  rw [hsum p hp] at eT
  have eT3 : mT (Str.ofString "numbers") = some (.ref Dn) := (kT _ (by decide) (by decide) (by decide) (by decide) (by decide)).trans eD3
  have eT4 : mT (Str.ofString "size") = some (.int (b.size : Int) ts) := (kT _ (by decide) (by decide) (by decide) (by decide) (by decide)).trans eD4
  have NT2 : News h₀ L hT ((L + 1, oA) :: [(Dn, PySem.W.listOf vs.toArray 0)]) := fun q hq => NT q (by simp only [List.mem_cons] at hq ⊢; rcases hq with h | h | h <;> simp [h])
  dsimp only
  refine one_s ?_
  refine @segD9 w mean mg mb h₀ L fa cd mT { s with heap := hT, toks := tkT } E b tb oA _ _ _ tT B X T FT eT rfl dA NT2 hb ?_
  intro hU tkU FU NU
  have NU2 : News h₀ L hU [(Dn, PySem.W.listOf vs.toArray 0), (L + 1, oA)] := fun q hq => NU q (by simp only [List.mem_cons] at hq ⊢; rcases hq with h | h | h <;> simp [h])
  dsimp only
  refine one_s ?_
  refine @segE1 w mean mg mb h₀ L fa cd mT { s with heap := hU, toks := tkU } E b tb oA _ ts vs ns Dn B X T (fr_put2 FU eT3 eT4) dA NU2 hb hIn hns ?_
  intro hV tkV Wd ws W iW wW l2 l18 g1 g2 FV NV
  dsimp only
  refine three_s ?_
  have eV1 : (fun y => if y = Str.ofString "words" then some (Value.ref Wd) else if y = Str.ofString "size" then some (.int (b.size : Int) ts) else if y = Str.ofString "numbers" then some (.ref Dn) else mT y) (Str.ofString "numbers") = some (.ref Dn) :=
    (if_neg (by decide)).trans ((if_neg (by decide)).trans (if_pos rfl))
  have eV2 : (fun y => if y = Str.ofString "words" then some (Value.ref Wd) else if y = Str.ofString "size" then some (.int (b.size : Int) ts) else if y = Str.ofString "numbers" then some (.ref Dn) else mT y) (Str.ofString "words") = some (.ref Wd) := if_pos rfl
  refine @segE2 w mean mg mb h₀ L fa cd _ { s with heap := hV, toks := tkV } E _ vs ws ns W Dn Wd oA B X T (fr_put2 FV eV1 eV2) NV hIn hns iW wW l2 l18 ⟨g2, g1⟩ ?_
  intro hX tkX mX ws' fx told tf tt FX NX f0 f9 htold iW' x1 x2 x3 x4
  dsimp only
  refine one_s ?_
  have hfn : fx.toNat < W.length := by omega
  refine @segHop w mean mg mb h₀ L fa cd mX { s with heap := hX, toks := tkX } E _ ws' vs (W.set fx.toNat 0) ns Wd Dn oA _ fx told tf tt B X T FX x4 x3 x1 x2 dA NX hIn hns iW' (set_in wW zero_in) (by rw [List.length_set]; exact l2) (by rw [List.length_set]; exact l18) ⟨g2, g1⟩ f0 (by rw [List.length_set]; exact f9) (get_set_same hfn) htold ?_
  intro hY tkY mY FY
  dsimp only
  exact law_end (k _ _ _ FY)
end
end Mine
end
open PySem PySem.W PyProof.Rows Mine
set_option maxRecDepth 100000 in
set_option maxHeartbeats 8000000 in
theorem PySem.Challenge.cw_bi0008_01_holds : PySem.Challenge.rw_bi0008_01.Holds := by
  refine Mine.hd ?_
  k_fill
  intro w s₀ s₁ mg mb G Y fa o pm cd doc dV kV ho hd hcd hD hmg hg args vals as hpre hlay hrd hwl hlo
  have KX := kIn_of Y
  refine Ground.open G ?_
  intro T B D TE TW
  clear hmg
  wrow_args hpre hlay hrd hwl hlo
  all_goals (
    refine enter_C ?_
    w_top on
    have K0 := below_caller (Top.heap T)
    have he := Dflts.none hD rfl
    subst he
    have he := Dflts.noKw hD
    subst he
    refine callC_cells (by decide) ho (fd_plain hd) (Top.nolimit T) hcd rfl (kinds_of (by kinds_ok)) (by decide) (fun h₁ tk₁ cells F N0 X0 => ?_) rfl rfl rfl
    cells_open X0
    clear hd
    rename IntsAre _ _ => hI9
    rename Heap.IsList _ _ _ => hL9
    rename Obj.data _ = Data.cell _ => dc9
    clear X0
    refine law_walk K0 KX T F rfl dc9 N0 hL9 hI9 (by omega) ?_
    intro h' tk' m' F'
    dsimp only
    refine GoodW.toG ?_
    refine goodW_bool F' hg (raisesW_false ?_) ?_
    · wrow_none_raised
    · kc_post)
