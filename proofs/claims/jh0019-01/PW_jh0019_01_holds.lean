import PyProof.Rows.All
import Wide.All
import OpenK.AllK
import Wide.FinOn
import Lean
import PySem.Challenge.RW_jh0019_01
set_option Elab.async false
set_option autoImplicit false
-- P1
section
open PySem PySem.Calls PySem.W PyProof.Rows
open Sem (wp)
set_option maxRecDepth 100000
namespace Mine
/-- no code of these is a decoder that holds a buffer -/
def NoDec (l : List Code) : Prop := ∀ c ∈ l, ∀ id a, c = .builtin id a → Builtin.Bytes.decodersThatHold.contains id = false
/-- wpAny, for the contexts whose stack holds no decoder -/
def wpP {α : Type} (M : Model) (A : Around) (t : Sem α) (Q : α → Shared → Prop) (E : Value → Shared → Prop) (s : Shared) : Prop :=
  ∀ Γ p, Γ.In A → NoDec (Γ.code :: Γ.below.map (·.1)) → wp M Γ t (fun a _ s' => Q a s') (fun e _ s' => E e s') p s
def codeP (M : Model) (A : Around) (c : Code) (R : Result → Shared → Prop) (s : Shared) : Prop :=
  ∀ Γ p, Γ.code = c → Γ.Below A → NoDec (Γ.below.map (·.1)) → wpCode M Γ R p s
section
variable {α β : Type} {M : Model} {A : Around} {E : Value → Shared → Prop} {s : Shared}
theorem wpP_of {t : Sem α} {Q : α → Shared → Prop} (h : wpAny M A t Q E s) : wpP M A t Q E s := fun Γ p hΓ _ => h Γ p hΓ
theorem codeP_of {c : Code} {R : Result → Shared → Prop} (h : codeAny M A c R s) : codeP M A c R s := fun Γ p hc hΓ _ => h Γ p hc hΓ
theorem wpP_mono {t : Sem α} {Q Q' : α → Shared → Prop} {E' : Value → Shared → Prop} (h : wpP M A t Q E s) (hQ : ∀ a s, Q a s → Q' a s) (hE : ∀ e s, E e s → E' e s) : wpP M A t Q' E' s :=
  fun Γ p hΓ hn => Sem.wp_mono M Γ t (fun a _ s => hQ a s) (fun e _ s => hE e s) p s (h Γ p hΓ hn)
theorem wpP_bind {m : Sem α} {f : α → Sem β} {Q : β → Shared → Prop} (h : wpP M A m (fun a s' => wpP M A (f a) Q E s') E s) : wpP M A (m >>= f) Q E s := fun Γ p hΓ hn => by
  rw [Sem.wp_bind']
  exact Sem.wp_mono M Γ m (fun a p' s' h' => h' Γ p' hΓ hn) (fun _ _ _ h' => h') p s (h Γ p hΓ hn)
/-- a first part by wpAny, the rest by wpP -/
theorem wpP_bindA {m : Sem α} {f : α → Sem β} {Q : β → Shared → Prop} (h : wpAny M A m (fun a s' => wpP M A (f a) Q E s') E s) : wpP M A (m >>= f) Q E s := wpP_bind (wpP_of h)
theorem wpP_done {Γ : Ctx} {t : Sem Fin} {R : Result → Shared → Prop} (hin : Γ.In A) (hn : NoDec (Γ.code :: Γ.below.map (·.1)))
    (h : wpP M A t (fun fin s' => ∃ f, fin = .done f ∧ R (.ok f) s') (fun e s' => R (.error e) s') s) (p : Pos) :
    wp M Γ t (Sem.finPost M Γ R) (fun e _ s' => R (.error e) s') p s := by
  refine Sem.wp_mono M Γ t (fun fin p' s' h' => ?_) (fun _ _ _ h' => h') p s (h Γ p hin hn)
  obtain ⟨f, rfl, hf⟩ := h'
  exact hf
theorem caller_noDec : NoDec ((.builtin "claim.caller" {} : Code) :: ([] : List (Code × Pos)).map (·.1)) := by
  intro c hc id a e
  rw [List.mem_singleton.mp hc] at e
  cases e
  decide +kernel
end
theorem thread_ends_P {prog : Program} {w : World} {t : Sem Fin} {s : Shared} {R : Result → Shared → Prop} (hreg : s.asleep)
    (h : wpP (model prog w) callerA t (fun fin s' => ∃ f, fin = .done f ∧ (R (.ok f) s' ∧ leftWithCleanup s'.gens = false)) (fun e s' => R (.error e) s' ∧ leftWithCleanup s'.gens = false) s) :
    ∃ n r s' s'', runN (denote table) prog w n s ⟨t, .builtin "claim.caller" {}, default, []⟩ = .halted (outcomeOf r) s' ∧
      schedN (denote table) prog w n (.single s ⟨t, .builtin "claim.caller" {}, default, []⟩) = .halted (outcomeOf r) s' ∧ s'.forget = s''.forget ∧ R r s'' := by
  obtain ⟨n, r, s₁, s₂, hs, hn, hfo, hR⟩ := wp_halts_full (M := model prog w) (R := R) hreg (wpP_done (R := fun r s' => R r s' ∧ leftWithCleanup s'.gens = false) caller_in caller_noDec h default)
  exact ⟨n, r, s₂, s₁, hn, hs, hfo, hR⟩
/-- the claim from the call's spec, said of the real stack -/
theorem callFrom_P {c : ClaimW} {tree : List Value → Sem Fin} {w : World} {s : Shared} {free : Addr → Prop} {gens : Prop} {kept : Heap → Prop} (hz : s.asleep) (hgens : s.gens = #[])
    (hspec : ∀ args, c.pre args = true → WData.layableAll args = true →
      ∀ ord : List DictEntry → List DictEntry, (∀ l, (ord l).Perm l) →
      ∃ vs s₁, layAllW c.records (classAt s.heap) w.params ord args s = some (vs, s₁) ∧
        wpP (model c.prog w) callerA (tree vs) (fun fin s' => ∃ f, fin = .done f ∧ (c.Ends s args vs s₁ (.ok f) s' ∧ s'.os = s.os ∧ AllBare s'.gens ∧ kept s'.heap))
          (fun e s' => c.Ends s args vs s₁ (.error e) s' ∧ s'.os = s.os ∧ AllBare s'.gens ∧ kept s'.heap) s₁) :
    c.CallFrom (fun vs => ⟨tree vs, .builtin "claim.caller" {}, default, []⟩) w free gens kept s := by
  intro args hpre hlay ord hord
  obtain ⟨vs, s₁, hlaid, hcode⟩ := hspec args hpre hlay ord hord
  have hal := layAllW_rest _ _ _ hlaid
  have hcode' := wpP_mono (Q' := fun fin s' => ∃ f, fin = .done f ∧ ((c.Ends s args vs s₁ (.ok f) s' ∧ s'.os = s.os ∧ kept s'.heap) ∧ leftWithCleanup s'.gens = false))
    (E' := fun e s' => (c.Ends s args vs s₁ (.error e) s' ∧ s'.os = s.os ∧ kept s'.heap) ∧ leftWithCleanup s'.gens = false) hcode
    (fun _ _ ⟨f, e, a, b, d, k⟩ => ⟨f, e, ⟨a, b, k⟩, leftWithCleanup_false_of_bare d⟩) fun _ _ ⟨a, b, d, k⟩ => ⟨⟨a, b, k⟩, leftWithCleanup_false_of_bare d⟩
  obtain ⟨k, r, s', s'', hrun, hsched, hfo, hcase, hos, hkp⟩ := thread_ends_P (R := fun r s' => c.Ends s args vs s₁ r s' ∧ s'.os = s.os ∧ kept s'.heap) (Shared.asleep_of_life hal.2.2.2 hz) hcode'
  obtain ⟨eh, _, _, eo, _⟩ := Shared.forget_eq hfo
  have hcase := hcase.congr eh
  have hkp' : kept s'.heap := eh.symm ▸ hkp
  have hlife : s'.heap.life = s.heap.life := (runN_life _ _ _ hrun).trans hal.2.2.2
  refine ⟨vs, s₁, hlaid, k, _, s', hsched, ?_, (fun _ i x hx => by rw [hgens] at hx; simp at hx), hkp', by rw [hlife], Shared.rest_eq (eo.trans hos)⟩
  rcases hcase with ⟨v, rfl, d1, d2, d3, d4, d5⟩ | ⟨e, ob, cls, rfl, d1, d2, d3, d4, d5⟩
  · exact .inl ⟨v, rfl, d1, d2, d3, fun b o y _ => d4 b o y, d5⟩
  · exact .inr ⟨e, ob, cls, rfl, d1, d2, d3, d4, fun b o y _ => d5 b o y⟩
abbrev WalkP (q : Program) (loose : List PySem.Str) (XP : (PySem.Str → Option Value) → Heap → Prop) (YP : World → Heap → Prop) (r : RowW) (d : DefRec) (kwd : List (PySem.Str × PySem.Expr)) : Prop :=
  ∀ (w : World) (s₀ s₁ : Shared) (mg mb : PySem.Str → Option Value), Ground q loose r.records XP w s₀ mg mb s₁.heap → YP w s₁.heap → ∀ (a : Addr) (o : Obj) (pm cd doc dV kV : Value), s₁.heap.get? a = some o →
    o.data = .func { docDef d.name d.params d.body d.scope pm cd doc with defaults := dV, kwdefaults := kV } → s₁.heap.CodeRec cd d.name → Dflts mg s₁.heap d.params kwd dV kV → mg d.name = some (.ref a) → s₁.gens = #[] →
    ∀ (args : List WData) (vals : List Value) (as : List Addr), r.claim.pre args = true → WData.layableAll args = true → ReadsAllW r.records (classAt s₀.heap) s₁.heap vals args as → WellAll w.params s₁.heap vals args → (∀ a ∈ as, (a == sysModules) = false) →
      wpP (model r.prog w) callerA (call (.ref a) vals) (fun v s' => GoodWG r.claim (classAt s₀.heap) (ExcName.means s₀.heap) args s₁ (.ok (.ret v)) s')
        (fun e s' => GoodWG r.claim (classAt s₀.heap) (ExcName.means s₀.heap) args s₁ (.error e) s') s₁
/-- the head of an open law, its call said of the real stack alone -/
theorem PySem.W.holds_open {r : OpenRow} {q : Program} {loose : List PySem.Str} {Xt : Shared → Bool} {XP : (PySem.Str → Option Value) → Heap → Prop} {α : Type} {Yf : Shared → α} {Ya : World → α} {YP : World → Heap → Prop} {d : DefRec} {kwd : List (PySem.Str × PySem.Expr)} {N : Nat}
    (left : LeftO r.prog q loose Xt Yf Ya N) (hY : ∀ w s, Yf s = Ya w → YP w s.heap) (hYk : ∀ w h h', YP w h → (∀ b o, h.get? b = some o → h'.get? b = some o) → YP w h')
    (hX : ∀ s, Xt s = true → XP (s.heap.nsMap mainGlobals) s.heap) (hXk : ∀ mg h h', XP mg h → (∀ b o, h.get? b = some o → h'.get? b = some o) → XP mg h')
    (hdef : defOf q r.name = some (d, kwd)) (hp : r.prog.theDef r.name = some (d.params, d.body, d.scope)) (hk : kwWritten? d.params.kwonlyargs d.params.kw_defaults = some kwd) (hRf : ∀ s, Xt s = true → RecFacts r.records s.heap) (hwr : (!r.writes || r.records.isEmpty) = true)
    (k1 : r.wellSaid = true) (ok : (chainsOk q && opensWell r.prog && (frees r.toRowW && r.within.isEmpty)) = true) (hb : r.prog.bare) (hw : r.toRowW.promised)
    (call : WalkP q loose XP YP r.toRowW d kwd) : r.Holds := by
  obtain ⟨ok, k5⟩ := Bool.and_eq_true_iff.mp ok
  obtain ⟨hch, o1⟩ := Bool.and_eq_true_iff.mp ok
  obtain ⟨k5, k6⟩ := Bool.and_eq_true_iff.mp k5
  obtain ⟨hsame, hu, ha, hap, hm⟩ := frees_parts k5
  refine ⟨k1, hw, ⟨hb, o1, by show r.makers.map _ = []; rw [hm]; rfl⟩, hw.witness, fun w => ⟨(left.behind hX hch w).1, fun s' hs' => ?_⟩⟩
  obtain ⟨s₀, hf, hg0, s, hT, hz, hgens, hg, G00, y⟩ := (left.behind (XP := fun mg h => XP mg h ∧ RecFacts r.records h) (fun s hs => ⟨hX s hs, hRf s hs⟩) hch w).2 s' hs'
  have G0 : Ground q loose [] XP w s (s.heap.nsMap mainGlobals) (s.heap.nsMap builtinsNs) s.heap := ⟨G00.T, G00.B, G00.D, G00.TE, G00.TD, G00.W, G00.X.1, G00.cls, G00.has, G00.apart, G00.once, G00.K⟩
  have RF := G00.X.2
  refine ⟨s₀, hf, hg0, s, hT, fun n hn => ?_, RF.1, RF.2.1, ?_⟩
  · obtain rfl : n = r.name := by split at hn <;> simp_all
    exact pinned_of_view hg G0 hdef hp hk
  have hgens : s.gens = #[] := Array.eq_empty_of_size_eq_zero (beq_iff_eq.mp hgens)
  have G : Ground q loose r.records XP w s _ _ s.heap := RF.ground G0
  refine callFrom_P (c := r.toRowW.claim) hz hgens fun args hpre hlay ord hord => ?_
  obtain ⟨⟨vs, s₁⟩, hlaid⟩ := Option.isSome_iff_exists.mp (layAllW_isSome (P := w.params) (ord := ord) G.has args r.args s (pre_splitW hpre).1)
  have keeps := layAllW_keeps _ _ _ hlaid
  have hal := layAllW_rest _ _ _ hlaid
  obtain ⟨as, hrd, hin, hold⟩ := reads_layAllW hord _ _ _ hlaid hlay s₁.heap (fun _ _ e => e)
  have L : Laid r.records w s s₁ args vs as := ⟨⟨ord, hord, hlaid⟩, hrd, hin, hold, keeps, hal.1.trans hgens, hal.2.2.1⟩
  have G₁ := G.keeps hXk keeps
  obtain ⟨a, o, pm, cd, doc, dV, kV, h1, h2, h3, h4, h5⟩ := G₁.fn hdef
  have h := call w s s₁ _ _ G₁ (hYk _ _ _ (hY w s y) keeps) a o pm cd doc dV kV h2 h3 h4 h5 (defOf_name hdef ▸ h1) L.gens args vs as hpre hlay L.reads L.well (L.low G.low)
  have hi := ident_freeW hu ha hap
  have hwi : r.toRowW.claim.within = [] := List.isEmpty_iff.mp k6
  refine ⟨vs, s₁, hlaid, wpP_bindA (wpAny_nsGet G₁.T.g ?_)⟩
  rw [h1]
  refine wpP_bind (wpP_mono h (fun v s' g => wpP_of (wpAny_pure ⟨_, rfl, ?_⟩)) fun e s' g => ?_)
  · have z := g.laid (c := r.toRowW.claim) hsame hwi hi L
    exact ⟨z.1, z.2.1, z.2.2, fun q => ⟨namesKept_of hT hg _ keeps g.2.1.old, noTable hwr q⟩⟩
  · have z := g.laid (c := r.toRowW.claim) hsame hwi hi L
    exact ⟨z.1, z.2.1, z.2.2, fun q => ⟨namesKept_of hT hg _ keeps g.2.1.old, noTable hwr q⟩⟩
end Mine

end
-- Hp19
section
open PySem PySem.W PyProof.Rows
namespace Mine
set_option maxRecDepth 100000 in
set_option maxHeartbeats 8000000 in
open_top hd for PySem.Challenge.rw_jh0019_01
end Mine

end
-- P2
section
open PySem PySem.Calls PySem.W PyProof.Rows
open Sem (wp)
set_option maxRecDepth 100000
namespace Mine
section
variable {α β : Type} {M : Model} {A : Around} {E : Value → Shared → Prop} {s : Shared} {R : Result → Shared → Prop}
theorem codeP_mono {c : Code} {R R' : Result → Shared → Prop} (h : codeP M A c R s) (hR : ∀ r s, R r s → R' r s) : codeP M A c R' s := fun Γ p hc hΓ hn => wpCode_mono hR (h Γ p hc hΓ hn)
theorem NoDec.tail {c : Code} {l : List Code} (h : NoDec (c :: l)) : NoDec l := fun x hx => h x (List.mem_cons_of_mem _ hx)
theorem NoDec.cons {c : Code} {l : List Code} (hc : ∀ id a, c = .builtin id a → Builtin.Bytes.decodersThatHold.contains id = false) (h : NoDec l) : NoDec (c :: l) := fun x hx => by
  rcases List.mem_cons.mp hx with rfl | hx
  · exact hc
  · exact h x hx
theorem wpP_call {f : Value} {pos : List Value} {kw : List (PySem.Str × Value)} {Q : Value → Shared → Prop}
    (hc : codeP M A (.call f ⟨pos, kw⟩) (fun r s' => match r with | .ok (.ret v) => Q v s' | .ok _ => False | .error e => E e s') s) :
    wpP M A (call f pos kw) Q E s := fun Γ p hΓ hn => by
  show wp M Γ (runValue _) _ _ p s
  rw [Sem.wp_runValue]
  exact hc _ p rfl (hΓ.enter _ none p (by intro x; cases x)) hn
theorem codeP_of_tree {c : Code} (hc : ∀ id a, c = .builtin id a → Builtin.Bytes.decodersThatHold.contains id = false)
    (h : wpP M (A.under c) (M.den c) (fun fin s' => match fin with | .done f => R (.ok f) s' | .again c' => c'.quiet = true ∧ codeP M A c' R s') (fun e s' => R (.error e) s') s) : codeP M A c R s := fun Γ p hcd hΓ hn => by
  rw [wpCode_iff_wp, hcd]
  refine Sem.wp_mono M Γ _ (fun fin p' s' h' => ?_) (fun _ _ _ h' => h') p s (h Γ p (hcd ▸ hΓ.in) (hcd ▸ NoDec.cons hc hn))
  cases fin with
  | done f => exact h'
  | again c' => exact ⟨h'.1, h'.2 (Γ.goto c') p' rfl (hΓ.goto c') hn⟩
theorem wpP_onRaise {m : Sem α} {k : Value → Sem Unit} {Q : α → Shared → Prop}
    (h : wpP M A m Q (fun e s' => wpP M A (k e) (fun _ s'' => E e s'') E s') s) : wpP M A (m.onRaise k) Q E s := fun Γ p hΓ hn => by
  rw [Sem.wp_onRaise]
  exact Sem.wp_mono M Γ m (fun _ _ _ h' => h') (fun e p' s' h' => h' Γ p' hΓ hn) p s (h Γ p hΓ hn)
end
section
variable {prog : Program} {w : World} {A : Around} {E : Value → Shared → Prop} {s : Shared} {R : Result → Shared → Prop}
theorem codeP_func {body : List Stmt} {env : Env}
    (h : wpP (model prog w) (A.deeper env) (execs body env) (fun f s' => R (.ok (.ret (match f with | .ret v => v | _ => .none))) s') (fun _ _ => False) s) :
    codeP (model prog w) A (.func body env) R s := by
  refine codeP_of_tree (fun _ _ e => by cases e) ?_
  show wpP _ (A.deeper env) (do point; match ← (execs body env).onRaise (leaving env) with | .ret v => ret v | _ => ret .none) _ _ s
  refine wpP_bindA (wpAny_point (wpP_bind (wpP_onRaise (wpP_mono h (fun f s' h' => ?_) fun _ _ h' => h'.elim))))
  cases f <;> exact wpP_of (wpAny_pure h')
/-- the law's own frame, entered on the real stack -/
theorem enter_P {name : PySem.Str} {params : Arguments} {body : List Stmt} {scope : Scope} {pm cd doc : Value} {a : Addr} {o : Obj} {args : List Value} {binds : List (PySem.Str × Value)}
    (hroom : A.depth < recursionLimit) (ho : s.heap.get? a = some o) (hdata : o.data = .func (Calls.docDef name params body scope pm cd doc)) (hlim : s.heap.NoLimit) (hcd : s.heap.CodeRec cd name)
    (hbind : bindArgs (Calls.docDef name params body scope pm cd doc) ⟨args, []⟩ = pure binds)
    (hkind : ∀ x ∈ binds, scope.names.lookup x.1 = some .local ∨ (scope.names.lookup x.1 = some .cell ∧ ((cellsFrom (s.heap.objs.size + 1) scope.names []).lookup x.1).isSome = true))
    (hnd : ((cellsFrom 0 scope.names []).map (·.1)).Nodup)
    (h : ∀ h₁ tk cells, Fr s.heap s.heap.objs.size h₁ (bindL (envOfC name scope s.heap.objs.size a cd).kindOf binds fun _ => none) → News s.heap s.heap.objs.size h₁ cells →
      CellsAre (bindC (envOfC name scope s.heap.objs.size a cd).kindOf binds fun _ => none) (cellsFrom (s.heap.objs.size + 1) scope.names []) cells →
      wpP (model prog w) (A.deeper (envOfC name scope s.heap.objs.size a cd)) (execs body (envOfC name scope s.heap.objs.size a cd))
        (fun f s' => R (.ok (.ret (match f with | .ret v => v | _ => .none))) s') (fun _ _ => False) { s with heap := h₁, toks := tk })
    (hco : scope.isCoroutine = false := by rfl) (hgen : scope.isGenerator = false := by rfl) (hk : scope.kind = .function := by rfl) :
    codeP (model prog w) A (.call (.ref a) ⟨args, []⟩) R s := by
  refine codeP_of_tree (fun _ _ e => by cases e) (wpP_of ?_)
  show wpAny _ A.in1 (callAny (.ref a) ⟨args, []⟩) _ _ s
  simp only [callAny]
  refine wpAny_bind (wpAny_load ho ?_)
  obtain ⟨c, oc, vs, tq, hc, hoc, hdc, hq⟩ := hcd
  subst hc
  simp only [hdata, callFunction, Calls.docDef, hco, hgen]
  refine wpAny_bind (m := field (.ref c) 1) (wpAny_field hoc hdc hq (wpAny_bind (wpAny_pure ?_)))
  have hbind' : bindArgs (Calls.docDef name params body scope pm (.ref c) doc) ⟨args, []⟩ = pure binds := hbind
  unfold Calls.docDef at hbind'
  rw [hbind']
  refine wpAny_bind (wpAny_pure ?_)
  refine wpAny_bind (wpAny_newFunctionEnv_cells hk hkind fun env' he s' x => ?_)
  subst he
  obtain ⟨h₁, tk, rfl, _⟩ := x.done
  refine wpAny_bind (wpAny_enterFrame (hlim.keeps x.toInCall.keep) hroom (wpAny_pure ⟨rfl, codeP_func ?_⟩))
  obtain ⟨cells, NC, Y⟩ := Cl.news (h₀ := s.heap) (Nat.le_refl _) fun n c hm => ⟨x.cell n c (lookup_of_mem_nodup (cellsFrom_names scope.names 0 (s.heap.objs.size + 1) [] [] rfl ▸ hnd) hm), x.above n c hm⟩
  exact h h₁ tk cells ⟨x.toInCall.ns, x.toInCall.keep, x.toInCall.fresh⟩ NC Y
/-- one statement by a walk; what stands behind it is said by P -/
theorem cutP {st : Stmt} {rest : List Stmt} {env : Env} {Q : Flow → Shared → Prop} (P : (Shared → Prop) → Prop)
    (h1 : ∀ K : Flow → Shared → Prop, P (K .next) → wpAny (model prog w) A (exec st env) K (fun _ _ => False) s)
    (h2 : P fun s' => wpP (model prog w) A (execs rest env) Q E s') : wpP (model prog w) A (execs (st :: rest) env) Q E s := by
  rw [execs_cons]
  refine wpP_bindA (wpAny_mono (h1 (fun f s' => match f with | .next => wpP (model prog w) A (execs rest env) Q E s' | _ => False) h2) (fun f s' h => ?_) fun _ _ h => h.elim)
  cases f with
  | next => exact h
  | _ => exact h.elim
end
end Mine

end
-- P3
section
open PySem PySem.Calls PySem.W PyProof.Rows
open Sem (wp)
set_option maxRecDepth 100000
namespace Mine
section
variable {α : Type} {M : Model} {A : Around} {E : Value → Shared → Prop} {s : Shared} {env : Env}
theorem wpP_holding {vs : List Value} {m : Sem α} {Q : α → Shared → Prop} (h : wpP M A m Q E s) : wpP M A (holding vs m) Q E s :=
  fun Γ p hΓ hn => by rw [Sem.wp_holding]; exact h Γ p hΓ hn
/-- a first part on the real stack, the rest by wpAny -/
theorem wpP_then {β : Type} {m : Sem α} {f : α → Sem β} {Q₁ : α → Shared → Prop} {Q : β → Shared → Prop} (h : wpP M A m Q₁ E s) (k : ∀ a s', Q₁ a s' → wpAny M A (f a) Q E s') : wpP M A (m >>= f) Q E s :=
  wpP_bind (wpP_mono h (fun a s' h' => wpP_of (k a s' h')) fun _ _ x => x)
theorem if_P {test : PySem.Expr} {body orelse : List Stmt} {pos : Pos} {Q : Flow → Shared → Prop}
    (h : wpP M A (isTrue test env (eval test env)) (fun b s₂ => if b then wpAny M A (execs body env) Q E s₂ else wpAny M A (execs orelse env) Q E s₂) E s) :
    wpP M A (exec (.If test body orelse pos) env) Q E s := by
  rw [exec_If]
  refine wpP_bindA (wpAny_standAt (wpP_then h fun b s' h' => ?_))
  cases b <;> exact h'
theorem or_P {x : PySem.Expr} {rest : List PySem.Expr} {pos : Pos} {whole : Sem Value} {Q : Bool → Shared → Prop}
    (h : wpAny M A (isTrue x env (eval x env)) (fun c s' => if c then Q true s' else wpP M A (isTrue (.BoolOp .Or rest pos) env whole) Q E s') E s) :
    wpP M A (isTrue (.BoolOp .Or (x :: rest) pos) env whole) Q E s := by
  show wpP M A (do
    match BoolOp.Or, ← isTrue x env (eval x env) with
    | .And, false => pure false
    | .Or, true => pure true
    | _, _ => allTrue .Or rest env) Q E s
  refine wpP_bindA (wpAny_mono h (fun c s' h' => ?_) fun _ _ x => x)
  cases c with
  | true => exact wpP_of (wpAny_pure h')
  | false => exact h'
theorem orLast_P {x : PySem.Expr} {pos : Pos} {whole : Sem Value} {Q : Bool → Shared → Prop}
    (h : wpP M A (isTrue x env (eval x env)) Q E s) :
    wpP M A (isTrue (.BoolOp .Or [x] pos) env whole) Q E s := by
  show wpP M A (do
    match BoolOp.Or, ← isTrue x env (eval x env) with
    | .And, false => pure false
    | .Or, true => pure true
    | _, _ => allTrue .Or [] env) Q E s
  refine wpP_then h fun c s' h' => ?_
  cases c with
  | true => exact wpAny_pure h'
  | false => exact wpAny_pure h'
theorem cmp_P {l r : PySem.Expr} {op : CmpOp} {pos : Pos} {whole : Sem Value} {Q : Bool → Shared → Prop}
    (h : wpP M A (eval l env) (fun a s₁ => wpAny M A (eval r env) (fun b s₂ => wpAny M A (compareOp op a b) (fun c s₃ => wpAny M A (truthy c) Q E s₃) E s₂) E s₁) E s)
    (hm : behindInMarks op r = false := by with_unfolding_all rfl) : wpP M A (isTrue (.Compare l [op] [r] pos) env whole) Q E s := by
  rw [isTrue_Compare1, markedBehindIn_of_false hm]
  refine wpP_then h fun a s₁ h₁ => wpAny_bind (wpAny_holding (wpAny_mono h₁ (fun b s₂ h₂ => ?_) fun _ _ x => x))
  refine wpAny_bind (wpAny_standAt (wpAny_bind ?_))
  refine fun Γ p hΓ => ?_
  rw [Sem.wp_operate]
  exact (wpAny_mono h₂ (fun c s₃ h₃ => wpAny_holding h₃) fun _ _ x => x) Γ p hΓ
theorem call_P {func : PySem.Expr} {args : List PySem.Expr} {pos : Pos} {Q : Value → Shared → Prop}
    (h : wpAny M A (eval func env) (fun f s₁ => wpP M A (callWith pos f [] (backTo pos (starEach args env)) []) Q E s₁) E s)
    (he : eval (.Call func args [] pos) env = (do callWith pos (← eval func env) [] (backTo pos (starEach args env)) (backToKw pos (keywordEach [] env))) := by rfl) :
    wpP M A (eval (.Call func args [] pos) env) Q E s := by
  rw [he]
  exact wpP_bindA h
theorem spliced_P {x : Sem Value} {rest : List (Bool × Sem Value)} {Q : List Value → Shared → Prop}
    (h : wpP M A x (fun v s₁ => wpAny M A (spliced rest) (fun vs s₂ => Q (v :: vs) s₂) E s₁) E s) : wpP M A (spliced ((false, x) :: rest)) Q E s := by
  rw [spliced]
  refine wpP_then h fun v s₁ h₁ => ?_
  simp only [Bool.false_eq_true, if_false]
  exact wpAny_bind (wpAny_pure (wpAny_bind (wpAny_holding (wpAny_mono h₁ (fun vs s₂ h₂ => wpAny_pure h₂) fun _ _ x => x))))
theorem args_P {f : Value} {x : Sem Value} {rest : List (Bool × Sem Value)} {Q : Args → Shared → Prop}
    (h : wpP M A (spliced ((false, x) :: rest)) (fun vs s' => Q ⟨vs, []⟩ s') E s) : wpP M A (evalArgs f true ((false, x) :: rest) []) Q E s := by
  unfold evalArgs
  show wpP M A (spliced ((false, x) :: rest) >>= _) Q E s
  refine wpP_then h fun vs s' h' => ?_
  refine wpAny_holding ?_
  exact wpAny_bind (wpAny_pure (wpAny_bind (wpAny_pure (wpAny_pure h'))))
/-- a built-in class called by its name: the call itself on the real stack -/
theorem callT_P {pos : Pos} {T : String} {e : PySem.Expr} {rest : List PySem.Expr} {Q : Value → Shared → Prop}
    (h : wpAny M A (spliced (backTo pos (starEach (e :: rest) env))) (fun vs s₁ => wpP M A (call (.type T) vs) Q E s₁) E s)
    (he : starEach (e :: rest) env = (false, eval e env) :: starEach rest env := by rfl)
    (hplain : (backTo pos (starEach rest env)).any (·.1) = false := by rfl) :
    wpP M A (callWith pos (.type T) [] (backTo pos (starEach (e :: rest) env)) []) Q E s := by
  rw [he] at h ⊢
  have hp : ((false, eval e env) :: backTo pos (starEach rest env)).any (·.1) = false := by show (false || (backTo pos (starEach rest env)).any (·.1)) = false; rw [hplain]; rfl
  have h' := evalArgs_plain (f := .type T) (Q := fun a s₁ => wpP M A (call (.type T) ([] ++ a.pos) a.kw) Q E s₁) h
  unfold callWith
  refine wpP_bindA (wpAny_holding (wpAny_mono h' (fun a s₁ h₁ => wpP_bindA (wpAny_standAt ?_)) fun _ _ x => x))
  have hp' : (backTo pos ((false, eval e env) :: starEach rest env)).any (·.1) = false := hp
  simp only [hp', List.any_nil, Bool.or_false]
  refine wpP_bindA (wpAny_pure ?_)
  exact wpP_bind (wpP_mono h₁ (fun r s₂ hr => wpP_of (wpAny_bind (wpAny_holding (wpAny_point (wpAny_pure hr))))) fun _ _ x => x)
end
section
variable {M : Model} {A : Around} {E : Value → Shared → Prop} {s : Shared} {K : Frag} {env : Env} {pos : Pos} {f : Value} {Q : Value → Shared → Prop}
/-- a def or class of the text called, its first argument on the real stack -/
theorem callK_P {e : PySem.Expr} {rest : List PySem.Expr} (hk : keepIn K f = true)
    (h : wpP M A (eval e env) (fun v s₁ => wpAny M A (spliced (backTo pos (starEach rest env))) (fun vs s₂ => K.In s₂.heap ∧ wpAny M A (call f (v :: vs)) Q E s₂) E s₁) E s)
    (he : starEach (e :: rest) env = (false, eval e env) :: starEach rest env := by rfl) (hplain : (backTo pos (starEach rest env)).any (·.1) = false := by rfl) :
    wpP M A (callWith pos f [] (backTo pos (starEach (e :: rest) env)) []) Q E s := by
  rw [he]
  have hp : (backTo pos ((false, eval e env) :: starEach rest env)).any (·.1) = false := by show (false || (backTo pos (starEach rest env)).any (·.1)) = false; rw [hplain]; rfl
  have h' := args_P (f := f) (Q := fun a s₁ => K.In s₁.heap ∧ wpAny M A (call f ([] ++ a.pos) a.kw) Q E s₁) (spliced_P (rest := backTo pos (starEach rest env)) h)
  unfold callWith
  refine wpP_then (wpP_holding h') fun a s₁ h₁ => wpAny_bind (wpAny_standAt ?_)
  obtain ⟨k, hk', L⟩ := keeps_K (M := M) hk _ h₁.1
  simp only [hp, List.any_nil, Bool.or_false]
  refine wpAny_bind (L.here ?_)
  have tail : ∀ {t : Sem Value}, wpAny M A t Q E s₁ → wpAny M A (t >>= fun r => holding [r] point >>= fun _ => pure r) Q E s₁ :=
    fun ht => wpAny_bind (wpAny_mono ht (fun r s₂ hr => wpAny_bind (wpAny_holding (wpAny_point (wpAny_pure hr)))) fun _ _ x => x)
  have marked (mk : Value) : wpAny M A (callMarked mk f ([] ++ a.pos) a.kw) Q E s₁ := by unfold callMarked; exact Calls.wpAny_keep h₁.2
  rcases hk' with rfl | rfl | rfl <;> dsimp only <;> first | exact tail h₁.2 | (split <;> first | exact tail h₁.2 | exact tail (marked _))
end
section
variable {prog : Program} {w : World} {A : Around} {E : Value → Shared → Prop} {s : Shared}
theorem attr_P {env : Env} {value : PySem.Expr} {attr : PySem.Str} {pos : Pos} {Q : Value → Shared → Prop}
    (h : wpP (model prog w) A (eval value env) (fun o s₁ => wpAny (model prog w) A (getAttr o attr true) Q E s₁) E s)
    (he : eval (.Attribute value attr pos) env = (do
      let o ← eval value env
      standAt pos.atName
      let r ← holding [o] (getAttr o attr true)
      letTemporaryGo value o r
      pure r) := by with_unfolding_all rfl) : wpP (model prog w) A (eval (.Attribute value attr pos) env) Q E s := by
  rw [he]
  refine wpP_then h fun o s₁ h₁ => wpAny_bind (wpAny_standAt (wpAny_bind (wpAny_holding (wpAny_mono h₁ (fun r s₂ hr => ?_) fun _ _ x => x))))
  exact wpAny_bind (wpAny_letTemporaryGo (wpAny_pure hr))
/-- one statement on the real stack -/
theorem cutPP {st : Stmt} {rest : List Stmt} {env : Env} {Q : Flow → Shared → Prop} (P : (Shared → Prop) → Prop)
    (h1 : ∀ K : Flow → Shared → Prop, P (K .next) → wpP (model prog w) A (exec st env) K (fun _ _ => False) s)
    (h2 : P fun s' => wpP (model prog w) A (execs rest env) Q E s') : wpP (model prog w) A (execs (st :: rest) env) Q E s := by
  rw [execs_cons]
  refine wpP_bind (wpP_mono (h1 (fun f s' => match f with | .next => wpP (model prog w) A (execs rest env) Q E s' | _ => False) h2) (fun f s' h => ?_) fun _ _ h => h.elim)
  cases f with
  | next => exact h
  | _ => exact h.elim
end
end Mine

end
-- P4
section
open PySem PySem.Calls PySem.W PyProof.Rows
namespace Mine
/-- a part of an «or» that is false, what stands behind it said by P -/
theorem or_cut {M : Model} {A : Around} {E : Value → Shared → Prop} {s : Shared} {env : Env} {x : PySem.Expr} {rest : List PySem.Expr} {pos : Pos} {whole : Sem Value} {Q : Bool → Shared → Prop} (P : (Shared → Prop) → Prop)
    (h1 : ∀ K : Bool → Shared → Prop, P (K false) → wpAny M A (isTrue x env (eval x env)) K (fun _ _ => False) s)
    (h2 : P fun s' => wpP M A (isTrue (.BoolOp .Or rest pos) env whole) Q E s') : wpP M A (isTrue (.BoolOp .Or (x :: rest) pos) env whole) Q E s := by
  refine or_P (wpAny_mono (h1 (fun c s' => if c then False else wpP M A (isTrue (.BoolOp .Or rest pos) env whole) Q E s') h2) (fun c s' h => ?_) fun _ _ h => h.elim)
  cases c with
  | true => exact h.elim
  | false => exact h
end Mine

end
-- B2
section
open PySem PySem.Spec PySem.Calls PySem.W PyProof.Rows
open Sem (wp)
set_option maxRecDepth 100000
namespace Mine
namespace BA
theorem mro : mroOf (.type "bytearray") = pure [.type "bytearray", .type "object"] := by rw [mroOf_type]; kernel_rfl
theorem find_init : typeLookup (.type "bytearray") "__init__" = pure (some (.builtin "bytearray.__init__")) := by rw [typeLookup_type, builtinLookup_eq_fast]; kernel_rfl
theorem find_new : typeLookup (.type "bytearray") "__new__" = pure (some (.builtin "bytearray.__new__")) := by rw [typeLookup_type, builtinLookup_eq_fast]; kernel_rfl
theorem find_rel : typeLookup (.type "bytearray") "__release_buffer__" = pure (some (.builtin "bytearray.__release_buffer__")) := by rw [typeLookup_type, builtinLookup_eq_fast]; kernel_rfl
theorem find_buf : typeLookup (.type "bytearray") "__buffer__" = pure (some (.builtin "bytearray.__buffer__")) := by rw [typeLookup_type, builtinLookup_eq_fast]; kernel_rfl
theorem find_bytes : typeLookup (.type "bytearray") "__bytes__" = pure none := by rw [typeLookup_type, builtinLookup_eq_fast]; kernel_rfl
theorem find_index : typeLookup (.type "bytearray") "__index__" = pure none := by rw [typeLookup_type, builtinLookup_eq_fast]; kernel_rfl
theorem find_bindex : typeLookup (.type "bytes") "__index__" = pure none := by rw [typeLookup_type, builtinLookup_eq_fast]; kernel_rfl
theorem slot_init : Slot "bytearray" "__init__" "bytearray.__init__" :=
  .of (owner := "bytearray") (n := "__init__") find_init (by decide +kernel) (by decide +kernel) (by decide +kernel)
    (by first | exact .inl (by decide +kernel) | exact .inr (by decide +kernel)) (by rw [isSubtype_type]; kernel_rfl)
theorem called : TypeCalled "bytearray" "bytearray.__new__" "bytearray.__init__" :=
  ⟨by decide +kernel, by decide +kernel, ⟨_, _, mro⟩, madeBy_type mro find_new (by decide +kernel), by decide +kernel, by rw [isSubtype_type]; kernel_rfl, slot_init⟩
theorem typeCall (a : Value) : checkTypeCall "bytearray" ⟨[a], []⟩ = pure () := by kernel_rfl
theorem newCall (a : Value) : checkBuiltinCall "bytearray.__new__" ⟨[.type "bytearray", a], []⟩ = pure () := by kernel_rfl
theorem args_init (a b : Value) : argsOk "bytearray.__init__" ⟨[a, b], []⟩ := by unfold argsOk; kernel_rfl
theorem plain_new : plainId "bytearray.__new__" = true := by decide +kernel
theorem plain_init : plainId "bytearray.__init__" = true := by decide +kernel
theorem entry_init : entryFor table "bytearray.__init__" = some Builtin.«bytearray.__init__» := by first | exact entryFor_of_fast (by kernel_rfl) | exact entryFor_of_tree (by kernel_rfl)
theorem entry_new : entryFor table "bytearray.__new__" = some Builtin.«list.__new__» := entryFor_alias (id' := "list.__new__") (by kernel_rfl) (by decide +kernel) (by decide +kernel) (by kernel_rfl)
theorem bindI (v : Value) : Builtin.Bytes.bindOptional "bytearray.__init__" "bytearray" ["source", "encoding", "errors"] [v] [] = pure [some v, none, none] := by kernel_rfl
end BA
section
variable {prog : Program} {w : World} {A : Around} {E : Value → Shared → Prop} {s : Shared}
theorem exported_P {M : Model} {o : Addr} {Q : Bool → Shared → Prop} (hg : A.guards = some []) (h : Q false s) : wpP M A (Builtin.Bytes.exported (.ref o)) Q E s := by
  intro Γ p hΓ hn
  unfold Builtin.Bytes.exported
  show Q (((Γ.code, p) :: Γ.below).any _) s
  rw [List.any_eq_false.mpr ?_]
  · exact h
  · rintro ⟨c, q⟩ hc
    have hgd : c.isGuard = false := by
      have hgs := hΓ.2.2.2.1 [] hg
      cases hcg : c.isGuard with
      | false => rfl
      | true =>
        have : c ∈ guardsOf ((Γ.code, p) :: Γ.below) := List.mem_filter.mpr ⟨List.mem_map.mpr ⟨_, hc, rfl⟩, hcg⟩
        rw [guardsOf_cons, hgs] at this
        cases this
    have hd := hn c (by
      rcases List.mem_cons.mp hc with e | hc
      · cases e; exact .head _
      · exact .tail _ (List.mem_map.mpr ⟨_, hc, rfl⟩))
    have hno : ∀ (x : String) (a : Args), guardIds.contains x = true → c ≠ Code.builtin x a := fun x a hx e => by
      subst e
      have : guardIds.contains x = false := hgd
      rw [hx] at this
      cases this
    split
    · rename_i e; cases e; exact absurd rfl (hno _ _ (by decide +kernel))
    · rename_i e; cases e; exact absurd rfl (hno _ _ (by decide +kernel))
    · rename_i e; cases e; exact absurd rfl (hno _ _ (by decide +kernel))
    · rename_i e; cases e; exact absurd rfl (hno _ _ (by decide +kernel))
    · rename_i e; cases e; exact absurd rfl (hno _ _ (by decide +kernel))
    · rename_i e; cases e; have z := hd _ _ rfl; simp only [z, Bool.and_false]; exact Bool.false_ne_true
    · simp
end
end Mine

end
-- B3
section
open PySem PySem.Spec PySem.Calls PySem.W PyProof.Rows
open Sem (wp)
set_option maxRecDepth 100000
namespace Mine
set_option maxRecDepth 1000000 in
set_option maxHeartbeats 4000000 in
theorem owner_ba_new : ("bytearray.__new__".splitOn ".__new__").headD "" = "bytearray" := by simp +decide [String.splitOn, String.splitOnAux]
section
variable {prog : Program} {w : World} {A : Around} {E : Value → Shared → Prop} {s : Shared} {R : Result → Shared → Prop}
theorem codeP_builtin {id : String} {args : Args} {b : Builtin} (hb : entryFor table id = some b) (hd : Builtin.Bytes.decodersThatHold.contains id = false)
    (h : wpP (model prog w) (A.under (.builtin id args)) (b args)
      (fun fin s' => match fin with | .done f => R (.ok f) s' | .again c' => c'.quiet = true ∧ codeP (model prog w) A c' R s') (fun e s' => R (.error e) s') s) :
    codeP (model prog w) A (.builtin id args) R s := by
  refine codeP_of_tree (fun _ _ e => by cases e; exact hd) ?_
  show wpP _ _ (match entryFor table id with | some b => b args | none => unsupported ((withoutEnding? id "#data").getD id)) _ _ s
  rw [hb]; exact h
theorem code_ba_new (a : Value) {Q₁ : Value → Shared → Prop}
    (h : Q₁ (.ref s.heap.objs.size) { s with heap := s.heap.push { cls := .type "bytearray", data := .bytearray #[] } }) :
    codeAny (model prog w) A (.call (.builtin "bytearray.__new__") ⟨[.type "bytearray", a], []⟩) (wants Q₁ E) s := by
  refine codeAny_of_tree ?_
  show wpAny _ A.in1 (do checkBuiltinCall "bytearray.__new__" ⟨[.type "bytearray", a], []⟩; again (.builtin "bytearray.__new__" ⟨[.type "bytearray", a], []⟩)) _ _ s
  refine wpAny_bind (wpAny_of_eq (BA.newCall a) (wpAny_pure ⟨plainId_quiet BA.plain_new _, codeAny_builtin_stack BA.entry_new rfl fun p st => ?_⟩))
  rw [Around.under_plainId BA.plain_new _]
  have hsub : isSubtype (.type "bytearray") (.type "bytearray") = pure true := by rw [isSubtype_type]; kernel_rfl
  have hown := owner_ba_new
  obtain ⟨hp, g, d, tk, os⟩ := s
  simp only [hown]
  wp_walk
  exact h
theorem ownRel_ba {M : Model} {o : Addr} {Q : Bool → Shared → Prop} (hT : s.TypeIs (.ref o) "bytearray") (hQ : Q false s) : wpAny M A (Builtin.Bytes.ownRelease (.ref o)) Q E s := by
  unfold Builtin.Bytes.ownRelease Builtin.Bytes.slotIsOwn
  refine wpAny_bind (wpAny_bind (wpAny_specialOf hT BA.find_rel ?_))
  have key : ∀ x : String, x = "bytearray" → wpAny M A (isInstance (.ref o) (.type x)) (fun b s' => wpAny M A (pure (!b)) Q E s') E s := fun x hx => by
    rw [hx]
    exact wpAny_isInstance hT BA.called.sub (wpAny_pure hQ)
  dsimp only
  split
  · rename_i hx
    exact absurd hx (by decide +kernel)
  · exact key _ (by decide +kernel)
theorem buffer_full {id : String} {b : Array UInt8} {t : Tok} : Builtin.Bytes.buffer? id (.bytes b t) true = pure (some b) := by
  unfold Builtin.Bytes.buffer?
  rw [KBy.special_eq KBy.look_buffer, KBy.own_buffer, KBy.own_release]
  kernel_rfl
theorem write_ba {M : Model} {o : Addr} {ob : Obj} {c b : Array UInt8} {n : Nat} {Q : Unit → Shared → Prop} (ho : s.heap.get? o = some ob) (hd : ob.data = .bytearray c n) (hz : b.size ≤ sizeLine)
    (hQ : ∀ h', Heap.SameBut o s.heap h' → h'.get? o = some (Obj.mapBytearray (fun _ => b) ob) → Q () { s with heap := h' }) : wpAny M A (Builtin.Bytes.write (.ref o) fun _ => b) Q E s := by
  show wpAny _ _ (updateBytearray o _) _ _ _
  unfold updateBytearray
  refine wpAny_bind (wpAny_load ho ?_)
  rw [hd]
  show wpAny _ _ (update o (Obj.mapBytearray (fun _ => b)) >>= fun _ => lookBehind o) _ _ _
  refine wpAny_bind (wpAny_update ho ?_)
  have h2 : (s.heap.update o (Obj.mapBytearray (fun _ => b))).get? o = some (Obj.mapBytearray (fun _ => b) ob) := Heap.get?_update_self _ ho (by obtain ⟨a1, a2, a3, a4⟩ := ob; cases hd; rfl)
  refine wpAny_lookBehind h2 ?_ (hQ _ (Heap.SameBut.update ..) h2)
  obtain ⟨a1, a2, a3, a4⟩ := ob
  cases hd
  show (if b.size > sizeLine then some "bytearray:memory" else none) = none
  rw [if_neg (by omega)]
theorem call_ba_P {b : Array UInt8} {t : Tok} {Q : Value → Shared → Prop} (hg : A.guards = some []) (hz : b.size ≤ sizeLine)
    (hQ : ∀ h', (∀ x o, s.heap.get? x = some o → h'.get? x = some o) → h'.get? s.heap.objs.size = some { cls := .type "bytearray", data := .bytearray b } → Q (.ref s.heap.objs.size) { s with heap := h' }) :
    wpP (model prog w) A (call (.type "bytearray") [.bytes b t]) Q E s := by
  refine wpP_call (codeP_of_tree (fun _ _ e => by cases e) ?_)
  show wpP _ _ (callAny (.type "bytearray") _) _ _ _
  refine wpP_of (wpAny_pure ⟨Code.quiet_builtin _ (by decide +kernel), codeP_builtin F.entry_type_call (by decide +kernel) ?_⟩)
  rw [Around.under_plain (weight_type_call_type "bytearray" [.bytes b t] []) rfl]
  have h1 := BA.called.notType
  have h2 := BA.called.canCreate
  unfold Builtin.«type.__call__»
  dsimp only
  simp only [show (Value.type "bytearray" == Value.type "type") = false from by decide +kernel, Bool.false_eq_true, if_false, h2, BA.typeCall, BA.mro, pure_bind, BA.called.made, List.isEmpty_cons]
  refine wpP_bindA (wpAny_holding (wpAny_call (code_ba_new _ ?_)))
  have ho : (s.heap.push { cls := .type "bytearray", data := .bytearray #[] }).get? s.heap.objs.size = some { cls := .type "bytearray", data := .bytearray #[] } := Heap.get?_push_size _ rfl
  have hT : ({ s with heap := s.heap.push { cls := .type "bytearray", data := .bytearray #[] } } : Shared).TypeIs (.ref s.heap.objs.size) "bytearray" := ⟨_, ho, rfl⟩
  refine wpP_bindA (wpAny_isInstance hT BA.called.sub ?_)
  simp only [Bool.not_true, Bool.false_eq_true, if_false]
  refine wpP_bind (wpP_holding ?_)
  simp only [callSpecial?]
  refine wpP_bindA (wpAny_specialOf hT BA.slot_init.lookup ?_)
  simp only [BA.slot_init.bind]
  refine wpP_holding (wpP_bindA (wpAny_pure (wpP_bind (wpP_call (codeP_of_tree (fun _ _ e => by cases e) ?_)))))
  show wpP _ A.in1.in1 (do checkBuiltinCall "bytearray.__init__" ⟨[.ref s.heap.objs.size, .bytes b t], []⟩; again (.builtin "bytearray.__init__" ⟨[.ref s.heap.objs.size, .bytes b t], []⟩)) _ _ _
  refine wpP_bindA (BA.slot_init.check _ _ _ _ _ _ _ _ hT (BA.args_init _ _) (wpP_of (wpAny_pure ⟨plainId_quiet BA.plain_init _, codeP_builtin BA.entry_init (by decide +kernel) ?_⟩)))
  rw [Around.under_plainId BA.plain_init _]
  unfold Builtin.«bytearray.__init__»
  dsimp only
  refine wpP_bindA (ownRel_ba hT ?_)
  simp only [Bool.false_eq_true, if_false]
  refine wpP_bindA (wpAny_of_eq (BA.bindI _) ?_)
  dsimp only
  refine wpP_bindA (wpAny_of_eq (a := ()) rfl ?_)
  refine wpP_bindA (wpAny_of_eq (a := ()) rfl ?_)
  refine wpP_bind ?_
  show wpP _ _ (Builtin.Bytes.exported _ >>= _) _ _ _
  refine wpP_bind (exported_P hg ?_)
  refine wpP_of ?_
  show wpAny _ _ (Builtin.Bytes.exportsOf _ >>= _) _ _ _
  refine wpAny_bind ?_
  unfold Builtin.Bytes.exportsOf
  refine wpAny_bind (wpAny_load ho (wpAny_pure (wpAny_pure (wpP_of ?_))))
  refine bm_if_false (by decide) ?_
  refine wpAny_bind (write_ba ho rfl (Nat.zero_le _) fun h2 hs2 ho2 => ?_)
  refine wpAny_bind (wpAny_of_eq (a := none) rfl ?_)
  refine bm_if_false rfl ?_
  refine wpAny_bind (bm_if_false rfl (bm_if_false rfl (wpAny_pure ?_)))
  refine wpAny_bind (wpAny_of_eq (KBy.special_eq BA.find_bindex) ?_)
  refine bm_if_false rfl ?_
  refine wpAny_bind (wpAny_of_eq buffer_full ?_)
  dsimp only
  refine wpAny_bind (wpAny_rule ?_)
  refine wpAny_bind (write_ba (c := #[]) ho2 rfl hz fun h3 hs3 ho3 => ?_)
  refine wpAny_pure ?_
  refine wpP_of (wpAny_pure (wpP_of (bm_if_false rfl (wpAny_pure (hQ h3 (fun x o e => ?_) ho3)))))
  have hx : x ≠ s.heap.objs.size := Nat.ne_of_lt (Heap.lt_size e)
  exact (hs3.2 x hx).trans ((hs2.2 x hx).trans (Heap.get?_push_of_some _ e))
end
end Mine

end
-- B4
section
open PySem PySem.Spec PySem.Calls PySem.W PyProof.Rows
set_option maxRecDepth 100000
namespace Mine
section
variable {prog : Program} {w : World} {A : Around} {E : Value → Shared → Prop} {s : Shared} {b : Array UInt8} {t : Tok}
theorem look_dbytes : typeLookup (.type "bytes") "__bytes__" = pure (some (.builtin "bytes.__bytes__")) := by rw [typeLookup_type, builtinLookup_eq_fast]; kernel_rfl
theorem bytes_new_bytes {Q : Value → Shared → Prop} (hQ : Q (.bytes b t) s) :
    codeAny (model prog w) A (.call (.builtin "bytes.__new__") ⟨[.type "bytes", .bytes b t], []⟩) (wants Q E) s := by
  refine codeAny_of_tree ?_
  show wpAny _ A.in1 (do checkBuiltinCall "bytes.__new__" ⟨[.type "bytes", .bytes b t], []⟩; again (.builtin "bytes.__new__" ⟨[.type "bytes", .bytes b t], []⟩)) _ _ s
  refine wpAny_bind (wpAny_of_eq (F.bm_newCall _) (wpAny_pure ⟨plainId_quiet F.bm_plain _, codeAny_builtin F.bm_entry ?_⟩))
  rw [Around.under_plainId F.bm_plain _]
  unfold Builtin.«bytes.__new__»
  refine wpAny_bind (wpAny_of_eq (a := true) rfl ?_)
  refine bm_if_false rfl ?_
  refine wpAny_bind (wpAny_of_eq F.bm_sub ?_)
  refine bm_if_false rfl ?_
  refine wpAny_bind (wpAny_of_eq (F.bm_bind _) ?_)
  refine wpAny_bind (wpAny_of_eq (a := ()) rfl ?_)
  refine wpAny_bind (wpAny_of_eq (a := ()) rfl ?_)
  refine bm_if_false rfl ?_
  refine wpAny_bind (wpAny_of_eq (KBy.special_eq look_dbytes) ?_)
  dsimp only
  refine wpAny_bind (wpAny_rule ?_)
  refine wpAny_bind (wpAny_of_eq (a := Value.type "bytes") rfl ?_)
  refine bm_if_true (by decide +kernel) ?_
  show wpAny _ _ (if (Value.type "bytes" == Value.type "bytes") = true then _ else _) _ _ _
  refine bm_if_true (by decide) ?_
  first
    | exact wpAny_pure hQ
    | exact wpAny_bind (wpAny_pure (wpAny_pure hQ))
theorem call_bytes_bytes {Q : Value → Shared → Prop} (hQ : Q (.bytes b t) s) : wpAny (model prog w) A (call (.type "bytes") [.bytes b t]) Q E s := by
  refine callType_codes (Q₁ := fun obj s₁ => s₁.TypeIs obj "bytes" ∧ Q obj s₁) F.bm_called (F.bm_typeCall _) F.entry_object_init
    (bytes_new_bytes ⟨PySem.W.typeIs_bytes _ _ _, hQ⟩) fun obj s₁ h₁ => ?_
  exact ⟨h₁.1, F.args_object_init_2 obj _, object_init_meets F.bm_called.init.lookup F.bm_called.made (by decide) prog w A.in1 _ s₁ ⟨h₁.1, rfl, h₁.2⟩⟩
theorem slotOwn_ba {M : Model} {o : Addr} {Q : Bool → Shared → Prop} (hT : s.TypeIs (.ref o) "bytearray") (hQ : Q true s) : wpAny M A (Builtin.Bytes.slotIsOwn (.ref o) "__buffer__") Q E s := by
  unfold Builtin.Bytes.slotIsOwn
  refine wpAny_bind (wpAny_specialOf hT BA.find_buf ?_)
  have key : ∀ x : String, x = "bytearray" → wpAny M A (isInstance (.ref o) (.type x)) Q E s := fun x hx => by
    rw [hx]
    exact wpAny_isInstance hT BA.called.sub hQ
  dsimp only
  split
  · rename_i hx
    exact absurd hx (by decide +kernel)
  · exact key _ (by decide +kernel)
theorem bytes_new_ba {a : Addr} {Q : Value → Shared → Prop} (ho : s.heap.get? a = some { cls := .type "bytearray", data := .bytearray b }) (hz : b.size ≤ sizeLine) (hQ : ∀ t' k, Q (.bytes b t') { s with toks := k }) :
    codeAny (model prog w) A (.call (.builtin "bytes.__new__") ⟨[.type "bytes", .ref a], []⟩) (wants Q E) s := by
  refine codeAny_of_tree ?_
  show wpAny _ A.in1 (do checkBuiltinCall "bytes.__new__" ⟨[.type "bytes", .ref a], []⟩; again (.builtin "bytes.__new__" ⟨[.type "bytes", .ref a], []⟩)) _ _ s
  refine wpAny_bind (wpAny_of_eq (F.bm_newCall _) (wpAny_pure ⟨plainId_quiet F.bm_plain _, codeAny_builtin F.bm_entry ?_⟩))
  rw [Around.under_plainId F.bm_plain _]
  have hT : s.TypeIs (.ref a) "bytearray" := ⟨_, ho, rfl⟩
  unfold Builtin.«bytes.__new__»
  refine wpAny_bind (wpAny_of_eq (a := true) rfl ?_)
  refine bm_if_false rfl ?_
  refine wpAny_bind (wpAny_of_eq F.bm_sub ?_)
  refine bm_if_false rfl ?_
  refine wpAny_bind (wpAny_of_eq (F.bm_bind _) ?_)
  refine wpAny_bind (wpAny_of_eq (a := ()) rfl ?_)
  refine wpAny_bind (wpAny_of_eq (a := ()) rfl ?_)
  refine bm_if_false rfl ?_
  refine wpAny_bind (wpAny_specialOf hT BA.find_bytes ?_)
  refine wpAny_bind (wpAny_bind ?_)
  show wpAny _ _ (load a >>= _) _ _ _
  refine wpAny_bind (wpAny_load ho ?_)
  refine wpAny_pure (wpAny_pure ?_)
  refine bm_if_false rfl ?_
  refine wpAny_bind (wpAny_specialOf hT BA.find_index ?_)
  refine bm_if_true rfl ?_
  first
    | show wpAny _ _ (Builtin.Bytes.buffer? "bytes.__new__" (.ref a) true >>= _) _ _ _
    | (refine wpAny_bind ?_; show wpAny _ _ (Builtin.Bytes.buffer? "bytes.__new__" (.ref a) true >>= _) _ _ _)
  refine wpAny_bind ?_
  unfold Builtin.Bytes.buffer?
  refine wpAny_bind (wpAny_specialOf hT BA.find_buf ?_)
  dsimp only
  refine wpAny_bind (slotOwn_ba hT ?_)
  refine bm_if_false rfl ?_
  refine wpAny_bind (wpAny_specialOf hT BA.find_buf ?_)
  (try dsimp only)
  refine wpAny_bind (ownRel_ba hT ?_)
  refine bm_if_false rfl ?_
  refine wpAny_bind ?_
  unfold Builtin.Bytes.payload Builtin.Bytes.payload?
  refine wpAny_bind (wpAny_bind (wpAny_load ho ?_))
  refine wpAny_pure (wpAny_pure ?_)
  refine wpAny_pure ?_
  first
    | refine wpAny_bind (wpAny_rule ?_)
    | (show wpAny _ _ (rule "bytes.__new__.bytes-like" >>= _) _ _ _; refine wpAny_bind (wpAny_rule ?_))
  refine wpAny_bind (wpAny_mkBytes ?_ hz)
  show wpAny _ _ (if (Value.type "bytes" == Value.type "bytes") = true then _ else _) _ _ _
  refine bm_if_true (by decide) ?_
  first
    | exact wpAny_pure (hQ _ _)
    | exact wpAny_bind (wpAny_pure (wpAny_pure (hQ _ _)))
theorem call_bytes_ba {a : Addr} {Q : Value → Shared → Prop} (ho : s.heap.get? a = some { cls := .type "bytearray", data := .bytearray b }) (hz : b.size ≤ sizeLine) (hQ : ∀ t' k, Q (.bytes b t') { s with toks := k }) :
    wpAny (model prog w) A (call (.type "bytes") [.ref a]) Q E s := by
  refine callType_codes (Q₁ := fun obj s₁ => s₁.TypeIs obj "bytes" ∧ Q obj s₁) F.bm_called (F.bm_typeCall _) F.entry_object_init
    (bytes_new_ba ho hz fun t' k => ⟨PySem.W.typeIs_bytes _ _ _, hQ t' k⟩) fun obj s₁ h₁ => ?_
  exact ⟨h₁.1, F.args_object_init_2 obj _, object_init_meets F.bm_called.init.lookup F.bm_called.made (by decide) prog w A.in1 _ s₁ ⟨h₁.1, rfl, h₁.2⟩⟩
theorem bytes_new_12 {Q : Value → Shared → Prop} (hQ : ∀ t' k, Q (.bytes (Array.replicate 12 0) t') { s with toks := k }) :
    codeAny (model prog w) A (.call (.builtin "bytes.__new__") ⟨[.type "bytes", .int 12 t], []⟩) (wants Q E) s := by
  refine codeAny_of_tree ?_
  show wpAny _ A.in1 (do checkBuiltinCall "bytes.__new__" ⟨[.type "bytes", .int 12 t], []⟩; again (.builtin "bytes.__new__" ⟨[.type "bytes", .int 12 t], []⟩)) _ _ s
  refine wpAny_bind (wpAny_of_eq (F.bm_newCall _) (wpAny_pure ⟨plainId_quiet F.bm_plain _, codeAny_builtin F.bm_entry ?_⟩))
  rw [Around.under_plainId F.bm_plain _]
  unfold Builtin.«bytes.__new__»
  refine wpAny_bind (wpAny_of_eq (a := true) rfl ?_)
  refine bm_if_false rfl ?_
  refine wpAny_bind (wpAny_of_eq F.bm_sub ?_)
  refine bm_if_false rfl ?_
  refine wpAny_bind (wpAny_of_eq (F.bm_bind _) ?_)
  refine wpAny_bind (wpAny_of_eq (a := ()) rfl ?_)
  refine wpAny_bind (wpAny_of_eq (a := ()) rfl ?_)
  refine bm_if_false rfl ?_
  have e1 : specialOf (.int 12 t) "__bytes__" = pure none := by
    show typeLookup (.type "int") "__bytes__" = pure none
    rw [typeLookup_type, builtinLookup_eq_fast]; kernel_rfl
  have e2 : ∃ f, specialOf (.int 12 t) "__index__" = pure (some f) := ⟨_, by
    show typeLookup (.type "int") "__index__" = pure (some (.builtin "int.__index__"))
    rw [typeLookup_type, builtinLookup_eq_fast]; kernel_rfl⟩
  obtain ⟨f, e2⟩ := e2
  refine wpAny_bind (wpAny_of_eq e1 ?_)
  dsimp only
  refine wpAny_bind (wpAny_of_eq (a := false) rfl ?_)
  refine bm_if_false rfl ?_
  refine wpAny_bind (wpAny_of_eq e2 ?_)
  refine bm_if_false rfl ?_
  refine wpAny_bind (wpAny_attempt (wpAny_of_eq (a := (12 : Int)) (by first | rfl | kernel_rfl) ?_))
  dsimp only
  refine bm_if_false (by decide +kernel) ?_
  first
    | rw [if_neg (by decide), if_neg (by decide)]
    | (refine wpAny_ite ?_; rw [if_neg (by decide)]; refine wpAny_ite ?_; rw [if_neg (by decide)])
  refine bm_if_false (by decide +kernel) ?_
  refine wpAny_bind (wpAny_rule ?_)
  refine wpAny_bind (wpAny_mkBytes ?_ (by decide +kernel))
  show wpAny _ _ (if (Value.type "bytes" == Value.type "bytes") = true then _ else _) _ _ _
  refine bm_if_true (by decide) ?_
  first
    | exact wpAny_pure (hQ _ _)
    | exact wpAny_bind (wpAny_pure (wpAny_pure (hQ _ _)))
theorem call_bytes_12 {Q : Value → Shared → Prop} (hQ : ∀ t' k, Q (.bytes (Array.replicate 12 0) t') { s with toks := k }) :
    wpAny (model prog w) A (call (.type "bytes") [.int 12 t]) Q E s := by
  refine callType_codes (Q₁ := fun obj s₁ => s₁.TypeIs obj "bytes" ∧ Q obj s₁) F.bm_called (F.bm_typeCall _) F.entry_object_init
    (bytes_new_12 fun t' k => ⟨PySem.W.typeIs_bytes _ _ _, hQ t' k⟩) fun obj s₁ h₁ => ?_
  exact ⟨h₁.1, F.args_object_init_2 obj _, object_init_meets F.bm_called.init.lookup F.bm_called.made (by decide) prog w A.in1 _ s₁ ⟨h₁.1, rfl, h₁.2⟩⟩
end
end Mine

end
-- Q1
section
open PySem PySem.Calls PySem.W PyProof.Rows PyProof.V PySem.Spec PySem.SeqAt
set_option maxRecDepth 100000
namespace Mine
/-- eqBool of two values answers b, in this program and world; nothing is changed -/
def EqW (prog : Program) (w : World) (A : Around) (s : Shared) (y x : Value) (b : Bool) : Prop :=
  ∀ (E : Value → Shared → Prop) (Q : Bool → Shared → Prop), Q b s → wpAny (model prog w) A (eqBool y x) Q E s
section
variable {prog : Program} {w : World} {A : Around} {s : Shared}
theorem EqW.of {x y : Value} {b : Bool} (h : EqAt A s x y b) : EqW prog w A s x y b := fun E Q q => h prog w E Q q
theorem EqW.refs {x y : Addr} {b : Bool} (hne : x ≠ y) (h : ∀ (E : Value → Shared → Prop) (Q : Value → Shared → Prop), Q (.bool b) s → wpAny (model prog w) A (richCompare .Eq (.ref x) (.ref y)) Q E s) : EqW prog w A s (.ref x) (.ref y) b := fun E Q hq => by
  unfold eqBool
  refine wpAny_holding ?_
  refine wpAny_ite_split (fun hab => absurd (by have := eq_of_beq hab; injection this) hne) (fun _ => ?_)
  exact wpAny_bind (h E _ (wpAny_truthy_bool hq))
theorem eqW_bytes (b c : Array UInt8) (t u : Tok) : EqW prog w A s (.bytes b t) (.bytes c u) (b.toList == c.toList) := fun E Q h => by
  unfold eqBool
  refine wpAny_holding ?_
  refine wpAny_ite_split (fun hab => ?_) (fun _ => ?_)
  · have e : b = c := by have := eq_of_beq hab; injection this
    subst e
    exact wpAny_bind (wpAny_rule (wpAny_pure (by simpa using h)))
  · exact wpAny_bind (richCompare_gives (typeIs_bytes s b t) (typeIs_bytes s c u) FB.slot_bytes_eq FB.entry_bytes_eq (FB.args_bytes_eq_2 _ _) (gives_bytes_eq b c t u) (fun e => nomatch e) (wpAny_truthy_bool h))
end
inductive EqAll (prog : Program) (w : World) (A : Around) (s : Shared) : List Value → List Value → Bool → Prop
  | nil : EqAll prog w A s [] [] true
  | cons {x y : Value} {xs ys : List Value} {e r : Bool} : EqW prog w A s x y e → EqAll prog w A s xs ys r → EqAll prog w A s (x :: xs) (y :: ys) (e && r)
theorem EqAll.len {prog : Program} {w : World} {A : Around} {s : Shared} : ∀ {xs ys : List Value} {r : Bool}, EqAll prog w A s xs ys r → xs.length = ys.length
  | _, _, _, .nil => rfl
  | _, _, _, .cons _ t => by simp [t.len]
section
variable {prog : Program} {w : World} {A : Around}
open MeetsSeq MeetsSeq2 MeetsSeq3 AutoSeq1
set_option maxHeartbeats 4000000 in
/-- the list loop, from the place i on -/
theorem listLoop (k : Bool) (l b : Addr) (items items2 : Array Value) (n n2 : Nat) (dd dd2 : Option Addr) (sl sl2 : Array (Option Value)) (hsz : items.size = items2.size) : ∀ (m i : Nat) (r : Bool) (R : Result → Shared → Prop) (s : Shared), items.size - i = m →
    s.heap.get? l = some { cls := .type "list", dict := dd, data := .seq items n, slots := sl } → s.heap.get? b = some { cls := .type "list", dict := dd2, data := .seq items2 n2, slots := sl2 } →
    EqAll prog w A.in1 s (items.toList.drop i) (items2.toList.drop i) r → R (.ok (.ret (.bool (if k then r else !r)))) s →
    wpAny (model prog w) A.in1 (Builtin.«list.__eq__.loop» ⟨[.ref l, .ref b, rawInt i, rawInt (if k then 2 else 3)], []⟩)
      (fun fin s' => match fin with | .done f => R (.ok f) s' | .again c' => c'.quiet = true ∧ codeAny (model prog w) A c' R s') (fun e s' => R (.error e) s') s := by
  intro m
  induction m with
  | zero =>
    intro i r R s hm hl hb he h
    obtain ⟨hp, g, d, tk, os⟩ := s
    have hi1 : items[((i : Nat) : Int).toNat]? = none := by simp; omega
    have hi2 : items2[((i : Nat) : Int).toNat]? = none := by simp; omega
    have hd1 : items.toList.drop i = [] := by simp; omega
    have hd2 : items2.toList.drop i = [] := by simp; omega
    rw [hd1, hd2] at he
    cases he
    cases k with
    | true =>
      simp only [if_true] at h ⊢
      wp_walk using wpAny_loadPart' hl, wpAny_loadPart' hb
      rw [hi1, hi2]
      wp_walk using wpAny_loadPart' hl, wpAny_loadPart' hb
      show R (.ok (.ret (.bool (items.size == items2.size)))) _
      rw [hsz]
      simpa using h
    | false =>
      simp only [Bool.false_eq_true, if_false] at h ⊢
      wp_walk using wpAny_loadPart' hl, wpAny_loadPart' hb
      rw [hi1, hi2]
      wp_walk using wpAny_loadPart' hl, wpAny_loadPart' hb
      show R (.ok (.ret (.bool (items.size != items2.size)))) _
      rw [hsz]
      simpa using h
  | succ m ih =>
    intro i r R s hm hl hb he h
    obtain ⟨hp, g, d, tk, os⟩ := s
    have hlt : i < items.size := by omega
    have hlt2 : i < items2.size := by omega
    have hi1 : items[((i : Nat) : Int).toNat]? = some items[i] := by simp [hlt]
    have hi2 : items2[((i : Nat) : Int).toNat]? = some items2[i] := by simp [hlt2]
    have hd1 : items.toList.drop i = items[i] :: items.toList.drop (i + 1) := by simp [List.drop_eq_getElem_cons, hlt]
    have hd2 : items2.toList.drop i = items2[i] :: items2.toList.drop (i + 1) := by simp [List.drop_eq_getElem_cons, hlt2]
    have hc : ((i : Int) + 1) = ((i + 1 : Nat) : Int) := by push_cast; rfl
    rw [hd1, hd2] at he
    cases he with
    | @cons _ _ _ _ e q he ht =>
    cases k with
    | true =>
      simp only [if_true] at h ⊢
      wp_walk using wpAny_loadPart' hl, wpAny_loadPart' hb
      rw [hi1, hi2]
      refine wpAny_bind (he _ _ ?_)
      cases e with
      | true =>
        wp_walk
        rw [hc]
        exact ⟨plainId_quiet plain_eq_loop _, codeAny_builtin entry_eq_loop (by
          rw [Around.under_plainId plain_eq_loop _]
          exact ih (i + 1) q R _ (by omega) hl hb ht (by simpa using h))⟩
      | false =>
        wp_walk using wpAny_loadPart' hl, wpAny_loadPart' hb
        rw [hi1, hi2]
        wp_walk
        simpa using h
    | false =>
      simp only [Bool.false_eq_true, if_false] at h ⊢
      wp_walk using wpAny_loadPart' hl, wpAny_loadPart' hb
      rw [hi1, hi2]
      refine wpAny_bind (he _ _ ?_)
      cases e with
      | true =>
        wp_walk
        rw [hc]
        exact ⟨plainId_quiet plain_eq_loop _, codeAny_builtin entry_eq_loop (by
          rw [Around.under_plainId plain_eq_loop _]
          exact ih (i + 1) q R _ (by omega) hl hb ht (by simpa using h))⟩
      | false =>
        wp_walk using wpAny_loadPart' hl, wpAny_loadPart' hb
        rw [hi1, hi2]
        wp_walk
        simpa using h
set_option maxHeartbeats 4000000 in
theorem listEq (l b : Addr) (items items2 : Array Value) (n n2 : Nat) (dd dd2 : Option Addr) (sl sl2 : Array (Option Value)) (r : Bool) (R : Result → Shared → Prop) (s : Shared) (hl : s.heap.get? l = some { cls := .type "list", dict := dd, data := .seq items n, slots := sl }) (hb : s.heap.get? b = some { cls := .type "list", dict := dd2, data := .seq items2 n2, slots := sl2 })
    (he : EqAll prog w A.in1 s items.toList items2.toList r) (h : R (.ok (.ret (.bool r))) s) :
    wpAny (model prog w) A.in1 (Builtin.«list.__eq__» ⟨[.ref l, .ref b], []⟩)
      (fun fin s' => match fin with | .done f => R (.ok f) s' | .again c' => c'.quiet = true ∧ codeAny (model prog w) A c' R s') (fun e s' => R (.error e) s') s := by
  have hsz : items.size = items2.size := by simpa using he.len
  obtain ⟨hp, g, d, tk, os⟩ := s
  have f3 := AutoSeq1.sub_list_list
  have hne : ¬ (items.size != items2.size) = true := by simp [hsz]
  wp_walk using wpAny_loadPart' hl, wpAny_loadPart' hb
  exact ⟨plainId_quiet plain_eq_loop _, codeAny_builtin entry_eq_loop (by
    rw [Around.under_plainId plain_eq_loop _]
    exact listLoop true l b items items2 n n2 dd dd2 sl sl2 hsz _ 0 r R _ rfl hl hb (by simpa using he) h)⟩
set_option maxHeartbeats 4000000 in
theorem listNe (l b : Addr) (items items2 : Array Value) (n n2 : Nat) (dd dd2 : Option Addr) (sl sl2 : Array (Option Value)) (r : Bool) (R : Result → Shared → Prop) (s : Shared) (hl : s.heap.get? l = some { cls := .type "list", dict := dd, data := .seq items n, slots := sl }) (hb : s.heap.get? b = some { cls := .type "list", dict := dd2, data := .seq items2 n2, slots := sl2 })
    (he : EqAll prog w A.in1 s items.toList items2.toList r) (h : R (.ok (.ret (.bool (!r)))) s) :
    wpAny (model prog w) A.in1 (Builtin.«list.__ne__» ⟨[.ref l, .ref b], []⟩)
      (fun fin s' => match fin with | .done f => R (.ok f) s' | .again c' => c'.quiet = true ∧ codeAny (model prog w) A c' R s') (fun e s' => R (.error e) s') s := by
  have hsz : items.size = items2.size := by simpa using he.len
  obtain ⟨hp, g, d, tk, os⟩ := s
  have f3 := AutoSeq1.sub_list_list
  have hne : ¬ (items.size != items2.size) = true := by simp [hsz]
  wp_walk using wpAny_loadPart' hl, wpAny_loadPart' hb
  exact ⟨plainId_quiet plain_eq_loop _, codeAny_builtin entry_eq_loop (by
    rw [Around.under_plainId plain_eq_loop _]
    exact listLoop false l b items items2 n n2 dd dd2 sl sl2 hsz _ 0 r R _ rfl hl hb (by simpa using he) h)⟩
set_option maxHeartbeats 4000000 in
theorem tupleBoth (k : Bool) (l b : Addr) (items items2 : Array Value) (n n2 : Nat) (dd dd2 : Option Addr) (sl sl2 : Array (Option Value)) (r : Bool) (R : Result → Shared → Prop) (s : Shared) (hl : s.heap.get? l = some { cls := .type "tuple", dict := dd, data := .seq items n, slots := sl }) (hb : s.heap.get? b = some { cls := .type "tuple", dict := dd2, data := .seq items2 n2, slots := sl2 })
    (he : EqAll prog w A.in1 s items.toList items2.toList r) (h : R (.ok (.ret (.bool (if k then r else !r)))) s) :
    wpAny (model prog w) A.in1 (if k then Builtin.«tuple.__eq__» ⟨[.ref l, .ref b], []⟩ else Builtin.«tuple.__ne__» ⟨[.ref l, .ref b], []⟩)
      (fun fin s' => ∃ v, fin = .done (.ret v) ∧ R (.ok (.ret v)) s') (fun e s' => R (.error e) s') s := by
  have hsz : items.size = items2.size := by simpa using he.len
  obtain ⟨hp, g, d, tk, os⟩ := s
  have f2 := AutoSeq1.sub_tuple_tuple
  cases k with
  | true =>
    simp only [if_true] at h ⊢
    wp_walk using wpAny_loadPart' hl, wpAny_loadPart' hb, wpAny_forIn_list _ (fun rest q s' => q.1 = none ∧ s' = ⟨hp, g, d, tk, os⟩ ∧ ∃ xs ys r', rest = xs.zip ys ∧ EqAll prog w A.in1 ⟨hp, g, d, tk, os⟩ xs ys r' ∧ R (.ok (.ret (.bool r'))) ⟨hp, g, d, tk, os⟩) _
    case turn =>
      rintro ⟨y, x⟩ rest q s' ⟨hq, rfl, xs, ys, r', hz, hA, hR⟩
      cases hA with
      | nil => cases hz
      | @cons _ _ xs ys e r' he ht =>
        injection hz with hyx hrest
        injection hyx with hy hx
        subst hy hx
        refine wpAny_bind (he _ _ ?_)
        cases e with
        | true => wp_walk; exact ⟨rfl, rfl, xs, ys, r', hrest, ht, by simpa using hR⟩
        | false => wp_walk; exact ⟨_, rfl, by simpa using hR⟩
    case fin =>
      rintro ⟨b1, b2⟩ s' ⟨hq, rfl, xs, ys, r', hz, hA, hR⟩
      simp only at hq
      subst hq
      cases hA with
      | nil =>
        wp_walk
        exact ⟨_, rfl, by simpa [Builtin.Tuple.tupleCompareSizes, hsz] using hR⟩
      | cons => cases hz
    case h => exact ⟨rfl, rfl, _, _, _, rfl, he, h⟩
  | false =>
    simp only [Bool.false_eq_true, if_false] at h ⊢
    wp_walk using wpAny_loadPart' hl, wpAny_loadPart' hb, wpAny_forIn_list _ (fun rest q s' => q.1 = none ∧ s' = ⟨hp, g, d, tk, os⟩ ∧ ∃ xs ys r', rest = xs.zip ys ∧ EqAll prog w A.in1 ⟨hp, g, d, tk, os⟩ xs ys r' ∧ R (.ok (.ret (.bool (!r')))) ⟨hp, g, d, tk, os⟩) _
    case turn =>
      rintro ⟨y, x⟩ rest q s' ⟨hq, rfl, xs, ys, r', hz, hA, hR⟩
      cases hA with
      | nil => cases hz
      | @cons _ _ xs ys e r' he ht =>
        injection hz with hyx hrest
        injection hyx with hy hx
        subst hy hx
        refine wpAny_bind (he _ _ ?_)
        cases e with
        | true => wp_walk; exact ⟨rfl, rfl, xs, ys, r', hrest, ht, by simpa using hR⟩
        | false => wp_walk; exact ⟨_, rfl, by simpa using hR⟩
    case fin =>
      rintro ⟨b1, b2⟩ s' ⟨hq, rfl, xs, ys, r', hz, hA, hR⟩
      simp only at hq
      subst hq
      cases hA with
      | nil =>
        wp_walk
        exact ⟨_, rfl, by simpa [Builtin.Tuple.tupleCompareSizes, hsz, bne] using hR⟩
      | cons => cases hz
    case h => exact ⟨rfl, rfl, _, _, _, rfl, he, h⟩
end
section
variable {prog : Program} {w : World} {A : Around} {s : Shared} {a b : Addr} {xs ys : List Value} {r : Bool} {h₀ : Heap} {L : Addr} {news : List (Addr × Obj)} {oa ob : Obj} {ka kb : Nat} {E : Value → Shared → Prop} {Q : Value → Shared → Prop}
theorem eq_tups (N : News h₀ L s.heap news) (ma : (a, oa) ∈ news) (ca : oa.cls = .type "tuple") (da : oa.data = .seq xs.toArray ka) (mb : (b, ob) ∈ news) (cb : ob.cls = .type "tuple") (db : ob.data = .seq ys.toArray kb) (hu : A.units < cLine) (he : EqAll prog w A.in1 s xs ys r) (h : Q (.bool r) s) :
    wpAny (model prog w) A (richCompare .Eq (.ref a) (.ref b)) Q E s := by
  obtain ⟨c1, d1, x1, s1⟩ := oa
  obtain ⟨c2, d2, x2, s2⟩ := ob
  simp only at ca da cb db
  subst ca da cb db
  have ha := N.get ma
  have hb := N.get mb
  exact wpAny_richCompare_same_room (op := .Eq) ⟨_, ha, rfl⟩ ⟨_, hb, rfl⟩ F.slot_tuple_eq (wpAny_call_entry F.slot_tuple_eq ⟨_, ha, rfl⟩ F.entry_tuple_eq
    (wpAny_mono (tupleBoth true a b xs.toArray ys.toArray ka kb d1 d2 s1 s2 r (wants (fun v s' => v ≠ .notImplemented ∧ Q v s') E) s ha hb (by simpa using he) ⟨nofun, h⟩) (fun fin s' h' => by obtain ⟨v, rfl, hv⟩ := h'; exact ⟨v, rfl, hv⟩) fun _ _ x => x) (F.args_tuple_eq_2 _ _)) hu
theorem ne_tups (N : News h₀ L s.heap news) (ma : (a, oa) ∈ news) (ca : oa.cls = .type "tuple") (da : oa.data = .seq xs.toArray ka) (mb : (b, ob) ∈ news) (cb : ob.cls = .type "tuple") (db : ob.data = .seq ys.toArray kb) (hu : A.units < cLine) (he : EqAll prog w A.in1 s xs ys r) (h : Q (.bool (!r)) s) :
    wpAny (model prog w) A (richCompare .NotEq (.ref a) (.ref b)) Q E s := by
  obtain ⟨c1, d1, x1, s1⟩ := oa
  obtain ⟨c2, d2, x2, s2⟩ := ob
  simp only at ca da cb db
  subst ca da cb db
  have ha := N.get ma
  have hb := N.get mb
  exact wpAny_richCompare_same_room (op := .NotEq) ⟨_, ha, rfl⟩ ⟨_, hb, rfl⟩ F.slot_tuple_ne (wpAny_call_entry F.slot_tuple_ne ⟨_, ha, rfl⟩ F.entry_tuple_ne
    (wpAny_mono (tupleBoth false a b xs.toArray ys.toArray ka kb d1 d2 s1 s2 r (wants (fun v s' => v ≠ .notImplemented ∧ Q v s') E) s ha hb (by simpa using he) ⟨nofun, h⟩) (fun fin s' h' => by obtain ⟨v, rfl, hv⟩ := h'; exact ⟨v, rfl, hv⟩) fun _ _ x => x) (F.args_tuple_ne_2 _ _)) hu
theorem eq_lists (N : News h₀ L s.heap news) (ma : (a, oa) ∈ news) (ca : oa.cls = .type "list") (da : oa.data = .seq xs.toArray ka) (mb : (b, ob) ∈ news) (cb : ob.cls = .type "list") (db : ob.data = .seq ys.toArray kb) (hu : A.units < cLine) (he : EqAll prog w A.in1 s xs ys r) (h : Q (.bool r) s) :
    wpAny (model prog w) A (richCompare .Eq (.ref a) (.ref b)) Q E s := by
  obtain ⟨c1, d1, x1, s1⟩ := oa
  obtain ⟨c2, d2, x2, s2⟩ := ob
  simp only at ca da cb db
  subst ca da cb db
  have ha := N.get ma
  have hb := N.get mb
  exact wpAny_richCompare_same_room (op := .Eq) ⟨_, ha, rfl⟩ ⟨_, hb, rfl⟩ F.slot_list_eq (wpAny_call (codeAny_call_builtin F.slot_list_eq.plain F.entry_list_eq (F.slot_list_eq.check _ _ _ _ _ _ _ _ ⟨_, ha, rfl⟩ (F.args_list_eq_2 _ _)
    (listEq a b xs.toArray ys.toArray ka kb d1 d2 s1 s2 r (wants (fun v s' => v ≠ .notImplemented ∧ Q v s') E) s ha hb (by simpa using he) ⟨nofun, h⟩)))) hu
theorem ne_lists (N : News h₀ L s.heap news) (ma : (a, oa) ∈ news) (ca : oa.cls = .type "list") (da : oa.data = .seq xs.toArray ka) (mb : (b, ob) ∈ news) (cb : ob.cls = .type "list") (db : ob.data = .seq ys.toArray kb) (hu : A.units < cLine) (he : EqAll prog w A.in1 s xs ys r) (h : Q (.bool (!r)) s) :
    wpAny (model prog w) A (richCompare .NotEq (.ref a) (.ref b)) Q E s := by
  obtain ⟨c1, d1, x1, s1⟩ := oa
  obtain ⟨c2, d2, x2, s2⟩ := ob
  simp only at ca da cb db
  subst ca da cb db
  have ha := N.get ma
  have hb := N.get mb
  exact wpAny_richCompare_same_room (op := .NotEq) ⟨_, ha, rfl⟩ ⟨_, hb, rfl⟩ F.slot_list_ne (wpAny_call (codeAny_call_builtin F.slot_list_ne.plain F.entry_list_ne (F.slot_list_ne.check _ _ _ _ _ _ _ _ ⟨_, ha, rfl⟩ (F.args_list_ne_2 _ _)
    (listNe a b xs.toArray ys.toArray ka kb d1 d2 s1 s2 r (wants (fun v s' => v ≠ .notImplemented ∧ Q v s') E) s ha hb (by simpa using he) ⟨nofun, h⟩)))) hu
/-- lists of strs -/
theorem EqAll.strs {f g : List PySem.Str} : ∀ {xs ys : List Value}, StrsAre xs f → StrsAre ys g → f.length = g.length → EqAll prog w A s xs ys (f == g)
  | _, _, .nil, .nil, _ => .nil
  | _, _, .cons x t r1, .cons y u r2, hl => by
    have := EqAll.cons (prog := prog) (w := w) (EqW.of (EqAt.str_str x t y u)) (EqAll.strs r1 r2 (by simpa using hl))
    simpa using this
end
-- dicts of str to int, by their pairs
def dRows (c₂ : List (PySem.Str × Int)) : List (PySem.Str × Int) → Bool
  | [] => true
  | p :: r => match c₂.find? (fun q => decide (q.1 = p.1)) with | none => false | some q => (p.2 == q.2) && dRows c₂ r
def dEq (c₁ c₂ : List (PySem.Str × Int)) : Bool := c₁.length == c₂.length && dRows c₂ c₁
theorem dRows_rows (c₂ : List (PySem.Str × Int)) : ∀ c₁ : List (PySem.Str × Int), KeqRows (kdpD c₂) (kdpD c₁) (dRows c₂ c₁)
  | [] => .nil
  | p :: r => by
    have hl := kdpD_lookup p.1 c₂
    show KeqRows (kdpD c₂) ((PyData.str p.1, PyData.int p.2) :: kdpD r) (match c₂.find? (fun q => decide (q.1 = p.1)) with | none => false | some q => (p.2 == q.2) && dRows c₂ r)
    cases hf : c₂.find? (fun q => decide (q.1 = p.1)) with
    | none => rw [hf] at hl; exact .miss hl
    | some q =>
      rw [hf] at hl
      have := KeqRows.hit (v := PyData.int p.2) hl (dRows_rows c₂ r)
      simpa [PyData.eqv] using this
section
variable {A : Around} {s : Shared} {a b : Addr} {c₁ c₂ : List (PySem.Str × Int)}
theorem rc_dicts {prog : Program} {w : World} {E : Value → Shared → Prop} {Q : Value → Shared → Prop} (ha : StrTab prog w s.heap a (kdpD c₁)) (hb : StrTab prog w s.heap b (kdpD c₂)) (hu : A.units < cLine) (h : Q (.bool (dEq c₁ c₂)) s) :
    wpAny (model prog w) A (richCompare .Eq (.ref a) (.ref b)) Q E s := by
  obtain ⟨la, ka, da, fa⟩ := ha
  obtain ⟨lb, kb, db, fb⟩ := hb
  refine keq_eq la lb da db hu (fun _ => (dRows_rows c₂ c₁).hits PyProof.V.same_str fb fa) ?_
  have e1 : ka.length = c₁.length := by rw [← kdpD_length c₁, ← fa.length]
  have e2 : kb.length = c₂.length := by rw [← kdpD_length c₂, ← fb.length]
  rw [e1, e2]; exact h
theorem nc_dicts {prog : Program} {w : World} {E : Value → Shared → Prop} {Q : Value → Shared → Prop} (ha : StrTab prog w s.heap a (kdpD c₁)) (hb : StrTab prog w s.heap b (kdpD c₂)) (hu : A.units < cLine) (h : Q (.bool (!dEq c₁ c₂)) s) :
    wpAny (model prog w) A (richCompare .NotEq (.ref a) (.ref b)) Q E s := by
  obtain ⟨la, ka, da, fa⟩ := ha
  obtain ⟨lb, kb, db, fb⟩ := hb
  refine keq_ne la lb da db hu (fun _ => (dRows_rows c₂ c₁).hits PyProof.V.same_str fb fa) ?_
  have e1 : ka.length = c₁.length := by rw [← kdpD_length c₁, ← fa.length]
  have e2 : kb.length = c₂.length := by rw [← kdpD_length c₂, ← fb.length]
  rw [e1, e2]; exact h
theorem eqW_dicts {prog : Program} {w : World} (hne : a ≠ b) (ha : StrTab prog w s.heap a (kdpD c₁)) (hb : StrTab prog w s.heap b (kdpD c₂)) (hu : A.units < cLine) : EqW prog w A s (.ref a) (.ref b) (dEq c₁ c₂) :=
  EqW.refs hne fun _ _ hq => rc_dicts ha hb hu hq
theorem dRows_self {c : List (PySem.Str × Int)} (hn : (c.map (·.1)).Nodup) : ∀ r : List (PySem.Str × Int), (∀ p ∈ r, p ∈ c) → dRows c r = true
  | [], _ => rfl
  | p :: r, h => by
    have hp : c.find? (fun q => decide (q.1 = p.1)) = some p := by
      have hm := h p (.head _)
      clear h
      induction c with
      | nil => cases hm
      | cons q c ih =>
        rw [List.find?_cons]
        rcases List.mem_cons.mp hm with e | hm
        · subst e; simp
        · have hne : ¬ q.1 = p.1 := fun e => by
            rw [List.map_cons, List.nodup_cons] at hn
            exact hn.1 (e ▸ List.mem_map_of_mem hm)
          simp only [hne, decide_false]
          rw [List.map_cons, List.nodup_cons] at hn
          exact ih hn.2 hm
    unfold dRows
    rw [hp]
    simp [dRows_self hn r fun q hq => h q (.tail _ hq)]
theorem dEq_self {c : List (PySem.Str × Int)} (hn : (c.map (·.1)).Nodup) : dEq c c = true := by
  unfold dEq
  rw [dRows_self hn c fun _ h => h]
  simp
theorem dEq_len {c₁ c₂ : List (PySem.Str × Int)} (h : c₁.length ≠ c₂.length) : dEq c₁ c₂ = false := by
  unfold dEq
  rw [Bool.and_eq_false_iff]
  exact .inl (by simpa using h)
end
section
theorem dict_eq_declines_none {prog : Program} {w : World} {A : Around} {s : Shared} {a : Addr} {Q : Value → Shared → Prop} {E : Value → Shared → Prop} (hT : s.TypeIs (.ref a) "dict") (h : Q .notImplemented s)
    {x : Value} {T : String} (hx : s.TypeIs x T) (hsub : isSubtype (.type T) (.type "dict") = pure false) :
    wpAny (model prog w) A (call (.builtin "dict.__eq__") [.ref a, x]) Q E s := by
  refine wpAny_call_entry PySem.F.slot_dict_eq hT PySem.F.entry_dict_eq ?_ (PySem.F.args_dict_eq_2 _ _)
  show wpAny _ _ (Builtin.Dict.dictSlotArgs "__eq__" ⟨[.ref a, x], []⟩ >>= _) _ _ s
  refine wpAny_bind ?_
  unfold Builtin.Dict.dictSlotArgs
  refine wpAny_bind (wpAny_notOrdered_dict hT ?_)
  show wpAny _ _ (pure (Value.ref a, x)) _ _ s
  refine wpAny_pure ?_
  refine wpAny_bind (wpAny_isInstance (T := T) hx hsub ?_)
  simp only [Bool.not_false, if_true]
  first
    | exact wpAny_pure ⟨Value.notImplemented, rfl, h⟩
    | exact wpAny_bind (wpAny_rule (wpAny_pure ⟨Value.notImplemented, rfl, h⟩))
    | exact wpAny_bind (wpAny_pure (wpAny_pure ⟨Value.notImplemented, rfl, h⟩))
    | trace_state
variable {A : Around} {s : Shared} {a : Addr}
theorem rc_none_dict (hT : s.TypeIs (.ref a) "dict") (hu : A.units < cLine) : RcAt A s .none (.ref a) false := fun prog w E Q h =>
  rc_eq_decline_or (k := false) rfl hT (by decide) PySem.F.sub_dict_NoneType F.slot_NoneType_eq F.slot_dict_eq_refl
    (fun _ hq => call_gives F.slot_NoneType_eq rfl F.entry_NoneType_eq (F.args_NoneType_eq_2 _ _) (NoneType___eq___none_ref_0 a) hq)
    (fun _ hq => dict_eq_declines_none hT hq rfl F.sub_NoneType_dict)
    (fun _ hq => wpAny_of_eq (rfl : isSame .none (.ref a) = pure false) hq) (.inr hu) h
theorem eqAt_none_dict (hT : s.TypeIs (.ref a) "dict") (hu : A.units < cLine) : EqAt A s .none (.ref a) false := fun prog w E Q h => by
  unfold eqBool
  refine wpAny_holding ?_
  refine wpAny_ite_split (fun hab => absurd (eq_of_beq hab) nofun) (fun _ => ?_)
  exact wpAny_bind (rc_none_dict hT hu prog w E _ (wpAny_truthy_bool h))
theorem rc_dict_none (hT : s.TypeIs (.ref a) "dict") (hu : A.units < cLine) : RcAt A s (.ref a) .none false := fun prog w E Q h =>
  rc_eq_decline_or (k := false) hT rfl (by decide) PySem.F.sub_NoneType_dict F.slot_dict_eq F.slot_NoneType_eq_refl
    (fun _ hq => dict_eq_declines_none hT hq rfl F.sub_NoneType_dict)
    (fun _ hq => call_gives F.slot_NoneType_eq_refl rfl F.entry_NoneType_eq (F.args_NoneType_eq_2 _ _) (NoneType___eq___none_ref_0 a) hq)
    (fun _ hq => wpAny_of_eq (rfl : isSame (.ref a) .none = pure false) hq) (.inr hu) h
theorem eqAt_dict_none (hT : s.TypeIs (.ref a) "dict") (hu : A.units < cLine) : EqAt A s (.ref a) .none false := fun prog w E Q h => by
  unfold eqBool
  refine wpAny_holding ?_
  refine wpAny_ite_split (fun hab => absurd (eq_of_beq hab) nofun) (fun _ => ?_)
  exact wpAny_bind (rc_dict_none hT hu prog w E _ (wpAny_truthy_bool h))
end
end Mine

end
-- Bs
section
open PySem PySem.W PyProof.Rows
namespace Mine
abbrev Led := List (Addr × Obj)
abbrev tupO (vs : List Value) : Obj := { cls := .type "tuple", data := .seq vs.toArray }
/-- what a call does, whatever frame of the text's makes it -/
def CallC (w : World) (f : Addr) (pos : List Value) (kw : List (PySem.Str × Value)) (news : Led) (Ret : (Led → Value → Prop) → Prop) : Prop :=
  ∀ (mean : ExcName → Option Value) (mg mb : PySem.Str → Option Value) (dp un : Nat) (gd : Option (List Code)) (cn : PySem.Str) (cs : Scope) (a : Addr) (ccd : Value) (cl : List (PySem.Str × Addr)) (outer : List Env) (A₀ : Around) (base h₀ : Heap) (L : Addr) (m : PySem.Str → Option Value) (s : Shared) (Q E : Value → Shared → Prop),
    Below A₀ base outer h₀ → Fr h₀ L s.heap m → (hd.heap_39 w.params).In h₀ → News h₀ L s.heap news → Top hd.view_39 (looseW hd.view_39 [Str.ofString "Code", Str.ofString "Binary", Str.ofString "DatetimeMS", Str.ofString "DBRef", Str.ofString "InvalidDocument", Str.ofString "Int64", Str.ofString "MaxKey", Str.ofString "MinKey", Str.ofString "ObjectId", Str.ofString "Regex", Str.ofString "Timestamp"]) mean mg mb h₀ → cs.kind = .function → dp + 8 < recursionLimit → un + 64 < cLine →
    Ret (fun tl r => ∀ h' tk', Fr h₀ L h' m → News h₀ L h' tl → Q r { s with heap := h', toks := tk' }) →
    wpAny (model PySem.Challenge.rw_jh0019_01.row.prog w) (ktrTop dp un gd cn cs L a ccd cl outer) (call (.ref f) pos kw) Q E s
/-- what a call does that the law's own frame makes -/
def CallL (w : World) (f : Addr) (pos : List Value) (kw : List (PySem.Str × Value)) (news : Led) (Ret : (Led → Value → Prop) → Prop) : Prop :=
  ∀ (mean : ExcName → Option Value) (mg mb : PySem.Str → Option Value) (dp un : Nat) (gd : Option (List Code)) (cn : PySem.Str) (cs : Scope) (a : Addr) (ccd : Value) (cl : List (PySem.Str × Addr)) (A₀ : Around) (h₀ : Heap) (L : Addr) (m : PySem.Str → Option Value) (s : Shared) (Q E : Value → Shared → Prop),
    Below A₀ h₀ [] h₀ → Fr h₀ L s.heap m → (hd.heap_39 w.params).In h₀ → News h₀ L s.heap news → Top hd.view_39 (looseW hd.view_39 [Str.ofString "Code", Str.ofString "Binary", Str.ofString "DatetimeMS", Str.ofString "DBRef", Str.ofString "InvalidDocument", Str.ofString "Int64", Str.ofString "MaxKey", Str.ofString "MinKey", Str.ofString "ObjectId", Str.ofString "Regex", Str.ofString "Timestamp"]) mean mg mb h₀ → cs.kind = .function → dp + 30 < recursionLimit → un + 300 < cLine →
    Ret (fun tl r => ∀ h' tk', Fr h₀ L h' m → News h₀ L h' tl → Q r { s with heap := h', toks := tk' }) →
    wpAny (model PySem.Challenge.rw_jh0019_01.row.prog w) (ktrTop dp un gd cn cs L a ccd cl []) (call (.ref f) pos kw) Q E s
end Mine

end
open PySem PySem.Calls PySem.W PyProof.Rows PyProof.V PySem.Spec
local macro_rules | `(tactic| k_room) => `(tactic| ktr_room)
local macro_rules | `(tactic| walk_at "call type:bytes") => `(tactic| (k_here; (with_reducible show wpAny _ _ (call (Value.type "bytes") [Value.bytes _ _]) _ _ _); k_dflt (refine' Mine.call_bytes_bytes ?_)))
local macro_rules | `(tactic| walk_at "call type:bytes") => `(tactic| (k_here; (with_reducible show wpAny _ _ (call (Value.type "bytes") [Value.int _ _]) _ _ _); k_dflt (refine' Mine.call_bytes_12 ?_); intro t' k'))
local macro_rules | `(tactic| walk_at "call type:bytes") => `(tactic| (k_here; (with_reducible show wpAny _ _ (call (Value.type "bytes") [Value.ref _]) _ _ _); k_dflt (refine' Mine.call_bytes_ba ?o ?z ?_; (case o => exact News.get (by k_asm) (by k_mem)); (case z => rw [sizeLine_eq]; omega)); intro t' k'))

local macro_rules | `(tactic| k_units) => `(tactic| ((try simp only [units_under_make, units_in1, units_deeper, Around.mark_units]); (try dsimp only [ktrTop]); omega))
local macro_rules | `(tactic| k_enter) => `(tactic| (refine' code_def ?k1 ?k2 ?k3 ?k4 ?k5 ?kA ?kF ?kK ?k6 ?k7 ?k8 ?k9 ?kB ?_ ?c2 ?c3 ?c4 ?c5; (case kA => exact rfl); (case kF => exact rfl); (case kK => assumption); (case k1 => k_asm); (case k2 => k_asm); (case k3 => k_asm); (case k4 => k_asm); (case k5 => k_asm); (case k6 => k_is); (case k7 => k_is); (case k8 => k_room); (case k9 => first | exact BindsTo.of_eq rfl | exact binds_K (by k_in) rfl (by k_is) rfl rfl rfl | fail "k_enter: no rule for these arguments"); (case c5 => decide); (case kB => exact locs rfl); (case c2 => exact rfl); (case c3 => exact rfl); (case c4 => exact rfl); k_whole; intro g' L' h' FG' F' N' B' X' T'; (try dsimp only); (try k_lift B'); (try k_fold)))
theorem Mine.ite_dT {c : Prop} [Decidable c] {P Q : Prop} (h : c) (p : P) : if decide c = true then P else Q := by rw [if_pos (decide_eq_true h)]; exact p
theorem Mine.ite_dF {c : Prop} [Decidable c] {P Q : Prop} (h : ¬ c) (q : Q) : if decide c = true then P else Q := by rw [if_neg (by simp [h])]; exact q
theorem Mine.ite_nT {c : Prop} [Decidable c] {P Q : Prop} (h : c) (q : Q) : if (!decide c) = true then P else Q := by rw [if_neg (by simp [h])]; exact q
theorem Mine.ite_nF {c : Prop} [Decidable c] {P Q : Prop} (h : ¬ c) (p : P) : if (!decide c) = true then P else Q := by rw [if_pos (by simp [h])]; exact p
local macro_rules | `(tactic| walk_at "ite") => `(tactic| (first | with_reducible refine ite_tt ?_ | with_reducible refine ite_ff ?_ | (with_reducible refine Mine.ite_dT (by with_reducible assumption) ?_) | (with_reducible refine Mine.ite_dF (by with_reducible assumption) ?_) | (with_reducible refine Mine.ite_nT (by with_reducible assumption) ?_) | (with_reducible refine Mine.ite_nF (by with_reducible assumption) ?_)))
theorem Mine.gen_toks {α : Type} {M : Model} {A : Around} {t : Sem α} {Q : α → Shared → Prop} {E : Value → Shared → Prop} {h : Heap} {g : Array GenState} {d : Drawn} {X : Nat} {o : OsState} (H : ∀ tk, wpAny M A t Q E ⟨h, g, d, tk, o⟩) : wpAny M A t Q E ⟨h, g, d, X, o⟩ := H X
local macro_rules | `(tactic| walk_at "execs nil") => `(tactic| (with_reducible refine wpAny_execs_nil ?_))
local macro_rules | `(tactic| walk_at "execs cons") => `(tactic| (k_here; (with_reducible refine Mine.gen_toks ?_); intro tk; (with_reducible refine wpAny_execs_cons ?_); try dsimp only))
local macro_rules | `(tactic| walk_at "call builtin:isinstance") => `(tactic| (k_here; (with_reducible show wpAny _ _ (call (Value.builtin _) [Value.ref _, Value.ref _]) _ _ _); k_dflt (refine' isi_call ?k1 ?k2 ?k3 ?k4 ?_; (case k1 => k_in); (case k2 => k_types); (case k3 => k_is); (case k4 => intro e; cases e); k_whole)))
local macro_rules | `(tactic| walk_at "compareOp Eq ref ref") => `(tactic| (k_here; (with_reducible show wpAny _ _ (compareOp CmpOp.Eq (Value.ref _) _) _ _ _); (refine cmp_ofEq ?_); k_dflt (refine' cmp_K ?k1 ?k2 ?k3 ?k4 ?k5 ?k6 ?k7 ?k8 ?_; (case k1 => k_units); (case k2 => k_asm); (case k3 => k_asm); (case k4 => refine' InstAt.of_news ?kN ?kh1 ?kh2; (case kN => k_asm); (case kh1 => k_mem); (case kh2 => k_mem)); (case k5 => k_typeOf); (case k6 => k_is); (case k7 => k_is); (case k8 => k_is); k_whole)))
local macro_rules | `(tactic| walk_at "compareOp NotEq ref ref") => `(tactic| (k_here; (with_reducible show wpAny _ _ (compareOp CmpOp.NotEq (Value.ref _) _) _ _ _); (refine cmp_ofNotEq ?_); k_dflt (refine' cmp_K ?k1 ?k2 ?k3 ?k4 ?k5 ?k6 ?k7 ?k8 ?_; (case k1 => k_units); (case k2 => k_asm); (case k3 => k_asm); (case k4 => refine' InstAt.of_news ?kN ?kh1 ?kh2; (case kN => k_asm); (case kh1 => k_mem); (case kh2 => k_mem)); (case k5 => k_typeOf); (case k6 => k_is); (case k7 => k_is); (case k8 => k_is); k_whole)))
local macro_rules | `(tactic| walk_at "compareOp Eq ref") => `(tactic| walk_at "compareOp Eq ref ref")
local macro_rules | `(tactic| walk_at "compareOp NotEq ref") => `(tactic| walk_at "compareOp NotEq ref ref")
section
variable {prog : Program} {w : World} {A : Around} {E : Value → Shared → Prop} {s : Shared} {t u : Tok} {Q : Value → Shared → Prop}
theorem Mine.pow63 (h : Q (.int 9223372036854775808 s.toks) { s with toks := s.toks + 1 }) : wpAny (model prog w) A (binaryOp .Pow (.int 2 t) (.int 63 u)) Q E s := pow_int_small (by decide) (by decide) (by decide) (by rw [show (2 : Int) ^ Int.toNat 63 = 9223372036854775808 from by decide]; exact h)
theorem Mine.pow64 (h : Q (.int 18446744073709551616 s.toks) { s with toks := s.toks + 1 }) : wpAny (model prog w) A (binaryOp .Pow (.int 2 t) (.int 64 u)) Q E s := pow_int_small (by decide) (by decide) (by decide) (by rw [show (2 : Int) ^ Int.toNat 64 = 18446744073709551616 from by decide]; exact h)
theorem Mine.pow65 (h : Q (.int 36893488147419103232 s.toks) { s with toks := s.toks + 1 }) : wpAny (model prog w) A (binaryOp .Pow (.int 2 t) (.int 65 u)) Q E s := pow_int_small (by decide) (by decide) (by decide) (by rw [show (2 : Int) ^ Int.toNat 65 = 36893488147419103232 from by decide]; exact h)
theorem Mine.pow66 (h : Q (.int 73786976294838206464 s.toks) { s with toks := s.toks + 1 }) : wpAny (model prog w) A (binaryOp .Pow (.int 2 t) (.int 66 u)) Q E s := pow_int_small (by decide) (by decide) (by decide) (by rw [show (2 : Int) ^ Int.toNat 66 = 73786976294838206464 from by decide]; exact h)
end
local macro_rules | `(tactic| walk_at "binaryOp Pow int int") => `(tactic| (k_here; (first | with_reducible refine Mine.pow63 ?_ | with_reducible refine Mine.pow64 ?_ | with_reducible refine Mine.pow65 ?_ | with_reducible refine Mine.pow66 ?_)))
local macro_rules | `(tactic| k_in) => `(tactic| first | with_reducible assumption | with_reducible exact Frag.In.keeps (by with_reducible assumption) (Fr.keep (by with_reducible assumption)))

-- S1
section
open PySem PySem.Calls PySem.W PyProof.Rows
set_option maxRecDepth 100000
namespace Mine
theorem use_C {w : World} {f : Addr} {pos : List Value} {kw : List (PySem.Str × Value)} {news : Led} {Ret : (Led → Value → Prop) → Prop} (H : CallC w f pos kw news Ret)
    {mean : ExcName → Option Value} {mg mb : PySem.Str → Option Value} {dp un : Nat} {gd : Option (List Code)} {cn : PySem.Str} {cs : Scope} {a : Addr} {ccd : Value} {cl : List (PySem.Str × Addr)} {outer : List Env} {A₀ : Around} {base h₀ : Heap} {L : Addr} {m : PySem.Str → Option Value} {s : Shared} {Q E : Value → Shared → Prop}
    (B : Below A₀ base outer h₀) (F : Fr h₀ L s.heap m) (X : (hd.heap_39 w.params).In h₀) (N : News h₀ L s.heap news) (T : Top hd.view_39 (looseW hd.view_39 [Str.ofString "Code", Str.ofString "Binary", Str.ofString "DatetimeMS", Str.ofString "DBRef", Str.ofString "InvalidDocument", Str.ofString "Int64", Str.ofString "MaxKey", Str.ofString "MinKey", Str.ofString "ObjectId", Str.ofString "Regex", Str.ofString "Timestamp"]) mean mg mb h₀) (hk : cs.kind = .function) (hd : dp + 8 < recursionLimit) (hu : un + 64 < cLine)
    (hret : Ret fun tl r => ∀ h' tk', Fr h₀ L h' m → News h₀ L h' tl → Q r { s with heap := h', toks := tk' }) :
    wpAny (model PySem.Challenge.rw_jh0019_01.row.prog w) (ktrTop dp un gd cn cs L a ccd cl outer) (call (.ref f) pos kw) Q E s :=
  H mean mg mb dp un gd cn cs a ccd cl outer A₀ base h₀ L m s Q E B F X N T hk hd hu hret
theorem use_L {w : World} {f : Addr} {pos : List Value} {kw : List (PySem.Str × Value)} {news : Led} {Ret : (Led → Value → Prop) → Prop} (H : CallL w f pos kw news Ret)
    {mean : ExcName → Option Value} {mg mb : PySem.Str → Option Value} {dp un : Nat} {gd : Option (List Code)} {cn : PySem.Str} {cs : Scope} {a : Addr} {ccd : Value} {cl : List (PySem.Str × Addr)} {A₀ : Around} {h₀ : Heap} {L : Addr} {m : PySem.Str → Option Value} {s : Shared} {Q E : Value → Shared → Prop}
    (B : Below A₀ h₀ [] h₀) (F : Fr h₀ L s.heap m) (X : (hd.heap_39 w.params).In h₀) (N : News h₀ L s.heap news) (T : Top hd.view_39 (looseW hd.view_39 [Str.ofString "Code", Str.ofString "Binary", Str.ofString "DatetimeMS", Str.ofString "DBRef", Str.ofString "InvalidDocument", Str.ofString "Int64", Str.ofString "MaxKey", Str.ofString "MinKey", Str.ofString "ObjectId", Str.ofString "Regex", Str.ofString "Timestamp"]) mean mg mb h₀) (hk : cs.kind = .function) (hd : dp + 30 < recursionLimit) (hu : un + 300 < cLine)
    (hret : Ret fun tl r => ∀ h' tk', Fr h₀ L h' m → News h₀ L h' tl → Q r { s with heap := h', toks := tk' }) :
    wpAny (model PySem.Challenge.rw_jh0019_01.row.prog w) (ktrTop dp un gd cn cs L a ccd cl []) (call (.ref f) pos kw) Q E s :=
  H mean mg mb dp un gd cn cs a ccd cl A₀ h₀ L m s Q E B F X N T hk hd hu hret
section
variable {prog : Program} {w : World} {A₀ A : Around} {s : Shared} {base h₀ : Heap} {L : Addr} {m : PySem.Str → Option Value} {env : Env} {news : List (Addr × Obj)} {K : Frag} {p : Program} {loose : List PySem.Str} {mean : ExcName → Option Value} {mg mb : PySem.Str → Option Value}
    {R : Result → Shared → Prop} {name qual : PySem.Str} {params : Arguments} {body : List Stmt} {scope : Scope} {dV kV doc pm cdv ct oc : Value} {an od : Option Addr} {osl : Array (Option Value)} {f : Addr} {args : Args} {binds : List (PySem.Str × Value)}

/-- a frame's own dict, its slots turned, is still its dict -/
theorem ns_slots {h h' : Heap} {oL : Obj} (F : h.Ns L m) (ho : h.get? L = some oL) (sl : Array (Option Value)) (hs : h'.get? L = some { oL with slots := sl }) : h'.Ns L m := by
  obtain ⟨o, es, ep, h1, h2, h3, h4⟩ := F
  rw [ho] at h1
  cases h1
  exact ⟨_, es, ep, hs, h2, h3, h4⟩
theorem ns_dict {h : Heap} (F : h.Ns L m) : ∃ o es n, h.get? L = some o ∧ o.data = .dict es n := by
  obtain ⟨o, es, ep, h1, h2, _⟩ := F
  exact ⟨o, es, ep, h1, h2⟩

theorem back_S {g g' h' : Heap} {L' : Addr} {m' : PySem.Str → Option Value} {news' : List (Addr × Obj)} (FG : Fr h₀ L g m) (T : KtsTurn [L] g g') (F' : Fr g' L' h' m') (N' : News g' L' h' news') : Fr h₀ L h' m ∧ News h₀ L h' news' := by
  obtain ⟨oL, es, ep, hL, hd⟩ := ns_dict FG.ns
  obtain ⟨sl, hs⟩ := T.up hL
  have nL : h₀.get? L = none := kts_self FG
  refine ⟨⟨ns_slots FG.ns hL sl (F'.keep _ _ hs), fun b o e => F'.keep b o (T.other b o (FG.keep b o e) fun q => ?_), FG.above⟩, fun p hp => ⟨(N' p hp).1, fun q => ?_, ?_⟩⟩
  · rw [List.mem_singleton.mp q, nL] at e
    cases e
  · have := (N' p hp).2.2
    rw [q, hs] at this
    cases this
  · cases q : h₀.get? p.1 with
    | none => rfl
    | some o =>
      obtain ⟨sl', hs'⟩ := T.up (FG.keep _ _ q)
      have := (N' p hp).2.2
      rw [hs'] at this
      cases this

/-- a def that catches, called from the law's own frame (which may hold cells) -/
theorem code_S (B : Below A₀ base [] h₀) (F : Fr h₀ L s.heap m) (X₀ : K.In h₀) (N : News h₀ L s.heap news) (T : Top p loose mean mg mb h₀) (hA : A.frames = some [env]) (hf : env.frame = some L) (hke : env.scope.kind = .function)
    (ho : K.lookup f = some ⟨oc, od, .func (fnOf name qual params body scope dV kV doc pm an cdv ct), osl⟩) (hcd : codeIn K cdv qual = true) (hroom : A.depth < recursionLimit)
    (hbind : BindsTo s (fnOf name qual params body scope dV kV doc pm an cdv ct) args binds) (hloc : ∀ y ∈ binds, scope.names.lookup y.1 = some .local)
    (h : ∀ g L' h₁, Fr h₀ L g m → Fr g L' h₁ (fun y => binds.reverse.lookup y) → News g L' h₁ news → Below A base [env] g → K.In g → Top p loose mean mg mb g → KtsDicts ([env].filterMap (·.frame)) g →
      wpAny (model prog w) (A.deeper (envOf qual scope L' f cdv)) (execs body (envOf qual scope L' f cdv))
        (fun fl s' => LeaveS0 ([env].filterMap (·.frame)) h₀ L m g R (match fl with | .ret v => v | _ => .none) s')
        (fun e s' => wpAny (model prog w) (A.deeper (envOf qual scope L' f cdv)) (leaving (envOf qual scope L' f cdv) e) (fun _ s'' => R (.error e) s'') (fun e' s'' => R (.error e') s'') s')
        { s with heap := h₁, toks := s.toks + binds.length })
    (hco : scope.isCoroutine = false) (hgen : scope.isGenerator = false) (hk : scope.kind = .function)
    (hcell : ∀ x ∈ scope.names, x.2 ≠ .cell) : codeAny (model prog w) A (.call (.ref f) args) R s := by
  have X := X₀.keeps F.keep
  have efs : [env].filterMap (·.frame) = [L] := by simp [hf]
  refine codeAny_call_def (fd := fnOf name qual params body scope dV kV doc pm an cdv ct) (body := body) (binds := binds) hroom (X _ _ ho) rfl (T.nolimit.keeps F.keep) (codeRec_of X hcd) rfl hbind hcell hloc (fun h₁ hns hk₁ => ?_) hco hgen hk
  obtain ⟨FG, BG, st, _⟩ := groundX (R := R) B F N hA hf hke
  obtain ⟨oL, es, ep, hL, hd⟩ := ns_dict FG.ns
  refine wpAny_mono (h _ s.heap.objs.size h₁ FG ⟨hns, fun b o e => hk₁ b o (of_hideAll _ e), Nat.le_of_eq (hideAll_size _ _)⟩
    (fun p hp => ⟨hk₁ _ _ (N p hp).1, Nat.ne_of_lt (Heap.lt_size (N p hp).1), hideAll_none _ (List.mem_map_of_mem hp)⟩) BG (X₀.keeps st) (T.keeps st) (fun b hb => by
      rw [efs] at hb
      rw [List.mem_singleton.mp hb]
      exact ⟨oL, es, ep, hL, hd⟩)) (fun fl s' hl => ?_) fun _ _ y => y
  rw [efs] at hl
  obtain ⟨g', L', m', news', T', F', N', k⟩ := hl
  obtain ⟨a, b⟩ := back_S FG T' F' N'
  exact k a b
end
end Mine

end
-- C1
section
local macro_rules | `(tactic| walk_at "pad") => `(tactic| skip)
local macro_rules | `(tactic| walk_at "pad") => `(tactic| skip)
local macro_rules | `(tactic| walk_at "pad") => `(tactic| skip)
local macro_rules | `(tactic| walk_at "pad") => `(tactic| skip)
local macro_rules | `(tactic| walk_at "pad") => `(tactic| skip)
local macro_rules | `(tactic| walk_at "pad") => `(tactic| skip)
local macro_rules | `(tactic| walk_at "pad") => `(tactic| skip)
local macro_rules | `(tactic| walk_at "pad") => `(tactic| skip)
local macro_rules | `(tactic| walk_at "pad") => `(tactic| skip)
local macro_rules | `(tactic| walk_at "pad") => `(tactic| skip)
local macro_rules | `(tactic| walk_at "pad") => `(tactic| skip)
local macro_rules | `(tactic| walk_at "pad") => `(tactic| skip)
theorem Mine.padC1 : (1 : Nat) = 1 := by
  w_top off
  first | (walk1; done) | rfl
end
section
open PySem PySem.W PyProof.Rows
namespace Mine
abbrev dateD (w : World) (k : Int) (t : Tok) (t1 : Tok) : Obj := dictOf [⟨PyData.keyHash w.params (Str.ofString "_value"), .str (Str.ofString "_value") t1, .int k t⟩] 1
set_option maxRecDepth 100000 in
set_option maxHeartbeats 8000000 in
theorem new_date (w : World) (news : Led) (t : Tok) (k : Int) (h0 : -9223372036854775808 ≤ k) (h1 : k ≤ 9223372036854775808 - 1) :
    CallC w 201 [.int k t] [] news (fun K => ∀ x d t1, (∀ p ∈ news, p.1 < d) → d < x → K ((x, instObj 201 d) :: (d, dateD w k t t1) :: news) (.ref x)) := by
  unfold CallC
  k_fill
  intro mean mg mb dp un gd cn cs a ccd cl outer A₀ base h₀ L m s Q E B F X N T hk hd hu hret
  k_steps
  all_goals exact hret _ _ _ (by assumption) (by assumption) _ _ (by k_asm) (by k_asm)
end Mine

end
-- M1
section
local macro_rules | `(tactic| walk_at "pad") => `(tactic| skip)
local macro_rules | `(tactic| walk_at "pad") => `(tactic| skip)
local macro_rules | `(tactic| walk_at "pad") => `(tactic| skip)
local macro_rules | `(tactic| walk_at "pad") => `(tactic| skip)
local macro_rules | `(tactic| walk_at "pad") => `(tactic| skip)
local macro_rules | `(tactic| walk_at "pad") => `(tactic| skip)
local macro_rules | `(tactic| walk_at "pad") => `(tactic| skip)
local macro_rules | `(tactic| walk_at "pad") => `(tactic| skip)
local macro_rules | `(tactic| walk_at "pad") => `(tactic| skip)
local macro_rules | `(tactic| walk_at "pad") => `(tactic| skip)
local macro_rules | `(tactic| walk_at "pad") => `(tactic| skip)
local macro_rules | `(tactic| walk_at "pad") => `(tactic| skip)
theorem Mine.padM1 : (1 : Nat) = 1 := by
  w_top off
  first | (walk1; done) | rfl
end
section
open PySem PySem.W PyProof.Rows
namespace Mine
local macro_rules | `(tactic| walk_at "InitBack error") => `(tactic| (dsimp only [InitBack]))
set_option maxRecDepth 100000 in
set_option maxHeartbeats 8000000 in
theorem made_binary (w : World) (news : Led) (row : Array UInt8) (t t1 t2 : Tok) (k : Int) (h0 : 0 ≤ k) (h1 : k < 256) :
    CallL w 716 [.str (Str.ofString "binary") t, .bytes row t1, .int k t2] [] news (fun K => ∀ a t3 t4, (∀ p ∈ news, p.1 < a) → K ((a, tupO [.bytes row t3, .int k t4]) :: news) (.ref a)) := by
  unfold CallL
  k_fill
  intro mean mg mb dp un gd cn cs a ccd cl A₀ h₀ L m s Q E B F X N T hk hd hu hret
  refine wpAny_call ?_
  k_dflt (refine' code_S ?k1 ?k2 ?k3 ?k4 ?k5 ?kA ?kF ?kK ?k6 ?k7 ?k8 ?k9 ?kB ?_ ?c2 ?c3 ?c4 ?c5; (case kA => exact rfl); (case kF => exact rfl); (case kK => assumption); (case k1 => k_asm); (case k2 => k_asm); (case k3 => k_asm); (case k4 => k_asm); (case k5 => k_asm); (case k6 => k_is); (case k7 => k_is); (case k8 => ktr_room); (case k9 => first | exact binds_K (by k_in) rfl (by k_is) rfl rfl rfl | exact BindsTo.of_eq rfl); (case kB => exact locs rfl); (case c2 => exact rfl); (case c3 => exact rfl); (case c4 => exact rfl); (case c5 => decide); k_whole; intro g' L' h' FG' F' N' B' X' T' D'; (try dsimp only); (try k_lift B'); (try k_fold))
  k_steps
  all_goals exact hret _ _ _ (by first | exact ktn_ltOf (by assumption : _ ∧ _ ∧ AllLt _ news).2.2 | exact ktn_ltOf (by assumption : _ ∧ _ ∧ _ ∧ AllLt _ news).2.2.2 | exact ktn_ltOf (by assumption : _ ∧ _ ∧ _ ∧ _ ∧ AllLt _ news).2.2.2.2 | exact ktn_ltOf (by assumption : _ ∧ AllLt _ news).2) _ _ (by k_asm) (cb_drop (by k_asm) (by kcj_all))

set_option maxRecDepth 100000 in
set_option maxHeartbeats 8000000 in
theorem made_binary_hi (w : World) (news : Led) (row : Array UInt8) (t t1 t2 : Tok) (k : Int) (h1 : 256 ≤ k) :
    CallL w 716 [.str (Str.ofString "binary") t, .bytes row t1, .int k t2] [] news (fun K => ∀ t, K news (.str (Str.ofString "value") t)) := by
  unfold CallL
  k_fill
  intro mean mg mb dp un gd cn cs a ccd cl A₀ h₀ L m s Q E B F X N T hk hd hu hret
  refine wpAny_call ?_
  k_dflt (refine' code_S ?k1 ?k2 ?k3 ?k4 ?k5 ?kA ?kF ?kK ?k6 ?k7 ?k8 ?k9 ?kB ?_ ?c2 ?c3 ?c4 ?c5; (case kA => exact rfl); (case kF => exact rfl); (case kK => assumption); (case k1 => k_asm); (case k2 => k_asm); (case k3 => k_asm); (case k4 => k_asm); (case k5 => k_asm); (case k6 => k_is); (case k7 => k_is); (case k8 => ktr_room); (case k9 => first | exact binds_K (by k_in) rfl (by k_is) rfl rfl rfl | exact BindsTo.of_eq rfl); (case kB => exact locs rfl); (case c2 => exact rfl); (case c3 => exact rfl); (case c4 => exact rfl); (case c5 => decide); k_whole; intro g' L' h' FG' F' N' B' X' T' D'; (try dsimp only); (try k_lift B'); (try k_fold))
  k_steps
  all_goals exact hret _ _ _ (by k_asm) (cb_drop (by k_asm) (by kcj_all))

set_option maxRecDepth 100000 in
set_option maxHeartbeats 8000000 in
theorem made_binary_lo (w : World) (news : Led) (row : Array UInt8) (t t1 t2 : Tok) (k : Int) (h1 : k < 0) :
    CallL w 716 [.str (Str.ofString "binary") t, .bytes row t1, .int k t2] [] news (fun K => ∀ t, K news (.str (Str.ofString "value") t)) := by
  unfold CallL
  k_fill
  intro mean mg mb dp un gd cn cs a ccd cl A₀ h₀ L m s Q E B F X N T hk hd hu hret
  refine wpAny_call ?_
  k_dflt (refine' code_S ?k1 ?k2 ?k3 ?k4 ?k5 ?kA ?kF ?kK ?k6 ?k7 ?k8 ?k9 ?kB ?_ ?c2 ?c3 ?c4 ?c5; (case kA => exact rfl); (case kF => exact rfl); (case kK => assumption); (case k1 => k_asm); (case k2 => k_asm); (case k3 => k_asm); (case k4 => k_asm); (case k5 => k_asm); (case k6 => k_is); (case k7 => k_is); (case k8 => ktr_room); (case k9 => first | exact binds_K (by k_in) rfl (by k_is) rfl rfl rfl | exact BindsTo.of_eq rfl); (case kB => exact locs rfl); (case c2 => exact rfl); (case c3 => exact rfl); (case c4 => exact rfl); (case c5 => decide); k_whole; intro g' L' h' FG' F' N' B' X' T' D'; (try dsimp only); (try k_lift B'); (try k_fold))
  k_steps
  all_goals exact hret _ _ _ (by k_asm) (cb_drop (by k_asm) (by kcj_all))

set_option maxRecDepth 100000 in
set_option maxHeartbeats 8000000 in
theorem made_binary_kind (w : World) (news : Led) (row : Array UInt8) (t t1 t2 : Tok) :
    CallL w 716 [.str (Str.ofString "binary") t, .bytes row t1, .str (Str.ofString "1") t2] [] news (fun K => ∀ t, K news (.str (Str.ofString "kind") t)) := by
  unfold CallL
  k_fill
  intro mean mg mb dp un gd cn cs a ccd cl A₀ h₀ L m s Q E B F X N T hk hd hu hret
  refine wpAny_call ?_
  k_dflt (refine' code_S ?k1 ?k2 ?k3 ?k4 ?k5 ?kA ?kF ?kK ?k6 ?k7 ?k8 ?k9 ?kB ?_ ?c2 ?c3 ?c4 ?c5; (case kA => exact rfl); (case kF => exact rfl); (case kK => assumption); (case k1 => k_asm); (case k2 => k_asm); (case k3 => k_asm); (case k4 => k_asm); (case k5 => k_asm); (case k6 => k_is); (case k7 => k_is); (case k8 => ktr_room); (case k9 => first | exact binds_K (by k_in) rfl (by k_is) rfl rfl rfl | exact BindsTo.of_eq rfl); (case kB => exact locs rfl); (case c2 => exact rfl); (case c3 => exact rfl); (case c4 => exact rfl); (case c5 => decide); k_whole; intro g' L' h' FG' F' N' B' X' T' D'; (try dsimp only); (try k_lift B'); (try k_fold))
  k_steps
  all_goals exact hret _ _ _ (by k_asm) (cb_drop (by k_asm) (by kcj_all))
end Mine

end
-- M3
section
local macro_rules | `(tactic| walk_at "pad") => `(tactic| skip)
local macro_rules | `(tactic| walk_at "pad") => `(tactic| skip)
local macro_rules | `(tactic| walk_at "pad") => `(tactic| skip)
local macro_rules | `(tactic| walk_at "pad") => `(tactic| skip)
local macro_rules | `(tactic| walk_at "pad") => `(tactic| skip)
local macro_rules | `(tactic| walk_at "pad") => `(tactic| skip)
local macro_rules | `(tactic| walk_at "pad") => `(tactic| skip)
local macro_rules | `(tactic| walk_at "pad") => `(tactic| skip)
local macro_rules | `(tactic| walk_at "pad") => `(tactic| skip)
local macro_rules | `(tactic| walk_at "pad") => `(tactic| skip)
local macro_rules | `(tactic| walk_at "pad") => `(tactic| skip)
local macro_rules | `(tactic| walk_at "pad") => `(tactic| skip)
theorem Mine.padM3 : (1 : Nat) = 1 := by
  w_top off
  first | (walk1; done) | rfl
end
section
open PySem PySem.W PyProof.Rows
namespace Mine
local macro_rules | `(tactic| walk_at "InitBack error") => `(tactic| (dsimp only [InitBack]))
set_option maxRecDepth 100000 in
set_option maxHeartbeats 8000000 in
theorem made_code_int (w : World) (news : Led) (t t1 : Tok) :
    CallL w 716 [.str (Str.ofString "code") t, .int 5 t1, .none] [] news (fun K => ∀ t, K news (.str (Str.ofString "kind") t)) := by
  unfold CallL
  k_fill
  intro mean mg mb dp un gd cn cs a ccd cl A₀ h₀ L m s Q E B F X N T hk hd hu hret
  refine wpAny_call ?_
  k_dflt (refine' code_S ?k1 ?k2 ?k3 ?k4 ?k5 ?kA ?kF ?kK ?k6 ?k7 ?k8 ?k9 ?kB ?_ ?c2 ?c3 ?c4 ?c5; (case kA => exact rfl); (case kF => exact rfl); (case kK => assumption); (case k1 => k_asm); (case k2 => k_asm); (case k3 => k_asm); (case k4 => k_asm); (case k5 => k_asm); (case k6 => k_is); (case k7 => k_is); (case k8 => ktr_room); (case k9 => first | exact binds_K (by k_in) rfl (by k_is) rfl rfl rfl | exact BindsTo.of_eq rfl); (case kB => exact locs rfl); (case c2 => exact rfl); (case c3 => exact rfl); (case c4 => exact rfl); (case c5 => decide); k_whole; intro g' L' h' FG' F' N' B' X' T' D'; (try dsimp only); (try k_lift B'); (try k_fold))
  k_steps
  all_goals exact hret _ _ _ (by k_asm) (cb_drop (by k_asm) (by kcj_all))

set_option maxRecDepth 100000 in
set_option maxHeartbeats 8000000 in
theorem made_code_bytes (w : World) (news : Led) (row : Array UInt8) (t t1 : Tok) :
    CallL w 716 [.str (Str.ofString "code") t, .bytes row t1, .none] [] news (fun K => ∀ t, K news (.str (Str.ofString "kind") t)) := by
  unfold CallL
  k_fill
  intro mean mg mb dp un gd cn cs a ccd cl A₀ h₀ L m s Q E B F X N T hk hd hu hret
  refine wpAny_call ?_
  k_dflt (refine' code_S ?k1 ?k2 ?k3 ?k4 ?k5 ?kA ?kF ?kK ?k6 ?k7 ?k8 ?k9 ?kB ?_ ?c2 ?c3 ?c4 ?c5; (case kA => exact rfl); (case kF => exact rfl); (case kK => assumption); (case k1 => k_asm); (case k2 => k_asm); (case k3 => k_asm); (case k4 => k_asm); (case k5 => k_asm); (case k6 => k_is); (case k7 => k_is); (case k8 => ktr_room); (case k9 => first | exact binds_K (by k_in) rfl (by k_is) rfl rfl rfl | exact BindsTo.of_eq rfl); (case kB => exact locs rfl); (case c2 => exact rfl); (case c3 => exact rfl); (case c4 => exact rfl); (case c5 => decide); k_whole; intro g' L' h' FG' F' N' B' X' T' D'; (try dsimp only); (try k_lift B'); (try k_fold))
  k_steps
  all_goals exact hret _ _ _ (by k_asm) (cb_drop (by k_asm) (by kcj_all))

set_option maxRecDepth 100000 in
set_option maxHeartbeats 8000000 in
theorem made_code_scope (w : World) (news : Led) (x : PySem.Str) (t t1 t2 : Tok) :
    CallL w 716 [.str (Str.ofString "code") t, .str x t1, .int 5 t2] [] news (fun K => ∀ t, K news (.str (Str.ofString "kind") t)) := by
  unfold CallL
  k_fill
  intro mean mg mb dp un gd cn cs a ccd cl A₀ h₀ L m s Q E B F X N T hk hd hu hret
  refine wpAny_call ?_
  k_dflt (refine' code_S ?k1 ?k2 ?k3 ?k4 ?k5 ?kA ?kF ?kK ?k6 ?k7 ?k8 ?k9 ?kB ?_ ?c2 ?c3 ?c4 ?c5; (case kA => exact rfl); (case kF => exact rfl); (case kK => assumption); (case k1 => k_asm); (case k2 => k_asm); (case k3 => k_asm); (case k4 => k_asm); (case k5 => k_asm); (case k6 => k_is); (case k7 => k_is); (case k8 => ktr_room); (case k9 => first | exact binds_K (by k_in) rfl (by k_is) rfl rfl rfl | exact BindsTo.of_eq rfl); (case kB => exact locs rfl); (case c2 => exact rfl); (case c3 => exact rfl); (case c4 => exact rfl); (case c5 => decide); k_whole; intro g' L' h' FG' F' N' B' X' T' D'; (try dsimp only); (try k_lift B'); (try k_fold))
  k_steps
  all_goals exact hret _ _ _ (by k_asm) (cb_drop (by k_asm) (by kcj_all))

set_option maxRecDepth 100000 in
set_option maxHeartbeats 8000000 in
theorem made_code_list (w : World) (news : Led) (x : PySem.Str) (t t1 : Tok) (l : Addr) (its : Array Value) (n : Nat) :
    CallL w 716 [.str (Str.ofString "code") t, .str x t1, .ref l] [] ((l, W.listOf its n) :: news) (fun K => ∀ t, K news (.str (Str.ofString "kind") t)) := by
  unfold CallL
  k_fill
  intro mean mg mb dp un gd cn cs a ccd cl A₀ h₀ L m s Q E B F X N T hk hd hu hret
  refine wpAny_call ?_
  k_dflt (refine' code_S ?k1 ?k2 ?k3 ?k4 ?k5 ?kA ?kF ?kK ?k6 ?k7 ?k8 ?k9 ?kB ?_ ?c2 ?c3 ?c4 ?c5; (case kA => exact rfl); (case kF => exact rfl); (case kK => assumption); (case k1 => k_asm); (case k2 => k_asm); (case k3 => k_asm); (case k4 => k_asm); (case k5 => k_asm); (case k6 => k_is); (case k7 => k_is); (case k8 => ktr_room); (case k9 => first | exact binds_K (by k_in) rfl (by k_is) rfl rfl rfl | exact BindsTo.of_eq rfl); (case kB => exact locs rfl); (case c2 => exact rfl); (case c3 => exact rfl); (case c4 => exact rfl); (case c5 => decide); k_whole; intro g' L' h' FG' F' N' B' X' T' D'; (try dsimp only); (try k_lift B'); (try k_fold))
  k_steps
  all_goals exact hret _ _ _ (by k_asm) (cb_drop (by k_asm) (by kcj_all))
end Mine

end
-- M4
section
local macro_rules | `(tactic| walk_at "pad") => `(tactic| skip)
local macro_rules | `(tactic| walk_at "pad") => `(tactic| skip)
local macro_rules | `(tactic| walk_at "pad") => `(tactic| skip)
local macro_rules | `(tactic| walk_at "pad") => `(tactic| skip)
local macro_rules | `(tactic| walk_at "pad") => `(tactic| skip)
local macro_rules | `(tactic| walk_at "pad") => `(tactic| skip)
local macro_rules | `(tactic| walk_at "pad") => `(tactic| skip)
local macro_rules | `(tactic| walk_at "pad") => `(tactic| skip)
local macro_rules | `(tactic| walk_at "pad") => `(tactic| skip)
local macro_rules | `(tactic| walk_at "pad") => `(tactic| skip)
local macro_rules | `(tactic| walk_at "pad") => `(tactic| skip)
local macro_rules | `(tactic| walk_at "pad") => `(tactic| skip)
theorem Mine.padM4 : (1 : Nat) = 1 := by
  w_top off
  first | (walk1; done) | rfl
end
section
open PySem PySem.W PyProof.Rows
namespace Mine
local macro_rules | `(tactic| walk_at "InitBack error") => `(tactic| (dsimp only [InitBack]))
set_option maxRecDepth 100000 in
set_option maxHeartbeats 8000000 in
theorem made_regex_kind (w : World) (news : Led) (t t1 t2 : Tok) :
    CallL w 716 [.str (Str.ofString "regex") t, .int 5 t1, .int 0 t2] [] news (fun K => ∀ t, K news (.str (Str.ofString "kind") t)) := by
  unfold CallL
  k_fill
  intro mean mg mb dp un gd cn cs a ccd cl A₀ h₀ L m s Q E B F X N T hk hd hu hret
  refine wpAny_call ?_
  k_dflt (refine' code_S ?k1 ?k2 ?k3 ?k4 ?k5 ?kA ?kF ?kK ?k6 ?k7 ?k8 ?k9 ?kB ?_ ?c2 ?c3 ?c4 ?c5; (case kA => exact rfl); (case kF => exact rfl); (case kK => assumption); (case k1 => k_asm); (case k2 => k_asm); (case k3 => k_asm); (case k4 => k_asm); (case k5 => k_asm); (case k6 => k_is); (case k7 => k_is); (case k8 => ktr_room); (case k9 => first | exact binds_K (by k_in) rfl (by k_is) rfl rfl rfl | exact BindsTo.of_eq rfl); (case kB => exact locs rfl); (case c2 => exact rfl); (case c3 => exact rfl); (case c4 => exact rfl); (case c5 => decide); k_whole; intro g' L' h' FG' F' N' B' X' T' D'; (try dsimp only); (try k_lift B'); (try k_fold))
  k_steps
  all_goals exact hret _ _ _ (by k_asm) (cb_drop (by k_asm) (by kcj_all))

set_option maxRecDepth 100000 in
set_option maxHeartbeats 8000000 in
theorem made_regex_none (w : World) (news : Led) (x : PySem.Str) (t t1 : Tok) :
    CallL w 716 [.str (Str.ofString "regex") t, .str x t1, .none] [] news (fun K => ∀ t, K news (.str (Str.ofString "kind") t)) := by
  unfold CallL
  k_fill
  intro mean mg mb dp un gd cn cs a ccd cl A₀ h₀ L m s Q E B F X N T hk hd hu hret
  refine wpAny_call ?_
  k_dflt (refine' code_S ?k1 ?k2 ?k3 ?k4 ?k5 ?kA ?kF ?kK ?k6 ?k7 ?k8 ?k9 ?kB ?_ ?c2 ?c3 ?c4 ?c5; (case kA => exact rfl); (case kF => exact rfl); (case kK => assumption); (case k1 => k_asm); (case k2 => k_asm); (case k3 => k_asm); (case k4 => k_asm); (case k5 => k_asm); (case k6 => k_is); (case k7 => k_is); (case k8 => ktr_room); (case k9 => first | exact binds_K (by k_in) rfl (by k_is) rfl rfl rfl | exact BindsTo.of_eq rfl); (case kB => exact locs rfl); (case c2 => exact rfl); (case c3 => exact rfl); (case c4 => exact rfl); (case c5 => decide); k_whole; intro g' L' h' FG' F' N' B' X' T' D'; (try dsimp only); (try k_lift B'); (try k_fold))
  k_steps
  all_goals exact hret _ _ _ (by k_asm) (cb_drop (by k_asm) (by kcj_all))

set_option maxRecDepth 100000 in
set_option maxHeartbeats 8000000 in
theorem made_ref_int (w : World) (news : Led) (x : PySem.Str) (t t1 t2 : Tok) :
    CallL w 716 [.str (Str.ofString "reference") t, .str x t1, .int 5 t2] [] news (fun K => ∀ t, K news (.str (Str.ofString "kind") t)) := by
  unfold CallL
  k_fill
  intro mean mg mb dp un gd cn cs a ccd cl A₀ h₀ L m s Q E B F X N T hk hd hu hret
  refine wpAny_call ?_
  k_dflt (refine' code_S ?k1 ?k2 ?k3 ?k4 ?k5 ?kA ?kF ?kK ?k6 ?k7 ?k8 ?k9 ?kB ?_ ?c2 ?c3 ?c4 ?c5; (case kA => exact rfl); (case kF => exact rfl); (case kK => assumption); (case k1 => k_asm); (case k2 => k_asm); (case k3 => k_asm); (case k4 => k_asm); (case k5 => k_asm); (case k6 => k_is); (case k7 => k_is); (case k8 => ktr_room); (case k9 => first | exact binds_K (by k_in) rfl (by k_is) rfl rfl rfl | exact BindsTo.of_eq rfl); (case kB => exact locs rfl); (case c2 => exact rfl); (case c3 => exact rfl); (case c4 => exact rfl); (case c5 => decide); k_whole; intro g' L' h' FG' F' N' B' X' T' D'; (try dsimp only); (try k_lift B'); (try k_fold))
  k_steps
  all_goals exact hret _ _ _ (by k_asm) (cb_drop (by k_asm) (by kcj_all))
end Mine

end
-- M5
section
local macro_rules | `(tactic| walk_at "pad") => `(tactic| skip)
local macro_rules | `(tactic| walk_at "pad") => `(tactic| skip)
local macro_rules | `(tactic| walk_at "pad") => `(tactic| skip)
local macro_rules | `(tactic| walk_at "pad") => `(tactic| skip)
local macro_rules | `(tactic| walk_at "pad") => `(tactic| skip)
local macro_rules | `(tactic| walk_at "pad") => `(tactic| skip)
local macro_rules | `(tactic| walk_at "pad") => `(tactic| skip)
local macro_rules | `(tactic| walk_at "pad") => `(tactic| skip)
local macro_rules | `(tactic| walk_at "pad") => `(tactic| skip)
local macro_rules | `(tactic| walk_at "pad") => `(tactic| skip)
local macro_rules | `(tactic| walk_at "pad") => `(tactic| skip)
local macro_rules | `(tactic| walk_at "pad") => `(tactic| skip)
theorem Mine.padM5 : (1 : Nat) = 1 := by
  w_top off
  first | (walk1; done) | rfl
end
section
open PySem PySem.W PyProof.Rows
namespace Mine
local macro_rules | `(tactic| walk_at "InitBack error") => `(tactic| (dsimp only [InitBack]))
set_option maxRecDepth 100000 in
set_option maxHeartbeats 8000000 in
theorem made_regex_row (w : World) (news : Led) (row : Array UInt8) (t t1 t2 : Tok) (k : Int) :
    CallL w 716 [.str (Str.ofString "regex") t, .bytes row t1, .int k t2] [] news (fun K => ∀ a t3 t4, (∀ p ∈ news, p.1 < a) → K ((a, tupO [.bytes row t3, .int k t4]) :: news) (.ref a)) := by
  unfold CallL
  k_fill
  intro mean mg mb dp un gd cn cs a ccd cl A₀ h₀ L m s Q E B F X N T hk hd hu hret
  refine wpAny_call ?_
  k_dflt (refine' code_S ?k1 ?k2 ?k3 ?k4 ?k5 ?kA ?kF ?kK ?k6 ?k7 ?k8 ?k9 ?kB ?_ ?c2 ?c3 ?c4 ?c5; (case kA => exact rfl); (case kF => exact rfl); (case kK => assumption); (case k1 => k_asm); (case k2 => k_asm); (case k3 => k_asm); (case k4 => k_asm); (case k5 => k_asm); (case k6 => k_is); (case k7 => k_is); (case k8 => ktr_room); (case k9 => first | exact binds_K (by k_in) rfl (by k_is) rfl rfl rfl | exact BindsTo.of_eq rfl); (case kB => exact locs rfl); (case c2 => exact rfl); (case c3 => exact rfl); (case c4 => exact rfl); (case c5 => decide); k_whole; intro g' L' h' FG' F' N' B' X' T' D'; (try dsimp only); (try k_lift B'); (try k_fold))
  k_steps
  all_goals exact hret _ _ _ (by first | exact ktn_ltOf (by assumption : _ ∧ _ ∧ AllLt _ news).2.2 | exact ktn_ltOf (by assumption : _ ∧ _ ∧ _ ∧ AllLt _ news).2.2.2 | exact ktn_ltOf (by assumption : _ ∧ _ ∧ _ ∧ _ ∧ AllLt _ news).2.2.2.2 | exact ktn_ltOf (by assumption : _ ∧ AllLt _ news).2 | exact ktn_ltOf (by assumption : _ ∧ _ ∧ _ ∧ _ ∧ _ ∧ AllLt _ news).2.2.2.2.2 | exact ktn_ltOf (by assumption : _ ∧ _ ∧ _ ∧ _ ∧ _ ∧ _ ∧ AllLt _ news).2.2.2.2.2.2 | exact ktn_ltOf (by assumption : _ ∧ _ ∧ _ ∧ _ ∧ _ ∧ _ ∧ _ ∧ AllLt _ news).2.2.2.2.2.2.2) _ _ (by k_asm) (cb_drop (by k_asm) (by kcj_all))

set_option maxRecDepth 100000 in
set_option maxHeartbeats 8000000 in
theorem made_ref_none (w : World) (news : Led) (x : PySem.Str) (t t1 : Tok) :
    CallL w 716 [.str (Str.ofString "reference") t, .str x t1, .none] [] news (fun K => ∀ a t3 t4, (∀ p ∈ news, p.1 < a) → K ((a, tupO [.str x t3, .int 1 t4, .none]) :: news) (.ref a)) := by
  unfold CallL
  k_fill
  intro mean mg mb dp un gd cn cs a ccd cl A₀ h₀ L m s Q E B F X N T hk hd hu hret
  refine wpAny_call ?_
  k_dflt (refine' code_S ?k1 ?k2 ?k3 ?k4 ?k5 ?kA ?kF ?kK ?k6 ?k7 ?k8 ?k9 ?kB ?_ ?c2 ?c3 ?c4 ?c5; (case kA => exact rfl); (case kF => exact rfl); (case kK => assumption); (case k1 => k_asm); (case k2 => k_asm); (case k3 => k_asm); (case k4 => k_asm); (case k5 => k_asm); (case k6 => k_is); (case k7 => k_is); (case k8 => ktr_room); (case k9 => first | exact binds_K (by k_in) rfl (by k_is) rfl rfl rfl | exact BindsTo.of_eq rfl); (case kB => exact locs rfl); (case c2 => exact rfl); (case c3 => exact rfl); (case c4 => exact rfl); (case c5 => decide); k_whole; intro g' L' h' FG' F' N' B' X' T' D'; (try dsimp only); (try k_lift B'); (try k_fold))
  k_steps
  all_goals exact hret _ _ _ (by first | exact ktn_ltOf (by assumption : _ ∧ _ ∧ AllLt _ news).2.2 | exact ktn_ltOf (by assumption : _ ∧ _ ∧ _ ∧ AllLt _ news).2.2.2 | exact ktn_ltOf (by assumption : _ ∧ _ ∧ _ ∧ _ ∧ AllLt _ news).2.2.2.2 | exact ktn_ltOf (by assumption : _ ∧ AllLt _ news).2 | exact ktn_ltOf (by assumption : _ ∧ _ ∧ _ ∧ _ ∧ _ ∧ AllLt _ news).2.2.2.2.2 | exact ktn_ltOf (by assumption : _ ∧ _ ∧ _ ∧ _ ∧ _ ∧ _ ∧ AllLt _ news).2.2.2.2.2.2 | exact ktn_ltOf (by assumption : _ ∧ _ ∧ _ ∧ _ ∧ _ ∧ _ ∧ _ ∧ AllLt _ news).2.2.2.2.2.2.2) _ _ (by k_asm) (cb_drop (by k_asm) (by kcj_all))

set_option maxRecDepth 100000 in
set_option maxHeartbeats 8000000 in
theorem made_ref_str (w : World) (news : Led) (x y : PySem.Str) (t t1 t2 : Tok) :
    CallL w 716 [.str (Str.ofString "reference") t, .str x t1, .str y t2] [] news (fun K => ∀ a t3 t4 t5, (∀ p ∈ news, p.1 < a) → K ((a, tupO [.str x t3, .int 1 t4, .str y t5]) :: news) (.ref a)) := by
  unfold CallL
  k_fill
  intro mean mg mb dp un gd cn cs a ccd cl A₀ h₀ L m s Q E B F X N T hk hd hu hret
  refine wpAny_call ?_
  k_dflt (refine' code_S ?k1 ?k2 ?k3 ?k4 ?k5 ?kA ?kF ?kK ?k6 ?k7 ?k8 ?k9 ?kB ?_ ?c2 ?c3 ?c4 ?c5; (case kA => exact rfl); (case kF => exact rfl); (case kK => assumption); (case k1 => k_asm); (case k2 => k_asm); (case k3 => k_asm); (case k4 => k_asm); (case k5 => k_asm); (case k6 => k_is); (case k7 => k_is); (case k8 => ktr_room); (case k9 => first | exact binds_K (by k_in) rfl (by k_is) rfl rfl rfl | exact BindsTo.of_eq rfl); (case kB => exact locs rfl); (case c2 => exact rfl); (case c3 => exact rfl); (case c4 => exact rfl); (case c5 => decide); k_whole; intro g' L' h' FG' F' N' B' X' T' D'; (try dsimp only); (try k_lift B'); (try k_fold))
  k_steps
  all_goals exact hret _ _ _ _ (by first | exact ktn_ltOf (by assumption : _ ∧ _ ∧ AllLt _ news).2.2 | exact ktn_ltOf (by assumption : _ ∧ _ ∧ _ ∧ AllLt _ news).2.2.2 | exact ktn_ltOf (by assumption : _ ∧ _ ∧ _ ∧ _ ∧ AllLt _ news).2.2.2.2 | exact ktn_ltOf (by assumption : _ ∧ AllLt _ news).2 | exact ktn_ltOf (by assumption : _ ∧ _ ∧ _ ∧ _ ∧ _ ∧ AllLt _ news).2.2.2.2.2 | exact ktn_ltOf (by assumption : _ ∧ _ ∧ _ ∧ _ ∧ _ ∧ _ ∧ AllLt _ news).2.2.2.2.2.2 | exact ktn_ltOf (by assumption : _ ∧ _ ∧ _ ∧ _ ∧ _ ∧ _ ∧ _ ∧ AllLt _ news).2.2.2.2.2.2.2) _ _ (by k_asm) (cb_drop (by k_asm) (by kcj_all))
end Mine

end
-- M6
section
local macro_rules | `(tactic| walk_at "pad") => `(tactic| skip)
local macro_rules | `(tactic| walk_at "pad") => `(tactic| skip)
local macro_rules | `(tactic| walk_at "pad") => `(tactic| skip)
local macro_rules | `(tactic| walk_at "pad") => `(tactic| skip)
local macro_rules | `(tactic| walk_at "pad") => `(tactic| skip)
local macro_rules | `(tactic| walk_at "pad") => `(tactic| skip)
local macro_rules | `(tactic| walk_at "pad") => `(tactic| skip)
local macro_rules | `(tactic| walk_at "pad") => `(tactic| skip)
local macro_rules | `(tactic| walk_at "pad") => `(tactic| skip)
local macro_rules | `(tactic| walk_at "pad") => `(tactic| skip)
local macro_rules | `(tactic| walk_at "pad") => `(tactic| skip)
local macro_rules | `(tactic| walk_at "pad") => `(tactic| skip)
theorem Mine.padM6 : (1 : Nat) = 1 := by
  w_top off
  first | (walk1; done) | rfl
end
section
open PySem PySem.W PyProof.Rows
namespace Mine
local macro_rules | `(tactic| walk_at "InitBack error") => `(tactic| (dsimp only [InitBack]))
set_option maxRecDepth 100000 in
set_option maxHeartbeats 8000000 in
theorem made_ref_kind_s (w : World) (news : Led) (y : PySem.Str) (t t1 t2 : Tok) :
    CallL w 716 [.str (Str.ofString "reference") t, .int 5 t1, .str y t2] [] news (fun K => ∀ t, K news (.str (Str.ofString "kind") t)) := by
  unfold CallL
  k_fill
  intro mean mg mb dp un gd cn cs a ccd cl A₀ h₀ L m s Q E B F X N T hk hd hu hret
  refine wpAny_call ?_
  k_dflt (refine' code_S ?k1 ?k2 ?k3 ?k4 ?k5 ?kA ?kF ?kK ?k6 ?k7 ?k8 ?k9 ?kB ?_ ?c2 ?c3 ?c4 ?c5; (case kA => exact rfl); (case kF => exact rfl); (case kK => assumption); (case k1 => k_asm); (case k2 => k_asm); (case k3 => k_asm); (case k4 => k_asm); (case k5 => k_asm); (case k6 => k_is); (case k7 => k_is); (case k8 => ktr_room); (case k9 => first | exact binds_K (by k_in) rfl (by k_is) rfl rfl rfl | exact BindsTo.of_eq rfl); (case kB => exact locs rfl); (case c2 => exact rfl); (case c3 => exact rfl); (case c4 => exact rfl); (case c5 => decide); k_whole; intro g' L' h' FG' F' N' B' X' T' D'; (try dsimp only); (try k_lift B'); (try k_fold))
  k_steps
  all_goals exact hret _ _ _ (by k_asm) (cb_drop (by k_asm) (by kcj_all))

set_option maxRecDepth 100000 in
set_option maxHeartbeats 8000000 in
theorem made_ref_kind_n (w : World) (news : Led) (t t1 : Tok) :
    CallL w 716 [.str (Str.ofString "reference") t, .int 5 t1, .none] [] news (fun K => ∀ t, K news (.str (Str.ofString "kind") t)) := by
  unfold CallL
  k_fill
  intro mean mg mb dp un gd cn cs a ccd cl A₀ h₀ L m s Q E B F X N T hk hd hu hret
  refine wpAny_call ?_
  k_dflt (refine' code_S ?k1 ?k2 ?k3 ?k4 ?k5 ?kA ?kF ?kK ?k6 ?k7 ?k8 ?k9 ?kB ?_ ?c2 ?c3 ?c4 ?c5; (case kA => exact rfl); (case kF => exact rfl); (case kK => assumption); (case k1 => k_asm); (case k2 => k_asm); (case k3 => k_asm); (case k4 => k_asm); (case k5 => k_asm); (case k6 => k_is); (case k7 => k_is); (case k8 => ktr_room); (case k9 => first | exact binds_K (by k_in) rfl (by k_is) rfl rfl rfl | exact BindsTo.of_eq rfl); (case kB => exact locs rfl); (case c2 => exact rfl); (case c3 => exact rfl); (case c4 => exact rfl); (case c5 => decide); k_whole; intro g' L' h' FG' F' N' B' X' T' D'; (try dsimp only); (try k_lift B'); (try k_fold))
  k_steps
  all_goals exact hret _ _ _ (by k_asm) (cb_drop (by k_asm) (by kcj_all))

set_option maxRecDepth 100000 in
set_option maxHeartbeats 8000000 in
theorem made_ref_kind_ns (w : World) (news : Led) (y : PySem.Str) (t t2 : Tok) :
    CallL w 716 [.str (Str.ofString "reference") t, .none, .str y t2] [] news (fun K => ∀ t, K news (.str (Str.ofString "kind") t)) := by
  unfold CallL
  k_fill
  intro mean mg mb dp un gd cn cs a ccd cl A₀ h₀ L m s Q E B F X N T hk hd hu hret
  refine wpAny_call ?_
  k_dflt (refine' code_S ?k1 ?k2 ?k3 ?k4 ?k5 ?kA ?kF ?kK ?k6 ?k7 ?k8 ?k9 ?kB ?_ ?c2 ?c3 ?c4 ?c5; (case kA => exact rfl); (case kF => exact rfl); (case kK => assumption); (case k1 => k_asm); (case k2 => k_asm); (case k3 => k_asm); (case k4 => k_asm); (case k5 => k_asm); (case k6 => k_is); (case k7 => k_is); (case k8 => ktr_room); (case k9 => first | exact binds_K (by k_in) rfl (by k_is) rfl rfl rfl | exact BindsTo.of_eq rfl); (case kB => exact locs rfl); (case c2 => exact rfl); (case c3 => exact rfl); (case c4 => exact rfl); (case c5 => decide); k_whole; intro g' L' h' FG' F' N' B' X' T' D'; (try dsimp only); (try k_lift B'); (try k_fold))
  k_steps
  all_goals exact hret _ _ _ (by k_asm) (cb_drop (by k_asm) (by kcj_all))

set_option maxRecDepth 100000 in
set_option maxHeartbeats 8000000 in
theorem made_ref_kind_nn (w : World) (news : Led) (t : Tok) :
    CallL w 716 [.str (Str.ofString "reference") t, .none, .none] [] news (fun K => ∀ t, K news (.str (Str.ofString "kind") t)) := by
  unfold CallL
  k_fill
  intro mean mg mb dp un gd cn cs a ccd cl A₀ h₀ L m s Q E B F X N T hk hd hu hret
  refine wpAny_call ?_
  k_dflt (refine' code_S ?k1 ?k2 ?k3 ?k4 ?k5 ?kA ?kF ?kK ?k6 ?k7 ?k8 ?k9 ?kB ?_ ?c2 ?c3 ?c4 ?c5; (case kA => exact rfl); (case kF => exact rfl); (case kK => assumption); (case k1 => k_asm); (case k2 => k_asm); (case k3 => k_asm); (case k4 => k_asm); (case k5 => k_asm); (case k6 => k_is); (case k7 => k_is); (case k8 => ktr_room); (case k9 => first | exact binds_K (by k_in) rfl (by k_is) rfl rfl rfl | exact BindsTo.of_eq rfl); (case kB => exact locs rfl); (case c2 => exact rfl); (case c3 => exact rfl); (case c4 => exact rfl); (case c5 => decide); k_whole; intro g' L' h' FG' F' N' B' X' T' D'; (try dsimp only); (try k_lift B'); (try k_fold))
  k_steps
  all_goals exact hret _ _ _ (by k_asm) (cb_drop (by k_asm) (by kcj_all))
end Mine

end
-- M8
section
local macro_rules | `(tactic| walk_at "pad") => `(tactic| skip)
local macro_rules | `(tactic| walk_at "pad") => `(tactic| skip)
local macro_rules | `(tactic| walk_at "pad") => `(tactic| skip)
local macro_rules | `(tactic| walk_at "pad") => `(tactic| skip)
local macro_rules | `(tactic| walk_at "pad") => `(tactic| skip)
local macro_rules | `(tactic| walk_at "pad") => `(tactic| skip)
local macro_rules | `(tactic| walk_at "pad") => `(tactic| skip)
local macro_rules | `(tactic| walk_at "pad") => `(tactic| skip)
local macro_rules | `(tactic| walk_at "pad") => `(tactic| skip)
local macro_rules | `(tactic| walk_at "pad") => `(tactic| skip)
local macro_rules | `(tactic| walk_at "pad") => `(tactic| skip)
local macro_rules | `(tactic| walk_at "pad") => `(tactic| skip)
theorem Mine.padM8 : (1 : Nat) = 1 := by
  w_top off
  first | (walk1; done) | rfl
end
section
open PySem PySem.W PyProof.Rows
namespace Mine
local macro_rules | `(tactic| walk_at "InitBack error") => `(tactic| (dsimp only [InitBack]))
local macro_rules | `(tactic| walk_at "compareOp NotIn int ref") => `(tactic| (k_here; k_dflt (refine' notin_tuple_ints (ns := [0, 4, 3, 5, 6]) (tupK (K := hd.heap_39 _) ?X ?l) ?i ?_; (case X => k_in); (case l => k_is); (case i => first | l_ints | exact .cons _ _ (.cons _ _ (.cons _ _ (.cons _ _ (.cons _ _ .nil)))) | with_unfolding_all (repeat constructor)))))
set_option maxRecDepth 100000 in
set_option maxHeartbeats 8000000 in
theorem made_options (w : World) (news : Led) (k : Int) (t t1 t2 : Tok) :
    CallL w 716 [.str (Str.ofString "options") t, .int k t1, .int 0 t2] [] news (fun K => (([0, 4, 3, 5, 6].any fun x => x == k) = true → ∀ t, K news (.int k t)) ∧ (([0, 4, 3, 5, 6].any fun x => x == k) = false → ∀ t, K news (.str (Str.ofString "value") t))) := by
  unfold CallL
  k_fill
  intro mean mg mb dp un gd cn cs a ccd cl A₀ h₀ L m s Q E B F X N T hk hd hu hret
  refine wpAny_call ?_
  k_dflt (refine' code_S ?k1 ?k2 ?k3 ?k4 ?k5 ?kA ?kF ?kK ?k6 ?k7 ?k8 ?k9 ?kB ?_ ?c2 ?c3 ?c4 ?c5; (case kA => exact rfl); (case kF => exact rfl); (case kK => assumption); (case k1 => k_asm); (case k2 => k_asm); (case k3 => k_asm); (case k4 => k_asm); (case k5 => k_asm); (case k6 => k_is); (case k7 => k_is); (case k8 => ktr_room); (case k9 => first | exact binds_K (by k_in) rfl (by k_is) rfl rfl rfl | exact BindsTo.of_eq rfl); (case kB => exact locs rfl); (case c2 => exact rfl); (case c3 => exact rfl); (case c4 => exact rfl); (case c5 => decide); k_whole; intro g' L' h' FG' F' N' B' X' T' D'; (try dsimp only); (try k_lift B'); (try k_fold))
  k_steps
  · exact hret.1 (by assumption) _ _ _ (by k_asm) (cb_drop (by k_asm) (by kcj_all))
  · exact hret.2 (by assumption) _ _ _ (by k_asm) (cb_drop (by k_asm) (by kcj_all))
theorem made_options_in (w : World) (news : Led) (k : Int) (t t1 t2 : Tok) (h : ([0, 4, 3, 5, 6].any fun x => x == k) = true) :
    CallL w 716 [.str (Str.ofString "options") t, .int k t1, .int 0 t2] [] news (fun K => ∀ t, K news (.int k t)) := by
  intro mean mg mb dp un gd cn cs a ccd cl A₀ h₀ L m s Q E B F X N T hk hd hu hret
  exact made_options w news k t t1 t2 mean mg mb dp un gd cn cs a ccd cl A₀ h₀ L m s Q E B F X N T hk hd hu ⟨fun _ => hret, fun e => (by rw [h] at e; cases e)⟩
theorem made_options_out (w : World) (news : Led) (k : Int) (t t1 t2 : Tok) (h : ([0, 4, 3, 5, 6].any fun x => x == k) = false) :
    CallL w 716 [.str (Str.ofString "options") t, .int k t1, .int 0 t2] [] news (fun K => ∀ t, K news (.str (Str.ofString "value") t)) := by
  intro mean mg mb dp un gd cn cs a ccd cl A₀ h₀ L m s Q E B F X N T hk hd hu hret
  exact made_options w news k t t1 t2 mean mg mb dp un gd cn cs a ccd cl A₀ h₀ L m s Q E B F X N T hk hd hu ⟨fun e => (by rw [h] at e; cases e), fun _ => hret⟩
end Mine

end
-- Q2
section
open PySem PySem.Calls PySem.W PyProof.Rows PyProof.V PySem.Spec PySem.SeqAt
namespace Mine
section
variable {prog : Program} {w : World} {A : Around} {s : Shared} {a b : Addr} {xs ys : List Value} {r : Bool} {h₀ : Heap} {L : Addr} {news : List (Addr × Obj)} {oa ob : Obj} {ka kb : Nat} {f g : List PySem.Str} {E Q : Value → Shared → Prop}
theorem eqW_tups (hne : a ≠ b) (N : News h₀ L s.heap news) (ma : (a, oa) ∈ news) (ca : oa.cls = .type "tuple") (da : oa.data = .seq xs.toArray ka) (mb : (b, ob) ∈ news) (cb : ob.cls = .type "tuple") (db : ob.data = .seq ys.toArray kb) (hu : A.units < cLine) (he : EqAll prog w A.in1 s xs ys r) : EqW prog w A s (.ref a) (.ref b) r :=
  EqW.refs hne fun _ _ hq => eq_tups N ma ca da mb cb db hu he hq
theorem eqW_lists (hne : a ≠ b) (N : News h₀ L s.heap news) (ma : (a, oa) ∈ news) (ca : oa.cls = .type "list") (da : oa.data = .seq xs.toArray ka) (mb : (b, ob) ∈ news) (cb : ob.cls = .type "list") (db : ob.data = .seq ys.toArray kb) (hu : A.units < cLine) (he : EqAll prog w A.in1 s xs ys r) : EqW prog w A s (.ref a) (.ref b) r :=
  EqW.refs hne fun _ _ hq => eq_lists N ma ca da mb cb db hu he hq
theorem ne_lists_t (N : News h₀ L s.heap news) (ma : (a, oa) ∈ news) (ca : oa.cls = .type "list") (da : oa.data = .seq xs.toArray ka) (mb : (b, ob) ∈ news) (cb : ob.cls = .type "list") (db : ob.data = .seq ys.toArray kb) (hu : A.units < cLine) (he : EqAll prog w A.in1 s xs ys r) (hr : r = true) {Q : Value → Shared → Prop} (h : Q (.bool false) s) :
    wpAny (model prog w) A (richCompare .NotEq (.ref a) (.ref b)) Q E s := ne_lists N ma ca da mb cb db hu he (by rw [hr]; exact h)
theorem snoc_ne (b : Array UInt8) (x : UInt8) : (b.toList == (b ++ [x].toArray).toList) = false := by
  rw [beq_eq_false_iff_ne]
  intro h
  have := congrArg List.length h
  simp at this
theorem str_snoc (x : PySem.Str) (c : String) (h : 0 < (PySem.Str.ofString c).length) : (x == x ++ PySem.Str.ofString c) = false := by
  rw [beq_eq_false_iff_ne]
  intro e
  have := congrArg PySem.Str.length e
  rw [PySem.Str.length_append] at this
  omega
theorem str_snoc' (x : PySem.Str) (c : String) (h : 0 < (PySem.Str.ofString c).length) : (x ++ PySem.Str.ofString c == x) = false := by
  rw [beq_eq_false_iff_ne]
  intro e
  have := congrArg PySem.Str.length e
  rw [PySem.Str.length_append] at this
  omega
theorem str_x (x : PySem.Str) : (x == x ++ PySem.Str.ofString "x") = false := str_snoc x "x" (by decide +kernel)
theorem str_x' (x : PySem.Str) : (x ++ PySem.Str.ofString "x" == x) = false := str_snoc' x "x" (by decide +kernel)
theorem str_y (x : PySem.Str) : (x == x ++ PySem.Str.ofString "y") = false := str_snoc x "y" (by decide +kernel)
theorem str_y' (x : PySem.Str) : (x ++ PySem.Str.ofString "y" == x) = false := str_snoc' x "y" (by decide +kernel)
theorem int_succ (n : Int) : (n == n + 1) = false := by
  rw [beq_eq_false_iff_ne]; omega
end
section
variable {prog : Program} {w : World} {A : Around} {s : Shared} {a : Addr} {h₀ : Heap} {L : Addr} {news : List (Addr × Obj)} {o : Obj} {kvs : List (PySem.Str × Value)}
theorem eqW_none_dict (N : News h₀ L s.heap news) (ma : (a, o) ∈ news) (hd : o.IsDictOf (PySem.strKind prog w) kvs) (hu : A.units < cLine) : EqW prog w A s .none (.ref a) false :=
  EqW.of (eqAt_none_dict (Heap.DictOf.typeIs (knd := PySem.strKind prog w) (Heap.dictOf_iff.mpr ⟨o, N.get ma, hd⟩)) hu)
theorem eqW_dict_none (N : News h₀ L s.heap news) (ma : (a, o) ∈ news) (hd : o.IsDictOf (PySem.strKind prog w) kvs) (hu : A.units < cLine) : EqW prog w A s (.ref a) .none false :=
  EqW.of (eqAt_dict_none (Heap.DictOf.typeIs (knd := PySem.strKind prog w) (Heap.dictOf_iff.mpr ⟨o, N.get ma, hd⟩)) hu)
end
theorem fp_nil {kvs : List (PySem.Str × Value)} (h : FlatPairs PyData.str kvs []) : FlatPairs PyData.str kvs (kdpD []) := h
theorem fp_disp {kvs : List (PySem.Str × Value)} {k : PySem.Str} {v : Int} {t u : Tok} (h : FlatPairs PyData.str kvs (strData [(Value.str k t, Value.int v u)])) : FlatPairs PyData.str kvs (kdpD [(k, v)]) := h
theorem fp_kw {kvs : List (PySem.Str × Value)} {k : PySem.Str} {v : Int} (h : FlatPairs PyData.str kvs [(PyData.str k, PyData.int v)]) : FlatPairs PyData.str kvs (kdpD [(k, v)]) := h
/-- a value that is None or a text -/
def baseV (ob : Option PySem.Str) (t : Tok) : Value := match ob with | none => .none | some y => .str y t
section
variable {prog : Program} {w : World} {A : Around} {s : Shared}
theorem eqW_base (ob : Option PySem.Str) (t u : Tok) : EqW prog w A s (baseV ob t) (baseV ob u) true := by
  cases ob with
  | none => exact EqW.of (EqAt.same Value.none)
  | some y =>
    have h : EqW prog w A s (.str y t) (.str y u) (y == y) := EqW.of (EqAt.str_str _ _ _ _)
    rw [beq_self_eq_true] at h
    exact h
theorem eqW_base_str (ob : Option PySem.Str) (y : PySem.Str) (t u : Tok) : EqW prog w A s (baseV ob t) (.str y u) (ob == some y) := by
  cases ob with
  | none => exact EqW.of (EqAt.none_str _ _)
  | some z => exact EqW.of (EqAt.str_str _ _ _ _)
theorem base_y {ob : Option PySem.Str} {x : PySem.Str} (h : ob = none ∨ ob = some x) : (ob == some (x ++ PySem.Str.ofString "y")) = false := by
  rcases h with rfl | rfl
  · rfl
  · exact str_y x
end
end Mine

end
local macro_rules | `(tactic| ked_reads) => `(tactic| (repeat' (first
  | with_reducible exact Mine.EqAll.nil
  | with_reducible refine' Mine.EqAll.cons ?_ ?_
  | with_reducible exact Mine.EqW.of (EqAt.str_str _ _ _ _)
  | with_reducible exact Mine.eqW_base _ _ _
  | with_reducible exact Mine.eqW_base_str _ _ _ _
  | with_reducible exact Mine.EqW.of (EqAt.int_int _ _ _ _)
  | with_reducible exact Mine.EqW.of (EqAt.bool_bool _ _)
  | with_reducible exact Mine.EqW.of (EqAt.same Value.none)
  | with_reducible exact Mine.eqW_bytes _ _ _ _
  | with_reducible exact Mine.EqW.of (EqAt.none_str _ _)
  | with_reducible exact Mine.EqW.of (EqAt.str_none _ _)
  | k_dflt (refine' Mine.eqW_none_dict (prog := PySem.Challenge.rw_jh0019_01.row.prog) ?N ?ma ?hd ?u; (case N => k_asm); (case ma => k_mem); (case hd => assumption); (case u => k_units))
  | k_dflt (refine' Mine.eqW_dict_none (prog := PySem.Challenge.rw_jh0019_01.row.prog) ?N ?ma ?hd ?u; (case N => k_asm); (case ma => k_mem); (case hd => assumption); (case u => k_units))
  | k_dflt (refine' Mine.eqW_dicts ?ne ?ta ?tb ?u; (case ne => k_ne); (case ta => first | k_tabat | (refine' TabAt.ofNews ?N9 ?m9 ?lo9 ?hd9 ?hf9; (case N9 => k_asm); (case m9 => k_mem); (case lo9 => assumption); (case hd9 => assumption); (case hf9 => first | with_reducible assumption | exact Mine.fp_nil (by with_reducible assumption) | exact Mine.fp_disp (by with_reducible assumption) | exact Mine.fp_kw (by with_reducible assumption) | assumption))); (case tb => first | k_tabat | (refine' TabAt.ofNews ?N9 ?m9 ?lo9 ?hd9 ?hf9; (case N9 => k_asm); (case m9 => k_mem); (case lo9 => assumption); (case hd9 => assumption); (case hf9 => first | with_reducible assumption | exact Mine.fp_nil (by with_reducible assumption) | exact Mine.fp_disp (by with_reducible assumption) | exact Mine.fp_kw (by with_reducible assumption) | assumption))); (case u => k_units))
  | k_dflt (refine' Mine.eqW_tups ?ne ?N ?ma ?ca ?da ?mb ?cb ?db ?u ?e; (case ne => k_ne); (case N => k_asm); (case ma => k_mem); (case ca => exact rfl); (case da => exact rfl); (case mb => k_mem); (case cb => exact rfl); (case db => exact rfl); (case u => k_units); (case e => ked_reads))
  | k_dflt (refine' Mine.eqW_lists ?ne ?N ?ma ?ca ?da ?mb ?cb ?db ?u ?e; (case ne => k_ne); (case N => k_asm); (case ma => k_mem); (case ca => exact rfl); (case da => exact rfl); (case mb => k_mem); (case cb => exact rfl); (case db => exact rfl); (case u => k_units); (case e => first | exact Mine.EqAll.strs (by assumption) (by assumption) rfl | ked_reads))
  | fail "an item's kind")))
local macro_rules | `(tactic| walk_at "compareOp NotEq ref ref") => `(tactic| (k_here; (with_reducible show wpAny _ _ (compareOp CmpOp.NotEq (Value.ref _) (Value.ref _)) _ _ _); (refine cmp_ofNotEq ?_); k_dflt (first
  | (refine' Mine.ne_tups ?N ?ma ?ca ?da ?mb ?cb ?db ?u ?e ?_; (case N => k_asm); (case ma => k_mem); (case ca => exact rfl); (case da => exact rfl); (case mb => k_mem); (case cb => exact rfl); (case db => exact rfl); (case u => k_units); (case e => ked_reads); k_whole)
  | (refine' Mine.ne_lists_t ?N ?ma ?ca ?da ?mb ?cb ?db ?u ?e ?r ?_; (case N => k_asm); (case ma => k_mem); (case ca => exact rfl); (case da => exact rfl); (case mb => k_mem); (case cb => exact rfl); (case db => exact rfl); (case u => k_units); (case e => first | exact Mine.EqAll.strs (by assumption) (by assumption) rfl | ked_reads); (case r => first | rfl | (simp only [beq_self_eq_true, Bool.true_and, Bool.and_true]; assumption) | (simp [Mine.snoc_ne, Mine.int_succ, Mine.str_x, Mine.str_x']; done) | ((have hq9 := (by assumption : Mine.dEq _ _ = true)); simp [hq9, Mine.snoc_ne, Mine.int_succ, Mine.str_x, Mine.str_x', Mine.str_y, Mine.str_y']; done) | (simp [Mine.snoc_ne, Mine.int_succ, Mine.dEq, Mine.dRows]; done)); k_whole)
  | (refine' Mine.ne_lists ?N ?ma ?ca ?da ?mb ?cb ?db ?u ?e ?_; (case N => k_asm); (case ma => k_mem); (case ca => exact rfl); (case da => exact rfl); (case mb => k_mem); (case cb => exact rfl); (case db => exact rfl); (case u => k_units); (case e => first | exact Mine.EqAll.strs (by assumption) (by assumption) rfl | ked_reads); k_whole)
  | (refine' Mine.nc_dicts ?ta ?tb ?u ?_; (case ta => first | k_tabat | (refine' TabAt.ofNews ?N9 ?m9 ?lo9 ?hd9 ?hf9; (case N9 => k_asm); (case m9 => k_mem); (case lo9 => assumption); (case hd9 => assumption); (case hf9 => first | with_reducible assumption | exact Mine.fp_nil (by with_reducible assumption) | exact Mine.fp_disp (by with_reducible assumption) | exact Mine.fp_kw (by with_reducible assumption) | assumption))); (case tb => first | k_tabat | (refine' TabAt.ofNews ?N9 ?m9 ?lo9 ?hd9 ?hf9; (case N9 => k_asm); (case m9 => k_mem); (case lo9 => assumption); (case hd9 => assumption); (case hf9 => first | with_reducible assumption | exact Mine.fp_nil (by with_reducible assumption) | exact Mine.fp_disp (by with_reducible assumption) | exact Mine.fp_kw (by with_reducible assumption) | assumption))); (case u => k_units); k_whole)); (try simp only [beq_self_eq_true, Bool.and_true, Bool.true_and, Bool.not_true, Bool.not_false])))
local macro_rules | `(tactic| walk_at "compareOp Eq ref ref") => `(tactic| (k_here; (with_reducible show wpAny _ _ (compareOp CmpOp.Eq (Value.ref _) (Value.ref _)) _ _ _); (refine cmp_ofEq ?_); k_dflt (first
  | (refine' Mine.eq_tups ?N ?ma ?ca ?da ?mb ?cb ?db ?u ?e ?_; (case N => k_asm); (case ma => k_mem); (case ca => exact rfl); (case da => exact rfl); (case mb => k_mem); (case cb => exact rfl); (case db => exact rfl); (case u => k_units); (case e => ked_reads); k_whole)
  | (refine' Mine.eq_lists ?N ?ma ?ca ?da ?mb ?cb ?db ?u ?e ?_; (case N => k_asm); (case ma => k_mem); (case ca => exact rfl); (case da => exact rfl); (case mb => k_mem); (case cb => exact rfl); (case db => exact rfl); (case u => k_units); (case e => ked_reads); k_whole)
  | (refine' Mine.rc_dicts ?ta ?tb ?u ?_; (case ta => first | k_tabat | (refine' TabAt.ofNews ?N9 ?m9 ?lo9 ?hd9 ?hf9; (case N9 => k_asm); (case m9 => k_mem); (case lo9 => assumption); (case hd9 => assumption); (case hf9 => first | with_reducible assumption | exact Mine.fp_nil (by with_reducible assumption) | exact Mine.fp_disp (by with_reducible assumption) | exact Mine.fp_kw (by with_reducible assumption) | assumption))); (case tb => first | k_tabat | (refine' TabAt.ofNews ?N9 ?m9 ?lo9 ?hd9 ?hf9; (case N9 => k_asm); (case m9 => k_mem); (case lo9 => assumption); (case hd9 => assumption); (case hf9 => first | with_reducible assumption | exact Mine.fp_nil (by with_reducible assumption) | exact Mine.fp_disp (by with_reducible assumption) | exact Mine.fp_kw (by with_reducible assumption) | assumption))); (case u => k_units); k_whole)); (try simp only [beq_self_eq_true, Bool.and_true, Bool.true_and, Bool.not_true, Bool.not_false])))
local macro_rules | `(tactic| k_units) => `(tactic| with_unfolding_all exact Nat.le_of_ble_eq_true rfl)

-- M2
section
local macro_rules | `(tactic| walk_at "pad") => `(tactic| skip)
local macro_rules | `(tactic| walk_at "pad") => `(tactic| skip)
local macro_rules | `(tactic| walk_at "pad") => `(tactic| skip)
local macro_rules | `(tactic| walk_at "pad") => `(tactic| skip)
local macro_rules | `(tactic| walk_at "pad") => `(tactic| skip)
local macro_rules | `(tactic| walk_at "pad") => `(tactic| skip)
local macro_rules | `(tactic| walk_at "pad") => `(tactic| skip)
local macro_rules | `(tactic| walk_at "pad") => `(tactic| skip)
local macro_rules | `(tactic| walk_at "pad") => `(tactic| skip)
local macro_rules | `(tactic| walk_at "pad") => `(tactic| skip)
local macro_rules | `(tactic| walk_at "pad") => `(tactic| skip)
local macro_rules | `(tactic| walk_at "pad") => `(tactic| skip)
theorem Mine.padM2 : (1 : Nat) = 1 := by
  w_top off
  first | (walk1; done) | rfl
end
section
open PySem PySem.W PyProof.Rows
namespace Mine
local macro_rules | `(tactic| walk_at "InitBack error") => `(tactic| (dsimp only [InitBack]))
local macro_rules | `(tactic| walk_at "call ref") => `(tactic| (k_here; (with_reducible show wpAny _ _ (call (Value.ref _) [Value.int _ _] []) _ _ _); k_dflt (refine' use_C (new_date _ _ _ _ ?g0 ?g1) ?B ?F ?X ?N ?T ?k ?d ?u ?_; (case g0 => assumption); (case g1 => assumption); (case B => k_asm); (case F => k_asm); (case X => k_asm); (case N => k_asm); (case T => k_asm); (case k => first | exact rfl | assumption); (case d => ktr_room); (case u => k_units); k_whole); intro x' d' t1' l1' l2' h' tk' F' N'; (try dsimp only); (try k_lt l1'); (try k_sweep)))

set_option maxRecDepth 100000 in
set_option maxHeartbeats 8000000 in
theorem made_date_over (w : World) (news : Led) (t t1 t2 : Tok) (k j : Int) (h0 : -9223372036854775808 ≤ k) (h1 : ¬ k ≤ 9223372036854775808 - 1) :
    CallL w 716 [.str (Str.ofString "date") t, .int k t1, .int j t2] [] news (fun K => ∀ t, K news (.str (Str.ofString "overflow") t)) := by
  unfold CallL
  k_fill
  intro mean mg mb dp un gd cn cs a ccd cl A₀ h₀ L m s Q E B F X N T hk hd hu hret
  refine wpAny_call ?_
  k_dflt (refine' code_S ?k1 ?k2 ?k3 ?k4 ?k5 ?kA ?kF ?kK ?k6 ?k7 ?k8 ?k9 ?kB ?_ ?c2 ?c3 ?c4 ?c5; (case kA => exact rfl); (case kF => exact rfl); (case kK => assumption); (case k1 => k_asm); (case k2 => k_asm); (case k3 => k_asm); (case k4 => k_asm); (case k5 => k_asm); (case k6 => k_is); (case k7 => k_is); (case k8 => ktr_room); (case k9 => first | exact binds_K (by k_in) rfl (by k_is) rfl rfl rfl | exact BindsTo.of_eq rfl); (case kB => exact locs rfl); (case c2 => exact rfl); (case c3 => exact rfl); (case c4 => exact rfl); (case c5 => decide); k_whole; intro g' L' h' FG' F' N' B' X' T' D'; (try dsimp only); (try k_lift B'); (try k_fold))
  k_steps
  all_goals exact hret _ _ _ (by k_asm) (cb_drop (by k_asm) (by kcj_all))

set_option maxRecDepth 100000 in
set_option maxHeartbeats 8000000 in
theorem made_date_under (w : World) (news : Led) (t t1 t2 : Tok) (k j : Int) (h0 : ¬ -9223372036854775808 ≤ k) :
    CallL w 716 [.str (Str.ofString "date") t, .int k t1, .int j t2] [] news (fun K => ∀ t, K news (.str (Str.ofString "overflow") t)) := by
  unfold CallL
  k_fill
  intro mean mg mb dp un gd cn cs a ccd cl A₀ h₀ L m s Q E B F X N T hk hd hu hret
  refine wpAny_call ?_
  k_dflt (refine' code_S ?k1 ?k2 ?k3 ?k4 ?k5 ?kA ?kF ?kK ?k6 ?k7 ?k8 ?k9 ?kB ?_ ?c2 ?c3 ?c4 ?c5; (case kA => exact rfl); (case kF => exact rfl); (case kK => assumption); (case k1 => k_asm); (case k2 => k_asm); (case k3 => k_asm); (case k4 => k_asm); (case k5 => k_asm); (case k6 => k_is); (case k7 => k_is); (case k8 => ktr_room); (case k9 => first | exact binds_K (by k_in) rfl (by k_is) rfl rfl rfl | exact BindsTo.of_eq rfl); (case kB => exact locs rfl); (case c2 => exact rfl); (case c3 => exact rfl); (case c4 => exact rfl); (case c5 => decide); k_whole; intro g' L' h' FG' F' N' B' X' T' D'; (try dsimp only); (try k_lift B'); (try k_fold))
  k_steps
  all_goals exact hret _ _ _ (by k_asm) (cb_drop (by k_asm) (by kcj_all))

set_option maxRecDepth 100000 in
set_option maxHeartbeats 8000000 in
theorem made_date_kind (w : World) (news : Led) (t t1 t2 : Tok) (j : Int) :
    CallL w 716 [.str (Str.ofString "date") t, .str (Str.ofString "1") t1, .int j t2] [] news (fun K => ∀ t, K news (.str (Str.ofString "kind") t)) := by
  unfold CallL
  k_fill
  intro mean mg mb dp un gd cn cs a ccd cl A₀ h₀ L m s Q E B F X N T hk hd hu hret
  refine wpAny_call ?_
  k_dflt (refine' code_S ?k1 ?k2 ?k3 ?k4 ?k5 ?kA ?kF ?kK ?k6 ?k7 ?k8 ?k9 ?kB ?_ ?c2 ?c3 ?c4 ?c5; (case kA => exact rfl); (case kF => exact rfl); (case kK => assumption); (case k1 => k_asm); (case k2 => k_asm); (case k3 => k_asm); (case k4 => k_asm); (case k5 => k_asm); (case k6 => k_is); (case k7 => k_is); (case k8 => ktr_room); (case k9 => first | exact binds_K (by k_in) rfl (by k_is) rfl rfl rfl | exact BindsTo.of_eq rfl); (case kB => exact locs rfl); (case c2 => exact rfl); (case c3 => exact rfl); (case c4 => exact rfl); (case c5 => decide); k_whole; intro g' L' h' FG' F' N' B' X' T' D'; (try dsimp only); (try k_lift B'); (try k_fold))
  k_steps
  all_goals exact hret _ _ _ (by k_asm) (cb_drop (by k_asm) (by kcj_all))

set_option maxRecDepth 100000 in
set_option maxHeartbeats 8000000 in
theorem made_date_ok (w : World) (news : Led) (t t1 t2 : Tok) (k j : Int) (h0 : -9223372036854775808 ≤ k) (h1 : k ≤ 9223372036854775808 - 1) (h2 : -9223372036854775808 ≤ j) (h3 : j ≤ 9223372036854775808 - 1) (h4 : k ≠ j) :
    CallL w 716 [.str (Str.ofString "date") t, .int k t1, .int j t2] [] news (fun K => K news (.bool true)) := by
  unfold CallL
  k_fill
  intro mean mg mb dp un gd cn cs a ccd cl A₀ h₀ L m s Q E B F X N T hk hd hu hret
  refine wpAny_call ?_
  k_dflt (refine' code_S ?k1 ?k2 ?k3 ?k4 ?k5 ?kA ?kF ?kK ?k6 ?k7 ?k8 ?k9 ?kB ?_ ?c2 ?c3 ?c4 ?c5; (case kA => exact rfl); (case kF => exact rfl); (case kK => assumption); (case k1 => k_asm); (case k2 => k_asm); (case k3 => k_asm); (case k4 => k_asm); (case k5 => k_asm); (case k6 => k_is); (case k7 => k_is); (case k8 => ktr_room); (case k9 => first | exact binds_K (by k_in) rfl (by k_is) rfl rfl rfl | exact BindsTo.of_eq rfl); (case kB => exact locs rfl); (case c2 => exact rfl); (case c3 => exact rfl); (case c4 => exact rfl); (case c5 => decide); k_whole; intro g' L' h' FG' F' N' B' X' T' D'; (try dsimp only); (try k_lift B'); (try k_fold))
  k_steps
  all_goals (rw [show ((k == j) == false && ((k != k) == false && (k != j) == true)) = true from by simp [h4]]; exact hret _ _ (by k_asm) (cb_drop (by k_asm) (by kcj_all)))
end Mine

end
-- M10
section
open PySem PySem.Calls PySem.W PyProof.Rows PyProof.V PySem.Spec
namespace Mine
theorem made_ref_b (w : World) (news : Led) (x : PySem.Str) (ob : Option PySem.Str) (t t1 t2 : Tok) :
    CallL w 716 [.str (Str.ofString "reference") t, .str x t1, baseV ob t2] [] news (fun K => ∀ a t3 t4 t5, (∀ p ∈ news, p.1 < a) → K ((a, tupO [.str x t3, .int 1 t4, baseV ob t5]) :: news) (.ref a)) := by
  cases ob with
  | none =>
    intro mean mg mb dp un gd cn cs a ccd cl A₀ h₀ L m s Q E B F X N T hk hd hu hret
    exact made_ref_none w news x t t1 mean mg mb dp un gd cn cs a ccd cl A₀ h₀ L m s Q E B F X N T hk hd hu (fun a t3 t4 l => hret a t3 t4 0 l)
  | some y => exact made_ref_str w news x y t t1 t2
theorem made_ref_kind_b (w : World) (news : Led) (ob : Option PySem.Str) (t t1 t2 : Tok) :
    CallL w 716 [.str (Str.ofString "reference") t, .int 5 t1, baseV ob t2] [] news (fun K => ∀ t, K news (.str (Str.ofString "kind") t)) := by
  cases ob with
  | none => exact made_ref_kind_n w news t t1
  | some y => exact made_ref_kind_s w news y t t1 t2
theorem made_ref_kind_nb (w : World) (news : Led) (ob : Option PySem.Str) (t t2 : Tok) :
    CallL w 716 [.str (Str.ofString "reference") t, .none, baseV ob t2] [] news (fun K => ∀ t, K news (.str (Str.ofString "kind") t)) := by
  cases ob with
  | none => exact made_ref_kind_nn w news t
  | some y => exact made_ref_kind_ns w news y t t2
end Mine

end
-- LW
section
open PySem PySem.Calls PySem.W PyProof.Rows
namespace Mine
abbrev Map := PySem.Str → Option Value
noncomputable def lawParts : Option (List Stmt × Scope) := match hd.view_39.main.body.getLast? with | some (.FunctionDef _ _ body _ _ _ sc _ _ _) => some (body, sc) | _ => none
noncomputable def lawAt (n : Nat) : Option Stmt := match lawParts with | some p => p.1[n]? | none => none
noncomputable def lawFrom (n : Nat) : List Stmt := match lawParts with | some p => p.1.drop n | none => []
noncomputable def lawScope : Option Scope := match hd.view_39.main.body.getLast? with | some (.FunctionDef _ _ _ _ _ _ sc _ _ _) => some sc | _ => none
abbrev looseN : List PySem.Str := [Str.ofString "Code", Str.ofString "Binary", Str.ofString "DatetimeMS", Str.ofString "DBRef", Str.ofString "InvalidDocument", Str.ofString "Int64", Str.ofString "MaxKey", Str.ofString "MinKey", Str.ofString "ObjectId", Str.ofString "Regex", Str.ofString "Timestamp"]
/-- from its n-th statement on the law gives True, where the names are m and the ledger is news -/
@[irreducible] def LRest (w : World) (n : Nat) (h₀ : Heap) (L : Addr) (m : Map) (news : Led) : Prop :=
  ∀ (sc : Scope), lawScope = some sc → ∀ (mean : ExcName → Option Value) (mg mb : PySem.Str → Option Value) (a : Addr) (cd : Value) (s : Shared) (K : Flow → Shared → Prop),
    Below callerA h₀ [] h₀ → Fr h₀ L s.heap m → (hd.heap_39 w.params).In h₀ → News h₀ L s.heap news → Top hd.view_39 (looseW hd.view_39 [Str.ofString "Code", Str.ofString "Binary", Str.ofString "DatetimeMS", Str.ofString "DBRef", Str.ofString "InvalidDocument", Str.ofString "Int64", Str.ofString "MaxKey", Str.ofString "MinKey", Str.ofString "ObjectId", Str.ofString "Regex", Str.ofString "Timestamp"]) mean mg mb h₀ →
    (∀ h' tk' m', Fr h₀ L h' m' → K (.ret (.bool true)) { s with heap := h', toks := tk' }) →
    wpAny (model PySem.Challenge.rw_jh0019_01.row.prog w) (callerA.deeper (envOfC (Str.ofString "law") sc L a cd)) (execs (lawFrom n) (envOfC (Str.ofString "law") sc L a cd)) K (fun _ _ => False) s
/-- the same, on the real stack -/
@[irreducible] def LRestP (w : World) (n : Nat) (h₀ : Heap) (L : Addr) (m : Map) (news : Led) : Prop :=
  ∀ (sc : Scope), lawScope = some sc → ∀ (mean : ExcName → Option Value) (mg mb : PySem.Str → Option Value) (a : Addr) (cd : Value) (s : Shared) (K : Flow → Shared → Prop),
    Below callerA h₀ [] h₀ → Fr h₀ L s.heap m → (hd.heap_39 w.params).In h₀ → News h₀ L s.heap news → Top hd.view_39 (looseW hd.view_39 [Str.ofString "Code", Str.ofString "Binary", Str.ofString "DatetimeMS", Str.ofString "DBRef", Str.ofString "InvalidDocument", Str.ofString "Int64", Str.ofString "MaxKey", Str.ofString "MinKey", Str.ofString "ObjectId", Str.ofString "Regex", Str.ofString "Timestamp"]) mean mg mb h₀ →
    (∀ h' tk' m', Fr h₀ L h' m' → K (.ret (.bool true)) { s with heap := h', toks := tk' }) →
    wpP (model PySem.Challenge.rw_jh0019_01.row.prog w) (callerA.deeper (envOfC (Str.ofString "law") sc L a cd)) (execs (lawFrom n) (envOfC (Str.ofString "law") sc L a cd)) K (fun _ _ => False) s
theorem LRest.toP {w : World} {n : Nat} {h₀ : Heap} {L : Addr} {m : Map} {news : Led} (h : LRest w n h₀ L m news) : LRestP w n h₀ L m news := by
  unfold LRest at h
  unfold LRestP
  exact fun sc hs mean mg mb a cd s K B F X N T hK => wpP_of (h sc hs mean mg mb a cd s K B F X N T hK)
theorem lawFrom_cons {n : Nat} {st : Stmt} (h : lawAt n = some st) : lawFrom n = st :: lawFrom (n + 1) := by
  unfold lawAt at h
  unfold lawFrom
  generalize lawParts = o at h ⊢
  cases o with
  | none => exact nomatch h
  | some p =>
    dsimp only at h ⊢
    have hlt : n < p.1.length := (List.getElem?_eq_some_iff.mp h).1
    rw [List.drop_eq_getElem_cons hlt]
    rw [List.getElem?_eq_getElem hlt] at h
    rw [Option.some.inj h]
/-- what the walk of one statement must show -/
def LStep (w : World) (n : Nat) (h₀ : Heap) (L : Addr) (m : Map) (news : Led) (st : Stmt) (sc : Scope) : Prop :=
  ∀ (mean : ExcName → Option Value) (mg mb : PySem.Str → Option Value) (a : Addr) (cd : Value) (s : Shared) (K : Flow → Shared → Prop),
    Below callerA h₀ [] h₀ → Fr h₀ L s.heap m → (hd.heap_39 w.params).In h₀ → News h₀ L s.heap news → Top hd.view_39 (looseW hd.view_39 [Str.ofString "Code", Str.ofString "Binary", Str.ofString "DatetimeMS", Str.ofString "DBRef", Str.ofString "InvalidDocument", Str.ofString "Int64", Str.ofString "MaxKey", Str.ofString "MinKey", Str.ofString "ObjectId", Str.ofString "Regex", Str.ofString "Timestamp"]) mean mg mb h₀ →
    (∀ h' tk' m' news', Fr h₀ L h' m' → News h₀ L h' news' → LRest w (n + 1) h₀ L m' news' → K .next { s with heap := h', toks := tk' }) →
    wpAny (model PySem.Challenge.rw_jh0019_01.row.prog w) (callerA.deeper (envOfC (Str.ofString "law") sc L a cd)) (exec st (envOfC (Str.ofString "law") sc L a cd)) K (fun _ _ => False) s
def LStepP (w : World) (n : Nat) (h₀ : Heap) (L : Addr) (m : Map) (news : Led) (st : Stmt) (sc : Scope) : Prop :=
  ∀ (mean : ExcName → Option Value) (mg mb : PySem.Str → Option Value) (a : Addr) (cd : Value) (s : Shared) (K : Flow → Shared → Prop),
    Below callerA h₀ [] h₀ → Fr h₀ L s.heap m → (hd.heap_39 w.params).In h₀ → News h₀ L s.heap news → Top hd.view_39 (looseW hd.view_39 [Str.ofString "Code", Str.ofString "Binary", Str.ofString "DatetimeMS", Str.ofString "DBRef", Str.ofString "InvalidDocument", Str.ofString "Int64", Str.ofString "MaxKey", Str.ofString "MinKey", Str.ofString "ObjectId", Str.ofString "Regex", Str.ofString "Timestamp"]) mean mg mb h₀ →
    (∀ h' tk' m' news', Fr h₀ L h' m' → News h₀ L h' news' → LRestP w (n + 1) h₀ L m' news' → K .next { s with heap := h', toks := tk' }) →
    wpP (model PySem.Challenge.rw_jh0019_01.row.prog w) (callerA.deeper (envOfC (Str.ofString "law") sc L a cd)) (exec st (envOfC (Str.ofString "law") sc L a cd)) K (fun _ _ => False) s
theorem LStep.rest {w : World} {n : Nat} {h₀ : Heap} {L : Addr} {m : Map} {news : Led} {st : Stmt} {sc : Scope} (e : lawAt n = some st) (es : lawScope = some sc) (H : LStep w n h₀ L m news st sc) : LRest w n h₀ L m news := by
  unfold LRest
  intro sc' hs mean mg mb a cd s K B F X N T hK
  have e1 : sc' = sc := Option.some.inj (hs.symm.trans es)
  subst e1
  rw [lawFrom_cons e, execs_cons]
  refine wpAny_bind ?_
  refine wpAny_mono (H mean mg mb a cd s (fun f s' => match f with | .next => wpAny (model PySem.Challenge.rw_jh0019_01.row.prog w) (callerA.deeper (envOfC (Str.ofString "law") sc' L a cd)) (execs (lawFrom (n + 1)) (envOfC (Str.ofString "law") sc' L a cd)) K (fun _ _ => False) s' | _ => False) B F X N T (fun h' tk' m' news' F' N' R => ?_)) (fun f s' h => ?_) fun _ _ x => x.elim
  · unfold LRest at R
    exact R sc' hs mean mg mb a cd { s with heap := h', toks := tk' } K B F' X N' T (fun h'' tk'' m'' F'' => hK h'' tk'' m'' F'')
  · cases f with
    | next => exact h
    | _ => exact h.elim
theorem LStepP.rest {w : World} {n : Nat} {h₀ : Heap} {L : Addr} {m : Map} {news : Led} {st : Stmt} {sc : Scope} (e : lawAt n = some st) (es : lawScope = some sc) (H : LStepP w n h₀ L m news st sc) : LRestP w n h₀ L m news := by
  unfold LRestP
  intro sc' hs mean mg mb a cd s K B F X N T hK
  have e1 : sc' = sc := Option.some.inj (hs.symm.trans es)
  subst e1
  rw [lawFrom_cons e, execs_cons]
  refine wpP_bind ?_
  refine wpP_mono (H mean mg mb a cd s (fun f s' => match f with | .next => wpP (model PySem.Challenge.rw_jh0019_01.row.prog w) (callerA.deeper (envOfC (Str.ofString "law") sc' L a cd)) (execs (lawFrom (n + 1)) (envOfC (Str.ofString "law") sc' L a cd)) K (fun _ _ => False) s' | _ => False) B F X N T (fun h' tk' m' news' F' N' R => ?_)) (fun f s' h => ?_) fun _ _ x => x.elim
  · unfold LRestP at R
    exact R sc' hs mean mg mb a cd { s with heap := h', toks := tk' } K B F' X N' T (fun h'' tk'' m'' F'' => hK h'' tk'' m'' F'')
  · cases f with
    | next => exact h
    | _ => exact h.elim
/-- the last statement returns -/
theorem LRest.last {w : World} {n : Nat} {h₀ : Heap} {L : Addr} {m : Map} {news : Led} {st : Stmt} {sc : Scope} (e : lawAt n = some st) (es : lawScope = some sc)
    (H : ∀ (mean : ExcName → Option Value) (mg mb : PySem.Str → Option Value) (a : Addr) (cd : Value) (s : Shared) (K : Flow → Shared → Prop),
      Below callerA h₀ [] h₀ → Fr h₀ L s.heap m → (hd.heap_39 w.params).In h₀ → News h₀ L s.heap news → Top hd.view_39 (looseW hd.view_39 [Str.ofString "Code", Str.ofString "Binary", Str.ofString "DatetimeMS", Str.ofString "DBRef", Str.ofString "InvalidDocument", Str.ofString "Int64", Str.ofString "MaxKey", Str.ofString "MinKey", Str.ofString "ObjectId", Str.ofString "Regex", Str.ofString "Timestamp"]) mean mg mb h₀ →
      (∀ h' tk' m', Fr h₀ L h' m' → K (.ret (.bool true)) { s with heap := h', toks := tk' }) →
      wpAny (model PySem.Challenge.rw_jh0019_01.row.prog w) (callerA.deeper (envOfC (Str.ofString "law") sc L a cd)) (exec st (envOfC (Str.ofString "law") sc L a cd)) K (fun _ _ => False) s) : LRest w n h₀ L m news := by
  unfold LRest
  intro sc' hs mean mg mb a cd s K B F X N T hK
  have e1 : sc' = sc := Option.some.inj (hs.symm.trans es)
  subst e1
  rw [lawFrom_cons e, execs_cons]
  refine wpAny_bind ?_
  refine wpAny_mono (H mean mg mb a cd s (fun f s' => match f with | .ret v => K (.ret v) s' | _ => False) B F X N T hK) (fun f s' h => ?_) fun _ _ x => x.elim
  cases f with
  | ret v => exact wpAny_pure h
  | _ => exact h.elim
end Mine

end
-- K0
section
open PySem PySem.W
namespace Mine
abbrev strK (w : World) := PySem.strKind PySem.Challenge.rw_jh0019_01.row.prog w
end Mine

end
-- LT
open PySem PySem.Calls PySem.W PyProof.Rows
theorem Mine.boot_ba : bootBuiltins (Str.ofString "bytearray") = some (.type "bytearray") := by decide +kernel
local macro_rules | `(tactic| walk_at "binaryOp Add bytes bytes") => `(tactic| (k_dflt (refine' PySem.W.KBy.add_bytes ?z ?_; (case z => simp only [List.size_toArray, List.length_cons, List.length_nil]; omega)); intro t' k'))
local macro_rules | `(tactic| walk_at "eval Name") => `(tactic| (k_here; k_dflt (refine' nameX_L ?F ?v ?_ ?a ?b; (case F => k_asm); (case v => first | with_reducible assumption | exact rfl | assumption); (case a => exact rfl); (case b => kernel_rfl); k_whole)))
local macro_rules | `(tactic| walk_at "eval Name") => `(tactic| (k_here; k_dflt (refine' nameX_B ?F ?X ?T ?e ?v ?n ?_ ?a ?b; (case F => k_asm); (case X => k_asm); (case T => k_asm); (case e => k_is); (case a => exact rfl); (case b => kernel_rfl); (case v => boot_fast); (case n => decide); k_whole)))
local macro_rules | `(tactic| walk_at "eval Name") => `(tactic| (k_here; k_dflt (refine' nameX_K ?F ?X ?T ?e ?_ ?a ?b; (case F => k_asm); (case X => k_asm); (case T => k_asm); (case e => k_is); (case a => exact rfl); (case b => kernel_rfl); k_whole)))
local macro_rules | `(tactic| walk_at "InitBack error") => `(tactic| (dsimp only [InitBack]))
local macro_rules | `(tactic| walk_at "compareOp NotEq bytes bytes") => `(tactic| (refine ne_bytes ?_; try rw [bne_self_eq_false]))
local macro_rules | `(tactic| walk_at "compareOp Eq bytes bytes") => `(tactic| (refine eq_bytes ?_; try rw [beq_self_eq_true]))
local macro_rules | `(tactic| k_enter) => `(tactic| (kp_kind "more"; (fail_if_success k_inElt); (refine' kp_more ?k1 ?k2 ?k3 ?k4 ?k5 ?kA ?kF ?kK ?k6 ?k7 ?k8 ?kX ?kM ?kN ?kD ?kR ?kP ?kT ?kB ?_ ?c2 ?c3 ?c4 ?c5; (case kA => exact rfl); (case kF => exact rfl); (case kK => first | exact rfl | assumption); (case k1 => k_asm); (case k2 => k_asm); (case k3 => k_asm); (case k4 => k_asm); (case k5 => k_asm); (case k6 => k_is); (case k7 => k_is); (case k8 => k_room); (case kX => kp_lit); (case kM => exact rfl); (case kN => exact rfl); (case kD => kp_flats); (case kR => exact rfl); (case kP => exact rfl); (case kT => exact fun _ => rfl); (case kB => exact fun _ => locs rfl); (case c5 => decide); (case c2 => exact rfl); (case c3 => exact rfl); (case c4 => exact rfl); k_whole; intro D' o' g' L' h' tk' l1 lo' hs' fs' FG' F' N' B' X' T'; (try k_lt l1); (try dsimp only); (try k_lift B'); (try k_fold))))
theorem Mine.comp_end {h₀ : Heap} {L I C D : Addr} {m : PySem.Str → Option Value} {s₁ : Shared} {oI oC oD : Obj} {S : List (Addr × Obj) → Prop} {rest : Value → List (Addr × Obj) → Prop} {y : Value} {h' : Heap} {tk : Nat} {news' : List (Addr × Obj)}
    (F : Fr h₀ L h' m) (N : News h₀ L h' ((I, oI) :: (C, oC) :: (D, oD) :: news')) (off : LCg.Off3 I C D news') (hS : S news') (r : rest y news') : LCg.CompEnd h₀ L m s₁ I oI C oC D oD S rest y { s₁ with heap := h', toks := tk } := LCg.CompEnd.intro F N news' (fun _ h => h) off hS r
local macro_rules | `(tactic| walk_at "CompEnd") => `(tactic| (k_here; k_dflt (refine' Mine.comp_end ?F ?N ?off ?S ?_; (case F => k_asm); (case N => k_asm); (case off => (simp only [LCg.Off3, and_true]; assumption)); (case S => lcg_src))))
theorem Mine.ite_isEmpty {α : Type} {a : α} {l : List α} {P Q : Prop} {inst : Decidable ((a :: l).isEmpty = true)} (h : Q) : @ite Prop ((a :: l).isEmpty = true) inst P Q := by rw [if_neg (show ¬ ((a :: l).isEmpty = true) from Bool.false_ne_true)]; exact h
local macro_rules | `(tactic| walk_at "ite") => `(tactic| (first | with_reducible refine ite_tt ?_ | with_reducible refine ite_ff ?_ | with_reducible refine Mine.ite_isEmpty ?_))
theorem Mine.small_size {n : Nat} (h : n ≤ 1000) : n ≤ sizeLine := by rw [sizeLine_eq]; omega
local macro_rules | `(tactic| walk_at "newList") => `(tactic| (k_here; k_dflt (refine' newList_K ?k1 ?k2 ?_ (Mine.small_size (Nat.le_of_ble_eq_true rfl)); (case k1 => k_asm); (case k2 => k_asm); k_whole); intro l' h' F' N' l1; (try dsimp only); (try k_lt l1); (try k_sweep)))

-- K1
section
open PySem PySem.Calls PySem.W PyProof.Rows PyProof.V PySem.Spec
namespace Mine
/-- a goal that the walk leaves as it is -/
def Stop (P : Prop) : Prop := P
theorem stop_of {P : Prop} (h : Stop P) : P := h
section
variable {prog : Program} {w : World} {A : Around} {E : Value → Shared → Prop} {s : Shared} {env : Env} {h₀ : Heap} {x : PySem.Str} {body : List Stmt} {Q : Flow → Shared → Prop}
/-- a loop over a dict's keys, by an invariant over the turn's number, the names and the ledger -/
theorem iter_keys {d : Addr} {o : Obj} {kvs : List (PySem.Str × Value)} {c : List (PySem.Str × Int)} {m₀ : Map} {news : Led} (J : Nat → Map → Led → Prop)
    (hh : A.handled = none) (lo : (d == sysModules) = false) (hd : o.IsDictOf (PySem.strKind prog w) kvs) (hf : FlatPairs PyData.str kvs (kdpD c)) (F : Fr h₀ env.locals s.heap m₀) (N : News h₀ env.locals s.heap news)
    (hJd : ∀ i m n, J i m n → (d, o) ∈ n) (hj : J 0 m₀ news)
    (turn : ∀ i k v t m₁ n₁ h tk I oI, c[i]? = some (k, v) → J i m₁ n₁ → (∀ p ∈ n₁, p.1 ≠ I) → Fr h₀ env.locals h (fun y => if y = x then some (.str k t) else m₁ y) → News h₀ env.locals h ((I, oI) :: n₁) →
      wpAny (model prog w) A (execs body env) (fun f s₂ => f = .next ∧ ∃ h' tk' m₂ n₂, s₂ = { s with heap := h', toks := tk' } ∧ Fr h₀ env.locals h' m₂ ∧ News h₀ env.locals h' ((I, oI) :: n₂) ∧ (∀ p ∈ n₂, p.1 ≠ I) ∧ J (i + 1) m₂ n₂) E { s with heap := h, toks := tk })
    (done : ∀ m₁ n₁ h tk, J c.length m₁ n₁ → Fr h₀ env.locals h m₁ → News h₀ env.locals h n₁ → Q .next { s with heap := h, toks := tk }) :
    wpAny (model prog w) A (pyIter (.ref d)) (fun it s₂ => LoopAtV prog w A h₀ env x body Q E it s₂) E s := by
  have hm := hJd _ _ _ hj
  obtain ⟨ep, hk⟩ := KdkAt.of hd
  have hat := hk.dictAt (N _ hm).1
  refine wpAny_pyIter_dict lo hat ?_
  have hne : d ≠ s.heap.objs.size := Nat.ne_of_lt hat.lt_size
  have hlen : kvs.length = c.length := by rw [← kdpD_length c, ← hf.length]
  refine ⟨s.heap.objs.size, [s.heap.objs.size, d], [s.heap.objs.size], kvs.length, _, _, m₀, news, J, rfl, Walks.dictKeys (knd := PySem.strKind prog w) hh _ d hne kvs ep, ?_, ?_, ?_,
    ⟨⟨_, Heap.get?_push_size _ rfl, rfl, rfl⟩, hat.push _⟩, F.push _, fun p hp => ⟨Heap.get?_push_of_some _ (N p hp).1, (N p hp).2⟩, hj, ?_, ?_⟩
  · intro hq
    rcases List.mem_cons.mp hq with e | hq
    · exact absurd F.ns.lt (e ▸ Nat.lt_irrefl _)
    · exact (N _ hm).2.1 (List.mem_singleton.mp hq).symm
  · intro b hb
    rw [List.mem_singleton.mp hb]
    exact next_is_new F
  · intro p hp hI
    exact absurd (Heap.lt_size (N p hp).1) ((List.mem_singleton.mp hI) ▸ Nat.lt_irrefl _)
  · rintro i v m₁ n₁ s₁ own ⟨h1, tk1, rfl⟩ hi ⟨k, xv, hx, hkey⟩ hJ hoff hown hownat hall hSt F₁ N₁
    obtain ⟨t, rfl⟩ := Value.isStrOf_shape hkey
    obtain ⟨dv, hD, _⟩ := hf.at hx
    obtain ⟨vi, hc⟩ : ∃ vi, c[i]? = some (k, vi) := by
      unfold kdpD at hD
      rw [List.getElem?_map] at hD
      cases hci : c[i]? with
      | none => rw [hci] at hD; cases hD
      | some p =>
        rw [hci] at hD
        obtain ⟨a, b⟩ := p
        have h := congrArg Prod.fst (Option.some.inj hD)
        injection h with h
        subst h
        exact ⟨b, rfl⟩
    obtain ⟨⟨oI, hoI, _⟩, _⟩ := hSt
    have hIn : (s.heap.objs.size, oI) ∈ own := hall _ (.head _) (next_is_new F) oI hoI
    have N₂ : News h₀ env.locals h1 ((s.heap.objs.size, oI) :: n₁) := fun p hp => by
      rcases List.mem_cons.mp hp with rfl | hp
      · exact N₁ _ (List.mem_append_left _ hIn)
      · exact N₁ _ (List.mem_append_right _ hp)
    refine wpAny_mono (turn i k vi t m₁ n₁ h1 tk1 _ oI hc hJ (fun p hp e => hoff p hp (by rw [e]; exact .head _)) F₁ N₂) (fun f s₂ hq => ?_) fun _ _ e => e
    obtain ⟨rfl, h2, tk2, m₂, n₂, rfl, F₂, N₃, hne2, hJ2⟩ := hq
    refine LoopStepV.next ⟨rfl, h2, tk2, m₂, n₂, rfl, F₂, fun p hp => ?_, fun p hp hI => hne2 p hp (List.mem_singleton.mp hI), hJ2⟩
    rcases List.mem_append.mp hp with hp | hp
    · have hp1 := hown p hp
      have hp2 := hownat p hp
      rcases List.mem_cons.mp hp1 with e | hp1
      · have : p = (s.heap.objs.size, oI) := by
          obtain ⟨a, b⟩ := p
          simp only at e hp2
          subst e
          have h3 : h1.get? s.heap.objs.size = some b := hp2
          have h4 : h1.get? s.heap.objs.size = some oI := hoI
          rw [h4] at h3
          rw [Option.some.inj h3]
        rw [this]
        exact N₃ _ (.head _)
      · have e := List.mem_singleton.mp hp1
        have : p = (d, o) := by
          obtain ⟨a, b⟩ := p
          simp only at e hp2
          subst e
          have h3 : h1.get? a = some b := hp2
          have h4 : h1.get? a = some o := (N₂ _ (.tail _ (hJd _ _ _ hJ))).1
          rw [h4] at h3
          rw [Option.some.inj h3]
        rw [this]
        exact N₃ _ (.tail _ (hJd _ _ _ hJ2))
    · exact N₃ _ (.tail _ hp)
  · intro h2 tk2 m₂ n₂ F₂ N₂ _ hJ2
    rw [hlen] at hJ2
    exact done m₂ n₂ h2 tk2 hJ2 F₂ N₂
end
/-- pairs put into a dict, one after the other -/
def putAll (c : List (PySem.Str × Int)) (l : List (PySem.Str × Int)) : List (PySem.Str × Int) := l.foldl (fun a p => kdpPut a p.1 p.2) c
theorem putAll_snoc {c l : List (PySem.Str × Int)} {i : Nat} {k : PySem.Str} {v : Int} (h : l[i]? = some (k, v)) : putAll c (l.take (i + 1)) = kdpPut (putAll c (l.take i)) k v := by
  unfold putAll
  rw [List.take_add_one, h]
  simp
theorem look_of {c : List (PySem.Str × Int)} (hn : (c.map (·.1)).Nodup) {i : Nat} {k : PySem.Str} {v : Int} (h : c[i]? = some (k, v)) : kdpHas c k = true ∧ kdpLook c k 0 = v := by
  induction c generalizing i with
  | nil => cases h
  | cons p c ih =>
    rw [List.map_cons, List.nodup_cons] at hn
    cases i with
    | zero =>
      have e : p = (k, v) := Option.some.inj h
      subst e
      unfold kdpHas kdpLook
      simp
    | succ i =>
      have h' : c[i]? = some (k, v) := h
      obtain ⟨h1, h2⟩ := ih hn.2 h'
      have hne : ¬ p.1 = k := fun e => hn.1 (e ▸ List.mem_map_of_mem (f := (·.1)) (List.mem_of_getElem? h'))
      unfold kdpHas kdpLook at *
      simp [hne, h1, h2]
theorem nodup_of {w : World} {o : Obj} {kvs : List (PySem.Str × Value)} {c : List (PySem.Str × Int)} (hd : o.IsDictOf (strK w) kvs) (hf : FlatPairs PyData.str kvs (kdpD c)) : (c.map (·.1)).Nodup := by
  obtain ⟨ep, es, _, _, _, _, hn⟩ := KdkAt.of hd
  have e : kvs.map (·.1) = c.map (·.1) := by
    clear hn hd
    have : ∀ {kvs : List (PySem.Str × Value)} {D : List (PyData × PyData)}, FlatPairs PyData.str kvs D → ∀ c, D = kdpD c → kvs.map (·.1) = c.map (·.1) := by
      intro kvs D hf
      induction hf with
      | nil => intro c e; cases c with
        | nil => rfl
        | cons => cases e
      | cons _ _ ih =>
        intro c e
        cases c with
        | nil => cases e
        | cons p c =>
          injection e with e1 e2
          injection e1 with e1 _
          injection e1 with e1
          simp only [List.map_cons, ih c e2, e1]
    exact this hf c rfl
  rw [← e]; exact hn
theorem putAll_len (l : List (PySem.Str × Int)) : ∀ c : List (PySem.Str × Int), (putAll c l).length ≤ c.length + l.length := by
  induction l with
  | nil => intro c; exact Nat.le_refl _
  | cons p l ih =>
    intro c
    have h1 := ih (kdpPut c p.1 p.2)
    have h2 := kdpPut_len c p.1 p.2
    have e : putAll c (p :: l) = putAll (kdpPut c p.1 p.2) l := rfl
    rw [e]
    simp only [List.length_cons]
    omega
theorem putAll_nil {c : List (PySem.Str × Int)} (hn : (c.map (·.1)).Nodup) : putAll [] c = c := by
  have : ∀ l a : List (PySem.Str × Int), ((a ++ l).map (·.1)).Nodup → putAll a l = a ++ l := by
    intro l
    induction l with
    | nil => intro a _; simp [putAll]
    | cons p l ih =>
      intro a hn
      have e : putAll a (p :: l) = putAll (kdpPut a p.1 p.2) l := rfl
      have hp : kdpPut a p.1 p.2 = a ++ [p] := by
        unfold kdpPut
        rw [if_neg]
        intro h
        obtain ⟨q, hq, hqe⟩ := List.any_eq_true.mp h
        rw [List.map_append, List.map_cons, List.nodup_append] at hn
        exact hn.2.2 q.1 (List.mem_map_of_mem hq) p.1 (.head _) (of_decide_eq_true hqe)
      rw [e, hp, ih]
      · simp
      · simpa using hn
  simpa using this c [] (by simpa using hn)
end Mine
namespace Mine
section
variable {h₀ h : Heap} {L : Addr} {news : Led} {pa pb pc : Addr × Obj} {d x : Addr}
theorem news_pick1 (N : News h₀ L h news) (ha : pa ∈ news) : News h₀ L h (pa :: news) := fun p hp => by
  rcases List.mem_cons.mp hp with rfl | hp
  · exact N _ ha
  · exact N p hp
theorem news_pick2 (N : News h₀ L h news) (ha : pa ∈ news) (hb : pb ∈ news) : News h₀ L h (pa :: pb :: news) := news_pick1 (news_pick1 N hb) (.tail _ ha)
theorem news_unpick2 (N : News h₀ L h (pc :: pa :: pb :: news)) : News h₀ L h (pc :: news) := fun p hp => by
  rcases List.mem_cons.mp hp with rfl | hp
  · exact N _ (.head _)
  · exact N p (.tail _ (.tail _ (.tail _ hp)))
theorem news_unpick12 (N : News h₀ L h (pc :: pa :: pb :: news)) : News h₀ L h (pc :: pa :: news) := fun p hp => by
  rcases List.mem_cons.mp hp with rfl | hp
  · exact N _ (.head _)
  rcases List.mem_cons.mp hp with rfl | hp
  · exact N _ (.tail _ (.head _))
  · exact N p (.tail _ (.tail _ (.tail _ hp)))
theorem lt_unpick1 (l : ∀ p ∈ pa :: news, p.1 < d) : ∀ p ∈ news, p.1 < d := fun p hp => l p (.tail _ hp)
theorem lt_unpick2 (l : ∀ p ∈ pa :: pb :: news, p.1 < d) : ∀ p ∈ news, p.1 < d := fun p hp => l p (.tail _ (.tail _ hp))
end
theorem merge_kdp (c c₂ : List (PySem.Str × Int)) : ktMergeD (kdpD c) (kdpD c₂) = kdpD (putAll c c₂) := by
  unfold ktMergeD putAll
  induction c₂ generalizing c with
  | nil => rfl
  | cons p l ih =>
    show List.foldl _ (putD (PyData.str p.1) (PyData.int p.2) (kdpD c)) (kdpD l) = _
    rw [kdpD_put]
    exact ih _
end Mine

end
-- U1
section
open PySem PySem.Calls PySem.W PyProof.Rows PyProof.V PySem.Spec
namespace Mine
/-- behind a turn of an unrolled loop: the names and the ledger of the next turn -/
def UPost (h₀ : Heap) (L : Addr) (s : Shared) (own : Led) (J : Map → Led → Prop) (f : Flow) (s₂ : Shared) : Prop :=
  f = .next ∧ ∃ (h' : Heap) (tk' : Nat) (m₂ : Map) (n₂ : Led), s₂ = { s with heap := h', toks := tk' } ∧ Fr h₀ L h' m₂ ∧ News h₀ L h' (own ++ n₂) ∧ J m₂ n₂
section
variable {prog : Program} {w : World} {A : Around} {E : Value → Shared → Prop} {s : Shared} {env : Env} {h₀ : Heap} {target : PySem.Expr} {body : List Stmt} {Q : Flow → Shared → Prop}
theorem unr_inv {items : List Value} {fp : List Addr} (J : Nat → Map → Led → Prop)
    (turn : ∀ i v m₁ n₁ h tk own, items[i]? = some v → J i m₁ n₁ → Fr h₀ env.locals h m₁ → News h₀ env.locals h (own ++ n₁) → (∀ p ∈ own, p.1 ∈ fp) →
      wpAny (model prog w) A (assign target env v) (fun _ s₂ => wpAny (model prog w) A (execs body env) (LoopStep3 h₀ env.locals own n₁ (J (i + 1)) { s with heap := h, toks := tk } (fun v s' => Q (.ret v) s') fun s' => Q .next s') E s₂) E { s with heap := h, toks := tk })
    (done : ∀ m₁ n₁ h tk, J items.length m₁ n₁ → Fr h₀ env.locals h m₁ → News h₀ env.locals h n₁ → Q .next { s with heap := h, toks := tk }) :
    ∀ (k i : Nat) (m₁ : Map) (n₁ : Led), i + k = items.length → J i m₁ n₁ → Unr prog w A E h₀ env target body Q (fun i v => items.toArray[i]? = some v) fp s k i m₁ n₁ := by
  intro k
  induction k with
  | zero =>
    intro i m₁ n₁ e hJ
    refine Unr.zero fun h' tk F N => ?_
    have e' : i = items.length := by omega
    subst e'
    exact done m₁ n₁ h' tk hJ F N
  | succ k ih =>
    intro i m₁ n₁ e hJ
    refine Unr.succ fun v h₁ tk₁ own hP hown F N => ?_
    refine wpAny_mono (turn i v m₁ n₁ h₁ tk₁ own (by simpa using hP) hJ F N hown) (fun _ s₂ h₂ => wpAny_mono h₂ (fun f s₃ h₃ => ?_) fun _ _ x => x) fun _ _ x => x
    cases f with
    | ret v => exact h₃
    | brk => exact h₃
    | cont =>
      obtain ⟨e0, h₃', tk₃, m₂, news₂, e1, F₃, N₃, ha₃, hJ₃⟩ := h₃
      exact ⟨e0, h₃', tk₃, m₂, news₂, e1, F₃, N₃, ha₃, ih (i + 1) m₂ news₂ (by omega) hJ₃⟩
    | next =>
      obtain ⟨e0, h₃', tk₃, m₂, news₂, e1, F₃, N₃, ha₃, hJ₃⟩ := h₃
      exact ⟨e0, h₃', tk₃, m₂, news₂, e1, F₃, N₃, ha₃, ih (i + 1) m₂ news₂ (by omega) hJ₃⟩
end
theorem News.ne_locals {h₀ h : Heap} {L a : Addr} {o : Obj} {news : Led} (N : News h₀ L h news) (hm : (a, o) ∈ news) : a ≠ L := (N _ hm).2.1
theorem loadName_L {M : Model} {A : Around} {E : Value → Shared → Prop} {s : Shared} {h₀ : Heap} {L : Addr} {m : Map} {cn : PySem.Str} {cs : Scope} {a : Addr} {ccd : Value} {cl : List (PySem.Str × Addr)} {x : PySem.Str} {v : Value} {Q : Value → Shared → Prop} (F : Fr h₀ L s.heap m) (hv : m x = some v) (h : Q v s) (hk : cs.kind = .function) (hx : (envX cn cs L a ccd cl).kindOf x = some .local) :
    wpAny M A (loadName (envX cn cs L a ccd cl) x) Q E s := wpAny_loadName_local hk hx F.ns hv h
/-- does the letter stand in the text -/
def hasL (x : PySem.Str) (l : String) : Bool := !(Builtin.Str.occurrences x (Str.ofString l) 0 x.length 1).isEmpty
def bitsL : List (String × Int) := [("i", 2), ("l", 4), ("m", 8), ("s", 16), ("u", 32), ("x", 64)]
def flagsTo (x : PySem.Str) (i : Nat) : Int := (bitsL.take i).foldl (fun g p => g + if hasL x p.1 then p.2 else 0) 0
theorem flag_no {x : PySem.Str} {l : String} {b g : Int} (h : (Builtin.Str.occurrences x (Str.ofString l) 0 x.length 1).isEmpty = true) : (g + if hasL x l then b else 0) = g := by
  unfold hasL; rw [h]; simp
theorem flag_yes {x : PySem.Str} {l : String} {b g : Int} (h : (Builtin.Str.occurrences x (Str.ofString l) 0 x.length 1).isEmpty = false) : (g + if hasL x l then b else 0) = g + b := by
  unfold hasL; rw [h]; simp
/-- ahead of the loop's i-th turn -/
def LJ (led : Led) (Dn : Addr) (n_ : Int) (tn : Tok) (row : Array UInt8) (tr : Tok) (d1 : Addr) (tx lx : PySem.Str) (tt lt : Tok) (i : Nat) (m : Map) (n : Led) : Prop :=
  n = led ∧ m (Str.ofString "numbers") = some (.ref Dn) ∧ m (Str.ofString "n") = some (.int n_ tn) ∧ m (Str.ofString "row") = some (.bytes row tr) ∧ m (Str.ofString "one") = some (.ref d1) ∧ m (Str.ofString "text") = some (.str tx tt) ∧ m (Str.ofString "letters") = some (.str lx lt) ∧
  ∃ gt, m (Str.ofString "flags") = some (.int (flagsTo lx i) gt)
end Mine

end
-- LPre
section
open PySem PySem.Calls PySem.W PyProof.Rows PyProof.V PySem.Spec
namespace Mine
def Pre1 (w : World) : Prop := ∀ (h₀ : Heap) (L : Addr) (o1 o2 : Obj) (m : Map) (Dn : Addr) (yn : List Value) (nn : List Int) (cc : Nat), o1.data = Data.cell none → o2.data = Data.cell none → IntsAre yn nn → 1 ≤ nn.length → nn.length ≤ 16 → (@Ne Nat Dn (L + 1 + 1) ∧ @Ne Nat Dn (L + 1)) → m (Str.ofString "numbers") = some (.ref Dn) → LRestP w 1 h₀ L m [(Dn, W.listOf yn.toArray cc), (L + 1 + 1, o1), (L + 1, o2)]
def Pre2 (w : World) : Prop := ∀ (h₀ : Heap) (L : Addr) (o1 o2 : Obj) (m : Map) (Dn : Addr) (yn : List Value) (nn : List Int) (cc : Nat) (n_ m_ : Int) (tn tm : Tok), o1.data = Data.cell none → o2.data = Data.cell none → IntsAre yn nn → 1 ≤ nn.length → nn.length ≤ 16 → (@Ne Nat Dn (L + 1 + 1) ∧ @Ne Nat Dn (L + 1)) → m (Str.ofString "numbers") = some (.ref Dn) → m (Str.ofString "m") = some (.int m_ tm) → m (Str.ofString "n") = some (.int n_ tn) → LRestP w 2 h₀ L m [(Dn, W.listOf yn.toArray cc), (L + 1 + 1, o1), (L + 1, o2)]
def Pre3 (w : World) : Prop := ∀ (h₀ : Heap) (L : Addr) (o1 o2 : Obj) (m : Map) (Dn : Addr) (yn : List Value) (nn : List Int) (cc : Nat) (n_ m_ : Int) (tn tm : Tok) (row : Array UInt8) (tr : Tok), o1.data = Data.cell none → o2.data = Data.cell none → IntsAre yn nn → 1 ≤ nn.length → nn.length ≤ 16 → (@Ne Nat Dn (L + 1 + 1) ∧ @Ne Nat Dn (L + 1)) → row.size ≤ 16 → m (Str.ofString "numbers") = some (.ref Dn) → m (Str.ofString "m") = some (.int m_ tm) → m (Str.ofString "n") = some (.int n_ tn) → m (Str.ofString "row") = some (.bytes row tr) → LRestP w 3 h₀ L m [(Dn, W.listOf yn.toArray cc), (L + 1 + 1, o1), (L + 1, o2)]
def Pre4 (w : World) : Prop := ∀ (h₀ : Heap) (L : Addr) (o1 o2 : Obj) (m : Map) (Dn : Addr) (yn : List Value) (nn : List Int) (cc : Nat) (n_ m_ : Int) (tn tm : Tok) (row : Array UInt8) (tr : Tok) (kk : Int) (tkk : Tok), o1.data = Data.cell none → o2.data = Data.cell none → IntsAre yn nn → 1 ≤ nn.length → nn.length ≤ 16 → (@Ne Nat Dn (L + 1 + 1) ∧ @Ne Nat Dn (L + 1)) → row.size ≤ 16 → m (Str.ofString "numbers") = some (.ref Dn) → m (Str.ofString "m") = some (.int m_ tm) → m (Str.ofString "n") = some (.int n_ tn) → m (Str.ofString "row") = some (.bytes row tr) → m (Str.ofString "subtype") = some (.int kk tkk) → LRestP w 4 h₀ L m [(Dn, W.listOf yn.toArray cc), (L + 1 + 1, o1), (L + 1, o2)]
def Pre5 (w : World) : Prop := ∀ (h₀ : Heap) (L : Addr) (o1 o2 : Obj) (m : Map) (Dn : Addr) (yn : List Value) (nn : List Int) (cc : Nat) (n_ m_ : Int) (tn tm : Tok) (row : Array UInt8) (tr : Tok), o1.data = Data.cell none → o2.data = Data.cell none → IntsAre yn nn → 1 ≤ nn.length → nn.length ≤ 16 → (@Ne Nat Dn (L + 1 + 1) ∧ @Ne Nat Dn (L + 1)) → row.size ≤ 16 → m (Str.ofString "numbers") = some (.ref Dn) → m (Str.ofString "m") = some (.int m_ tm) → m (Str.ofString "n") = some (.int n_ tn) → m (Str.ofString "row") = some (.bytes row tr) → LRest w 5 h₀ L m [(Dn, W.listOf yn.toArray cc), (L + 1 + 1, o1), (L + 1, o2)]
def Pre6 (w : World) : Prop := ∀ (h₀ : Heap) (L : Addr) (o1 o2 : Obj) (m : Map) (Dn : Addr) (yn : List Value) (nn : List Int) (cc : Nat) (n_ m_ : Int) (tn tm : Tok) (row : Array UInt8) (tr : Tok), o1.data = Data.cell none → o2.data = Data.cell none → IntsAre yn nn → 1 ≤ nn.length → nn.length ≤ 16 → (@Ne Nat Dn (L + 1 + 1) ∧ @Ne Nat Dn (L + 1)) → row.size ≤ 16 → m (Str.ofString "numbers") = some (.ref Dn) → m (Str.ofString "m") = some (.int m_ tm) → m (Str.ofString "n") = some (.int n_ tn) → m (Str.ofString "row") = some (.bytes row tr) → LRest w 6 h₀ L m [(Dn, W.listOf yn.toArray cc), (L + 1 + 1, o1), (L + 1, o2)]
def Pre7 (w : World) : Prop := ∀ (h₀ : Heap) (L : Addr) (o1 o2 : Obj) (m : Map) (Dn : Addr) (yn : List Value) (nn : List Int) (cc : Nat) (n_ m_ : Int) (tn tm : Tok) (row : Array UInt8) (tr : Tok) (vv : Int) (tv : Tok), o1.data = Data.cell none → o2.data = Data.cell none → IntsAre yn nn → 1 ≤ nn.length → nn.length ≤ 16 → (@Ne Nat Dn (L + 1 + 1) ∧ @Ne Nat Dn (L + 1)) → row.size ≤ 16 → m (Str.ofString "numbers") = some (.ref Dn) → m (Str.ofString "m") = some (.int m_ tm) → m (Str.ofString "n") = some (.int n_ tn) → m (Str.ofString "row") = some (.bytes row tr) → m (Str.ofString "whole") = some (.int vv tv) → LRest w 7 h₀ L m [(Dn, W.listOf yn.toArray cc), (L + 1 + 1, o1), (L + 1, o2)]
def Pre8 (w : World) : Prop := ∀ (h₀ : Heap) (L : Addr) (o1 o2 : Obj) (m : Map) (Dn : Addr) (yn : List Value) (nn : List Int) (cc : Nat) (n_ m_ : Int) (tn tm : Tok) (row : Array UInt8) (tr : Tok), o1.data = Data.cell none → o2.data = Data.cell none → IntsAre yn nn → 1 ≤ nn.length → nn.length ≤ 16 → (@Ne Nat Dn (L + 1 + 1) ∧ @Ne Nat Dn (L + 1)) → row.size ≤ 16 → m (Str.ofString "numbers") = some (.ref Dn) → m (Str.ofString "m") = some (.int m_ tm) → m (Str.ofString "n") = some (.int n_ tn) → m (Str.ofString "row") = some (.bytes row tr) → LRest w 8 h₀ L m [(Dn, W.listOf yn.toArray cc), (L + 1 + 1, o1), (L + 1, o2)]
def Pre9 (w : World) : Prop := ∀ (h₀ : Heap) (L : Addr) (o1 o2 : Obj) (m : Map) (Dn : Addr) (yn : List Value) (nn : List Int) (cc : Nat) (n_ m_ : Int) (tn tm : Tok) (row : Array UInt8) (tr : Tok) (d1 : Addr) (od1 : Obj) (kv1 : List (PySem.Str × Value)) (c1 : List (PySem.Str × Int)) (d2 : Addr) (od2 : Obj) (kv2 : List (PySem.Str × Value)) (c2 : List (PySem.Str × Int)), o1.data = Data.cell none → o2.data = Data.cell none → IntsAre yn nn → 1 ≤ nn.length → nn.length ≤ 16 → (@Ne Nat Dn (L + 1 + 1) ∧ @Ne Nat Dn (L + 1)) → row.size ≤ 16 → (@LT.lt Nat _ Dn d1 ∧ @LT.lt Nat _ (L + 1 + 1) d1) → @LT.lt Nat _ d1 d2 → (d1 == sysModules) = false → od1.IsDictOf (strK w) kv1 → FlatPairs PyData.str kv1 (kdpD c1) → (d2 == sysModules) = false → od2.IsDictOf (strK w) kv2 → FlatPairs PyData.str kv2 (kdpD c2) → c1.length ≤ 4 → 1 ≤ c1.length → kdpHas c1 (Str.ofString "z") = false → c2.length ≤ 4 → m (Str.ofString "numbers") = some (.ref Dn) → m (Str.ofString "m") = some (.int m_ tm) → m (Str.ofString "n") = some (.int n_ tn) → m (Str.ofString "row") = some (.bytes row tr) → m (Str.ofString "one") = some (.ref d1) → m (Str.ofString "two") = some (.ref d2) → LRest w 9 h₀ L m [(d2, od2), (d1, od1), (Dn, W.listOf yn.toArray cc), (L + 1 + 1, o1), (L + 1, o2)]
def Pre10 (w : World) : Prop := ∀ (h₀ : Heap) (L : Addr) (o1 o2 : Obj) (m : Map) (Dn : Addr) (yn : List Value) (nn : List Int) (cc : Nat) (n_ m_ : Int) (tn tm : Tok) (row : Array UInt8) (tr : Tok) (d1 : Addr) (od1 : Obj) (kv1 : List (PySem.Str × Value)) (c1 : List (PySem.Str × Int)) (d2 : Addr) (od2 : Obj) (kv2 : List (PySem.Str × Value)) (c2 : List (PySem.Str × Int)) (tx : PySem.Str) (tt : Tok), o1.data = Data.cell none → o2.data = Data.cell none → IntsAre yn nn → 1 ≤ nn.length → nn.length ≤ 16 → (@Ne Nat Dn (L + 1 + 1) ∧ @Ne Nat Dn (L + 1)) → row.size ≤ 16 → (@LT.lt Nat _ Dn d1 ∧ @LT.lt Nat _ (L + 1 + 1) d1) → @LT.lt Nat _ d1 d2 → (d1 == sysModules) = false → od1.IsDictOf (strK w) kv1 → FlatPairs PyData.str kv1 (kdpD c1) → (d2 == sysModules) = false → od2.IsDictOf (strK w) kv2 → FlatPairs PyData.str kv2 (kdpD c2) → c1.length ≤ 4 → 1 ≤ c1.length → kdpHas c1 (Str.ofString "z") = false → c2.length ≤ 4 → tx.length ≤ 16 → m (Str.ofString "numbers") = some (.ref Dn) → m (Str.ofString "m") = some (.int m_ tm) → m (Str.ofString "n") = some (.int n_ tn) → m (Str.ofString "row") = some (.bytes row tr) → m (Str.ofString "one") = some (.ref d1) → m (Str.ofString "two") = some (.ref d2) → m (Str.ofString "text") = some (.str tx tt) → LRest w 10 h₀ L m [(d2, od2), (d1, od1), (Dn, W.listOf yn.toArray cc), (L + 1 + 1, o1), (L + 1, o2)]
def Pre11 (w : World) : Prop := ∀ (h₀ : Heap) (L : Addr) (o1 o2 : Obj) (m : Map) (Dn : Addr) (yn : List Value) (nn : List Int) (cc : Nat) (n_ m_ : Int) (tn tm : Tok) (row : Array UInt8) (tr : Tok) (d1 : Addr) (od1 : Obj) (kv1 : List (PySem.Str × Value)) (c1 : List (PySem.Str × Int)) (d2 : Addr) (od2 : Obj) (kv2 : List (PySem.Str × Value)) (c2 : List (PySem.Str × Int)) (tx : PySem.Str) (tt : Tok) (fx fd : Addr) (ft1 ft2 ft3 : Tok) (d3 : Addr) (od3 : Obj) (kv3 : List (PySem.Str × Value)), o1.data = Data.cell none → o2.data = Data.cell none → IntsAre yn nn → 1 ≤ nn.length → nn.length ≤ 16 → (@Ne Nat Dn (L + 1 + 1) ∧ @Ne Nat Dn (L + 1)) → row.size ≤ 16 → (@LT.lt Nat _ Dn d1 ∧ @LT.lt Nat _ (L + 1 + 1) d1) → @LT.lt Nat _ d1 d2 → (d1 == sysModules) = false → od1.IsDictOf (strK w) kv1 → FlatPairs PyData.str kv1 (kdpD c1) → (d2 == sysModules) = false → od2.IsDictOf (strK w) kv2 → FlatPairs PyData.str kv2 (kdpD c2) → c1.length ≤ 4 → 1 ≤ c1.length → kdpHas c1 (Str.ofString "z") = false → c2.length ≤ 4 → tx.length ≤ 16 → @LT.lt Nat _ d2 d3 → @LT.lt Nat _ d3 fd → @LT.lt Nat _ fd fx → (d3 == sysModules) = false → od3.IsDictOf (strK w) kv3 → FlatPairs PyData.str kv3 (kdpD c1) → m (Str.ofString "numbers") = some (.ref Dn) → m (Str.ofString "m") = some (.int m_ tm) → m (Str.ofString "n") = some (.int n_ tn) → m (Str.ofString "row") = some (.bytes row tr) → m (Str.ofString "one") = some (.ref d1) → m (Str.ofString "two") = some (.ref d2) → m (Str.ofString "text") = some (.str tx tt) → m (Str.ofString "first") = some (.ref fx) → LRest w 11 h₀ L m [(fx, instObj 61 fd), (fd, dictOf [⟨PyData.keyHash w.params (Str.ofString "text"), .str (Str.ofString "text") ft2, .str tx ft1⟩, ⟨PyData.keyHash w.params (Str.ofString "_scope"), .str (Str.ofString "_scope") ft3, .ref d3⟩] 2), (d3, od3), (d2, od2), (d1, od1), (Dn, W.listOf yn.toArray cc), (L + 1 + 1, o1), (L + 1, o2)]
def Pre12 (w : World) : Prop := ∀ (h₀ : Heap) (L : Addr) (o1 o2 : Obj) (m : Map) (Dn : Addr) (yn : List Value) (nn : List Int) (cc : Nat) (n_ m_ : Int) (tn tm : Tok) (row : Array UInt8) (tr : Tok) (d1 : Addr) (od1 : Obj) (kv1 : List (PySem.Str × Value)) (c1 : List (PySem.Str × Int)) (d2 : Addr) (od2 : Obj) (kv2 : List (PySem.Str × Value)) (c2 : List (PySem.Str × Int)) (tx : PySem.Str) (tt : Tok) (fx fd : Addr) (ft1 ft2 ft3 : Tok) (d3 : Addr) (od3 : Obj) (kv3 : List (PySem.Str × Value)), o1.data = Data.cell none → o2.data = Data.cell none → IntsAre yn nn → 1 ≤ nn.length → nn.length ≤ 16 → (@Ne Nat Dn (L + 1 + 1) ∧ @Ne Nat Dn (L + 1)) → row.size ≤ 16 → (@LT.lt Nat _ Dn d1 ∧ @LT.lt Nat _ (L + 1 + 1) d1) → @LT.lt Nat _ d1 d2 → (d1 == sysModules) = false → od1.IsDictOf (strK w) kv1 → FlatPairs PyData.str kv1 (kdpD c1) → (d2 == sysModules) = false → od2.IsDictOf (strK w) kv2 → FlatPairs PyData.str kv2 (kdpD c2) → c1.length ≤ 4 → 1 ≤ c1.length → kdpHas c1 (Str.ofString "z") = false → c2.length ≤ 4 → tx.length ≤ 16 → @LT.lt Nat _ d2 d3 → @LT.lt Nat _ d3 fd → @LT.lt Nat _ fd fx → (d3 == sysModules) = false → od3.IsDictOf (strK w) kv3 → FlatPairs PyData.str kv3 (kdpD c1) → m (Str.ofString "numbers") = some (.ref Dn) → m (Str.ofString "m") = some (.int m_ tm) → m (Str.ofString "n") = some (.int n_ tn) → m (Str.ofString "row") = some (.bytes row tr) → m (Str.ofString "one") = some (.ref d1) → m (Str.ofString "two") = some (.ref d2) → m (Str.ofString "text") = some (.str tx tt) → m (Str.ofString "first") = some (.ref fx) → LRest w 12 h₀ L m [(fx, instObj 61 fd), (fd, dictOf [⟨PyData.keyHash w.params (Str.ofString "text"), .str (Str.ofString "text") ft2, .str tx ft1⟩, ⟨PyData.keyHash w.params (Str.ofString "_scope"), .str (Str.ofString "_scope") ft3, .ref d3⟩] 2), (d3, od3), (d2, od2), (d1, od1), (Dn, W.listOf yn.toArray cc), (L + 1 + 1, o1), (L + 1, o2)]
def Pre13 (w : World) : Prop := ∀ (h₀ : Heap) (L : Addr) (o1 o2 : Obj) (m : Map) (Dn : Addr) (yn : List Value) (nn : List Int) (cc : Nat) (n_ m_ : Int) (tn tm : Tok) (row : Array UInt8) (tr : Tok) (d1 : Addr) (od1 : Obj) (kv1 : List (PySem.Str × Value)) (c1 : List (PySem.Str × Int)) (d2 : Addr) (od2 : Obj) (kv2 : List (PySem.Str × Value)) (c2 : List (PySem.Str × Int)) (tx : PySem.Str) (tt : Tok) (fx fd : Addr) (ft1 ft2 ft3 : Tok) (d3 : Addr) (od3 : Obj) (kv3 : List (PySem.Str × Value)) (sx sd : Addr) (st1 st2 st3 : Tok) (d4 : Addr) (od4 : Obj) (kv4 : List (PySem.Str × Value)), o1.data = Data.cell none → o2.data = Data.cell none → IntsAre yn nn → 1 ≤ nn.length → nn.length ≤ 16 → (@Ne Nat Dn (L + 1 + 1) ∧ @Ne Nat Dn (L + 1)) → row.size ≤ 16 → (@LT.lt Nat _ Dn d1 ∧ @LT.lt Nat _ (L + 1 + 1) d1) → @LT.lt Nat _ d1 d2 → (d1 == sysModules) = false → od1.IsDictOf (strK w) kv1 → FlatPairs PyData.str kv1 (kdpD c1) → (d2 == sysModules) = false → od2.IsDictOf (strK w) kv2 → FlatPairs PyData.str kv2 (kdpD c2) → c1.length ≤ 4 → 1 ≤ c1.length → kdpHas c1 (Str.ofString "z") = false → c2.length ≤ 4 → tx.length ≤ 16 → @LT.lt Nat _ d2 d3 → @LT.lt Nat _ d3 fd → @LT.lt Nat _ fd fx → (d3 == sysModules) = false → od3.IsDictOf (strK w) kv3 → FlatPairs PyData.str kv3 (kdpD c1) → @LT.lt Nat _ fx d4 → @LT.lt Nat _ d4 sd → @LT.lt Nat _ sd sx → (d4 == sysModules) = false → od4.IsDictOf (strK w) kv4 → FlatPairs PyData.str kv4 (kdpD (putAll (putAll c1 c2) [(Str.ofString "b", m_.fmod 9)])) → m (Str.ofString "numbers") = some (.ref Dn) → m (Str.ofString "m") = some (.int m_ tm) → m (Str.ofString "n") = some (.int n_ tn) → m (Str.ofString "row") = some (.bytes row tr) → m (Str.ofString "one") = some (.ref d1) → m (Str.ofString "two") = some (.ref d2) → m (Str.ofString "text") = some (.str tx tt) → m (Str.ofString "first") = some (.ref fx) → m (Str.ofString "second") = some (.ref sx) → LRest w 13 h₀ L m [(sx, instObj 61 sd), (sd, dictOf [⟨PyData.keyHash w.params (Str.ofString "text"), .str (Str.ofString "text") st2, .str tx st1⟩, ⟨PyData.keyHash w.params (Str.ofString "_scope"), .str (Str.ofString "_scope") st3, .ref d4⟩] 2), (d4, od4), (fx, instObj 61 fd), (fd, dictOf [⟨PyData.keyHash w.params (Str.ofString "text"), .str (Str.ofString "text") ft2, .str tx ft1⟩, ⟨PyData.keyHash w.params (Str.ofString "_scope"), .str (Str.ofString "_scope") ft3, .ref d3⟩] 2), (d3, od3), (d2, od2), (d1, od1), (Dn, W.listOf yn.toArray cc), (L + 1 + 1, o1), (L + 1, o2)]
def Pre14 (w : World) : Prop := ∀ (h₀ : Heap) (L : Addr) (o1 o2 : Obj) (m : Map) (Dn : Addr) (yn : List Value) (nn : List Int) (cc : Nat) (n_ m_ : Int) (tn tm : Tok) (row : Array UInt8) (tr : Tok) (d1 : Addr) (od1 : Obj) (kv1 : List (PySem.Str × Value)) (c1 : List (PySem.Str × Int)) (d2 : Addr) (od2 : Obj) (kv2 : List (PySem.Str × Value)) (c2 : List (PySem.Str × Int)) (tx : PySem.Str) (tt : Tok) (fx fd : Addr) (ft1 ft2 ft3 : Tok) (d3 : Addr) (od3 : Obj) (kv3 : List (PySem.Str × Value)) (sx sd : Addr) (st1 st2 st3 : Tok) (d4 : Addr) (od4 : Obj) (kv4 : List (PySem.Str × Value)) (d5 : Addr) (od5 : Obj) (kv5 : List (PySem.Str × Value)), o1.data = Data.cell none → o2.data = Data.cell none → IntsAre yn nn → 1 ≤ nn.length → nn.length ≤ 16 → (@Ne Nat Dn (L + 1 + 1) ∧ @Ne Nat Dn (L + 1)) → row.size ≤ 16 → (@LT.lt Nat _ Dn d1 ∧ @LT.lt Nat _ (L + 1 + 1) d1) → @LT.lt Nat _ d1 d2 → (d1 == sysModules) = false → od1.IsDictOf (strK w) kv1 → FlatPairs PyData.str kv1 (kdpD c1) → (d2 == sysModules) = false → od2.IsDictOf (strK w) kv2 → FlatPairs PyData.str kv2 (kdpD c2) → c1.length ≤ 4 → 1 ≤ c1.length → kdpHas c1 (Str.ofString "z") = false → c2.length ≤ 4 → tx.length ≤ 16 → @LT.lt Nat _ d2 d3 → @LT.lt Nat _ d3 fd → @LT.lt Nat _ fd fx → (d3 == sysModules) = false → od3.IsDictOf (strK w) kv3 → FlatPairs PyData.str kv3 (kdpD c1) → @LT.lt Nat _ fx d4 → @LT.lt Nat _ d4 sd → @LT.lt Nat _ sd sx → (d4 == sysModules) = false → od4.IsDictOf (strK w) kv4 → FlatPairs PyData.str kv4 (kdpD (putAll (putAll c1 c2) [(Str.ofString "b", m_.fmod 9)])) → @LT.lt Nat _ sx d5 → (d5 == sysModules) = false → od5.IsDictOf (strK w) kv5 → FlatPairs PyData.str kv5 (kdpD (putAll (putAll c1 c2) [(Str.ofString "b", m_.fmod 9)])) → m (Str.ofString "numbers") = some (.ref Dn) → m (Str.ofString "m") = some (.int m_ tm) → m (Str.ofString "n") = some (.int n_ tn) → m (Str.ofString "row") = some (.bytes row tr) → m (Str.ofString "one") = some (.ref d1) → m (Str.ofString "two") = some (.ref d2) → m (Str.ofString "text") = some (.str tx tt) → m (Str.ofString "first") = some (.ref fx) → m (Str.ofString "second") = some (.ref sx) → m (Str.ofString "due") = some (.ref d5) → LRest w 14 h₀ L m [(d5, od5), (sx, instObj 61 sd), (sd, dictOf [⟨PyData.keyHash w.params (Str.ofString "text"), .str (Str.ofString "text") st2, .str tx st1⟩, ⟨PyData.keyHash w.params (Str.ofString "_scope"), .str (Str.ofString "_scope") st3, .ref d4⟩] 2), (d4, od4), (fx, instObj 61 fd), (fd, dictOf [⟨PyData.keyHash w.params (Str.ofString "text"), .str (Str.ofString "text") ft2, .str tx ft1⟩, ⟨PyData.keyHash w.params (Str.ofString "_scope"), .str (Str.ofString "_scope") ft3, .ref d3⟩] 2), (d3, od3), (d2, od2), (d1, od1), (Dn, W.listOf yn.toArray cc), (L + 1 + 1, o1), (L + 1, o2)]
def Pre15 (w : World) : Prop := ∀ (h₀ : Heap) (L : Addr) (o1 o2 : Obj) (m : Map) (Dn : Addr) (yn : List Value) (nn : List Int) (cc : Nat) (n_ m_ : Int) (tn tm : Tok) (row : Array UInt8) (tr : Tok) (d1 : Addr) (od1 : Obj) (kv1 : List (PySem.Str × Value)) (c1 : List (PySem.Str × Int)) (d2 : Addr) (od2 : Obj) (kv2 : List (PySem.Str × Value)) (c2 : List (PySem.Str × Int)) (tx : PySem.Str) (tt : Tok) (fx fd : Addr) (ft1 ft2 ft3 : Tok) (d3 : Addr) (od3 : Obj) (kv3 : List (PySem.Str × Value)) (sx sd : Addr) (st1 st2 st3 : Tok) (d4 : Addr) (od4 : Obj) (kv4 : List (PySem.Str × Value)) (d5 : Addr) (od5 : Obj) (kv5 : List (PySem.Str × Value)), o1.data = Data.cell none → o2.data = Data.cell none → IntsAre yn nn → 1 ≤ nn.length → nn.length ≤ 16 → (@Ne Nat Dn (L + 1 + 1) ∧ @Ne Nat Dn (L + 1)) → row.size ≤ 16 → (@LT.lt Nat _ Dn d1 ∧ @LT.lt Nat _ (L + 1 + 1) d1) → @LT.lt Nat _ d1 d2 → (d1 == sysModules) = false → od1.IsDictOf (strK w) kv1 → FlatPairs PyData.str kv1 (kdpD c1) → (d2 == sysModules) = false → od2.IsDictOf (strK w) kv2 → FlatPairs PyData.str kv2 (kdpD c2) → c1.length ≤ 4 → 1 ≤ c1.length → kdpHas c1 (Str.ofString "z") = false → c2.length ≤ 4 → tx.length ≤ 16 → @LT.lt Nat _ d2 d3 → @LT.lt Nat _ d3 fd → @LT.lt Nat _ fd fx → (d3 == sysModules) = false → od3.IsDictOf (strK w) kv3 → FlatPairs PyData.str kv3 (kdpD c1) → @LT.lt Nat _ fx d4 → @LT.lt Nat _ d4 sd → @LT.lt Nat _ sd sx → (d4 == sysModules) = false → od4.IsDictOf (strK w) kv4 → FlatPairs PyData.str kv4 (kdpD (putAll (putAll c1 c2) [(Str.ofString "b", m_.fmod 9)])) → @LT.lt Nat _ sx d5 → (d5 == sysModules) = false → od5.IsDictOf (strK w) kv5 → FlatPairs PyData.str kv5 (kdpD (putAll (putAll c1 c2) [(Str.ofString "b", m_.fmod 9)])) → m (Str.ofString "numbers") = some (.ref Dn) → m (Str.ofString "m") = some (.int m_ tm) → m (Str.ofString "n") = some (.int n_ tn) → m (Str.ofString "row") = some (.bytes row tr) → m (Str.ofString "one") = some (.ref d1) → m (Str.ofString "two") = some (.ref d2) → m (Str.ofString "text") = some (.str tx tt) → m (Str.ofString "first") = some (.ref fx) → m (Str.ofString "second") = some (.ref sx) → m (Str.ofString "due") = some (.ref d5) → LRest w 15 h₀ L m [(d5, od5), (sx, instObj 61 sd), (sd, dictOf [⟨PyData.keyHash w.params (Str.ofString "text"), .str (Str.ofString "text") st2, .str tx st1⟩, ⟨PyData.keyHash w.params (Str.ofString "_scope"), .str (Str.ofString "_scope") st3, .ref d4⟩] 2), (d4, od4), (fx, instObj 61 fd), (fd, dictOf [⟨PyData.keyHash w.params (Str.ofString "text"), .str (Str.ofString "text") ft2, .str tx ft1⟩, ⟨PyData.keyHash w.params (Str.ofString "_scope"), .str (Str.ofString "_scope") ft3, .ref d3⟩] 2), (d3, od3), (d2, od2), (d1, od1), (Dn, W.listOf yn.toArray cc), (L + 1 + 1, o1), (L + 1, o2)]
def Pre16 (w : World) : Prop := ∀ (h₀ : Heap) (L : Addr) (o1 o2 : Obj) (m : Map) (Dn : Addr) (yn : List Value) (nn : List Int) (cc : Nat) (n_ m_ : Int) (tn tm : Tok) (row : Array UInt8) (tr : Tok) (d1 : Addr) (od1 : Obj) (kv1 : List (PySem.Str × Value)) (c1 : List (PySem.Str × Int)) (d2 : Addr) (od2 : Obj) (kv2 : List (PySem.Str × Value)) (c2 : List (PySem.Str × Int)) (tx : PySem.Str) (tt : Tok) (fx fd : Addr) (ft1 ft2 ft3 : Tok) (d3 : Addr) (od3 : Obj) (kv3 : List (PySem.Str × Value)) (sx sd : Addr) (st1 st2 st3 : Tok) (d4 : Addr) (od4 : Obj) (kv4 : List (PySem.Str × Value)) (d5 : Addr) (od5 : Obj) (kv5 : List (PySem.Str × Value)) (nD : Addr) (nk : Nat) (x1 e1 : Addr) (n1u1 n1u2 n1u3 : Tok) (x2 e2 : Addr) (n2u1 n2u2 n2u3 : Tok) (x3 e3 : Addr) (n3u1 n3u2 n3u3 : Tok) (k1 : Addr) (ok1 : Obj) (kw1 : List (PySem.Str × Value)) (k3 : Addr) (ok3 : Obj) (kw3 : List (PySem.Str × Value)), o1.data = Data.cell none → o2.data = Data.cell none → IntsAre yn nn → 1 ≤ nn.length → nn.length ≤ 16 → (@Ne Nat Dn (L + 1 + 1) ∧ @Ne Nat Dn (L + 1)) → row.size ≤ 16 → (@LT.lt Nat _ Dn d1 ∧ @LT.lt Nat _ (L + 1 + 1) d1) → @LT.lt Nat _ d1 d2 → (d1 == sysModules) = false → od1.IsDictOf (strK w) kv1 → FlatPairs PyData.str kv1 (kdpD c1) → (d2 == sysModules) = false → od2.IsDictOf (strK w) kv2 → FlatPairs PyData.str kv2 (kdpD c2) → c1.length ≤ 4 → 1 ≤ c1.length → kdpHas c1 (Str.ofString "z") = false → c2.length ≤ 4 → tx.length ≤ 16 → @LT.lt Nat _ d2 d3 → @LT.lt Nat _ d3 fd → @LT.lt Nat _ fd fx → (d3 == sysModules) = false → od3.IsDictOf (strK w) kv3 → FlatPairs PyData.str kv3 (kdpD c1) → @LT.lt Nat _ fx d4 → @LT.lt Nat _ d4 sd → @LT.lt Nat _ sd sx → (d4 == sysModules) = false → od4.IsDictOf (strK w) kv4 → FlatPairs PyData.str kv4 (kdpD (putAll (putAll c1 c2) [(Str.ofString "b", m_.fmod 9)])) → @LT.lt Nat _ sx d5 → (d5 == sysModules) = false → od5.IsDictOf (strK w) kv5 → FlatPairs PyData.str kv5 (kdpD (putAll (putAll c1 c2) [(Str.ofString "b", m_.fmod 9)])) → (k1 == sysModules) = false → ok1.IsDictOf (strK w) kw1 → FlatPairs PyData.str kw1 (kdpD [(Str.ofString "a", 1)]) → (k3 == sysModules) = false → ok3.IsDictOf (strK w) kw3 → FlatPairs PyData.str kw3 (kdpD [(Str.ofString "a", n_.fmod 5)]) → m (Str.ofString "numbers") = some (.ref Dn) → m (Str.ofString "m") = some (.int m_ tm) → m (Str.ofString "n") = some (.int n_ tn) → m (Str.ofString "row") = some (.bytes row tr) → m (Str.ofString "one") = some (.ref d1) → m (Str.ofString "two") = some (.ref d2) → m (Str.ofString "text") = some (.str tx tt) → m (Str.ofString "first") = some (.ref fx) → m (Str.ofString "second") = some (.ref sx) → m (Str.ofString "due") = some (.ref d5) → m (Str.ofString "named") = some (.ref nD) → LRest w 16 h₀ L m [(nD, W.listOf [.ref x1, .ref x2, .ref x3].toArray nk), (x1, instObj 61 e1), (e1, dictOf [⟨PyData.keyHash w.params (Str.ofString "text"), .str (Str.ofString "text") n1u2, .str tx n1u1⟩, ⟨PyData.keyHash w.params (Str.ofString "_scope"), .str (Str.ofString "_scope") n1u3, .ref k1⟩] 2), (x2, instObj 61 e2), (e2, dictOf [⟨PyData.keyHash w.params (Str.ofString "text"), .str (Str.ofString "text") n2u2, .str tx n2u1⟩, ⟨PyData.keyHash w.params (Str.ofString "_scope"), .str (Str.ofString "_scope") n2u3, .none⟩] 2), (x3, instObj 61 e3), (e3, dictOf [⟨PyData.keyHash w.params (Str.ofString "text"), .str (Str.ofString "text") n3u2, .str tx n3u1⟩, ⟨PyData.keyHash w.params (Str.ofString "_scope"), .str (Str.ofString "_scope") n3u3, .ref k3⟩] 2), (k1, ok1), (k3, ok3), (d5, od5), (sx, instObj 61 sd), (sd, dictOf [⟨PyData.keyHash w.params (Str.ofString "text"), .str (Str.ofString "text") st2, .str tx st1⟩, ⟨PyData.keyHash w.params (Str.ofString "_scope"), .str (Str.ofString "_scope") st3, .ref d4⟩] 2), (d4, od4), (fx, instObj 61 fd), (fd, dictOf [⟨PyData.keyHash w.params (Str.ofString "text"), .str (Str.ofString "text") ft2, .str tx ft1⟩, ⟨PyData.keyHash w.params (Str.ofString "_scope"), .str (Str.ofString "_scope") ft3, .ref d3⟩] 2), (d3, od3), (d2, od2), (d1, od1), (Dn, W.listOf yn.toArray cc), (L + 1 + 1, o1), (L + 1, o2)]
def Pre17 (w : World) : Prop := ∀ (h₀ : Heap) (L : Addr) (o1 o2 : Obj) (m : Map) (Dn : Addr) (yn : List Value) (nn : List Int) (cc : Nat) (n_ m_ : Int) (tn tm : Tok) (row : Array UInt8) (tr : Tok) (d1 : Addr) (od1 : Obj) (kv1 : List (PySem.Str × Value)) (c1 : List (PySem.Str × Int)) (d2 : Addr) (od2 : Obj) (kv2 : List (PySem.Str × Value)) (c2 : List (PySem.Str × Int)) (tx : PySem.Str) (tt : Tok) (fx fd : Addr) (ft1 ft2 ft3 : Tok) (d3 : Addr) (od3 : Obj) (kv3 : List (PySem.Str × Value)) (sx sd : Addr) (st1 st2 st3 : Tok) (d4 : Addr) (od4 : Obj) (kv4 : List (PySem.Str × Value)) (d5 : Addr) (od5 : Obj) (kv5 : List (PySem.Str × Value)), o1.data = Data.cell none → o2.data = Data.cell none → IntsAre yn nn → 1 ≤ nn.length → nn.length ≤ 16 → (@Ne Nat Dn (L + 1 + 1) ∧ @Ne Nat Dn (L + 1)) → row.size ≤ 16 → (@LT.lt Nat _ Dn d1 ∧ @LT.lt Nat _ (L + 1 + 1) d1) → @LT.lt Nat _ d1 d2 → (d1 == sysModules) = false → od1.IsDictOf (strK w) kv1 → FlatPairs PyData.str kv1 (kdpD c1) → (d2 == sysModules) = false → od2.IsDictOf (strK w) kv2 → FlatPairs PyData.str kv2 (kdpD c2) → c1.length ≤ 4 → 1 ≤ c1.length → kdpHas c1 (Str.ofString "z") = false → c2.length ≤ 4 → tx.length ≤ 16 → @LT.lt Nat _ d2 d3 → @LT.lt Nat _ d3 fd → @LT.lt Nat _ fd fx → (d3 == sysModules) = false → od3.IsDictOf (strK w) kv3 → FlatPairs PyData.str kv3 (kdpD c1) → @LT.lt Nat _ fx d4 → @LT.lt Nat _ d4 sd → @LT.lt Nat _ sd sx → (d4 == sysModules) = false → od4.IsDictOf (strK w) kv4 → FlatPairs PyData.str kv4 (kdpD (putAll (putAll c1 c2) [(Str.ofString "b", m_.fmod 9)])) → @LT.lt Nat _ sx d5 → (d5 == sysModules) = false → od5.IsDictOf (strK w) kv5 → FlatPairs PyData.str kv5 (kdpD (putAll (putAll c1 c2) [(Str.ofString "b", m_.fmod 9)])) → m (Str.ofString "numbers") = some (.ref Dn) → m (Str.ofString "m") = some (.int m_ tm) → m (Str.ofString "n") = some (.int n_ tn) → m (Str.ofString "row") = some (.bytes row tr) → m (Str.ofString "one") = some (.ref d1) → m (Str.ofString "two") = some (.ref d2) → m (Str.ofString "text") = some (.str tx tt) → m (Str.ofString "first") = some (.ref fx) → m (Str.ofString "second") = some (.ref sx) → m (Str.ofString "due") = some (.ref d5) → LRest w 17 h₀ L m [(d5, od5), (sx, instObj 61 sd), (sd, dictOf [⟨PyData.keyHash w.params (Str.ofString "text"), .str (Str.ofString "text") st2, .str tx st1⟩, ⟨PyData.keyHash w.params (Str.ofString "_scope"), .str (Str.ofString "_scope") st3, .ref d4⟩] 2), (d4, od4), (fx, instObj 61 fd), (fd, dictOf [⟨PyData.keyHash w.params (Str.ofString "text"), .str (Str.ofString "text") ft2, .str tx ft1⟩, ⟨PyData.keyHash w.params (Str.ofString "_scope"), .str (Str.ofString "_scope") ft3, .ref d3⟩] 2), (d3, od3), (d2, od2), (d1, od1), (Dn, W.listOf yn.toArray cc), (L + 1 + 1, o1), (L + 1, o2)]
def Pre18 (w : World) : Prop := ∀ (h₀ : Heap) (L : Addr) (o1 o2 : Obj) (m : Map) (Dn : Addr) (yn : List Value) (nn : List Int) (cc : Nat) (n_ : Int) (tn : Tok) (row : Array UInt8) (tr : Tok) (d1 : Addr) (od1 : Obj) (kv1 : List (PySem.Str × Value)) (c1 : List (PySem.Str × Int)) (tx : PySem.Str) (tt : Tok), o1.data = Data.cell none → o2.data = Data.cell none → IntsAre yn nn → 1 ≤ nn.length → nn.length ≤ 16 → (@Ne Nat Dn (L + 1 + 1) ∧ @Ne Nat Dn (L + 1)) → row.size ≤ 16 → (@LT.lt Nat _ Dn d1 ∧ @LT.lt Nat _ (L + 1 + 1) d1) → (d1 == sysModules) = false → od1.IsDictOf (strK w) kv1 → FlatPairs PyData.str kv1 (kdpD c1) → c1.length ≤ 4 → 1 ≤ c1.length → kdpHas c1 (Str.ofString "z") = false → tx.length ≤ 16 → m (Str.ofString "numbers") = some (.ref Dn) → m (Str.ofString "n") = some (.int n_ tn) → m (Str.ofString "row") = some (.bytes row tr) → m (Str.ofString "one") = some (.ref d1) → m (Str.ofString "text") = some (.str tx tt) → LRest w 18 h₀ L m [(d1, od1), (Dn, W.listOf yn.toArray cc), (L + 1 + 1, o1), (L + 1, o2)]
def Pre19 (w : World) : Prop := ∀ (h₀ : Heap) (L : Addr) (o1 o2 : Obj) (m : Map) (Dn : Addr) (yn : List Value) (nn : List Int) (cc : Nat) (n_ : Int) (tn : Tok) (row : Array UInt8) (tr : Tok) (d1 : Addr) (od1 : Obj) (kv1 : List (PySem.Str × Value)) (c1 : List (PySem.Str × Int)) (tx : PySem.Str) (tt : Tok), o1.data = Data.cell none → o2.data = Data.cell none → IntsAre yn nn → 1 ≤ nn.length → nn.length ≤ 16 → (@Ne Nat Dn (L + 1 + 1) ∧ @Ne Nat Dn (L + 1)) → row.size ≤ 16 → (@LT.lt Nat _ Dn d1 ∧ @LT.lt Nat _ (L + 1 + 1) d1) → (d1 == sysModules) = false → od1.IsDictOf (strK w) kv1 → FlatPairs PyData.str kv1 (kdpD c1) → c1.length ≤ 4 → 1 ≤ c1.length → kdpHas c1 (Str.ofString "z") = false → tx.length ≤ 16 → m (Str.ofString "numbers") = some (.ref Dn) → m (Str.ofString "n") = some (.int n_ tn) → m (Str.ofString "row") = some (.bytes row tr) → m (Str.ofString "one") = some (.ref d1) → m (Str.ofString "text") = some (.str tx tt) → LRest w 19 h₀ L m [(d1, od1), (Dn, W.listOf yn.toArray cc), (L + 1 + 1, o1), (L + 1, o2)]
def Pre20 (w : World) : Prop := ∀ (h₀ : Heap) (L : Addr) (o1 o2 : Obj) (m : Map) (Dn : Addr) (yn : List Value) (nn : List Int) (cc : Nat) (n_ : Int) (tn : Tok) (row : Array UInt8) (tr : Tok) (d1 : Addr) (od1 : Obj) (kv1 : List (PySem.Str × Value)) (c1 : List (PySem.Str × Int)) (tx : PySem.Str) (tt : Tok) (lx : PySem.Str) (lt : Tok), o1.data = Data.cell none → o2.data = Data.cell none → IntsAre yn nn → 1 ≤ nn.length → nn.length ≤ 16 → (@Ne Nat Dn (L + 1 + 1) ∧ @Ne Nat Dn (L + 1)) → row.size ≤ 16 → (@LT.lt Nat _ Dn d1 ∧ @LT.lt Nat _ (L + 1 + 1) d1) → (d1 == sysModules) = false → od1.IsDictOf (strK w) kv1 → FlatPairs PyData.str kv1 (kdpD c1) → c1.length ≤ 4 → 1 ≤ c1.length → kdpHas c1 (Str.ofString "z") = false → tx.length ≤ 16 → lx.length ≤ 16 → m (Str.ofString "numbers") = some (.ref Dn) → m (Str.ofString "n") = some (.int n_ tn) → m (Str.ofString "row") = some (.bytes row tr) → m (Str.ofString "one") = some (.ref d1) → m (Str.ofString "text") = some (.str tx tt) → m (Str.ofString "letters") = some (.str lx lt) → LRest w 20 h₀ L m [(d1, od1), (Dn, W.listOf yn.toArray cc), (L + 1 + 1, o1), (L + 1, o2)]
def Pre21 (w : World) : Prop := ∀ (h₀ : Heap) (L : Addr) (o1 o2 : Obj) (m : Map) (Dn : Addr) (yn : List Value) (nn : List Int) (cc : Nat) (n_ : Int) (tn : Tok) (row : Array UInt8) (tr : Tok) (d1 : Addr) (od1 : Obj) (kv1 : List (PySem.Str × Value)) (c1 : List (PySem.Str × Int)) (tx : PySem.Str) (tt : Tok) (lx : PySem.Str) (lt : Tok) (gt : Tok), o1.data = Data.cell none → o2.data = Data.cell none → IntsAre yn nn → 1 ≤ nn.length → nn.length ≤ 16 → (@Ne Nat Dn (L + 1 + 1) ∧ @Ne Nat Dn (L + 1)) → row.size ≤ 16 → (@LT.lt Nat _ Dn d1 ∧ @LT.lt Nat _ (L + 1 + 1) d1) → (d1 == sysModules) = false → od1.IsDictOf (strK w) kv1 → FlatPairs PyData.str kv1 (kdpD c1) → c1.length ≤ 4 → 1 ≤ c1.length → kdpHas c1 (Str.ofString "z") = false → tx.length ≤ 16 → lx.length ≤ 16 → m (Str.ofString "numbers") = some (.ref Dn) → m (Str.ofString "n") = some (.int n_ tn) → m (Str.ofString "row") = some (.bytes row tr) → m (Str.ofString "one") = some (.ref d1) → m (Str.ofString "text") = some (.str tx tt) → m (Str.ofString "letters") = some (.str lx lt) → m (Str.ofString "flags") = some (.int 0 gt) → LRest w (20 + 1) h₀ L m [(d1, od1), (Dn, W.listOf yn.toArray cc), (L + 1 + 1, o1), (L + 1, o2)]
def Pre22 (w : World) : Prop := ∀ (h₀ : Heap) (L : Addr) (o1 o2 : Obj) (m : Map) (Dn : Addr) (yn : List Value) (nn : List Int) (cc : Nat) (n_ : Int) (tn : Tok) (row : Array UInt8) (tr : Tok) (d1 : Addr) (od1 : Obj) (kv1 : List (PySem.Str × Value)) (c1 : List (PySem.Str × Int)) (tx : PySem.Str) (tt : Tok) (lx : PySem.Str) (lt : Tok) (gt : Tok), o1.data = Data.cell none → o2.data = Data.cell none → IntsAre yn nn → 1 ≤ nn.length → nn.length ≤ 16 → (@Ne Nat Dn (L + 1 + 1) ∧ @Ne Nat Dn (L + 1)) → row.size ≤ 16 → (@LT.lt Nat _ Dn d1 ∧ @LT.lt Nat _ (L + 1 + 1) d1) → (d1 == sysModules) = false → od1.IsDictOf (strK w) kv1 → FlatPairs PyData.str kv1 (kdpD c1) → c1.length ≤ 4 → 1 ≤ c1.length → kdpHas c1 (Str.ofString "z") = false → tx.length ≤ 16 → lx.length ≤ 16 → m (Str.ofString "numbers") = some (.ref Dn) → m (Str.ofString "n") = some (.int n_ tn) → m (Str.ofString "row") = some (.bytes row tr) → m (Str.ofString "one") = some (.ref d1) → m (Str.ofString "text") = some (.str tx tt) → m (Str.ofString "letters") = some (.str lx lt) → m (Str.ofString "flags") = some (.int (flagsTo lx 6) gt) → LRest w 22 h₀ L m [(d1, od1), (Dn, W.listOf yn.toArray cc), (L + 1 + 1, o1), (L + 1, o2)]
def Pre23 (w : World) : Prop := ∀ (h₀ : Heap) (L : Addr) (o1 o2 : Obj) (m : Map) (Dn : Addr) (yn : List Value) (nn : List Int) (cc : Nat) (n_ : Int) (tn : Tok) (row : Array UInt8) (tr : Tok) (d1 : Addr) (od1 : Obj) (kv1 : List (PySem.Str × Value)) (c1 : List (PySem.Str × Int)) (tx : PySem.Str) (tt : Tok) (lx : PySem.Str) (lt : Tok) (gt : Tok), o1.data = Data.cell none → o2.data = Data.cell none → IntsAre yn nn → 1 ≤ nn.length → nn.length ≤ 16 → (@Ne Nat Dn (L + 1 + 1) ∧ @Ne Nat Dn (L + 1)) → row.size ≤ 16 → (@LT.lt Nat _ Dn d1 ∧ @LT.lt Nat _ (L + 1 + 1) d1) → (d1 == sysModules) = false → od1.IsDictOf (strK w) kv1 → FlatPairs PyData.str kv1 (kdpD c1) → c1.length ≤ 4 → 1 ≤ c1.length → kdpHas c1 (Str.ofString "z") = false → tx.length ≤ 16 → lx.length ≤ 16 → m (Str.ofString "numbers") = some (.ref Dn) → m (Str.ofString "n") = some (.int n_ tn) → m (Str.ofString "row") = some (.bytes row tr) → m (Str.ofString "one") = some (.ref d1) → m (Str.ofString "text") = some (.str tx tt) → m (Str.ofString "letters") = some (.str lx lt) → m (Str.ofString "flags") = some (.int (flagsTo lx 6) gt) → LRest w 23 h₀ L m [(d1, od1), (Dn, W.listOf yn.toArray cc), (L + 1 + 1, o1), (L + 1, o2)]
def Pre24 (w : World) : Prop := ∀ (h₀ : Heap) (L : Addr) (o1 o2 : Obj) (m : Map) (Dn : Addr) (yn : List Value) (nn : List Int) (cc : Nat) (n_ : Int) (tn : Tok) (row : Array UInt8) (tr : Tok) (d1 : Addr) (od1 : Obj) (kv1 : List (PySem.Str × Value)) (c1 : List (PySem.Str × Int)) (tx : PySem.Str) (tt : Tok), o1.data = Data.cell none → o2.data = Data.cell none → IntsAre yn nn → 1 ≤ nn.length → nn.length ≤ 16 → (@Ne Nat Dn (L + 1 + 1) ∧ @Ne Nat Dn (L + 1)) → row.size ≤ 16 → (@LT.lt Nat _ Dn d1 ∧ @LT.lt Nat _ (L + 1 + 1) d1) → (d1 == sysModules) = false → od1.IsDictOf (strK w) kv1 → FlatPairs PyData.str kv1 (kdpD c1) → c1.length ≤ 4 → 1 ≤ c1.length → kdpHas c1 (Str.ofString "z") = false → tx.length ≤ 16 → m (Str.ofString "numbers") = some (.ref Dn) → m (Str.ofString "n") = some (.int n_ tn) → m (Str.ofString "row") = some (.bytes row tr) → m (Str.ofString "one") = some (.ref d1) → m (Str.ofString "text") = some (.str tx tt) → LRest w 24 h₀ L m [(d1, od1), (Dn, W.listOf yn.toArray cc), (L + 1 + 1, o1), (L + 1, o2)]
def Pre25 (w : World) : Prop := ∀ (h₀ : Heap) (L : Addr) (o1 o2 : Obj) (m : Map) (Dn : Addr) (yn : List Value) (nn : List Int) (cc : Nat) (n_ : Int) (tn : Tok) (row : Array UInt8) (tr : Tok) (d1 : Addr) (od1 : Obj) (kv1 : List (PySem.Str × Value)) (c1 : List (PySem.Str × Int)) (tx : PySem.Str) (tt : Tok) (ob : Option PySem.Str) (tb : Tok), o1.data = Data.cell none → o2.data = Data.cell none → IntsAre yn nn → 1 ≤ nn.length → nn.length ≤ 16 → (@Ne Nat Dn (L + 1 + 1) ∧ @Ne Nat Dn (L + 1)) → row.size ≤ 16 → (@LT.lt Nat _ Dn d1 ∧ @LT.lt Nat _ (L + 1 + 1) d1) → (d1 == sysModules) = false → od1.IsDictOf (strK w) kv1 → FlatPairs PyData.str kv1 (kdpD c1) → c1.length ≤ 4 → 1 ≤ c1.length → kdpHas c1 (Str.ofString "z") = false → tx.length ≤ 16 → (ob = none ∨ ob = some tx) → m (Str.ofString "numbers") = some (.ref Dn) → m (Str.ofString "n") = some (.int n_ tn) → m (Str.ofString "row") = some (.bytes row tr) → m (Str.ofString "one") = some (.ref d1) → m (Str.ofString "text") = some (.str tx tt) → m (Str.ofString "base") = some (baseV ob tb) → LRest w 25 h₀ L m [(d1, od1), (Dn, W.listOf yn.toArray cc), (L + 1 + 1, o1), (L + 1, o2)]
def Pre26 (w : World) : Prop := ∀ (h₀ : Heap) (L : Addr) (o1 o2 : Obj) (m : Map) (Dn : Addr) (yn : List Value) (nn : List Int) (cc : Nat) (n_ : Int) (tn : Tok) (row : Array UInt8) (tr : Tok) (d1 : Addr) (od1 : Obj) (kv1 : List (PySem.Str × Value)) (c1 : List (PySem.Str × Int)) (tx : PySem.Str) (tt : Tok) (ob : Option PySem.Str) (tb : Tok), o1.data = Data.cell none → o2.data = Data.cell none → IntsAre yn nn → 1 ≤ nn.length → nn.length ≤ 16 → (@Ne Nat Dn (L + 1 + 1) ∧ @Ne Nat Dn (L + 1)) → row.size ≤ 16 → (@LT.lt Nat _ Dn d1 ∧ @LT.lt Nat _ (L + 1 + 1) d1) → (d1 == sysModules) = false → od1.IsDictOf (strK w) kv1 → FlatPairs PyData.str kv1 (kdpD c1) → c1.length ≤ 4 → 1 ≤ c1.length → kdpHas c1 (Str.ofString "z") = false → tx.length ≤ 16 → (ob = none ∨ ob = some tx) → m (Str.ofString "numbers") = some (.ref Dn) → m (Str.ofString "n") = some (.int n_ tn) → m (Str.ofString "row") = some (.bytes row tr) → m (Str.ofString "one") = some (.ref d1) → m (Str.ofString "text") = some (.str tx tt) → m (Str.ofString "base") = some (baseV ob tb) → LRest w 26 h₀ L m [(d1, od1), (Dn, W.listOf yn.toArray cc), (L + 1 + 1, o1), (L + 1, o2)]
def Pre27 (w : World) : Prop := ∀ (h₀ : Heap) (L : Addr) (o1 o2 : Obj) (m : Map) (Dn : Addr) (yn : List Value) (nn : List Int) (cc : Nat) (n_ : Int) (tn : Tok) (row : Array UInt8) (tr : Tok) (d1 : Addr) (od1 : Obj) (kv1 : List (PySem.Str × Value)) (c1 : List (PySem.Str × Int)) (tx : PySem.Str) (tt : Tok) (ob : Option PySem.Str) (tb : Tok) (rx rd rk : Addr) (rt1 rt2 rt3 rt4 rt5 rt6 rt7 : Tok) (ork : Obj) (kvr : List (PySem.Str × Value)), o1.data = Data.cell none → IntsAre yn nn → 1 ≤ nn.length → nn.length ≤ 16 → (@Ne Nat Dn (L + 1 + 1) ∧ @Ne Nat Dn (L + 1)) → row.size ≤ 16 → (@LT.lt Nat _ Dn d1 ∧ @LT.lt Nat _ (L + 1 + 1) d1) → (d1 == sysModules) = false → od1.IsDictOf (strK w) kv1 → FlatPairs PyData.str kv1 (kdpD c1) → c1.length ≤ 4 → 1 ≤ c1.length → kdpHas c1 (Str.ofString "z") = false → tx.length ≤ 16 → (ob = none ∨ ob = some tx) → o2.data = Data.cell (some (.ref rx)) → @LT.lt Nat _ d1 rd → @LT.lt Nat _ rd rx → @LT.lt Nat _ rx rk → (rk == sysModules) = false → ork.IsDictOf (strK w) kvr → FlatPairs PyData.str kvr (kdpD c1) → m (Str.ofString "numbers") = some (.ref Dn) → m (Str.ofString "n") = some (.int n_ tn) → m (Str.ofString "row") = some (.bytes row tr) → m (Str.ofString "one") = some (.ref d1) → m (Str.ofString "text") = some (.str tx tt) → m (Str.ofString "base") = some (baseV ob tb) → LRest w 27 h₀ L m [(rx, instObj 261 rd), (rd, dictOf [⟨PyData.keyHash w.params (Str.ofString "_collection"), .str (Str.ofString "_collection") rt2, .str tx rt1⟩, ⟨PyData.keyHash w.params (Str.ofString "_id"), .str (Str.ofString "_id") rt4, .int n_ rt3⟩, ⟨PyData.keyHash w.params (Str.ofString "_database"), .str (Str.ofString "_database") rt6, baseV ob rt5⟩, ⟨PyData.keyHash w.params (Str.ofString "_kwargs"), .str (Str.ofString "_kwargs") rt7, .ref rk⟩] 4), (rk, ork), (d1, od1), (Dn, W.listOf yn.toArray cc), (L + 1 + 1, o1), (L + 1, o2)]
def Pre28 (w : World) : Prop := ∀ (h₀ : Heap) (L : Addr) (o1 o2 : Obj) (m : Map) (Dn : Addr) (yn : List Value) (nn : List Int) (cc : Nat) (n_ : Int) (tn : Tok) (row : Array UInt8) (tr : Tok) (d1 : Addr) (od1 : Obj) (kv1 : List (PySem.Str × Value)) (c1 : List (PySem.Str × Int)) (tx : PySem.Str) (tt : Tok) (ob : Option PySem.Str) (tb : Tok) (rx rd rk : Addr) (rt1 rt2 rt3 rt4 rt5 rt6 rt7 : Tok) (ork : Obj) (kvr : List (PySem.Str × Value)) (oD : Addr) (on : Nat) (x1 e1 k1 : Addr) (q1t1 q1t2 q1t3 q1t4 q1t5 q1t6 q1t7 : Tok) (ok1 : Obj) (kw1 : List (PySem.Str × Value)) (x2 e2 k2 : Addr) (q2t1 q2t2 q2t3 q2t4 q2t5 q2t6 q2t7 : Tok) (ok2 : Obj) (kw2 : List (PySem.Str × Value)) (x3 e3 k3 : Addr) (q3t1 q3t2 q3t3 q3t4 q3t5 q3t6 q3t7 : Tok) (ok3 : Obj) (kw3 : List (PySem.Str × Value)) (x4 e4 k4 : Addr) (q4t1 q4t2 q4t3 q4t4 q4t5 q4t6 q4t7 : Tok) (ok4 : Obj) (kw4 : List (PySem.Str × Value)) (x5 e5 k5 : Addr) (q5t1 q5t2 q5t3 q5t4 q5t5 q5t6 q5t7 : Tok) (ok5 : Obj) (kw5 : List (PySem.Str × Value)) (x6 e6 k6 : Addr) (q6t1 q6t2 q6t3 q6t4 q6t5 q6t6 q6t7 : Tok) (ok6 : Obj) (kw6 : List (PySem.Str × Value)), o1.data = Data.cell none → IntsAre yn nn → 1 ≤ nn.length → nn.length ≤ 16 → (@Ne Nat Dn (L + 1 + 1) ∧ @Ne Nat Dn (L + 1)) → row.size ≤ 16 → (@LT.lt Nat _ Dn d1 ∧ @LT.lt Nat _ (L + 1 + 1) d1) → (d1 == sysModules) = false → od1.IsDictOf (strK w) kv1 → FlatPairs PyData.str kv1 (kdpD c1) → c1.length ≤ 4 → 1 ≤ c1.length → kdpHas c1 (Str.ofString "z") = false → tx.length ≤ 16 → (ob = none ∨ ob = some tx) → o2.data = Data.cell (some (.ref rx)) → @LT.lt Nat _ d1 rd → @LT.lt Nat _ rd rx → @LT.lt Nat _ rx rk → (rk == sysModules) = false → ork.IsDictOf (strK w) kvr → FlatPairs PyData.str kvr (kdpD c1) → @LT.lt Nat _ rk k1 → (k1 == sysModules) = false → ok1.IsDictOf (strK w) kw1 → FlatPairs PyData.str kw1 (kdpD (c1)) → @LT.lt Nat _ rk k2 → (k2 == sysModules) = false → ok2.IsDictOf (strK w) kw2 → FlatPairs PyData.str kw2 (kdpD (c1)) → @LT.lt Nat _ rk k3 → (k3 == sysModules) = false → ok3.IsDictOf (strK w) kw3 → FlatPairs PyData.str kw3 (kdpD (c1)) → @LT.lt Nat _ rk k4 → (k4 == sysModules) = false → ok4.IsDictOf (strK w) kw4 → FlatPairs PyData.str kw4 (kdpD (c1)) → @LT.lt Nat _ rk k5 → (k5 == sysModules) = false → ok5.IsDictOf (strK w) kw5 → FlatPairs PyData.str kw5 (kdpD (c1 ++ [(Str.ofString "z", 1)])) → @LT.lt Nat _ rk k6 → (k6 == sysModules) = false → ok6.IsDictOf (strK w) kw6 → FlatPairs PyData.str kw6 (kdpD ([(Str.ofString "z", 1)])) → m (Str.ofString "numbers") = some (.ref Dn) → m (Str.ofString "n") = some (.int n_ tn) → m (Str.ofString "row") = some (.bytes row tr) → m (Str.ofString "one") = some (.ref d1) → m (Str.ofString "text") = some (.str tx tt) → m (Str.ofString "base") = some (baseV ob tb) → m (Str.ofString "others") = some (.ref oD) → LRest w 28 h₀ L m [(oD, W.listOf [.ref x1, .ref x2, .ref x3, .ref x4, .ref x5, .ref x6].toArray on), (x6, instObj 261 e6), (e6, dictOf [⟨PyData.keyHash w.params (Str.ofString "_collection"), .str (Str.ofString "_collection") q6t2, .str tx q6t1⟩, ⟨PyData.keyHash w.params (Str.ofString "_id"), .str (Str.ofString "_id") q6t4, .int n_ q6t3⟩, ⟨PyData.keyHash w.params (Str.ofString "_database"), .str (Str.ofString "_database") q6t6, baseV ob q6t5⟩, ⟨PyData.keyHash w.params (Str.ofString "_kwargs"), .str (Str.ofString "_kwargs") q6t7, .ref k6⟩] 4), (k6, ok6), (x5, instObj 261 e5), (e5, dictOf [⟨PyData.keyHash w.params (Str.ofString "_collection"), .str (Str.ofString "_collection") q5t2, .str tx q5t1⟩, ⟨PyData.keyHash w.params (Str.ofString "_id"), .str (Str.ofString "_id") q5t4, .int n_ q5t3⟩, ⟨PyData.keyHash w.params (Str.ofString "_database"), .str (Str.ofString "_database") q5t6, baseV ob q5t5⟩, ⟨PyData.keyHash w.params (Str.ofString "_kwargs"), .str (Str.ofString "_kwargs") q5t7, .ref k5⟩] 4), (k5, ok5), (x4, instObj 261 e4), (e4, dictOf [⟨PyData.keyHash w.params (Str.ofString "_collection"), .str (Str.ofString "_collection") q4t2, .str tx q4t1⟩, ⟨PyData.keyHash w.params (Str.ofString "_id"), .str (Str.ofString "_id") q4t4, .int n_ q4t3⟩, ⟨PyData.keyHash w.params (Str.ofString "_database"), .str (Str.ofString "_database") q4t6, .str (tx ++ Str.ofString "y") q4t5⟩, ⟨PyData.keyHash w.params (Str.ofString "_kwargs"), .str (Str.ofString "_kwargs") q4t7, .ref k4⟩] 4), (k4, ok4), (x3, instObj 261 e3), (e3, dictOf [⟨PyData.keyHash w.params (Str.ofString "_collection"), .str (Str.ofString "_collection") q3t2, .str tx q3t1⟩, ⟨PyData.keyHash w.params (Str.ofString "_id"), .str (Str.ofString "_id") q3t4, .int (n_ + 1) q3t3⟩, ⟨PyData.keyHash w.params (Str.ofString "_database"), .str (Str.ofString "_database") q3t6, baseV ob q3t5⟩, ⟨PyData.keyHash w.params (Str.ofString "_kwargs"), .str (Str.ofString "_kwargs") q3t7, .ref k3⟩] 4), (k3, ok3), (x2, instObj 261 e2), (e2, dictOf [⟨PyData.keyHash w.params (Str.ofString "_collection"), .str (Str.ofString "_collection") q2t2, .str (tx ++ Str.ofString "x") q2t1⟩, ⟨PyData.keyHash w.params (Str.ofString "_id"), .str (Str.ofString "_id") q2t4, .int n_ q2t3⟩, ⟨PyData.keyHash w.params (Str.ofString "_database"), .str (Str.ofString "_database") q2t6, baseV ob q2t5⟩, ⟨PyData.keyHash w.params (Str.ofString "_kwargs"), .str (Str.ofString "_kwargs") q2t7, .ref k2⟩] 4), (k2, ok2), (x1, instObj 261 e1), (e1, dictOf [⟨PyData.keyHash w.params (Str.ofString "_collection"), .str (Str.ofString "_collection") q1t2, .str tx q1t1⟩, ⟨PyData.keyHash w.params (Str.ofString "_id"), .str (Str.ofString "_id") q1t4, .int n_ q1t3⟩, ⟨PyData.keyHash w.params (Str.ofString "_database"), .str (Str.ofString "_database") q1t6, baseV ob q1t5⟩, ⟨PyData.keyHash w.params (Str.ofString "_kwargs"), .str (Str.ofString "_kwargs") q1t7, .ref k1⟩] 4), (k1, ok1), (rx, instObj 261 rd), (rd, dictOf [⟨PyData.keyHash w.params (Str.ofString "_collection"), .str (Str.ofString "_collection") rt2, .str tx rt1⟩, ⟨PyData.keyHash w.params (Str.ofString "_id"), .str (Str.ofString "_id") rt4, .int n_ rt3⟩, ⟨PyData.keyHash w.params (Str.ofString "_database"), .str (Str.ofString "_database") rt6, baseV ob rt5⟩, ⟨PyData.keyHash w.params (Str.ofString "_kwargs"), .str (Str.ofString "_kwargs") rt7, .ref rk⟩] 4), (rk, ork), (d1, od1), (Dn, W.listOf yn.toArray cc), (L + 1 + 1, o1), (L + 1, o2)]
def Pre29 (w : World) : Prop := ∀ (h₀ : Heap) (L : Addr) (o1 o2 : Obj) (m : Map) (Dn : Addr) (yn : List Value) (nn : List Int) (cc : Nat) (n_ : Int) (tn : Tok) (row : Array UInt8) (tr : Tok) (d1 : Addr) (od1 : Obj) (kv1 : List (PySem.Str × Value)) (c1 : List (PySem.Str × Int)) (tx : PySem.Str) (tt : Tok) (ob : Option PySem.Str) (tb : Tok) (rx rd rk : Addr) (rt1 rt2 rt3 rt4 rt5 rt6 rt7 : Tok) (ork : Obj) (kvr : List (PySem.Str × Value)), o1.data = Data.cell none → IntsAre yn nn → 1 ≤ nn.length → nn.length ≤ 16 → (@Ne Nat Dn (L + 1 + 1) ∧ @Ne Nat Dn (L + 1)) → row.size ≤ 16 → (@LT.lt Nat _ Dn d1 ∧ @LT.lt Nat _ (L + 1 + 1) d1) → (d1 == sysModules) = false → od1.IsDictOf (strK w) kv1 → FlatPairs PyData.str kv1 (kdpD c1) → c1.length ≤ 4 → 1 ≤ c1.length → kdpHas c1 (Str.ofString "z") = false → tx.length ≤ 16 → (ob = none ∨ ob = some tx) → o2.data = Data.cell (some (.ref rx)) → @LT.lt Nat _ d1 rd → @LT.lt Nat _ rd rx → @LT.lt Nat _ rx rk → (rk == sysModules) = false → ork.IsDictOf (strK w) kvr → FlatPairs PyData.str kvr (kdpD c1) → m (Str.ofString "numbers") = some (.ref Dn) → m (Str.ofString "n") = some (.int n_ tn) → m (Str.ofString "row") = some (.bytes row tr) → m (Str.ofString "one") = some (.ref d1) → m (Str.ofString "text") = some (.str tx tt) → m (Str.ofString "base") = some (baseV ob tb) → LRest w 29 h₀ L m [(rx, instObj 261 rd), (rd, dictOf [⟨PyData.keyHash w.params (Str.ofString "_collection"), .str (Str.ofString "_collection") rt2, .str tx rt1⟩, ⟨PyData.keyHash w.params (Str.ofString "_id"), .str (Str.ofString "_id") rt4, .int n_ rt3⟩, ⟨PyData.keyHash w.params (Str.ofString "_database"), .str (Str.ofString "_database") rt6, baseV ob rt5⟩, ⟨PyData.keyHash w.params (Str.ofString "_kwargs"), .str (Str.ofString "_kwargs") rt7, .ref rk⟩] 4), (rk, ork), (d1, od1), (Dn, W.listOf yn.toArray cc), (L + 1 + 1, o1), (L + 1, o2)]
def Pre30 (w : World) : Prop := ∀ (h₀ : Heap) (L : Addr) (o1 o2 : Obj) (m : Map) (Dn : Addr) (yn : List Value) (nn : List Int) (cc : Nat) (n_ : Int) (tn : Tok) (row : Array UInt8) (tr : Tok) (d1 : Addr) (od1 : Obj) (kv1 : List (PySem.Str × Value)) (c1 : List (PySem.Str × Int)) (tx : PySem.Str) (tt : Tok) (ob : Option PySem.Str) (tb : Tok) (rx rd rk : Addr) (rt1 rt2 rt3 rt4 rt5 rt6 rt7 : Tok) (ork : Obj) (kvr : List (PySem.Str × Value)), o1.data = Data.cell none → IntsAre yn nn → 1 ≤ nn.length → nn.length ≤ 16 → (@Ne Nat Dn (L + 1 + 1) ∧ @Ne Nat Dn (L + 1)) → row.size ≤ 16 → (@LT.lt Nat _ Dn d1 ∧ @LT.lt Nat _ (L + 1 + 1) d1) → (d1 == sysModules) = false → od1.IsDictOf (strK w) kv1 → FlatPairs PyData.str kv1 (kdpD c1) → c1.length ≤ 4 → 1 ≤ c1.length → kdpHas c1 (Str.ofString "z") = false → tx.length ≤ 16 → (ob = none ∨ ob = some tx) → o2.data = Data.cell (some (.ref rx)) → @LT.lt Nat _ d1 rd → @LT.lt Nat _ rd rx → @LT.lt Nat _ rx rk → (rk == sysModules) = false → ork.IsDictOf (strK w) kvr → FlatPairs PyData.str kvr (kdpD c1) → m (Str.ofString "numbers") = some (.ref Dn) → m (Str.ofString "n") = some (.int n_ tn) → m (Str.ofString "row") = some (.bytes row tr) → m (Str.ofString "one") = some (.ref d1) → m (Str.ofString "text") = some (.str tx tt) → m (Str.ofString "base") = some (baseV ob tb) → LRest w 30 h₀ L m [(rx, instObj 261 rd), (rd, dictOf [⟨PyData.keyHash w.params (Str.ofString "_collection"), .str (Str.ofString "_collection") rt2, .str tx rt1⟩, ⟨PyData.keyHash w.params (Str.ofString "_id"), .str (Str.ofString "_id") rt4, .int n_ rt3⟩, ⟨PyData.keyHash w.params (Str.ofString "_database"), .str (Str.ofString "_database") rt6, baseV ob rt5⟩, ⟨PyData.keyHash w.params (Str.ofString "_kwargs"), .str (Str.ofString "_kwargs") rt7, .ref rk⟩] 4), (rk, ork), (d1, od1), (Dn, W.listOf yn.toArray cc), (L + 1 + 1, o1), (L + 1, o2)]
def Pre31 (w : World) : Prop := ∀ (h₀ : Heap) (L : Addr) (o1 o2 : Obj) (m : Map)  (d1 : Addr) (od1 : Obj) (kv1 : List (PySem.Str × Value)) (c1 : List (PySem.Str × Int)) (row : Array UInt8) (tx : PySem.Str) (n_ : Int) (ob : Option PySem.Str) (vt1 vt2 : Tok) (rx rd rk : Addr) (rt1 rt2 rt3 rt4 rt5 rt6 rt7 : Tok) (vD : Addr) (vn : Nat) (xb yb : Addr) (bk0 bk1 bk8 bk9 : Tok) (xc yc : Addr) (ck0 ck1 ck9 : Tok) (xg yg : Addr) (gk0 gk1 gk8 gk9 : Tok) (xa ya : Addr) (ak0 ak9 : Tok) (xi yi : Addr) (ik0 ik9 : Tok) (xn yn : Addr) (xw yw : Addr) (xo yo : Addr) (ok0 ok9 : Tok) (xs ys : Addr) (sk0 sk1 sk8 sk9 : Tok), row.size ≤ 16 → tx.length ≤ 16 → (d1 == sysModules) = false → od1.IsDictOf (strK w) kv1 → FlatPairs PyData.str kv1 (kdpD c1) → c1.length ≤ 4 → 1 ≤ c1.length → o1.data = Data.cell (some (.ref vD)) → m (Str.ofString "one") = some (.ref d1) → LRest w 31 h₀ L m [(vD, W.listOf [.ref xb, .ref xc, .ref xg, .ref rx, .ref xa, .ref xi, .ref xn, .ref xw, .ref xo, .ref xs, .bytes row vt1, .str tx vt2, .none].toArray vn), (xb, instObj 144 yb), (yb, dictOf [⟨PyData.keyHash w.params (Str.ofString "data"), .str (Str.ofString "data") bk0, .bytes row bk9⟩, ⟨PyData.keyHash w.params (Str.ofString "_subtype"), .str (Str.ofString "_subtype") bk1, .int 0 bk8⟩] 2), (xc, instObj 61 yc), (yc, dictOf [⟨PyData.keyHash w.params (Str.ofString "text"), .str (Str.ofString "text") ck0, .str tx ck9⟩, ⟨PyData.keyHash w.params (Str.ofString "_scope"), .str (Str.ofString "_scope") ck1, .none⟩] 2), (xg, instObj 626 yg), (yg, dictOf [⟨PyData.keyHash w.params (Str.ofString "pattern"), .str (Str.ofString "pattern") gk0, .str tx gk9⟩, ⟨PyData.keyHash w.params (Str.ofString "flags"), .str (Str.ofString "flags") gk1, .int 0 gk8⟩] 2), (rx, instObj 261 rd), (rd, dictOf [⟨PyData.keyHash w.params (Str.ofString "_collection"), .str (Str.ofString "_collection") rt2, .str tx rt1⟩, ⟨PyData.keyHash w.params (Str.ofString "_id"), .str (Str.ofString "_id") rt4, .int n_ rt3⟩, ⟨PyData.keyHash w.params (Str.ofString "_database"), .str (Str.ofString "_database") rt6, baseV ob rt5⟩, ⟨PyData.keyHash w.params (Str.ofString "_kwargs"), .str (Str.ofString "_kwargs") rt7, .ref rk⟩] 4), (xa, instObj 201 ya), (ya, dictOf [⟨PyData.keyHash w.params (Str.ofString "_value"), .str (Str.ofString "_value") ak0, .int 5 ak9⟩] 1), (xi, instObj 344 yi), (yi, dictOf [⟨PyData.keyHash w.params (Str.ofString "value"), .str (Str.ofString "value") ik0, .int 5 ik9⟩] 1), (xn, instObj 470 yn), (yn, dictOf [] 0), (xw, instObj 407 yw), (yw, dictOf [] 0), (xo, instObj 583 yo), (yo, dictOf [⟨PyData.keyHash w.params (Str.ofString "_id"), .str (Str.ofString "_id") ok0, .bytes (Array.replicate 12 0) ok9⟩] 1), (xs, instObj 705 ys), (ys, dictOf [⟨PyData.keyHash w.params (Str.ofString "_time"), .str (Str.ofString "_time") sk0, .int 5 sk9⟩, ⟨PyData.keyHash w.params (Str.ofString "_inc"), .str (Str.ofString "_inc") sk1, .int 5 sk8⟩] 2), (d1, od1), (L + 1 + 1, o1), (L + 1, o2)]
def Pre32 (w : World) : Prop := ∀ (h₀ : Heap) (L : Addr) (o1 o2 : Obj) (m : Map)  (d1 : Addr) (od1 : Obj) (kv1 : List (PySem.Str × Value)) (c1 : List (PySem.Str × Int)), (d1 == sysModules) = false → od1.IsDictOf (strK w) kv1 → FlatPairs PyData.str kv1 (kdpD c1) → c1.length ≤ 4 → 1 ≤ c1.length → m (Str.ofString "one") = some (.ref d1) → LRest w 32 h₀ L m [(d1, od1), (L + 1 + 1, o1), (L + 1, o2)]
def Pre33 (w : World) : Prop := ∀ (h₀ : Heap) (L : Addr) (o1 o2 : Obj) (m : Map)  (d1 : Addr) (od1 : Obj) (kv1 : List (PySem.Str × Value)) (c1 : List (PySem.Str × Int)) (fx tt dx : Addr) (u : Tok), (d1 == sysModules) = false → od1.IsDictOf (strK w) kv1 → FlatPairs PyData.str kv1 (kdpD c1) → c1.length ≤ 4 → 1 ≤ c1.length → @LT.lt Nat _ d1 fx → @LT.lt Nat _ fx dx → m (Str.ofString "one") = some (.ref d1) → m (Str.ofString "fault") = some (.ref fx) → LRest w 33 h₀ L m [(dx, dictOf [⟨PyData.keyHash w.params (Str.ofString "_document"), .str (Str.ofString "_document") u, .ref d1⟩] 1), (fx, { cls := .ref 306, dict := some dx, data := .fields #[.ref tt, .none, .none, .none, .bool false, .none] }), (d1, od1), (L + 1 + 1, o1), (L + 1, o2)]
end Mine

end
-- K2
section
open PySem PySem.Calls PySem.W PyProof.Rows PyProof.V PySem.Spec
namespace Mine
def AllNe (d : Addr) : Led → Prop
  | [] => True
  | p :: r => @Ne Nat p.1 d ∧ AllNe d r
theorem allNe_of {d : Addr} : ∀ {l : Led}, (∀ p ∈ l, p.1 ≠ d) → AllNe d l
  | [], _ => trivial
  | p :: _, h => ⟨h p (.head _), allNe_of fun q hq => h q (.tail _ hq)⟩
theorem putAll_nil_r (c : List (PySem.Str × Int)) : putAll c [] = c := rfl
theorem keys_of {w : World} {kvs : List (PySem.Str × Value)} {c : List (PySem.Str × Int)} (hf : FlatPairs PyData.str kvs (kdpD c)) : kvs.map (·.1) = c.map (·.1) := by
  have : ∀ {kvs : List (PySem.Str × Value)} {D : List (PyData × PyData)}, FlatPairs PyData.str kvs D → ∀ c, D = kdpD c → kvs.map (·.1) = c.map (·.1) := by
    intro kvs D hf
    induction hf with
    | nil => intro c e; cases c with
      | nil => rfl
      | cons => cases e
    | cons _ _ ih =>
      intro c e
      cases c with
      | nil => cases e
      | cons p c =>
        injection e with e1 e2
        injection e1 with e1 _
        injection e1 with e1
        simp only [List.map_cons, ih c e2, e1]
  exact this hf c rfl
theorem strs_of {prog : Program} {w : World} : ∀ {kvs : List (PySem.Str × Value)} {vs : List Value}, vs.length = kvs.length → (∀ (j : Nat) (v : Value), vs[j]? = some v → ∃ k x, kvs[j]? = some (k, x) ∧ (PySem.strKind prog w).is k v = true) → StrsAre vs (kvs.map (·.1))
  | [], [], _, _ => .nil
  | [], _ :: _, hl, _ => by simp at hl
  | _ :: _, [], hl, _ => by simp at hl
  | (k, x) :: kvs, v :: vs, hl, h => by
    obtain ⟨k', x', e, hk⟩ := h 0 v rfl
    have e' : (k, x) = (k', x') := Option.some.inj e
    injection e' with e1 e2
    subst e1
    obtain ⟨t, rfl⟩ := Value.isStrOf_shape hk
    exact .cons k t (strs_of (by simpa using hl) fun j v hj => h (j + 1) v hj)
theorem paired_eq : ∀ {xs ys : List Value}, Paired (fun v y => y = v) xs ys → ys = xs
  | _, _, .nil => rfl
  | _, _, .cons h t => by rw [h, paired_eq t]
/-- the dict whose keys a comprehension gives -/
def KeysSrc (prog : Program) (w : World) (A : Around) (Q : Value → Shared → Prop) (xv : Value) (s₁ : Shared) : Prop :=
  ∃ (d : Addr) (o : Obj) (kvs : List (PySem.Str × Value)) (c : List (PySem.Str × Int)) (h₀ : Heap) (L : Addr) (m : Map) (news : Led), xv = .ref d ∧ A.handled = none ∧ (d == sysModules) = false ∧ o.IsDictOf (PySem.strKind prog w) kvs ∧ FlatPairs PyData.str kvs (kdpD c) ∧ c.length ≤ 100 ∧ (d, o) ∈ news ∧
    Fr h₀ L s₁.heap m ∧ News h₀ L s₁.heap news ∧ ∀ D h' tk ys n, StrsAre ys (c.map (·.1)) → Fr h₀ L h' m → News h₀ L h' ((D, W.listOf ys.toArray n) :: news) → (∀ p ∈ news, p.1 ≠ D) → Q (.ref D) { s₁ with heap := h', toks := tk }
section
variable {prog : Program} {w : World} {A : Around} {E : Value → Shared → Prop} {s : Shared} {Q : Value → Shared → Prop}
theorem KeysSrc.intro {d : Addr} {o : Obj} {kvs : List (PySem.Str × Value)} {c : List (PySem.Str × Int)} {h₀ : Heap} {L : Addr} {m : Map} {news : Led} {s₁ : Shared} (hh : A.handled = none) (lo : (d == sysModules) = false) (F : Fr h₀ L s₁.heap m) (N : News h₀ L s₁.heap news) (hm : (d, o) ∈ news) (hd : o.IsDictOf (PySem.strKind prog w) kvs) (hf : FlatPairs PyData.str kvs (kdpD c)) (hc : c.length ≤ 100)
    (h : ∀ D h' tk ys n, StrsAre ys (c.map (·.1)) → Fr h₀ L h' m → News h₀ L h' ((D, W.listOf ys.toArray n) :: news) → (∀ p ∈ news, p.1 ≠ D) → Q (.ref D) { s₁ with heap := h', toks := tk }) : KeysSrc prog w A Q (.ref d) s₁ := ⟨d, o, kvs, c, h₀, L, m, news, rfl, hh, lo, hd, hf, hc, hm, F, N, h⟩
theorem comp_keys {env : Env} {x : PySem.Str} {px px2 pos : Pos} {iter : PySem.Expr} {scope : Scope} (hfree : ∀ y ∈ scope.names, y.2 ≠ .free) (hcell : ∀ y ∈ scope.names, y.2 ≠ .cell) (hkind : scope.kind = .function)
    (hnames : ∀ y ∈ scope.names, y.2 = .local → scope.names.lookup y.1 = some .local) (hx : scope.names.lookup x = some .local) (hdb : (x == ("__debug__" : PySem.Str)) = false)
    (h : wpAny (model prog w) A (eval iter env) (KeysSrc prog w A Q) E s) (hs : ∀ x, foldedSetIterable iter env x = pure x) :
    wpAny (model prog w) A (eval (.ListComp (.Name x px2) [⟨.Name x px, iter, [], 0⟩] scope pos) env) Q E s := by
  refine wpAny_ListComp_walk (fun _ => true) (fun v y => y = v) hfree hcell hkind hnames hx (wpAny_mono h (fun xv s₁ h₁ => ?_) fun _ _ e => e) hs
  obtain ⟨d, o, kvs, c, h₀, L, m, news, rfl, hh, lo, hd, hf, hc, hm, F, N, hQ⟩ := h₁
  obtain ⟨ep, hk⟩ := KdkAt.of hd
  have hat := hk.dictAt (N _ hm).1
  have hlen : kvs.length = c.length := by rw [← kdpD_length c, ← hf.length]
  refine wpAny_pyIter_dict lo hat ?_
  have hne : d ≠ s₁.heap.objs.size := Nat.ne_of_lt hat.lt_size
  refine ⟨s₁.heap.objs.size, [s₁.heap.objs.size, d], [s₁.heap.objs.size], kvs.length, _, _, rfl, Walks.dictKeys (knd := PySem.strKind prog w) hh _ d hne kvs ep, ?_, ⟨⟨_, Heap.get?_push_size _ rfl, rfl, rfl⟩, hat.push _⟩, ?_, ⟨?_, ?_⟩, ?_⟩
  · rw [hlen, sizeLine_eq]; omega
  · intro b hb
    show b < (s₁.heap.push _).objs.size
    rw [Heap.size_push]
    rcases List.mem_cons.mp hb with rfl | hb
    · exact Nat.lt_succ_self _
    · rw [List.mem_singleton.mp hb]
      exact Nat.lt_succ_of_lt hat.lt_size
  · intro C i v s₃ m₃ E' _ _ _ _ _
    exact wpAny_pure ⟨rfl, s₃.heap, s₃.toks, rfl, fun _ _ e => e⟩
  · intro C i v s₃ m₃ E' _ _ hn hmx _ _
    exact wpAny_Name (wpAny_loadName_local (env := compEnv scope C env) hkind (by simp [compEnv, Env.kindOf, hx, hkind]) hn hmx ⟨rfl, s₃.heap, s₃.toks, rfl, fun _ _ e => e⟩) hdb
  · intro D h' tk ys vs hD hl hpl hlen2 hP hF hkp
    have ef : vs.filter (fun _ => true) = vs := by simp
    rw [ef] at hF
    have ey := paired_eq hF
    have hst : StrsAre ys.toList (c.map (·.1)) := by
      rw [ey, ← keys_of (w := w) hf]
      exact strs_of hlen2 hP
    obtain ⟨n, hDn⟩ := hpl
    have keep : ∀ b o, s₁.heap.get? b = some o → h'.get? b = some o := fun b o e => hkp b o (fun hb => by
      rw [List.mem_singleton.mp hb] at e
      exact absurd (Heap.lt_size e) (Nat.lt_irrefl _)) (Heap.get?_push_of_some _ e)
    have hD1 : s₁.heap.get? D = none := by
      cases e : s₁.heap.get? D with
      | none => rfl
      | some o' => rw [Heap.get?_push_of_some _ e] at hD; cases hD
    refine hQ D h' tk ys.toList n hst (F.keeps keep) (fun p hp => ?_) (fun p hp e => ?_)
    · rcases List.mem_cons.mp hp with rfl | hp
      · refine ⟨by simpa [W.listOf] using hDn, fun e => ?_, ?_⟩
        · obtain ⟨oL, _, _, hL, _⟩ := F.ns
          have e' : D = L := e
          rw [e', hL] at hD1; cases hD1
        · cases e : h₀.get? D with
          | none => rfl
          | some o' => rw [F.keep _ _ e] at hD1; cases hD1
      · exact ⟨keep _ _ (N p hp).1, (N p hp).2⟩
    · rw [← e, (N p hp).1] at hD1; cases hD1
end
end Mine
namespace Mine
section
variable {prog : Program} {w : World} {A : Around} {E : Value → Shared → Prop} {s : Shared} {h₀ : Heap} {L d d₂ : Addr} {m : Map} {news : Led} {g : Obj → Led} {o ob : Obj} {kvs kvs2 : List (PySem.Str × Value)} {c c₂ : List (PySem.Str × Int)}
theorem kdp_update {Q : Value → Shared → Prop} (F : Fr h₀ L s.heap m) (N : News h₀ L s.heap news) (U : UpdF d o news g) (hd : o.IsDictOf (PySem.strKind prog w) kvs) (hf : FlatPairs PyData.str kvs (kdpD c)) (m2 : (d₂, ob) ∈ news) (lo2 : (d₂ == sysModules) = false)
    (hd2 : ob.IsDictOf (PySem.strKind prog w) kvs2) (hf2 : FlatPairs PyData.str kvs2 (kdpD c₂)) (hne : @Ne Nat d d₂) (hc : c.length ≤ 64) (hc2 : c₂.length ≤ 64)
    (h : ∀ h' o' kvs', Fr h₀ L h' m → News h₀ L h' (g o') → o'.IsDictOf (PySem.strKind prog w) kvs' → FlatPairs PyData.str kvs' (kdpD (putAll c c₂)) → Q .none { s with heap := h' }) : wpAny (model prog w) A (call (.builtin "dict.update") [.ref d, .ref d₂]) Q E s :=
  kt_update_K (knd := PySem.strKind prog w) PyProof.V.same_str F N U hd hf (TabAt.ofNews N m2 lo2 hd2 hf2) hne (fun h' o' kvs' F' N' a b => h h' o' kvs' F' N' a (by rw [← merge_kdp]; exact b)) (by rw [kdpD_length, kdpD_length, sizeLine_eq]; omega)
end
end Mine

end
-- C2
section
local macro_rules | `(tactic| walk_at "pad") => `(tactic| skip)
local macro_rules | `(tactic| walk_at "pad") => `(tactic| skip)
local macro_rules | `(tactic| walk_at "pad") => `(tactic| skip)
local macro_rules | `(tactic| walk_at "pad") => `(tactic| skip)
local macro_rules | `(tactic| walk_at "pad") => `(tactic| skip)
local macro_rules | `(tactic| walk_at "pad") => `(tactic| skip)
local macro_rules | `(tactic| walk_at "pad") => `(tactic| skip)
local macro_rules | `(tactic| walk_at "pad") => `(tactic| skip)
local macro_rules | `(tactic| walk_at "pad") => `(tactic| skip)
local macro_rules | `(tactic| walk_at "pad") => `(tactic| skip)
local macro_rules | `(tactic| walk_at "pad") => `(tactic| skip)
local macro_rules | `(tactic| walk_at "pad") => `(tactic| skip)
theorem Mine.padC2 : (1 : Nat) = 1 := by
  w_top off
  first | (walk1; done) | rfl
end
section
open PySem PySem.W PyProof.Rows PyProof.V PySem.Spec
namespace Mine
set_option maxRecDepth 100000 in
set_option maxHeartbeats 8000000 in
theorem new_binary (w : World) (news : Led) (row : Array UInt8) (t t1 : Tok) (k : Int) (h0 : 0 ≤ k) (h1 : k < 256) :
    CallC w 144 [.bytes row t, .int k t1] [] news (fun K => ∀ x d u1 u2 u3 u4, (∀ p ∈ news, p.1 < d) → d < x → K ((x, instObj 144 d) :: (d, dictOf [⟨PyData.keyHash w.params (Str.ofString "data"), .str (Str.ofString "data") u2, .bytes row u1⟩, ⟨PyData.keyHash w.params (Str.ofString "_subtype"), .str (Str.ofString "_subtype") u4, .int k u3⟩] 2) :: news) (.ref x)) := by
  unfold CallC
  k_fill
  intro mean mg mb dp un gd cn cs a ccd cl outer A₀ base h₀ L m s Q E B F X N T hk hd hu hret
  k_steps
  all_goals (refine' hret _ _ _ _ _ _ ?a ?b _ _ ?F ?N; (case F => k_asm); (case N => first | k_asm | exact cb_drop (by k_asm) (by kcj_all)); (case a => assumption); (case b => first | assumption | omega))

set_option maxRecDepth 100000 in
set_option maxHeartbeats 8000000 in
theorem new_int64 (w : World) (news : Led) (t : Tok) (k : Int) :
    CallC w 344 [.int k t] [] news (fun K => ∀ x d u1 u2, (∀ p ∈ news, p.1 < d) → d < x → K ((x, instObj 344 d) :: (d, dictOf [⟨PyData.keyHash w.params (Str.ofString "value"), .str (Str.ofString "value") u2, .int k u1⟩] 1) :: news) (.ref x)) := by
  unfold CallC
  k_fill
  intro mean mg mb dp un gd cn cs a ccd cl outer A₀ base h₀ L m s Q E B F X N T hk hd hu hret
  k_steps
  all_goals (refine' hret _ _ _ _ ?a ?b _ _ ?F ?N; (case F => k_asm); (case N => first | k_asm | exact cb_drop (by k_asm) (by kcj_all)); (case a => assumption); (case b => first | assumption | omega))

set_option maxRecDepth 100000 in
set_option maxHeartbeats 8000000 in
theorem new_regex_i (w : World) (news : Led) (t t1 : Tok) (z : PySem.Str) (k : Int) :
    CallC w 626 [.str z t, .int k t1] [] news (fun K => ∀ x d u1 u2 u3 u4, (∀ p ∈ news, p.1 < d) → d < x → K ((x, instObj 626 d) :: (d, dictOf [⟨PyData.keyHash w.params (Str.ofString "pattern"), .str (Str.ofString "pattern") u2, .str z u1⟩, ⟨PyData.keyHash w.params (Str.ofString "flags"), .str (Str.ofString "flags") u4, .int k u3⟩] 2) :: news) (.ref x)) := by
  unfold CallC
  k_fill
  intro mean mg mb dp un gd cn cs a ccd cl outer A₀ base h₀ L m s Q E B F X N T hk hd hu hret
  k_steps
  all_goals (refine' hret _ _ _ _ _ _ ?a ?b _ _ ?F ?N; (case F => k_asm); (case N => first | k_asm | exact cb_drop (by k_asm) (by kcj_all)); (case a => assumption); (case b => first | assumption | omega))

set_option maxRecDepth 100000 in
set_option maxHeartbeats 8000000 in
theorem new_regex_0 (w : World) (news : Led) (t : Tok) (z : PySem.Str) :
    CallC w 626 [.str z t] [] news (fun K => ∀ x d u1 u2 u3 u4, (∀ p ∈ news, p.1 < d) → d < x → K ((x, instObj 626 d) :: (d, dictOf [⟨PyData.keyHash w.params (Str.ofString "pattern"), .str (Str.ofString "pattern") u2, .str z u1⟩, ⟨PyData.keyHash w.params (Str.ofString "flags"), .str (Str.ofString "flags") u4, .int 0 u3⟩] 2) :: news) (.ref x)) := by
  unfold CallC
  k_fill
  intro mean mg mb dp un gd cn cs a ccd cl outer A₀ base h₀ L m s Q E B F X N T hk hd hu hret
  k_steps
  all_goals (refine' hret _ _ _ _ _ _ ?a ?b _ _ ?F ?N; (case F => k_asm); (case N => first | k_asm | exact cb_drop (by k_asm) (by kcj_all)); (case a => assumption); (case b => first | assumption | omega))

set_option maxRecDepth 100000 in
set_option maxHeartbeats 8000000 in
theorem new_code_s (w : World) (news : Led) (t : Tok) (z : PySem.Str) :
    CallC w 61 [.str z t] [] news (fun K => ∀ x d u1 u2 u4, (∀ p ∈ news, p.1 < d) → d < x → K ((x, instObj 61 d) :: (d, dictOf [⟨PyData.keyHash w.params (Str.ofString "text"), .str (Str.ofString "text") u2, .str z u1⟩, ⟨PyData.keyHash w.params (Str.ofString "_scope"), .str (Str.ofString "_scope") u4, .none⟩] 2) :: news) (.ref x)) := by
  unfold CallC
  k_fill
  intro mean mg mb dp un gd cn cs a ccd cl outer A₀ base h₀ L m s Q E B F X N T hk hd hu hret
  k_steps
  all_goals (refine' hret _ _ _ _ _ ?a ?b _ _ ?F ?N; (case F => k_asm); (case N => first | k_asm | exact cb_drop (by k_asm) (by kcj_all)); (case a => assumption); (case b => first | assumption | omega))

end Mine

end
-- C3
section
local macro_rules | `(tactic| walk_at "pad") => `(tactic| skip)
local macro_rules | `(tactic| walk_at "pad") => `(tactic| skip)
local macro_rules | `(tactic| walk_at "pad") => `(tactic| skip)
local macro_rules | `(tactic| walk_at "pad") => `(tactic| skip)
local macro_rules | `(tactic| walk_at "pad") => `(tactic| skip)
local macro_rules | `(tactic| walk_at "pad") => `(tactic| skip)
local macro_rules | `(tactic| walk_at "pad") => `(tactic| skip)
local macro_rules | `(tactic| walk_at "pad") => `(tactic| skip)
local macro_rules | `(tactic| walk_at "pad") => `(tactic| skip)
local macro_rules | `(tactic| walk_at "pad") => `(tactic| skip)
local macro_rules | `(tactic| walk_at "pad") => `(tactic| skip)
local macro_rules | `(tactic| walk_at "pad") => `(tactic| skip)
theorem Mine.padC3 : (1 : Nat) = 1 := by
  w_top off
  first | (walk1; done) | rfl
end
section
open PySem PySem.W PyProof.Rows PyProof.V PySem.Spec
namespace Mine
set_option maxRecDepth 100000 in
set_option maxHeartbeats 8000000 in
theorem new_code_sd (w : World) (news : Led) (d0 : Addr) (o0 : Obj) (kv0 : List (PySem.Str × Value)) (c0 : List (PySem.Str × Int)) (lo0 : (d0 == sysModules) = false) (hd0 : o0.IsDictOf (strK w) kv0) (hf0 : FlatPairs PyData.str kv0 (kdpD c0)) (t : Tok) (z : PySem.Str) :
    CallC w 61 [.str z t, .ref d0] [] ((d0, o0) :: news) (fun K => ∀ x d u1 u2 u4, (∀ p ∈ (d0, o0) :: news, p.1 < d) → d < x → K ((x, instObj 61 d) :: (d, dictOf [⟨PyData.keyHash w.params (Str.ofString "text"), .str (Str.ofString "text") u2, .str z u1⟩, ⟨PyData.keyHash w.params (Str.ofString "_scope"), .str (Str.ofString "_scope") u4, .ref d0⟩] 2) :: (d0, o0) :: news) (.ref x)) := by
  unfold CallC
  k_fill
  intro mean mg mb dp un gd cn cs a ccd cl outer A₀ base h₀ L m s Q E B F X N T hk hd hu hret
  k_steps
  all_goals (refine' hret _ _ _ _ _ ?a ?b _ _ ?F ?N; (case F => k_asm); (case N => first | k_asm | exact cb_drop (by k_asm) (by kcj_all)); (case a => first | assumption | exact ktn_ltOf (by assumption)); (case b => first | assumption | omega))

end Mine

end
-- C4
section
local macro_rules | `(tactic| walk_at "pad") => `(tactic| skip)
local macro_rules | `(tactic| walk_at "pad") => `(tactic| skip)
local macro_rules | `(tactic| walk_at "pad") => `(tactic| skip)
local macro_rules | `(tactic| walk_at "pad") => `(tactic| skip)
local macro_rules | `(tactic| walk_at "pad") => `(tactic| skip)
local macro_rules | `(tactic| walk_at "pad") => `(tactic| skip)
local macro_rules | `(tactic| walk_at "pad") => `(tactic| skip)
local macro_rules | `(tactic| walk_at "pad") => `(tactic| skip)
local macro_rules | `(tactic| walk_at "pad") => `(tactic| skip)
local macro_rules | `(tactic| walk_at "pad") => `(tactic| skip)
local macro_rules | `(tactic| walk_at "pad") => `(tactic| skip)
local macro_rules | `(tactic| walk_at "pad") => `(tactic| skip)
theorem Mine.padC4 : (1 : Nat) = 1 := by
  w_top off
  first | (walk1; done) | rfl
end
section
open PySem PySem.W PyProof.Rows PyProof.V PySem.Spec
namespace Mine
local macro_rules | `(tactic| walk_at "eval Name") => `(tactic| (k_here; (with_reducible show wpAny _ _ (eval (Expr.Name (PySem.Str.ofString "id") _) _) _ _ _); k_dflt (refine' nameX_L ?F ?v ?_ ?a ?b; (case F => k_asm); (case v => first | with_reducible assumption | exact rfl | assumption); (case a => exact rfl); (case b => exact rfl); k_whole)))
theorem kdpPut_ge (c : List (PySem.Str × Int)) (k : PySem.Str) (v : Int) : c.length ≤ (kdpPut c k v).length := by
  unfold kdpPut
  split
  · rw [List.length_map]; exact Nat.le_refl _
  · rw [List.length_append]; exact Nat.le_add_right _ _
theorem putAll_ge (l : List (PySem.Str × Int)) : ∀ c : List (PySem.Str × Int), c.length ≤ (putAll c l).length := by
  induction l with
  | nil => intro c; exact Nat.le_refl _
  | cons p l ih => intro c; exact Nat.le_trans (kdpPut_ge c p.1 p.2) (ih (kdpPut c p.1 p.2))
theorem put_new {c : List (PySem.Str × Int)} {k : PySem.Str} {v : Int} (h : kdpHas c k = false) : putAll c [(k, v)] = c ++ [(k, v)] := by
  show kdpPut c k v = _
  unfold kdpPut
  rw [if_neg (by unfold kdpHas at h; rw [h]; exact Bool.false_ne_true)]
theorem put_z {c : List (PySem.Str × Int)} {k : PySem.Str} {v : Int} (hn : (c.map (·.1)).Nodup) (h : kdpHas c k = false) : putAll [] (putAll c [(k, v)]) = c ++ [(k, v)] := by
  rw [put_new h]
  refine putAll_nil ?_
  rw [List.map_append, List.nodup_append]
  refine ⟨hn, by simp, fun a ha b hb e => ?_⟩
  simp only [List.map_cons, List.map_nil, List.mem_singleton] at hb
  obtain ⟨p, hp, hpe⟩ := List.mem_map.mp ha
  have : kdpHas c k = true := List.any_eq_true.mpr ⟨p, hp, decide_eq_true (by rw [hpe, e, hb])⟩
  rw [h] at this; cases this
theorem dEq_snoc (c : List (PySem.Str × Int)) (p : PySem.Str × Int) : dEq c (c ++ [p]) = false := dEq_len (by simp)
theorem dEq_one {c : List (PySem.Str × Int)} {k : PySem.Str} {v : Int} (hl : 1 ≤ c.length) (h : kdpHas c k = false) : dEq c [(k, v)] = false := by
  cases c with
  | nil => exact absurd hl (by decide)
  | cons p r =>
    have hp : ¬ k = p.1 := fun e => by
      have : kdpHas (p :: r) k = true := List.any_eq_true.mpr ⟨p, .head _, decide_eq_true e.symm⟩
      rw [h] at this; cases this
    unfold dEq dRows
    simp [hp]
theorem news_unpick13 {h₀ h : Heap} {L : Addr} {news : Led} {pa pb pc pd : Addr × Obj} (N : News h₀ L h (pc :: pa :: pb :: pd :: news)) : News h₀ L h (pc :: pa :: pb :: news) := fun p hp => by
  rcases List.mem_cons.mp hp with rfl | hp
  · exact N _ (.head _)
  rcases List.mem_cons.mp hp with rfl | hp
  · exact N _ (.tail _ (.head _))
  rcases List.mem_cons.mp hp with rfl | hp
  · exact N _ (.tail _ (.tail _ (.head _)))
  · exact N p (.tail _ (.tail _ (.tail _ (.tail _ hp))))
theorem dbr1 {x : PySem.Str} {n : Int} {d b : Bool} (h : d = b) : (true && ((x == x) && ((n == n) && (d && true)))) = b := by simp [h]
theorem dbr2 {x : PySem.Str} {a b : Bool} : (a && ((x == x ++ PySem.Str.ofString "x") && b)) = false := by rw [str_x]; simp
theorem dbr3 {n : Int} {a b c : Bool} : (a && (b && ((n == n + 1) && c))) = false := by rw [int_succ]; simp
theorem dbr4 {a b : Bool} (h : a = false) : (a && b) = false := by rw [h]; rfl
theorem kdpD_ne {c : List (PySem.Str × Int)} (h : 1 ≤ c.length) (e : (kdpD c).isEmpty = true) : False := by
  cases c with
  | nil => exact absurd h (by decide)
  | cons => cases e
local macro_rules | `(tactic| walk_at "call builtin:dict.update") => `(tactic| (k_here; (with_reducible show wpAny _ _ (call (Value.builtin "dict.update") [Value.ref _, Value.ref _]) _ _ _); k_dflt (refine' kdp_update ?F ?N ?U ?d ?f ?m2 ?lo ?d2 ?f2 ?ne ?c ?c2 ?_; (case F => k_asm); (case N => k_asm); (case U => k_updF); (case d => assumption); (case f => first | with_reducible assumption | exact Mine.fp_nil (by with_reducible assumption) | exact Mine.fp_disp (by with_reducible assumption) | exact Mine.fp_kw (by with_reducible assumption) | assumption); (case m2 => k_mem); (case lo => assumption); (case d2 => assumption); (case f2 => first | with_reducible assumption | exact Mine.fp_nil (by with_reducible assumption) | exact Mine.fp_disp (by with_reducible assumption) | exact Mine.fp_kw (by with_reducible assumption) | assumption); (case ne => omega); (case c => first | omega | decide | exact Nat.le_trans (putAll_len _ _) (by first | omega | (simp; omega)) | exact Nat.le_trans (putAll_len _ _) (Nat.le_trans (Nat.add_le_add_right (putAll_len _ _) _) (by first | omega | (simp; omega)))); (case c2 => first | exact Nat.le_of_ble_eq_true rfl | omega | exact Nat.le_trans (putAll_len _ _) (by first | omega | (simp; omega)))); intro h' o' kvs' F' N' hd' hf'; (try dsimp only at N')))
set_option maxRecDepth 100000 in
set_option maxHeartbeats 8000000 in
theorem new_dbref_d (w : World) (news : Led) (d0 : Addr) (o0 : Obj) (kv0 : List (PySem.Str × Value)) (c0 : List (PySem.Str × Int)) (lo0 : (d0 == sysModules) = false) (hd0 : o0.IsDictOf (strK w) kv0) (hf0 : FlatPairs PyData.str kv0 (kdpD c0)) (hl0 : c0.length ≤ 16) (hn0 : 1 ≤ c0.length) (z : PySem.Str) (k : Int) (ob : Option PySem.Str) (t t1 t2 : Tok) :
    CallL w 261 [.str z t, .int k t1, baseV ob t2, .ref d0] [] ((d0, o0) :: news) (fun K => ∀ x d kd okd kvd u1 u2 u3 u4 u5 u6 u7, (∀ p ∈ (d0, o0) :: news, p.1 < d) → @LT.lt Nat _ d x → @LT.lt Nat _ x kd → (kd == sysModules) = false → okd.IsDictOf (strK w) kvd → FlatPairs PyData.str kvd (kdpD (putAll [] c0)) → K ((kd, okd) :: (x, instObj 261 d) :: (d, dictOf [⟨PyData.keyHash w.params (Str.ofString "_collection"), .str (Str.ofString "_collection") u2, .str z u1⟩, ⟨PyData.keyHash w.params (Str.ofString "_id"), .str (Str.ofString "_id") u4, .int k u3⟩, ⟨PyData.keyHash w.params (Str.ofString "_database"), .str (Str.ofString "_database") u6, baseV ob u5⟩, ⟨PyData.keyHash w.params (Str.ofString "_kwargs"), .str (Str.ofString "_kwargs") u7, .ref kd⟩] 4) :: (d0, o0) :: news) (.ref x)) := by
  unfold CallL
  k_fill
  intro mean mg mb dp un gd cn cs a ccd cl A₀ h₀ L m s Q E B F X N T hk hd hu hret
  cases ob with
  | none =>
    dsimp only [baseV] at hret ⊢
    k_steps
    all_goals (first | (rename List.isEmpty _ = true => hbad; exact (kdpD_ne hn0 hbad).elim) | (refine' hret _ _ _ _ _ _ _ _ _ 0 _ _ ?a ?b ?c ?lo ?hd ?hf _ _ ?F ?N; (case F => k_asm); (case N => exact cb_drop (by k_asm) (by kcj_all)); (case a => first | assumption | exact ktn_ltOf (by assumption)); (case b => first | assumption | omega | exact ltN (by omega)); (case c => first | assumption | omega | exact ltN (by omega)); (case lo => assumption); (case hd => assumption); (case hf => first | assumption | exact (by assumption : FlatPairs PyData.str _ (kdpD (putAll [] []))))))
  | some y =>
    dsimp only [baseV] at hret ⊢
    k_steps
    all_goals (first | (rename List.isEmpty _ = true => hbad; exact (kdpD_ne hn0 hbad).elim) | (refine' hret _ _ _ _ _ _ _ _ _ _ _ _ ?a ?b ?c ?lo ?hd ?hf _ _ ?F ?N; (case F => k_asm); (case N => exact cb_drop (by k_asm) (by kcj_all)); (case a => first | assumption | exact ktn_ltOf (by assumption)); (case b => first | assumption | omega | exact ltN (by omega)); (case c => first | assumption | omega | exact ltN (by omega)); (case lo => assumption); (case hd => assumption); (case hf => first | assumption | exact (by assumption : FlatPairs PyData.str _ (kdpD (putAll [] []))))))

theorem new_dbref_s (w : World) (news : Led) (d0 : Addr) (o0 : Obj) (kv0 : List (PySem.Str × Value)) (c0 : List (PySem.Str × Int)) (lo0 : (d0 == sysModules) = false) (hd0 : o0.IsDictOf (strK w) kv0) (hf0 : FlatPairs PyData.str kv0 (kdpD c0)) (hl0 : c0.length ≤ 16) (hn0 : 1 ≤ c0.length) (z : PySem.Str) (k : Int) (y : PySem.Str) (t t1 t2 : Tok) :
    CallL w 261 [.str z t, .int k t1, .str y t2, .ref d0] [] ((d0, o0) :: news) (fun K => ∀ x d kd okd kvd u1 u2 u3 u4 u5 u6 u7, (∀ p ∈ (d0, o0) :: news, p.1 < d) → @LT.lt Nat _ d x → @LT.lt Nat _ x kd → (kd == sysModules) = false → okd.IsDictOf (strK w) kvd → FlatPairs PyData.str kvd (kdpD (putAll [] c0)) → K ((kd, okd) :: (x, instObj 261 d) :: (d, dictOf [⟨PyData.keyHash w.params (Str.ofString "_collection"), .str (Str.ofString "_collection") u2, .str z u1⟩, ⟨PyData.keyHash w.params (Str.ofString "_id"), .str (Str.ofString "_id") u4, .int k u3⟩, ⟨PyData.keyHash w.params (Str.ofString "_database"), .str (Str.ofString "_database") u6, .str y u5⟩, ⟨PyData.keyHash w.params (Str.ofString "_kwargs"), .str (Str.ofString "_kwargs") u7, .ref kd⟩] 4) :: (d0, o0) :: news) (.ref x)) := new_dbref_d w news d0 o0 kv0 c0 lo0 hd0 hf0 hl0 hn0 z k (some y) t t1 t2

set_option maxRecDepth 100000 in
set_option maxHeartbeats 8000000 in
theorem new_dbref_z (w : World) (news : Led)  (z : PySem.Str) (k : Int) (ob : Option PySem.Str) (t t1 t2 : Tok) (tz : Tok) :
    CallL w 261 [.str z t, .int k t1, baseV ob t2, .none] [(Str.ofString "z", .int 1 tz)] (news) (fun K => ∀ x d kd okd kvd u1 u2 u3 u4 u5 u6 u7, (∀ p ∈ news, p.1 < d) → @LT.lt Nat _ d x → @LT.lt Nat _ x kd → (kd == sysModules) = false → okd.IsDictOf (strK w) kvd → FlatPairs PyData.str kvd (kdpD ([(Str.ofString "z", 1)])) → K ((kd, okd) :: (x, instObj 261 d) :: (d, dictOf [⟨PyData.keyHash w.params (Str.ofString "_collection"), .str (Str.ofString "_collection") u2, .str z u1⟩, ⟨PyData.keyHash w.params (Str.ofString "_id"), .str (Str.ofString "_id") u4, .int k u3⟩, ⟨PyData.keyHash w.params (Str.ofString "_database"), .str (Str.ofString "_database") u6, baseV ob u5⟩, ⟨PyData.keyHash w.params (Str.ofString "_kwargs"), .str (Str.ofString "_kwargs") u7, .ref kd⟩] 4) :: news) (.ref x)) := by
  unfold CallL
  k_fill
  intro mean mg mb dp un gd cn cs a ccd cl A₀ h₀ L m s Q E B F X N T hk hd hu hret
  cases ob with
  | none =>
    dsimp only [baseV] at hret ⊢
    k_steps
    all_goals ((refine' hret _ _ _ _ _ _ _ _ _ 0 _ _ ?a ?b ?c ?lo ?hd ?hf _ _ ?F ?N; (case F => k_asm); (case N => exact cb_drop (by k_asm) (by kcj_all)); (case a => first | assumption | exact ktn_ltOf (by assumption)); (case b => first | assumption | omega | exact ltN (by omega)); (case c => first | assumption | omega | exact ltN (by omega)); (case lo => assumption); (case hd => assumption); (case hf => first | assumption | exact (by assumption : FlatPairs PyData.str _ (kdpD (putAll [] []))))))
  | some y =>
    dsimp only [baseV] at hret ⊢
    k_steps
    all_goals ((refine' hret _ _ _ _ _ _ _ _ _ _ _ _ ?a ?b ?c ?lo ?hd ?hf _ _ ?F ?N; (case F => k_asm); (case N => exact cb_drop (by k_asm) (by kcj_all)); (case a => first | assumption | exact ktn_ltOf (by assumption)); (case b => first | assumption | omega | exact ltN (by omega)); (case c => first | assumption | omega | exact ltN (by omega)); (case lo => assumption); (case hd => assumption); (case hf => first | assumption | exact (by assumption : FlatPairs PyData.str _ (kdpD (putAll [] []))))))

set_option maxRecDepth 100000 in
set_option maxHeartbeats 8000000 in
theorem new_dbref_k (w : World) (news : Led) (d0 : Addr) (o0 : Obj) (kv0 : List (PySem.Str × Value)) (c0 : List (PySem.Str × Int)) (lo0 : (d0 == sysModules) = false) (hd0 : o0.IsDictOf (strK w) kv0) (hf0 : FlatPairs PyData.str kv0 (kdpD c0)) (hl0 : c0.length ≤ 16) (hn0 : 1 ≤ c0.length) (z : PySem.Str) (k : Int) (ob : Option PySem.Str) (t t1 t2 : Tok) (tz : Tok) :
    CallL w 261 [.str z t, .int k t1, baseV ob t2, .ref d0] [(Str.ofString "b", .int 2 tz)] ((d0, o0) :: news) (fun K => ∀ x d kd okd kvd u1 u2 u3 u4 u5 u6 u7, (∀ p ∈ (d0, o0) :: news, p.1 < d) → @LT.lt Nat _ d x → @LT.lt Nat _ x kd → (kd == sysModules) = false → okd.IsDictOf (strK w) kvd → FlatPairs PyData.str kvd (kdpD (putAll [(Str.ofString "b", 2)] c0)) → K ((kd, okd) :: (x, instObj 261 d) :: (d, dictOf [⟨PyData.keyHash w.params (Str.ofString "_collection"), .str (Str.ofString "_collection") u2, .str z u1⟩, ⟨PyData.keyHash w.params (Str.ofString "_id"), .str (Str.ofString "_id") u4, .int k u3⟩, ⟨PyData.keyHash w.params (Str.ofString "_database"), .str (Str.ofString "_database") u6, baseV ob u5⟩, ⟨PyData.keyHash w.params (Str.ofString "_kwargs"), .str (Str.ofString "_kwargs") u7, .ref kd⟩] 4) :: (d0, o0) :: news) (.ref x)) := by
  unfold CallL
  k_fill
  intro mean mg mb dp un gd cn cs a ccd cl A₀ h₀ L m s Q E B F X N T hk hd hu hret
  cases ob with
  | none =>
    dsimp only [baseV] at hret ⊢
    k_steps
    all_goals (first | (rename List.isEmpty _ = true => hbad; exact (kdpD_ne hn0 hbad).elim) | (refine' hret _ _ _ _ _ _ _ _ _ 0 _ _ ?a ?b ?c ?lo ?hd ?hf _ _ ?F ?N; (case F => k_asm); (case N => exact cb_drop (by k_asm) (by kcj_all)); (case a => first | assumption | exact ktn_ltOf (by assumption)); (case b => first | assumption | omega | exact ltN (by omega)); (case c => first | assumption | omega | exact ltN (by omega)); (case lo => assumption); (case hd => assumption); (case hf => first | assumption | exact (by assumption : FlatPairs PyData.str _ (kdpD (putAll [] []))))))
  | some y =>
    dsimp only [baseV] at hret ⊢
    k_steps
    all_goals (first | (rename List.isEmpty _ = true => hbad; exact (kdpD_ne hn0 hbad).elim) | (refine' hret _ _ _ _ _ _ _ _ _ _ _ _ ?a ?b ?c ?lo ?hd ?hf _ _ ?F ?N; (case F => k_asm); (case N => exact cb_drop (by k_asm) (by kcj_all)); (case a => first | assumption | exact ktn_ltOf (by assumption)); (case b => first | assumption | omega | exact ltN (by omega)); (case c => first | assumption | omega | exact ltN (by omega)); (case lo => assumption); (case hd => assumption); (case hf => first | assumption | exact (by assumption : FlatPairs PyData.str _ (kdpD (putAll [] []))))))

end Mine

end
-- C5
section
local macro_rules | `(tactic| walk_at "pad") => `(tactic| skip)
local macro_rules | `(tactic| walk_at "pad") => `(tactic| skip)
local macro_rules | `(tactic| walk_at "pad") => `(tactic| skip)
local macro_rules | `(tactic| walk_at "pad") => `(tactic| skip)
local macro_rules | `(tactic| walk_at "pad") => `(tactic| skip)
local macro_rules | `(tactic| walk_at "pad") => `(tactic| skip)
local macro_rules | `(tactic| walk_at "pad") => `(tactic| skip)
local macro_rules | `(tactic| walk_at "pad") => `(tactic| skip)
local macro_rules | `(tactic| walk_at "pad") => `(tactic| skip)
local macro_rules | `(tactic| walk_at "pad") => `(tactic| skip)
local macro_rules | `(tactic| walk_at "pad") => `(tactic| skip)
local macro_rules | `(tactic| walk_at "pad") => `(tactic| skip)
theorem Mine.padC5 : (1 : Nat) = 1 := by
  w_top off
  first | (walk1; done) | rfl
end
section
open PySem PySem.W PyProof.Rows PyProof.V PySem.Spec
namespace Mine
set_option maxRecDepth 100000 in
set_option maxHeartbeats 8000000 in
theorem new_minkey (w : World) (news : Led)  :
    CallC w 470 [] [] news (fun K => ∀ x d, (∀ p ∈ news, p.1 < d) → d < x → K ((x, instObj 470 d) :: (d, dictOf [] 0) :: news) (.ref x)) := by
  unfold CallC
  k_fill
  intro mean mg mb dp un gd cn cs a ccd cl outer A₀ base h₀ L m s Q E B F X N T hk hd hu hret
  k_steps
  all_goals (refine' hret _ _ ?a ?b _ _ ?F ?N; (case F => k_asm); (case N => first | k_asm | exact cb_drop (by k_asm) (by kcj_all)); (case a => first | assumption | exact ktn_ltOf (by assumption)); (case b => first | assumption | omega))

set_option maxRecDepth 100000 in
set_option maxHeartbeats 8000000 in
theorem new_maxkey (w : World) (news : Led)  :
    CallC w 407 [] [] news (fun K => ∀ x d, (∀ p ∈ news, p.1 < d) → d < x → K ((x, instObj 407 d) :: (d, dictOf [] 0) :: news) (.ref x)) := by
  unfold CallC
  k_fill
  intro mean mg mb dp un gd cn cs a ccd cl outer A₀ base h₀ L m s Q E B F X N T hk hd hu hret
  k_steps
  all_goals (refine' hret _ _ ?a ?b _ _ ?F ?N; (case F => k_asm); (case N => first | k_asm | exact cb_drop (by k_asm) (by kcj_all)); (case a => first | assumption | exact ktn_ltOf (by assumption)); (case b => first | assumption | omega))

set_option maxRecDepth 100000 in
set_option maxHeartbeats 8000000 in
theorem new_objid (w : World) (news : Led) (t : Tok) :
    CallC w 583 [.bytes (Array.replicate 12 0) t] [] news (fun K => ∀ x d u1 u2, (∀ p ∈ news, p.1 < d) → d < x → K ((x, instObj 583 d) :: (d, dictOf [⟨PyData.keyHash w.params (Str.ofString "_id"), .str (Str.ofString "_id") u2, .bytes (Array.replicate 12 0) u1⟩] 1) :: news) (.ref x)) := by
  unfold CallC
  k_fill
  intro mean mg mb dp un gd cn cs a ccd cl outer A₀ base h₀ L m s Q E B F X N T hk hd hu hret
  k_steps
  all_goals (refine' hret _ _ _ _ ?a ?b _ _ ?F ?N; (case F => k_asm); (case N => first | k_asm | exact cb_drop (by k_asm) (by kcj_all)); (case a => first | assumption | exact ktn_ltOf (by assumption)); (case b => first | assumption | omega))

set_option maxRecDepth 100000 in
set_option maxHeartbeats 8000000 in
theorem new_stamp (w : World) (news : Led) (t t1 : Tok) :
    CallC w 705 [.int 5 t, .int 5 t1] [] news (fun K => ∀ x d u1 u2 u3 u4, (∀ p ∈ news, p.1 < d) → d < x → K ((x, instObj 705 d) :: (d, dictOf [⟨PyData.keyHash w.params (Str.ofString "_time"), .str (Str.ofString "_time") u2, .int 5 u1⟩, ⟨PyData.keyHash w.params (Str.ofString "_inc"), .str (Str.ofString "_inc") u4, .int 5 u3⟩] 2) :: news) (.ref x)) := by
  unfold CallC
  k_fill
  intro mean mg mb dp un gd cn cs a ccd cl outer A₀ base h₀ L m s Q E B F X N T hk hd hu hret
  k_steps
  all_goals (refine' hret _ _ _ _ _ _ ?a ?b _ _ ?F ?N; (case F => k_asm); (case N => first | k_asm | exact cb_drop (by k_asm) (by kcj_all)); (case a => first | assumption | exact ktn_ltOf (by assumption)); (case b => first | assumption | omega))

end Mine

end
-- F1
section
local macro_rules | `(tactic| walk_at "pad") => `(tactic| skip)
local macro_rules | `(tactic| walk_at "pad") => `(tactic| skip)
local macro_rules | `(tactic| walk_at "pad") => `(tactic| skip)
local macro_rules | `(tactic| walk_at "pad") => `(tactic| skip)
local macro_rules | `(tactic| walk_at "pad") => `(tactic| skip)
local macro_rules | `(tactic| walk_at "pad") => `(tactic| skip)
local macro_rules | `(tactic| walk_at "pad") => `(tactic| skip)
local macro_rules | `(tactic| walk_at "pad") => `(tactic| skip)
local macro_rules | `(tactic| walk_at "pad") => `(tactic| skip)
local macro_rules | `(tactic| walk_at "pad") => `(tactic| skip)
local macro_rules | `(tactic| walk_at "pad") => `(tactic| skip)
local macro_rules | `(tactic| walk_at "pad") => `(tactic| skip)
theorem Mine.padF1 : (1 : Nat) = 1 := by
  w_top off
  first | (walk1; done) | rfl
end
section
open PySem PySem.W PyProof.Rows PyProof.V PySem.Spec
namespace Mine
theorem ints5 {vs : List Value} {ns : List Int} (hI : IntsAre vs ns) (hl : ns.length ≤ 4) : (vs = [] ∧ ns = []) ∨ (∃ a t, vs = [.int a t] ∧ ns = [a]) ∨ (∃ a t b u, vs = [.int a t, .int b u] ∧ ns = [a, b]) ∨ (∃ a t b u c x, vs = [.int a t, .int b u, .int c x] ∧ ns = [a, b, c]) ∨ (∃ a t b u c x d y, vs = [.int a t, .int b u, .int c x, .int d y] ∧ ns = [a, b, c, d]) := by
  cases hI with
  | nil => exact .inl ⟨rfl, rfl⟩
  | cons a t h =>
    cases h with
    | nil => exact .inr (.inl ⟨a, t, rfl, rfl⟩)
    | cons b u h =>
      cases h with
      | nil => exact .inr (.inr (.inl ⟨a, t, b, u, rfl, rfl⟩))
      | cons c x h =>
        cases h with
        | nil => exact .inr (.inr (.inr (.inl ⟨a, t, b, u, c, x, rfl, rfl⟩)))
        | cons d y h =>
          cases h with
          | nil => exact .inr (.inr (.inr (.inr ⟨a, t, b, u, c, x, d, y, rfl, rfl⟩)))
          | cons e z h => simp only [List.length_cons] at hl; omega
/-- a dict of strs to ints: its object, its pairs -/
def FieldsRet (w : World) (l : Addr) (ol : Obj) (n : Nat) (news : Led) (K : Led → Value → Prop) : Prop :=
  ∀ d o kvs cc, (∀ p ∈ (l, ol) :: news, p.1 < d) → (d == sysModules) = false → o.IsDictOf (strK w) kvs → FlatPairs PyData.str kvs (kdpD cc) → cc.length ≤ 4 → (1 ≤ n → 1 ≤ cc.length) → kdpHas cc (Str.ofString "z") = false → K ((d, o) :: (l, ol) :: news) (.ref d)
theorem abc_z {a : Int} : ¬ (Str.ofString "z" = PySem.Txt.item (Str.ofString "abc") (a.fmod 3)) := by
  have h0 := Int.fmod_nonneg_of_pos a (show (0 : Int) < 3 by decide)
  have h1 := Int.fmod_lt_of_pos a (show (0 : Int) < 3 by decide)
  have : a.fmod 3 = 0 ∨ a.fmod 3 = 1 ∨ a.fmod 3 = 2 := by omega
  rcases this with h | h | h <;> rw [h] <;> decide +kernel
theorem abc_zd {a : Int} : decide (Str.ofString "z" = PySem.Txt.item (Str.ofString "abc") (a.fmod 3)) = false := decide_eq_false abc_z
theorem nil_kdpD : ([] : List (PyData × PyData)) = kdpD [] := rfl
theorem put_le {c : List (PySem.Str × Int)} {k : PySem.Str} {v : Int} {n : Nat} (h : c.length ≤ n) : (kdpPut c k v).length ≤ n + 1 := Nat.le_trans (kdpPut_len _ _ _) (Nat.succ_le_succ h)
theorem put_pos {c : List (PySem.Str × Int)} {k : PySem.Str} {v : Int} : 1 ≤ (kdpPut c k v).length := by
  unfold kdpPut
  split
  · rename_i h
    obtain ⟨p, hp, _⟩ := List.any_eq_true.mp h
    rw [List.length_map]
    exact List.length_pos_of_mem hp
  · rw [List.length_append]; simp
theorem unr_head {h₀ : Heap} {L I : Addr} {it : Obj} {rest : (PySem.Str → Option Value) → List (Addr × Obj) → Prop} {s₁ : Shared} {h' : Heap} {tk : Nat} {m' : PySem.Str → Option Value} {news' : List (Addr × Obj)} (F : Fr h₀ L h' m') (N : News h₀ L h' ((I, it) :: news')) (off : ∀ p ∈ news', p.1 ≠ I) (r : rest m' news') : UnrEnd h₀ L s₁ I it rest { s₁ with heap := h', toks := tk } := .intro F N news' (fun _ h => h) off r
local macro_rules | `(tactic| walk_at "UnrEnd") => `(tactic| (k_here; k_dflt (refine' unr_head ?F ?N ?off ?_; (case F => k_asm); (case N => k_asm); (case off => exact fun p hp => Nat.ne_of_lt (ktn_ltOf (by assumption) p hp)))))
local macro_rules | `(tactic| walk_at "subscriptTail Constant BinOp str int") => `(tactic| (k_here; k_dflt (refine item_str_fmod (by decide) (by decide) (by decide) ?_); intro hlx'))
set_option maxRecDepth 100000 in
set_option maxHeartbeats 8000000 in
theorem fields0 (w : World) (news : Led) (l : Addr) (c : Nat) : CallC w 730 [.ref l] [] ((l, W.listOf [].toArray c) :: news) (FieldsRet w l (W.listOf [].toArray c) 0 news) := by
  unfold CallC
  k_fill
  intro mean mg mb dp un gd cn cs a ccd cl outer A₀ base h₀ L m s Q E B F X N T hk hd hu hret
  unfold FieldsRet at hret
  refine wpAny_call ?_
  k_dflt cell_enter
  k_steps
  all_goals (rename FlatPairs PyData.str _ _ => hf'; change FlatPairs PyData.str _ (kdpD []) at hf'; refine' hret _ _ _ _ ?a ?b ?c hf' ?e ?f ?g _ _ ?F ?N; (case F => k_asm); (case N => k_asm); (case a => first | assumption | exact ktn_ltOf (by assumption)); (case b => assumption); (case c => assumption); (case e => exact Nat.zero_le 4); (case f => intro h; omega); (case g => first | rfl | (simp only [kdpHas_put, abc_zd, Bool.false_or]; rfl)))

set_option maxRecDepth 100000 in
set_option maxHeartbeats 8000000 in
theorem fields1 (w : World) (news : Led) (l : Addr) (c : Nat) (a0 : Int) (t0 : Tok) : CallC w 730 [.ref l] [] ((l, W.listOf [.int a0 t0].toArray c) :: news) (FieldsRet w l (W.listOf [.int a0 t0].toArray c) 1 news) := by
  unfold CallC
  k_fill
  intro mean mg mb dp un gd cn cs a ccd cl outer A₀ base h₀ L m s Q E B F X N T hk hd hu hret
  unfold FieldsRet at hret
  refine wpAny_call ?_
  k_dflt cell_enter
  k_steps
  all_goals (rename FlatPairs PyData.str _ _ => hf'; simp only [nil_kdpD, kdpD_put] at hf'; refine' hret _ _ _ _ ?a ?b ?c hf' ?e ?f ?g _ _ ?F ?N; (case F => k_asm); (case N => k_asm); (case a => first | assumption | exact ktn_ltOf (by assumption)); (case b => assumption); (case c => assumption); (case e => exact Nat.le_trans (put_le (Nat.le_refl 0)) (by decide)); (case f => exact fun _ => put_pos); (case g => first | rfl | (simp only [kdpHas_put, abc_zd, Bool.false_or]; rfl)))

set_option maxRecDepth 100000 in
set_option maxHeartbeats 8000000 in
theorem fields2 (w : World) (news : Led) (l : Addr) (c : Nat) (a0 : Int) (t0 : Tok) (a1 : Int) (t1 : Tok) : CallC w 730 [.ref l] [] ((l, W.listOf [.int a0 t0, .int a1 t1].toArray c) :: news) (FieldsRet w l (W.listOf [.int a0 t0, .int a1 t1].toArray c) 2 news) := by
  unfold CallC
  k_fill
  intro mean mg mb dp un gd cn cs a ccd cl outer A₀ base h₀ L m s Q E B F X N T hk hd hu hret
  unfold FieldsRet at hret
  refine wpAny_call ?_
  k_dflt cell_enter
  k_steps
  all_goals (rename FlatPairs PyData.str _ _ => hf'; simp only [nil_kdpD, kdpD_put] at hf'; refine' hret _ _ _ _ ?a ?b ?c hf' ?e ?f ?g _ _ ?F ?N; (case F => k_asm); (case N => k_asm); (case a => first | assumption | exact ktn_ltOf (by assumption)); (case b => assumption); (case c => assumption); (case e => exact Nat.le_trans (put_le (put_le (Nat.le_refl 0))) (by decide)); (case f => exact fun _ => put_pos); (case g => first | rfl | (simp only [kdpHas_put, abc_zd, Bool.false_or]; rfl)))

set_option maxRecDepth 100000 in
set_option maxHeartbeats 8000000 in
theorem fields3 (w : World) (news : Led) (l : Addr) (c : Nat) (a0 : Int) (t0 : Tok) (a1 : Int) (t1 : Tok) (a2 : Int) (t2 : Tok) : CallC w 730 [.ref l] [] ((l, W.listOf [.int a0 t0, .int a1 t1, .int a2 t2].toArray c) :: news) (FieldsRet w l (W.listOf [.int a0 t0, .int a1 t1, .int a2 t2].toArray c) 3 news) := by
  unfold CallC
  k_fill
  intro mean mg mb dp un gd cn cs a ccd cl outer A₀ base h₀ L m s Q E B F X N T hk hd hu hret
  unfold FieldsRet at hret
  refine wpAny_call ?_
  k_dflt cell_enter
  k_steps
  all_goals (rename FlatPairs PyData.str _ _ => hf'; simp only [nil_kdpD, kdpD_put] at hf'; refine' hret _ _ _ _ ?a ?b ?c hf' ?e ?f ?g _ _ ?F ?N; (case F => k_asm); (case N => k_asm); (case a => first | assumption | exact ktn_ltOf (by assumption)); (case b => assumption); (case c => assumption); (case e => exact Nat.le_trans (put_le (put_le (put_le (Nat.le_refl 0)))) (by decide)); (case f => exact fun _ => put_pos); (case g => first | rfl | (simp only [kdpHas_put, abc_zd, Bool.false_or]; rfl)))

set_option maxRecDepth 100000 in
set_option maxHeartbeats 8000000 in
theorem fields4 (w : World) (news : Led) (l : Addr) (c : Nat) (a0 : Int) (t0 : Tok) (a1 : Int) (t1 : Tok) (a2 : Int) (t2 : Tok) (a3 : Int) (t3 : Tok) : CallC w 730 [.ref l] [] ((l, W.listOf [.int a0 t0, .int a1 t1, .int a2 t2, .int a3 t3].toArray c) :: news) (FieldsRet w l (W.listOf [.int a0 t0, .int a1 t1, .int a2 t2, .int a3 t3].toArray c) 4 news) := by
  unfold CallC
  k_fill
  intro mean mg mb dp un gd cn cs a ccd cl outer A₀ base h₀ L m s Q E B F X N T hk hd hu hret
  unfold FieldsRet at hret
  refine wpAny_call ?_
  k_dflt cell_enter
  k_steps
  all_goals (rename FlatPairs PyData.str _ _ => hf'; simp only [nil_kdpD, kdpD_put] at hf'; refine' hret _ _ _ _ ?a ?b ?c hf' ?e ?f ?g _ _ ?F ?N; (case F => k_asm); (case N => k_asm); (case a => first | assumption | exact ktn_ltOf (by assumption)); (case b => assumption); (case c => assumption); (case e => exact Nat.le_trans (put_le (put_le (put_le (put_le (Nat.le_refl 0))))) (by decide)); (case f => exact fun _ => put_pos); (case g => first | rfl | (simp only [kdpHas_put, abc_zd, Bool.false_or]; rfl)))

set_option maxRecDepth 100000 in
set_option maxHeartbeats 8000000 in
theorem fields (w : World) (news : Led) (l : Addr) (vs : List Value) (ns : List Int) (c : Nat) (hI : IntsAre vs ns) (hl : ns.length ≤ 4) : CallC w 730 [.ref l] [] ((l, W.listOf vs.toArray c) :: news) (FieldsRet w l (W.listOf vs.toArray c) ns.length news) := by
  rcases ints5 hI hl with ⟨rfl, rfl⟩ | ⟨a0, t0, rfl, rfl⟩ | ⟨a0, t0, a1, t1, rfl, rfl⟩ | ⟨a0, t0, a1, t1, a2, t2, rfl, rfl⟩ | ⟨a0, t0, a1, t1, a2, t2, a3, t3, rfl, rfl⟩
  · exact fields0 _ _ _ _
  · exact fields1 _ _ _ _ _ _
  · exact fields2 _ _ _ _ _ _ _ _
  · exact fields3 _ _ _ _ _ _ _ _ _ _
  · exact fields4 _ _ _ _ _ _ _ _ _ _ _ _

end Mine

end
-- J1
section
local macro_rules | `(tactic| walk_at "pad") => `(tactic| skip)
local macro_rules | `(tactic| walk_at "pad") => `(tactic| skip)
local macro_rules | `(tactic| walk_at "pad") => `(tactic| skip)
local macro_rules | `(tactic| walk_at "pad") => `(tactic| skip)
local macro_rules | `(tactic| walk_at "pad") => `(tactic| skip)
local macro_rules | `(tactic| walk_at "pad") => `(tactic| skip)
local macro_rules | `(tactic| walk_at "pad") => `(tactic| skip)
local macro_rules | `(tactic| walk_at "pad") => `(tactic| skip)
local macro_rules | `(tactic| walk_at "pad") => `(tactic| skip)
local macro_rules | `(tactic| walk_at "pad") => `(tactic| skip)
local macro_rules | `(tactic| walk_at "pad") => `(tactic| skip)
local macro_rules | `(tactic| walk_at "pad") => `(tactic| skip)
theorem Mine.padJ1 : (1 : Nat) = 1 := by
  w_top off
  first | (walk1; done) | rfl
end
section
open PySem PySem.Calls PySem.W PyProof.Rows PyProof.V PySem.Spec
namespace Mine
/-- behind a turn of the loop that joins -/
def JPost (w : World) (h₀ : Heap) (L : Addr) (s : Shared) (dj d1 d2 : Addr) (o1 o2 : Obj) (news : Led) (I : Addr) (oI : Obj) (b : List (PySem.Str × Int)) (f : Flow) (s₂ : Shared) : Prop :=
  f = .next ∧ ∃ (h' : Heap) (tk' : Nat) (m₂ : Map) (oj' : Obj) (kj' : List (PySem.Str × Value)), s₂ = { s with heap := h', toks := tk' } ∧ Fr h₀ L h' m₂ ∧ News h₀ L h' ((I, oI) :: (dj, oj') :: (d1, o1) :: (d2, o2) :: news) ∧ oj'.IsDictOf (strK w) kj' ∧ FlatPairs PyData.str kj' (kdpD b) ∧ m₂ (Str.ofString "joined") = some (.ref dj) ∧ m₂ (Str.ofString "one") = some (.ref d1) ∧ m₂ (Str.ofString "two") = some (.ref d2)
section
variable {w : World} {A : Around} {E : Value → Shared → Prop} {s : Shared} {env : Env} {h₀ : Heap} {x : PySem.Str} {body : List Stmt} {Q : Flow → Shared → Prop}
theorem joinLoop {ds dj d1 d2 : Addr} {o1 o2 o oj : Obj} {kvs kj : List (PySem.Str × Value)} {a c : List (PySem.Str × Int)} {m₀ : Map} {news : Led}
    (hh : A.handled = none) (lo : (ds == sysModules) = false) (hd : o.IsDictOf (strK w) kvs) (hf : FlatPairs PyData.str kvs (kdpD c)) (hc : c.length ≤ 64) (ha : a.length ≤ 64) (hm : (ds, o) ∈ (d1, o1) :: (d2, o2) :: news)
    (F : Fr h₀ env.locals s.heap m₀) (N : News h₀ env.locals s.heap ((dj, oj) :: (d1, o1) :: (d2, o2) :: news)) (hj : oj.IsDictOf (strK w) kj) (fj : FlatPairs PyData.str kj (kdpD a))
    (mj : m₀ (Str.ofString "joined") = some (.ref dj)) (mo : m₀ (Str.ofString "one") = some (.ref d1)) (mt : m₀ (Str.ofString "two") = some (.ref d2))
    (turn : ∀ (b : List (PySem.Str × Int)) (k : PySem.Str) (t : Tok) (m₁ : Map) oj kj h tk I oI, kdpHas c k = true → b.length ≤ 1000 → oj.IsDictOf (strK w) kj → FlatPairs PyData.str kj (kdpD b) → m₁ (Str.ofString "joined") = some (.ref dj) → m₁ (Str.ofString "one") = some (.ref d1) → m₁ (Str.ofString "two") = some (.ref d2) →
      @Ne Nat dj I → @Ne Nat d1 I → @Ne Nat d2 I → (∀ p ∈ news, p.1 ≠ I) →
      Fr h₀ env.locals h (fun y => if y = x then some (.str k t) else m₁ y) → News h₀ env.locals h ((I, oI) :: (dj, oj) :: (d1, o1) :: (d2, o2) :: news) →
      wpAny (model PySem.Challenge.rw_jh0019_01.row.prog w) A (execs body env) (JPost w h₀ env.locals s dj d1 d2 o1 o2 news I oI (kdpPut b k (kdpLook c k 0))) E { s with heap := h, toks := tk })
    (done : ∀ (m₁ : Map) oj kj h tk, oj.IsDictOf (strK w) kj → FlatPairs PyData.str kj (kdpD (putAll a c)) → m₁ (Str.ofString "joined") = some (.ref dj) → m₁ (Str.ofString "one") = some (.ref d1) → m₁ (Str.ofString "two") = some (.ref d2) → Fr h₀ env.locals h m₁ → News h₀ env.locals h ((dj, oj) :: (d1, o1) :: (d2, o2) :: news) → Q .next { s with heap := h, toks := tk }) :
    wpAny (model PySem.Challenge.rw_jh0019_01.row.prog w) A (pyIter (.ref ds)) (fun it s₂ => LoopAtV PySem.Challenge.rw_jh0019_01.row.prog w A h₀ env x body Q E it s₂) E s := by
  refine iter_keys (fun i m n => ∃ oj kj, n = (dj, oj) :: (d1, o1) :: (d2, o2) :: news ∧ oj.IsDictOf (strK w) kj ∧ FlatPairs PyData.str kj (kdpD (putAll a (c.take i))) ∧ m (Str.ofString "joined") = some (.ref dj) ∧ m (Str.ofString "one") = some (.ref d1) ∧ m (Str.ofString "two") = some (.ref d2))
    hh lo hd hf F N ?_ ⟨oj, kj, rfl, hj, fj, mj, mo, mt⟩ ?_ ?_
  · rintro i m n ⟨oj, kj, rfl, _⟩
    exact .tail _ hm
  · rintro i k v t m₁ n₁ h tk I oI hci ⟨oj, kj, rfl, hj, fj, mj, mo, mt⟩ hne F₁ N₁
    obtain ⟨hk, hv⟩ := look_of (nodup_of hd hf) hci
    have hlen : (putAll a (c.take i)).length ≤ 1000 := by
      have h1 := putAll_len (c.take i) a
      have h2 := List.length_take_le i c
      have h3 : (List.take i c).length ≤ c.length := by rw [List.length_take]; omega
      omega
    refine wpAny_mono (turn (putAll a (c.take i)) k t m₁ oj kj h tk I oI hk hlen hj fj mj mo mt (hne _ (.head _)) (hne _ (.tail _ (.head _))) (hne _ (.tail _ (.tail _ (.head _)))) (fun p hp => hne p (.tail _ (.tail _ (.tail _ hp)))) F₁ N₁) (fun f s₂ hq => ?_) fun _ _ e => e
    obtain ⟨rfl, h', tk', m₂, oj', kj', rfl, F₂, N₂, hj2, fj2, mj2, mo2, mt2⟩ := hq
    refine ⟨rfl, h', tk', m₂, _, rfl, F₂, N₂, fun p hp => ?_, oj', kj', rfl, hj2, ?_, mj2, mo2, mt2⟩
    · rcases List.mem_cons.mp hp with rfl | hp
      · exact hne (dj, oj) (.head _)
      · exact hne p (.tail _ hp)
    · rw [putAll_snoc hci, ← hv]; exact fj2
  · rintro m₁ n₁ h tk ⟨oj, kj, rfl, hj, fj, mj, mo, mt⟩ F₁ N₁
    rw [List.take_length] at fj
    exact done m₁ oj kj h tk hj fj mj mo mt F₁ N₁
end
local macro_rules | `(tactic| walk_at "exec For Name Name cons nil") => `(tactic| (k_here; (rename Fr _ _ _ _ => lF'); (with_unfolding_all refine' For_invVF lF' ?k1 ?k2 ?_; (case k1 => exact rfl); (case k2 => exact rfl); k_whole)))
local macro_rules | `(tactic| walk_at "pyIter ref") => `(tactic| (k_here; refine stop_of ?_))
set_option maxRecDepth 100000 in
set_option maxHeartbeats 8000000 in
theorem joined (w : World) (news : Led) (d1 d2 : Addr) (o1 o2 : Obj) (kv1 kv2 : List (PySem.Str × Value)) (c1 c2 : List (PySem.Str × Int)) (lo1 : (d1 == sysModules) = false) (lo2 : (d2 == sysModules) = false) (hd1 : o1.IsDictOf (strK w) kv1) (hd2 : o2.IsDictOf (strK w) kv2) (hf1 : FlatPairs PyData.str kv1 (kdpD c1)) (hf2 : FlatPairs PyData.str kv2 (kdpD c2)) (hl1 : c1.length ≤ 8) (hl2 : c2.length ≤ 8) :
    CallC w 723 [.ref d1, .ref d2] [] ((d1, o1) :: (d2, o2) :: news) (fun K => ∀ d o kvs, (∀ p ∈ (d1, o1) :: (d2, o2) :: news, p.1 < d) → (d == sysModules) = false → o.IsDictOf (strK w) kvs → FlatPairs PyData.str kvs (kdpD (putAll c1 c2)) → K ((d, o) :: (d1, o1) :: (d2, o2) :: news) (.ref d)) := by
  unfold CallC
  k_fill
  intro mean mg mb dp un gd cn cs a ccd cl outer A₀ base h₀ L m s Q E B F X N T hk hd hu hret
  refine wpAny_call ?_
  k_dflt cell_enter
  k_steps
  unfold Stop
  refine joinLoop (a := []) (c := c1) (by rfl) lo1 hd1 hf1 (by omega) (by decide) (.head _) (by k_asm) (by k_asm) (by assumption) (by assumption) (by rfl) (by rfl) (by rfl) ?_ ?_
  · intro b k t m₁ oj kj h tk I oI hk hlen hj fj mj mo mt n1 n2 n3 n4 F N
    k_steps
    exact ⟨rfl, _, _, _, _, _, rfl, by k_asm, by k_asm, by assumption, by assumption, by first | exact rfl | assumption, by first | exact rfl | assumption, by first | exact rfl | assumption⟩
  · intro m₁ oj kj h tk hj fj mj mo mt F N
    rw [putAll_nil (nodup_of hd1 hf1)] at fj
    k_steps
    unfold Stop
    refine joinLoop (a := c1) (c := c2) (by rfl) lo2 hd2 hf2 (by omega) (by omega) (.tail _ (.head _)) (by k_asm) (by k_asm) hj fj (by first | exact rfl | assumption) (by first | exact rfl | assumption) (by first | exact rfl | assumption) ?_ ?_
    · intro b k t m₁ oj kj h tk I oI hk hlen hj fj mj mo mt n1 n2 n3 n4 F N
      k_steps
      exact ⟨rfl, _, _, _, _, _, rfl, by k_asm, by k_asm, by assumption, by assumption, by first | exact rfl | assumption, by first | exact rfl | assumption, by first | exact rfl | assumption⟩
    · intro m₁ oj kj h tk hj fj mj mo mt F N
      k_steps
      all_goals (refine' hret _ _ _ ?a ?b ?c ?d _ _ ?F ?N; (case F => k_asm); (case N => k_asm); (case a => first | assumption | exact ktn_ltOf (by assumption)); (case b => assumption); (case c => assumption); (case d => assumption))
end Mine

end
-- M7
section
local macro_rules | `(tactic| walk_at "pad") => `(tactic| skip)
local macro_rules | `(tactic| walk_at "pad") => `(tactic| skip)
local macro_rules | `(tactic| walk_at "pad") => `(tactic| skip)
local macro_rules | `(tactic| walk_at "pad") => `(tactic| skip)
local macro_rules | `(tactic| walk_at "pad") => `(tactic| skip)
local macro_rules | `(tactic| walk_at "pad") => `(tactic| skip)
local macro_rules | `(tactic| walk_at "pad") => `(tactic| skip)
local macro_rules | `(tactic| walk_at "pad") => `(tactic| skip)
local macro_rules | `(tactic| walk_at "pad") => `(tactic| skip)
local macro_rules | `(tactic| walk_at "pad") => `(tactic| skip)
local macro_rules | `(tactic| walk_at "pad") => `(tactic| skip)
local macro_rules | `(tactic| walk_at "pad") => `(tactic| skip)
theorem Mine.padM7 : (1 : Nat) = 1 := by
  w_top off
  first | (walk1; done) | rfl
end
section
open PySem PySem.Calls PySem.W PyProof.Rows PyProof.V PySem.Spec
namespace Mine
/-- one statement of a def's frame that ends next, the names then told by J -/
theorem cut_execs {prog : Program} {w : World} {A : Around} {E : Value → Shared → Prop} {s : Shared} {env : Env} {st : Stmt} {rest : List Stmt} {Q : Flow → Shared → Prop} {h₀ : Heap} {L : Addr} {news : Led} (J : Map → Prop)
    (h1 : wpAny (model prog w) A (exec st env) (fun f s₂ => f = .next ∧ ∃ h' tk' m', s₂ = { s with heap := h', toks := tk' } ∧ Fr h₀ L h' m' ∧ News h₀ L h' news ∧ J m') E s)
    (h2 : ∀ h' tk' m', Fr h₀ L h' m' → News h₀ L h' news → J m' → wpAny (model prog w) A (execs rest env) Q E { s with heap := h', toks := tk' }) :
    wpAny (model prog w) A (execs (st :: rest) env) Q E s := by
  rw [execs_cons]
  refine wpAny_bind (wpAny_mono h1 (fun f s₂ h => ?_) fun _ _ x => x)
  obtain ⟨rfl, h', tk', m', rfl, F, N, hJ⟩ := h
  exact h2 h' tk' m' F N hJ
def UPost7 (s : Shared) (h₀ : Heap) (L : Addr) (news : Led) (J : Map → Prop) (f : Flow) (s₂ : Shared) : Prop := f = .next ∧ ∃ h' tk' m', s₂ = { s with heap := h', toks := tk' } ∧ Fr h₀ L h' m' ∧ News h₀ L h' news ∧ J m'
theorem cut7 {prog : Program} {w : World} {A : Around} {E : Value → Shared → Prop} {s : Shared} {env : Env} {st : Stmt} {rest : List Stmt} {Q : Flow → Shared → Prop} {h₀ : Heap} {L : Addr} {news : Led} {m₀ : Map} (_F : Fr h₀ L s.heap m₀) (_N : News h₀ L s.heap news) (J : Map → Prop)
    (h1 : wpAny (model prog w) A (exec st env) (UPost7 s h₀ L news J) E s)
    (h2 : ∀ h' tk' m', Fr h₀ L h' m' → News h₀ L h' news → J m' → wpAny (model prog w) A (execs rest env) Q E { s with heap := h', toks := tk' }) :
    wpAny (model prog w) A (execs (st :: rest) env) Q E s := cut_execs J h1 h2
local macro_rules | `(tactic| walk_at "loadName") => `(tactic| (k_here; k_dflt (refine' loadName_L ?F ?v ?_ ?a ?b; (case F => k_asm); (case v => first | with_reducible assumption | exact rfl | assumption); (case a => exact rfl); (case b => kernel_rfl); k_whole)))
def orTo (x : PySem.Str) (i : Nat) : Int := (bitsL.take i).foldl (fun g p => if hasL x p.1 then Builtin.bitOr g p.2 else g) 0
theorem or_no {x : PySem.Str} {l : String} {b g : Int} (h : (Builtin.Str.occurrences x (Str.ofString l) 0 x.length 1).isEmpty = true) : (if hasL x l then Builtin.bitOr g b else g) = g := by
  unfold hasL; rw [h]; simp
theorem or_yes {x : PySem.Str} {l : String} {b g : Int} (h : (Builtin.Str.occurrences x (Str.ofString l) 0 x.length 1).isEmpty = false) : (if hasL x l then Builtin.bitOr g b else g) = Builtin.bitOr g b := by
  unfold hasL; rw [h]; simp
theorem or_flags (x : PySem.Str) : orTo x 6 = flagsTo x 6 := by
  unfold orTo flagsTo bitsL
  simp only [List.take, List.foldl]
  generalize hasL x "i" = b1
  generalize hasL x "l" = b2
  generalize hasL x "m" = b3
  generalize hasL x "s" = b4
  generalize hasL x "u" = b5
  generalize hasL x "x" = b6
  cases b1 <;> cases b2 <;> cases b3 <;> cases b4 <;> cases b5 <;> cases b6 <;> decide +kernel
set_option maxRecDepth 100000 in
set_option maxHeartbeats 8000000 in
theorem flags_of (w : World) (news : Led) (x : PySem.Str) (t : Tok) :
    CallC w 594 [.str x t] [] news (fun K => ∀ u, K news (.int (flagsTo x 6) u)) := by
  unfold CallC
  k_fill
  intro mean mg mb dp un gd cn cs a ccd cl outer A₀ base h₀ L m s Q E B F X N T hk hd hu hret
  refine wpAny_call ?_
  k_dflt cell_enter
  refine cut7 (by with_reducible assumption) (by with_reducible assumption) (fun m => m (Str.ofString "str_flags") = some (.str x t) ∧ ∃ u, m (Str.ofString "flags") = some (.int 0 u)) ?_ ?_
  · k_steps
    all_goals exact ⟨rfl, _, _, _, rfl, by k_asm, by k_asm, rfl, _, rfl⟩
  intro h0 tk0 m0 F N hJ
  obtain ⟨js, u, jf⟩ := hJ
  refine cut7 (by with_reducible assumption) (by with_reducible assumption) (fun m => m (Str.ofString "str_flags") = some (.str x t) ∧ ∃ u, m (Str.ofString "flags") = some (.int (orTo x 1) u)) ?_ ?_
  · k_steps
    · exact ⟨rfl, _, _, _, rfl, by k_asm, by k_asm, by first | exact rfl | assumption, _, (by first | exact rfl | assumption : _ = some (.int (orTo x 0) _)).trans (congrArg (fun z => some (Value.int z _)) (or_no (by assumption)).symm)⟩
    · exact ⟨rfl, _, _, _, rfl, by k_asm, by k_asm, by first | exact rfl | assumption, _, (rfl : _ = some (Value.int (Builtin.bitOr (orTo x 0) _) _)).trans (congrArg (fun z => some (Value.int z _)) (or_yes (by assumption)).symm)⟩
  clear F N
  intro h1 tk1 m1 F N hJ
  obtain ⟨js, u, jf⟩ := hJ
  refine cut7 (by with_reducible assumption) (by with_reducible assumption) (fun m => m (Str.ofString "str_flags") = some (.str x t) ∧ ∃ u, m (Str.ofString "flags") = some (.int (orTo x 2) u)) ?_ ?_
  · k_steps
    · exact ⟨rfl, _, _, _, rfl, by k_asm, by k_asm, by first | exact rfl | assumption, _, (by first | exact rfl | assumption : _ = some (.int (orTo x 1) _)).trans (congrArg (fun z => some (Value.int z _)) (or_no (by assumption)).symm)⟩
    · exact ⟨rfl, _, _, _, rfl, by k_asm, by k_asm, by first | exact rfl | assumption, _, (rfl : _ = some (Value.int (Builtin.bitOr (orTo x 1) _) _)).trans (congrArg (fun z => some (Value.int z _)) (or_yes (by assumption)).symm)⟩
  clear F N
  intro h2 tk2 m2 F N hJ
  obtain ⟨js, u, jf⟩ := hJ
  refine cut7 (by with_reducible assumption) (by with_reducible assumption) (fun m => m (Str.ofString "str_flags") = some (.str x t) ∧ ∃ u, m (Str.ofString "flags") = some (.int (orTo x 3) u)) ?_ ?_
  · k_steps
    · exact ⟨rfl, _, _, _, rfl, by k_asm, by k_asm, by first | exact rfl | assumption, _, (by first | exact rfl | assumption : _ = some (.int (orTo x 2) _)).trans (congrArg (fun z => some (Value.int z _)) (or_no (by assumption)).symm)⟩
    · exact ⟨rfl, _, _, _, rfl, by k_asm, by k_asm, by first | exact rfl | assumption, _, (rfl : _ = some (Value.int (Builtin.bitOr (orTo x 2) _) _)).trans (congrArg (fun z => some (Value.int z _)) (or_yes (by assumption)).symm)⟩
  clear F N
  intro h3 tk3 m3 F N hJ
  obtain ⟨js, u, jf⟩ := hJ
  refine cut7 (by with_reducible assumption) (by with_reducible assumption) (fun m => m (Str.ofString "str_flags") = some (.str x t) ∧ ∃ u, m (Str.ofString "flags") = some (.int (orTo x 4) u)) ?_ ?_
  · k_steps
    · exact ⟨rfl, _, _, _, rfl, by k_asm, by k_asm, by first | exact rfl | assumption, _, (by first | exact rfl | assumption : _ = some (.int (orTo x 3) _)).trans (congrArg (fun z => some (Value.int z _)) (or_no (by assumption)).symm)⟩
    · exact ⟨rfl, _, _, _, rfl, by k_asm, by k_asm, by first | exact rfl | assumption, _, (rfl : _ = some (Value.int (Builtin.bitOr (orTo x 3) _) _)).trans (congrArg (fun z => some (Value.int z _)) (or_yes (by assumption)).symm)⟩
  clear F N
  intro h4 tk4 m4 F N hJ
  obtain ⟨js, u, jf⟩ := hJ
  refine cut7 (by with_reducible assumption) (by with_reducible assumption) (fun m => m (Str.ofString "str_flags") = some (.str x t) ∧ ∃ u, m (Str.ofString "flags") = some (.int (orTo x 5) u)) ?_ ?_
  · k_steps
    · exact ⟨rfl, _, _, _, rfl, by k_asm, by k_asm, by first | exact rfl | assumption, _, (by first | exact rfl | assumption : _ = some (.int (orTo x 4) _)).trans (congrArg (fun z => some (Value.int z _)) (or_no (by assumption)).symm)⟩
    · exact ⟨rfl, _, _, _, rfl, by k_asm, by k_asm, by first | exact rfl | assumption, _, (rfl : _ = some (Value.int (Builtin.bitOr (orTo x 4) _) _)).trans (congrArg (fun z => some (Value.int z _)) (or_yes (by assumption)).symm)⟩
  clear F N
  intro h5 tk5 m5 F N hJ
  obtain ⟨js, u, jf⟩ := hJ
  refine cut7 (by with_reducible assumption) (by with_reducible assumption) (fun m => m (Str.ofString "str_flags") = some (.str x t) ∧ ∃ u, m (Str.ofString "flags") = some (.int (orTo x 6) u)) ?_ ?_
  · k_steps
    · exact ⟨rfl, _, _, _, rfl, by k_asm, by k_asm, by first | exact rfl | assumption, _, (by first | exact rfl | assumption : _ = some (.int (orTo x 5) _)).trans (congrArg (fun z => some (Value.int z _)) (or_no (by assumption)).symm)⟩
    · exact ⟨rfl, _, _, _, rfl, by k_asm, by k_asm, by first | exact rfl | assumption, _, (rfl : _ = some (Value.int (Builtin.bitOr (orTo x 5) _) _)).trans (congrArg (fun z => some (Value.int z _)) (or_yes (by assumption)).symm)⟩
  clear F N
  intro h6 tk6 m6 F N hJ
  obtain ⟨js, u, jf⟩ := hJ
  rw [or_flags] at jf
  k_steps
  all_goals exact hret _ _ _ (by k_asm) (by k_asm)
end Mine

end
-- M9
section
local macro_rules | `(tactic| walk_at "pad") => `(tactic| skip)
local macro_rules | `(tactic| walk_at "pad") => `(tactic| skip)
local macro_rules | `(tactic| walk_at "pad") => `(tactic| skip)
local macro_rules | `(tactic| walk_at "pad") => `(tactic| skip)
local macro_rules | `(tactic| walk_at "pad") => `(tactic| skip)
local macro_rules | `(tactic| walk_at "pad") => `(tactic| skip)
local macro_rules | `(tactic| walk_at "pad") => `(tactic| skip)
local macro_rules | `(tactic| walk_at "pad") => `(tactic| skip)
local macro_rules | `(tactic| walk_at "pad") => `(tactic| skip)
local macro_rules | `(tactic| walk_at "pad") => `(tactic| skip)
local macro_rules | `(tactic| walk_at "pad") => `(tactic| skip)
local macro_rules | `(tactic| walk_at "pad") => `(tactic| skip)
theorem Mine.padM9 : (1 : Nat) = 1 := by
  w_top off
  first | (walk1; done) | rfl
end
section
open PySem PySem.Calls PySem.W PyProof.Rows PyProof.V PySem.Spec
namespace Mine
local macro_rules | `(tactic| walk_at "InitBack error") => `(tactic| (dsimp only [InitBack]))
local macro_rules | `(tactic| walk_at "call ref") => `(tactic| (k_here; (with_reducible show wpAny _ _ (call (Value.ref _) [Value.str _ _] []) _ _ _); k_dflt (refine' use_C (flags_of _ _ _ _) ?B ?F ?X ?N ?T ?k ?d ?u ?_; (case B => k_asm); (case F => k_asm); (case X => k_asm); (case N => k_asm); (case T => k_asm); (case k => first | exact rfl | assumption); (case d => ktr_room); (case u => k_units); k_whole); intro t' h' tk' F' N'; (try dsimp only); (try k_sweep)))
set_option maxRecDepth 100000 in
set_option maxHeartbeats 8000000 in
theorem made_regex_str (w : World) (news : Led) (x z : PySem.Str) (t t1 t2 : Tok) :
    CallL w 716 [.str (Str.ofString "regex") t, .str x t1, .str z t2] [] news (fun K => ∀ a t3 t4, (∀ p ∈ news, p.1 < a) → K ((a, tupO [.str x t3, .int (flagsTo z 6) t4]) :: news) (.ref a)) := by
  unfold CallL
  k_fill
  intro mean mg mb dp un gd cn cs a ccd cl A₀ h₀ L m s Q E B F X N T hk hd hu hret
  refine wpAny_call ?_
  k_dflt (refine' code_S ?k1 ?k2 ?k3 ?k4 ?k5 ?kA ?kF ?kK ?k6 ?k7 ?k8 ?k9 ?kB ?_ ?c2 ?c3 ?c4 ?c5; (case kA => exact rfl); (case kF => exact rfl); (case kK => assumption); (case k1 => k_asm); (case k2 => k_asm); (case k3 => k_asm); (case k4 => k_asm); (case k5 => k_asm); (case k6 => k_is); (case k7 => k_is); (case k8 => ktr_room); (case k9 => first | exact binds_K (by k_in) rfl (by k_is) rfl rfl rfl | exact BindsTo.of_eq rfl); (case kB => exact locs rfl); (case c2 => exact rfl); (case c3 => exact rfl); (case c4 => exact rfl); (case c5 => decide); k_whole; intro g' L' h' FG' F' N' B' X' T' D'; (try dsimp only); (try k_lift B'); (try k_fold))
  k_steps
  all_goals exact hret _ _ _ (by first | exact ktn_ltOf (by assumption : _ ∧ _ ∧ AllLt _ news).2.2 | exact ktn_ltOf (by assumption : _ ∧ _ ∧ _ ∧ AllLt _ news).2.2.2 | exact ktn_ltOf (by assumption : _ ∧ _ ∧ _ ∧ _ ∧ AllLt _ news).2.2.2.2 | exact ktn_ltOf (by assumption : _ ∧ AllLt _ news).2 | exact ktn_ltOf (by assumption : _ ∧ _ ∧ _ ∧ _ ∧ _ ∧ AllLt _ news).2.2.2.2.2 | exact ktn_ltOf (by assumption : _ ∧ _ ∧ _ ∧ _ ∧ _ ∧ _ ∧ AllLt _ news).2.2.2.2.2.2 | exact ktn_ltOf (by assumption : _ ∧ _ ∧ _ ∧ _ ∧ _ ∧ _ ∧ _ ∧ AllLt _ news).2.2.2.2.2.2.2) _ _ (by k_asm) (cb_drop (by k_asm) (by kcj_all))
set_option maxRecDepth 100000 in
set_option maxHeartbeats 8000000 in
theorem new_regex_s (w : World) (news : Led) (t t1 : Tok) (z l : PySem.Str) :
    CallL w 626 [.str z t, .str l t1] [] news (fun K => ∀ x d u1 u2 u3 u4, (∀ p ∈ news, p.1 < d) → d < x → K ((x, instObj 626 d) :: (d, dictOf [⟨PyData.keyHash w.params (Str.ofString "pattern"), .str (Str.ofString "pattern") u2, .str z u1⟩, ⟨PyData.keyHash w.params (Str.ofString "flags"), .str (Str.ofString "flags") u4, .int (flagsTo l 6) u3⟩] 2) :: news) (.ref x)) := by
  unfold CallL
  k_fill
  intro mean mg mb dp un gd cn cs a ccd cl A₀ h₀ L m s Q E B F X N T hk hd hu hret
  k_steps
  all_goals (refine' hret _ _ _ _ _ _ ?a ?b _ _ ?F ?N; (case F => k_asm); (case N => first | k_asm | exact cb_drop (by k_asm) (by kcj_all)); (case a => first | assumption | exact ktn_ltOf (by assumption)); (case b => first | assumption | omega))
end Mine

end
-- N1
section
local macro_rules | `(tactic| walk_at "pad") => `(tactic| skip)
local macro_rules | `(tactic| walk_at "pad") => `(tactic| skip)
local macro_rules | `(tactic| walk_at "pad") => `(tactic| skip)
local macro_rules | `(tactic| walk_at "pad") => `(tactic| skip)
local macro_rules | `(tactic| walk_at "pad") => `(tactic| skip)
local macro_rules | `(tactic| walk_at "pad") => `(tactic| skip)
local macro_rules | `(tactic| walk_at "pad") => `(tactic| skip)
local macro_rules | `(tactic| walk_at "pad") => `(tactic| skip)
local macro_rules | `(tactic| walk_at "pad") => `(tactic| skip)
local macro_rules | `(tactic| walk_at "pad") => `(tactic| skip)
local macro_rules | `(tactic| walk_at "pad") => `(tactic| skip)
local macro_rules | `(tactic| walk_at "pad") => `(tactic| skip)
theorem Mine.padN1 : (1 : Nat) = 1 := by
  w_top off
  first | (walk1; done) | rfl
end
section
open PySem PySem.Calls PySem.W PyProof.Rows PyProof.V PySem.Spec
namespace Mine
/-- isinstance of this value against this class says no -/
def IsiNo (w : World) (u : Value) (C : Addr) (news : Led) : Prop :=
  ∀ (A : Around) (h₀ : Heap) (L : Addr) (m : Map) (s : Shared) (Q E : Value → Shared → Prop), (hd.heap_39 w.params).In s.heap → Fr h₀ L s.heap m → News h₀ L s.heap news → (∀ tk', Q (.bool false) { s with toks := tk' }) →
    wpAny (model PySem.Challenge.rw_jh0019_01.row.prog w) A (call (.builtin "isinstance") [u, .ref C]) Q E s
theorem IsiNo.at {w : World} {u : Value} {C : Addr} {news : Led} (H : IsiNo w u C news) {A : Around} {h₀ : Heap} {L : Addr} {m : Map} {s : Shared} {Q E : Value → Shared → Prop} (X : (hd.heap_39 w.params).In s.heap) (F : Fr h₀ L s.heap m) (N : News h₀ L s.heap news) (h : ∀ tk', Q (.bool false) { s with toks := tk' }) :
    wpAny (model PySem.Challenge.rw_jh0019_01.row.prog w) A (call (.builtin "isinstance") [u, .ref C]) Q E s := H A h₀ L m s Q E X F N h
theorem news_d1 {h₀ h : Heap} {L : Addr} {news : Led} {pa : Addr × Obj} (N : News h₀ L h (pa :: news)) : News h₀ L h news := fun p hp => N p (.tail _ hp)
local macro_rules | `(tactic| walk_at "call builtin:isinstance") => `(tactic| (k_here; k_dflt (refine' IsiNo.at (by with_reducible assumption) ?X ?F (news_d1 ?N) ?_; (case X => k_in); (case F => k_asm); (case N => k_asm)); intro tk'))
set_option maxRecDepth 100000 in
set_option maxHeartbeats 8000000 in
theorem eqa_binary (w : World) (news : Led) (x d : Addr) (u : Value) (hI : IsiNo w u 144 news) :
    CallC w 134 [.ref x, u] [] ((x, instObj 144 d) :: news) (fun K => K ((x, instObj 144 d) :: news) (.bool false)) := by
  unfold CallC
  k_fill
  intro mean mg mb dp un gd cn cs a ccd cl outer A₀ base h₀ L m s Q E B F X N T hk hd hu hret
  refine wpAny_call ?_
  k_dflt cell_enter
  k_steps
  all_goals exact hret _ _ (by k_asm) (by k_asm)
set_option maxRecDepth 100000 in
set_option maxHeartbeats 8000000 in
theorem eqa_code (w : World) (news : Led) (x d : Addr) (u : Value) (hI : IsiNo w u 61 news) :
    CallC w 51 [.ref x, u] [] ((x, instObj 61 d) :: news) (fun K => K ((x, instObj 61 d) :: news) (.bool false)) := by
  unfold CallC
  k_fill
  intro mean mg mb dp un gd cn cs a ccd cl outer A₀ base h₀ L m s Q E B F X N T hk hd hu hret
  refine wpAny_call ?_
  k_dflt cell_enter
  k_steps
  all_goals exact hret _ _ (by k_asm) (by k_asm)
set_option maxRecDepth 100000 in
set_option maxHeartbeats 8000000 in
theorem eqa_regex (w : World) (news : Led) (x d : Addr) (u : Value) (hI : IsiNo w u 626 news) :
    CallC w 616 [.ref x, u] [] ((x, instObj 626 d) :: news) (fun K => K ((x, instObj 626 d) :: news) (.notImplemented)) := by
  unfold CallC
  k_fill
  intro mean mg mb dp un gd cn cs a ccd cl outer A₀ base h₀ L m s Q E B F X N T hk hd hu hret
  refine wpAny_call ?_
  k_dflt cell_enter
  k_steps
  all_goals exact hret _ _ (by k_asm) (by k_asm)
set_option maxRecDepth 100000 in
set_option maxHeartbeats 8000000 in
theorem eqa_dbref (w : World) (news : Led) (x d : Addr) (u : Value) (hI : IsiNo w u 261 news) :
    CallC w 251 [.ref x, u] [] ((x, instObj 261 d) :: news) (fun K => K ((x, instObj 261 d) :: news) (.notImplemented)) := by
  unfold CallC
  k_fill
  intro mean mg mb dp un gd cn cs a ccd cl outer A₀ base h₀ L m s Q E B F X N T hk hd hu hret
  refine wpAny_call ?_
  k_dflt cell_enter
  k_steps
  all_goals exact hret _ _ (by k_asm) (by k_asm)
set_option maxRecDepth 100000 in
set_option maxHeartbeats 8000000 in
theorem eqa_date (w : World) (news : Led) (x d : Addr) (u : Value) (hI : IsiNo w u 201 news) :
    CallC w 191 [.ref x, u] [] ((x, instObj 201 d) :: news) (fun K => K ((x, instObj 201 d) :: news) (.bool false)) := by
  unfold CallC
  k_fill
  intro mean mg mb dp un gd cn cs a ccd cl outer A₀ base h₀ L m s Q E B F X N T hk hd hu hret
  refine wpAny_call ?_
  k_dflt cell_enter
  k_steps
  all_goals exact hret _ _ (by k_asm) (by k_asm)
set_option maxRecDepth 100000 in
set_option maxHeartbeats 8000000 in
theorem eqa_int64 (w : World) (news : Led) (x d : Addr) (u : Value) (hI : IsiNo w u 344 news) :
    CallC w 341 [.ref x, u] [] ((x, instObj 344 d) :: news) (fun K => K ((x, instObj 344 d) :: news) (.bool false)) := by
  unfold CallC
  k_fill
  intro mean mg mb dp un gd cn cs a ccd cl outer A₀ base h₀ L m s Q E B F X N T hk hd hu hret
  refine wpAny_call ?_
  k_dflt cell_enter
  k_steps
  all_goals exact hret _ _ (by k_asm) (by k_asm)
set_option maxRecDepth 100000 in
set_option maxHeartbeats 8000000 in
theorem eqa_minkey (w : World) (news : Led) (x d : Addr) (u : Value) (hI : IsiNo w u 470 news) :
    CallC w 425 [.ref x, u] [] ((x, instObj 470 d) :: news) (fun K => K ((x, instObj 470 d) :: news) (.bool false)) := by
  unfold CallC
  k_fill
  intro mean mg mb dp un gd cn cs a ccd cl outer A₀ base h₀ L m s Q E B F X N T hk hd hu hret
  refine wpAny_call ?_
  k_dflt cell_enter
  k_steps
  all_goals exact hret _ _ (by k_asm) (by k_asm)
set_option maxRecDepth 100000 in
set_option maxHeartbeats 8000000 in
theorem eqa_maxkey (w : World) (news : Led) (x d : Addr) (u : Value) (hI : IsiNo w u 407 news) :
    CallC w 362 [.ref x, u] [] ((x, instObj 407 d) :: news) (fun K => K ((x, instObj 407 d) :: news) (.bool false)) := by
  unfold CallC
  k_fill
  intro mean mg mb dp un gd cn cs a ccd cl outer A₀ base h₀ L m s Q E B F X N T hk hd hu hret
  refine wpAny_call ?_
  k_dflt cell_enter
  k_steps
  all_goals exact hret _ _ (by k_asm) (by k_asm)
set_option maxRecDepth 100000 in
set_option maxHeartbeats 8000000 in
theorem eqa_objid (w : World) (news : Led) (x d : Addr) (u : Value) (hI : IsiNo w u 583 news) :
    CallC w 545 [.ref x, u] [] ((x, instObj 583 d) :: news) (fun K => K ((x, instObj 583 d) :: news) (.notImplemented)) := by
  unfold CallC
  k_fill
  intro mean mg mb dp un gd cn cs a ccd cl outer A₀ base h₀ L m s Q E B F X N T hk hd hu hret
  refine wpAny_call ?_
  k_dflt cell_enter
  k_steps
  all_goals exact hret _ _ (by k_asm) (by k_asm)
set_option maxRecDepth 100000 in
set_option maxHeartbeats 8000000 in
theorem eqa_stamp (w : World) (news : Led) (x d : Addr) (u : Value) (hI : IsiNo w u 705 news) :
    CallC w 667 [.ref x, u] [] ((x, instObj 705 d) :: news) (fun K => K ((x, instObj 705 d) :: news) (.notImplemented)) := by
  unfold CallC
  k_fill
  intro mean mg mb dp un gd cn cs a ccd cl outer A₀ base h₀ L m s Q E B F X N T hk hd hu hret
  refine wpAny_call ?_
  k_dflt cell_enter
  k_steps
  all_goals exact hret _ _ (by k_asm) (by k_asm)
end Mine

end
-- N2
section
open PySem PySem.Calls PySem.W PyProof.Rows PyProof.V PySem.Spec
set_option maxRecDepth 100000
namespace Mine
noncomputable abbrev KP (w : World) : Frag := hd.heap_39 w.params
abbrev MD (w : World) : Model := model PySem.Challenge.rw_jh0019_01.row.prog w
/-- v's own comparison with u says no, or declines -/
def TryC (w : World) (v u : Value) (news : Led) : Prop :=
  ∀ (mean : ExcName → Option Value) (mg mb : PySem.Str → Option Value) (dp un : Nat) (gd : Option (List Code)) (cn : PySem.Str) (cs : Scope) (a : Addr) (ccd : Value) (cl : List (PySem.Str × Addr)) (outer : List Env) (A₀ : Around) (base h₀ : Heap) (L : Addr) (m : Map) (s : Shared) (Q : Option Value → Shared → Prop) (E : Value → Shared → Prop),
    Below A₀ base outer h₀ → Fr h₀ L s.heap m → (KP w).In h₀ → News h₀ L s.heap news → Top hd.view_39 (looseW hd.view_39 looseN) mean mg mb h₀ → cs.kind = .function → dp + 8 < recursionLimit → un + 64 < cLine →
    (∀ r h' tk', (r = none ∨ r = some (.bool false)) → Fr h₀ L h' m → News h₀ L h' news → Q r { s with heap := h', toks := tk' }) →
    wpAny (MD w) (ktrTop dp un gd cn cs L a ccd cl outer) (tryCompare v (cmpInfo .Eq).2.1 u) Q E s
/-- v == u answers b, whatever frame of the text's asks -/
def CmpC (w : World) (v u : Value) (news : Led) (b : Bool) : Prop :=
  ∀ (mean : ExcName → Option Value) (mg mb : PySem.Str → Option Value) (dp un : Nat) (gd : Option (List Code)) (cn : PySem.Str) (cs : Scope) (a : Addr) (ccd : Value) (cl : List (PySem.Str × Addr)) (outer : List Env) (A₀ : Around) (base h₀ : Heap) (L : Addr) (m : Map) (s : Shared) (Q E : Value → Shared → Prop),
    Below A₀ base outer h₀ → Fr h₀ L s.heap m → (KP w).In h₀ → News h₀ L s.heap news → Top hd.view_39 (looseW hd.view_39 looseN) mean mg mb h₀ → cs.kind = .function → dp + 8 < recursionLimit → un + 64 < cLine →
    (∀ h' tk', Fr h₀ L h' m → News h₀ L h' news → Q (.bool b) { s with heap := h', toks := tk' }) →
    wpAny (MD w) (ktrTop dp un gd cn cs L a ccd cl outer) (compareOp .Eq v u) Q E s
/-- what the values of the list are -/
inductive Kd (news : Led) : Value → Value → Prop
  | inst {x d C : Addr} {od : Obj} : (x, instObj C d) ∈ news → (d, od) ∈ news → Kd news (.ref x) (.ref C)
  | bytes (b : Array UInt8) (t : Tok) : Kd news (.bytes b t) (.type "bytes")
  | str (z : PySem.Str) (t : Tok) : Kd news (.str z t) (.type "str")
  | none : Kd news .none (.type "NoneType")
theorem Kd.looks {news : Led} {v tv : Value} (k : Kd news v tv) {h₀ : Heap} {L : Addr} {h : Heap} (N : News h₀ L h news) {M : Model} : Looks M h (typeOf v) tv := by
  cases k with
  | inst h1 h2 => exact (InstAt.of_news N h1 h2).type
  | bytes b t => exact Looks.of_pure rfl
  | str z t => exact Looks.of_pure rfl
  | none => exact Looks.of_pure rfl
theorem Kd.one {news : Led} {v tv u tu : Value} (k : Kd news v tv) (k2 : Kd news u tu) : oneThing? .Eq v u = Option.none := by
  cases k <;> cases k2 <;> rfl
theorem Kd.same {news : Led} {v tv u tu : Value} (k : Kd news v tv) (k2 : Kd news u tu) (hne : tv ≠ tu) {h₀ : Heap} {L : Addr} {M : Model} {A : Around} {s : Shared} (N : News h₀ L s.heap news) {Q : Bool → Shared → Prop} {E : Value → Shared → Prop} (h : Q false s) : wpAny M A (isSame v u) Q E s := by
  cases k with
  | @inst x d C od h1 h2 =>
    cases k2 with
    | @inst y d' C' od' g1 g2 =>
      have hxy : (x == y) = false := beq_eq_false_iff_ne.mpr fun e => by
        subst e
        have e1 := (N _ h1).1
        have e2 := (N _ g1).1
        simp only at e1 e2
        rw [e1] at e2
        have e3 := congrArg Obj.cls (Option.some.inj e2)
        exact hne e3
      unfold isSame
      simp only [hxy, Bool.false_eq_true, if_false]
      refine wpAny_bind (wpAny_load (N _ h1).1 (wpAny_bind (wpAny_load (N _ g1).1 ?_)))
      exact wpAny_pure h
    | bytes b t => exact wpAny_of_eq rfl h
    | str z t => exact wpAny_of_eq rfl h
    | none => exact wpAny_of_eq rfl h
  | bytes b t =>
    cases k2 with
    | inst g1 g2 => exact wpAny_of_eq rfl h
    | bytes b t => exact absurd rfl hne
    | str z t => exact wpAny_of_eq rfl h
    | none => exact wpAny_of_eq rfl h
  | str z t =>
    cases k2 with
    | inst g1 g2 => exact wpAny_of_eq rfl h
    | bytes b t => exact wpAny_of_eq rfl h
    | str z t => exact absurd rfl hne
    | none => exact wpAny_of_eq rfl h
  | none =>
    cases k2 with
    | inst g1 g2 => exact wpAny_of_eq rfl h
    | bytes b t => exact wpAny_of_eq rfl h
    | str z t => exact wpAny_of_eq rfl h
    | none => exact absurd rfl hne
section
variable {w : World} {news : Led} {v u tv tu : Value}
theorem try_inst {x C d f : Addr} {od : Obj} {v0 : Value} (H : CallC w f [.ref x, u] [] news (fun K => K news v0)) (hv : v0 = .bool false ∨ v0 = .notImplemented) (h1 : (x, instObj C d) ∈ news) (h2 : (d, od) ∈ news)
    (hs : findIn (KP w) (.ref C) (cmpInfo .Eq).2.1 = some (some (.ref f))) (hf : isFn (KP w) (.ref f) = true) : TryC w (.ref x) u news := by
  intro mean mg mb dp un gd cn cs a ccd cl outer A₀ base h₀ L m s Q E B F X N T hk hd hu hret
  unfold tryCompare
  refine wpAny_bind (ifBound_K (X.keeps F.keep) (InstAt.of_news N h1 h2) hs hf ?_)
  refine H mean mg mb dp un gd cn cs a ccd cl outer A₀ base h₀ L m s _ E B F X N T hk hd hu fun h' tk' F' N' => ?_
  rcases hv with rfl | rfl
  · exact wpAny_pure (hret _ _ _ (.inr rfl) F' N')
  · exact wpAny_pure (hret _ _ _ (.inl rfl) F' N')
theorem try_bytes (b : Array UInt8) (t : Tok) (k : Kd news u tu) (e : subIn (KP w) tu (.type "bytes") = some false) : TryC w (.bytes b t) u news := by
  intro mean mg mb dp un gd cn cs a ccd cl outer A₀ base h₀ L m s Q E B F X N T hk hd hu hret
  refine wpAny_tryCompare_declines (typeIs_bytes s b t) FB.slot_bytes_eq (wpAny_call_entry FB.slot_bytes_eq (typeIs_bytes s b t) FB.entry_bytes_eq ?_ (FB.args_bytes_eq_2 _ _))
  show wpAny _ _ (isInstance u (.type "bytes") >>= fun r => _) _ _ s
  have L1 : Looks (MD w) s.heap (typeOf u) tu := k.looks N
  have L2 : Looks (MD w) s.heap (isSubtype tu (.type "bytes")) false := looks_subIn (X.keeps F.keep) e
  have L3 : Looks (MD w) s.heap (isInstance u (.type "bytes")) false := L1.andThen L2
  refine wpAny_bind (L3.here ?_)
  simp only [Bool.not_false, if_true]
  first
    | exact wpAny_pure ⟨Value.notImplemented, rfl, rfl, hret _ _ _ (.inl rfl) F N⟩
    | exact wpAny_bind (wpAny_rule (wpAny_pure ⟨Value.notImplemented, rfl, rfl, hret _ _ _ (.inl rfl) F N⟩))
    | exact wpAny_bind (wpAny_rule (wpAny_bind (wpAny_pure (wpAny_pure ⟨Value.notImplemented, rfl, rfl, hret _ _ _ (.inl rfl) F N⟩))))
theorem try_str (z : PySem.Str) (t : Tok) (k : Kd news u tu) (hne : tu ≠ .type "str") : TryC w (.str z t) u news := by
  intro mean mg mb dp un gd cn cs a ccd cl outer A₀ base h₀ L m s Q E B F X N T hk hd hu hret
  refine wpAny_tryCompare_declines (typeIs_str s z t) PySem.F.slot_str_eq (wpAny_call_entry PySem.F.slot_str_eq (typeIs_str s z t) PySem.F.entry_str_eq ?_ (PySem.F.args_str_eq_2 _ _))
  show wpAny _ _ (asStr? u >>= fun r => _) _ _ s
  cases k with
  | inst h1 h2 =>
    unfold asStr?
    refine wpAny_bind (wpAny_bind (wpAny_load (N _ h1).1 ?_))
    refine wpAny_pure ?_
    first
      | exact wpAny_bind (wpAny_rule (wpAny_pure ⟨Value.notImplemented, rfl, rfl, hret _ _ _ (.inl rfl) F N⟩))
      | exact wpAny_pure ⟨Value.notImplemented, rfl, rfl, hret _ _ _ (.inl rfl) F N⟩
  | bytes b t =>
    refine wpAny_bind (wpAny_of_eq (rfl : asStr? (.bytes b t) = pure Option.none) ?_)
    first
      | exact wpAny_bind (wpAny_rule (wpAny_pure ⟨Value.notImplemented, rfl, rfl, hret _ _ _ (.inl rfl) F N⟩))
      | exact wpAny_pure ⟨Value.notImplemented, rfl, rfl, hret _ _ _ (.inl rfl) F N⟩
  | str => exact absurd rfl hne
  | none =>
    refine wpAny_bind (wpAny_of_eq (rfl : asStr? .none = pure Option.none) ?_)
    first
      | exact wpAny_bind (wpAny_rule (wpAny_pure ⟨Value.notImplemented, rfl, rfl, hret _ _ _ (.inl rfl) F N⟩))
      | exact wpAny_pure ⟨Value.notImplemented, rfl, rfl, hret _ _ _ (.inl rfl) F N⟩
theorem try_none (k : Kd news u tu) (hne : tu ≠ .type "NoneType") : TryC w .none u news := by
  intro mean mg mb dp un gd cn cs a ccd cl outer A₀ base h₀ L m s Q E B F X N T hk hd hu hret
  refine wpAny_tryCompare_declines (rfl : s.TypeIs .none "NoneType") PySem.F.slot_NoneType_eq (wpAny_call_entry PySem.F.slot_NoneType_eq (rfl : s.TypeIs .none "NoneType") PySem.F.entry_NoneType_eq ?_ (PySem.F.args_NoneType_eq_2 _ _))
  cases k with
  | inst h1 h2 => exact wpAny_pure ⟨Value.notImplemented, rfl, rfl, hret _ _ _ (.inl rfl) F N⟩
  | bytes b t => exact wpAny_pure ⟨Value.notImplemented, rfl, rfl, hret _ _ _ (.inl rfl) F N⟩
  | str => exact wpAny_pure ⟨Value.notImplemented, rfl, rfl, hret _ _ _ (.inl rfl) F N⟩
  | none => exact absurd rfl hne
theorem cmp_alien (H1 : TryC w v u news) (H2 : TryC w u v news) (k1 : Kd news v tv) (k2 : Kd news u tu) (hne : tv ≠ tu) (e : subIn (KP w) tu tv = some false) : CmpC w v u news false := by
  intro mean mg mb dp un gd cn cs a ccd cl outer A₀ base h₀ L m s Q E B F X N T hk hd hu hret
  refine cmp_ofEq ?_
  unfold richCompare
  simp only [k1.one k2]
  have hu' : (ktrTop dp un gd cn cs L a ccd cl outer).units < cLine := by k_units
  refine wpAny_holding (wpAny_bind (wpAny_cRoomFor hu' ?_))
  refine wpAny_bind ((k1.looks N).here (wpAny_bind ((k2.looks N).here ?_)))
  rw [if_pos (by simpa using hne)]
  refine wpAny_bind ((looks_subIn (X.keeps F.keep) e).here ?_)
  simp only [Bool.false_eq_true, if_false, Bool.not_false, if_true]
  refine wpAny_bind (H1 mean mg mb dp un gd cn cs a ccd cl outer A₀ base h₀ L m s _ E B F X N T hk hd hu fun r h' tk' hr F' N' => ?_)
  rcases hr with rfl | rfl
  · refine wpAny_bind (H2 mean mg mb dp un gd cn cs a ccd cl outer A₀ base h₀ L m { s with heap := h', toks := tk' } _ E B F' X N' T hk hd hu fun r h'' tk'' hr F'' N'' => ?_)
    rcases hr with rfl | rfl
    · refine wpAny_bind (wpAny_rule (wpAny_bind ?_))
      exact k1.same k2 hne N'' (wpAny_pure (hret _ _ F'' N''))
    · exact wpAny_pure (hret _ _ F'' N'')
  · exact wpAny_pure (hret _ _ F' N')
end
end Mine

end
-- N3
section
open PySem PySem.Calls PySem.W PyProof.Rows PyProof.V PySem.Spec
set_option maxRecDepth 100000
namespace Mine
def okCls (K : Frag) (D : Addr) : Bool := plainGet K D "__class__" && hasDictIn K D && findIn K (.ref D) "__class__" == some (some (.builtin "object.__class__")) && mroIn K D (.type "object") == some true
def okAll (K : Frag) : Bool := specialIn K (.builtin "object.__class__") "__get__" == some (some (.builtin "getset_descriptor.__get__")) && takesIn K (.builtin "object.__class__") == some true
def cls10 : List Addr := [144, 61, 626, 261, 201, 344, 470, 407, 583, 705]
def types13 : List Value := cls10.map Value.ref ++ [.type "bytes", .type "str", .type "NoneType"]
def chkAll (K : Frag) : Bool := okAll K && (cls10.all fun D => okCls K D && isNotIn K "bytes" D && isNotIn K "str" D && isNotIn K "NoneType" D && cls10.all fun C => D == C || kin_not K D C) && (types13.all fun a => types13.all fun b => a == b || subIn K a b == some false)
theorem chk_all (w : World) : chkAll (KP w) = true := by kernel_rfl
theorem chk_ok (w : World) : okAll (KP w) = true := by
  have h := chk_all w
  unfold chkAll at h
  simp only [Bool.and_eq_true] at h
  exact h.1.1
theorem chk_cls (w : World) {D : Addr} (hD : D ∈ cls10) : okCls (KP w) D = true ∧ isNotIn (KP w) "bytes" D = true ∧ isNotIn (KP w) "str" D = true ∧ isNotIn (KP w) "NoneType" D = true := by
  have h := chk_all w
  unfold chkAll at h
  rw [Bool.and_eq_true, Bool.and_eq_true] at h
  have h1 := List.all_eq_true.mp h.1.2 D hD
  simp only [Bool.and_eq_true] at h1
  exact ⟨h1.1.1.1.1, h1.1.1.1.2, h1.1.1.2, h1.1.2⟩
theorem chk_not (w : World) {D C : Addr} (hD : D ∈ cls10) (hC : C ∈ cls10) (hne : D ≠ C) : kin_not (KP w) D C = true := by
  have h := chk_all w
  unfold chkAll at h
  rw [Bool.and_eq_true, Bool.and_eq_true] at h
  have h1 := List.all_eq_true.mp h.1.2 D hD
  rw [Bool.and_eq_true] at h1
  have h2 := List.all_eq_true.mp h1.2 C hC
  rcases Bool.or_eq_true_iff.mp h2 with e | e
  · exact absurd (by simpa using e) hne
  · exact e
theorem chk_sub (w : World) {a b : Value} (ha : a ∈ types13) (hb : b ∈ types13) (hne : a ≠ b) : subIn (KP w) a b = some false := by
  have h := chk_all w
  unfold chkAll at h
  rw [Bool.and_eq_true] at h
  have h1 := List.all_eq_true.mp h.2 a ha
  have h2 := List.all_eq_true.mp h1 b hb
  rcases Bool.or_eq_true_iff.mp h2 with e | e
  · exact absurd (beq_iff_eq.mp e) hne
  · exact beq_iff_eq.mp e
theorem bytes_cls {b : Array UInt8} {u : Tok} {prog : Program} {w : World} {A : Around} {E : Value → Shared → Prop} {Q : Option Value → Shared → Prop} {s : Shared} (_ : True) (h : Q (some (.type "bytes")) { s with toks := s.toks + 1 }) : wpAny (model prog w) A (getAttr? (.bytes b u) "__class__") Q E s := by
  obtain ⟨hh, g, d, t, os⟩ := s
  exact class_attr_bytes h
theorem mem_cls {C : Addr} (h : Value.ref C ∈ types13) : C ∈ cls10 := by
  unfold types13 at h
  rcases List.mem_append.mp h with h | h
  · obtain ⟨D, hD, e⟩ := List.mem_map.mp h
    cases e
    exact hD
  · rcases List.mem_cons.mp h with e | h
    · cases e
    · rcases List.mem_cons.mp h with e | h
      · cases e
      · rcases List.mem_cons.mp h with e | h
        · cases e
        · cases h
/-- whose dict is written -/
def Dicted (news : Led) (v : Value) : Prop := ∀ x C d, v = .ref x → (x, instObj C d) ∈ news → ∃ od, (d, od) ∈ news
theorem isi_any {w : World} {news : Led} {u tu : Value} {C : Addr} (k : Kd news u tu) (ht : tu ∈ types13) (hC : C ∈ cls10) (hne : tu ≠ .ref C) : IsiNo w u C news := by
  intro A h₀ L m s Q E X F N h
  cases k with
  | @inst x d D od h1 h2 =>
    have hD := mem_cls ht
    have hDC : D ≠ C := fun e => hne (by rw [e])
    have c := (chk_cls w hD).1
    unfold okCls at c
    simp only [Bool.and_eq_true, beq_iff_eq] at c
    have o := chk_ok w
    unfold okAll at o
    simp only [Bool.and_eq_true, beq_iff_eq] at o
    exact kin_callC X (InstAt.of_news N h1 h2) (chk_not w hD hC hDC) c.1.1.1 c.1.1.2 c.1.2 o.1 o.2 c.2 (h _)
  | bytes b t => exact isn_call (P := fun _ => True) X (fun M => Looks.of_pure rfl) (chk_cls w hC).2.1 (fun e => nomatch e) trivial bytes_cls (h _)
  | str z t => exact isn_call (P := fun _ => True) X (fun M => Looks.of_pure rfl) (chk_cls w hC).2.2.1 (fun e => nomatch e) trivial str_cls (h _)
  | none => exact isn_call (P := fun _ => True) X (fun M => Looks.of_pure rfl) (chk_cls w hC).2.2.2 (fun e => nomatch e) trivial none_cls (h _)
theorem callC_pick {w : World} {f : Addr} {pos : List Value} {kw : List (PySem.Str × Value)} {p : Addr × Obj} {news : Led} {v0 : Value} (H : CallC w f pos kw (p :: news) (fun K => K (p :: news) v0)) (hp : p ∈ news) : CallC w f pos kw news (fun K => K news v0) := by
  intro mean mg mb dp un gd cn cs a ccd cl outer A₀ base h₀ L m s Q E B F X N T hk hd hu hret
  exact H mean mg mb dp un gd cn cs a ccd cl outer A₀ base h₀ L m s Q E B F X (fun q hq => (List.mem_cons.mp hq).elim (fun e => e ▸ N p hp) (N q)) T hk hd hu fun h' tk' F' N' => hret h' tk' F' (news_d1 N')
/-- a value that says no to each value of another kind -/
def Al (w : World) (news : Led) (v tv : Value) : Prop := Kd news v tv ∧ ∀ u tu, Kd news u tu → tu ∈ types13 → tu ≠ tv → TryC w v u news
theorem al_binary {w : World} {news : Led} {x d : Addr} {od : Obj} (h1 : (x, instObj 144 d) ∈ news) (h2 : (d, od) ∈ news) : Al w news (.ref x) (.ref 144) :=
  ⟨.inst h1 h2, fun u tu k ht hne => try_inst (callC_pick (eqa_binary w news x d u (isi_any k ht (by decide) hne)) h1) (.inl rfl) h1 h2 (by kernel_rfl) (by kernel_rfl)⟩
theorem al_code {w : World} {news : Led} {x d : Addr} {od : Obj} (h1 : (x, instObj 61 d) ∈ news) (h2 : (d, od) ∈ news) : Al w news (.ref x) (.ref 61) :=
  ⟨.inst h1 h2, fun u tu k ht hne => try_inst (callC_pick (eqa_code w news x d u (isi_any k ht (by decide) hne)) h1) (.inl rfl) h1 h2 (by kernel_rfl) (by kernel_rfl)⟩
theorem al_regex {w : World} {news : Led} {x d : Addr} {od : Obj} (h1 : (x, instObj 626 d) ∈ news) (h2 : (d, od) ∈ news) : Al w news (.ref x) (.ref 626) :=
  ⟨.inst h1 h2, fun u tu k ht hne => try_inst (callC_pick (eqa_regex w news x d u (isi_any k ht (by decide) hne)) h1) (.inr rfl) h1 h2 (by kernel_rfl) (by kernel_rfl)⟩
theorem al_dbref {w : World} {news : Led} {x d : Addr} {od : Obj} (h1 : (x, instObj 261 d) ∈ news) (h2 : (d, od) ∈ news) : Al w news (.ref x) (.ref 261) :=
  ⟨.inst h1 h2, fun u tu k ht hne => try_inst (callC_pick (eqa_dbref w news x d u (isi_any k ht (by decide) hne)) h1) (.inr rfl) h1 h2 (by kernel_rfl) (by kernel_rfl)⟩
theorem al_date {w : World} {news : Led} {x d : Addr} {od : Obj} (h1 : (x, instObj 201 d) ∈ news) (h2 : (d, od) ∈ news) : Al w news (.ref x) (.ref 201) :=
  ⟨.inst h1 h2, fun u tu k ht hne => try_inst (callC_pick (eqa_date w news x d u (isi_any k ht (by decide) hne)) h1) (.inl rfl) h1 h2 (by kernel_rfl) (by kernel_rfl)⟩
theorem al_int64 {w : World} {news : Led} {x d : Addr} {od : Obj} (h1 : (x, instObj 344 d) ∈ news) (h2 : (d, od) ∈ news) : Al w news (.ref x) (.ref 344) :=
  ⟨.inst h1 h2, fun u tu k ht hne => try_inst (callC_pick (eqa_int64 w news x d u (isi_any k ht (by decide) hne)) h1) (.inl rfl) h1 h2 (by kernel_rfl) (by kernel_rfl)⟩
theorem al_minkey {w : World} {news : Led} {x d : Addr} {od : Obj} (h1 : (x, instObj 470 d) ∈ news) (h2 : (d, od) ∈ news) : Al w news (.ref x) (.ref 470) :=
  ⟨.inst h1 h2, fun u tu k ht hne => try_inst (callC_pick (eqa_minkey w news x d u (isi_any k ht (by decide) hne)) h1) (.inl rfl) h1 h2 (by kernel_rfl) (by kernel_rfl)⟩
theorem al_maxkey {w : World} {news : Led} {x d : Addr} {od : Obj} (h1 : (x, instObj 407 d) ∈ news) (h2 : (d, od) ∈ news) : Al w news (.ref x) (.ref 407) :=
  ⟨.inst h1 h2, fun u tu k ht hne => try_inst (callC_pick (eqa_maxkey w news x d u (isi_any k ht (by decide) hne)) h1) (.inl rfl) h1 h2 (by kernel_rfl) (by kernel_rfl)⟩
theorem al_objid {w : World} {news : Led} {x d : Addr} {od : Obj} (h1 : (x, instObj 583 d) ∈ news) (h2 : (d, od) ∈ news) : Al w news (.ref x) (.ref 583) :=
  ⟨.inst h1 h2, fun u tu k ht hne => try_inst (callC_pick (eqa_objid w news x d u (isi_any k ht (by decide) hne)) h1) (.inr rfl) h1 h2 (by kernel_rfl) (by kernel_rfl)⟩
theorem al_stamp {w : World} {news : Led} {x d : Addr} {od : Obj} (h1 : (x, instObj 705 d) ∈ news) (h2 : (d, od) ∈ news) : Al w news (.ref x) (.ref 705) :=
  ⟨.inst h1 h2, fun u tu k ht hne => try_inst (callC_pick (eqa_stamp w news x d u (isi_any k ht (by decide) hne)) h1) (.inr rfl) h1 h2 (by kernel_rfl) (by kernel_rfl)⟩
theorem al_bytes {w : World} {news : Led} (b : Array UInt8) (t : Tok) : Al w news (.bytes b t) (.type "bytes") := ⟨.bytes b t, fun _ _ k ht hne => try_bytes b t k (chk_sub w ht (by decide) hne)⟩
theorem al_str {w : World} {news : Led} (z : PySem.Str) (t : Tok) : Al w news (.str z t) (.type "str") := ⟨.str z t, fun _ _ k _ hne => try_str z t k hne⟩
theorem al_none {w : World} {news : Led} : Al w news .none (.type "NoneType") := ⟨.none, fun _ _ k _ hne => try_none k hne⟩
theorem al_cmp {w : World} {news : Led} {v tv u tu : Value} (a : Al w news v tv) (b : Al w news u tu) (hv : tv ∈ types13) (hu : tu ∈ types13) (hne : tv ≠ tu) : CmpC w v u news false :=
  cmp_alien (a.2 u tu b.1 hu (Ne.symm hne)) (b.2 v tv a.1 hv hne) a.1 b.1 hne (chk_sub w hu hv (Ne.symm hne))
end Mine

end
-- N4
section
local macro_rules | `(tactic| walk_at "pad") => `(tactic| skip)
local macro_rules | `(tactic| walk_at "pad") => `(tactic| skip)
local macro_rules | `(tactic| walk_at "pad") => `(tactic| skip)
local macro_rules | `(tactic| walk_at "pad") => `(tactic| skip)
local macro_rules | `(tactic| walk_at "pad") => `(tactic| skip)
local macro_rules | `(tactic| walk_at "pad") => `(tactic| skip)
local macro_rules | `(tactic| walk_at "pad") => `(tactic| skip)
local macro_rules | `(tactic| walk_at "pad") => `(tactic| skip)
local macro_rules | `(tactic| walk_at "pad") => `(tactic| skip)
local macro_rules | `(tactic| walk_at "pad") => `(tactic| skip)
local macro_rules | `(tactic| walk_at "pad") => `(tactic| skip)
local macro_rules | `(tactic| walk_at "pad") => `(tactic| skip)
theorem Mine.padN4 : (1 : Nat) = 1 := by
  w_top off
  first | (walk1; done) | rfl
end
section
open PySem PySem.Calls PySem.W PyProof.Rows PyProof.V PySem.Spec PySem.SeqAt
namespace Mine
theorem ite_bT {b : Bool} {P Q : Prop} {inst : Decidable (b = true)} (e : b = true) (h : P) : @ite Prop (b = true) inst P Q := by rw [if_pos e]; exact h
theorem ite_bF {b : Bool} {P Q : Prop} {inst : Decidable (b = true)} (e : b = false) (h : Q) : @ite Prop (b = true) inst P Q := by rw [if_neg (by rw [e]; exact Bool.false_ne_true)]; exact h
theorem handed_base (ob : Option PySem.Str) (t : Tok) : handedIn (baseV ob t) = true := by cases ob <;> rfl
theorem eq_tups_t {prog : Program} {w : World} {A : Around} {s : Shared} {a b : Addr} {xs ys : List Value} {r : Bool} {h₀ : Heap} {L : Addr} {news : List (Addr × Obj)} {oa ob : Obj} {ka kb : Nat} {E Q : Value → Shared → Prop} (N : News h₀ L s.heap news) (ma : (a, oa) ∈ news) (ca : oa.cls = .type "tuple") (da : oa.data = .seq xs.toArray ka) (mb : (b, ob) ∈ news) (cb : ob.cls = .type "tuple") (db : ob.data = .seq ys.toArray kb) (hu : A.units < cLine) (he : EqAll prog w A.in1 s xs ys r) (hr : r = true) (h : Q (.bool true) s) :
    wpAny (model prog w) A (richCompare .Eq (.ref a) (.ref b)) Q E s := eq_tups N ma ca da mb cb db hu he (by rw [hr]; exact h)
local macro_rules | `(tactic| k_handed) => `(tactic| exact Mine.handed_base _ _)
local macro_rules | `(tactic| walk_at "ite") => `(tactic| (first | with_reducible refine Mine.ite_bT (beq_self_eq_true _) ?_ | with_reducible refine Mine.ite_bF (Mine.str_x' _) ?_ | with_reducible refine Mine.ite_bF (Mine.str_x _) ?_ | with_reducible refine Mine.ite_bF (Mine.int_succ _) ?_))
local macro_rules | `(tactic| walk_at "compareOp Eq ref ref") => `(tactic| (k_here; (with_reducible show wpAny _ _ (compareOp CmpOp.Eq (Value.ref _) (Value.ref _)) _ _ _); (refine cmp_ofEq ?_); k_dflt (refine' Mine.eq_tups_t ?N ?ma ?ca ?da ?mb ?cb ?db ?u ?e ?r ?_; (case N => k_asm); (case ma => k_mem); (case ca => exact rfl); (case da => exact rfl); (case mb => k_mem); (case cb => exact rfl); (case db => exact rfl); (case u => k_units); (case e => (repeat' (first | with_reducible exact Mine.EqAll.nil | with_reducible refine' Mine.EqAll.cons ?_ ?_ | with_reducible exact Mine.EqW.of (EqAt.same _)))); (case r => exact rfl); k_whole)))
set_option maxRecDepth 100000 in
set_option maxHeartbeats 8000000 in
theorem eqs_binary (w : World) (news : Led) (xb yb : Addr) (row : Array UInt8) (bk0 bk1 bk8 bk9 : Tok) : CmpC w (.ref xb) (.ref xb) ((xb, instObj 144 yb) :: (yb, dictOf [⟨PyData.keyHash w.params (Str.ofString "data"), .str (Str.ofString "data") bk0, .bytes row bk9⟩, ⟨PyData.keyHash w.params (Str.ofString "_subtype"), .str (Str.ofString "_subtype") bk1, .int 0 bk8⟩] 2) :: news) true := by
  unfold CmpC KP MD looseN
  k_fill
  intro mean mg mb dp un gd cn cs a ccd cl outer A₀ base h₀ L m s Q E B F X N T hk hd hu hret
  k_steps
  all_goals exact hret _ _ (by k_asm) (by first | k_asm | exact cb_drop (by k_asm) (by kcj_all))
set_option maxRecDepth 100000 in
set_option maxHeartbeats 8000000 in
theorem eqs_code (w : World) (news : Led) (xc yc : Addr) (tx : PySem.Str) (ck0 ck1 ck9 : Tok) : CmpC w (.ref xc) (.ref xc) ((xc, instObj 61 yc) :: (yc, dictOf [⟨PyData.keyHash w.params (Str.ofString "text"), .str (Str.ofString "text") ck0, .str tx ck9⟩, ⟨PyData.keyHash w.params (Str.ofString "_scope"), .str (Str.ofString "_scope") ck1, .none⟩] 2) :: news) true := by
  unfold CmpC KP MD looseN
  k_fill
  intro mean mg mb dp un gd cn cs a ccd cl outer A₀ base h₀ L m s Q E B F X N T hk hd hu hret
  k_steps
  all_goals exact hret _ _ (by k_asm) (by first | k_asm | exact cb_drop (by k_asm) (by kcj_all))
set_option maxRecDepth 100000 in
set_option maxHeartbeats 8000000 in
theorem eqs_regex (w : World) (news : Led) (xg yg : Addr) (tx : PySem.Str) (gk0 gk1 gk8 gk9 : Tok) : CmpC w (.ref xg) (.ref xg) ((xg, instObj 626 yg) :: (yg, dictOf [⟨PyData.keyHash w.params (Str.ofString "pattern"), .str (Str.ofString "pattern") gk0, .str tx gk9⟩, ⟨PyData.keyHash w.params (Str.ofString "flags"), .str (Str.ofString "flags") gk1, .int 0 gk8⟩] 2) :: news) true := by
  unfold CmpC KP MD looseN
  k_fill
  intro mean mg mb dp un gd cn cs a ccd cl outer A₀ base h₀ L m s Q E B F X N T hk hd hu hret
  k_steps
  all_goals exact hret _ _ (by k_asm) (by first | k_asm | exact cb_drop (by k_asm) (by kcj_all))
set_option maxRecDepth 100000 in
set_option maxHeartbeats 8000000 in
theorem eqs_date (w : World) (news : Led) (xa ya : Addr) (ak0 ak9 : Tok) : CmpC w (.ref xa) (.ref xa) ((xa, instObj 201 ya) :: (ya, dictOf [⟨PyData.keyHash w.params (Str.ofString "_value"), .str (Str.ofString "_value") ak0, .int 5 ak9⟩] 1) :: news) true := by
  unfold CmpC KP MD looseN
  k_fill
  intro mean mg mb dp un gd cn cs a ccd cl outer A₀ base h₀ L m s Q E B F X N T hk hd hu hret
  k_steps
  all_goals exact hret _ _ (by k_asm) (by first | k_asm | exact cb_drop (by k_asm) (by kcj_all))
set_option maxRecDepth 100000 in
set_option maxHeartbeats 8000000 in
theorem eqs_int64 (w : World) (news : Led) (xi yi : Addr) (ik0 ik9 : Tok) : CmpC w (.ref xi) (.ref xi) ((xi, instObj 344 yi) :: (yi, dictOf [⟨PyData.keyHash w.params (Str.ofString "value"), .str (Str.ofString "value") ik0, .int 5 ik9⟩] 1) :: news) true := by
  unfold CmpC KP MD looseN
  k_fill
  intro mean mg mb dp un gd cn cs a ccd cl outer A₀ base h₀ L m s Q E B F X N T hk hd hu hret
  k_steps
  all_goals exact hret _ _ (by k_asm) (by first | k_asm | exact cb_drop (by k_asm) (by kcj_all))
set_option maxRecDepth 100000 in
set_option maxHeartbeats 8000000 in
theorem eqs_minkey (w : World) (news : Led) (xn yn : Addr) : CmpC w (.ref xn) (.ref xn) ((xn, instObj 470 yn) :: (yn, dictOf [] 0) :: news) true := by
  unfold CmpC KP MD looseN
  k_fill
  intro mean mg mb dp un gd cn cs a ccd cl outer A₀ base h₀ L m s Q E B F X N T hk hd hu hret
  k_steps
  all_goals exact hret _ _ (by k_asm) (by first | k_asm | exact cb_drop (by k_asm) (by kcj_all))
set_option maxRecDepth 100000 in
set_option maxHeartbeats 8000000 in
theorem eqs_maxkey (w : World) (news : Led) (xw yw : Addr) : CmpC w (.ref xw) (.ref xw) ((xw, instObj 407 yw) :: (yw, dictOf [] 0) :: news) true := by
  unfold CmpC KP MD looseN
  k_fill
  intro mean mg mb dp un gd cn cs a ccd cl outer A₀ base h₀ L m s Q E B F X N T hk hd hu hret
  k_steps
  all_goals exact hret _ _ (by k_asm) (by first | k_asm | exact cb_drop (by k_asm) (by kcj_all))
set_option maxRecDepth 100000 in
set_option maxHeartbeats 8000000 in
theorem eqs_objid (w : World) (news : Led) (xo yo : Addr) (ok0 ok9 : Tok) : CmpC w (.ref xo) (.ref xo) ((xo, instObj 583 yo) :: (yo, dictOf [⟨PyData.keyHash w.params (Str.ofString "_id"), .str (Str.ofString "_id") ok0, .bytes (Array.replicate 12 0) ok9⟩] 1) :: news) true := by
  unfold CmpC KP MD looseN
  k_fill
  intro mean mg mb dp un gd cn cs a ccd cl outer A₀ base h₀ L m s Q E B F X N T hk hd hu hret
  k_steps
  all_goals exact hret _ _ (by k_asm) (by first | k_asm | exact cb_drop (by k_asm) (by kcj_all))
set_option maxRecDepth 100000 in
set_option maxHeartbeats 8000000 in
theorem eqs_stamp (w : World) (news : Led) (xs ys : Addr) (sk0 sk1 sk8 sk9 : Tok) : CmpC w (.ref xs) (.ref xs) ((xs, instObj 705 ys) :: (ys, dictOf [⟨PyData.keyHash w.params (Str.ofString "_time"), .str (Str.ofString "_time") sk0, .int 5 sk9⟩, ⟨PyData.keyHash w.params (Str.ofString "_inc"), .str (Str.ofString "_inc") sk1, .int 5 sk8⟩] 2) :: news) true := by
  unfold CmpC KP MD looseN
  k_fill
  intro mean mg mb dp un gd cn cs a ccd cl outer A₀ base h₀ L m s Q E B F X N T hk hd hu hret
  k_steps
  all_goals exact hret _ _ (by k_asm) (by first | k_asm | exact cb_drop (by k_asm) (by kcj_all))
set_option maxRecDepth 100000 in
set_option maxHeartbeats 8000000 in
theorem eqs_dbref (w : World) (news : Led) (rx rd rk : Addr) (tx : PySem.Str) (n_ : Int) (ob : Option PySem.Str) (rt1 rt2 rt3 rt4 rt5 rt6 rt7 : Tok) : CmpC w (.ref rx) (.ref rx) ((rx, instObj 261 rd) :: (rd, dictOf [⟨PyData.keyHash w.params (Str.ofString "_collection"), .str (Str.ofString "_collection") rt2, .str tx rt1⟩, ⟨PyData.keyHash w.params (Str.ofString "_id"), .str (Str.ofString "_id") rt4, .int n_ rt3⟩, ⟨PyData.keyHash w.params (Str.ofString "_database"), .str (Str.ofString "_database") rt6, baseV ob rt5⟩, ⟨PyData.keyHash w.params (Str.ofString "_kwargs"), .str (Str.ofString "_kwargs") rt7, .ref rk⟩] 4) :: news) true := by
  unfold CmpC KP MD looseN
  k_fill
  intro mean mg mb dp un gd cn cs a ccd cl outer A₀ base h₀ L m s Q E B F X N T hk hd hu hret
  k_steps
  all_goals exact hret _ _ (by k_asm) (by first | k_asm | exact cb_drop (by k_asm) (by kcj_all))
end Mine

end
-- N5
section
local macro_rules | `(tactic| walk_at "pad") => `(tactic| skip)
local macro_rules | `(tactic| walk_at "pad") => `(tactic| skip)
local macro_rules | `(tactic| walk_at "pad") => `(tactic| skip)
local macro_rules | `(tactic| walk_at "pad") => `(tactic| skip)
local macro_rules | `(tactic| walk_at "pad") => `(tactic| skip)
local macro_rules | `(tactic| walk_at "pad") => `(tactic| skip)
local macro_rules | `(tactic| walk_at "pad") => `(tactic| skip)
local macro_rules | `(tactic| walk_at "pad") => `(tactic| skip)
local macro_rules | `(tactic| walk_at "pad") => `(tactic| skip)
local macro_rules | `(tactic| walk_at "pad") => `(tactic| skip)
local macro_rules | `(tactic| walk_at "pad") => `(tactic| skip)
local macro_rules | `(tactic| walk_at "pad") => `(tactic| skip)
theorem Mine.padN5 : (1 : Nat) = 1 := by
  w_top off
  first | (walk1; done) | rfl
end
section
open PySem PySem.Calls PySem.W PyProof.Rows PyProof.V PySem.Spec PySem.SeqAt
set_option maxRecDepth 100000
namespace Mine
theorem cmpC_pick2 {w : World} {v u : Value} {p q : Addr × Obj} {news : Led} {b : Bool} (H : CmpC w v u (p :: q :: news) b) (hp : p ∈ news) (hq : q ∈ news) : CmpC w v u news b := by
  intro mean mg mb dp un gd cn cs a ccd cl outer A₀ base h₀ L m s Q E B F X N T hk hd hu hret
  exact H mean mg mb dp un gd cn cs a ccd cl outer A₀ base h₀ L m s Q E B F X (news_pick1 (news_pick1 N hq) (.tail _ hp)) T hk hd hu fun h' tk' F' N' => hret h' tk' F' (news_d1 (news_d1 N'))
theorem use_Cmp {w : World} {v u : Value} {news : Led} {b : Bool} (H : CmpC w v u news b)
    {mean : ExcName → Option Value} {mg mb : PySem.Str → Option Value} {dp un : Nat} {gd : Option (List Code)} {cn : PySem.Str} {cs : Scope} {a : Addr} {ccd : Value} {cl : List (PySem.Str × Addr)} {outer : List Env} {A₀ : Around} {base h₀ : Heap} {L : Addr} {m : Map} {s : Shared} {Q E : Value → Shared → Prop}
    (B : Below A₀ base outer h₀) (F : Fr h₀ L s.heap m) (X : (hd.heap_39 w.params).In h₀) (N : News h₀ L s.heap news) (T : Top hd.view_39 (looseW hd.view_39 [Str.ofString "Code", Str.ofString "Binary", Str.ofString "DatetimeMS", Str.ofString "DBRef", Str.ofString "InvalidDocument", Str.ofString "Int64", Str.ofString "MaxKey", Str.ofString "MinKey", Str.ofString "ObjectId", Str.ofString "Regex", Str.ofString "Timestamp"]) mean mg mb h₀) (hk : cs.kind = .function) (hd : dp + 8 < recursionLimit) (hu : un + 64 < cLine)
    (hret : ∀ h' tk', Fr h₀ L h' m → News h₀ L h' news → Q (.bool b) { s with heap := h', toks := tk' }) :
    wpAny (model PySem.Challenge.rw_jh0019_01.row.prog w) (ktrTop dp un gd cn cs L a ccd cl outer) (compareOp .Eq v u) Q E s :=
  H mean mg mb dp un gd cn cs a ccd cl outer A₀ base h₀ L m s Q E B F X N T hk hd hu hret
theorem off1_mem {D : Addr} : ∀ {l : Led}, LCg.Off1 D l → ∀ p ∈ l, p.1 ≠ D
  | [], _, _, h => nomatch h
  | _ :: _, x, p, h => by
    rcases List.mem_cons.mp h with rfl | h
    · exact x.1
    · exact off1_mem x.2 p h
set_option maxRecDepth 100000 in
set_option maxHeartbeats 8000000 in
theorem eqs_bytes (w : World) (news : Led) (b : Array UInt8) (t : Tok) : CmpC w (.bytes b t) (.bytes b t) news true := by
  unfold CmpC KP MD looseN
  k_fill
  intro mean mg mb dp un gd cn cs a ccd cl outer A₀ base h₀ L m s Q E B F X N T hk hd hu hret
  refine eq_bytes ?_
  rw [beq_self_eq_true]
  exact hret _ _ F N
set_option maxRecDepth 100000 in
set_option maxHeartbeats 8000000 in
theorem eqs_str (w : World) (news : Led) (z : PySem.Str) (t : Tok) : CmpC w (.str z t) (.str z t) news true := by
  intro mean mg mb dp un gd cn cs a ccd cl outer A₀ base h₀ L m s Q E B F X N T hk hd hu hret
  refine compareOp_gives (op := .Eq) (typeIs_str s z t) (typeIs_str s z t) PySem.F.slot_str_eq PySem.F.entry_str_eq (PySem.F.args_str_eq_2 _ _) (gives_str_eq z z t t) (fun e => nomatch e) ?_
  rw [show (z.cps.toList == z.cps.toList) = true from beq_self_eq_true _]
  exact hret _ _ F N
set_option maxRecDepth 100000 in
set_option maxHeartbeats 8000000 in
theorem eqs_none (w : World) (news : Led) : CmpC w .none .none news true := by
  unfold CmpC KP MD looseN
  k_fill
  intro mean mg mb dp un gd cn cs a ccd cl outer A₀ base h₀ L m s Q E B F X N T hk hd hu hret
  k_steps
  all_goals exact hret _ _ F N
theorem nodup13 : types13.Nodup := by decide
section
variable {w : World} {news : Led} {row : Array UInt8} {tx : PySem.Str} {n_ : Int} {ob : Option PySem.Str} {vt1 vt2 : Tok} {rx rd rk : Addr} {rt1 rt2 rt3 rt4 rt5 rt6 rt7 : Tok} {xb yb : Addr} {bk0 bk1 bk8 bk9 : Tok} {xc yc : Addr} {ck0 ck1 ck9 : Tok} {xg yg : Addr} {gk0 gk1 gk8 gk9 : Tok} {xa ya : Addr} {ak0 ak9 : Tok} {xi yi : Addr} {ik0 ik9 : Tok} {xn yn : Addr} {xw yw : Addr} {xo yo : Addr} {ok0 ok9 : Tok} {xs ys : Addr} {sk0 sk1 sk8 sk9 : Tok}
theorem vals_al (hs : ∀ p ∈ ([(xb, instObj 144 yb), (yb, dictOf [⟨PyData.keyHash w.params (Str.ofString "data"), .str (Str.ofString "data") bk0, .bytes row bk9⟩, ⟨PyData.keyHash w.params (Str.ofString "_subtype"), .str (Str.ofString "_subtype") bk1, .int 0 bk8⟩] 2), (xc, instObj 61 yc), (yc, dictOf [⟨PyData.keyHash w.params (Str.ofString "text"), .str (Str.ofString "text") ck0, .str tx ck9⟩, ⟨PyData.keyHash w.params (Str.ofString "_scope"), .str (Str.ofString "_scope") ck1, .none⟩] 2), (xg, instObj 626 yg), (yg, dictOf [⟨PyData.keyHash w.params (Str.ofString "pattern"), .str (Str.ofString "pattern") gk0, .str tx gk9⟩, ⟨PyData.keyHash w.params (Str.ofString "flags"), .str (Str.ofString "flags") gk1, .int 0 gk8⟩] 2), (rx, instObj 261 rd), (rd, dictOf [⟨PyData.keyHash w.params (Str.ofString "_collection"), .str (Str.ofString "_collection") rt2, .str tx rt1⟩, ⟨PyData.keyHash w.params (Str.ofString "_id"), .str (Str.ofString "_id") rt4, .int n_ rt3⟩, ⟨PyData.keyHash w.params (Str.ofString "_database"), .str (Str.ofString "_database") rt6, baseV ob rt5⟩, ⟨PyData.keyHash w.params (Str.ofString "_kwargs"), .str (Str.ofString "_kwargs") rt7, .ref rk⟩] 4), (xa, instObj 201 ya), (ya, dictOf [⟨PyData.keyHash w.params (Str.ofString "_value"), .str (Str.ofString "_value") ak0, .int 5 ak9⟩] 1), (xi, instObj 344 yi), (yi, dictOf [⟨PyData.keyHash w.params (Str.ofString "value"), .str (Str.ofString "value") ik0, .int 5 ik9⟩] 1), (xn, instObj 470 yn), (yn, dictOf [] 0), (xw, instObj 407 yw), (yw, dictOf [] 0), (xo, instObj 583 yo), (yo, dictOf [⟨PyData.keyHash w.params (Str.ofString "_id"), .str (Str.ofString "_id") ok0, .bytes (Array.replicate 12 0) ok9⟩] 1), (xs, instObj 705 ys), (ys, dictOf [⟨PyData.keyHash w.params (Str.ofString "_time"), .str (Str.ofString "_time") sk0, .int 5 sk9⟩, ⟨PyData.keyHash w.params (Str.ofString "_inc"), .str (Str.ofString "_inc") sk1, .int 5 sk8⟩] 2)] : Led), p ∈ news) : ∀ (j : Nat) (v : Value), ([.ref xb, .ref xc, .ref xg, .ref rx, .ref xa, .ref xi, .ref xn, .ref xw, .ref xo, .ref xs, .bytes row vt1, .str tx vt2, .none] : List Value)[j]? = some v → ∃ tv, types13[j]? = some tv ∧ Al w news v tv := by
  intro j v h
  match j, h with
  | 0, h => cases h; exact ⟨_, rfl, al_binary (hs _ (by k_mem)) (hs _ (by k_mem))⟩
  | 1, h => cases h; exact ⟨_, rfl, al_code (hs _ (by k_mem)) (hs _ (by k_mem))⟩
  | 2, h => cases h; exact ⟨_, rfl, al_regex (hs _ (by k_mem)) (hs _ (by k_mem))⟩
  | 3, h => cases h; exact ⟨_, rfl, al_dbref (hs _ (by k_mem)) (hs _ (by k_mem))⟩
  | 4, h => cases h; exact ⟨_, rfl, al_date (hs _ (by k_mem)) (hs _ (by k_mem))⟩
  | 5, h => cases h; exact ⟨_, rfl, al_int64 (hs _ (by k_mem)) (hs _ (by k_mem))⟩
  | 6, h => cases h; exact ⟨_, rfl, al_minkey (hs _ (by k_mem)) (hs _ (by k_mem))⟩
  | 7, h => cases h; exact ⟨_, rfl, al_maxkey (hs _ (by k_mem)) (hs _ (by k_mem))⟩
  | 8, h => cases h; exact ⟨_, rfl, al_objid (hs _ (by k_mem)) (hs _ (by k_mem))⟩
  | 9, h => cases h; exact ⟨_, rfl, al_stamp (hs _ (by k_mem)) (hs _ (by k_mem))⟩
  | 10, h => cases h; exact ⟨_, rfl, al_bytes _ _⟩
  | 11, h => cases h; exact ⟨_, rfl, al_str _ _⟩
  | 12, h => cases h; exact ⟨_, rfl, al_none⟩
  | n + 13, h => exact nomatch h
theorem vals_self (hs : ∀ p ∈ ([(xb, instObj 144 yb), (yb, dictOf [⟨PyData.keyHash w.params (Str.ofString "data"), .str (Str.ofString "data") bk0, .bytes row bk9⟩, ⟨PyData.keyHash w.params (Str.ofString "_subtype"), .str (Str.ofString "_subtype") bk1, .int 0 bk8⟩] 2), (xc, instObj 61 yc), (yc, dictOf [⟨PyData.keyHash w.params (Str.ofString "text"), .str (Str.ofString "text") ck0, .str tx ck9⟩, ⟨PyData.keyHash w.params (Str.ofString "_scope"), .str (Str.ofString "_scope") ck1, .none⟩] 2), (xg, instObj 626 yg), (yg, dictOf [⟨PyData.keyHash w.params (Str.ofString "pattern"), .str (Str.ofString "pattern") gk0, .str tx gk9⟩, ⟨PyData.keyHash w.params (Str.ofString "flags"), .str (Str.ofString "flags") gk1, .int 0 gk8⟩] 2), (rx, instObj 261 rd), (rd, dictOf [⟨PyData.keyHash w.params (Str.ofString "_collection"), .str (Str.ofString "_collection") rt2, .str tx rt1⟩, ⟨PyData.keyHash w.params (Str.ofString "_id"), .str (Str.ofString "_id") rt4, .int n_ rt3⟩, ⟨PyData.keyHash w.params (Str.ofString "_database"), .str (Str.ofString "_database") rt6, baseV ob rt5⟩, ⟨PyData.keyHash w.params (Str.ofString "_kwargs"), .str (Str.ofString "_kwargs") rt7, .ref rk⟩] 4), (xa, instObj 201 ya), (ya, dictOf [⟨PyData.keyHash w.params (Str.ofString "_value"), .str (Str.ofString "_value") ak0, .int 5 ak9⟩] 1), (xi, instObj 344 yi), (yi, dictOf [⟨PyData.keyHash w.params (Str.ofString "value"), .str (Str.ofString "value") ik0, .int 5 ik9⟩] 1), (xn, instObj 470 yn), (yn, dictOf [] 0), (xw, instObj 407 yw), (yw, dictOf [] 0), (xo, instObj 583 yo), (yo, dictOf [⟨PyData.keyHash w.params (Str.ofString "_id"), .str (Str.ofString "_id") ok0, .bytes (Array.replicate 12 0) ok9⟩] 1), (xs, instObj 705 ys), (ys, dictOf [⟨PyData.keyHash w.params (Str.ofString "_time"), .str (Str.ofString "_time") sk0, .int 5 sk9⟩, ⟨PyData.keyHash w.params (Str.ofString "_inc"), .str (Str.ofString "_inc") sk1, .int 5 sk8⟩] 2)] : Led), p ∈ news) : ∀ (j : Nat) (v : Value), ([.ref xb, .ref xc, .ref xg, .ref rx, .ref xa, .ref xi, .ref xn, .ref xw, .ref xo, .ref xs, .bytes row vt1, .str tx vt2, .none] : List Value)[j]? = some v → CmpC w v v news true := by
  intro j v h
  match j, h with
  | 0, h => cases h; exact cmpC_pick2 (eqs_binary w news xb yb row bk0 bk1 bk8 bk9) (hs _ (by k_mem)) (hs _ (by k_mem))
  | 1, h => cases h; exact cmpC_pick2 (eqs_code w news xc yc tx ck0 ck1 ck9) (hs _ (by k_mem)) (hs _ (by k_mem))
  | 2, h => cases h; exact cmpC_pick2 (eqs_regex w news xg yg tx gk0 gk1 gk8 gk9) (hs _ (by k_mem)) (hs _ (by k_mem))
  | 3, h => cases h; exact cmpC_pick2 (eqs_dbref w news rx rd rk tx n_ ob rt1 rt2 rt3 rt4 rt5 rt6 rt7) (hs _ (by k_mem)) (hs _ (by k_mem))
  | 4, h => cases h; exact cmpC_pick2 (eqs_date w news xa ya ak0 ak9) (hs _ (by k_mem)) (hs _ (by k_mem))
  | 5, h => cases h; exact cmpC_pick2 (eqs_int64 w news xi yi ik0 ik9) (hs _ (by k_mem)) (hs _ (by k_mem))
  | 6, h => cases h; exact cmpC_pick2 (eqs_minkey w news xn yn) (hs _ (by k_mem)) (hs _ (by k_mem))
  | 7, h => cases h; exact cmpC_pick2 (eqs_maxkey w news xw yw) (hs _ (by k_mem)) (hs _ (by k_mem))
  | 8, h => cases h; exact cmpC_pick2 (eqs_objid w news xo yo ok0 ok9) (hs _ (by k_mem)) (hs _ (by k_mem))
  | 9, h => cases h; exact cmpC_pick2 (eqs_stamp w news xs ys sk0 sk1 sk8 sk9) (hs _ (by k_mem)) (hs _ (by k_mem))
  | 10, h => cases h; exact eqs_bytes _ _ _ _
  | 11, h => cases h; exact eqs_str _ _ _ _
  | 12, h => cases h; exact eqs_none _ _
  | n + 13, h => exact nomatch h
theorem vals_cmp (hs : ∀ p ∈ ([(xb, instObj 144 yb), (yb, dictOf [⟨PyData.keyHash w.params (Str.ofString "data"), .str (Str.ofString "data") bk0, .bytes row bk9⟩, ⟨PyData.keyHash w.params (Str.ofString "_subtype"), .str (Str.ofString "_subtype") bk1, .int 0 bk8⟩] 2), (xc, instObj 61 yc), (yc, dictOf [⟨PyData.keyHash w.params (Str.ofString "text"), .str (Str.ofString "text") ck0, .str tx ck9⟩, ⟨PyData.keyHash w.params (Str.ofString "_scope"), .str (Str.ofString "_scope") ck1, .none⟩] 2), (xg, instObj 626 yg), (yg, dictOf [⟨PyData.keyHash w.params (Str.ofString "pattern"), .str (Str.ofString "pattern") gk0, .str tx gk9⟩, ⟨PyData.keyHash w.params (Str.ofString "flags"), .str (Str.ofString "flags") gk1, .int 0 gk8⟩] 2), (rx, instObj 261 rd), (rd, dictOf [⟨PyData.keyHash w.params (Str.ofString "_collection"), .str (Str.ofString "_collection") rt2, .str tx rt1⟩, ⟨PyData.keyHash w.params (Str.ofString "_id"), .str (Str.ofString "_id") rt4, .int n_ rt3⟩, ⟨PyData.keyHash w.params (Str.ofString "_database"), .str (Str.ofString "_database") rt6, baseV ob rt5⟩, ⟨PyData.keyHash w.params (Str.ofString "_kwargs"), .str (Str.ofString "_kwargs") rt7, .ref rk⟩] 4), (xa, instObj 201 ya), (ya, dictOf [⟨PyData.keyHash w.params (Str.ofString "_value"), .str (Str.ofString "_value") ak0, .int 5 ak9⟩] 1), (xi, instObj 344 yi), (yi, dictOf [⟨PyData.keyHash w.params (Str.ofString "value"), .str (Str.ofString "value") ik0, .int 5 ik9⟩] 1), (xn, instObj 470 yn), (yn, dictOf [] 0), (xw, instObj 407 yw), (yw, dictOf [] 0), (xo, instObj 583 yo), (yo, dictOf [⟨PyData.keyHash w.params (Str.ofString "_id"), .str (Str.ofString "_id") ok0, .bytes (Array.replicate 12 0) ok9⟩] 1), (xs, instObj 705 ys), (ys, dictOf [⟨PyData.keyHash w.params (Str.ofString "_time"), .str (Str.ofString "_time") sk0, .int 5 sk9⟩, ⟨PyData.keyHash w.params (Str.ofString "_inc"), .str (Str.ofString "_inc") sk1, .int 5 sk8⟩] 2)] : Led), p ∈ news) (j i : Nat) (v u : Value) (hj : ([.ref xb, .ref xc, .ref xg, .ref rx, .ref xa, .ref xi, .ref xn, .ref xw, .ref xo, .ref xs, .bytes row vt1, .str tx vt2, .none] : List Value)[j]? = some v) (hi : ([.ref xb, .ref xc, .ref xg, .ref rx, .ref xa, .ref xi, .ref xn, .ref xw, .ref xo, .ref xs, .bytes row vt1, .str tx vt2, .none] : List Value)[i]? = some u) : CmpC w v u news (decide (j = i)) := by
  by_cases e : j = i
  · subst e
    rw [hj] at hi
    cases hi
    rw [decide_eq_true rfl]
    exact vals_self hs j v hj
  · rw [decide_eq_false e]
    obtain ⟨tv, ht, a⟩ := vals_al hs j v hj
    obtain ⟨tu, ht2, b⟩ := vals_al hs i u hi
    refine al_cmp a b (List.mem_of_getElem? ht) (List.mem_of_getElem? ht2) fun q => e ?_
    subst q
    exact (List.getElem?_inj (List.getElem?_eq_some_iff.mp ht).1 nodup13).mp (ht.trans ht2.symm)
end
end Mine

end
-- N6
section
open PySem PySem.Calls PySem.W PyProof.Rows PyProof.V PySem.Spec PySem.SeqAt
namespace Mine
/-- rows: the lists [i], i below n -/
inductive Rows : Nat → List Value → Led → Prop
  | nil : Rows 0 [] []
  | snoc {i : Nat} {ys : List Value} {rows : Led} (a : Addr) (t : Tok) (c : Nat) : Rows i ys rows → Rows (i + 1) (ys ++ [.ref a]) ((a, W.listOf [Value.int (0 + (i : Int)) t].toArray c) :: rows)
theorem EqAll.snoc {prog : Program} {w : World} {A : Around} {s : Shared} {x y : Value} : ∀ {xs ys : List Value} {r : Bool}, EqAll prog w A s xs ys r → EqW prog w A s x y true → EqAll prog w A s (xs ++ [x]) (ys ++ [y]) r
  | _, _, _, .nil, h => .cons h .nil
  | _, _, _, .cons h t, h2 => .cons h (t.snoc h2)
theorem rows_eq {prog : Program} {w : World} {A : Around} {s : Shared} {h₀ : Heap} {L : Addr} {news : Led} (N : News h₀ L s.heap news) (hu : A.units < cLine) : ∀ {n : Nat} {ys ys2 : List Value} {rows rows2 : Led}, Rows n ys rows → Rows n ys2 rows2 → (∀ p ∈ rows, p ∈ news) → (∀ p ∈ rows2, p ∈ news) → EqAll prog w A s ys ys2 true
  | 0, _, _, _, _, .nil, .nil, _, _ => .nil
  | n + 1, _, _, _, _, .snoc a t c r1, .snoc b t2 c2 r2, h1, h2 => by
    refine (rows_eq N hu r1 r2 (fun p hp => h1 p (.tail _ hp)) (fun p hp => h2 p (.tail _ hp))).snoc ?_
    by_cases e : a = b
    · subst e; exact EqW.of (EqAt.same _)
    · have h := eqW_lists (prog := prog) (w := w) (A := A) (xs := [Value.int (0 + (n : Int)) t]) (ys := [Value.int (0 + (n : Int)) t2]) e N (h1 _ (.head _)) rfl rfl (h2 _ (.head _)) rfl rfl hu (.cons (EqW.of (EqAt.int_int _ _ _ _)) .nil)
      simpa using h
section
variable {prog : Program} {w : World} {A : Around} {s : Shared} {h₀ : Heap} {L : Addr} {m : Map} {env : Env} {elt ct : PySem.Expr} {x : PySem.Str} {scope : Scope} {cl : List (PySem.Str × Addr)} {news : Led}
/-- a comprehension over a range whose elements are new lists [i] -/
theorem rest_rows {Fin : List Value → Led → Prop} {n : Nat}
    (turn : ∀ i t rows I oI C oC D ys m₂ h tk (E' : Value → Shared → Prop), i < n → LCg.NsObj oC m₂ → m₂ x = some (.int (0 + (i : Int)) t) → Fr h₀ L h m → News h₀ L h ((I, oI) :: (C, oC) :: (D, LCg.lst ys) :: (rows ++ news)) → 
      wpAny (model prog w) A (eval elt (compEnvC scope cl C env)) (fun y s' => ∃ a t' c h' tk', y = .ref a ∧ s' = { s with heap := h', toks := tk' } ∧ Fr h₀ L h' m ∧ News h₀ L h' ((a, W.listOf [Value.int (0 + (i : Int)) t'].toArray c) :: (I, oI) :: (C, oC) :: (D, LCg.lst ys) :: (rows ++ news)) ∧ (∀ p ∈ (I, oI) :: (C, oC) :: (D, LCg.lst ys) :: (rows ++ news), p.1 ≠ a)) E' { s with heap := h, toks := tk })
    (fin : ∀ ys rows, Rows n ys rows → Fin ys (rows ++ news)) :
    LCg.CompRest prog w A h₀ L m env elt x scope cl s (fun _ => True) (fun i v => ∃ t, v = .int (0 + (i : Int)) t) Fin n 0 [] news := by
  have key : ∀ (k i : Nat) (ys : List Value) (rows : Led), i + k = n → Rows i ys rows → LCg.CompRest prog w A h₀ L m env elt x scope cl s (fun _ => True) (fun i v => ∃ t, v = .int (0 + (i : Int)) t) Fin k i ys (rows ++ news) := by
    intro k
    induction k with
    | zero =>
      intro i ys rows e R
      have e' : i = n := by omega
      subst e'
      exact LCg.CompRest.zero (fin ys rows R)
    | succ k ih =>
      intro i ys rows e R
      refine LCg.CompRest.succ ?_
      intro v I oI C oC D m₂ h tk E' hv hC hx F N off ne
      obtain ⟨t, rfl⟩ := hv
      refine wpAny_mono (turn i t rows I oI C oC D ys m₂ h tk E' (by omega) hC hx F N) (fun y s₂ hq => ?_) fun _ _ e => e
      obtain ⟨a, t', c, h', tk', rfl, rfl, F', N', hne⟩ := hq
      refine comp_end F' (news' := (a, W.listOf [Value.int (0 + (i : Int)) t'].toArray c) :: (rows ++ news)) (fun p hp => ?_) ?_ trivial (ih (i + 1) _ _ (by omega) (.snoc a t' c R))
      · rcases List.mem_cons.mp hp with rfl | hp
        · exact N' _ (.tail _ (.head _))
        rcases List.mem_cons.mp hp with rfl | hp
        · exact N' _ (.tail _ (.tail _ (.head _)))
        rcases List.mem_cons.mp hp with rfl | hp
        · exact N' _ (.tail _ (.tail _ (.tail _ (.head _))))
        rcases List.mem_cons.mp hp with rfl | hp
        · exact N' _ (.head _)
        · exact N' _ (.tail _ (.tail _ (.tail _ (.tail _ hp))))
      · exact ⟨⟨Ne.symm (hne _ (.head _)), Ne.symm (hne _ (.tail _ (.head _))), Ne.symm (hne _ (.tail _ (.tail _ (.head _))))⟩, off⟩
  exact key n 0 [] [] (by omega) .nil
/-- a comprehension over a range with a test that one number passes -/
theorem restT_one {Fin : List Value → Led → Prop} {n j : Nat} (hj : j < n)
    (helt : ∀ C (s' : Shared) m₂ v (Q E : Value → Shared → Prop), s'.heap.Ns C m₂ → m₂ x = some v → Q v s' → wpAny (model prog w) A (eval elt (compEnvC scope cl C env)) Q E s')
    (turn : ∀ i t I oI C oC D ys m₂ h tk (E' : Value → Shared → Prop), i < n → LCg.NsObj oC m₂ → m₂ x = some (.int (0 + (i : Int)) t) → Fr h₀ L h m → News h₀ L h ((I, oI) :: (C, oC) :: (D, LCg.lst ys) :: news) → 
      wpAny (model prog w) A (isTrue ct (compEnvC scope cl C env) (eval ct (compEnvC scope cl C env))) (fun ok s' => ok = decide (j = i) ∧ ∃ h' tk', s' = { s with heap := h', toks := tk' } ∧ Fr h₀ L h' m ∧ News h₀ L h' ((I, oI) :: (C, oC) :: (D, LCg.lst ys) :: news)) E' { s with heap := h, toks := tk })
    (fin : ∀ t, Fin [.int (0 + (j : Int)) t] news) :
    LCt.CompRestT prog w A h₀ L m env ct elt x scope cl s (fun _ => True) (fun i v => ∃ t, v = .int (0 + (i : Int)) t) Fin n 0 [] news := by
  have key : ∀ (k i : Nat) (ys : List Value), i + k = n → (i ≤ j ∧ ys = [] ∨ j < i ∧ ∃ t, ys = [.int (0 + (j : Int)) t]) → LCt.CompRestT prog w A h₀ L m env ct elt x scope cl s (fun _ => True) (fun i v => ∃ t, v = .int (0 + (i : Int)) t) Fin k i ys news := by
    intro k
    induction k with
    | zero =>
      intro i ys e R
      rcases R with ⟨h1, _⟩ | ⟨_, t, rfl⟩
      · omega
      · exact LCt.CompRestT.zero (fin t)
    | succ k ih =>
      intro i ys e R
      refine LCt.CompRestT.succ ?_
      intro v I oI C oC D m₂ h tk E' hv hC hx F N off ne
      obtain ⟨t, rfl⟩ := hv
      refine wpAny_mono (turn i t I oI C oC D ys m₂ h tk E' (by omega) hC hx F N) (fun ok s₂ hq => ?_) fun _ _ e => e
      obtain ⟨rfl, h', tk', rfl, F', N'⟩ := hq
      by_cases hji : j = i
      · rw [decide_eq_true hji, if_pos rfl]
        refine helt C _ m₂ _ _ _ (hC.ns (N' _ (.tail _ (.head _))).1) hx ?_
        refine comp_end F' N' off trivial (ih (i + 1) _ (by omega) (.inr ⟨by omega, t, ?_⟩))
        rcases R with ⟨_, rfl⟩ | ⟨h1, _⟩
        · rw [hji]; rfl
        · omega
      · rw [decide_eq_false hji, if_neg Bool.false_ne_true]
        refine comp_end F' N' off trivial (ih (i + 1) _ (by omega) ?_)
        rcases R with ⟨h1, h2⟩ | ⟨h1, h2⟩
        · exact .inl ⟨by omega, h2⟩
        · exact .inr ⟨by omega, h2⟩
  exact key n 0 [] (by omega) (.inl ⟨Nat.zero_le _, rfl⟩)
end
end Mine

end
-- N7
section
open PySem PySem.Calls PySem.W PyProof.Rows PyProof.V PySem.Spec PySem.SeqAt
set_option maxHeartbeats 1000000
namespace Mine
section
variable {prog : Program} {w : World} {A : Around} {E : Value → Shared → Prop} {s : Shared} {h₀ : Heap} {L : Addr} {m : Map} {env : Env} {elt iter : PySem.Expr} {x : PySem.Str} {px pos : Pos} {scope : Scope} {cl : List (PySem.Str × Addr)} {news : Led} {Q : Value → Shared → Prop}
/-- what a nested comprehension wants of the range it goes over -/
def NestSrc (prog : Program) (w : World) (A : Around) (h₀ : Heap) (L : Addr) (m : Map) (env : Env) (elt : PySem.Expr) (x : PySem.Str) (scope : Scope) (cl : List (PySem.Str × Addr)) (Q : Value → Shared → Prop) (xv : Value) (s₁ : Shared) : Prop :=
  ∃ r b t u v n news, xv = .ref r ∧ A.handled = none ∧ Fr h₀ L s₁.heap m ∧ News h₀ L s₁.heap news ∧ IsRange s₁.heap r 0 b 1 t u v ∧ Builtin.Range.small 0 b 1 = true ∧ Builtin.Range.rangeSize 0 b 1 = ((n : Nat) : Int) ∧ n ≤ sizeLine ∧
    (∀ i t rows c oc C h tk (E' : Value → Shared → Prop) oth, i < n → oc.data = .cell (some (.int (0 + (i : Int)) t)) → Fr h₀ L h m → News h₀ L h ((c, oc) :: (oth ++ (rows ++ news))) →
      wpAny (model prog w) A (eval elt (compEnvC scope ((x, c) :: cl) C env)) (fun y s' => ∃ a t' k h' tk', y = .ref a ∧ s' = { s₁ with heap := h', toks := tk' } ∧ Fr h₀ L h' m ∧ News h₀ L h' ((a, W.listOf [Value.int (0 + (i : Int)) t'].toArray k) :: (c, oc) :: (oth ++ (rows ++ news))) ∧ (∀ p ∈ (c, oc) :: (oth ++ (rows ++ news)), p.1 ≠ a)) E' { s₁ with heap := h, toks := tk }) ∧
    (∀ D ys rows h tk, Rows n ys rows → Fr h₀ L h m → News h₀ L h ((D, W.listOf ys.toArray ys.length) :: (rows ++ news)) → Q (.ref D) { s₁ with heap := h, toks := tk })
theorem nest_comp (_F₀ : Fr h₀ L s.heap m) (hclos : closureFor scope env = pure cl) (hcells : ∀ n, cellsFrom n scope.names cl = (x, n) :: cl) (hpush : ∀ h : Heap, pushCells h scope.names = h.push { cls := .type "cell", data := .cell none })
    (hkind : scope.kind = .function) (hnames : ∀ y ∈ scope.names, y.2 = .local → scope.names.lookup y.1 = some .local)
    (hx : ∀ c C, (compEnvC scope ((x, c) :: cl) C env).kindOf x = some .cell)
    (h : wpAny (model prog w) A (eval iter env) (NestSrc prog w A h₀ L m env elt x scope cl Q) E s)
    (hs : ∀ x, foldedSetIterable iter env x = pure x) :
    wpAny (model prog w) A (eval (.ListComp elt [⟨.Name x px, iter, [], 0⟩] scope pos) env) Q E s := by
  rw [eval_ListComp]
  refine wpAny_comprehension_free (use := none) rfl hs hclos hkind hnames (wpAny_mono h (fun xv s₁ h₁ => ?_) fun _ _ e => e)
  obtain ⟨r, b, t, u, v, n, news, rfl, hh, F, N, hr, hsm, hn, hsz, turn, fin⟩ := h₁
  refine wpAny_pyIter_range hr hsm ?_
  refine wpAny_newObj_type ?_
  unfold newFunctionEnv
  simp only [Option.isSome_some, if_true]
  refine wpAny_bind (wpAny_alloc ?_)
  refine wpAny_bind (wpAny_layCells _ (fun name kind cells => by cases hkc : kind == NameKind.cell <;> simp [hkc]) _ _ _ _ ?_)
  rw [hcells, hpush]
  refine wpAny_bind ?_
  rw [List.forIn_nil]
  refine wpAny_pure (wpAny_pure ?_)
  dsimp only
  generalize hit : ({ cls := .type "range_iterator", data := .fields #[rawInt 0, rawInt (Builtin.Range.rangeSize 0 b 1), rawInt 1] } : Obj) = oI0
  generalize hH1 : s₁.heap.push oI0 = H1
  generalize hH2 : H1.push { cls := .type "list", data := .seq ([] : List Value).toArray } = H2
  generalize hH3 : H2.push { cls := .type "dict", data := .dict #[] } = H3
  generalize hH4 : H3.push { cls := .type "cell", data := .cell none } = H4
  generalize hI : s₁.heap.objs.size = I
  generalize hD : H1.objs.size = D
  generalize hC : H2.objs.size = C
  generalize hc : H3.objs.size = c
  have sD : D = I + 1 := by rw [← hD, ← hH1, Heap.size_push, hI]
  have sC : C = I + 2 := by rw [← hC, ← hH2, Heap.size_push, hD, sD]
  have sc : c = I + 3 := by rw [← hc, ← hH3, Heap.size_push, hC, sC]
  have k1 : ∀ b o, s₁.heap.get? b = some o → H1.get? b = some o := fun b o e => hH1 ▸ Heap.get?_push_of_some _ e
  have k2 : ∀ b o, H1.get? b = some o → H2.get? b = some o := fun b o e => hH2 ▸ Heap.get?_push_of_some _ e
  have k3 : ∀ b o, H2.get? b = some o → H3.get? b = some o := fun b o e => hH3 ▸ Heap.get?_push_of_some _ e
  have k4 : ∀ b o, H3.get? b = some o → H4.get? b = some o := fun b o e => hH4 ▸ Heap.get?_push_of_some _ e
  have old : ∀ b o, s₁.heap.get? b = some o → H4.get? b = some o := fun b o e => k4 _ _ (k3 _ _ (k2 _ _ (k1 _ _ e)))
  have gI : H4.get? I = some oI0 := k4 _ _ (k3 _ _ (k2 _ _ (by rw [← hH1, ← hI]; exact Heap.get?_push_size _ (by rw [← hit]; rfl))))
  have gD : H4.get? D = some (LCg.lst []) := k4 _ _ (k3 _ _ (by rw [← hH2, ← hD]; exact Heap.get?_push_size _ rfl))
  have gC : H4.get? C = some { cls := .type "dict", data := .dict #[] } := k4 _ _ (by rw [← hH3, ← hC]; exact Heap.get?_push_size _ rfl)
  have gc : H4.get? c = some { cls := .type "cell", data := .cell none } := by rw [← hH4, ← hc]; exact Heap.get?_push_size _ rfl
  have nC : H4.Ns C (fun _ => none) := by
    have := Heap.Ns.new H2 (.type "dict")
    rw [hC] at this
    exact this.at' fun o e => k4 _ _ (by rw [← hH3]; exact e)
  have lt1 : ∀ {b o}, s₁.heap.get? b = some o → @LT.lt Nat _ b I := fun e => hI ▸ Heap.lt_size e
  have hLI : @LT.lt Nat _ L I := hI ▸ F.ns.lt
  have fresh : ∀ a, @LE.le Nat _ I a → h₀.get? a = none := fun a ha => by
    cases e : h₀.get? a with
    | none => rfl
    | some o => exact absurd (lt1 (F.keep _ _ e)) (Nat.not_lt.mpr ha)
  have fI : h₀.get? I = none := fresh _ (Nat.le_refl _)
  have fD : h₀.get? D = none := fresh _ (by omega)
  have fC : h₀.get? C = none := fresh _ (by omega)
  have fc : h₀.get? c = none := fresh _ (by omega)
  have LI : L ≠ I := Nat.ne_of_lt hLI
  have LD : L ≠ D := Nat.ne_of_lt (by omega)
  have LC : L ≠ C := Nat.ne_of_lt (by omega)
  have Lc : L ≠ c := Nat.ne_of_lt (by omega)
  have ID : I ≠ D := Nat.ne_of_lt (by omega)
  have IC : I ≠ C := Nat.ne_of_lt (by omega)
  have Ic : I ≠ c := Nat.ne_of_lt (by omega)
  have DC : D ≠ C := Nat.ne_of_lt (by omega)
  have Dc : D ≠ c := Nat.ne_of_lt (by omega)
  have Cc : C ≠ c := Nat.ne_of_lt (by omega)
  have off0 : ∀ p ∈ news, p.1 ≠ I ∧ p.1 ≠ c ∧ p.1 ≠ D ∧ p.1 ≠ C := fun p hp => by
    have := lt1 (N p hp).1
    exact ⟨Nat.ne_of_lt this, Nat.ne_of_lt (by omega), Nat.ne_of_lt (by omega), Nat.ne_of_lt (by omega)⟩
  have W := LCg.range_walks (prog := prog) (w := w) (I := I) hh 0 n
  have st0 : IsRangeIter H4 I (0 + ((0 : Nat) : Int) * 1) ((n : Int) - ((0 : Nat) : Int)) 1 := by
    show H4.get? I = some _
    rw [gI, ← hit, hn]
    simp
  have loop : codeAny (model prog w) A (.compLoop (.ListComp elt [⟨.Name x px, iter, [], 0⟩] scope pos) 0 (.ref I) (.ref D) (compEnvC scope ((x, c) :: cl) C env)) (compPost (model prog w) A E none Q (.ref D) C) { s₁ with heap := H4 } := by
    refine codeAny_compLoop_tests
      (fun k s' => ∃ h' tk i ys rows oI oc v0, s' = { s₁ with heap := h', toks := tk } ∧ i ≤ n ∧ k = n + 1 - i ∧ ys.length = i ∧ IsRangeIter h' I (0 + (i : Int) * 1) ((n : Int) - (i : Int)) 1 ∧ Fr h₀ L h' m ∧ h'.Ns C (fun _ => none) ∧
        News h₀ L h' ((c, oc) :: ((I, oI) :: [(D, LCg.lst ys)] ++ (rows ++ news))) ∧ oc.data = .cell v0 ∧ Rows i ys rows ∧ (∀ p ∈ rows ++ news, p.1 ≠ I ∧ p.1 ≠ c ∧ p.1 ≠ D ∧ p.1 ≠ C)) ?_ (n + 1)
      ⟨H4, _, 0, [], [], oI0, { cls := .type "cell", data := .cell none }, none, rfl, Nat.zero_le _, rfl, rfl, st0, F.keeps old, nC, fun p hp => ?_, rfl, .nil, off0⟩
    · rintro k s' ⟨h', tk, i, ys, rows, oI, oc, v0, rfl, hi, rfl, hyl, hst', F', nC', N', hcd, R', off'⟩
      by_cases hlt : i < n
      · refine W.item i _ _ _ hlt hst' fun v h₂ tk₂ hPv hst₂ hk₂ => ?_
        obtain ⟨t', rfl⟩ := hPv
        have kp : ∀ b o, b ≠ I → h'.get? b = some o → h₂.get? b = some o := fun b o hb e => hk₂ b o (by simpa using hb) e
        have hcN : h'.get? c = some oc := (N' _ (.head _)).1
        refine wpAny_assign_Name (wpAny_storeName_cell (c := c) (v₀ := v0) (by exact hkind) (hx c C) (by simp [compEnvC]) ⟨oc, kp _ _ (Ne.symm Ic) hcN, hcd⟩ fun h₃ hcell hsb => ?_)
        obtain ⟨oc', hoc', hcd'⟩ := hcell
        refine wpAny_tests_nil ?_
        simp only [if_true]
        have F₃ : Fr h₀ L h₃ m := (LCg.fr_but F' hk₂ LI fI).change hsb (Ne.symm Lc) fc
        have nC₃ : h₃.Ns C (fun _ => none) := nC'.at' fun o e => hsb.extBut _ _ Cc (kp _ _ (Ne.symm IC) e)
        obtain ⟨oI', hoI'⟩ : ∃ o, h₂.get? I = some o := ⟨_, hst₂⟩
        have N₃ : News h₀ L h₃ ((c, oc') :: ((I, oI') :: [(D, LCg.lst ys)] ++ (rows ++ news))) := fun p hp => by
          rcases List.mem_cons.mp hp with rfl | hp
          · exact ⟨hoc', Ne.symm Lc, fc⟩
          rcases List.mem_append.mp hp with hp | hp
          · rcases List.mem_cons.mp hp with rfl | hp
            · exact ⟨hsb.extBut _ _ Ic hoI', Ne.symm LI, fI⟩
            · rw [List.mem_singleton.mp hp]
              exact ⟨hsb.extBut _ _ Dc (kp _ _ (Ne.symm ID) (N' _ (.tail _ (List.mem_append_left _ (.tail _ (.head _))))).1), Ne.symm LD, fD⟩
          · have z := N' p (.tail _ (List.mem_append_right _ hp))
            exact ⟨hsb.extBut _ _ (off' p hp).2.1 (kp _ _ (off' p hp).1 z.1), z.2⟩
        have hCold := nC₃
        obtain ⟨oC, hoC, hCns⟩ := LCg.ns_obj nC₃
        refine wpAny_mono (turn i t' rows c oc' C h₃ tk₂ _ ((C, oC) :: (I, oI') :: [(D, LCg.lst ys)]) hlt hcd' F₃ (fun p hp => ?_)) (fun y s₄ h₄ => ?_) fun _ _ e => e
        · rcases List.mem_cons.mp hp with rfl | hp
          · exact N₃ _ (.head _)
          rcases List.mem_cons.mp hp with rfl | hp
          · exact ⟨hoC, Ne.symm LC, fC⟩
          · exact N₃ _ (.tail _ hp)
        obtain ⟨a, t'', ck, h₄, tk₄, rfl, rfl, F₄, N₄, hne⟩ := h₄
        have zc := (N₄ (c, oc') (.tail _ (.head _))).1
        have zC := (N₄ (C, oC) (.tail _ (.tail _ (.head _)))).1
        have zI := (N₄ (I, oI') (.tail _ (.tail _ (.tail _ (.head _))))).1
        have zD := (N₄ (D, LCg.lst ys) (.tail _ (.tail _ (.tail _ (.tail _ (.head _)))))).1
        have ac := hne (c, oc') (.head _)
        have aC := hne (C, oC) (.tail _ (.head _))
        have aI := hne (I, oI') (.tail _ (.tail _ (.head _)))
        have aD := hne (D, LCg.lst ys) (.tail _ (.tail _ (.tail _ (.head _))))
        have hst₄ : IsRangeIter h₄ I (0 + ((i + 1 : Nat) : Int) * 1) ((n : Int) - ((i + 1 : Nat) : Int)) 1 := LCg.range_st (h₀ := h₀) (L := L) (i + 1) h₂ h₄ oI' [] hst₂ hoI' zI F₄.keep News.nil trivial
        refine append_at (hsz := by show ys.toArray.size ≤ sizeLine; rw [List.size_toArray, hyl]; exact Nat.le_trans hi hsz) zD fun h₅ hs₅ hD₅ => ?_
        have hst₅ : IsRangeIter h₅ I (0 + ((i + 1 : Nat) : Int) * 1) ((n : Int) - ((i + 1 : Nat) : Int)) 1 := LCg.range_st (h₀ := h₀) (L := L) (i + 1) h₄ h₅ oI' [] hst₄ zI (hs₅.extBut _ _ ID zI) (F₄.change hs₅ (Ne.symm LD) fD).keep News.nil trivial
        refine ⟨n + 1 - (i + 1), by omega, h₅, tk₄, i + 1, ys ++ [.ref a], _, oI', oc', _, rfl, hlt, rfl, by rw [List.length_append, List.length_singleton, hyl], hst₅, F₄.change hs₅ (Ne.symm LD) fD,
          (hCns.ns zC).at' fun o e => hs₅.extBut _ _ (Ne.symm DC) e, fun p hp => ?_, hcd', .snoc a t'' ck R', fun p hp => ?_⟩
        · rcases List.mem_cons.mp hp with rfl | hp
          · exact ⟨hs₅.extBut _ _ (Ne.symm Dc) zc, Ne.symm Lc, fc⟩
          rcases List.mem_append.mp hp with hp | hp
          · rcases List.mem_cons.mp hp with rfl | hp
            · exact ⟨hs₅.extBut _ _ ID zI, Ne.symm LI, fI⟩
            · rw [List.mem_singleton.mp hp]
              exact ⟨hD₅.trans (congrArg some (LCg.lst_snoc ys _)), Ne.symm LD, fD⟩
          · rcases List.mem_cons.mp hp with rfl | hp
            · have z := N₄ _ (.head _)
              exact ⟨hs₅.extBut _ _ (Ne.symm aD) z.1, z.2⟩
            · have z := N₄ p (.tail _ (.tail _ (.tail _ (.tail _ (.tail _ hp)))))
              exact ⟨hs₅.extBut _ _ (off' p hp).2.2.1 z.1, z.2⟩
        · rcases List.mem_cons.mp hp with rfl | hp
          · exact ⟨Ne.symm aI, Ne.symm ac, Ne.symm aD, Ne.symm aC⟩
          · exact off' p hp
      · obtain rfl : i = n := Nat.le_antisymm hi (Nat.not_lt.mp hlt)
        refine W.done _ _ _ hst' fun h₂ tk₂ hk₂ => ?_
        have kp : ∀ b o, b ≠ I → h'.get? b = some o → h₂.get? b = some o := fun b o hb e => hk₂ b o (by simpa using hb) e
        refine ⟨_, nC'.at' fun o e => kp _ _ (Ne.symm IC) e, fun h'' hs'' => ?_⟩
        refine fin D ys rows h'' tk₂ R' ((LCg.fr_but F' hk₂ LI fI).change hs'' (Ne.symm LC) fC) fun p hp => ?_
        rcases List.mem_cons.mp hp with rfl | hp
        · exact ⟨hs''.extBut _ _ DC (kp _ _ (Ne.symm ID) (N' _ (.tail _ (List.mem_append_left _ (.tail _ (.head _))))).1), Ne.symm LD, fD⟩
        · have z := N' p (.tail _ (List.mem_append_right _ hp))
          exact ⟨hs''.extBut _ _ (off' p hp).2.2.2 (kp _ _ (off' p hp).1 z.1), z.2⟩
    · rcases List.mem_cons.mp hp with rfl | hp
      · exact ⟨gc, Ne.symm Lc, fc⟩
      rcases List.mem_append.mp hp with hp | hp
      · rcases List.mem_cons.mp hp with rfl | hp
        · exact ⟨gI, Ne.symm LI, fI⟩
        · rw [List.mem_singleton.mp hp]
          exact ⟨gD, Ne.symm LD, fD⟩
      · have z := N p hp
        exact ⟨old _ _ z.1, z.2⟩
  exact codeAny_compStart_list loop (W.self 0 _ _ _ st0 loop)
theorem nest_src {r : Addr} {b : Int} {t u v : Tok} {n : Nat} {s₁ : Shared} (hh : A.handled = none) (F : Fr h₀ L s₁.heap m) (N : News h₀ L s₁.heap news) (hr : IsRange s₁.heap r 0 b 1 t u v) (hsm : Builtin.Range.small 0 b 1 = true) (hn : Builtin.Range.rangeSize 0 b 1 = ((n : Nat) : Int)) (hsz : n ≤ sizeLine)
    (turn : ∀ i t R c oc C h tk (E' : Value → Shared → Prop), i < n → oc.data = .cell (some (.int (0 + (i : Int)) t)) → Fr h₀ L h m → (∀ p ∈ news, p ∈ R) → News h₀ L h ((c, oc) :: R) →
      wpAny (model prog w) A (eval elt (compEnvC scope ((x, c) :: cl) C env)) (fun y s' => ∃ a t' k h' tk', y = .ref a ∧ s' = { s₁ with heap := h', toks := tk' } ∧ Fr h₀ L h' m ∧ News h₀ L h' ((a, W.listOf [Value.int (0 + (i : Int)) t'].toArray k) :: (c, oc) :: R) ∧ (∀ p ∈ (c, oc) :: R, p.1 ≠ a)) E' { s₁ with heap := h, toks := tk })
    (fin : ∀ D ys rows R h tk, Rows n ys rows → Fr h₀ L h m → (∀ p ∈ rows, p ∈ R) → (∀ p ∈ news, p ∈ R) → News h₀ L h ((D, W.listOf ys.toArray ys.length) :: R) → Q (.ref D) { s₁ with heap := h, toks := tk }) : NestSrc prog w A h₀ L m env elt x scope cl Q (.ref r) s₁ :=
  ⟨r, b, t, u, v, n, news, rfl, hh, F, N, hr, hsm, hn, hsz, fun i t rows c oc C h tk E' oth hi hd F' N' => turn i t (oth ++ (rows ++ news)) c oc C h tk E' hi hd F' (fun p hp => List.mem_append_right _ (List.mem_append_right _ hp)) N',
    fun D ys rows h tk R F' N' => fin D ys rows (rows ++ news) h tk R F' (fun p hp => List.mem_append_left _ hp) (fun p hp => List.mem_append_right _ hp) N'⟩
theorem rows_src {r : Addr} {b : Int} {t u v : Tok} {n : Nat} {s₁ : Shared} (hh : A.handled = none) (F : Fr h₀ L s₁.heap m) (N : News h₀ L s₁.heap news) (hr : IsRange s₁.heap r 0 b 1 t u v) (hsm : Builtin.Range.small 0 b 1 = true) (hn : Builtin.Range.rangeSize 0 b 1 = ((n : Nat) : Int)) (hsz : n ≤ sizeLine)
    (turn : ∀ i t R I oI C oC D ys m₂ h tk (E' : Value → Shared → Prop), i < n → LCg.NsObj oC m₂ → m₂ x = some (.int (0 + (i : Int)) t) → Fr h₀ L h m → News h₀ L h ((I, oI) :: (C, oC) :: (D, LCg.lst ys) :: R) → 
      wpAny (model prog w) A (eval elt (compEnvC scope cl C env)) (fun y s' => ∃ a t' c h' tk', y = .ref a ∧ s' = { s₁ with heap := h', toks := tk' } ∧ Fr h₀ L h' m ∧ News h₀ L h' ((a, W.listOf [Value.int (0 + (i : Int)) t'].toArray c) :: (I, oI) :: (C, oC) :: (D, LCg.lst ys) :: R) ∧ (∀ p ∈ (I, oI) :: (C, oC) :: (D, LCg.lst ys) :: R, p.1 ≠ a)) E' { s₁ with heap := h, toks := tk })
    (fin : ∀ D ys rows R h tk, Rows n ys rows → Fr h₀ L h m → (∀ p ∈ rows, p ∈ R) → (∀ p ∈ news, p ∈ R) → News h₀ L h ((D, LCg.lst ys) :: R) → Q (.ref D) { s₁ with heap := h, toks := tk }) : LCg.CompSrc prog w A h₀ L m env elt x scope cl (fun s₂ => LCg.FinE h₀ L m s₂ Q) (.ref r) s₁ :=
  LCg.CompSrc.range hh F N hr hsm hn hsz fun g => rest_rows (fun i t rows I oI C oC D ys m₂ h tk E' hi hC hx F N => turn i t (rows ++ news) I oI C oC D ys m₂ h tk E' hi hC hx F N) fun ys rows R D h tk F N _ => fin D ys rows (rows ++ news) h tk R F (fun p hp => List.mem_append_left _ hp) (fun p hp => List.mem_append_right _ hp) N
theorem item_at {value slice : PySem.Expr} {l : Addr} {vs : List Value} {i : Nat} {u : Tok} {y : Value} {k : Nat} (F : Fr h₀ L s.heap m) (N : News h₀ L s.heap news) (hm : (l, W.listOf vs.toArray k) ∈ news) (hi : i < 1000) (hx : vs[i]? = some y) (h : Q y s)
    (hs : subscripted slice false (.ref l) (.int (0 + (i : Int)) u) = operate [.ref l, .int (0 + (i : Int)) u] (getItem (.ref l) (.int (0 + (i : Int)) u)) := by with_unfolding_all rfl) :
    wpAny (model prog w) A (subscriptTail value slice (.ref l) (.int (0 + (i : Int)) u)) Q E s := by
  have hl : s.heap.IsList l vs.toArray := News.isList N hm
  have e : (0 + (i : Int)).toNat = i := by omega
  exact tail_any hl.typeIs slot_list_getitem.lookup (wpAny_getItem_list hl (by omega) (by omega) (by rw [e]; simpa using hx) h) hs
end
end Mine

end
-- E1
section
open PySem PySem.Calls PySem.W PyProof.Rows PyProof.V PySem.Spec
set_option maxRecDepth 100000
namespace Mine
abbrev exObj (t : Addr) : Obj := { cls := .ref 306, data := .fields #[.ref t, .none, .none, .none, .bool false, .none] }
abbrev bmX : List Value := [.type "Exception", .type "BaseException", .type "object"]
abbrev invCls : Obj := excClassObj (Str.ofString "InvalidDocument") (Str.ofString "InvalidDocument") 306 305 [.ref 275] [.ref 275, .type "Exception", .type "BaseException", .type "object"] true [] [] false none none (some (.ref 279)) none (some (.str (Str.ofString "InvalidDocument") 573)) (some (.str (Str.ofString "InvalidDocument") 581)) (some (.bool true)) "Exception.__new__"
section
variable {w : World} {A : Around} {R : Result → Shared → Prop} {h : Heap} {g : Array GenState} {d : Drawn} {t : Nat} {os : OsState}
theorem inv_look (w : World) : (hd.heap_39 w.params).lookup 306 = some invCls := by kernel_rfl
theorem inv_tail (X : (hd.heap_39 w.params).In h) : OwnTail h bmX [.ref 275, .type "Exception", .type "BaseException", .type "object"] := tail_of_in X (by kernel_rfl)
set_option maxHeartbeats 4000000 in
theorem exc_make {rest : List Value} (X : (hd.heap_39 w.params).In h) (hrest : rest.length ≤ sizeLine)
    (hq : codeAny (model PySem.Challenge.rw_jh0019_01.row.prog w) (A.under (.builtin "type.__call__" ⟨.ref 306 :: rest, []⟩)) (.call (.ref 295) ⟨.ref (h.objs.size + 1) :: rest, []⟩) (InitBack (h.objs.size + 1) R) ⟨(h.push { cls := .type "tuple", data := .seq rest.toArray }).push (exObj h.objs.size), g, d, t, os⟩) :
    codeAny (model PySem.Challenge.rw_jh0019_01.row.prog w) A (.call (.ref 306) ⟨rest, []⟩) R ⟨h, g, d, t, os⟩ := by
  have FB := PySem.F.excBase_Exception
  have T := inv_tail X
  have hC : h.get? 306 = some invCls := X _ _ (inv_look w)
  have call : Looks (model PySem.Challenge.rw_jh0019_01.row.prog w) h (specialOf (.ref 306) "__call__") (some (.builtin "type.__call__")) := looks_specialIn X (by kernel_rfl)
  have typ : Looks (model PySem.Challenge.rw_jh0019_01.row.prog w) h (isInstance (.ref 306) (.type "type")) true := looks_instIn X (by kernel_rfl)
  have self : Looks (model PySem.Challenge.rw_jh0019_01.row.prog w) h (isSubtype (.ref 306) (.ref 306)) true := looks_mroIn X (by kernel_rfl)
  have hi : Looks (model PySem.Challenge.rw_jh0019_01.row.prog w) h (typeLookup (.ref 306) "__init__") (some (.ref 295)) := looks_findIn X (by kernel_rfl)
  have made : Looks (model PySem.Challenge.rw_jh0019_01.row.prog w) h (Bind.madeBy (.ref 306)) (some "Exception.__new__") := fun A Q E s k q => by
    obtain ⟨hh, g, d, t, os⟩ := s
    exact wpAny_madeBy_exc (k _ _ hC) q
  have hm : Looks (model PySem.Challenge.rw_jh0019_01.row.prog w) h (mroOf (.ref 306)) [.ref 306, .ref 275, .type "Exception", .type "BaseException", .type "object"] := fun A Q E s k q => by
    obtain ⟨hh, g, d, t, os⟩ := s
    exact wpAny_mroOf_exc (k _ _ hC) q
  refine codeAny_of_tree ?_
  show wpAny _ _ (callAny (.ref 306) _) _ _ _
  refine nd_load hC ?_
  show wpAny _ _ (callAny.viaDunder (.ref 306) _) _ _ _
  unfold callAny.viaDunder
  refine wpAny_bind (call.at ?_)
  dsimp only
  rw [tc_bind]
  refine wpAny_bind (wpAny_pure (wpAny_bind (wpAny_pure ?_)))
  refine wpAny_pure (a := Fin.again (.call (.builtin "type.__call__") ⟨.ref 306 :: rest, []⟩)) (And.intro rfl ?_)
  refine codeAny_call_builtin_at (Code.quiet_builtin _ (by decide +kernel)) entry_typeCall (check_slot tc_kind tc_split typ (tc_args _ _ _) ?_)
  unfold Builtin.«type.__call__»
  repeat (first | simp only [List.isEmpty_cons, Bool.false_eq_true, if_false] | with_reducible refine wpAny_call ?_ | lk)
  refine codeAny_call_builtin_code (Code.quiet_builtin _ FB.quiet) (wpAny_check_new_subT FB T hC ?_)
  refine codeAny_exc_new_subT FB T hC ?_ hrest
  have k : ∀ b o, h.get? b = some o → ((h.push { cls := .type "tuple", data := .seq rest.toArray }).push (exObj h.objs.size)).get? b = some o := fun b o e => Heap.get?_push_of_some _ (Heap.get?_push_of_some _ e)
  have hx : ((h.push { cls := .type "tuple", data := .seq rest.toArray }).push (exObj h.objs.size)).get? (h.objs.size + 1) = some (exObj h.objs.size) := by heap_get
  have t1 : Looks (model PySem.Challenge.rw_jh0019_01.row.prog w) ((h.push { cls := .type "tuple", data := .seq rest.toArray }).push (exObj h.objs.size)) (typeOf (.ref (h.objs.size + 1))) (.ref 306) := (Looks.ld hx).andThen .now
  have s1 := self.keeps k
  have i1 := hi.keeps k
  have b1 : Looks (model PySem.Challenge.rw_jh0019_01.row.prog w) ((h.push { cls := .type "tuple", data := .seq rest.toArray }).push (exObj h.objs.size)) (bindSpecial (.ref 295) (.ref (h.objs.size + 1))) (.ref 295, [.ref (h.objs.size + 1)]) := (bind_fn X _ (by kernel_rfl)).keeps k
  unfold isInstance callSpecial? specialOf
  repeat (first | with_reducible refine wpAny_call ?_ | lk)
  refine codeAny_mono hq fun r s' z => ?_
  rcases r with e | (v | _ | _ | _) <;> first | exact z | exact z.elim | skip
  obtain ⟨rfl, z⟩ := z
  exact wpAny_pure (wpAny_pure z)
end
end Mine

end
-- E2
section
open PySem PySem.Calls PySem.W PyProof.Rows PyProof.V PySem.Spec
set_option maxRecDepth 100000
namespace Mine
theorem slot_wd_get : Slot "wrapper_descriptor" "__get__" "wrapper_descriptor.__get__" := .of (owner := "wrapper_descriptor") (n := "__get__") (by rw [typeLookup_type, builtinLookup_eq_fast]; kernel_rfl) (by decide +kernel) (by decide +kernel) (by decide +kernel) (by first | exact .inl (by decide +kernel) | exact .inr (by decide +kernel)) (by rw [isSubtype_type]; kernel_rfl)
theorem entry_wd_get : entryFor table "wrapper_descriptor.__get__" = some Builtin.«wrapper_descriptor.__get__» := entryFor_of_tree (by kernel_rfl)
theorem args_wd_get (a b c : Value) : argsOk "wrapper_descriptor.__get__" ⟨[a, b, c], []⟩ := by unfold argsOk; kernel_rfl
theorem typeOf_xi : typeOf (.builtin "Exception.__init__") = pure (.type "wrapper_descriptor") := by kernel_rfl
theorem owner_xi : (".".intercalate ("Exception.__init__".cutAt '.').dropLast) = "Exception" := by
  have e0 : "Exception.__init__".cutAt '.' = ["Exception", "__init__"] := by first | rfl | decide +kernel
  rw [e0]; decide +kernel
abbrev mwObj (x : Addr) : Obj := { cls := .type "method-wrapper", data := .fields #[.builtin "Exception.__init__", .ref x] }
section
variable {w : World} {A : Around} {E : Value → Shared → Prop} {h : Heap} {g : Array GenState} {d : Drawn} {t : Nat} {os : OsState}
set_option maxHeartbeats 4000000 in
theorem sup_ga {so x : Addr} {ox : Obj} {tk : Tok} {Q : Fin → Shared → Prop} (hso : h.get? so = some (ks_superObj 306 x 306)) (X : (hd.heap_39 w.params).In h) (hx : h.get? x = some ox) (hc : ox.cls = .ref 306) (hno : Looks (model PySem.Challenge.rw_jh0019_01.row.prog w) h (opaqueClassAbove (.ref 306)) none) (hxC : x ≠ 306)
    (hq : Q (.done (.ret (.ref h.objs.size))) ⟨h.push (mwObj x), g, d, t, os⟩) :
    wpAny (model PySem.Challenge.rw_jh0019_01.row.prog w) A (Builtin.«super.__getattribute__» ⟨[.ref so, .str (Str.ofString "__init__") tk], []⟩) Q E ⟨h, g, d, t, os⟩ := by
  have hlk := slot_wd_get.lookup
  have hn : (Str.ofString "__init__" == ("__class__" : PySem.Str)) = false := by decide +kernel
  have hne : (Value.ref x == Value.ref 306) = false := by simp [hxC]
  have hdt : (ks_superObj 306 x 306).data = .fields #[.ref 306, .ref x, .ref 306] := rfl
  have f0 : (#[.ref 306, .ref x, .ref 306] : Array Value)[0]? = some (.ref 306) := rfl
  have f1 : (#[.ref 306, .ref x, .ref 306] : Array Value)[1]? = some (.ref x) := rfl
  have f2 : (#[.ref 306, .ref x, .ref 306] : Array Value)[2]? = some (.ref 306) := rfl
  have hC : h.get? 306 = some invCls := X _ _ (inv_look w)
  have hm : Looks (model PySem.Challenge.rw_jh0019_01.row.prog w) h (mroOf (.ref 306)) [.ref 306, .ref 275, .type "Exception", .type "BaseException", .type "object"] := fun A Q E s k q => by
    obtain ⟨hh, g, d, t, os⟩ := s
    exact wpAny_mroOf_exc (k _ _ hC) q
  have hl : (([.ref 306, .ref 275, .type "Exception", .type "BaseException", .type "object"] : List Value).dropWhile (· != .ref 306)).drop 1 = [.ref 275, .type "Exception", .type "BaseException", .type "object"] := by decide +kernel
  have hf : alongIn (hd.heap_39 w.params) (Str.ofString "__init__") [.ref 275, .type "Exception", .type "BaseException", .type "object"] = some (some (.builtin "Exception.__init__")) := by kernel_rfl
  have hT : (⟨h, g, d, t, os⟩ : Shared).TypeIs (.builtin "Exception.__init__") "wrapper_descriptor" := typeOf_xi
  have hty : Looks (model PySem.Challenge.rw_jh0019_01.row.prog w) h (typeOf (.ref x)) (.ref 306) := hc ▸ (Looks.ld hx).andThen .now
  have hsub : Looks (model PySem.Challenge.rw_jh0019_01.row.prog w) h (isSubtype (.ref 306) (.type "Exception")) true := looks_mroIn X (by kernel_rfl)
  have hin : Looks (model PySem.Challenge.rw_jh0019_01.row.prog w) h (isInstance (.ref x) (.type "Exception")) true := hty.andThen hsub
  unfold Builtin.«super.__getattribute__»
  repeat (first
    | (with_reducible refine wpAny_field hso hdt f0 ?_) | (with_reducible refine wpAny_field hso hdt f1 ?_) | (with_reducible refine wpAny_field hso hdt f2 ?_)
    | (with_reducible refine PySem.F.ks_wpAny_notOpaque hno ?_)
    | (with_reducible refine ks_wpAny_notOpaque hno ?_)
    | (with_reducible refine Looks.at hm ?_; rw [hl])
    | (refine ks_forIn_along X (fun _ _ => rfl) rfl ?_ hf)
    | (with_reducible refine wpAny_typeOf hT ?_)
    | (with_reducible refine wpAny_call_entry slot_wd_get hT entry_wd_get ?_ (args_wd_get _ _ _))
    | (with_reducible refine Looks.at hin ?_)
    | (with_reducible refine ⟨_, rfl, ?_⟩)
    | (simp only [hn, hne, Bool.or_false, Bool.false_eq_true, if_false])
    | wp_step
    | dsimp only)
  rw [hc, owner_xi]
  refine hsub.at ?_
  repeat (first
    | (with_reducible refine ⟨_, rfl, ?_⟩)
    | (simp only [Bool.not_true, Bool.false_eq_true, if_false])
    | wp_step
    | dsimp only)
  all_goals exact hq
theorem sup_get {so x : Addr} {ox : Obj} {pl : Sem Bool} {Q : Value × List Value → Shared → Prop} (hso : h.get? so = some (ks_superObj 306 x 306)) (X : (hd.heap_39 w.params).In h) (hx : h.get? x = some ox) (hc : ox.cls = .ref 306) (hxC : x ≠ 306)
    (hq : Q (.ref h.objs.size, []) ⟨h.push (mwObj x), g, d, t + 1, os⟩) :
    wpAny (model PySem.Challenge.rw_jh0019_01.row.prog w) A (getMethod (.ref so) (Str.ofString "__init__") pl) Q E ⟨h, g, d, t, os⟩ := by
  have hno : Looks (model PySem.Challenge.rw_jh0019_01.row.prog w) h (opaqueClassAbove (.ref 306)) none := looks_opaque X (by kernel_rfl)
  have hlk := PySem.F.ks_slot_super_ga.lookup
  have hcan := PySem.F.ks_canon_super_ga
  have hT : ∀ t', (⟨h, g, d, t', os⟩ : Shared).TypeIs (.ref so) "super" := fun _ => ⟨_, hso, rfl⟩
  unfold getMethod
  refine wpAny_bind (wpAny_specialOf (hT _) hlk ?_)
  show wpAny _ _ (if (Manifest.canonical "super.__getattribute__" != "object.__getattribute__") = true then _ else _) _ _ _
  rw [if_pos hcan]
  unfold getAttr getAttrBy
  refine wpAny_bind (wpAny_bind (wpAny_mkText (wpAny_holding (wpAny_bind (wpAny_typeOf (hT _) (wpAny_bind (wpAny_of_eq hlk ?_)))))))
  show wpAny _ _ (getAttrByItsOwn (.ref so) (.str (Str.ofString "__init__") t) (.type "super") (.builtin "super.__getattribute__") true false) _ _ _
  unfold getAttrByItsOwn hookBefore callGetattribute boundAndCalled
  refine wpAny_bind (wpAny_of_eq (show (if onTheHeap (.type "super") then typeLookup (.type "super") "__getattr__" else pure none) = pure none from rfl) ?_)
  refine wpAny_bind (wpAny_attempt (wpAny_holding ?_))
  show wpAny _ _ (bindSpecial (.builtin "super.__getattribute__") (.ref so) >>= _) _ _ _
  refine wpAny_bind (wpAny_of_eq (PySem.F.ks_slot_super_ga.bind _) ?_)
  refine wpAny_mono (Q := fun v s' => v = .ref h.objs.size ∧ s' = ⟨h.push (mwObj x), g, d, t + 1, os⟩) (E := fun _ _ => False)
    (wpAny_call_entry PySem.F.ks_slot_super_ga (hT _) PySem.F.ks_entry_super_ga (sup_ga hso X hx hc hno hxC ⟨_, rfl, rfl, rfl⟩) (PySem.F.ks_gaArgs_super _ _)) (fun v s' hv => ?_) fun _ _ z => z.elim
  obtain ⟨rfl, rfl⟩ := hv
  exact wpAny_pure (wpAny_pure hq)
end
end Mine

end
-- E3
section
open PySem PySem.Calls PySem.W PyProof.Rows PyProof.V PySem.Spec
open PySem.Builtin PySem.Builtin.ObjectAttr
set_option maxRecDepth 100000
namespace Mine
/-- the fault with its dict -/
abbrev exObjD (t dx : Addr) : Obj := { cls := .ref 306, dict := some dx, data := .fields #[.ref t, .none, .none, .none, .bool false, .none] }
theorem inst_ex {h₀ h : Heap} {L x t : Addr} {news : Led} (N : News h₀ L h news) (h1 : (x, exObj t) ∈ news) : InstAt h x (exObj t) 306 none := ⟨(N _ h1).1, rfl, rfl, trivial⟩
theorem inst_exD {h₀ h : Heap} {L x t dx : Addr} {od : Obj} {news : Led} (N : News h₀ L h news) (h1 : (x, exObjD t dx) ∈ news) (h2 : (dx, od) ∈ news) : InstAt h x (exObjD t dx) 306 (some od) := ⟨(N _ h1).1, rfl, rfl, (N _ h2).1⟩
def MwAt (v : Value) (x : Addr) (h : Heap) : Prop := ∃ q, v = .ref q ∧ h.get? q = some (mwObj x)
section
variable {w : World} {A : Around} {E : Value → Shared → Prop} {s : Shared} {h₀ : Heap} {L : Addr} {m : Map} {news : Led}
theorem inv_method {so x t : Addr} {pl : Sem Bool} {Q : Value × List Value → Shared → Prop} (F : Fr h₀ L s.heap m) (X₀ : (hd.heap_39 w.params).In h₀) (N : News h₀ L s.heap news) (hso : (so, ks_superObj 306 x 306) ∈ news) (hx : (x, exObj t) ∈ news)
    (h : ∀ q h' tk', Fr h₀ L h' m → News h₀ L h' ((q, mwObj x) :: news) → (∀ p ∈ news, p.1 < q) → Q (.ref q, []) { s with heap := h', toks := tk' }) :
    wpAny (model PySem.Challenge.rw_jh0019_01.row.prog w) A (getMethod (.ref so) (Str.ofString "__init__") pl) Q E s := by
  have X := X₀.keeps F.keep
  obtain ⟨hh, g, d, t, os⟩ := s
  have hxC : x ≠ 306 := fun e => by
    have e1 := (N _ hx).2.2
    have e2 := X₀ 306 _ (inv_look w)
    simp only [e] at e1
    rw [e1] at e2; cases e2
  refine sup_get (N _ hso).1 X (N _ hx).1 rfl hxC ?_
  obtain ⟨F', N', l'⟩ := ks_newsPush (s := ⟨hh, g, d, t, os⟩) (o := mwObj x) F N rfl (Heap.get?_push_at rfl rfl) (fun b o e => Heap.get?_push_of_some _ e)
  exact h _ _ _ F' N' l'
theorem callWith_W {env : Env} {pos : Pos} {q x : Addr} {first : List Value} {e : PySem.Expr} {rest : List PySem.Expr} {Q : Value → Shared → Prop} (_N : News h₀ L s.heap news) (_q : (q, mwObj x) ∈ news)
    (h : wpAny (model PySem.Challenge.rw_jh0019_01.row.prog w) A (spliced (backTo pos (starEach (e :: rest) env))) (fun vs s₁ => MwAt (.ref q) x s₁.heap ∧ wpAny (model PySem.Challenge.rw_jh0019_01.row.prog w) A (call (.ref q) (first ++ vs)) Q E s₁) E s)
    (he : starEach (e :: rest) env = (false, eval e env) :: starEach rest env := by rfl) (hplain : (backTo pos (starEach rest env)).any (·.1) = false := by rfl) :
    wpAny (model PySem.Challenge.rw_jh0019_01.row.prog w) A (callWith pos (.ref q) first (backTo pos (starEach (e :: rest) env)) []) Q E s := by
  rw [he] at h ⊢
  refine callWith_of (P := MwAt (.ref q) x) (by show ((false || (backTo pos (starEach rest env)).any (·.1)) || false) = false; rw [hplain]; rfl) (fun h' hP => ?_) (evalArgs_plain h)
  obtain ⟨q', e, hP⟩ := hP
  cases e
  exact ⟨.machine, .inr (.inl rfl), (Looks.ld (part := none) hP).andThen .now⟩
theorem xi_check {M : Model} {x : Addr} {msg : Value} {oe : Obj} {h : Heap} {g : Array GenState} {d : Drawn} {t : Nat} {os : OsState} {Q : Unit → Shared → Prop} (hC : h.get? 306 = some invCls) (he : h.get? x = some oe) (hcls : oe.cls = .ref 306) (hq : Q () ⟨h, g, d, t, os⟩) :
    wpAny M A (checkBoundCall "Exception.__init__" ⟨[.ref x, msg], []⟩) Q E ⟨h, g, d, t, os⟩ := by
  have F := PySem.F.excBase_Exception
  have hshort := F.noStar
  simp only [checkBoundCall, F.initKind, F.initRow]
  repeat (first | (with_reducible refine wpAny_loadPart_at he ?_; rw [hcls]) | with_reducible refine wpAny_loadPart_at hC ?_ | wp_step)
  exact hq
theorem xinit_body {x t : Addr} {msg : Value} {Q : PySem.Fin → Shared → Prop} {s : Shared} (hx : s.heap.get? x = some (exObj t))
    (h : Q (.done (.ret .none)) { s with heap := (s.heap.push { cls := .type "tuple", data := .seq #[msg] }).update x (Obj.mapFields (·.setIfInBounds 0 (.ref s.heap.objs.size))) }) :
    wpAny (model PySem.Challenge.rw_jh0019_01.row.prog w) A (Builtin.«BaseException.__init__» ⟨[.ref x, msg], []⟩) Q E s := by
  unfold Builtin.«BaseException.__init__»
  dsimp only
  rw [if_neg (by simp)]
  unfold newTuple Builtin.BaseException.bexcPut
  have hx₁ := Heap.get?_push_of_some (h := s.heap) { cls := .type "tuple", data := .seq #[msg] } hx
  refine wpAny_bind (wpAny_newObj_type (wpAny_bind (wpAny_bind (wpAny_field hx₁ rfl rfl (wpAny_bind (wpAny_setField hx₁ rfl (by show 0 < 6; decide) ?_))))) (by size_fits))
  exact wpAny_letGo (wpAny_pure h)
theorem xinit_call {q x t : Addr} {msg : Value} {g : Obj → Led} {Q : Value → Shared → Prop} (F : Fr h₀ L s.heap m) (N : News h₀ L s.heap news) (X₀ : (hd.heap_39 w.params).In h₀) (hq : (q, mwObj x) ∈ news) (U : UpdF x (exObj t) news g)
    (h : ∀ h' t1, Fr h₀ L h' m → News h₀ L h' (g (exObj t1)) → Q .none { s with heap := h' }) :
    wpAny (model PySem.Challenge.rw_jh0019_01.row.prog w) A (call (.ref q) [msg]) Q E s := by
  obtain ⟨pre, post, rfl, hg, h1, h2⟩ := U.split
  have hx := (N (x, exObj t) (List.mem_append_right _ (.head _))).1
  refine wpAny_call ?_
  refine codeAny_of_tree ?_
  show wpAny _ A.in1 (callAny (.ref q) _) _ _ _
  unfold callAny
  refine wpAny_bind (wpAny_load (N _ hq).1 ?_)
  dsimp only
  rw [if_pos (by decide)]
  have hC : s.heap.get? 306 = some invCls := (X₀.keeps F.keep) _ _ (inv_look w)
  obtain ⟨hh, gg, d, tk, os⟩ := s
  refine wpAny_bind (xi_check hC hx rfl ?_)
  refine wpAny_pure ⟨Code.quiet_builtin _ (by decide +kernel), codeAny_builtin PySem.F.excBase_Exception.initEntry (xinit_body hx ?_)⟩
  have k : ∀ b o, hh.get? b = some o → (hh.push { cls := .type "tuple", data := .seq #[msg] }).get? b = some o := fun b o e => Heap.get?_push_of_some _ e
  obtain ⟨F', N'⟩ := news_upd (f := Obj.mapFields (·.setIfInBounds 0 (.ref hh.objs.size))) (o' := exObj hh.objs.size) (F.keeps k) (fun p hp => ⟨k _ _ (N p hp).1, (N p hp).2⟩) h1 h2 rfl rfl
  exact h _ _ F' (hg _ ▸ N')
end
end Mine

end
-- E4
section
open PySem PySem.Calls PySem.W PyProof.Rows PyProof.V PySem.Spec
open PySem.Builtin PySem.Builtin.ObjectAttr
set_option maxRecDepth 100000
namespace Mine
theorem refuse_ex (self : Value) : refuseLoop self "__setattr__" [.ref 306, .ref 275, .type "Exception", .type "BaseException", .type "object"] = pure () := by
  rw [refuseLoop_ref, refuseLoop_ref]
  kernel_rfl
def invData : ClassData := { name := Str.ofString "InvalidDocument", bases := [Value.ref 275], mro := [.ref 306, .ref 275, .type "Exception", .type "BaseException", .type "object"], ns := 305, qualname := Str.ofString "InvalidDocument" }
theorem inv_cls (w : World) : clsIn (hd.heap_39 w.params) 306 = some invData := by kernel_rfl
section
variable {w : World} {A : Around} {E : Value → Shared → Prop} {s : Shared} {h₀ : Heap} {L : Addr} {m : Map} {news : Led} {R : Result → Shared → Prop}
set_option maxHeartbeats 1000000 in
theorem osa_ex {x t : Addr} {name : PySem.Str} {tk : Tok} {v : Value} {g : Obj → Led} (F : Fr h₀ L s.heap m) (N : News h₀ L s.heap news) (X₀ : (hd.heap_39 w.params).In h₀) (U : UpdF x (exObj t) news g)
    (ha : findIn (hd.heap_39 w.params) (.ref 306) name = some none)
    (h : ∀ h' dx tk', Fr h₀ L h' m → News h₀ L h' ((dx, dictOf [⟨PyData.keyHash w.params name, .str name s.toks, v⟩] 1) :: g (exObjD t dx)) → (∀ p ∈ news, p.1 < dx) → R (.ok (.ret .none)) { s with heap := h', toks := tk' }) :
    codeAny (model PySem.Challenge.rw_jh0019_01.row.prog w) A (.call (.builtin "object.__setattr__") ⟨[.ref x, .str name tk, v], []⟩) R s := by
  obtain ⟨pre, post, rfl, hg, h1, h2⟩ := U.split
  have X := X₀.keeps F.keep
  have hm : (x, exObj t) ∈ pre ++ (x, exObj t) :: post := List.mem_append_right _ (.head _)
  have I := inst_ex N hm
  have SF := PySem.F.store_object
  have sub : Looks (model PySem.Challenge.rw_jh0019_01.row.prog w) s.heap (isInstance (.ref x) (.type "object")) true := I.type.andThen (looks_mroIn X (by kernel_rfl))
  refine codeAny_call_builtin SF.slot.plain SF.entry (@check_slot (model PySem.Challenge.rw_jh0019_01.row.prog w) _ _ s "object.__setattr__" "object" "__setattr__" (.ref x) [.str name tk, v] [] _ SF.kind SF.split sub (SF.args (.ref x) (.str name tk) v) ?_)
  have hmro : Looks (model PySem.Challenge.rw_jh0019_01.row.prog w) s.heap (mroOf (.ref 306)) invData.mro := (looks_clsIn X (inv_cls w)).andThen .now
  rw [osa_eq, refuse_eq]
  refine wpAny_bind (wpAny_bind (I.type.here (wpAny_bind (hmro.here ?_))))
  rw [show invData.mro = [.ref 306, .ref 275, .type "Exception", .type "BaseException", .type "object"] from rfl, refuse_ex]
  refine wpAny_pure (wpAny_bind (I.type.here (wpAny_bind ((looks_findIn X ha).here (wpAny_bind (wpAny_pure ?_))))))
  show wpAny _ _ (storeInOwnDict (.ref x) (.ref 306) (.str name tk) name v false) _ _ _
  have hx := I.at_
  refine wpAny_bind (wpAny_pure (wpAny_bind (wpAny_bind (wpAny_loadPart hx (wpAny_bind ((looks_clsIn X (inv_cls w)).here ?_))))))
  rw [if_neg (by decide)]
  rw [if_neg (show ¬ ((!true || !typeHasDict (exObj t).cls) = true) from Bool.false_ne_true)]
  refine wpAny_bind (wpAny_alloc ?_)
  have F1 : Fr h₀ L (s.heap.push { cls := .type "dict", data := .dict #[] }) m := F.push _
  have N1 := N.push F { cls := .type "dict", data := .dict #[] }
  have hx1 := (N1 _ (.tail _ hm)).1
  refine wpAny_bind (wpAny_update hx1 (wpAny_pure ?_))
  have hlt : ∀ p ∈ pre ++ (x, exObj t) :: post, p.1 < s.heap.objs.size := fun p hp => Heap.lt_size (N p hp).1
  obtain ⟨F2, N2⟩ := news_upd (pre := (s.heap.objs.size, { cls := .type "dict", data := .dict #[] }) :: pre) (post := post) (f := fun o => { o with dict := some s.heap.objs.size }) (o' := exObjD t s.heap.objs.size) F1 N1 (fun p hp => by
    rcases List.mem_cons.mp hp with rfl | hp
    · exact Ne.symm (Nat.ne_of_lt (hlt _ hm))
    · exact h1 p hp) h2 rfl rfl
  dsimp only
  unfold storeInDict newKeyGuard
  refine wpAny_bind (wpAny_pure (wpAny_bind ?_))
  unfold nsSet
  have D := (N2 _ (.head _)).1
  refine wpAny_bind (wpAny_bind (wpAny_askSetting (wpAny_pure (wpAny_bind (wpAny_mkText (wpAny_bind (wpAny_loadPart D ?_)))))))
  dsimp only
  rw [aRefKeyMayBeTheName_at, if_neg (by simp)]
  refine wpAny_updatePart D ?_
  obtain ⟨F3, N3⟩ := news_upd (pre := []) (post := pre ++ (x, exObjD t s.heap.objs.size) :: post) (f := Obj.putName name (PyData.keyHash w.params name) (.str name s.toks) v) (o' := dictOf [⟨PyData.keyHash w.params name, .str name s.toks, v⟩] 1) F2 N2 (fun p hp => nomatch hp) (fun p hp => by
    rcases List.mem_append.mp hp with hp | hp
    · exact Nat.ne_of_lt (hlt p (List.mem_append_left _ hp))
    · rcases List.mem_cons.mp hp with rfl | hp
      · exact Nat.ne_of_lt (hlt (x, exObj t) hm)
      · exact Nat.ne_of_lt (hlt p (List.mem_append_right _ (.tail _ hp)))) (by
        show Obj.putName name _ _ v (dictOf [] 0) = _
        rw [putName_dict]; rfl) rfl
  refine wpAny_bind (wpAny_lookBehind (N3 _ (.head _)).1 (pastItsLine_dict (by rw [List.size_toArray, sizeLine_eq]; simp)) ?_)
  exact wpAny_pure (h _ _ _ F3 (hg _ ▸ N3) hlt)
theorem set_ex {x t : Addr} {name : PySem.Str} {v : Value} {g : Obj → Led} {Q : Unit → Shared → Prop} (F : Fr h₀ L s.heap m) (X₀ : (hd.heap_39 w.params).In h₀) (N : News h₀ L s.heap news) (U : UpdF x (exObj t) news g)
    (ha : findIn (hd.heap_39 w.params) (.ref 306) name = some none)
    (h : ∀ h' dx u tk', Fr h₀ L h' m → News h₀ L h' ((dx, dictOf [⟨PyData.keyHash w.params name, .str name u, v⟩] 1) :: g (exObjD t dx)) → (∀ p ∈ news, p.1 < dx) → Q () { s with heap := h', toks := tk' }) :
    wpAny (model PySem.Challenge.rw_jh0019_01.row.prog w) A (setAttr (.ref x) name v) Q E s := by
  have hm : (x, exObj t) ∈ news := by
    obtain ⟨pre, post, rfl, _⟩ := U.split
    exact List.mem_append_right _ (.head _)
  exact set_plain (X₀.keeps F.keep) (inst_ex N hm) (by kernel_rfl) (osa_ex (s := { s with toks := s.toks + 1 }) F N X₀ U ha fun h' dx tk' F' N' l => h h' dx _ tk' F' N' l)
end
end Mine

end
-- E5
section
local macro_rules | `(tactic| walk_at "pad") => `(tactic| skip)
local macro_rules | `(tactic| walk_at "pad") => `(tactic| skip)
local macro_rules | `(tactic| walk_at "pad") => `(tactic| skip)
local macro_rules | `(tactic| walk_at "pad") => `(tactic| skip)
local macro_rules | `(tactic| walk_at "pad") => `(tactic| skip)
local macro_rules | `(tactic| walk_at "pad") => `(tactic| skip)
local macro_rules | `(tactic| walk_at "pad") => `(tactic| skip)
local macro_rules | `(tactic| walk_at "pad") => `(tactic| skip)
local macro_rules | `(tactic| walk_at "pad") => `(tactic| skip)
local macro_rules | `(tactic| walk_at "pad") => `(tactic| skip)
local macro_rules | `(tactic| walk_at "pad") => `(tactic| skip)
local macro_rules | `(tactic| walk_at "pad") => `(tactic| skip)
theorem Mine.padE5 : (1 : Nat) = 1 := by
  w_top off
  first | (walk1; done) | rfl
end
section
open PySem PySem.Calls PySem.W PyProof.Rows PyProof.V PySem.Spec
namespace Mine
local macro_rules | `(tactic| k_inst) => `(tactic| first | exact inst_ex (by k_asm) (by k_mem) | exact inst_exD (by k_asm) (by k_mem) (by k_mem))
local macro_rules | `(tactic| walk_at "getMethod ref") => `(tactic| (k_here; k_dflt (refine' inv_method ?F ?X ?N ?a ?b ?_; (case F => k_asm); (case X => k_asm); (case N => k_asm); (case a => k_mem); (case b => k_mem); k_whole); intro q' h' tk' F' N' l1'; (try k_lt l1')))
local macro_rules | `(tactic| walk_at "callWith ref") => `(tactic| (k_here; k_dflt (refine' callWith_W ?N ?a ?_; (case N => k_asm); (case a => k_mem); k_whole); (try dsimp only [List.nil_append, List.cons_append])))
local macro_rules | `(tactic| walk_at "MwAt ref") => `(tactic| exact ⟨_, rfl, News.get (by k_asm) (by k_mem)⟩)
local macro_rules | `(tactic| walk_at "call ref") => `(tactic| (k_here; (with_reducible show wpAny _ _ (call (Value.ref _) [_] _) _ _ _); k_dflt (refine' xinit_call ?F ?N ?X ?a ?U ?_; (case F => k_asm); (case N => k_asm); (case X => k_asm); (case a => k_mem); (case U => k_updF); k_whole); intro h' t1' F' N'; (try dsimp only at N')))
local macro_rules | `(tactic| walk_at "setAttr ref") => `(tactic| (k_here; k_dflt (refine' set_ex ?F ?X ?N ?U ?a ?_; (case F => k_asm); (case X => k_asm); (case N => k_asm); (case U => k_updF); (case a => k_is); k_whole); intro h' dx' u' tk' F' N' l1'; (try dsimp only at N'); (try k_lt l1')))
set_option maxRecDepth 100000 in
set_option maxHeartbeats 8000000 in
theorem new_inv (w : World) (news : Led) (v : Value) (t : Tok) :
    CallL w 306 [.str (Str.ofString "a text") t, v] [] news (fun K => ∀ x tt dx u, (∀ p ∈ news, p.1 < x) → @LT.lt Nat _ x dx → K ((dx, dictOf [⟨PyData.keyHash w.params (Str.ofString "_document"), .str (Str.ofString "_document") u, v⟩] 1) :: (x, exObjD tt dx) :: news) (.ref x)) := by
  w_top off
  unfold CallL
  k_fill
  intro mean mg mb dp un gd cn cs a ccd cl A₀ h₀ L m s Q E B F X N T hk hd hu hret
  obtain ⟨hh, gg, dd, tk, os⟩ := s
  refine wpAny_call (exc_make (X.keeps F.keep) (by size_fits) ?_)
  have F1 : Fr h₀ L (hh.push { cls := .type "tuple", data := .seq [Value.str (Str.ofString "a text") t, v].toArray }) m := F.push _
  have N1 := N.push F { cls := .type "tuple", data := .seq [Value.str (Str.ofString "a text") t, v].toArray }
  have l1 : ∀ p ∈ news, p.1 < hh.objs.size := fun p hp => Heap.lt_size (N p hp).1
  have F2 := F1.push (exObj hh.objs.size)
  have N2 := N1.push F1 (exObj hh.objs.size)
  rw [Heap.size_push] at N2
  clear F1 N1
  generalize hh.objs.size = t0 at F2 N2 l1 ⊢
  generalize hX : t0 + 1 = x0 at F2 N2 ⊢
  have l2 : @LT.lt Nat _ t0 x0 := hX ▸ Nat.lt_succ_self t0
  have l3 : ∀ p ∈ news, p.1 < x0 := fun p hp => Nat.lt_trans (l1 p hp) l2
  replace l3 := allLt_of l3
  clear F N
  replace l1 := allLt_of l1
  (refine' ks_code_super ?k1 ?k2 ?k3 ?k4 ?k5 ?kA ?kF ?kK ?k6 ?k7 ?k8 ?k9 ?kB ?_ ?c1 ?c2 ?c3 ?c4; (case kA => exact rfl); (case kF => exact rfl); (case kK => assumption); (case k1 => k_asm); (case k2 => k_asm); (case k3 => k_asm); (case k4 => k_asm); (case k5 => k_asm); (case k6 => k_is); (case k7 => k_is); (case k8 => ktr_room); (case k9 => first | exact binds_K (by k_in) rfl (by k_is) rfl rfl rfl | exact BindsTo.of_eq rfl); (case kB => exact locs rfl); (case c1 => decide); (case c2 => exact rfl); (case c3 => exact rfl); (case c4 => exact rfl); intro g' L' h' FG' F' N' B' X' T' l1; (try k_lt l1); (try dsimp only); (try k_lift B'); (try k_fold))
  k_steps
  all_goals (refine' hret _ _ _ _ ?a ?b _ _ ?F ?N; (case F => k_asm); (case N => exact cb_drop (by k_asm) (by kcj_all)); (case a => exact ktn_ltOf (by assumption)); (case b => first | omega | exact ltN (by omega)))
set_option maxRecDepth 100000 in
set_option maxHeartbeats 8000000 in
theorem new_inv0 (w : World) (news : Led) (t : Tok) :
    CallL w 306 [.str (Str.ofString "a text") t] [] news (fun K => ∀ x tt dx u, (∀ p ∈ news, p.1 < x) → @LT.lt Nat _ x dx → K ((dx, dictOf [⟨PyData.keyHash w.params (Str.ofString "_document"), .str (Str.ofString "_document") u, .none⟩] 1) :: (x, exObjD tt dx) :: news) (.ref x)) := by
  w_top off
  unfold CallL
  k_fill
  intro mean mg mb dp un gd cn cs a ccd cl A₀ h₀ L m s Q E B F X N T hk hd hu hret
  obtain ⟨hh, gg, dd, tk, os⟩ := s
  refine wpAny_call (exc_make (X.keeps F.keep) (by size_fits) ?_)
  have F1 : Fr h₀ L (hh.push { cls := .type "tuple", data := .seq [Value.str (Str.ofString "a text") t].toArray }) m := F.push _
  have N1 := N.push F { cls := .type "tuple", data := .seq [Value.str (Str.ofString "a text") t].toArray }
  have l1 : ∀ p ∈ news, p.1 < hh.objs.size := fun p hp => Heap.lt_size (N p hp).1
  have F2 := F1.push (exObj hh.objs.size)
  have N2 := N1.push F1 (exObj hh.objs.size)
  rw [Heap.size_push] at N2
  clear F1 N1
  generalize hh.objs.size = t0 at F2 N2 l1 ⊢
  generalize hX : t0 + 1 = x0 at F2 N2 ⊢
  have l2 : @LT.lt Nat _ t0 x0 := hX ▸ Nat.lt_succ_self t0
  have l3 : ∀ p ∈ news, p.1 < x0 := fun p hp => Nat.lt_trans (l1 p hp) l2
  replace l3 := allLt_of l3
  clear F N
  replace l1 := allLt_of l1
  (refine' ks_code_super ?k1 ?k2 ?k3 ?k4 ?k5 ?kA ?kF ?kK ?k6 ?k7 ?k8 ?k9 ?kB ?_ ?c1 ?c2 ?c3 ?c4; (case kA => exact rfl); (case kF => exact rfl); (case kK => assumption); (case k1 => k_asm); (case k2 => k_asm); (case k3 => k_asm); (case k4 => k_asm); (case k5 => k_asm); (case k6 => k_is); (case k7 => k_is); (case k8 => ktr_room); (case k9 => first | exact binds_K (by k_in) rfl (by k_is) rfl rfl rfl | exact BindsTo.of_eq rfl); (case kB => exact locs rfl); (case c1 => decide); (case c2 => exact rfl); (case c3 => exact rfl); (case c4 => exact rfl); intro g' L' h' FG' F' N' B' X' T' l1; (try k_lt l1); (try dsimp only); (try k_lift B'); (try k_fold))
  k_steps
  all_goals (refine' hret _ _ _ _ ?a ?b _ _ ?F ?N; (case F => k_asm); (case N => exact cb_drop (by k_asm) (by kcj_all)); (case a => exact ktn_ltOf (by assumption)); (case b => first | omega | exact ltN (by omega)))
end Mine

end
-- E6
section
open PySem PySem.Calls PySem.W PyProof.Rows PyProof.V PySem.Spec
open PySem.Builtin PySem.Builtin.ObjectAttr
set_option maxRecDepth 100000
set_option maxHeartbeats 1000000
namespace Mine
section
variable {w : World} {A : Around} {E : Value → Shared → Prop} {s : Shared}
theorem ex_open {x : Addr} {ox : Obj} {od : Option Obj} {name : PySem.Str} {expr : Bool} {Q : Value → Shared → Prop} (X : (hd.heap_39 w.params).In s.heap) (I : InstAt s.heap x ox 306 od)
    (h : wpAny (model PySem.Challenge.rw_jh0019_01.row.prog w) A.in1 (Builtin.«object.__getattribute__» ⟨[.ref x, .str name s.toks], []⟩) (fun fin s' => ∃ v, fin = .done (.ret v) ∧ wpAny (model PySem.Challenge.rw_jh0019_01.row.prog w) A (handedOut v) Q E s') (fun _ _ => False) { s with toks := s.toks + 1 }) :
    wpAny (model PySem.Challenge.rw_jh0019_01.row.prog w) A (getAttr (.ref x) name expr) Q E s := by
  have FB := PySem.F.attrBase_Exception
  obtain ⟨hh, g, d, t, os⟩ := s
  have L0 := I.type (M := model PySem.Challenge.rw_jh0019_01.row.prog w)
  have L1 : Looks (model PySem.Challenge.rw_jh0019_01.row.prog w) hh (typeLookup (.ref 306) "__getattribute__") (some (.builtin "BaseException.__getattribute__")) := looks_findIn X (by kernel_rfl)
  have L2 : Looks (model PySem.Challenge.rw_jh0019_01.row.prog w) hh (typeLookup (.ref 306) "__getattr__") none := looks_findIn X (by kernel_rfl)
  have hx2 : (Value.builtin "BaseException.__getattribute__" == Value.builtin "object.__getattribute__") = false := by decide +kernel
  have hx0 : (expr && onTheHeap (Value.builtin "BaseException.__getattribute__")) = false := by cases expr <;> rfl
  have sub : Looks (model PySem.Challenge.rw_jh0019_01.row.prog w) hh (isInstance (.ref x) (.type "BaseException")) true := L0.andThen (looks_mroIn X (by kernel_rfl))
  unfold getAttr getAttrBy
  refine wpAny_bind (wpAny_mkText (wpAny_holding (wpAny_bind (L0.at (wpAny_bind (L1.at ?_))))))
  dsimp only
  rw [hx2, Bool.and_false, if_neg Bool.false_ne_true]
  unfold getAttrByItsOwn hookBefore callGetattribute boundAndCalled
  rw [show onTheHeap (Value.ref 306) = true from rfl, if_pos rfl, hx0, if_neg Bool.false_ne_true]
  refine wpAny_bind (L2.at (wpAny_bind (wpAny_attempt (wpAny_holding ?_))))
  refine wpAny_bind (wpAny_of_eq (FB.ga.bind _) ?_)
  refine wpAny_mono (Q := fun v s' => wpAny (model PySem.Challenge.rw_jh0019_01.row.prog w) A (handedOut v) Q E s') (E := fun _ _ => False) (wpAny_call ?_) (fun v s' z => z) fun _ _ z => z.elim
  show codeAny _ _ (.call (.builtin "BaseException.__getattribute__") ⟨[.ref x, .str name t], []⟩) _ _
  refine codeAny_call_builtin FB.ga.plain PySem.F.entry_bexc_ga ?_
  have hk : builtinKind "BaseException.__getattribute__" = some .slot := by decide +kernel
  have hsp : splitId "BaseException.__getattribute__" = some ("BaseException", "__getattribute__") := by decide +kernel
  refine @check_slot (model PySem.Challenge.rw_jh0019_01.row.prog w) _ _ ⟨hh, g, d, t + 1, os⟩ "BaseException.__getattribute__" "BaseException" "__getattribute__" (.ref x) [.str name t] [] _ hk hsp sub (PySem.F.args_bexc_ga (.ref x) (.str name t)) ?_
  refine wpAny_mono h (fun fin s' z => ?_) fun _ _ z => z
  obtain ⟨v, rfl, z⟩ := z
  exact z
theorem ex_value {x : Addr} {ox : Obj} {od : Option Obj} {name : PySem.Str} {v : Value} {expr : Bool} {Q : Value → Shared → Prop} (X : (hd.heap_39 w.params).In s.heap) (I : InstAt s.heap x ox 306 od)
    (hf : findObj (hd.heap_39 w.params) 306 od name = some (.value v)) (hh : handedIn v = true) (h : ∀ tk', Q v { s with toks := tk' }) :
    wpAny (model PySem.Challenge.rw_jh0019_01.row.prog w) A (getAttr (.ref x) name expr) Q E s := by
  refine ex_open X I ?_
  obtain ⟨hp, g, d, t, os⟩ := s
  have L0 := I.type (M := model PySem.Challenge.rw_jh0019_01.row.prog w)
  have L1 := looks_find (M := model PySem.Challenge.rw_jh0019_01.row.prog w) X I hf
  refine wpAny_bind (wpAny_pure (wpAny_bind (wpAny_pure (wpAny_bind (L0.at (wpAny_bind (L1.at ?_)))))))
  refine wpAny_pure ⟨v, rfl, ?_⟩
  rw [handedOut_of hh]
  exact wpAny_pure (h _)
theorem ex_prop {x p fget : Addr} {ox : Obj} {od : Option Obj} {name : PySem.Str} {rest : List Value} {expr : Bool} {Q : Value → Shared → Prop} (X : (hd.heap_39 w.params).In s.heap) (I : InstAt s.heap x ox 306 od)
    (hf : findObj (hd.heap_39 w.params) 306 od name = some (.bind (.builtin "property.__get__") (.ref p))) (hp : recIn (hd.heap_39 w.params) p "property" = some (.ref fget :: rest))
    (h : codeAny (model PySem.Challenge.rw_jh0019_01.row.prog w) A.in1 (.call (.ref fget) ⟨[.ref x], []⟩) (fun r s' => match r with | .ok (.ret v) => wpAny (model PySem.Challenge.rw_jh0019_01.row.prog w) A (handedOut v) Q E s' | _ => False) { s with toks := s.toks + 1 }) :
    wpAny (model PySem.Challenge.rw_jh0019_01.row.prog w) A (getAttr (.ref x) name expr) Q E s := by
  refine ex_open X I ?_
  obtain ⟨hh, g, d, t, os⟩ := s
  have L0 := I.type (M := model PySem.Challenge.rw_jh0019_01.row.prog w)
  have L1 := looks_find (M := model PySem.Challenge.rw_jh0019_01.row.prog w) X I hf
  refine wpAny_bind (wpAny_pure (wpAny_bind (wpAny_pure (wpAny_bind (L0.at (wpAny_bind (L1.at ?_)))))))
  show wpAny _ _ (holding [.ref p] (call (.builtin "property.__get__") [.ref p, .ref x, .ref 306]) >>= ret) _ _ _
  refine wpAny_bind (wpAny_holding (wpAny_call (prop_get (s := ⟨hh, g, d, t + 1, os⟩) X hp (codeAny_mono h fun r s' z => ?_))))
  rcases r with e | (v | _ | _ | _)
  all_goals (dsimp only at z ⊢)
  all_goals first | exact False.elim z | exact wpAny_pure ⟨_, rfl, z⟩
end
end Mine

end
-- E7
section
open PySem PySem.Calls PySem.W PyProof.Rows PyProof.V PySem.Spec
set_option maxRecDepth 100000
namespace Mine
section
variable {w : World} {A : Around} {E : Value → Shared → Prop} {s : Shared} {h₀ : Heap} {L : Addr} {m : Map} {news : Led}
theorem doc_get {x tt dx : Addr} {u : Tok} {v : Value} {expr : Bool} {Q : Value → Shared → Prop} (F : Fr h₀ L s.heap m) (X₀ : (hd.heap_39 w.params).In h₀) (N : News h₀ L s.heap news) (h1 : (x, exObjD tt dx) ∈ news) (h2 : (dx, dictOf [⟨PyData.keyHash w.params (Str.ofString "_document"), .str (Str.ofString "_document") u, v⟩] 1) ∈ news) (hv : handedIn v = true)
    (h : ∀ tk', Q v { s with toks := tk' }) : wpAny (model PySem.Challenge.rw_jh0019_01.row.prog w) A (getAttr (.ref x) (Str.ofString "_document") expr) Q E s :=
  ex_value (X₀.keeps F.keep) (inst_exD N h1 h2) (findObj_own (attr := none) (by kernel_rfl) (by kernel_rfl) rfl (by rw [lookIn_dict]; rfl)) hv h
theorem doc_prop {x tt dx : Addr} {od : Obj} {expr : Bool} {Q : Value → Shared → Prop} (F : Fr h₀ L s.heap m) (X₀ : (hd.heap_39 w.params).In h₀) (N : News h₀ L s.heap news) (h1 : (x, exObjD tt dx) ∈ news) (h2 : (dx, od) ∈ news)
    (h : codeAny (model PySem.Challenge.rw_jh0019_01.row.prog w) A.in1 (.call (.ref 302) ⟨[.ref x], []⟩) (fun r s' => match r with | .ok (.ret v) => wpAny (model PySem.Challenge.rw_jh0019_01.row.prog w) A (handedOut v) Q E s' | .ok _ => False | .error _ => False) { s with toks := s.toks + 1 }) :
    wpAny (model PySem.Challenge.rw_jh0019_01.row.prog w) A (getAttr (.ref x) (Str.ofString "document") expr) Q E s :=
  by
  have hp0 : ((recIn (hd.heap_39 w.params) 303 "property").bind fun l => l[0]?) = some (.ref 302) := by kernel_rfl
  obtain ⟨rest, hp⟩ : ∃ rest, recIn (hd.heap_39 w.params) 303 "property" = some (.ref 302 :: rest) := by
    generalize recIn (hd.heap_39 w.params) 303 "property" = q at hp0
    rcases q with _ | (_ | ⟨a, rest⟩)
    · cases hp0
    · cases hp0
    · cases hp0; exact ⟨rest, rfl⟩
  exact ex_prop (p := 303) (X₀.keeps F.keep) (inst_exD N h1 h2) (findObj_data (by kernel_rfl) (by kernel_rfl) (by kernel_rfl) (by kernel_rfl)) hp (codeAny_mono h fun r s' z => by
    rcases r with e | (v | _ | _ | _) <;> exact z)
end
end Mine

end
-- L0
section
local macro_rules | `(tactic| walk_at "pad") => `(tactic| skip)
local macro_rules | `(tactic| walk_at "pad") => `(tactic| skip)
local macro_rules | `(tactic| walk_at "pad") => `(tactic| skip)
local macro_rules | `(tactic| walk_at "pad") => `(tactic| skip)
local macro_rules | `(tactic| walk_at "pad") => `(tactic| skip)
local macro_rules | `(tactic| walk_at "pad") => `(tactic| skip)
local macro_rules | `(tactic| walk_at "pad") => `(tactic| skip)
local macro_rules | `(tactic| walk_at "pad") => `(tactic| skip)
local macro_rules | `(tactic| walk_at "pad") => `(tactic| skip)
local macro_rules | `(tactic| walk_at "pad") => `(tactic| skip)
local macro_rules | `(tactic| walk_at "pad") => `(tactic| skip)
local macro_rules | `(tactic| walk_at "pad") => `(tactic| skip)
theorem Mine.padL0 : (1 : Nat) = 1 := by
  w_top off
  first | (walk1; done) | rfl
end
section
open PySem PySem.Calls PySem.W PyProof.Rows PyProof.V PySem.Spec
namespace Mine
def Pre0 (w : World) : Prop := ∀ (h₀ : Heap) (L : Addr) (o1 o2 : Obj) (m : Map) (sa : Addr) (vs : List Value) (ns0 : List Int), o1.data = Data.cell none → o2.data = Data.cell none → h₀.IsList sa vs.toArray → IntsAre vs ns0 → ns0.length ≤ 63 → m (Str.ofString "script") = some (.ref sa) → LRestP w 0 h₀ L m [(L + 1 + 1, o1), (L + 1, o2)]
set_option maxRecDepth 100000 in
set_option maxHeartbeats 8000000 in
theorem step0 (w : World) (H : Pre1 w) : Pre0 w := by
  unfold Pre0
  intro h₀ L o1 o2 m sa vs ns0 co1 co2 hl0 hi0 hlen me0
  refine LStepP.rest (st := ?st) (sc := ?sc) ?ea ?eb ?_
  case ea => exact rfl
  case eb => exact rfl
  unfold LStepP
  k_fill
  intro mean mg mb a cd s K B F X N T hK
  refine wpP_of ?_
  k_steps
  · (refine' hK _ _ _ _ ?F ?N (H h₀ L o1 o2 _ _ _ (List.map (fun k' => k') (List.take 16 ns0)) _ co1 co2 ?i ?l1 ?l2 ?d ?e); (case F => k_asm); (case e => exact rfl); (case N => first | exact cb_drop (by k_asm) (by kcj_all) | (refine cb_drop (by k_asm) ?_; exact List.forall_mem_cons.mpr ⟨.head _, List.forall_mem_cons.mpr ⟨.tail _ (.tail _ (.head _)), List.forall_mem_cons.mpr ⟨.tail _ (.tail _ (.tail _ (.head _))), List.forall_mem_nil _⟩⟩⟩)); (case i => assumption); (case l1 => simp only [List.length_map, List.length_take]; omega); (case l2 => simp only [List.length_map, List.length_take]; omega); (case d => first | omega | exact ⟨neN (by omega), neN (by omega)⟩))
  · (refine' hK _ _ _ _ ?F ?N (H h₀ L o1 o2 _ _ _ [5] _ co1 co2 ?i ?l1 ?l2 ?d ?e); (case F => k_asm); (case e => exact rfl); (case N => first | exact cb_drop (by k_asm) (by kcj_all) | (refine cb_drop (by k_asm) ?_; exact List.forall_mem_cons.mpr ⟨.head _, List.forall_mem_cons.mpr ⟨.tail _ (.tail _ (.head _)), List.forall_mem_cons.mpr ⟨.tail _ (.tail _ (.tail _ (.head _))), List.forall_mem_nil _⟩⟩⟩)); (case i => exact .cons _ _ .nil); (case l1 => decide); (case l2 => decide); (case d => first | omega | exact ⟨neN (by omega), neN (by omega)⟩))
end Mine

end
-- L1
section
local macro_rules | `(tactic| walk_at "pad") => `(tactic| skip)
local macro_rules | `(tactic| walk_at "pad") => `(tactic| skip)
local macro_rules | `(tactic| walk_at "pad") => `(tactic| skip)
local macro_rules | `(tactic| walk_at "pad") => `(tactic| skip)
local macro_rules | `(tactic| walk_at "pad") => `(tactic| skip)
local macro_rules | `(tactic| walk_at "pad") => `(tactic| skip)
local macro_rules | `(tactic| walk_at "pad") => `(tactic| skip)
local macro_rules | `(tactic| walk_at "pad") => `(tactic| skip)
local macro_rules | `(tactic| walk_at "pad") => `(tactic| skip)
local macro_rules | `(tactic| walk_at "pad") => `(tactic| skip)
local macro_rules | `(tactic| walk_at "pad") => `(tactic| skip)
local macro_rules | `(tactic| walk_at "pad") => `(tactic| skip)
theorem Mine.padL1 : (1 : Nat) = 1 := by
  w_top off
  first | (walk1; done) | rfl
end
section
open PySem PySem.Calls PySem.W PyProof.Rows PyProof.V PySem.Spec
namespace Mine
set_option maxRecDepth 100000 in
set_option maxHeartbeats 8000000 in
theorem step1 (w : World) (H : Pre2 w) : Pre1 w := by
  unfold Pre1
  intro h₀ L o1 o2 m Dn yn nn cc co1 co2 hf0 hf1 hf2 hf3 me0
  refine LStepP.rest (st := ?st) (sc := ?sc) ?ea ?eb ?_
  case ea => exact rfl
  case eb => exact rfl
  unfold LStepP
  k_fill
  intro mean mg mb a cd s K B F X N T hK
  refine wpP_of ?_
  k_steps
  all_goals (refine' hK _ _ _ _ ?F ?N (H h₀ L o1 o2 _ Dn yn nn cc _ _ _ _ ?f0 ?f1 ?f2 ?f3 ?f4 ?f5 ?e0 ?e1 ?e2); (case F => k_asm); (case e0 => first | exact rfl | assumption); (case e1 => first | exact rfl | assumption); (case e2 => first | exact rfl | assumption); (case N => exact cb_drop (by k_asm) (by kcj_all)); (case f0 => first | assumption | omega | exact ltN (by omega) | omega); (case f1 => first | assumption | omega | exact ltN (by omega) | omega); (case f2 => first | assumption | omega | exact ltN (by omega) | omega); (case f3 => first | assumption | omega | exact ltN (by omega) | omega); (case f4 => first | assumption | omega | exact ltN (by omega) | omega); (case f5 => first | assumption | omega | exact ltN (by omega) | omega))
end Mine

end
-- L2
section
local macro_rules | `(tactic| walk_at "pad") => `(tactic| skip)
local macro_rules | `(tactic| walk_at "pad") => `(tactic| skip)
local macro_rules | `(tactic| walk_at "pad") => `(tactic| skip)
local macro_rules | `(tactic| walk_at "pad") => `(tactic| skip)
local macro_rules | `(tactic| walk_at "pad") => `(tactic| skip)
local macro_rules | `(tactic| walk_at "pad") => `(tactic| skip)
local macro_rules | `(tactic| walk_at "pad") => `(tactic| skip)
local macro_rules | `(tactic| walk_at "pad") => `(tactic| skip)
local macro_rules | `(tactic| walk_at "pad") => `(tactic| skip)
local macro_rules | `(tactic| walk_at "pad") => `(tactic| skip)
local macro_rules | `(tactic| walk_at "pad") => `(tactic| skip)
local macro_rules | `(tactic| walk_at "pad") => `(tactic| skip)
theorem Mine.padL2 : (1 : Nat) = 1 := by
  w_top off
  first | (walk1; done) | rfl
end
section
open PySem PySem.Calls PySem.W PyProof.Rows PyProof.V PySem.Spec
namespace Mine
set_option maxRecDepth 100000 in
set_option maxHeartbeats 8000000 in
theorem step2 (w : World) (H : Pre3 w) : Pre2 w := by
  unfold Pre2
  intro h₀ L o1 o2 m Dn yn nn cc n_ m_ tn tm co1 co2 hf0 hf1 hf2 hf3 me0 me1 me2
  refine LStepP.rest (st := ?st) (sc := ?sc) ?ea ?eb ?_
  case ea => exact rfl
  case eb => exact rfl
  unfold LStepP
  k_fill
  intro mean mg mb a cd s K B F X N T hK
  refine wpP_of ?_
  k_steps
  all_goals (refine' hK _ _ _ _ ?F ?N (H h₀ L o1 o2 _ Dn yn nn cc n_ m_ tn tm _ _ ?f0 ?f1 ?f2 ?f3 ?f4 ?f5 ?f6 ?e0 ?e1 ?e2 ?e3); (case F => k_asm); (case e0 => first | exact rfl | assumption); (case e1 => first | exact rfl | assumption); (case e2 => first | exact rfl | assumption); (case e3 => first | exact rfl | assumption); (case N => exact cb_drop (by k_asm) (by kcj_all)); (case f0 => first | assumption | omega | exact ltN (by omega) | omega | (simp [byteArr]; omega)); (case f1 => first | assumption | omega | exact ltN (by omega) | omega | (simp [byteArr]; omega)); (case f2 => first | assumption | omega | exact ltN (by omega) | omega | (simp [byteArr]; omega)); (case f3 => first | assumption | omega | exact ltN (by omega) | omega | (simp [byteArr]; omega)); (case f4 => first | assumption | omega | exact ltN (by omega) | omega | (simp [byteArr]; omega)); (case f5 => first | assumption | omega | exact ltN (by omega) | omega | (simp [byteArr]; omega)); (case f6 => first | assumption | omega | exact ltN (by omega) | omega | (simp [byteArr]; omega)))
end Mine

end
-- L3
section
local macro_rules | `(tactic| walk_at "pad") => `(tactic| skip)
local macro_rules | `(tactic| walk_at "pad") => `(tactic| skip)
local macro_rules | `(tactic| walk_at "pad") => `(tactic| skip)
local macro_rules | `(tactic| walk_at "pad") => `(tactic| skip)
local macro_rules | `(tactic| walk_at "pad") => `(tactic| skip)
local macro_rules | `(tactic| walk_at "pad") => `(tactic| skip)
local macro_rules | `(tactic| walk_at "pad") => `(tactic| skip)
local macro_rules | `(tactic| walk_at "pad") => `(tactic| skip)
local macro_rules | `(tactic| walk_at "pad") => `(tactic| skip)
local macro_rules | `(tactic| walk_at "pad") => `(tactic| skip)
local macro_rules | `(tactic| walk_at "pad") => `(tactic| skip)
local macro_rules | `(tactic| walk_at "pad") => `(tactic| skip)
theorem Mine.padL3 : (1 : Nat) = 1 := by
  w_top off
  first | (walk1; done) | rfl
end
section
open PySem PySem.Calls PySem.W PyProof.Rows PyProof.V PySem.Spec
namespace Mine
set_option maxRecDepth 100000 in
set_option maxHeartbeats 8000000 in
theorem step3 (w : World) (H : Pre4 w) : Pre3 w := by
  unfold Pre3
  intro h₀ L o1 o2 m Dn yn nn cc n_ m_ tn tm row tr co1 co2 hf0 hf1 hf2 hf3 hf4 me0 me1 me2 me3
  refine LStepP.rest (st := ?st) (sc := ?sc) ?ea ?eb ?_
  case ea => exact rfl
  case eb => exact rfl
  unfold LStepP
  k_fill
  intro mean mg mb a cd s K B F X N T hK
  refine wpP_of ?_
  k_steps
  all_goals (refine' hK _ _ _ _ ?F ?N (H h₀ L o1 o2 _ Dn yn nn cc n_ m_ tn tm row tr _ _ ?f0 ?f1 ?f2 ?f3 ?f4 ?f5 ?f6 ?e0 ?e1 ?e2 ?e3 ?e4); (case F => k_asm); (case e0 => first | exact rfl | assumption); (case e1 => first | exact rfl | assumption); (case e2 => first | exact rfl | assumption); (case e3 => first | exact rfl | assumption); (case e4 => first | exact rfl | assumption); (case N => exact cb_drop (by k_asm) (by kcj_all)); (case f0 => first | assumption | omega | exact ltN (by omega) | omega); (case f1 => first | assumption | omega | exact ltN (by omega) | omega); (case f2 => first | assumption | omega | exact ltN (by omega) | omega); (case f3 => first | assumption | omega | exact ltN (by omega) | omega); (case f4 => first | assumption | omega | exact ltN (by omega) | omega); (case f5 => first | assumption | omega | exact ltN (by omega) | omega); (case f6 => first | assumption | omega | exact ltN (by omega) | omega))
end Mine

end
-- L4
section
local macro_rules | `(tactic| walk_at "pad") => `(tactic| skip)
local macro_rules | `(tactic| walk_at "pad") => `(tactic| skip)
local macro_rules | `(tactic| walk_at "pad") => `(tactic| skip)
local macro_rules | `(tactic| walk_at "pad") => `(tactic| skip)
local macro_rules | `(tactic| walk_at "pad") => `(tactic| skip)
local macro_rules | `(tactic| walk_at "pad") => `(tactic| skip)
local macro_rules | `(tactic| walk_at "pad") => `(tactic| skip)
local macro_rules | `(tactic| walk_at "pad") => `(tactic| skip)
local macro_rules | `(tactic| walk_at "pad") => `(tactic| skip)
local macro_rules | `(tactic| walk_at "pad") => `(tactic| skip)
local macro_rules | `(tactic| walk_at "pad") => `(tactic| skip)
local macro_rules | `(tactic| walk_at "pad") => `(tactic| skip)
theorem Mine.padL4 : (1 : Nat) = 1 := by
  w_top off
  first | (walk1; done) | rfl
end
section
open PySem PySem.Calls PySem.W PyProof.Rows PyProof.V PySem.Spec
namespace Mine
local macro_rules | `(tactic| walk_at "call ref") => `(tactic| (k_here; (with_reducible show wpAny _ _ (call (Value.ref _) [Value.str _ _, Value.bytes _ _, Value.int _ _] []) _ _ _); k_dflt (refine' use_L (made_binary_lo _ _ _ _ _ _ _ ?g0) ?B ?F ?X ?N ?T ?k ?d ?u ?_; (case g0 => first | assumption | omega | decide); (case B => k_asm); (case F => k_asm); (case X => k_asm); (case N => k_asm); (case T => k_asm); (case k => first | exact rfl | assumption); (case d => ktr_room); (case u => k_units); k_whole); intro t' h' tk' F' N'; (try dsimp only); (try k_sweep)))
local macro_rules | `(tactic| walk_at "call ref") => `(tactic| (k_here; (with_reducible show wpAny _ _ (call (Value.ref _) [Value.str _ _, Value.bytes _ _, Value.int _ _] []) _ _ _); k_dflt (refine' use_L (made_binary_hi _ _ _ _ _ _ _ ?g0) ?B ?F ?X ?N ?T ?k ?d ?u ?_; (case g0 => first | assumption | omega | decide); (case B => k_asm); (case F => k_asm); (case X => k_asm); (case N => k_asm); (case T => k_asm); (case k => first | exact rfl | assumption); (case d => ktr_room); (case u => k_units); k_whole); intro t' h' tk' F' N'; (try dsimp only); (try k_sweep)))
local macro_rules | `(tactic| walk_at "call ref") => `(tactic| (k_here; (with_reducible show wpAny _ _ (call (Value.ref _) [Value.str _ _, Value.bytes _ _, Value.int _ _] []) _ _ _); k_dflt (refine' use_L (made_binary _ _ _ _ _ _ _ ?g0 ?g1) ?B ?F ?X ?N ?T ?k ?d ?u ?_; (case g0 => first | assumption | omega | decide); (case g1 => first | assumption | omega | decide); (case B => k_asm); (case F => k_asm); (case X => k_asm); (case N => k_asm); (case T => k_asm); (case k => first | exact rfl | assumption); (case d => ktr_room); (case u => k_units); k_whole); intro a' t3' t4' l1' h' tk' F' N'; (try dsimp only); (try k_sweep); (try k_lt l1')))
local macro_rules | `(tactic| walk_at "call ref") => `(tactic| (k_here; (with_reducible show wpAny _ _ (call (Value.ref _) [Value.str _ _, Value.bytes _ _, Value.str _ _] []) _ _ _); k_dflt (refine' use_L (made_binary_kind _ _ _ _ _ _) ?B ?F ?X ?N ?T ?k ?d ?u ?_; (case B => k_asm); (case F => k_asm); (case X => k_asm); (case N => k_asm); (case T => k_asm); (case k => first | exact rfl | assumption); (case d => ktr_room); (case u => k_units); k_whole); intro t' h' tk' F' N'; (try dsimp only); (try k_sweep)))
set_option maxRecDepth 100000 in
set_option maxHeartbeats 8000000 in
theorem step4 (w : World) (H : Pre5 w) : Pre4 w := by
  unfold Pre4
  intro h₀ L o1 o2 m Dn yn nn cc n_ m_ tn tm row tr kk tkk co1 co2 hf0 hf1 hf2 hf3 hf4 me0 me1 me2 me3 me4
  refine LStepP.rest (st := ?st) (sc := ?sc) ?ea ?eb ?_
  case ea => exact rfl
  case eb => exact rfl
  unfold LStepP
  k_fill
  intro mean mg mb a cd s K B F X N T hK
  refine if_P ?_
  refine or_cut (fun K => ∀ h' tk', Fr h₀ L h' m → News h₀ L h' [(Dn, W.listOf yn.toArray cc), (L + 1 + 1, o1), (L + 1, o2)] → K { s with heap := h', toks := tk' }) (fun K' hK' => ?_) ?_
  · rcases Int.lt_or_le kk 0 with hk0 | hk0
    · k_steps
      all_goals (rw [bne_self_eq_false]; refine' hK' _ _ ?F ?N; (case F => k_asm); (case N => exact cb_drop (by k_asm) (by kcj_all)))
    · rcases Int.lt_or_le kk 256 with hk1 | hk1
      · k_steps
        all_goals (refine' hK' _ _ ?F ?N; (case F => k_asm); (case N => exact cb_drop (by k_asm) (by kcj_all)))
      · k_steps
        all_goals (rw [bne_self_eq_false]; refine' hK' _ _ ?F ?N; (case F => k_asm); (case N => exact cb_drop (by k_asm) (by kcj_all)))
  clear F N
  intro h5 tk5 F N
  refine or_cut (fun K => ∀ h' tk', Fr h₀ L h' m → News h₀ L h' [(Dn, W.listOf yn.toArray cc), (L + 1 + 1, o1), (L + 1, o2)] → K { s with heap := h', toks := tk' }) (fun K' hK' => ?_) ?_
  · k_steps
    all_goals (rw [bne_self_eq_false]; refine' hK' _ _ ?F ?N; (case F => k_asm); (case N => exact cb_drop (by k_asm) (by kcj_all)))
  clear F N
  intro h5 tk5 F N
  refine or_cut (fun K => ∀ h' tk', Fr h₀ L h' m → News h₀ L h' [(Dn, W.listOf yn.toArray cc), (L + 1 + 1, o1), (L + 1, o2)] → K { s with heap := h', toks := tk' }) (fun K' hK' => ?_) ?_
  · k_steps
    all_goals (rw [show ((0 : Int) != 0) = false from rfl]; refine' hK' _ _ ?F ?N; (case F => k_asm); (case N => exact cb_drop (by k_asm) (by kcj_all)))
  clear F N
  intro h5 tk5 F N
  refine orLast_P (cmp_P (attr_P (call_P ?_)))
  k_steps
  refine callK_P (K := Mine.hd.heap_39 w.params) (by k_is) ?_
  refine call_P ?_
  k_dflt (refine' nameX_B ?F ?X ?T ?e boot_ba ?n ?_ ?a ?b; (case F => k_asm); (case X => k_asm); (case T => k_asm); (case a => rfl); (case b => rfl); (case e => k_is); (case n => decide))
  refine callT_P ?_
  k_steps
  refine call_ba_P rfl (by rw [sizeLine_eq]; omega) fun hB hkeep hget => ?_
  have F' := F.keeps hkeep
  have N' := news_pushed F N hkeep hget rfl
  k_steps
  all_goals (refine' hK _ _ _ _ ?F ?N (LRest.toP (H h₀ L o1 o2 _ Dn yn nn cc n_ m_ tn tm row tr ?f0 ?f1 ?f2 ?f3 ?f4 ?f5 ?f6 ?e0 ?e1 ?e2 ?e3)); (case F => k_asm); (case e0 => first | exact rfl | assumption); (case e1 => first | exact rfl | assumption); (case e2 => first | exact rfl | assumption); (case e3 => first | exact rfl | assumption); (case N => exact cb_drop (by k_asm) (by kcj_all)); (case f0 => first | assumption | omega | exact ltN (by omega) | omega); (case f1 => first | assumption | omega | exact ltN (by omega) | omega); (case f2 => first | assumption | omega | exact ltN (by omega) | omega); (case f3 => first | assumption | omega | exact ltN (by omega) | omega); (case f4 => first | assumption | omega | exact ltN (by omega) | omega); (case f5 => first | assumption | omega | exact ltN (by omega) | omega); (case f6 => first | assumption | omega | exact ltN (by omega) | omega))
end Mine

end
-- L5
section
local macro_rules | `(tactic| walk_at "pad") => `(tactic| skip)
local macro_rules | `(tactic| walk_at "pad") => `(tactic| skip)
local macro_rules | `(tactic| walk_at "pad") => `(tactic| skip)
local macro_rules | `(tactic| walk_at "pad") => `(tactic| skip)
local macro_rules | `(tactic| walk_at "pad") => `(tactic| skip)
local macro_rules | `(tactic| walk_at "pad") => `(tactic| skip)
local macro_rules | `(tactic| walk_at "pad") => `(tactic| skip)
local macro_rules | `(tactic| walk_at "pad") => `(tactic| skip)
local macro_rules | `(tactic| walk_at "pad") => `(tactic| skip)
local macro_rules | `(tactic| walk_at "pad") => `(tactic| skip)
local macro_rules | `(tactic| walk_at "pad") => `(tactic| skip)
local macro_rules | `(tactic| walk_at "pad") => `(tactic| skip)
theorem Mine.padL5 : (1 : Nat) = 1 := by
  w_top off
  first | (walk1; done) | rfl
end
section
open PySem PySem.Calls PySem.W PyProof.Rows PyProof.V PySem.Spec
namespace Mine
local macro_rules | `(tactic| walk_at "call ref") => `(tactic| (k_here; (with_reducible show wpAny _ _ (call (Value.ref _) [Value.bytes _ _, Value.int _ _] []) _ _ _); k_dflt (refine' use_C (new_binary _ _ _ _ _ _ ?g0 ?g1) ?B ?F ?X ?N ?T ?k ?d ?u ?_; (case g0 => first | assumption | omega | decide); (case g1 => first | assumption | omega | decide); (case B => k_asm); (case F => k_asm); (case X => k_asm); (case N => k_asm); (case T => k_asm); (case k => first | exact rfl | assumption); (case d => ktr_room); (case u => k_units); k_whole); intro x' d' u1' u2' u3' u4' l1' l2' h' tk' F' N'; (try dsimp only); (try k_sweep); (try k_lt l1')))
local macro_rules | `(tactic| walk_at "call ref") => `(tactic| (k_here; (with_reducible show wpAny _ _ (call (Value.ref _) [Value.int _ _] []) _ _ _); k_dflt (refine' use_C (new_int64 _ _ _ _) ?B ?F ?X ?N ?T ?k ?d ?u ?_; (case B => k_asm); (case F => k_asm); (case X => k_asm); (case N => k_asm); (case T => k_asm); (case k => first | exact rfl | assumption); (case d => ktr_room); (case u => k_units); k_whole); intro x' d' u1' u2' l1' l2' h' tk' F' N'; (try dsimp only); (try k_sweep); (try k_lt l1')))
set_option maxRecDepth 100000 in
set_option maxHeartbeats 8000000 in
theorem step5 (w : World) (H : Pre6 w) : Pre5 w := by
  unfold Pre5
  intro h₀ L o1 o2 m Dn yn nn cc n_ m_ tn tm row tr co1 co2 hf0 hf1 hf2 hf3 hf4 me0 me1 me2 me3
  refine LStep.rest (st := ?st) (sc := ?sc) ?ea ?eb ?_
  case ea => exact rfl
  case eb => exact rfl
  unfold LStep
  k_fill
  intro mean mg mb a cd s K B F X N T hK
  k_steps
  all_goals (refine' hK _ _ _ _ ?F ?N (H h₀ L o1 o2 _ Dn yn nn cc n_ m_ tn tm row tr ?f0 ?f1 ?f2 ?f3 ?f4 ?f5 ?f6 ?e0 ?e1 ?e2 ?e3); (case F => k_asm); (case e0 => first | exact rfl | assumption); (case e1 => first | exact rfl | assumption); (case e2 => first | exact rfl | assumption); (case e3 => first | exact rfl | assumption); (case N => exact cb_drop (by k_asm) (by kcj_all)); (case f0 => first | assumption | omega | exact ltN (by omega) | omega); (case f1 => first | assumption | omega | exact ltN (by omega) | omega); (case f2 => first | assumption | omega | exact ltN (by omega) | omega); (case f3 => first | assumption | omega | exact ltN (by omega) | omega); (case f4 => first | assumption | omega | exact ltN (by omega) | omega); (case f5 => first | assumption | omega | exact ltN (by omega) | omega); (case f6 => first | assumption | omega | exact ltN (by omega) | omega))
end Mine

end
-- L6
section
local macro_rules | `(tactic| walk_at "pad") => `(tactic| skip)
local macro_rules | `(tactic| walk_at "pad") => `(tactic| skip)
local macro_rules | `(tactic| walk_at "pad") => `(tactic| skip)
local macro_rules | `(tactic| walk_at "pad") => `(tactic| skip)
local macro_rules | `(tactic| walk_at "pad") => `(tactic| skip)
local macro_rules | `(tactic| walk_at "pad") => `(tactic| skip)
local macro_rules | `(tactic| walk_at "pad") => `(tactic| skip)
local macro_rules | `(tactic| walk_at "pad") => `(tactic| skip)
local macro_rules | `(tactic| walk_at "pad") => `(tactic| skip)
local macro_rules | `(tactic| walk_at "pad") => `(tactic| skip)
local macro_rules | `(tactic| walk_at "pad") => `(tactic| skip)
local macro_rules | `(tactic| walk_at "pad") => `(tactic| skip)
theorem Mine.padL6 : (1 : Nat) = 1 := by
  w_top off
  first | (walk1; done) | rfl
end
section
open PySem PySem.Calls PySem.W PyProof.Rows PyProof.V PySem.Spec
namespace Mine
set_option maxRecDepth 100000 in
set_option maxHeartbeats 8000000 in
theorem step6 (w : World) (H : Pre7 w) : Pre6 w := by
  unfold Pre6
  intro h₀ L o1 o2 m Dn yn nn cc n_ m_ tn tm row tr co1 co2 hf0 hf1 hf2 hf3 hf4 me0 me1 me2 me3
  refine LStep.rest (st := ?st) (sc := ?sc) ?ea ?eb ?_
  case ea => exact rfl
  case eb => exact rfl
  unfold LStep
  k_fill
  intro mean mg mb a cd s K B F X N T hK
  k_steps
  all_goals (refine' hK _ _ _ _ ?F ?N (H h₀ L o1 o2 _ Dn yn nn cc n_ m_ tn tm row tr _ _ ?f0 ?f1 ?f2 ?f3 ?f4 ?f5 ?f6 ?e0 ?e1 ?e2 ?e3 ?e4); (case F => k_asm); (case e0 => first | exact rfl | assumption); (case e1 => first | exact rfl | assumption); (case e2 => first | exact rfl | assumption); (case e3 => first | exact rfl | assumption); (case e4 => first | exact rfl | assumption); (case N => exact cb_drop (by k_asm) (by kcj_all)); (case f0 => first | assumption | omega | exact ltN (by omega) | omega); (case f1 => first | assumption | omega | exact ltN (by omega) | omega); (case f2 => first | assumption | omega | exact ltN (by omega) | omega); (case f3 => first | assumption | omega | exact ltN (by omega) | omega); (case f4 => first | assumption | omega | exact ltN (by omega) | omega); (case f5 => first | assumption | omega | exact ltN (by omega) | omega); (case f6 => first | assumption | omega | exact ltN (by omega) | omega))
end Mine

end
-- L7
section
local macro_rules | `(tactic| walk_at "pad") => `(tactic| skip)
local macro_rules | `(tactic| walk_at "pad") => `(tactic| skip)
local macro_rules | `(tactic| walk_at "pad") => `(tactic| skip)
local macro_rules | `(tactic| walk_at "pad") => `(tactic| skip)
local macro_rules | `(tactic| walk_at "pad") => `(tactic| skip)
local macro_rules | `(tactic| walk_at "pad") => `(tactic| skip)
local macro_rules | `(tactic| walk_at "pad") => `(tactic| skip)
local macro_rules | `(tactic| walk_at "pad") => `(tactic| skip)
local macro_rules | `(tactic| walk_at "pad") => `(tactic| skip)
local macro_rules | `(tactic| walk_at "pad") => `(tactic| skip)
local macro_rules | `(tactic| walk_at "pad") => `(tactic| skip)
local macro_rules | `(tactic| walk_at "pad") => `(tactic| skip)
theorem Mine.padL7 : (1 : Nat) = 1 := by
  w_top off
  first | (walk1; done) | rfl
end
section
open PySem PySem.Calls PySem.W PyProof.Rows PyProof.V PySem.Spec
namespace Mine
local macro_rules | `(tactic| walk_at "call ref") => `(tactic| (k_here; (with_reducible show wpAny _ _ (call (Value.ref _) [Value.str _ _, Value.int _ _, Value.int _ _] []) _ _ _); k_dflt (refine' use_L (made_date_under _ _ _ _ _ _ _ ?g0) ?B ?F ?X ?N ?T ?k ?d ?u ?_; (case g0 => first | assumption | omega | decide); (case B => k_asm); (case F => k_asm); (case X => k_asm); (case N => k_asm); (case T => k_asm); (case k => first | exact rfl | assumption); (case d => ktr_room); (case u => k_units); k_whole); intro t' h' tk' F' N'; (try dsimp only); (try k_sweep)))
local macro_rules | `(tactic| walk_at "call ref") => `(tactic| (k_here; (with_reducible show wpAny _ _ (call (Value.ref _) [Value.str _ _, Value.int _ _, Value.int _ _] []) _ _ _); k_dflt (refine' use_L (made_date_over _ _ _ _ _ _ _ ?g0 ?g1) ?B ?F ?X ?N ?T ?k ?d ?u ?_; (case g0 => first | assumption | omega | decide); (case g1 => first | assumption | omega | decide); (case B => k_asm); (case F => k_asm); (case X => k_asm); (case N => k_asm); (case T => k_asm); (case k => first | exact rfl | assumption); (case d => ktr_room); (case u => k_units); k_whole); intro t' h' tk' F' N'; (try dsimp only); (try k_sweep)))
local macro_rules | `(tactic| walk_at "call ref") => `(tactic| (k_here; (with_reducible show wpAny _ _ (call (Value.ref _) [Value.str _ _, Value.int _ _, Value.int _ _] []) _ _ _); k_dflt (refine' use_L (made_date_ok _ _ _ _ _ _ _ ?g0 ?g1 ?g2 ?g3 ?g4) ?B ?F ?X ?N ?T ?k ?d ?u ?_; (case g0 => first | assumption | omega | decide); (case g1 => first | assumption | omega | decide); (case g2 => first | assumption | omega | decide); (case g3 => first | assumption | omega | decide); (case g4 => first | assumption | omega | decide); (case B => k_asm); (case F => k_asm); (case X => k_asm); (case N => k_asm); (case T => k_asm); (case k => first | exact rfl | assumption); (case d => ktr_room); (case u => k_units); k_whole); intro h' tk' F' N'; (try dsimp only); (try k_sweep)))
local macro_rules | `(tactic| walk_at "call ref") => `(tactic| (k_here; (with_reducible show wpAny _ _ (call (Value.ref _) [Value.str _ _, Value.str _ _, Value.int _ _] []) _ _ _); k_dflt (refine' use_L (made_date_kind _ _ _ _ _ _) ?B ?F ?X ?N ?T ?k ?d ?u ?_; (case B => k_asm); (case F => k_asm); (case X => k_asm); (case N => k_asm); (case T => k_asm); (case k => first | exact rfl | assumption); (case d => ktr_room); (case u => k_units); k_whole); intro t' h' tk' F' N'; (try dsimp only); (try k_sweep)))
set_option maxRecDepth 100000 in
set_option maxHeartbeats 8000000 in
theorem step7 (w : World) (H : Pre8 w) : Pre7 w := by
  unfold Pre7
  intro h₀ L o1 o2 m Dn yn nn cc n_ m_ tn tm row tr vv tv co1 co2 hf0 hf1 hf2 hf3 hf4 me0 me1 me2 me3 me4
  refine LStep.rest (st := ?st) (sc := ?sc) ?ea ?eb ?_
  case ea => exact rfl
  case eb => exact rfl
  unfold LStep
  k_fill
  intro mean mg mb a cd s K B F X N T hK
  have hcases : vv < -9223372036854775808 ∨ (-9223372036854775808 ≤ vv ∧ vv ≤ 9223372036854775808 - 1) ∨ (-9223372036854775808 ≤ vv ∧ ¬ vv ≤ 9223372036854775808 - 1) := by omega
  rcases hcases with hv | ⟨hv, hv2⟩ | ⟨hv, hv2⟩
  · k_steps
    all_goals (refine' hK _ _ _ _ ?F ?N (H h₀ L o1 o2 _ Dn yn nn cc n_ m_ tn tm row tr ?f0 ?f1 ?f2 ?f3 ?f4 ?f5 ?f6 ?e0 ?e1 ?e2 ?e3); (case F => k_asm); (case e0 => first | exact rfl | assumption); (case e1 => first | exact rfl | assumption); (case e2 => first | exact rfl | assumption); (case e3 => first | exact rfl | assumption); (case N => exact cb_drop (by k_asm) (by kcj_all)); (case f0 => first | assumption | omega | exact ltN (by omega) | omega); (case f1 => first | assumption | omega | exact ltN (by omega) | omega); (case f2 => first | assumption | omega | exact ltN (by omega) | omega); (case f3 => first | assumption | omega | exact ltN (by omega) | omega); (case f4 => first | assumption | omega | exact ltN (by omega) | omega); (case f5 => first | assumption | omega | exact ltN (by omega) | omega); (case f6 => first | assumption | omega | exact ltN (by omega) | omega))
  · k_steps
    all_goals (refine' hK _ _ _ _ ?F ?N (H h₀ L o1 o2 _ Dn yn nn cc n_ m_ tn tm row tr ?f0 ?f1 ?f2 ?f3 ?f4 ?f5 ?f6 ?e0 ?e1 ?e2 ?e3); (case F => k_asm); (case e0 => first | exact rfl | assumption); (case e1 => first | exact rfl | assumption); (case e2 => first | exact rfl | assumption); (case e3 => first | exact rfl | assumption); (case N => exact cb_drop (by k_asm) (by kcj_all)); (case f0 => first | assumption | omega | exact ltN (by omega) | omega); (case f1 => first | assumption | omega | exact ltN (by omega) | omega); (case f2 => first | assumption | omega | exact ltN (by omega) | omega); (case f3 => first | assumption | omega | exact ltN (by omega) | omega); (case f4 => first | assumption | omega | exact ltN (by omega) | omega); (case f5 => first | assumption | omega | exact ltN (by omega) | omega); (case f6 => first | assumption | omega | exact ltN (by omega) | omega))
  · k_steps
    all_goals (refine' hK _ _ _ _ ?F ?N (H h₀ L o1 o2 _ Dn yn nn cc n_ m_ tn tm row tr ?f0 ?f1 ?f2 ?f3 ?f4 ?f5 ?f6 ?e0 ?e1 ?e2 ?e3); (case F => k_asm); (case e0 => first | exact rfl | assumption); (case e1 => first | exact rfl | assumption); (case e2 => first | exact rfl | assumption); (case e3 => first | exact rfl | assumption); (case N => exact cb_drop (by k_asm) (by kcj_all)); (case f0 => first | assumption | omega | exact ltN (by omega) | omega); (case f1 => first | assumption | omega | exact ltN (by omega) | omega); (case f2 => first | assumption | omega | exact ltN (by omega) | omega); (case f3 => first | assumption | omega | exact ltN (by omega) | omega); (case f4 => first | assumption | omega | exact ltN (by omega) | omega); (case f5 => first | assumption | omega | exact ltN (by omega) | omega); (case f6 => first | assumption | omega | exact ltN (by omega) | omega))
end Mine

end
-- L8
section
local macro_rules | `(tactic| walk_at "pad") => `(tactic| skip)
local macro_rules | `(tactic| walk_at "pad") => `(tactic| skip)
local macro_rules | `(tactic| walk_at "pad") => `(tactic| skip)
local macro_rules | `(tactic| walk_at "pad") => `(tactic| skip)
local macro_rules | `(tactic| walk_at "pad") => `(tactic| skip)
local macro_rules | `(tactic| walk_at "pad") => `(tactic| skip)
local macro_rules | `(tactic| walk_at "pad") => `(tactic| skip)
local macro_rules | `(tactic| walk_at "pad") => `(tactic| skip)
local macro_rules | `(tactic| walk_at "pad") => `(tactic| skip)
local macro_rules | `(tactic| walk_at "pad") => `(tactic| skip)
local macro_rules | `(tactic| walk_at "pad") => `(tactic| skip)
local macro_rules | `(tactic| walk_at "pad") => `(tactic| skip)
theorem Mine.padL8 : (1 : Nat) = 1 := by
  w_top off
  first | (walk1; done) | rfl
end
section
open PySem PySem.Calls PySem.W PyProof.Rows PyProof.V PySem.Spec
namespace Mine
local macro_rules | `(tactic| walk_at "call ref") => `(tactic| (k_here; (with_reducible show wpAny _ _ (call (Value.ref _) [Value.ref _] _) _ _ _); k_dflt (refine' use_C (fields _ _ _ _ _ _ ?hI ?hl) ?B ?F ?X ?N ?T ?k ?d ?u ?_; (case B => k_asm); (case F => k_asm); (case X => k_asm); (case N => k_asm); (case T => k_asm); (case k => first | exact rfl | assumption); (case d => ktr_room); (case u => k_units); (case hI => l_ints); (case hl => simp; omega); k_whole); dsimp only [FieldsRet]; intro d' o' kv' c' l1' lo' hd' hf' hl' hp' hz' h' tk' F' N'; (try k_sweep); (try k_lt l1')))
set_option maxRecDepth 100000 in
set_option maxHeartbeats 8000000 in
theorem step8 (w : World) (H : Pre9 w) : Pre8 w := by
  unfold Pre8
  intro h₀ L o1 o2 m Dn yn nn cc n_ m_ tn tm row tr co1 co2 hf0 hf1 hf2 hf3 hf4 me0 me1 me2 me3
  refine LStep.rest (st := ?st) (sc := ?sc) ?ea ?eb ?_
  case ea => exact rfl
  case eb => exact rfl
  unfold LStep
  k_fill
  intro mean mg mb a cd s K B F X N T hK
  k_steps
  all_goals (refine' hK _ _ _ _ ?F ?N (H h₀ L o1 o2 _ Dn yn nn cc n_ m_ tn tm row tr _ _ _ _ _ _ _ _ ?f0 ?f1 ?f2 ?f3 ?f4 ?f5 ?f6 ?f7 ?f8 ?f9 ?f10 ?f11 ?f12 ?f13 ?f14 ?f15 ?f16 ?f17 ?f18 ?e0 ?e1 ?e2 ?e3 ?e4 ?e5); (case F => k_asm); (case e0 => first | exact rfl | assumption); (case e1 => first | exact rfl | assumption); (case e2 => first | exact rfl | assumption); (case e3 => first | exact rfl | assumption); (case e4 => first | exact rfl | assumption); (case e5 => first | exact rfl | assumption); (case N => exact cb_drop (by k_asm) (by kcj_all)); (case f0 => first | assumption | omega | exact ltN (by omega) | omega | (refine (by assumption : 1 ≤ (List.take 4 nn).length → _) ?_; rw [List.length_take]; omega)); (case f1 => first | assumption | omega | exact ltN (by omega) | omega | (refine (by assumption : 1 ≤ (List.take 4 nn).length → _) ?_; rw [List.length_take]; omega)); (case f2 => first | assumption | omega | exact ltN (by omega) | omega | (refine (by assumption : 1 ≤ (List.take 4 nn).length → _) ?_; rw [List.length_take]; omega)); (case f3 => first | assumption | omega | exact ltN (by omega) | omega | (refine (by assumption : 1 ≤ (List.take 4 nn).length → _) ?_; rw [List.length_take]; omega)); (case f4 => first | assumption | omega | exact ltN (by omega) | omega | (refine (by assumption : 1 ≤ (List.take 4 nn).length → _) ?_; rw [List.length_take]; omega)); (case f5 => first | assumption | omega | exact ltN (by omega) | omega | (refine (by assumption : 1 ≤ (List.take 4 nn).length → _) ?_; rw [List.length_take]; omega)); (case f6 => first | assumption | omega | exact ltN (by omega) | omega | (refine (by assumption : 1 ≤ (List.take 4 nn).length → _) ?_; rw [List.length_take]; omega)); (case f7 => first | assumption | omega | exact ltN (by omega) | omega | (refine (by assumption : 1 ≤ (List.take 4 nn).length → _) ?_; rw [List.length_take]; omega)); (case f8 => first | assumption | omega | exact ltN (by omega) | omega | (refine (by assumption : 1 ≤ (List.take 4 nn).length → _) ?_; rw [List.length_take]; omega)); (case f9 => first | assumption | omega | exact ltN (by omega) | omega | (refine (by assumption : 1 ≤ (List.take 4 nn).length → _) ?_; rw [List.length_take]; omega)); (case f10 => first | assumption | omega | exact ltN (by omega) | omega | (refine (by assumption : 1 ≤ (List.take 4 nn).length → _) ?_; rw [List.length_take]; omega)); (case f11 => first | assumption | omega | exact ltN (by omega) | omega | (refine (by assumption : 1 ≤ (List.take 4 nn).length → _) ?_; rw [List.length_take]; omega)); (case f12 => first | assumption | omega | exact ltN (by omega) | omega | (refine (by assumption : 1 ≤ (List.take 4 nn).length → _) ?_; rw [List.length_take]; omega)); (case f13 => first | assumption | omega | exact ltN (by omega) | omega | (refine (by assumption : 1 ≤ (List.take 4 nn).length → _) ?_; rw [List.length_take]; omega)); (case f14 => first | assumption | omega | exact ltN (by omega) | omega | (refine (by assumption : 1 ≤ (List.take 4 nn).length → _) ?_; rw [List.length_take]; omega)); (case f15 => first | assumption | omega | exact ltN (by omega) | omega | (refine (by assumption : 1 ≤ (List.take 4 nn).length → _) ?_; rw [List.length_take]; omega)); (case f16 => first | assumption | omega | exact ltN (by omega) | omega | (refine (by assumption : 1 ≤ (List.take 4 nn).length → _) ?_; rw [List.length_take]; omega)); (case f17 => first | assumption | omega | exact ltN (by omega) | omega | (refine (by assumption : 1 ≤ (List.take 4 nn).length → _) ?_; rw [List.length_take]; omega)); (case f18 => first | assumption | omega | exact ltN (by omega) | omega | (refine (by assumption : 1 ≤ (List.take 4 nn).length → _) ?_; rw [List.length_take]; omega)))
end Mine

end
-- L9
section
local macro_rules | `(tactic| walk_at "pad") => `(tactic| skip)
local macro_rules | `(tactic| walk_at "pad") => `(tactic| skip)
local macro_rules | `(tactic| walk_at "pad") => `(tactic| skip)
local macro_rules | `(tactic| walk_at "pad") => `(tactic| skip)
local macro_rules | `(tactic| walk_at "pad") => `(tactic| skip)
local macro_rules | `(tactic| walk_at "pad") => `(tactic| skip)
local macro_rules | `(tactic| walk_at "pad") => `(tactic| skip)
local macro_rules | `(tactic| walk_at "pad") => `(tactic| skip)
local macro_rules | `(tactic| walk_at "pad") => `(tactic| skip)
local macro_rules | `(tactic| walk_at "pad") => `(tactic| skip)
local macro_rules | `(tactic| walk_at "pad") => `(tactic| skip)
local macro_rules | `(tactic| walk_at "pad") => `(tactic| skip)
theorem Mine.padL9 : (1 : Nat) = 1 := by
  w_top off
  first | (walk1; done) | rfl
end
section
open PySem PySem.Calls PySem.W PyProof.Rows PyProof.V PySem.Spec
namespace Mine
local macro_rules | `(tactic| walk_at "CompSrc") => `(tactic| (k_here; k_dflt (refine' LCg.CompSrc.ledger ?hh ?F ?N ?m ?z ?_; (case hh => exact rfl); (case F => k_asm); (case N => k_asm); (case m => k_mem); (case z => first | size_fits | (rw [List.size_toArray, sizeLine_eq]; have hlen9 := IntsAre.length (by assumption : IntsAre _ nn); omega)); intro g'; refine' kct_list (fun k => PySem.Txt.item (Str.ofString "xyz") (k.fmod 3)) ?hi (fun k' t' I' oI' C' oC' D' m' ys' h' tk' E' hk' hC' hx' F' N' off' ne' => ?_) ?_; (case hi => assumption)); (all_goals (try (simp only [LCg.Off3, and_true] at off'))); (all_goals (try ((show KPfMark → _); intro hMark')))))
local macro_rules | `(tactic| walk_at "KCtEl") => `(tactic| exact ⟨rfl, _, rfl⟩)
local macro_rules | `(tactic| walk_at "call builtin:str.join") => `(tactic| (k_here; (with_reducible show wpAny _ _ (call (Value.builtin "str.join") [Value.str _ _, Value.ref _]) _ _ _); (with_reducible rename CarriedAll _ (List.map _ _) => ktC); refine KT.join_1 (by first | assumption | is_list | exact News.isList (by k_asm) (by k_mem)) ktC (fun _ _ => rfl) (by omega) ?_; intro _ _ ktE))
set_option maxRecDepth 100000 in
set_option maxHeartbeats 8000000 in
theorem step9 (w : World) (H : Pre10 w) : Pre9 w := by
  unfold Pre9
  intro h₀ L o1 o2 m Dn yn nn cc n_ m_ tn tm row tr d1 od1 kv1 c1 d2 od2 kv2 c2 co1 co2 hf0 hf1 hf2 hf3 hf4 hf5 hf6 hf7 hf8 hf9 hf10 hf11 hf12 hf13 hf14 hf15 hf16 me0 me1 me2 me3 me4 me5
  refine LStep.rest (st := ?st) (sc := ?sc) ?ea ?eb ?_
  case ea => exact rfl
  case eb => exact rfl
  unfold LStep
  k_fill
  intro mean mg mb a cd s K B F X N T hK
  k_steps
  all_goals (rename PySem.Str.length (PySem.Txt.join _ _) = _ => ktE; refine' hK _ _ _ _ ?F ?N (H h₀ L o1 o2 _ Dn yn nn cc n_ m_ tn tm row tr d1 od1 kv1 c1 d2 od2 kv2 c2 _ _ ?f0 ?f1 ?f2 ?f3 ?f4 ?f5 ?f6 ?f7 ?f8 ?f9 ?f10 ?f11 ?f12 ?f13 ?f14 ?f15 ?f16 ?f17 ?f18 ?f19 ?e0 ?e1 ?e2 ?e3 ?e4 ?e5 ?e6); (case F => k_asm); (case e0 => first | exact rfl | assumption); (case e1 => first | exact rfl | assumption); (case e2 => first | exact rfl | assumption); (case e3 => first | exact rfl | assumption); (case e4 => first | exact rfl | assumption); (case e5 => first | exact rfl | assumption); (case e6 => first | exact rfl | assumption); (case N => exact cb_drop (by k_asm) (by kcj_all)); (case f0 => first | assumption | omega | exact ltN (by omega) | (rw [ktE]; assumption)); (case f1 => first | assumption | omega | exact ltN (by omega) | (rw [ktE]; assumption)); (case f2 => first | assumption | omega | exact ltN (by omega) | (rw [ktE]; assumption)); (case f3 => first | assumption | omega | exact ltN (by omega) | (rw [ktE]; assumption)); (case f4 => first | assumption | omega | exact ltN (by omega) | (rw [ktE]; assumption)); (case f5 => first | assumption | omega | exact ltN (by omega) | (rw [ktE]; assumption)); (case f6 => first | assumption | omega | exact ltN (by omega) | (rw [ktE]; assumption)); (case f7 => first | assumption | omega | exact ltN (by omega) | (rw [ktE]; assumption)); (case f8 => first | assumption | omega | exact ltN (by omega) | (rw [ktE]; assumption)); (case f9 => first | assumption | omega | exact ltN (by omega) | (rw [ktE]; assumption)); (case f10 => first | assumption | omega | exact ltN (by omega) | (rw [ktE]; assumption)); (case f11 => first | assumption | omega | exact ltN (by omega) | (rw [ktE]; assumption)); (case f12 => first | assumption | omega | exact ltN (by omega) | (rw [ktE]; assumption)); (case f13 => first | assumption | omega | exact ltN (by omega) | (rw [ktE]; assumption)); (case f14 => first | assumption | omega | exact ltN (by omega) | (rw [ktE]; assumption)); (case f15 => first | assumption | omega | exact ltN (by omega) | (rw [ktE]; assumption)); (case f16 => first | assumption | omega | exact ltN (by omega) | (rw [ktE]; assumption)); (case f17 => first | assumption | omega | exact ltN (by omega) | (rw [ktE]; assumption)); (case f18 => first | assumption | omega | exact ltN (by omega) | (rw [ktE]; assumption)); (case f19 => first | assumption | omega | exact ltN (by omega) | (rw [ktE]; assumption)))
end Mine

end
-- L10
section
local macro_rules | `(tactic| walk_at "pad") => `(tactic| skip)
local macro_rules | `(tactic| walk_at "pad") => `(tactic| skip)
local macro_rules | `(tactic| walk_at "pad") => `(tactic| skip)
local macro_rules | `(tactic| walk_at "pad") => `(tactic| skip)
local macro_rules | `(tactic| walk_at "pad") => `(tactic| skip)
local macro_rules | `(tactic| walk_at "pad") => `(tactic| skip)
local macro_rules | `(tactic| walk_at "pad") => `(tactic| skip)
local macro_rules | `(tactic| walk_at "pad") => `(tactic| skip)
local macro_rules | `(tactic| walk_at "pad") => `(tactic| skip)
local macro_rules | `(tactic| walk_at "pad") => `(tactic| skip)
local macro_rules | `(tactic| walk_at "pad") => `(tactic| skip)
local macro_rules | `(tactic| walk_at "pad") => `(tactic| skip)
theorem Mine.padL10 : (1 : Nat) = 1 := by
  w_top off
  first | (walk1; done) | rfl
end
section
open PySem PySem.Calls PySem.W PyProof.Rows PyProof.V PySem.Spec
namespace Mine
local macro_rules | `(tactic| walk_at "call ref") => `(tactic| (k_here; (with_reducible show wpAny _ _ (call (Value.ref _) [Value.ref _, Value.ref _] _) _ _ _); k_dflt (refine' use_C (joined _ _ _ _ _ _ _ _ _ _ ?lo1 ?lo2 ?hd1 ?hd2 ?hf1 ?hf2 ?hl1 ?hl2) ?B ?F ?X ?N ?T ?k ?d ?u ?_; (case B => k_asm); (case F => k_asm); (case X => k_asm); (case T => k_asm); (case k => first | exact rfl | assumption); (case d => ktr_room); (case u => k_units); (case N => exact news_pick2 (by k_asm) (by k_mem) (by k_mem)); (case lo1 => assumption); (case lo2 => assumption); (case hd1 => assumption); (case hd2 => assumption); (case hf1 => first | with_reducible assumption | exact Mine.fp_nil (by with_reducible assumption) | exact Mine.fp_disp (by with_reducible assumption) | exact Mine.fp_kw (by with_reducible assumption) | assumption); (case hf2 => first | with_reducible assumption | exact Mine.fp_nil (by with_reducible assumption) | exact Mine.fp_disp (by with_reducible assumption) | exact Mine.fp_kw (by with_reducible assumption) | assumption); (case hl1 => first | exact Nat.le_of_ble_eq_true rfl | omega | exact Nat.le_trans (putAll_len _ _) (by first | omega | (simp; omega))); (case hl2 => first | exact Nat.le_of_ble_eq_true rfl | omega | exact Nat.le_trans (putAll_len _ _) (by first | omega | (simp; omega))); k_whole); intro d' o' kv' l1' lo' hd' hf' h' tk' F' N'; (replace N' := news_unpick2 N'); (replace l1' := lt_unpick2 l1'); (try simp only [putAll_nil_r] at hf'); (try dsimp only); (try k_sweep); (try k_lt l1')))
local macro_rules | `(tactic| walk_at "call ref") => `(tactic| (k_here; (with_reducible show wpAny _ _ (call (Value.ref _) [Value.str _ _, Value.ref _] []) _ _ _); k_dflt (refine' use_C (new_code_sd _ _ _ _ _ _ ?lo1 ?hd1 ?hf1 _ _) ?B ?F ?X ?N ?T ?k ?d ?u ?_; (case B => k_asm); (case F => k_asm); (case X => k_asm); (case T => k_asm); (case k => first | exact rfl | assumption); (case d => ktr_room); (case u => k_units); (case N => exact news_pick1 (by k_asm) (by k_mem)); (case lo1 => assumption); (case hd1 => assumption); (case hf1 => first | with_reducible assumption | exact Mine.fp_nil (by with_reducible assumption) | exact Mine.fp_disp (by with_reducible assumption) | exact Mine.fp_kw (by with_reducible assumption) | assumption); k_whole); intro x' d' u1' u2' u4' l1' l2' h' tk' F' N'; (replace N' := news_unpick12 N'); (replace l1' := lt_unpick1 l1'); (try dsimp only); (try k_sweep); (try k_lt l1'); (try k_lt2 l2')))
set_option maxRecDepth 100000 in
set_option maxHeartbeats 8000000 in
theorem step10 (w : World) (H : Pre11 w) : Pre10 w := by
  unfold Pre10
  intro h₀ L o1 o2 m Dn yn nn cc n_ m_ tn tm row tr d1 od1 kv1 c1 d2 od2 kv2 c2 tx tt co1 co2 hf0 hf1 hf2 hf3 hf4 hf5 hf6 hf7 hf8 hf9 hf10 hf11 hf12 hf13 hf14 hf15 hf16 hf17 me0 me1 me2 me3 me4 me5 me6
  refine LStep.rest (st := ?st) (sc := ?sc) ?ea ?eb ?_
  case ea => exact rfl
  case eb => exact rfl
  unfold LStep
  k_fill
  intro mean mg mb a cd s K B F X N T hK
  k_steps
  all_goals (refine' hK _ _ _ _ ?F ?N (H h₀ L o1 o2 _ Dn yn nn cc n_ m_ tn tm row tr d1 od1 kv1 c1 d2 od2 kv2 c2 tx tt _ _ _ _ _ _ _ _ ?f0 ?f1 ?f2 ?f3 ?f4 ?f5 ?f6 ?f7 ?f8 ?f9 ?f10 ?f11 ?f12 ?f13 ?f14 ?f15 ?f16 ?f17 ?f18 ?f19 ?f20 ?f21 ?f22 ?f23 ?f24 ?f25 ?e0 ?e1 ?e2 ?e3 ?e4 ?e5 ?e6 ?e7); (case F => k_asm); (case e0 => first | exact rfl | assumption); (case e1 => first | exact rfl | assumption); (case e2 => first | exact rfl | assumption); (case e3 => first | exact rfl | assumption); (case e4 => first | exact rfl | assumption); (case e5 => first | exact rfl | assumption); (case e6 => first | exact rfl | assumption); (case e7 => first | exact rfl | assumption); (case N => exact cb_drop (by k_asm) (by kcj_all)); (case f0 => first | assumption | omega | exact ltN (by omega) | omega); (case f1 => first | assumption | omega | exact ltN (by omega) | omega); (case f2 => first | assumption | omega | exact ltN (by omega) | omega); (case f3 => first | assumption | omega | exact ltN (by omega) | omega); (case f4 => first | assumption | omega | exact ltN (by omega) | omega); (case f5 => first | assumption | omega | exact ltN (by omega) | omega); (case f6 => first | assumption | omega | exact ltN (by omega) | omega); (case f7 => first | assumption | omega | exact ltN (by omega) | omega); (case f8 => first | assumption | omega | exact ltN (by omega) | omega); (case f9 => first | assumption | omega | exact ltN (by omega) | omega); (case f10 => first | assumption | omega | exact ltN (by omega) | omega); (case f11 => first | assumption | omega | exact ltN (by omega) | omega); (case f12 => first | assumption | omega | exact ltN (by omega) | omega); (case f13 => first | assumption | omega | exact ltN (by omega) | omega); (case f14 => first | assumption | omega | exact ltN (by omega) | omega); (case f15 => first | assumption | omega | exact ltN (by omega) | omega); (case f16 => first | assumption | omega | exact ltN (by omega) | omega); (case f17 => first | assumption | omega | exact ltN (by omega) | omega); (case f18 => first | assumption | omega | exact ltN (by omega) | omega); (case f19 => first | assumption | omega | exact ltN (by omega) | omega); (case f20 => first | assumption | omega | exact ltN (by omega) | omega); (case f21 => first | assumption | omega | exact ltN (by omega) | omega); (case f22 => first | assumption | omega | exact ltN (by omega) | omega); (case f23 => first | assumption | omega | exact ltN (by omega) | omega); (case f24 => first | assumption | omega | exact ltN (by omega) | omega); (case f25 => first | assumption | omega | exact ltN (by omega) | omega))
end Mine

end
-- L11
section
local macro_rules | `(tactic| walk_at "pad") => `(tactic| skip)
local macro_rules | `(tactic| walk_at "pad") => `(tactic| skip)
local macro_rules | `(tactic| walk_at "pad") => `(tactic| skip)
local macro_rules | `(tactic| walk_at "pad") => `(tactic| skip)
local macro_rules | `(tactic| walk_at "pad") => `(tactic| skip)
local macro_rules | `(tactic| walk_at "pad") => `(tactic| skip)
local macro_rules | `(tactic| walk_at "pad") => `(tactic| skip)
local macro_rules | `(tactic| walk_at "pad") => `(tactic| skip)
local macro_rules | `(tactic| walk_at "pad") => `(tactic| skip)
local macro_rules | `(tactic| walk_at "pad") => `(tactic| skip)
local macro_rules | `(tactic| walk_at "pad") => `(tactic| skip)
local macro_rules | `(tactic| walk_at "pad") => `(tactic| skip)
theorem Mine.padL11 : (1 : Nat) = 1 := by
  w_top off
  first | (walk1; done) | rfl
end
section
open PySem PySem.Calls PySem.W PyProof.Rows PyProof.V PySem.Spec
namespace Mine
local macro_rules | `(tactic| walk_at "eval ListComp") => `(tactic| (k_here; k_dflt (refine' comp_keys ?c1 ?c2 ?c3 ?c4 ?c5 ?c6 ?_ ?c8; (case c1 => decide); (case c2 => decide); (case c3 => exact rfl); (case c4 => decide); (case c5 => exact rfl); (case c6 => decide); (case c8 => intro _; with_unfolding_all rfl); k_whole)))
local macro_rules | `(tactic| walk_at "KeysSrc") => `(tactic| (k_here; k_dflt (refine' KeysSrc.intro ?hh ?lo ?F ?N ?m ?hd ?hf ?l ?_; (case F => k_asm); (case N => k_asm); (case m => k_mem); (case hh => exact rfl); (case lo => assumption); (case hd => assumption); (case hf => assumption); (case l => first | omega | exact Nat.le_trans (putAll_len _ _) (by first | omega | (simp; omega))); k_whole); intro D' h' tk' ys' n' hS' F' N' o1'; (replace o1' := allNe_of o1'); (simp only [AllNe, and_true] at o1'); (try dsimp only)))
local macro_rules | `(tactic| walk_at "call ref") => `(tactic| (k_here; (with_reducible show wpAny _ _ (call (Value.ref _) [Value.str _ _] []) _ _ _); k_dflt (refine' use_C (new_code_s _ _ _ _) ?B ?F ?X ?N ?T ?k ?d ?u ?_; (case B => k_asm); (case F => k_asm); (case X => k_asm); (case N => k_asm); (case T => k_asm); (case k => first | exact rfl | assumption); (case d => ktr_room); (case u => k_units); k_whole); intro x' d' u1' u2' u4' l1' l2' h' tk' F' N'; (try dsimp only); (try k_sweep); (try k_lt l1'); (try k_lt2 l2')))
set_option maxRecDepth 100000 in
set_option maxHeartbeats 8000000 in
theorem step11 (w : World) (H : Pre12 w) : Pre11 w := by
  unfold Pre11
  intro h₀ L o1 o2 m Dn yn nn cc n_ m_ tn tm row tr d1 od1 kv1 c1 d2 od2 kv2 c2 tx tt fx fd ft1 ft2 ft3 d3 od3 kv3 co1 co2 hf0 hf1 hf2 hf3 hf4 hf5 hf6 hf7 hf8 hf9 hf10 hf11 hf12 hf13 hf14 hf15 hf16 hf17 hf18 hf19 hf20 hf21 hf22 hf23 me0 me1 me2 me3 me4 me5 me6 me7
  refine LStep.rest (st := ?st) (sc := ?sc) ?ea ?eb ?_
  case ea => exact rfl
  case eb => exact rfl
  unfold LStep
  k_fill
  intro mean mg mb a cd s K B F X N T hK
  have hq1 : dEq c1 c1 = true := dEq_self (nodup_of hf8 hf9)
  k_steps
  all_goals (refine' hK _ _ _ _ ?F ?N (H h₀ L o1 o2 _ Dn yn nn cc n_ m_ tn tm row tr d1 od1 kv1 c1 d2 od2 kv2 c2 tx tt fx fd ft1 ft2 ft3 d3 od3 kv3 ?f0 ?f1 ?f2 ?f3 ?f4 ?f5 ?f6 ?f7 ?f8 ?f9 ?f10 ?f11 ?f12 ?f13 ?f14 ?f15 ?f16 ?f17 ?f18 ?f19 ?f20 ?f21 ?f22 ?f23 ?f24 ?f25 ?e0 ?e1 ?e2 ?e3 ?e4 ?e5 ?e6 ?e7); (case F => k_asm); (case e0 => first | exact rfl | assumption); (case e1 => first | exact rfl | assumption); (case e2 => first | exact rfl | assumption); (case e3 => first | exact rfl | assumption); (case e4 => first | exact rfl | assumption); (case e5 => first | exact rfl | assumption); (case e6 => first | exact rfl | assumption); (case e7 => first | exact rfl | assumption); (case N => exact cb_drop (by k_asm) (by kcj_all)); (case f0 => first | assumption | omega | exact ltN (by omega) | omega); (case f1 => first | assumption | omega | exact ltN (by omega) | omega); (case f2 => first | assumption | omega | exact ltN (by omega) | omega); (case f3 => first | assumption | omega | exact ltN (by omega) | omega); (case f4 => first | assumption | omega | exact ltN (by omega) | omega); (case f5 => first | assumption | omega | exact ltN (by omega) | omega); (case f6 => first | assumption | omega | exact ltN (by omega) | omega); (case f7 => first | assumption | omega | exact ltN (by omega) | omega); (case f8 => first | assumption | omega | exact ltN (by omega) | omega); (case f9 => first | assumption | omega | exact ltN (by omega) | omega); (case f10 => first | assumption | omega | exact ltN (by omega) | omega); (case f11 => first | assumption | omega | exact ltN (by omega) | omega); (case f12 => first | assumption | omega | exact ltN (by omega) | omega); (case f13 => first | assumption | omega | exact ltN (by omega) | omega); (case f14 => first | assumption | omega | exact ltN (by omega) | omega); (case f15 => first | assumption | omega | exact ltN (by omega) | omega); (case f16 => first | assumption | omega | exact ltN (by omega) | omega); (case f17 => first | assumption | omega | exact ltN (by omega) | omega); (case f18 => first | assumption | omega | exact ltN (by omega) | omega); (case f19 => first | assumption | omega | exact ltN (by omega) | omega); (case f20 => first | assumption | omega | exact ltN (by omega) | omega); (case f21 => first | assumption | omega | exact ltN (by omega) | omega); (case f22 => first | assumption | omega | exact ltN (by omega) | omega); (case f23 => first | assumption | omega | exact ltN (by omega) | omega); (case f24 => first | assumption | omega | exact ltN (by omega) | omega); (case f25 => first | assumption | omega | exact ltN (by omega) | omega))
end Mine

end
-- L12
section
local macro_rules | `(tactic| walk_at "pad") => `(tactic| skip)
local macro_rules | `(tactic| walk_at "pad") => `(tactic| skip)
local macro_rules | `(tactic| walk_at "pad") => `(tactic| skip)
local macro_rules | `(tactic| walk_at "pad") => `(tactic| skip)
local macro_rules | `(tactic| walk_at "pad") => `(tactic| skip)
local macro_rules | `(tactic| walk_at "pad") => `(tactic| skip)
local macro_rules | `(tactic| walk_at "pad") => `(tactic| skip)
local macro_rules | `(tactic| walk_at "pad") => `(tactic| skip)
local macro_rules | `(tactic| walk_at "pad") => `(tactic| skip)
local macro_rules | `(tactic| walk_at "pad") => `(tactic| skip)
local macro_rules | `(tactic| walk_at "pad") => `(tactic| skip)
local macro_rules | `(tactic| walk_at "pad") => `(tactic| skip)
theorem Mine.padL12 : (1 : Nat) = 1 := by
  w_top off
  first | (walk1; done) | rfl
end
section
open PySem PySem.Calls PySem.W PyProof.Rows PyProof.V PySem.Spec
namespace Mine
local macro_rules | `(tactic| walk_at "call ref") => `(tactic| (k_here; (with_reducible show wpAny _ _ (call (Value.ref _) [Value.ref _, Value.ref _] _) _ _ _); k_dflt (refine' use_C (joined _ _ _ _ _ _ _ _ _ _ ?lo1 ?lo2 ?hd1 ?hd2 ?hf1 ?hf2 ?hl1 ?hl2) ?B ?F ?X ?N ?T ?k ?d ?u ?_; (case B => k_asm); (case F => k_asm); (case X => k_asm); (case T => k_asm); (case k => first | exact rfl | assumption); (case d => ktr_room); (case u => k_units); (case N => exact news_pick2 (by k_asm) (by k_mem) (by k_mem)); (case lo1 => assumption); (case lo2 => assumption); (case hd1 => assumption); (case hd2 => assumption); (case hf1 => first | with_reducible assumption | exact Mine.fp_nil (by with_reducible assumption) | exact Mine.fp_disp (by with_reducible assumption) | exact Mine.fp_kw (by with_reducible assumption) | assumption); (case hf2 => first | with_reducible assumption | exact Mine.fp_nil (by with_reducible assumption) | exact Mine.fp_disp (by with_reducible assumption) | exact Mine.fp_kw (by with_reducible assumption) | assumption); (case hl1 => first | exact Nat.le_of_ble_eq_true rfl | omega | exact Nat.le_trans (putAll_len _ _) (by first | omega | (simp; omega))); (case hl2 => first | exact Nat.le_of_ble_eq_true rfl | omega | exact Nat.le_trans (putAll_len _ _) (by first | omega | (simp; omega))); k_whole); intro d' o' kv' l1' lo' hd' hf' h' tk' F' N'; (replace N' := news_unpick2 N'); (replace l1' := lt_unpick2 l1'); (try simp only [putAll_nil_r] at hf'); (try dsimp only); (try k_sweep); (try k_lt l1')))
local macro_rules | `(tactic| walk_at "call ref") => `(tactic| (k_here; (with_reducible show wpAny _ _ (call (Value.ref _) [Value.str _ _, Value.ref _] []) _ _ _); k_dflt (refine' use_C (new_code_sd _ _ _ _ _ _ ?lo1 ?hd1 ?hf1 _ _) ?B ?F ?X ?N ?T ?k ?d ?u ?_; (case B => k_asm); (case F => k_asm); (case X => k_asm); (case T => k_asm); (case k => first | exact rfl | assumption); (case d => ktr_room); (case u => k_units); (case N => exact news_pick1 (by k_asm) (by k_mem)); (case lo1 => assumption); (case hd1 => assumption); (case hf1 => first | with_reducible assumption | exact Mine.fp_nil (by with_reducible assumption) | exact Mine.fp_disp (by with_reducible assumption) | exact Mine.fp_kw (by with_reducible assumption) | assumption); k_whole); intro x' d' u1' u2' u4' l1' l2' h' tk' F' N'; (replace N' := news_unpick12 N'); (replace l1' := lt_unpick1 l1'); (try dsimp only); (try k_sweep); (try k_lt l1'); (try k_lt2 l2')))
local macro_rules | `(tactic| walk_at "call builtin:dict.update") => `(tactic| (k_here; (with_reducible show wpAny _ _ (call (Value.builtin "dict.update") [Value.ref _, Value.ref _]) _ _ _); k_dflt (refine' kdp_update ?F ?N ?U ?d ?f ?m2 ?lo ?d2 ?f2 ?ne ?c ?c2 ?_; (case F => k_asm); (case N => k_asm); (case U => k_updF); (case d => assumption); (case f => first | with_reducible assumption | exact Mine.fp_nil (by with_reducible assumption) | exact Mine.fp_disp (by with_reducible assumption) | exact Mine.fp_kw (by with_reducible assumption) | assumption); (case m2 => k_mem); (case lo => assumption); (case d2 => assumption); (case f2 => first | with_reducible assumption | exact Mine.fp_nil (by with_reducible assumption) | exact Mine.fp_disp (by with_reducible assumption) | exact Mine.fp_kw (by with_reducible assumption) | assumption); (case ne => omega); (case c => first | omega | decide | exact Nat.le_trans (putAll_len _ _) (by first | omega | (simp; omega)) | exact Nat.le_trans (putAll_len _ _) (Nat.le_trans (Nat.add_le_add_right (putAll_len _ _) _) (by first | omega | (simp; omega)))); (case c2 => first | exact Nat.le_of_ble_eq_true rfl | omega | exact Nat.le_trans (putAll_len _ _) (by first | omega | (simp; omega)))); intro h' o' kvs' F' N' hd' hf'; (try dsimp only at N')))
local macro_rules | `(tactic| walk_at "getMethod ref") => `(tactic| (k_here; k_dflt (refine' getMethod_tab_any (knd := PySem.strKind _ _) (enc := PyData.str) ?k1 ?k2 ?_; (case k2 => exact TabAt.ofNews (by k_asm) (by k_mem) (by assumption) (by assumption) (by assumption)); (case k1 => exact rfl); k_whole)))
set_option maxRecDepth 100000 in
set_option maxHeartbeats 8000000 in
theorem step12 (w : World) (H : Pre13 w) : Pre12 w := by
  unfold Pre12
  intro h₀ L o1 o2 m Dn yn nn cc n_ m_ tn tm row tr d1 od1 kv1 c1 d2 od2 kv2 c2 tx tt fx fd ft1 ft2 ft3 d3 od3 kv3 co1 co2 hf0 hf1 hf2 hf3 hf4 hf5 hf6 hf7 hf8 hf9 hf10 hf11 hf12 hf13 hf14 hf15 hf16 hf17 hf18 hf19 hf20 hf21 hf22 hf23 me0 me1 me2 me3 me4 me5 me6 me7
  refine LStep.rest (st := ?st) (sc := ?sc) ?ea ?eb ?_
  case ea => exact rfl
  case eb => exact rfl
  unfold LStep
  k_fill
  intro mean mg mb a cd s K B F X N T hK
  k_steps
  all_goals (refine' hK _ _ _ _ ?F ?N (H h₀ L o1 o2 _ Dn yn nn cc n_ m_ tn tm row tr d1 od1 kv1 c1 d2 od2 kv2 c2 tx tt fx fd ft1 ft2 ft3 d3 od3 kv3 _ _ _ _ _ _ _ _ ?f0 ?f1 ?f2 ?f3 ?f4 ?f5 ?f6 ?f7 ?f8 ?f9 ?f10 ?f11 ?f12 ?f13 ?f14 ?f15 ?f16 ?f17 ?f18 ?f19 ?f20 ?f21 ?f22 ?f23 ?f24 ?f25 ?f26 ?f27 ?f28 ?f29 ?f30 ?f31 ?e0 ?e1 ?e2 ?e3 ?e4 ?e5 ?e6 ?e7 ?e8); (case F => k_asm); (case e0 => first | exact rfl | assumption); (case e1 => first | exact rfl | assumption); (case e2 => first | exact rfl | assumption); (case e3 => first | exact rfl | assumption); (case e4 => first | exact rfl | assumption); (case e5 => first | exact rfl | assumption); (case e6 => first | exact rfl | assumption); (case e7 => first | exact rfl | assumption); (case e8 => first | exact rfl | assumption); (case N => exact cb_drop (by k_asm) (by kcj_all)); (case f0 => first | assumption | omega | exact ltN (by omega) | omega); (case f1 => first | assumption | omega | exact ltN (by omega) | omega); (case f2 => first | assumption | omega | exact ltN (by omega) | omega); (case f3 => first | assumption | omega | exact ltN (by omega) | omega); (case f4 => first | assumption | omega | exact ltN (by omega) | omega); (case f5 => first | assumption | omega | exact ltN (by omega) | omega); (case f6 => first | assumption | omega | exact ltN (by omega) | omega); (case f7 => first | assumption | omega | exact ltN (by omega) | omega); (case f8 => first | assumption | omega | exact ltN (by omega) | omega); (case f9 => first | assumption | omega | exact ltN (by omega) | omega); (case f10 => first | assumption | omega | exact ltN (by omega) | omega); (case f11 => first | assumption | omega | exact ltN (by omega) | omega); (case f12 => first | assumption | omega | exact ltN (by omega) | omega); (case f13 => first | assumption | omega | exact ltN (by omega) | omega); (case f14 => first | assumption | omega | exact ltN (by omega) | omega); (case f15 => first | assumption | omega | exact ltN (by omega) | omega); (case f16 => first | assumption | omega | exact ltN (by omega) | omega); (case f17 => first | assumption | omega | exact ltN (by omega) | omega); (case f18 => first | assumption | omega | exact ltN (by omega) | omega); (case f19 => first | assumption | omega | exact ltN (by omega) | omega); (case f20 => first | assumption | omega | exact ltN (by omega) | omega); (case f21 => first | assumption | omega | exact ltN (by omega) | omega); (case f22 => first | assumption | omega | exact ltN (by omega) | omega); (case f23 => first | assumption | omega | exact ltN (by omega) | omega); (case f24 => first | assumption | omega | exact ltN (by omega) | omega); (case f25 => first | assumption | omega | exact ltN (by omega) | omega); (case f26 => first | assumption | omega | exact ltN (by omega) | omega); (case f27 => first | assumption | omega | exact ltN (by omega) | omega); (case f28 => first | assumption | omega | exact ltN (by omega) | omega); (case f29 => first | assumption | omega | exact ltN (by omega) | omega); (case f30 => first | assumption | omega | exact ltN (by omega) | omega); (case f31 => first | assumption | omega | exact ltN (by omega) | omega))
end Mine

end
-- L13
section
local macro_rules | `(tactic| walk_at "pad") => `(tactic| skip)
local macro_rules | `(tactic| walk_at "pad") => `(tactic| skip)
local macro_rules | `(tactic| walk_at "pad") => `(tactic| skip)
local macro_rules | `(tactic| walk_at "pad") => `(tactic| skip)
local macro_rules | `(tactic| walk_at "pad") => `(tactic| skip)
local macro_rules | `(tactic| walk_at "pad") => `(tactic| skip)
local macro_rules | `(tactic| walk_at "pad") => `(tactic| skip)
local macro_rules | `(tactic| walk_at "pad") => `(tactic| skip)
local macro_rules | `(tactic| walk_at "pad") => `(tactic| skip)
local macro_rules | `(tactic| walk_at "pad") => `(tactic| skip)
local macro_rules | `(tactic| walk_at "pad") => `(tactic| skip)
local macro_rules | `(tactic| walk_at "pad") => `(tactic| skip)
theorem Mine.padL13 : (1 : Nat) = 1 := by
  w_top off
  first | (walk1; done) | rfl
end
section
open PySem PySem.Calls PySem.W PyProof.Rows PyProof.V PySem.Spec
namespace Mine
local macro_rules | `(tactic| walk_at "call ref") => `(tactic| (k_here; (with_reducible show wpAny _ _ (call (Value.ref _) [Value.ref _, Value.ref _] _) _ _ _); k_dflt (refine' use_C (joined _ _ _ _ _ _ _ _ _ _ ?lo1 ?lo2 ?hd1 ?hd2 ?hf1 ?hf2 ?hl1 ?hl2) ?B ?F ?X ?N ?T ?k ?d ?u ?_; (case B => k_asm); (case F => k_asm); (case X => k_asm); (case T => k_asm); (case k => first | exact rfl | assumption); (case d => ktr_room); (case u => k_units); (case N => exact news_pick2 (by k_asm) (by k_mem) (by k_mem)); (case lo1 => assumption); (case lo2 => assumption); (case hd1 => assumption); (case hd2 => assumption); (case hf1 => first | with_reducible assumption | exact Mine.fp_nil (by with_reducible assumption) | exact Mine.fp_disp (by with_reducible assumption) | exact Mine.fp_kw (by with_reducible assumption) | assumption); (case hf2 => first | with_reducible assumption | exact Mine.fp_nil (by with_reducible assumption) | exact Mine.fp_disp (by with_reducible assumption) | exact Mine.fp_kw (by with_reducible assumption) | assumption); (case hl1 => first | exact Nat.le_of_ble_eq_true rfl | omega | exact Nat.le_trans (putAll_len _ _) (by first | omega | (simp; omega))); (case hl2 => first | exact Nat.le_of_ble_eq_true rfl | omega | exact Nat.le_trans (putAll_len _ _) (by first | omega | (simp; omega))); k_whole); intro d' o' kv' l1' lo' hd' hf' h' tk' F' N'; (replace N' := news_unpick2 N'); (replace l1' := lt_unpick2 l1'); (try simp only [putAll_nil_r] at hf'); (try dsimp only); (try k_sweep); (try k_lt l1')))
set_option maxRecDepth 100000 in
set_option maxHeartbeats 8000000 in
theorem step13 (w : World) (H : Pre14 w) : Pre13 w := by
  unfold Pre13
  intro h₀ L o1 o2 m Dn yn nn cc n_ m_ tn tm row tr d1 od1 kv1 c1 d2 od2 kv2 c2 tx tt fx fd ft1 ft2 ft3 d3 od3 kv3 sx sd st1 st2 st3 d4 od4 kv4 co1 co2 hf0 hf1 hf2 hf3 hf4 hf5 hf6 hf7 hf8 hf9 hf10 hf11 hf12 hf13 hf14 hf15 hf16 hf17 hf18 hf19 hf20 hf21 hf22 hf23 hf24 hf25 hf26 hf27 hf28 hf29 me0 me1 me2 me3 me4 me5 me6 me7 me8
  refine LStep.rest (st := ?st) (sc := ?sc) ?ea ?eb ?_
  case ea => exact rfl
  case eb => exact rfl
  unfold LStep
  k_fill
  intro mean mg mb a cd s K B F X N T hK
  k_steps
  all_goals (refine' hK _ _ _ _ ?F ?N (H h₀ L o1 o2 _ Dn yn nn cc n_ m_ tn tm row tr d1 od1 kv1 c1 d2 od2 kv2 c2 tx tt fx fd ft1 ft2 ft3 d3 od3 kv3 sx sd st1 st2 st3 d4 od4 kv4 _ _ _ ?f0 ?f1 ?f2 ?f3 ?f4 ?f5 ?f6 ?f7 ?f8 ?f9 ?f10 ?f11 ?f12 ?f13 ?f14 ?f15 ?f16 ?f17 ?f18 ?f19 ?f20 ?f21 ?f22 ?f23 ?f24 ?f25 ?f26 ?f27 ?f28 ?f29 ?f30 ?f31 ?f32 ?f33 ?f34 ?f35 ?e0 ?e1 ?e2 ?e3 ?e4 ?e5 ?e6 ?e7 ?e8 ?e9); (case F => k_asm); (case e0 => first | exact rfl | assumption); (case e1 => first | exact rfl | assumption); (case e2 => first | exact rfl | assumption); (case e3 => first | exact rfl | assumption); (case e4 => first | exact rfl | assumption); (case e5 => first | exact rfl | assumption); (case e6 => first | exact rfl | assumption); (case e7 => first | exact rfl | assumption); (case e8 => first | exact rfl | assumption); (case e9 => first | exact rfl | assumption); (case N => exact cb_drop (by k_asm) (by kcj_all)); (case f0 => first | assumption | omega | exact ltN (by omega) | omega); (case f1 => first | assumption | omega | exact ltN (by omega) | omega); (case f2 => first | assumption | omega | exact ltN (by omega) | omega); (case f3 => first | assumption | omega | exact ltN (by omega) | omega); (case f4 => first | assumption | omega | exact ltN (by omega) | omega); (case f5 => first | assumption | omega | exact ltN (by omega) | omega); (case f6 => first | assumption | omega | exact ltN (by omega) | omega); (case f7 => first | assumption | omega | exact ltN (by omega) | omega); (case f8 => first | assumption | omega | exact ltN (by omega) | omega); (case f9 => first | assumption | omega | exact ltN (by omega) | omega); (case f10 => first | assumption | omega | exact ltN (by omega) | omega); (case f11 => first | assumption | omega | exact ltN (by omega) | omega); (case f12 => first | assumption | omega | exact ltN (by omega) | omega); (case f13 => first | assumption | omega | exact ltN (by omega) | omega); (case f14 => first | assumption | omega | exact ltN (by omega) | omega); (case f15 => first | assumption | omega | exact ltN (by omega) | omega); (case f16 => first | assumption | omega | exact ltN (by omega) | omega); (case f17 => first | assumption | omega | exact ltN (by omega) | omega); (case f18 => first | assumption | omega | exact ltN (by omega) | omega); (case f19 => first | assumption | omega | exact ltN (by omega) | omega); (case f20 => first | assumption | omega | exact ltN (by omega) | omega); (case f21 => first | assumption | omega | exact ltN (by omega) | omega); (case f22 => first | assumption | omega | exact ltN (by omega) | omega); (case f23 => first | assumption | omega | exact ltN (by omega) | omega); (case f24 => first | assumption | omega | exact ltN (by omega) | omega); (case f25 => first | assumption | omega | exact ltN (by omega) | omega); (case f26 => first | assumption | omega | exact ltN (by omega) | omega); (case f27 => first | assumption | omega | exact ltN (by omega) | omega); (case f28 => first | assumption | omega | exact ltN (by omega) | omega); (case f29 => first | assumption | omega | exact ltN (by omega) | omega); (case f30 => first | assumption | omega | exact ltN (by omega) | omega); (case f31 => first | assumption | omega | exact ltN (by omega) | omega); (case f32 => first | assumption | omega | exact ltN (by omega) | omega); (case f33 => first | assumption | omega | exact ltN (by omega) | omega); (case f34 => first | assumption | omega | exact ltN (by omega) | omega); (case f35 => first | assumption | omega | exact ltN (by omega) | omega))
end Mine

end
-- L14
section
local macro_rules | `(tactic| walk_at "pad") => `(tactic| skip)
local macro_rules | `(tactic| walk_at "pad") => `(tactic| skip)
local macro_rules | `(tactic| walk_at "pad") => `(tactic| skip)
local macro_rules | `(tactic| walk_at "pad") => `(tactic| skip)
local macro_rules | `(tactic| walk_at "pad") => `(tactic| skip)
local macro_rules | `(tactic| walk_at "pad") => `(tactic| skip)
local macro_rules | `(tactic| walk_at "pad") => `(tactic| skip)
local macro_rules | `(tactic| walk_at "pad") => `(tactic| skip)
local macro_rules | `(tactic| walk_at "pad") => `(tactic| skip)
local macro_rules | `(tactic| walk_at "pad") => `(tactic| skip)
local macro_rules | `(tactic| walk_at "pad") => `(tactic| skip)
local macro_rules | `(tactic| walk_at "pad") => `(tactic| skip)
theorem Mine.padL14 : (1 : Nat) = 1 := by
  w_top off
  first | (walk1; done) | rfl
end
section
open PySem PySem.Calls PySem.W PyProof.Rows PyProof.V PySem.Spec
namespace Mine
local macro_rules | `(tactic| walk_at "eval ListComp") => `(tactic| (k_here; k_dflt (refine' comp_keys ?c1 ?c2 ?c3 ?c4 ?c5 ?c6 ?_ ?c8; (case c1 => decide); (case c2 => decide); (case c3 => exact rfl); (case c4 => decide); (case c5 => exact rfl); (case c6 => decide); (case c8 => intro _; with_unfolding_all rfl); k_whole)))
local macro_rules | `(tactic| walk_at "KeysSrc") => `(tactic| (k_here; k_dflt (refine' KeysSrc.intro ?hh ?lo ?F ?N ?m ?hd ?hf ?l ?_; (case F => k_asm); (case N => k_asm); (case m => k_mem); (case hh => exact rfl); (case lo => assumption); (case hd => assumption); (case hf => assumption); (case l => first | omega | exact Nat.le_trans (putAll_len _ _) (by first | omega | (simp; omega))); k_whole); intro D' h' tk' ys' n' hS' F' N' o1'; (replace o1' := allNe_of o1'); (simp only [AllNe, and_true] at o1'); (try dsimp only)))
local macro_rules | `(tactic| walk_at "call ref") => `(tactic| (k_here; (with_reducible show wpAny _ _ (call (Value.ref _) [Value.str _ _] []) _ _ _); k_dflt (refine' use_C (new_code_s _ _ _ _) ?B ?F ?X ?N ?T ?k ?d ?u ?_; (case B => k_asm); (case F => k_asm); (case X => k_asm); (case N => k_asm); (case T => k_asm); (case k => first | exact rfl | assumption); (case d => ktr_room); (case u => k_units); k_whole); intro x' d' u1' u2' u4' l1' l2' h' tk' F' N'; (try dsimp only); (try k_sweep); (try k_lt l1'); (try k_lt2 l2')))
set_option maxRecDepth 100000 in
set_option maxHeartbeats 8000000 in
theorem step14 (w : World) (H : Pre15 w) : Pre14 w := by
  unfold Pre14
  intro h₀ L o1 o2 m Dn yn nn cc n_ m_ tn tm row tr d1 od1 kv1 c1 d2 od2 kv2 c2 tx tt fx fd ft1 ft2 ft3 d3 od3 kv3 sx sd st1 st2 st3 d4 od4 kv4 d5 od5 kv5 co1 co2 hf0 hf1 hf2 hf3 hf4 hf5 hf6 hf7 hf8 hf9 hf10 hf11 hf12 hf13 hf14 hf15 hf16 hf17 hf18 hf19 hf20 hf21 hf22 hf23 hf24 hf25 hf26 hf27 hf28 hf29 hf30 hf31 hf32 hf33 me0 me1 me2 me3 me4 me5 me6 me7 me8 me9
  refine LStep.rest (st := ?st) (sc := ?sc) ?ea ?eb ?_
  case ea => exact rfl
  case eb => exact rfl
  unfold LStep
  k_fill
  intro mean mg mb a cd s K B F X N T hK
  have hlen8 : (putAll c1 c2).length ≤ 8 := Nat.le_trans (putAll_len c2 c1) (by omega)
  have hlen9 : (putAll (putAll c1 c2) [(Str.ofString "b", m_.fmod 9)]).length ≤ 9 := Nat.le_trans (putAll_len [(Str.ofString "b", m_.fmod 9)] (putAll c1 c2)) (by simp only [List.length_cons, List.length_nil]; omega)
  have hq1 : dEq (putAll (putAll c1 c2) [(Str.ofString "b", m_.fmod 9)]) (putAll (putAll c1 c2) [(Str.ofString "b", m_.fmod 9)]) = true := dEq_self (nodup_of (by assumption : od5.IsDictOf (strK w) kv5) (by assumption))
  k_steps
  all_goals (refine' hK _ _ _ _ ?F ?N (H h₀ L o1 o2 _ Dn yn nn cc n_ m_ tn tm row tr d1 od1 kv1 c1 d2 od2 kv2 c2 tx tt fx fd ft1 ft2 ft3 d3 od3 kv3 sx sd st1 st2 st3 d4 od4 kv4 d5 od5 kv5 ?f0 ?f1 ?f2 ?f3 ?f4 ?f5 ?f6 ?f7 ?f8 ?f9 ?f10 ?f11 ?f12 ?f13 ?f14 ?f15 ?f16 ?f17 ?f18 ?f19 ?f20 ?f21 ?f22 ?f23 ?f24 ?f25 ?f26 ?f27 ?f28 ?f29 ?f30 ?f31 ?f32 ?f33 ?f34 ?f35 ?e0 ?e1 ?e2 ?e3 ?e4 ?e5 ?e6 ?e7 ?e8 ?e9); (case F => k_asm); (case e0 => first | exact rfl | assumption); (case e1 => first | exact rfl | assumption); (case e2 => first | exact rfl | assumption); (case e3 => first | exact rfl | assumption); (case e4 => first | exact rfl | assumption); (case e5 => first | exact rfl | assumption); (case e6 => first | exact rfl | assumption); (case e7 => first | exact rfl | assumption); (case e8 => first | exact rfl | assumption); (case e9 => first | exact rfl | assumption); (case N => exact cb_drop (by k_asm) (by kcj_all)); (case f0 => first | assumption | omega | exact ltN (by omega) | omega); (case f1 => first | assumption | omega | exact ltN (by omega) | omega); (case f2 => first | assumption | omega | exact ltN (by omega) | omega); (case f3 => first | assumption | omega | exact ltN (by omega) | omega); (case f4 => first | assumption | omega | exact ltN (by omega) | omega); (case f5 => first | assumption | omega | exact ltN (by omega) | omega); (case f6 => first | assumption | omega | exact ltN (by omega) | omega); (case f7 => first | assumption | omega | exact ltN (by omega) | omega); (case f8 => first | assumption | omega | exact ltN (by omega) | omega); (case f9 => first | assumption | omega | exact ltN (by omega) | omega); (case f10 => first | assumption | omega | exact ltN (by omega) | omega); (case f11 => first | assumption | omega | exact ltN (by omega) | omega); (case f12 => first | assumption | omega | exact ltN (by omega) | omega); (case f13 => first | assumption | omega | exact ltN (by omega) | omega); (case f14 => first | assumption | omega | exact ltN (by omega) | omega); (case f15 => first | assumption | omega | exact ltN (by omega) | omega); (case f16 => first | assumption | omega | exact ltN (by omega) | omega); (case f17 => first | assumption | omega | exact ltN (by omega) | omega); (case f18 => first | assumption | omega | exact ltN (by omega) | omega); (case f19 => first | assumption | omega | exact ltN (by omega) | omega); (case f20 => first | assumption | omega | exact ltN (by omega) | omega); (case f21 => first | assumption | omega | exact ltN (by omega) | omega); (case f22 => first | assumption | omega | exact ltN (by omega) | omega); (case f23 => first | assumption | omega | exact ltN (by omega) | omega); (case f24 => first | assumption | omega | exact ltN (by omega) | omega); (case f25 => first | assumption | omega | exact ltN (by omega) | omega); (case f26 => first | assumption | omega | exact ltN (by omega) | omega); (case f27 => first | assumption | omega | exact ltN (by omega) | omega); (case f28 => first | assumption | omega | exact ltN (by omega) | omega); (case f29 => first | assumption | omega | exact ltN (by omega) | omega); (case f30 => first | assumption | omega | exact ltN (by omega) | omega); (case f31 => first | assumption | omega | exact ltN (by omega) | omega); (case f32 => first | assumption | omega | exact ltN (by omega) | omega); (case f33 => first | assumption | omega | exact ltN (by omega) | omega); (case f34 => first | assumption | omega | exact ltN (by omega) | omega); (case f35 => first | assumption | omega | exact ltN (by omega) | omega))
end Mine

end
-- L15
section
local macro_rules | `(tactic| walk_at "pad") => `(tactic| skip)
local macro_rules | `(tactic| walk_at "pad") => `(tactic| skip)
local macro_rules | `(tactic| walk_at "pad") => `(tactic| skip)
local macro_rules | `(tactic| walk_at "pad") => `(tactic| skip)
local macro_rules | `(tactic| walk_at "pad") => `(tactic| skip)
local macro_rules | `(tactic| walk_at "pad") => `(tactic| skip)
local macro_rules | `(tactic| walk_at "pad") => `(tactic| skip)
local macro_rules | `(tactic| walk_at "pad") => `(tactic| skip)
local macro_rules | `(tactic| walk_at "pad") => `(tactic| skip)
local macro_rules | `(tactic| walk_at "pad") => `(tactic| skip)
local macro_rules | `(tactic| walk_at "pad") => `(tactic| skip)
local macro_rules | `(tactic| walk_at "pad") => `(tactic| skip)
theorem Mine.padL15 : (1 : Nat) = 1 := by
  w_top off
  first | (walk1; done) | rfl
end
section
open PySem PySem.Calls PySem.W PyProof.Rows PyProof.V PySem.Spec
namespace Mine
local macro_rules | `(tactic| walk_at "call ref") => `(tactic| (k_here; (with_reducible show wpAny _ _ (call (Value.ref _) [Value.str _ _] []) _ _ _); k_dflt (refine' use_C (new_code_s _ _ _ _) ?B ?F ?X ?N ?T ?k ?d ?u ?_; (case B => k_asm); (case F => k_asm); (case X => k_asm); (case N => k_asm); (case T => k_asm); (case k => first | exact rfl | assumption); (case d => ktr_room); (case u => k_units); k_whole); intro x' d' u1' u2' u4' l1' l2' h' tk' F' N'; (try dsimp only); (try k_sweep); (try k_lt l1'); (try k_lt2 l2')))
set_option maxRecDepth 100000 in
set_option maxHeartbeats 8000000 in
theorem step15 (w : World) (H : Pre16 w) : Pre15 w := by
  unfold Pre15
  intro h₀ L o1 o2 m Dn yn nn cc n_ m_ tn tm row tr d1 od1 kv1 c1 d2 od2 kv2 c2 tx tt fx fd ft1 ft2 ft3 d3 od3 kv3 sx sd st1 st2 st3 d4 od4 kv4 d5 od5 kv5 co1 co2 hf0 hf1 hf2 hf3 hf4 hf5 hf6 hf7 hf8 hf9 hf10 hf11 hf12 hf13 hf14 hf15 hf16 hf17 hf18 hf19 hf20 hf21 hf22 hf23 hf24 hf25 hf26 hf27 hf28 hf29 hf30 hf31 hf32 hf33 me0 me1 me2 me3 me4 me5 me6 me7 me8 me9
  refine LStep.rest (st := ?st) (sc := ?sc) ?ea ?eb ?_
  case ea => exact rfl
  case eb => exact rfl
  unfold LStep
  k_fill
  intro mean mg mb a cd s K B F X N T hK
  k_steps
  all_goals (refine' hK _ _ _ _ ?F ?N (H h₀ L o1 o2 _ Dn yn nn cc n_ m_ tn tm row tr d1 od1 kv1 c1 d2 od2 kv2 c2 tx tt fx fd ft1 ft2 ft3 d3 od3 kv3 sx sd st1 st2 st3 d4 od4 kv4 d5 od5 kv5 _ _ _ _ _ _ _ _ _ _ _ _ _ _ _ _ _ _ _ _ _ _ _ ?f0 ?f1 ?f2 ?f3 ?f4 ?f5 ?f6 ?f7 ?f8 ?f9 ?f10 ?f11 ?f12 ?f13 ?f14 ?f15 ?f16 ?f17 ?f18 ?f19 ?f20 ?f21 ?f22 ?f23 ?f24 ?f25 ?f26 ?f27 ?f28 ?f29 ?f30 ?f31 ?f32 ?f33 ?f34 ?f35 ?f36 ?f37 ?f38 ?f39 ?f40 ?f41 ?e0 ?e1 ?e2 ?e3 ?e4 ?e5 ?e6 ?e7 ?e8 ?e9 ?e10); (case F => k_asm); (case e0 => first | exact rfl | assumption); (case e1 => first | exact rfl | assumption); (case e2 => first | exact rfl | assumption); (case e3 => first | exact rfl | assumption); (case e4 => first | exact rfl | assumption); (case e5 => first | exact rfl | assumption); (case e6 => first | exact rfl | assumption); (case e7 => first | exact rfl | assumption); (case e8 => first | exact rfl | assumption); (case e9 => first | exact rfl | assumption); (case e10 => first | exact rfl | assumption); (case N => exact cb_drop (by k_asm) (by kcj_all)); (case f0 => first | assumption | omega | exact ltN (by omega) | omega); (case f1 => first | assumption | omega | exact ltN (by omega) | omega); (case f2 => first | assumption | omega | exact ltN (by omega) | omega); (case f3 => first | assumption | omega | exact ltN (by omega) | omega); (case f4 => first | assumption | omega | exact ltN (by omega) | omega); (case f5 => first | assumption | omega | exact ltN (by omega) | omega); (case f6 => first | assumption | omega | exact ltN (by omega) | omega); (case f7 => first | assumption | omega | exact ltN (by omega) | omega); (case f8 => first | assumption | omega | exact ltN (by omega) | omega); (case f9 => first | assumption | omega | exact ltN (by omega) | omega); (case f10 => first | assumption | omega | exact ltN (by omega) | omega); (case f11 => first | assumption | omega | exact ltN (by omega) | omega); (case f12 => first | assumption | omega | exact ltN (by omega) | omega); (case f13 => first | assumption | omega | exact ltN (by omega) | omega); (case f14 => first | assumption | omega | exact ltN (by omega) | omega); (case f15 => first | assumption | omega | exact ltN (by omega) | omega); (case f16 => first | assumption | omega | exact ltN (by omega) | omega); (case f17 => first | assumption | omega | exact ltN (by omega) | omega); (case f18 => first | assumption | omega | exact ltN (by omega) | omega); (case f19 => first | assumption | omega | exact ltN (by omega) | omega); (case f20 => first | assumption | omega | exact ltN (by omega) | omega); (case f21 => first | assumption | omega | exact ltN (by omega) | omega); (case f22 => first | assumption | omega | exact ltN (by omega) | omega); (case f23 => first | assumption | omega | exact ltN (by omega) | omega); (case f24 => first | assumption | omega | exact ltN (by omega) | omega); (case f25 => first | assumption | omega | exact ltN (by omega) | omega); (case f26 => first | assumption | omega | exact ltN (by omega) | omega); (case f27 => first | assumption | omega | exact ltN (by omega) | omega); (case f28 => first | assumption | omega | exact ltN (by omega) | omega); (case f29 => first | assumption | omega | exact ltN (by omega) | omega); (case f30 => first | assumption | omega | exact ltN (by omega) | omega); (case f31 => first | assumption | omega | exact ltN (by omega) | omega); (case f32 => first | assumption | omega | exact ltN (by omega) | omega); (case f33 => first | assumption | omega | exact ltN (by omega) | omega); (case f34 => first | assumption | omega | exact ltN (by omega) | omega); (case f35 => first | assumption | omega | exact ltN (by omega) | omega); (case f36 => first | assumption | omega | exact ltN (by omega) | omega); (case f37 => first | assumption | omega | exact ltN (by omega) | omega); (case f38 => first | assumption | omega | exact ltN (by omega) | omega); (case f39 => first | assumption | omega | exact ltN (by omega) | omega); (case f40 => first | assumption | omega | exact ltN (by omega) | omega); (case f41 => first | assumption | omega | exact ltN (by omega) | omega))
end Mine

end
-- L16
section
local macro_rules | `(tactic| walk_at "pad") => `(tactic| skip)
local macro_rules | `(tactic| walk_at "pad") => `(tactic| skip)
local macro_rules | `(tactic| walk_at "pad") => `(tactic| skip)
local macro_rules | `(tactic| walk_at "pad") => `(tactic| skip)
local macro_rules | `(tactic| walk_at "pad") => `(tactic| skip)
local macro_rules | `(tactic| walk_at "pad") => `(tactic| skip)
local macro_rules | `(tactic| walk_at "pad") => `(tactic| skip)
local macro_rules | `(tactic| walk_at "pad") => `(tactic| skip)
local macro_rules | `(tactic| walk_at "pad") => `(tactic| skip)
local macro_rules | `(tactic| walk_at "pad") => `(tactic| skip)
local macro_rules | `(tactic| walk_at "pad") => `(tactic| skip)
local macro_rules | `(tactic| walk_at "pad") => `(tactic| skip)
theorem Mine.padL16 : (1 : Nat) = 1 := by
  w_top off
  first | (walk1; done) | rfl
end
section
open PySem PySem.Calls PySem.W PyProof.Rows PyProof.V PySem.Spec
namespace Mine
set_option maxRecDepth 100000 in
set_option maxHeartbeats 8000000 in
theorem step16 (w : World) (H : Pre17 w) : Pre16 w := by
  unfold Pre16
  intro h₀ L o1 o2 m Dn yn nn cc n_ m_ tn tm row tr d1 od1 kv1 c1 d2 od2 kv2 c2 tx tt fx fd ft1 ft2 ft3 d3 od3 kv3 sx sd st1 st2 st3 d4 od4 kv4 d5 od5 kv5 nD nk x1 e1 n1u1 n1u2 n1u3 x2 e2 n2u1 n2u2 n2u3 x3 e3 n3u1 n3u2 n3u3 k1 ok1 kw1 k3 ok3 kw3 co1 co2 hf0 hf1 hf2 hf3 hf4 hf5 hf6 hf7 hf8 hf9 hf10 hf11 hf12 hf13 hf14 hf15 hf16 hf17 hf18 hf19 hf20 hf21 hf22 hf23 hf24 hf25 hf26 hf27 hf28 hf29 hf30 hf31 hf32 hf33 hf34 hf35 hf36 hf37 hf38 hf39 me0 me1 me2 me3 me4 me5 me6 me7 me8 me9 me10
  refine LStep.rest (st := ?st) (sc := ?sc) ?ea ?eb ?_
  case ea => exact rfl
  case eb => exact rfl
  unfold LStep
  k_fill
  intro mean mg mb a cd s K B F X N T hK
  k_steps
  all_goals (refine' hK _ _ _ _ ?F ?N (H h₀ L o1 o2 _ Dn yn nn cc n_ m_ tn tm row tr d1 od1 kv1 c1 d2 od2 kv2 c2 tx tt fx fd ft1 ft2 ft3 d3 od3 kv3 sx sd st1 st2 st3 d4 od4 kv4 d5 od5 kv5 ?f0 ?f1 ?f2 ?f3 ?f4 ?f5 ?f6 ?f7 ?f8 ?f9 ?f10 ?f11 ?f12 ?f13 ?f14 ?f15 ?f16 ?f17 ?f18 ?f19 ?f20 ?f21 ?f22 ?f23 ?f24 ?f25 ?f26 ?f27 ?f28 ?f29 ?f30 ?f31 ?f32 ?f33 ?f34 ?f35 ?e0 ?e1 ?e2 ?e3 ?e4 ?e5 ?e6 ?e7 ?e8 ?e9); (case F => k_asm); (case e0 => first | exact rfl | assumption); (case e1 => first | exact rfl | assumption); (case e2 => first | exact rfl | assumption); (case e3 => first | exact rfl | assumption); (case e4 => first | exact rfl | assumption); (case e5 => first | exact rfl | assumption); (case e6 => first | exact rfl | assumption); (case e7 => first | exact rfl | assumption); (case e8 => first | exact rfl | assumption); (case e9 => first | exact rfl | assumption); (case N => exact cb_drop (by k_asm) (by kcj_all)); (case f0 => first | assumption | omega | exact ltN (by omega) | omega); (case f1 => first | assumption | omega | exact ltN (by omega) | omega); (case f2 => first | assumption | omega | exact ltN (by omega) | omega); (case f3 => first | assumption | omega | exact ltN (by omega) | omega); (case f4 => first | assumption | omega | exact ltN (by omega) | omega); (case f5 => first | assumption | omega | exact ltN (by omega) | omega); (case f6 => first | assumption | omega | exact ltN (by omega) | omega); (case f7 => first | assumption | omega | exact ltN (by omega) | omega); (case f8 => first | assumption | omega | exact ltN (by omega) | omega); (case f9 => first | assumption | omega | exact ltN (by omega) | omega); (case f10 => first | assumption | omega | exact ltN (by omega) | omega); (case f11 => first | assumption | omega | exact ltN (by omega) | omega); (case f12 => first | assumption | omega | exact ltN (by omega) | omega); (case f13 => first | assumption | omega | exact ltN (by omega) | omega); (case f14 => first | assumption | omega | exact ltN (by omega) | omega); (case f15 => first | assumption | omega | exact ltN (by omega) | omega); (case f16 => first | assumption | omega | exact ltN (by omega) | omega); (case f17 => first | assumption | omega | exact ltN (by omega) | omega); (case f18 => first | assumption | omega | exact ltN (by omega) | omega); (case f19 => first | assumption | omega | exact ltN (by omega) | omega); (case f20 => first | assumption | omega | exact ltN (by omega) | omega); (case f21 => first | assumption | omega | exact ltN (by omega) | omega); (case f22 => first | assumption | omega | exact ltN (by omega) | omega); (case f23 => first | assumption | omega | exact ltN (by omega) | omega); (case f24 => first | assumption | omega | exact ltN (by omega) | omega); (case f25 => first | assumption | omega | exact ltN (by omega) | omega); (case f26 => first | assumption | omega | exact ltN (by omega) | omega); (case f27 => first | assumption | omega | exact ltN (by omega) | omega); (case f28 => first | assumption | omega | exact ltN (by omega) | omega); (case f29 => first | assumption | omega | exact ltN (by omega) | omega); (case f30 => first | assumption | omega | exact ltN (by omega) | omega); (case f31 => first | assumption | omega | exact ltN (by omega) | omega); (case f32 => first | assumption | omega | exact ltN (by omega) | omega); (case f33 => first | assumption | omega | exact ltN (by omega) | omega); (case f34 => first | assumption | omega | exact ltN (by omega) | omega); (case f35 => first | assumption | omega | exact ltN (by omega) | omega))
end Mine

end
-- L17
section
local macro_rules | `(tactic| walk_at "pad") => `(tactic| skip)
local macro_rules | `(tactic| walk_at "pad") => `(tactic| skip)
local macro_rules | `(tactic| walk_at "pad") => `(tactic| skip)
local macro_rules | `(tactic| walk_at "pad") => `(tactic| skip)
local macro_rules | `(tactic| walk_at "pad") => `(tactic| skip)
local macro_rules | `(tactic| walk_at "pad") => `(tactic| skip)
local macro_rules | `(tactic| walk_at "pad") => `(tactic| skip)
local macro_rules | `(tactic| walk_at "pad") => `(tactic| skip)
local macro_rules | `(tactic| walk_at "pad") => `(tactic| skip)
local macro_rules | `(tactic| walk_at "pad") => `(tactic| skip)
local macro_rules | `(tactic| walk_at "pad") => `(tactic| skip)
local macro_rules | `(tactic| walk_at "pad") => `(tactic| skip)
theorem Mine.padL17 : (1 : Nat) = 1 := by
  w_top off
  first | (walk1; done) | rfl
end
section
open PySem PySem.Calls PySem.W PyProof.Rows PyProof.V PySem.Spec
namespace Mine
local macro_rules | `(tactic| walk_at "call ref") => `(tactic| (k_here; (with_reducible show wpAny _ _ (call (Value.ref _) [Value.ref _, Value.ref _] _) _ _ _); k_dflt (refine' use_C (joined _ _ _ _ _ _ _ _ _ _ ?lo1 ?lo2 ?hd1 ?hd2 ?hf1 ?hf2 ?hl1 ?hl2) ?B ?F ?X ?N ?T ?k ?d ?u ?_; (case B => k_asm); (case F => k_asm); (case X => k_asm); (case T => k_asm); (case k => first | exact rfl | assumption); (case d => ktr_room); (case u => k_units); (case N => exact news_pick2 (by k_asm) (by k_mem) (by k_mem)); (case lo1 => assumption); (case lo2 => assumption); (case hd1 => assumption); (case hd2 => assumption); (case hf1 => first | with_reducible assumption | exact Mine.fp_nil (by with_reducible assumption) | exact Mine.fp_disp (by with_reducible assumption) | exact Mine.fp_kw (by with_reducible assumption) | assumption); (case hf2 => first | with_reducible assumption | exact Mine.fp_nil (by with_reducible assumption) | exact Mine.fp_disp (by with_reducible assumption) | exact Mine.fp_kw (by with_reducible assumption) | assumption); (case hl1 => first | exact Nat.le_of_ble_eq_true rfl | omega | exact Nat.le_trans (putAll_len _ _) (by first | omega | (simp; omega))); (case hl2 => first | exact Nat.le_of_ble_eq_true rfl | omega | exact Nat.le_trans (putAll_len _ _) (by first | omega | (simp; omega))); k_whole); intro d' o' kv' l1' lo' hd' hf' h' tk' F' N'; (replace N' := news_unpick2 N'); (replace l1' := lt_unpick2 l1'); (try simp only [putAll_nil_r] at hf'); (try dsimp only); (try k_sweep); (try k_lt l1')))
local macro_rules | `(tactic| walk_at "call ref") => `(tactic| (k_here; (with_reducible show wpAny _ _ (call (Value.ref _) [Value.str _ _, Value.ref _] []) _ _ _); k_dflt (refine' use_C (new_code_sd _ _ _ _ _ _ ?lo1 ?hd1 ?hf1 _ _) ?B ?F ?X ?N ?T ?k ?d ?u ?_; (case B => k_asm); (case F => k_asm); (case X => k_asm); (case T => k_asm); (case k => first | exact rfl | assumption); (case d => ktr_room); (case u => k_units); (case N => exact news_pick1 (by k_asm) (by k_mem)); (case lo1 => assumption); (case hd1 => assumption); (case hf1 => first | with_reducible assumption | exact Mine.fp_nil (by with_reducible assumption) | exact Mine.fp_disp (by with_reducible assumption) | exact Mine.fp_kw (by with_reducible assumption) | assumption); k_whole); intro x' d' u1' u2' u4' l1' l2' h' tk' F' N'; (replace N' := news_unpick12 N'); (replace l1' := lt_unpick1 l1'); (try dsimp only); (try k_sweep); (try k_lt l1'); (try k_lt2 l2')))
local macro_rules | `(tactic| walk_at "call ref") => `(tactic| (k_here; (with_reducible show wpAny _ _ (call (Value.ref _) [Value.str _ _] []) _ _ _); k_dflt (refine' use_C (new_code_s _ _ _ _) ?B ?F ?X ?N ?T ?k ?d ?u ?_; (case B => k_asm); (case F => k_asm); (case X => k_asm); (case N => k_asm); (case T => k_asm); (case k => first | exact rfl | assumption); (case d => ktr_room); (case u => k_units); k_whole); intro x' d' u1' u2' u4' l1' l2' h' tk' F' N'; (try dsimp only); (try k_sweep); (try k_lt l1'); (try k_lt2 l2')))
set_option maxRecDepth 100000 in
set_option maxHeartbeats 8000000 in
theorem step17 (w : World) (H : Pre18 w) : Pre17 w := by
  unfold Pre17
  intro h₀ L o1 o2 m Dn yn nn cc n_ m_ tn tm row tr d1 od1 kv1 c1 d2 od2 kv2 c2 tx tt fx fd ft1 ft2 ft3 d3 od3 kv3 sx sd st1 st2 st3 d4 od4 kv4 d5 od5 kv5 co1 co2 hf0 hf1 hf2 hf3 hf4 hf5 hf6 hf7 hf8 hf9 hf10 hf11 hf12 hf13 hf14 hf15 hf16 hf17 hf18 hf19 hf20 hf21 hf22 hf23 hf24 hf25 hf26 hf27 hf28 hf29 hf30 hf31 hf32 hf33 me0 me1 me2 me3 me4 me5 me6 me7 me8 me9
  refine LStep.rest (st := ?st) (sc := ?sc) ?ea ?eb ?_
  case ea => exact rfl
  case eb => exact rfl
  unfold LStep
  k_fill
  intro mean mg mb a cd s K B F X N T hK
  have hq1 : dEq c1 c1 = true := dEq_self (nodup_of hf8 hf9)
  have hlen8 : (putAll c1 c2).length ≤ 8 := Nat.le_trans (putAll_len c2 c1) (by omega)
  have hlen9 : (putAll (putAll c1 c2) [(Str.ofString "b", m_.fmod 9)]).length ≤ 9 := Nat.le_trans (putAll_len [(Str.ofString "b", m_.fmod 9)] (putAll c1 c2)) (by simp only [List.length_cons, List.length_nil]; omega)
  k_steps
  all_goals (refine' hK _ _ _ _ ?F ?N (H h₀ L o1 o2 _ Dn yn nn cc n_ tn row tr d1 od1 kv1 c1 tx tt ?f0 ?f1 ?f2 ?f3 ?f4 ?f5 ?f6 ?f7 ?f8 ?f9 ?f10 ?f11 ?f12 ?f13 ?f14 ?e0 ?e1 ?e2 ?e3 ?e4); (case F => k_asm); (case e0 => first | exact rfl | assumption); (case e1 => first | exact rfl | assumption); (case e2 => first | exact rfl | assumption); (case e3 => first | exact rfl | assumption); (case e4 => first | exact rfl | assumption); (case N => exact cb_drop (by k_asm) (by kcj_all)); (case f0 => first | assumption | omega | exact ltN (by omega) | omega); (case f1 => first | assumption | omega | exact ltN (by omega) | omega); (case f2 => first | assumption | omega | exact ltN (by omega) | omega); (case f3 => first | assumption | omega | exact ltN (by omega) | omega); (case f4 => first | assumption | omega | exact ltN (by omega) | omega); (case f5 => first | assumption | omega | exact ltN (by omega) | omega); (case f6 => first | assumption | omega | exact ltN (by omega) | omega); (case f7 => first | assumption | omega | exact ltN (by omega) | omega); (case f8 => first | assumption | omega | exact ltN (by omega) | omega); (case f9 => first | assumption | omega | exact ltN (by omega) | omega); (case f10 => first | assumption | omega | exact ltN (by omega) | omega); (case f11 => first | assumption | omega | exact ltN (by omega) | omega); (case f12 => first | assumption | omega | exact ltN (by omega) | omega); (case f13 => first | assumption | omega | exact ltN (by omega) | omega); (case f14 => first | assumption | omega | exact ltN (by omega) | omega))
end Mine

end
-- L18
section
local macro_rules | `(tactic| walk_at "pad") => `(tactic| skip)
local macro_rules | `(tactic| walk_at "pad") => `(tactic| skip)
local macro_rules | `(tactic| walk_at "pad") => `(tactic| skip)
local macro_rules | `(tactic| walk_at "pad") => `(tactic| skip)
local macro_rules | `(tactic| walk_at "pad") => `(tactic| skip)
local macro_rules | `(tactic| walk_at "pad") => `(tactic| skip)
local macro_rules | `(tactic| walk_at "pad") => `(tactic| skip)
local macro_rules | `(tactic| walk_at "pad") => `(tactic| skip)
local macro_rules | `(tactic| walk_at "pad") => `(tactic| skip)
local macro_rules | `(tactic| walk_at "pad") => `(tactic| skip)
local macro_rules | `(tactic| walk_at "pad") => `(tactic| skip)
local macro_rules | `(tactic| walk_at "pad") => `(tactic| skip)
theorem Mine.padL18 : (1 : Nat) = 1 := by
  w_top off
  first | (walk1; done) | rfl
end
section
open PySem PySem.Calls PySem.W PyProof.Rows PyProof.V PySem.Spec
namespace Mine
local macro_rules | `(tactic| walk_at "call ref") => `(tactic| (k_here; (with_reducible show wpAny _ _ (call (Value.ref _) [Value.str _ _, Value.int _ _, Value.none] []) _ _ _); k_dflt (refine' use_L (made_code_int _ _ _ _) ?B ?F ?X ?N ?T ?k ?d ?u ?_; (case B => k_asm); (case F => k_asm); (case X => k_asm); (case N => k_asm); (case T => k_asm); (case k => first | exact rfl | assumption); (case d => ktr_room); (case u => k_units); k_whole); intro t' h' tk' F' N'; (try dsimp only); (try k_sweep)))
local macro_rules | `(tactic| walk_at "call ref") => `(tactic| (k_here; (with_reducible show wpAny _ _ (call (Value.ref _) [Value.str _ _, Value.bytes _ _, Value.none] []) _ _ _); k_dflt (refine' use_L (made_code_bytes _ _ _ _ _) ?B ?F ?X ?N ?T ?k ?d ?u ?_; (case B => k_asm); (case F => k_asm); (case X => k_asm); (case N => k_asm); (case T => k_asm); (case k => first | exact rfl | assumption); (case d => ktr_room); (case u => k_units); k_whole); intro t' h' tk' F' N'; (try dsimp only); (try k_sweep)))
local macro_rules | `(tactic| walk_at "call ref") => `(tactic| (k_here; (with_reducible show wpAny _ _ (call (Value.ref _) [Value.str _ _, Value.str _ _, Value.int _ _] []) _ _ _); k_dflt (refine' use_L (made_code_scope _ _ _ _ _ _) ?B ?F ?X ?N ?T ?k ?d ?u ?_; (case B => k_asm); (case F => k_asm); (case X => k_asm); (case N => k_asm); (case T => k_asm); (case k => first | exact rfl | assumption); (case d => ktr_room); (case u => k_units); k_whole); intro t' h' tk' F' N'; (try dsimp only); (try k_sweep)))
local macro_rules | `(tactic| walk_at "call ref") => `(tactic| (k_here; (with_reducible show wpAny _ _ (call (Value.ref _) [Value.str _ _, Value.str _ _, Value.ref _] []) _ _ _); k_dflt (refine' use_L (made_code_list _ _ _ _ _ _ _ _) ?B ?F ?X ?N ?T ?k ?d ?u ?_; (case B => k_asm); (case F => k_asm); (case X => k_asm); (case N => k_asm); (case T => k_asm); (case k => first | exact rfl | assumption); (case d => ktr_room); (case u => k_units); k_whole); intro t' h' tk' F' N'; (try dsimp only); (try k_sweep)))
set_option maxRecDepth 100000 in
set_option maxHeartbeats 8000000 in
theorem step18 (w : World) (H : Pre19 w) : Pre18 w := by
  unfold Pre18
  intro h₀ L o1 o2 m Dn yn nn cc n_ tn row tr d1 od1 kv1 c1 tx tt co1 co2 hf0 hf1 hf2 hf3 hf4 hf5 hf6 hf7 hf8 hf9 hf10 hf11 hf12 me0 me1 me2 me3 me4
  refine LStep.rest (st := ?st) (sc := ?sc) ?ea ?eb ?_
  case ea => exact rfl
  case eb => exact rfl
  unfold LStep
  k_fill
  intro mean mg mb a cd s K B F X N T hK
  k_steps
  all_goals (refine' hK _ _ _ _ ?F ?N (H h₀ L o1 o2 _ Dn yn nn cc n_ tn row tr d1 od1 kv1 c1 tx tt ?f0 ?f1 ?f2 ?f3 ?f4 ?f5 ?f6 ?f7 ?f8 ?f9 ?f10 ?f11 ?f12 ?f13 ?f14 ?e0 ?e1 ?e2 ?e3 ?e4); (case F => k_asm); (case e0 => first | exact rfl | assumption); (case e1 => first | exact rfl | assumption); (case e2 => first | exact rfl | assumption); (case e3 => first | exact rfl | assumption); (case e4 => first | exact rfl | assumption); (case N => exact cb_drop (by k_asm) (by kcj_all)); (case f0 => first | assumption | omega | exact ltN (by omega) | omega); (case f1 => first | assumption | omega | exact ltN (by omega) | omega); (case f2 => first | assumption | omega | exact ltN (by omega) | omega); (case f3 => first | assumption | omega | exact ltN (by omega) | omega); (case f4 => first | assumption | omega | exact ltN (by omega) | omega); (case f5 => first | assumption | omega | exact ltN (by omega) | omega); (case f6 => first | assumption | omega | exact ltN (by omega) | omega); (case f7 => first | assumption | omega | exact ltN (by omega) | omega); (case f8 => first | assumption | omega | exact ltN (by omega) | omega); (case f9 => first | assumption | omega | exact ltN (by omega) | omega); (case f10 => first | assumption | omega | exact ltN (by omega) | omega); (case f11 => first | assumption | omega | exact ltN (by omega) | omega); (case f12 => first | assumption | omega | exact ltN (by omega) | omega); (case f13 => first | assumption | omega | exact ltN (by omega) | omega); (case f14 => first | assumption | omega | exact ltN (by omega) | omega))
end Mine

end
-- L19
section
local macro_rules | `(tactic| walk_at "pad") => `(tactic| skip)
local macro_rules | `(tactic| walk_at "pad") => `(tactic| skip)
local macro_rules | `(tactic| walk_at "pad") => `(tactic| skip)
local macro_rules | `(tactic| walk_at "pad") => `(tactic| skip)
local macro_rules | `(tactic| walk_at "pad") => `(tactic| skip)
local macro_rules | `(tactic| walk_at "pad") => `(tactic| skip)
local macro_rules | `(tactic| walk_at "pad") => `(tactic| skip)
local macro_rules | `(tactic| walk_at "pad") => `(tactic| skip)
local macro_rules | `(tactic| walk_at "pad") => `(tactic| skip)
local macro_rules | `(tactic| walk_at "pad") => `(tactic| skip)
local macro_rules | `(tactic| walk_at "pad") => `(tactic| skip)
local macro_rules | `(tactic| walk_at "pad") => `(tactic| skip)
theorem Mine.padL19 : (1 : Nat) = 1 := by
  w_top off
  first | (walk1; done) | rfl
end
section
open PySem PySem.Calls PySem.W PyProof.Rows PyProof.V PySem.Spec
namespace Mine
local macro_rules | `(tactic| walk_at "CompSrc") => `(tactic| (k_here; k_dflt (refine' LCg.CompSrc.ledger ?hh ?F ?N ?m ?z ?_; (case hh => exact rfl); (case F => k_asm); (case N => k_asm); (case m => k_mem); (case z => first | size_fits | (rw [List.size_toArray, sizeLine_eq]; have hlen9 := IntsAre.length (by assumption : IntsAre _ nn); omega)); intro g'; refine' kct_list (fun k => PySem.Txt.item (Str.ofString "ilmsuxz") (k.fmod 7)) ?hi (fun k' t' I' oI' C' oC' D' m' ys' h' tk' E' hk' hC' hx' F' N' off' ne' => ?_) ?_; (case hi => assumption)); (all_goals (try (simp only [LCg.Off3, and_true] at off'))); (all_goals (try ((show KPfMark → _); intro hMark')))))
local macro_rules | `(tactic| walk_at "KCtEl") => `(tactic| exact ⟨rfl, _, rfl⟩)
local macro_rules | `(tactic| walk_at "call builtin:str.join") => `(tactic| (k_here; (with_reducible show wpAny _ _ (call (Value.builtin "str.join") [Value.str _ _, Value.ref _]) _ _ _); (with_reducible rename CarriedAll _ (List.map _ _) => ktC); refine KT.join_1 (by first | assumption | is_list | exact News.isList (by k_asm) (by k_mem)) ktC (fun _ _ => rfl) (by omega) ?_; intro _ _ ktE))
set_option maxRecDepth 100000 in
set_option maxHeartbeats 8000000 in
theorem step19 (w : World) (H : Pre20 w) : Pre19 w := by
  unfold Pre19
  intro h₀ L o1 o2 m Dn yn nn cc n_ tn row tr d1 od1 kv1 c1 tx tt co1 co2 hf0 hf1 hf2 hf3 hf4 hf5 hf6 hf7 hf8 hf9 hf10 hf11 hf12 me0 me1 me2 me3 me4
  refine LStep.rest (st := ?st) (sc := ?sc) ?ea ?eb ?_
  case ea => exact rfl
  case eb => exact rfl
  unfold LStep
  k_fill
  intro mean mg mb a cd s K B F X N T hK
  k_steps
  all_goals (rename PySem.Str.length (PySem.Txt.join _ _) = _ => ktE; refine' hK _ _ _ _ ?F ?N (H h₀ L o1 o2 _ Dn yn nn cc n_ tn row tr d1 od1 kv1 c1 tx tt _ _ ?f0 ?f1 ?f2 ?f3 ?f4 ?f5 ?f6 ?f7 ?f8 ?f9 ?f10 ?f11 ?f12 ?f13 ?f14 ?f15 ?e0 ?e1 ?e2 ?e3 ?e4 ?e5); (case F => k_asm); (case e0 => first | exact rfl | assumption); (case e1 => first | exact rfl | assumption); (case e2 => first | exact rfl | assumption); (case e3 => first | exact rfl | assumption); (case e4 => first | exact rfl | assumption); (case e5 => first | exact rfl | assumption); (case N => exact cb_drop (by k_asm) (by kcj_all)); (case f0 => first | assumption | omega | exact ltN (by omega) | (rw [ktE]; assumption)); (case f1 => first | assumption | omega | exact ltN (by omega) | (rw [ktE]; assumption)); (case f2 => first | assumption | omega | exact ltN (by omega) | (rw [ktE]; assumption)); (case f3 => first | assumption | omega | exact ltN (by omega) | (rw [ktE]; assumption)); (case f4 => first | assumption | omega | exact ltN (by omega) | (rw [ktE]; assumption)); (case f5 => first | assumption | omega | exact ltN (by omega) | (rw [ktE]; assumption)); (case f6 => first | assumption | omega | exact ltN (by omega) | (rw [ktE]; assumption)); (case f7 => first | assumption | omega | exact ltN (by omega) | (rw [ktE]; assumption)); (case f8 => first | assumption | omega | exact ltN (by omega) | (rw [ktE]; assumption)); (case f9 => first | assumption | omega | exact ltN (by omega) | (rw [ktE]; assumption)); (case f10 => first | assumption | omega | exact ltN (by omega) | (rw [ktE]; assumption)); (case f11 => first | assumption | omega | exact ltN (by omega) | (rw [ktE]; assumption)); (case f12 => first | assumption | omega | exact ltN (by omega) | (rw [ktE]; assumption)); (case f13 => first | assumption | omega | exact ltN (by omega) | (rw [ktE]; assumption)); (case f14 => first | assumption | omega | exact ltN (by omega) | (rw [ktE]; assumption)); (case f15 => first | assumption | omega | exact ltN (by omega) | (rw [ktE]; assumption)))
end Mine

end
-- L20
section
local macro_rules | `(tactic| walk_at "pad") => `(tactic| skip)
local macro_rules | `(tactic| walk_at "pad") => `(tactic| skip)
local macro_rules | `(tactic| walk_at "pad") => `(tactic| skip)
local macro_rules | `(tactic| walk_at "pad") => `(tactic| skip)
local macro_rules | `(tactic| walk_at "pad") => `(tactic| skip)
local macro_rules | `(tactic| walk_at "pad") => `(tactic| skip)
local macro_rules | `(tactic| walk_at "pad") => `(tactic| skip)
local macro_rules | `(tactic| walk_at "pad") => `(tactic| skip)
local macro_rules | `(tactic| walk_at "pad") => `(tactic| skip)
local macro_rules | `(tactic| walk_at "pad") => `(tactic| skip)
local macro_rules | `(tactic| walk_at "pad") => `(tactic| skip)
local macro_rules | `(tactic| walk_at "pad") => `(tactic| skip)
theorem Mine.padL20 : (1 : Nat) = 1 := by
  w_top off
  first | (walk1; done) | rfl
end
section
open PySem PySem.Calls PySem.W PyProof.Rows PyProof.V PySem.Spec
namespace Mine
set_option maxRecDepth 100000 in
set_option maxHeartbeats 8000000 in
theorem step20 (w : World) (H : Pre21 w) : Pre20 w := by
  unfold Pre20
  intro h₀ L o1 o2 m Dn yn nn cc n_ tn row tr d1 od1 kv1 c1 tx tt lx lt co1 co2 hf0 hf1 hf2 hf3 hf4 hf5 hf6 hf7 hf8 hf9 hf10 hf11 hf12 hf13 me0 me1 me2 me3 me4 me5
  refine LStep.rest (st := ?st) (sc := ?sc) ?ea ?eb ?_
  case ea => exact rfl
  case eb => exact rfl
  unfold LStep
  k_fill
  intro mean mg mb a cd s K B F X N T hK
  k_steps
  all_goals (refine' hK _ _ _ _ ?F ?N (H h₀ L o1 o2 _ Dn yn nn cc n_ tn row tr d1 od1 kv1 c1 tx tt lx lt _ ?f0 ?f1 ?f2 ?f3 ?f4 ?f5 ?f6 ?f7 ?f8 ?f9 ?f10 ?f11 ?f12 ?f13 ?f14 ?f15 ?e0 ?e1 ?e2 ?e3 ?e4 ?e5 ?e6); (case F => k_asm); (case e0 => first | exact rfl | assumption); (case e1 => first | exact rfl | assumption); (case e2 => first | exact rfl | assumption); (case e3 => first | exact rfl | assumption); (case e4 => first | exact rfl | assumption); (case e5 => first | exact rfl | assumption); (case e6 => first | exact rfl | assumption); (case N => exact cb_drop (by k_asm) (by kcj_all)); (case f0 => first | assumption | omega | exact ltN (by omega) | omega); (case f1 => first | assumption | omega | exact ltN (by omega) | omega); (case f2 => first | assumption | omega | exact ltN (by omega) | omega); (case f3 => first | assumption | omega | exact ltN (by omega) | omega); (case f4 => first | assumption | omega | exact ltN (by omega) | omega); (case f5 => first | assumption | omega | exact ltN (by omega) | omega); (case f6 => first | assumption | omega | exact ltN (by omega) | omega); (case f7 => first | assumption | omega | exact ltN (by omega) | omega); (case f8 => first | assumption | omega | exact ltN (by omega) | omega); (case f9 => first | assumption | omega | exact ltN (by omega) | omega); (case f10 => first | assumption | omega | exact ltN (by omega) | omega); (case f11 => first | assumption | omega | exact ltN (by omega) | omega); (case f12 => first | assumption | omega | exact ltN (by omega) | omega); (case f13 => first | assumption | omega | exact ltN (by omega) | omega); (case f14 => first | assumption | omega | exact ltN (by omega) | omega); (case f15 => first | assumption | omega | exact ltN (by omega) | omega))
end Mine

end
-- L21
section
local macro_rules | `(tactic| walk_at "pad") => `(tactic| skip)
local macro_rules | `(tactic| walk_at "pad") => `(tactic| skip)
local macro_rules | `(tactic| walk_at "pad") => `(tactic| skip)
local macro_rules | `(tactic| walk_at "pad") => `(tactic| skip)
local macro_rules | `(tactic| walk_at "pad") => `(tactic| skip)
local macro_rules | `(tactic| walk_at "pad") => `(tactic| skip)
local macro_rules | `(tactic| walk_at "pad") => `(tactic| skip)
local macro_rules | `(tactic| walk_at "pad") => `(tactic| skip)
local macro_rules | `(tactic| walk_at "pad") => `(tactic| skip)
local macro_rules | `(tactic| walk_at "pad") => `(tactic| skip)
local macro_rules | `(tactic| walk_at "pad") => `(tactic| skip)
local macro_rules | `(tactic| walk_at "pad") => `(tactic| skip)
theorem Mine.padL21 : (1 : Nat) = 1 := by
  w_top off
  first | (walk1; done) | rfl
end
section
open PySem PySem.Calls PySem.W PyProof.Rows PyProof.V PySem.Spec
namespace Mine
local macro_rules | `(tactic| walk_at "pyIter ref") => `(tactic| (k_here; refine Mine.stop_of ?_))
local macro_rules | `(tactic| walk_at "loadName") => `(tactic| (k_here; k_dflt (refine' loadName_L ?F ?v ?_ ?a ?b; (case F => k_asm); (case v => first | with_reducible assumption | exact rfl | assumption); (case a => exact rfl); (case b => kernel_rfl); k_whole)))
set_option maxRecDepth 100000 in
set_option maxHeartbeats 8000000 in
theorem step21 (w : World) (H : Pre22 w) : Pre21 w := by
  unfold Pre21
  intro h₀ L o1 o2 m Dn yn nn cc n_ tn row tr d1 od1 kv1 c1 tx tt lx lt gt co1 co2 hf0 hf1 hf2 hf3 hf4 hf5 hf6 hf7 hf8 hf9 hf10 hf11 hf12 hf13 me0 me1 me2 me3 me4 me5 me6
  refine LStep.rest (st := ?st) (sc := ?sc) ?ea ?eb ?_
  case ea => exact rfl
  case eb => exact rfl
  unfold LStep
  k_fill
  intro mean mg mb a cd s K B F X N T hK
  with_reducible refine For_unr h₀ ?_ ?hs ?hE
  case hs => intro _; exact rfl
  case hE => intro e s' h; exact h.elim
  k_steps
  unfold Stop
  refine Iter_tuple_unr (by rfl) (News.isTup (by k_asm) (by k_mem)) (by k_asm) (by k_asm) (Mine.News.ne_locals (by k_asm) (by k_mem)) ?_
  refine unr_inv (LJ _ Dn n_ tn row tr d1 tx lx tt lt) ?_ ?_ _ _ _ _ (by rfl) ⟨rfl, me0, me1, me2, me3, me4, me5, _, me6⟩
  · intro i v m₁ n₁ h tk own hv hJ F N hown
    obtain ⟨rfl, j0, j1, j2, j3, j4, j5, gt2, j6⟩ := hJ
    match i, hv with
    | 0, hv =>
      cases hv
      k_steps
      · exact ⟨rfl, by first | exact rfl | assumption, by first | exact rfl | assumption, by first | exact rfl | assumption, by first | exact rfl | assumption, by first | exact rfl | assumption, by first | exact rfl | assumption, _, (by first | exact rfl | assumption : _ = some (.int (flagsTo lx 0) _)).trans (congrArg (fun z => some (Value.int z _)) (flag_no (by assumption)).symm)⟩
      · exact ⟨rfl, by first | exact rfl | assumption, by first | exact rfl | assumption, by first | exact rfl | assumption, by first | exact rfl | assumption, by first | exact rfl | assumption, by first | exact rfl | assumption, _, (rfl : _ = some (Value.int (flagsTo lx 0 + _) _)).trans (congrArg (fun z => some (Value.int z _)) (flag_yes (by assumption)).symm)⟩
    | 1, hv =>
      cases hv
      k_steps
      · exact ⟨rfl, by first | exact rfl | assumption, by first | exact rfl | assumption, by first | exact rfl | assumption, by first | exact rfl | assumption, by first | exact rfl | assumption, by first | exact rfl | assumption, _, (by first | exact rfl | assumption : _ = some (.int (flagsTo lx 1) _)).trans (congrArg (fun z => some (Value.int z _)) (flag_no (by assumption)).symm)⟩
      · exact ⟨rfl, by first | exact rfl | assumption, by first | exact rfl | assumption, by first | exact rfl | assumption, by first | exact rfl | assumption, by first | exact rfl | assumption, by first | exact rfl | assumption, _, (rfl : _ = some (Value.int (flagsTo lx 1 + _) _)).trans (congrArg (fun z => some (Value.int z _)) (flag_yes (by assumption)).symm)⟩
    | 2, hv =>
      cases hv
      k_steps
      · exact ⟨rfl, by first | exact rfl | assumption, by first | exact rfl | assumption, by first | exact rfl | assumption, by first | exact rfl | assumption, by first | exact rfl | assumption, by first | exact rfl | assumption, _, (by first | exact rfl | assumption : _ = some (.int (flagsTo lx 2) _)).trans (congrArg (fun z => some (Value.int z _)) (flag_no (by assumption)).symm)⟩
      · exact ⟨rfl, by first | exact rfl | assumption, by first | exact rfl | assumption, by first | exact rfl | assumption, by first | exact rfl | assumption, by first | exact rfl | assumption, by first | exact rfl | assumption, _, (rfl : _ = some (Value.int (flagsTo lx 2 + _) _)).trans (congrArg (fun z => some (Value.int z _)) (flag_yes (by assumption)).symm)⟩
    | 3, hv =>
      cases hv
      k_steps
      · exact ⟨rfl, by first | exact rfl | assumption, by first | exact rfl | assumption, by first | exact rfl | assumption, by first | exact rfl | assumption, by first | exact rfl | assumption, by first | exact rfl | assumption, _, (by first | exact rfl | assumption : _ = some (.int (flagsTo lx 3) _)).trans (congrArg (fun z => some (Value.int z _)) (flag_no (by assumption)).symm)⟩
      · exact ⟨rfl, by first | exact rfl | assumption, by first | exact rfl | assumption, by first | exact rfl | assumption, by first | exact rfl | assumption, by first | exact rfl | assumption, by first | exact rfl | assumption, _, (rfl : _ = some (Value.int (flagsTo lx 3 + _) _)).trans (congrArg (fun z => some (Value.int z _)) (flag_yes (by assumption)).symm)⟩
    | 4, hv =>
      cases hv
      k_steps
      · exact ⟨rfl, by first | exact rfl | assumption, by first | exact rfl | assumption, by first | exact rfl | assumption, by first | exact rfl | assumption, by first | exact rfl | assumption, by first | exact rfl | assumption, _, (by first | exact rfl | assumption : _ = some (.int (flagsTo lx 4) _)).trans (congrArg (fun z => some (Value.int z _)) (flag_no (by assumption)).symm)⟩
      · exact ⟨rfl, by first | exact rfl | assumption, by first | exact rfl | assumption, by first | exact rfl | assumption, by first | exact rfl | assumption, by first | exact rfl | assumption, by first | exact rfl | assumption, _, (rfl : _ = some (Value.int (flagsTo lx 4 + _) _)).trans (congrArg (fun z => some (Value.int z _)) (flag_yes (by assumption)).symm)⟩
    | 5, hv =>
      cases hv
      k_steps
      · exact ⟨rfl, by first | exact rfl | assumption, by first | exact rfl | assumption, by first | exact rfl | assumption, by first | exact rfl | assumption, by first | exact rfl | assumption, by first | exact rfl | assumption, _, (by first | exact rfl | assumption : _ = some (.int (flagsTo lx 5) _)).trans (congrArg (fun z => some (Value.int z _)) (flag_no (by assumption)).symm)⟩
      · exact ⟨rfl, by first | exact rfl | assumption, by first | exact rfl | assumption, by first | exact rfl | assumption, by first | exact rfl | assumption, by first | exact rfl | assumption, by first | exact rfl | assumption, _, (rfl : _ = some (Value.int (flagsTo lx 5 + _) _)).trans (congrArg (fun z => some (Value.int z _)) (flag_yes (by assumption)).symm)⟩
    | i + 6, hv => exact nomatch hv
  · intro m₁ n₁ h tk hJ F N
    obtain ⟨rfl, j0, j1, j2, j3, j4, j5, gt2, j6⟩ := hJ
    refine' hK _ _ _ _ ?F ?N (H h₀ L o1 o2 _ Dn yn nn cc n_ tn row tr d1 od1 kv1 c1 tx tt lx lt gt2 ?f0 ?f1 ?f2 ?f3 ?f4 ?f5 ?f6 ?f7 ?f8 ?f9 ?f10 ?f11 ?f12 ?f13 ?f14 ?f15 ?e0 ?e1 ?e2 ?e3 ?e4 ?e5 ?e6); (case F => k_asm); (case e0 => first | exact rfl | assumption); (case e1 => first | exact rfl | assumption); (case e2 => first | exact rfl | assumption); (case e3 => first | exact rfl | assumption); (case e4 => first | exact rfl | assumption); (case e5 => first | exact rfl | assumption); (case e6 => first | exact rfl | assumption); (case N => exact cb_drop (by k_asm) (by kcj_all)); (case f0 => first | assumption | omega | exact ltN (by omega) | omega); (case f1 => first | assumption | omega | exact ltN (by omega) | omega); (case f2 => first | assumption | omega | exact ltN (by omega) | omega); (case f3 => first | assumption | omega | exact ltN (by omega) | omega); (case f4 => first | assumption | omega | exact ltN (by omega) | omega); (case f5 => first | assumption | omega | exact ltN (by omega) | omega); (case f6 => first | assumption | omega | exact ltN (by omega) | omega); (case f7 => first | assumption | omega | exact ltN (by omega) | omega); (case f8 => first | assumption | omega | exact ltN (by omega) | omega); (case f9 => first | assumption | omega | exact ltN (by omega) | omega); (case f10 => first | assumption | omega | exact ltN (by omega) | omega); (case f11 => first | assumption | omega | exact ltN (by omega) | omega); (case f12 => first | assumption | omega | exact ltN (by omega) | omega); (case f13 => first | assumption | omega | exact ltN (by omega) | omega); (case f14 => first | assumption | omega | exact ltN (by omega) | omega); (case f15 => first | assumption | omega | exact ltN (by omega) | omega)
end Mine

end
-- L22
section
local macro_rules | `(tactic| walk_at "pad") => `(tactic| skip)
local macro_rules | `(tactic| walk_at "pad") => `(tactic| skip)
local macro_rules | `(tactic| walk_at "pad") => `(tactic| skip)
local macro_rules | `(tactic| walk_at "pad") => `(tactic| skip)
local macro_rules | `(tactic| walk_at "pad") => `(tactic| skip)
local macro_rules | `(tactic| walk_at "pad") => `(tactic| skip)
local macro_rules | `(tactic| walk_at "pad") => `(tactic| skip)
local macro_rules | `(tactic| walk_at "pad") => `(tactic| skip)
local macro_rules | `(tactic| walk_at "pad") => `(tactic| skip)
local macro_rules | `(tactic| walk_at "pad") => `(tactic| skip)
local macro_rules | `(tactic| walk_at "pad") => `(tactic| skip)
local macro_rules | `(tactic| walk_at "pad") => `(tactic| skip)
theorem Mine.padL22 : (1 : Nat) = 1 := by
  w_top off
  first | (walk1; done) | rfl
end
section
open PySem PySem.Calls PySem.W PyProof.Rows PyProof.V PySem.Spec
namespace Mine
local macro_rules | `(tactic| walk_at "call ref") => `(tactic| (k_here; (with_reducible show wpAny _ _ (call (Value.ref _) [Value.str _ _, Value.str _ _, Value.str _ _] []) _ _ _); k_dflt (refine' use_L (made_regex_str _ _ _ _ _ _ _) ?B ?F ?X ?N ?T ?k ?d ?u ?_; (case B => k_asm); (case F => k_asm); (case X => k_asm); (case N => k_asm); (case T => k_asm); (case k => first | exact rfl | assumption); (case d => ktr_room); (case u => k_units); k_whole); intro a' t3' t4' l1' h' tk' F' N'; (try dsimp only); (try k_sweep); (try k_lt l1')))
local macro_rules | `(tactic| walk_at "call ref") => `(tactic| (k_here; (with_reducible show wpAny _ _ (call (Value.ref _) [Value.str _ _, Value.bytes _ _, Value.int _ _] []) _ _ _); k_dflt (refine' use_L (made_regex_row _ _ _ _ _ _ _) ?B ?F ?X ?N ?T ?k ?d ?u ?_; (case B => k_asm); (case F => k_asm); (case X => k_asm); (case N => k_asm); (case T => k_asm); (case k => first | exact rfl | assumption); (case d => ktr_room); (case u => k_units); k_whole); intro a' t3' t4' l1' h' tk' F' N'; (try dsimp only); (try k_sweep); (try k_lt l1')))
local macro_rules | `(tactic| walk_at "call ref") => `(tactic| (k_here; (with_reducible show wpAny _ _ (call (Value.ref _) [Value.str _ _, Value.int _ _, Value.int _ _] []) _ _ _); k_dflt (refine' use_L (made_regex_kind _ _ _ _ _) ?B ?F ?X ?N ?T ?k ?d ?u ?_; (case B => k_asm); (case F => k_asm); (case X => k_asm); (case N => k_asm); (case T => k_asm); (case k => first | exact rfl | assumption); (case d => ktr_room); (case u => k_units); k_whole); intro t' h' tk' F' N'; (try dsimp only); (try k_sweep)))
local macro_rules | `(tactic| walk_at "call ref") => `(tactic| (k_here; (with_reducible show wpAny _ _ (call (Value.ref _) [Value.str _ _, Value.str _ _, Value.none] []) _ _ _); k_dflt (refine' use_L (made_regex_none _ _ _ _ _) ?B ?F ?X ?N ?T ?k ?d ?u ?_; (case B => k_asm); (case F => k_asm); (case X => k_asm); (case N => k_asm); (case T => k_asm); (case k => first | exact rfl | assumption); (case d => ktr_room); (case u => k_units); k_whole); intro t' h' tk' F' N'; (try dsimp only); (try k_sweep)))
local macro_rules | `(tactic| walk_at "call ref") => `(tactic| (k_here; (with_reducible show wpAny _ _ (call (Value.ref _) [Value.str _ _] []) _ _ _); k_dflt (refine' use_C (new_regex_0 _ _ _ _) ?B ?F ?X ?N ?T ?k ?d ?u ?_; (case B => k_asm); (case F => k_asm); (case X => k_asm); (case N => k_asm); (case T => k_asm); (case k => first | exact rfl | assumption); (case d => ktr_room); (case u => k_units); k_whole); intro x' d' u1' u2' u3' u4' l1' l2' h' tk' F' N'; (try dsimp only); (try k_sweep); (try k_lt l1'); (try k_lt2 l2')))
set_option maxRecDepth 100000 in
set_option maxHeartbeats 8000000 in
theorem step22 (w : World) (H : Pre23 w) : Pre22 w := by
  unfold Pre22
  intro h₀ L o1 o2 m Dn yn nn cc n_ tn row tr d1 od1 kv1 c1 tx tt lx lt gt co1 co2 hf0 hf1 hf2 hf3 hf4 hf5 hf6 hf7 hf8 hf9 hf10 hf11 hf12 hf13 me0 me1 me2 me3 me4 me5 me6
  refine LStep.rest (st := ?st) (sc := ?sc) ?ea ?eb ?_
  case ea => exact rfl
  case eb => exact rfl
  unfold LStep
  k_fill
  intro mean mg mb a cd s K B F X N T hK
  k_steps
  all_goals (refine' hK _ _ _ _ ?F ?N (H h₀ L o1 o2 _ Dn yn nn cc n_ tn row tr d1 od1 kv1 c1 tx tt lx lt gt ?f0 ?f1 ?f2 ?f3 ?f4 ?f5 ?f6 ?f7 ?f8 ?f9 ?f10 ?f11 ?f12 ?f13 ?f14 ?f15 ?e0 ?e1 ?e2 ?e3 ?e4 ?e5 ?e6); (case F => k_asm); (case e0 => first | exact rfl | assumption); (case e1 => first | exact rfl | assumption); (case e2 => first | exact rfl | assumption); (case e3 => first | exact rfl | assumption); (case e4 => first | exact rfl | assumption); (case e5 => first | exact rfl | assumption); (case e6 => first | exact rfl | assumption); (case N => exact cb_drop (by k_asm) (by kcj_all)); (case f0 => first | assumption | omega | exact ltN (by omega) | omega); (case f1 => first | assumption | omega | exact ltN (by omega) | omega); (case f2 => first | assumption | omega | exact ltN (by omega) | omega); (case f3 => first | assumption | omega | exact ltN (by omega) | omega); (case f4 => first | assumption | omega | exact ltN (by omega) | omega); (case f5 => first | assumption | omega | exact ltN (by omega) | omega); (case f6 => first | assumption | omega | exact ltN (by omega) | omega); (case f7 => first | assumption | omega | exact ltN (by omega) | omega); (case f8 => first | assumption | omega | exact ltN (by omega) | omega); (case f9 => first | assumption | omega | exact ltN (by omega) | omega); (case f10 => first | assumption | omega | exact ltN (by omega) | omega); (case f11 => first | assumption | omega | exact ltN (by omega) | omega); (case f12 => first | assumption | omega | exact ltN (by omega) | omega); (case f13 => first | assumption | omega | exact ltN (by omega) | omega); (case f14 => first | assumption | omega | exact ltN (by omega) | omega); (case f15 => first | assumption | omega | exact ltN (by omega) | omega))
end Mine

end
-- L23
section
local macro_rules | `(tactic| walk_at "pad") => `(tactic| skip)
local macro_rules | `(tactic| walk_at "pad") => `(tactic| skip)
local macro_rules | `(tactic| walk_at "pad") => `(tactic| skip)
local macro_rules | `(tactic| walk_at "pad") => `(tactic| skip)
local macro_rules | `(tactic| walk_at "pad") => `(tactic| skip)
local macro_rules | `(tactic| walk_at "pad") => `(tactic| skip)
local macro_rules | `(tactic| walk_at "pad") => `(tactic| skip)
local macro_rules | `(tactic| walk_at "pad") => `(tactic| skip)
local macro_rules | `(tactic| walk_at "pad") => `(tactic| skip)
local macro_rules | `(tactic| walk_at "pad") => `(tactic| skip)
local macro_rules | `(tactic| walk_at "pad") => `(tactic| skip)
local macro_rules | `(tactic| walk_at "pad") => `(tactic| skip)
theorem Mine.padL23 : (1 : Nat) = 1 := by
  w_top off
  first | (walk1; done) | rfl
end
section
open PySem PySem.Calls PySem.W PyProof.Rows PyProof.V PySem.Spec
namespace Mine
local macro_rules | `(tactic| walk_at "ite") => `(tactic| (first | with_reducible refine Mine.ite_bT (beq_self_eq_true _) ?_ | with_reducible refine Mine.ite_bF (Mine.str_x' _) ?_ | with_reducible refine Mine.ite_bF (Mine.str_x _) ?_ | with_reducible refine Mine.ite_bF (Mine.int_succ _) ?_))
local macro_rules | `(tactic| walk_at "call ref") => `(tactic| (k_here; (with_reducible show wpAny _ _ (call (Value.ref _) [Value.str _ _, Value.int _ _] []) _ _ _); k_dflt (refine' use_C (new_regex_i _ _ _ _ _ _) ?B ?F ?X ?N ?T ?k ?d ?u ?_; (case B => k_asm); (case F => k_asm); (case X => k_asm); (case N => k_asm); (case T => k_asm); (case k => first | exact rfl | assumption); (case d => ktr_room); (case u => k_units); k_whole); intro x' d' u1' u2' u3' u4' l1' l2' h' tk' F' N'; (try dsimp only); (try k_sweep); (try k_lt l1'); (try k_lt2 l2')))
local macro_rules | `(tactic| walk_at "call ref") => `(tactic| (k_here; (with_reducible show wpAny _ _ (call (Value.ref _) [Value.str _ _, Value.str _ _] []) _ _ _); k_dflt (refine' use_L (new_regex_s _ _ _ _ _ _) ?B ?F ?X ?N ?T ?k ?d ?u ?_; (case B => k_asm); (case F => k_asm); (case X => k_asm); (case N => k_asm); (case T => k_asm); (case k => first | exact rfl | assumption); (case d => ktr_room); (case u => k_units); k_whole); intro x' d' u1' u2' u3' u4' l1' l2' h' tk' F' N'; (try dsimp only); (try k_sweep); (try k_lt l1'); (try k_lt2 l2')))
set_option maxRecDepth 100000 in
set_option maxHeartbeats 8000000 in
theorem step23 (w : World) (H : Pre24 w) : Pre23 w := by
  unfold Pre23
  intro h₀ L o1 o2 m Dn yn nn cc n_ tn row tr d1 od1 kv1 c1 tx tt lx lt gt co1 co2 hf0 hf1 hf2 hf3 hf4 hf5 hf6 hf7 hf8 hf9 hf10 hf11 hf12 hf13 me0 me1 me2 me3 me4 me5 me6
  refine LStep.rest (st := ?st) (sc := ?sc) ?ea ?eb ?_
  case ea => exact rfl
  case eb => exact rfl
  unfold LStep
  k_fill
  intro mean mg mb a cd s K B F X N T hK
  k_steps
  all_goals (refine' hK _ _ _ _ ?F ?N (H h₀ L o1 o2 _ Dn yn nn cc n_ tn row tr d1 od1 kv1 c1 tx tt ?f0 ?f1 ?f2 ?f3 ?f4 ?f5 ?f6 ?f7 ?f8 ?f9 ?f10 ?f11 ?f12 ?f13 ?f14 ?e0 ?e1 ?e2 ?e3 ?e4); (case F => k_asm); (case e0 => first | exact rfl | assumption); (case e1 => first | exact rfl | assumption); (case e2 => first | exact rfl | assumption); (case e3 => first | exact rfl | assumption); (case e4 => first | exact rfl | assumption); (case N => exact cb_drop (by k_asm) (by kcj_all)); (case f0 => first | assumption | omega | exact ltN (by omega) | omega); (case f1 => first | assumption | omega | exact ltN (by omega) | omega); (case f2 => first | assumption | omega | exact ltN (by omega) | omega); (case f3 => first | assumption | omega | exact ltN (by omega) | omega); (case f4 => first | assumption | omega | exact ltN (by omega) | omega); (case f5 => first | assumption | omega | exact ltN (by omega) | omega); (case f6 => first | assumption | omega | exact ltN (by omega) | omega); (case f7 => first | assumption | omega | exact ltN (by omega) | omega); (case f8 => first | assumption | omega | exact ltN (by omega) | omega); (case f9 => first | assumption | omega | exact ltN (by omega) | omega); (case f10 => first | assumption | omega | exact ltN (by omega) | omega); (case f11 => first | assumption | omega | exact ltN (by omega) | omega); (case f12 => first | assumption | omega | exact ltN (by omega) | omega); (case f13 => first | assumption | omega | exact ltN (by omega) | omega); (case f14 => first | assumption | omega | exact ltN (by omega) | omega))
end Mine

end
-- L24
section
local macro_rules | `(tactic| walk_at "pad") => `(tactic| skip)
local macro_rules | `(tactic| walk_at "pad") => `(tactic| skip)
local macro_rules | `(tactic| walk_at "pad") => `(tactic| skip)
local macro_rules | `(tactic| walk_at "pad") => `(tactic| skip)
local macro_rules | `(tactic| walk_at "pad") => `(tactic| skip)
local macro_rules | `(tactic| walk_at "pad") => `(tactic| skip)
local macro_rules | `(tactic| walk_at "pad") => `(tactic| skip)
local macro_rules | `(tactic| walk_at "pad") => `(tactic| skip)
local macro_rules | `(tactic| walk_at "pad") => `(tactic| skip)
local macro_rules | `(tactic| walk_at "pad") => `(tactic| skip)
local macro_rules | `(tactic| walk_at "pad") => `(tactic| skip)
local macro_rules | `(tactic| walk_at "pad") => `(tactic| skip)
theorem Mine.padL24 : (1 : Nat) = 1 := by
  w_top off
  first | (walk1; done) | rfl
end
section
open PySem PySem.Calls PySem.W PyProof.Rows PyProof.V PySem.Spec
namespace Mine
set_option maxRecDepth 100000 in
set_option maxHeartbeats 8000000 in
theorem step24 (w : World) (H : Pre25 w) : Pre24 w := by
  unfold Pre24
  intro h₀ L o1 o2 m Dn yn nn cc n_ tn row tr d1 od1 kv1 c1 tx tt co1 co2 hf0 hf1 hf2 hf3 hf4 hf5 hf6 hf7 hf8 hf9 hf10 hf11 hf12 me0 me1 me2 me3 me4
  refine LStep.rest (st := ?st) (sc := ?sc) ?ea ?eb ?_
  case ea => exact rfl
  case eb => exact rfl
  unfold LStep
  k_fill
  intro mean mg mb a cd s K B F X N T hK
  k_steps
  · refine' hK _ _ _ _ ?F ?N (H h₀ L o1 o2 _ Dn yn nn cc n_ tn row tr d1 od1 kv1 c1 tx tt none 0 ?f0 ?f1 ?f2 ?f3 ?f4 ?f5 ?f6 ?f7 ?f8 ?f9 ?f10 ?f11 ?f12 ?f13 ?f14 ?f15 ?e0 ?e1 ?e2 ?e3 ?e4 ?e5); (case F => k_asm); (case e0 => first | exact rfl | assumption); (case e1 => first | exact rfl | assumption); (case e2 => first | exact rfl | assumption); (case e3 => first | exact rfl | assumption); (case e4 => first | exact rfl | assumption); (case e5 => first | exact rfl | assumption); (case N => exact cb_drop (by k_asm) (by kcj_all)); (case f0 => first | assumption | omega | exact ltN (by omega) | (first | exact .inl rfl | exact .inr rfl)); (case f1 => first | assumption | omega | exact ltN (by omega) | (first | exact .inl rfl | exact .inr rfl)); (case f2 => first | assumption | omega | exact ltN (by omega) | (first | exact .inl rfl | exact .inr rfl)); (case f3 => first | assumption | omega | exact ltN (by omega) | (first | exact .inl rfl | exact .inr rfl)); (case f4 => first | assumption | omega | exact ltN (by omega) | (first | exact .inl rfl | exact .inr rfl)); (case f5 => first | assumption | omega | exact ltN (by omega) | (first | exact .inl rfl | exact .inr rfl)); (case f6 => first | assumption | omega | exact ltN (by omega) | (first | exact .inl rfl | exact .inr rfl)); (case f7 => first | assumption | omega | exact ltN (by omega) | (first | exact .inl rfl | exact .inr rfl)); (case f8 => first | assumption | omega | exact ltN (by omega) | (first | exact .inl rfl | exact .inr rfl)); (case f9 => first | assumption | omega | exact ltN (by omega) | (first | exact .inl rfl | exact .inr rfl)); (case f10 => first | assumption | omega | exact ltN (by omega) | (first | exact .inl rfl | exact .inr rfl)); (case f11 => first | assumption | omega | exact ltN (by omega) | (first | exact .inl rfl | exact .inr rfl)); (case f12 => first | assumption | omega | exact ltN (by omega) | (first | exact .inl rfl | exact .inr rfl)); (case f13 => first | assumption | omega | exact ltN (by omega) | (first | exact .inl rfl | exact .inr rfl)); (case f14 => first | assumption | omega | exact ltN (by omega) | (first | exact .inl rfl | exact .inr rfl)); (case f15 => first | assumption | omega | exact ltN (by omega) | (first | exact .inl rfl | exact .inr rfl))
  · refine' hK _ _ _ _ ?F ?N (H h₀ L o1 o2 _ Dn yn nn cc n_ tn row tr d1 od1 kv1 c1 tx tt (some tx) tt ?f0 ?f1 ?f2 ?f3 ?f4 ?f5 ?f6 ?f7 ?f8 ?f9 ?f10 ?f11 ?f12 ?f13 ?f14 ?f15 ?e0 ?e1 ?e2 ?e3 ?e4 ?e5); (case F => k_asm); (case e0 => first | exact rfl | assumption); (case e1 => first | exact rfl | assumption); (case e2 => first | exact rfl | assumption); (case e3 => first | exact rfl | assumption); (case e4 => first | exact rfl | assumption); (case e5 => first | exact rfl | assumption); (case N => exact cb_drop (by k_asm) (by kcj_all)); (case f0 => first | assumption | omega | exact ltN (by omega) | (first | exact .inl rfl | exact .inr rfl)); (case f1 => first | assumption | omega | exact ltN (by omega) | (first | exact .inl rfl | exact .inr rfl)); (case f2 => first | assumption | omega | exact ltN (by omega) | (first | exact .inl rfl | exact .inr rfl)); (case f3 => first | assumption | omega | exact ltN (by omega) | (first | exact .inl rfl | exact .inr rfl)); (case f4 => first | assumption | omega | exact ltN (by omega) | (first | exact .inl rfl | exact .inr rfl)); (case f5 => first | assumption | omega | exact ltN (by omega) | (first | exact .inl rfl | exact .inr rfl)); (case f6 => first | assumption | omega | exact ltN (by omega) | (first | exact .inl rfl | exact .inr rfl)); (case f7 => first | assumption | omega | exact ltN (by omega) | (first | exact .inl rfl | exact .inr rfl)); (case f8 => first | assumption | omega | exact ltN (by omega) | (first | exact .inl rfl | exact .inr rfl)); (case f9 => first | assumption | omega | exact ltN (by omega) | (first | exact .inl rfl | exact .inr rfl)); (case f10 => first | assumption | omega | exact ltN (by omega) | (first | exact .inl rfl | exact .inr rfl)); (case f11 => first | assumption | omega | exact ltN (by omega) | (first | exact .inl rfl | exact .inr rfl)); (case f12 => first | assumption | omega | exact ltN (by omega) | (first | exact .inl rfl | exact .inr rfl)); (case f13 => first | assumption | omega | exact ltN (by omega) | (first | exact .inl rfl | exact .inr rfl)); (case f14 => first | assumption | omega | exact ltN (by omega) | (first | exact .inl rfl | exact .inr rfl)); (case f15 => first | assumption | omega | exact ltN (by omega) | (first | exact .inl rfl | exact .inr rfl))
end Mine

end
-- L25
section
local macro_rules | `(tactic| walk_at "pad") => `(tactic| skip)
local macro_rules | `(tactic| walk_at "pad") => `(tactic| skip)
local macro_rules | `(tactic| walk_at "pad") => `(tactic| skip)
local macro_rules | `(tactic| walk_at "pad") => `(tactic| skip)
local macro_rules | `(tactic| walk_at "pad") => `(tactic| skip)
local macro_rules | `(tactic| walk_at "pad") => `(tactic| skip)
local macro_rules | `(tactic| walk_at "pad") => `(tactic| skip)
local macro_rules | `(tactic| walk_at "pad") => `(tactic| skip)
local macro_rules | `(tactic| walk_at "pad") => `(tactic| skip)
local macro_rules | `(tactic| walk_at "pad") => `(tactic| skip)
local macro_rules | `(tactic| walk_at "pad") => `(tactic| skip)
local macro_rules | `(tactic| walk_at "pad") => `(tactic| skip)
theorem Mine.padL25 : (1 : Nat) = 1 := by
  w_top off
  first | (walk1; done) | rfl
end
section
open PySem PySem.Calls PySem.W PyProof.Rows PyProof.V PySem.Spec
namespace Mine
local macro_rules | `(tactic| walk_at "call ref") => `(tactic| (k_here; (with_reducible show wpAny _ _ (call (Value.ref _) [Value.str _ _, Value.str _ _, baseV _ _] []) _ _ _); k_dflt (refine' use_L (made_ref_b _ _ _ _ _ _ _) ?B ?F ?X ?N ?T ?k ?d ?u ?_; (case B => k_asm); (case F => k_asm); (case X => k_asm); (case N => k_asm); (case T => k_asm); (case k => first | exact rfl | assumption); (case d => ktr_room); (case u => k_units); k_whole); intro a' t3' t4' t5' l1' h' tk' F' N'; (try dsimp only); (try k_sweep); (try k_lt l1')))
local macro_rules | `(tactic| walk_at "call ref") => `(tactic| (k_here; (with_reducible show wpAny _ _ (call (Value.ref _) [Value.str _ _, Value.str _ _, Value.int _ _] []) _ _ _); k_dflt (refine' use_L (made_ref_int _ _ _ _ _ _) ?B ?F ?X ?N ?T ?k ?d ?u ?_; (case B => k_asm); (case F => k_asm); (case X => k_asm); (case N => k_asm); (case T => k_asm); (case k => first | exact rfl | assumption); (case d => ktr_room); (case u => k_units); k_whole); intro t' h' tk' F' N'; (try dsimp only); (try k_sweep)))
local macro_rules | `(tactic| walk_at "call ref") => `(tactic| (k_here; (with_reducible show wpAny _ _ (call (Value.ref _) [Value.str _ _, Value.int _ _, baseV _ _] []) _ _ _); k_dflt (refine' use_L (made_ref_kind_b _ _ _ _ _ _) ?B ?F ?X ?N ?T ?k ?d ?u ?_; (case B => k_asm); (case F => k_asm); (case X => k_asm); (case N => k_asm); (case T => k_asm); (case k => first | exact rfl | assumption); (case d => ktr_room); (case u => k_units); k_whole); intro t' h' tk' F' N'; (try dsimp only); (try k_sweep)))
local macro_rules | `(tactic| walk_at "call ref") => `(tactic| (k_here; (with_reducible show wpAny _ _ (call (Value.ref _) [Value.str _ _, Value.none, baseV _ _] []) _ _ _); k_dflt (refine' use_L (made_ref_kind_nb _ _ _ _ _) ?B ?F ?X ?N ?T ?k ?d ?u ?_; (case B => k_asm); (case F => k_asm); (case X => k_asm); (case N => k_asm); (case T => k_asm); (case k => first | exact rfl | assumption); (case d => ktr_room); (case u => k_units); k_whole); intro t' h' tk' F' N'; (try dsimp only); (try k_sweep)))
set_option maxRecDepth 100000 in
set_option maxHeartbeats 8000000 in
theorem step25 (w : World) (H : Pre26 w) : Pre25 w := by
  unfold Pre25
  intro h₀ L o1 o2 m Dn yn nn cc n_ tn row tr d1 od1 kv1 c1 tx tt ob tb co1 co2 hf0 hf1 hf2 hf3 hf4 hf5 hf6 hf7 hf8 hf9 hf10 hf11 hf12 hf13 me0 me1 me2 me3 me4 me5
  refine LStep.rest (st := ?st) (sc := ?sc) ?ea ?eb ?_
  case ea => exact rfl
  case eb => exact rfl
  unfold LStep
  k_fill
  intro mean mg mb a cd s K B F X N T hK
  k_steps
  all_goals (refine' hK _ _ _ _ ?F ?N (H h₀ L o1 o2 _ Dn yn nn cc n_ tn row tr d1 od1 kv1 c1 tx tt ob tb ?f0 ?f1 ?f2 ?f3 ?f4 ?f5 ?f6 ?f7 ?f8 ?f9 ?f10 ?f11 ?f12 ?f13 ?f14 ?f15 ?e0 ?e1 ?e2 ?e3 ?e4 ?e5); (case F => k_asm); (case e0 => first | exact rfl | assumption); (case e1 => first | exact rfl | assumption); (case e2 => first | exact rfl | assumption); (case e3 => first | exact rfl | assumption); (case e4 => first | exact rfl | assumption); (case e5 => first | exact rfl | assumption); (case N => exact cb_drop (by k_asm) (by kcj_all)); (case f0 => first | assumption | omega | exact ltN (by omega) | omega); (case f1 => first | assumption | omega | exact ltN (by omega) | omega); (case f2 => first | assumption | omega | exact ltN (by omega) | omega); (case f3 => first | assumption | omega | exact ltN (by omega) | omega); (case f4 => first | assumption | omega | exact ltN (by omega) | omega); (case f5 => first | assumption | omega | exact ltN (by omega) | omega); (case f6 => first | assumption | omega | exact ltN (by omega) | omega); (case f7 => first | assumption | omega | exact ltN (by omega) | omega); (case f8 => first | assumption | omega | exact ltN (by omega) | omega); (case f9 => first | assumption | omega | exact ltN (by omega) | omega); (case f10 => first | assumption | omega | exact ltN (by omega) | omega); (case f11 => first | assumption | omega | exact ltN (by omega) | omega); (case f12 => first | assumption | omega | exact ltN (by omega) | omega); (case f13 => first | assumption | omega | exact ltN (by omega) | omega); (case f14 => first | assumption | omega | exact ltN (by omega) | omega); (case f15 => first | assumption | omega | exact ltN (by omega) | omega))
end Mine

end
-- L26
section
local macro_rules | `(tactic| walk_at "pad") => `(tactic| skip)
local macro_rules | `(tactic| walk_at "pad") => `(tactic| skip)
local macro_rules | `(tactic| walk_at "pad") => `(tactic| skip)
local macro_rules | `(tactic| walk_at "pad") => `(tactic| skip)
local macro_rules | `(tactic| walk_at "pad") => `(tactic| skip)
local macro_rules | `(tactic| walk_at "pad") => `(tactic| skip)
local macro_rules | `(tactic| walk_at "pad") => `(tactic| skip)
local macro_rules | `(tactic| walk_at "pad") => `(tactic| skip)
local macro_rules | `(tactic| walk_at "pad") => `(tactic| skip)
local macro_rules | `(tactic| walk_at "pad") => `(tactic| skip)
local macro_rules | `(tactic| walk_at "pad") => `(tactic| skip)
local macro_rules | `(tactic| walk_at "pad") => `(tactic| skip)
theorem Mine.padL26 : (1 : Nat) = 1 := by
  w_top off
  first | (walk1; done) | rfl
end
section
open PySem PySem.Calls PySem.W PyProof.Rows PyProof.V PySem.Spec
namespace Mine
local macro_rules | `(tactic| walk_at "call ref") => `(tactic| (k_here; (with_reducible show wpAny _ _ (call (Value.ref _) [Value.ref _, Value.ref _] _) _ _ _); k_dflt (refine' use_C (joined _ _ _ _ _ _ _ _ _ _ ?lo1 ?lo2 ?hd1 ?hd2 ?hf1 ?hf2 ?hl1 ?hl2) ?B ?F ?X ?N ?T ?k ?d ?u ?_; (case B => k_asm); (case F => k_asm); (case X => k_asm); (case T => k_asm); (case k => first | exact rfl | assumption); (case d => ktr_room); (case u => k_units); (case N => exact news_pick2 (by k_asm) (by k_mem) (by k_mem)); (case lo1 => assumption); (case lo2 => assumption); (case hd1 => assumption); (case hd2 => assumption); (case hf1 => first | with_reducible assumption | exact Mine.fp_nil (by with_reducible assumption) | exact Mine.fp_disp (by with_reducible assumption) | exact Mine.fp_kw (by with_reducible assumption) | assumption); (case hf2 => first | with_reducible assumption | exact Mine.fp_nil (by with_reducible assumption) | exact Mine.fp_disp (by with_reducible assumption) | exact Mine.fp_kw (by with_reducible assumption) | assumption); (case hl1 => first | exact Nat.le_of_ble_eq_true rfl | omega | exact Nat.le_trans (putAll_len _ _) (by first | omega | (simp; omega))); (case hl2 => first | exact Nat.le_of_ble_eq_true rfl | omega | exact Nat.le_trans (putAll_len _ _) (by first | omega | (simp; omega))); k_whole); intro d' o' kv' l1' lo' hd' hf' h' tk' F' N'; (replace N' := news_unpick2 N'); (replace l1' := lt_unpick2 l1'); (try simp only [putAll_nil_r] at hf'); (try dsimp only); (try k_sweep); (try k_lt l1')))
local macro_rules | `(tactic| walk_at "call ref") => `(tactic| (k_here; (with_reducible show wpAny _ _ (call (Value.ref _) [Value.str _ _, Value.int _ _, baseV _ _, Value.ref _] []) _ _ _); k_dflt (refine' use_L (new_dbref_d _ _ _ _ _ _ ?lo1 ?hd1 ?hf1 ?hl1 ?hn1 _ _ _ _ _ _) ?B ?F ?X ?N ?T ?k ?d ?u ?_; (case B => k_asm); (case F => k_asm); (case X => k_asm); (case T => k_asm); (case k => first | exact rfl | assumption); (case d => ktr_room); (case u => k_units); (case N => exact news_pick1 (by k_asm) (by k_mem)); (case lo1 => assumption); (case hd1 => assumption); (case hf1 => first | with_reducible assumption | exact Mine.fp_nil (by with_reducible assumption) | exact Mine.fp_disp (by with_reducible assumption) | exact Mine.fp_kw (by with_reducible assumption) | assumption); (case hl1 => first | omega | exact Nat.le_of_ble_eq_true rfl | exact Nat.le_trans (putAll_len _ _) (by first | omega | (simp; omega))); (case hn1 => first | omega | exact Nat.le_of_ble_eq_true rfl | exact Nat.le_trans (by first | omega | assumption) (putAll_ge _ _)); k_whole); intro x' d' kd' okd' kvd' u1' u2' u3' u4' u5' u6' u7' l1' l2' l3' lo' hd' hf' h' tk' F' N'; (replace N' := news_unpick13 N'); (replace l1' := lt_unpick1 l1'); (try simp only [putAll_nil_r] at hf'); (try dsimp only); (try k_sweep); (try k_lt l1')))
set_option maxRecDepth 100000 in
set_option maxHeartbeats 8000000 in
theorem step26 (w : World) (H : Pre27 w) : Pre26 w := by
  unfold Pre26
  intro h₀ L o1 o2 m Dn yn nn cc n_ tn row tr d1 od1 kv1 c1 tx tt ob tb co1 co2 hf0 hf1 hf2 hf3 hf4 hf5 hf6 hf7 hf8 hf9 hf10 hf11 hf12 hf13 me0 me1 me2 me3 me4 me5
  refine LStep.rest (st := ?st) (sc := ?sc) ?ea ?eb ?_
  case ea => exact rfl
  case eb => exact rfl
  unfold LStep
  k_fill
  intro mean mg mb a cd s K B F X N T hK
  have hpn : putAll [] c1 = c1 := putAll_nil (nodup_of hf7 hf8)
  k_steps
  all_goals (refine' hK _ _ _ _ ?F ?N (H h₀ L o1 _ _ Dn yn nn cc n_ tn row tr d1 od1 kv1 c1 tx tt ob tb _ _ _ _ _ _ _ _ _ _ _ _ ?f0 ?f1 ?f2 ?f3 ?f4 ?f5 ?f6 ?f7 ?f8 ?f9 ?f10 ?f11 ?f12 ?f13 ?f14 ?f15 ?f16 ?f17 ?f18 ?f19 ?f20 ?f21 ?e0 ?e1 ?e2 ?e3 ?e4 ?e5); (case F => k_asm); (case e0 => first | exact rfl | assumption); (case e1 => first | exact rfl | assumption); (case e2 => first | exact rfl | assumption); (case e3 => first | exact rfl | assumption); (case e4 => first | exact rfl | assumption); (case e5 => first | exact rfl | assumption); (case N => exact cb_drop (by k_asm) (by kcj_all)); (case f0 => first | assumption | omega | exact ltN (by omega) | (rw [← hpn]; assumption)); (case f1 => first | assumption | omega | exact ltN (by omega) | (rw [← hpn]; assumption)); (case f2 => first | assumption | omega | exact ltN (by omega) | (rw [← hpn]; assumption)); (case f3 => first | assumption | omega | exact ltN (by omega) | (rw [← hpn]; assumption)); (case f4 => first | assumption | omega | exact ltN (by omega) | (rw [← hpn]; assumption)); (case f5 => first | assumption | omega | exact ltN (by omega) | (rw [← hpn]; assumption)); (case f6 => first | assumption | omega | exact ltN (by omega) | (rw [← hpn]; assumption)); (case f7 => first | assumption | omega | exact ltN (by omega) | (rw [← hpn]; assumption)); (case f8 => first | assumption | omega | exact ltN (by omega) | (rw [← hpn]; assumption)); (case f9 => first | assumption | omega | exact ltN (by omega) | (rw [← hpn]; assumption)); (case f10 => first | assumption | omega | exact ltN (by omega) | (rw [← hpn]; assumption)); (case f11 => first | assumption | omega | exact ltN (by omega) | (rw [← hpn]; assumption)); (case f12 => first | assumption | omega | exact ltN (by omega) | (rw [← hpn]; assumption)); (case f13 => first | assumption | omega | exact ltN (by omega) | (rw [← hpn]; assumption)); (case f14 => first | assumption | omega | exact ltN (by omega) | (rw [← hpn]; assumption)); (case f15 => first | assumption | omega | exact ltN (by omega) | (rw [← hpn]; assumption)); (case f16 => first | assumption | omega | exact ltN (by omega) | (rw [← hpn]; assumption)); (case f17 => first | assumption | omega | exact ltN (by omega) | (rw [← hpn]; assumption)); (case f18 => first | assumption | omega | exact ltN (by omega) | (rw [← hpn]; assumption)); (case f19 => first | assumption | omega | exact ltN (by omega) | (rw [← hpn]; assumption)); (case f20 => first | assumption | omega | exact ltN (by omega) | (rw [← hpn]; assumption)); (case f21 => first | assumption | omega | exact ltN (by omega) | (rw [← hpn]; assumption)))
end Mine

end
-- L27
section
local macro_rules | `(tactic| walk_at "pad") => `(tactic| skip)
local macro_rules | `(tactic| walk_at "pad") => `(tactic| skip)
local macro_rules | `(tactic| walk_at "pad") => `(tactic| skip)
local macro_rules | `(tactic| walk_at "pad") => `(tactic| skip)
local macro_rules | `(tactic| walk_at "pad") => `(tactic| skip)
local macro_rules | `(tactic| walk_at "pad") => `(tactic| skip)
local macro_rules | `(tactic| walk_at "pad") => `(tactic| skip)
local macro_rules | `(tactic| walk_at "pad") => `(tactic| skip)
local macro_rules | `(tactic| walk_at "pad") => `(tactic| skip)
local macro_rules | `(tactic| walk_at "pad") => `(tactic| skip)
local macro_rules | `(tactic| walk_at "pad") => `(tactic| skip)
local macro_rules | `(tactic| walk_at "pad") => `(tactic| skip)
theorem Mine.padL27 : (1 : Nat) = 1 := by
  w_top off
  first | (walk1; done) | rfl
end
section
open PySem PySem.Calls PySem.W PyProof.Rows PyProof.V PySem.Spec
namespace Mine
local macro_rules | `(tactic| walk_at "call ref") => `(tactic| (k_here; (with_reducible show wpAny _ _ (call (Value.ref _) [Value.ref _, Value.ref _] _) _ _ _); k_dflt (refine' use_C (joined _ _ _ _ _ _ _ _ _ _ ?lo1 ?lo2 ?hd1 ?hd2 ?hf1 ?hf2 ?hl1 ?hl2) ?B ?F ?X ?N ?T ?k ?d ?u ?_; (case B => k_asm); (case F => k_asm); (case X => k_asm); (case T => k_asm); (case k => first | exact rfl | assumption); (case d => ktr_room); (case u => k_units); (case N => exact news_pick2 (by k_asm) (by k_mem) (by k_mem)); (case lo1 => assumption); (case lo2 => assumption); (case hd1 => assumption); (case hd2 => assumption); (case hf1 => first | with_reducible assumption | exact Mine.fp_nil (by with_reducible assumption) | exact Mine.fp_disp (by with_reducible assumption) | exact Mine.fp_kw (by with_reducible assumption) | assumption); (case hf2 => first | with_reducible assumption | exact Mine.fp_nil (by with_reducible assumption) | exact Mine.fp_disp (by with_reducible assumption) | exact Mine.fp_kw (by with_reducible assumption) | assumption); (case hl1 => first | exact Nat.le_of_ble_eq_true rfl | omega | exact Nat.le_trans (putAll_len _ _) (by first | omega | (simp; omega))); (case hl2 => first | exact Nat.le_of_ble_eq_true rfl | omega | exact Nat.le_trans (putAll_len _ _) (by first | omega | (simp; omega))); k_whole); intro d' o' kv' l1' lo' hd' hf' h' tk' F' N'; (replace N' := news_unpick2 N'); (replace l1' := lt_unpick2 l1'); (try simp only [putAll_nil_r] at hf'); (try dsimp only); (try k_sweep); (try k_lt l1')))
local macro_rules | `(tactic| walk_at "call ref") => `(tactic| (k_here; (with_reducible show wpAny _ _ (call (Value.ref _) [Value.str _ _, Value.int _ _, baseV _ _, Value.ref _] []) _ _ _); k_dflt (refine' use_L (new_dbref_d _ _ _ _ _ _ ?lo1 ?hd1 ?hf1 ?hl1 ?hn1 _ _ _ _ _ _) ?B ?F ?X ?N ?T ?k ?d ?u ?_; (case B => k_asm); (case F => k_asm); (case X => k_asm); (case T => k_asm); (case k => first | exact rfl | assumption); (case d => ktr_room); (case u => k_units); (case N => exact news_pick1 (by k_asm) (by k_mem)); (case lo1 => assumption); (case hd1 => assumption); (case hf1 => first | with_reducible assumption | exact Mine.fp_nil (by with_reducible assumption) | exact Mine.fp_disp (by with_reducible assumption) | exact Mine.fp_kw (by with_reducible assumption) | assumption); (case hl1 => first | omega | exact Nat.le_of_ble_eq_true rfl | exact Nat.le_trans (putAll_len _ _) (by first | omega | (simp; omega))); (case hn1 => first | omega | exact Nat.le_of_ble_eq_true rfl | exact Nat.le_trans (by first | omega | assumption) (putAll_ge _ _)); k_whole); intro x' d' kd' okd' kvd' u1' u2' u3' u4' u5' u6' u7' l1' l2' l3' lo' hd' hf' h' tk' F' N'; (replace N' := news_unpick13 N'); (replace l1' := lt_unpick1 l1'); (try simp only [putAll_nil_r] at hf'); (try dsimp only); (try k_sweep); (try k_lt l1')))
local macro_rules | `(tactic| walk_at "call ref") => `(tactic| (k_here; (with_reducible show wpAny _ _ (call (Value.ref _) [Value.str _ _, Value.int _ _, Value.str _ _, Value.ref _] []) _ _ _); k_dflt (refine' use_L (new_dbref_s _ _ _ _ _ _ ?lo1 ?hd1 ?hf1 ?hl1 ?hn1 _ _ _ _ _ _) ?B ?F ?X ?N ?T ?k ?d ?u ?_; (case B => k_asm); (case F => k_asm); (case X => k_asm); (case T => k_asm); (case k => first | exact rfl | assumption); (case d => ktr_room); (case u => k_units); (case N => exact news_pick1 (by k_asm) (by k_mem)); (case lo1 => assumption); (case hd1 => assumption); (case hf1 => first | with_reducible assumption | exact Mine.fp_nil (by with_reducible assumption) | exact Mine.fp_disp (by with_reducible assumption) | exact Mine.fp_kw (by with_reducible assumption) | assumption); (case hl1 => first | omega | exact Nat.le_of_ble_eq_true rfl | exact Nat.le_trans (putAll_len _ _) (by first | omega | (simp; omega))); (case hn1 => first | omega | exact Nat.le_of_ble_eq_true rfl | exact Nat.le_trans (by first | omega | assumption) (putAll_ge _ _)); k_whole); intro x' d' kd' okd' kvd' u1' u2' u3' u4' u5' u6' u7' l1' l2' l3' lo' hd' hf' h' tk' F' N'; (replace N' := news_unpick13 N'); (replace l1' := lt_unpick1 l1'); (try simp only [putAll_nil_r] at hf'); (try dsimp only); (try k_sweep); (try k_lt l1')))
local macro_rules | `(tactic| walk_at "call ref") => `(tactic| (k_here; (with_reducible show wpAny _ _ (call (Value.ref _) [Value.str _ _, Value.int _ _, baseV _ _, Value.none] _) _ _ _); k_dflt (refine' use_L (new_dbref_z _ _ _ _ _ _ _ _ _) ?B ?F ?X ?N ?T ?k ?d ?u ?_; (case B => k_asm); (case F => k_asm); (case X => k_asm); (case T => k_asm); (case k => first | exact rfl | assumption); (case d => ktr_room); (case u => k_units); (case N => k_asm); k_whole); intro x' d' kd' okd' kvd' u1' u2' u3' u4' u5' u6' u7' l1' l2' l3' lo' hd' hf' h' tk' F' N'; (try dsimp only); (try k_sweep); (try k_lt l1')))
set_option maxRecDepth 100000 in
set_option maxHeartbeats 8000000 in
theorem step27 (w : World) (H : Pre28 w) : Pre27 w := by
  unfold Pre27
  intro h₀ L o1 o2 m Dn yn nn cc n_ tn row tr d1 od1 kv1 c1 tx tt ob tb rx rd rk rt1 rt2 rt3 rt4 rt5 rt6 rt7 ork kvr co1 hf0 hf1 hf2 hf3 hf4 hf5 hf6 hf7 hf8 hf9 hf10 hf11 hf12 hf13 hf14 hf15 hf16 hf17 hf18 hf19 hf20 me0 me1 me2 me3 me4 me5
  refine LStep.rest (st := ?st) (sc := ?sc) ?ea ?eb ?_
  case ea => exact rfl
  case eb => exact rfl
  unfold LStep
  k_fill
  intro mean mg mb a cd s K B F X N T hK
  have hpn : putAll [] c1 = c1 := putAll_nil (nodup_of hf7 hf8)
  have hz5 : putAll [] (putAll c1 [(Str.ofString "z", (1 : Int))]) = c1 ++ [(Str.ofString "z", 1)] := put_z (nodup_of hf7 hf8) (by assumption)
  k_steps
  all_goals (refine' hK _ _ _ _ ?F ?N (H h₀ L o1 o2 _ Dn yn nn cc n_ tn row tr d1 od1 kv1 c1 tx tt ob tb rx rd rk rt1 rt2 rt3 rt4 rt5 rt6 rt7 ork kvr _ _ _ _ _ _ _ _ _ _ _ _ _ _ _ _ _ _ _ _ _ _ _ _ _ _ _ _ _ _ _ _ _ _ _ _ _ _ _ _ _ _ _ _ _ _ _ _ _ _ _ _ _ _ _ _ _ _ _ _ _ _ _ _ _ _ _ _ _ _ _ _ _ _ ?f0 ?f1 ?f2 ?f3 ?f4 ?f5 ?f6 ?f7 ?f8 ?f9 ?f10 ?f11 ?f12 ?f13 ?f14 ?f15 ?f16 ?f17 ?f18 ?f19 ?f20 ?f21 ?f22 ?f23 ?f24 ?f25 ?f26 ?f27 ?f28 ?f29 ?f30 ?f31 ?f32 ?f33 ?f34 ?f35 ?f36 ?f37 ?f38 ?f39 ?f40 ?f41 ?f42 ?f43 ?f44 ?f45 ?e0 ?e1 ?e2 ?e3 ?e4 ?e5 ?e6); (case F => k_asm); (case e0 => first | exact rfl | assumption); (case e1 => first | exact rfl | assumption); (case e2 => first | exact rfl | assumption); (case e3 => first | exact rfl | assumption); (case e4 => first | exact rfl | assumption); (case e5 => first | exact rfl | assumption); (case e6 => first | exact rfl | assumption); (case N => exact cb_drop (by k_asm) (by kcj_all)); (case f0 => first | assumption | omega | exact ltN (by omega) | (first | (rw [← hpn]; assumption) | (rw [← hz5]; assumption) | (rw [hpn]; assumption))); (case f1 => first | assumption | omega | exact ltN (by omega) | (first | (rw [← hpn]; assumption) | (rw [← hz5]; assumption) | (rw [hpn]; assumption))); (case f2 => first | assumption | omega | exact ltN (by omega) | (first | (rw [← hpn]; assumption) | (rw [← hz5]; assumption) | (rw [hpn]; assumption))); (case f3 => first | assumption | omega | exact ltN (by omega) | (first | (rw [← hpn]; assumption) | (rw [← hz5]; assumption) | (rw [hpn]; assumption))); (case f4 => first | assumption | omega | exact ltN (by omega) | (first | (rw [← hpn]; assumption) | (rw [← hz5]; assumption) | (rw [hpn]; assumption))); (case f5 => first | assumption | omega | exact ltN (by omega) | (first | (rw [← hpn]; assumption) | (rw [← hz5]; assumption) | (rw [hpn]; assumption))); (case f6 => first | assumption | omega | exact ltN (by omega) | (first | (rw [← hpn]; assumption) | (rw [← hz5]; assumption) | (rw [hpn]; assumption))); (case f7 => first | assumption | omega | exact ltN (by omega) | (first | (rw [← hpn]; assumption) | (rw [← hz5]; assumption) | (rw [hpn]; assumption))); (case f8 => first | assumption | omega | exact ltN (by omega) | (first | (rw [← hpn]; assumption) | (rw [← hz5]; assumption) | (rw [hpn]; assumption))); (case f9 => first | assumption | omega | exact ltN (by omega) | (first | (rw [← hpn]; assumption) | (rw [← hz5]; assumption) | (rw [hpn]; assumption))); (case f10 => first | assumption | omega | exact ltN (by omega) | (first | (rw [← hpn]; assumption) | (rw [← hz5]; assumption) | (rw [hpn]; assumption))); (case f11 => first | assumption | omega | exact ltN (by omega) | (first | (rw [← hpn]; assumption) | (rw [← hz5]; assumption) | (rw [hpn]; assumption))); (case f12 => first | assumption | omega | exact ltN (by omega) | (first | (rw [← hpn]; assumption) | (rw [← hz5]; assumption) | (rw [hpn]; assumption))); (case f13 => first | assumption | omega | exact ltN (by omega) | (first | (rw [← hpn]; assumption) | (rw [← hz5]; assumption) | (rw [hpn]; assumption))); (case f14 => first | assumption | omega | exact ltN (by omega) | (first | (rw [← hpn]; assumption) | (rw [← hz5]; assumption) | (rw [hpn]; assumption))); (case f15 => first | assumption | omega | exact ltN (by omega) | (first | (rw [← hpn]; assumption) | (rw [← hz5]; assumption) | (rw [hpn]; assumption))); (case f16 => first | assumption | omega | exact ltN (by omega) | (first | (rw [← hpn]; assumption) | (rw [← hz5]; assumption) | (rw [hpn]; assumption))); (case f17 => first | assumption | omega | exact ltN (by omega) | (first | (rw [← hpn]; assumption) | (rw [← hz5]; assumption) | (rw [hpn]; assumption))); (case f18 => first | assumption | omega | exact ltN (by omega) | (first | (rw [← hpn]; assumption) | (rw [← hz5]; assumption) | (rw [hpn]; assumption))); (case f19 => first | assumption | omega | exact ltN (by omega) | (first | (rw [← hpn]; assumption) | (rw [← hz5]; assumption) | (rw [hpn]; assumption))); (case f20 => first | assumption | omega | exact ltN (by omega) | (first | (rw [← hpn]; assumption) | (rw [← hz5]; assumption) | (rw [hpn]; assumption))); (case f21 => first | assumption | omega | exact ltN (by omega) | (first | (rw [← hpn]; assumption) | (rw [← hz5]; assumption) | (rw [hpn]; assumption))); (case f22 => first | assumption | omega | exact ltN (by omega) | (first | (rw [← hpn]; assumption) | (rw [← hz5]; assumption) | (rw [hpn]; assumption))); (case f23 => first | assumption | omega | exact ltN (by omega) | (first | (rw [← hpn]; assumption) | (rw [← hz5]; assumption) | (rw [hpn]; assumption))); (case f24 => first | assumption | omega | exact ltN (by omega) | (first | (rw [← hpn]; assumption) | (rw [← hz5]; assumption) | (rw [hpn]; assumption))); (case f25 => first | assumption | omega | exact ltN (by omega) | (first | (rw [← hpn]; assumption) | (rw [← hz5]; assumption) | (rw [hpn]; assumption))); (case f26 => first | assumption | omega | exact ltN (by omega) | (first | (rw [← hpn]; assumption) | (rw [← hz5]; assumption) | (rw [hpn]; assumption))); (case f27 => first | assumption | omega | exact ltN (by omega) | (first | (rw [← hpn]; assumption) | (rw [← hz5]; assumption) | (rw [hpn]; assumption))); (case f28 => first | assumption | omega | exact ltN (by omega) | (first | (rw [← hpn]; assumption) | (rw [← hz5]; assumption) | (rw [hpn]; assumption))); (case f29 => first | assumption | omega | exact ltN (by omega) | (first | (rw [← hpn]; assumption) | (rw [← hz5]; assumption) | (rw [hpn]; assumption))); (case f30 => first | assumption | omega | exact ltN (by omega) | (first | (rw [← hpn]; assumption) | (rw [← hz5]; assumption) | (rw [hpn]; assumption))); (case f31 => first | assumption | omega | exact ltN (by omega) | (first | (rw [← hpn]; assumption) | (rw [← hz5]; assumption) | (rw [hpn]; assumption))); (case f32 => first | assumption | omega | exact ltN (by omega) | (first | (rw [← hpn]; assumption) | (rw [← hz5]; assumption) | (rw [hpn]; assumption))); (case f33 => first | assumption | omega | exact ltN (by omega) | (first | (rw [← hpn]; assumption) | (rw [← hz5]; assumption) | (rw [hpn]; assumption))); (case f34 => first | assumption | omega | exact ltN (by omega) | (first | (rw [← hpn]; assumption) | (rw [← hz5]; assumption) | (rw [hpn]; assumption))); (case f35 => first | assumption | omega | exact ltN (by omega) | (first | (rw [← hpn]; assumption) | (rw [← hz5]; assumption) | (rw [hpn]; assumption))); (case f36 => first | assumption | omega | exact ltN (by omega) | (first | (rw [← hpn]; assumption) | (rw [← hz5]; assumption) | (rw [hpn]; assumption))); (case f37 => first | assumption | omega | exact ltN (by omega) | (first | (rw [← hpn]; assumption) | (rw [← hz5]; assumption) | (rw [hpn]; assumption))); (case f38 => first | assumption | omega | exact ltN (by omega) | (first | (rw [← hpn]; assumption) | (rw [← hz5]; assumption) | (rw [hpn]; assumption))); (case f39 => first | assumption | omega | exact ltN (by omega) | (first | (rw [← hpn]; assumption) | (rw [← hz5]; assumption) | (rw [hpn]; assumption))); (case f40 => first | assumption | omega | exact ltN (by omega) | (first | (rw [← hpn]; assumption) | (rw [← hz5]; assumption) | (rw [hpn]; assumption))); (case f41 => first | assumption | omega | exact ltN (by omega) | (first | (rw [← hpn]; assumption) | (rw [← hz5]; assumption) | (rw [hpn]; assumption))); (case f42 => first | assumption | omega | exact ltN (by omega) | (first | (rw [← hpn]; assumption) | (rw [← hz5]; assumption) | (rw [hpn]; assumption))); (case f43 => first | assumption | omega | exact ltN (by omega) | (first | (rw [← hpn]; assumption) | (rw [← hz5]; assumption) | (rw [hpn]; assumption))); (case f44 => first | assumption | omega | exact ltN (by omega) | (first | (rw [← hpn]; assumption) | (rw [← hz5]; assumption) | (rw [hpn]; assumption))); (case f45 => first | assumption | omega | exact ltN (by omega) | (first | (rw [← hpn]; assumption) | (rw [← hz5]; assumption) | (rw [hpn]; assumption))))
end Mine

end
-- L28
section
local macro_rules | `(tactic| walk_at "pad") => `(tactic| skip)
local macro_rules | `(tactic| walk_at "pad") => `(tactic| skip)
local macro_rules | `(tactic| walk_at "pad") => `(tactic| skip)
local macro_rules | `(tactic| walk_at "pad") => `(tactic| skip)
local macro_rules | `(tactic| walk_at "pad") => `(tactic| skip)
local macro_rules | `(tactic| walk_at "pad") => `(tactic| skip)
local macro_rules | `(tactic| walk_at "pad") => `(tactic| skip)
local macro_rules | `(tactic| walk_at "pad") => `(tactic| skip)
local macro_rules | `(tactic| walk_at "pad") => `(tactic| skip)
local macro_rules | `(tactic| walk_at "pad") => `(tactic| skip)
local macro_rules | `(tactic| walk_at "pad") => `(tactic| skip)
local macro_rules | `(tactic| walk_at "pad") => `(tactic| skip)
theorem Mine.padL28 : (1 : Nat) = 1 := by
  w_top off
  first | (walk1; done) | rfl
end
section
open PySem PySem.Calls PySem.W PyProof.Rows PyProof.V PySem.Spec
namespace Mine
theorem eq_tups_b {prog : Program} {w : World} {A : Around} {s : Shared} {a b : Addr} {xs ys : List Value} {r r' : Bool} {h₀ : Heap} {L : Addr} {news : List (Addr × Obj)} {oa ob : Obj} {ka kb : Nat} {E Q : Value → Shared → Prop} (N : News h₀ L s.heap news) (ma : (a, oa) ∈ news) (ca : oa.cls = .type "tuple") (da : oa.data = .seq xs.toArray ka) (mb : (b, ob) ∈ news) (cb : ob.cls = .type "tuple") (db : ob.data = .seq ys.toArray kb) (hu : A.units < cLine) (he : EqAll prog w A.in1 s xs ys r) (hr : r = r') (h : Q (.bool r') s) :
    wpAny (model prog w) A (richCompare .Eq (.ref a) (.ref b)) Q E s := eq_tups N ma ca da mb cb db hu he (by rw [hr]; exact h)
theorem news_d2 {h₀ h : Heap} {L : Addr} {news : Led} {pa pb : Addr × Obj} (N : News h₀ L h (pa :: pb :: news)) : News h₀ L h news := fun p hp => N p (.tail _ (.tail _ hp))
local macro_rules | `(tactic| walk_at "eval ListComp") => `(tactic| (k_here; k_dflt (refine LCg.ListComp_U (F₀ := by k_asm) (by with_unfolding_all rfl) (by decide) (by rfl) (by decide) (by rfl) ?_); k_dflt lcg_toSrc))
local macro_rules | `(tactic| walk_at "CompSrc") => `(tactic| (k_here; k_dflt (refine LCg.CompSrc.ledger (by rfl) (by k_asm) (by k_asm) (by k_mem) (Mine.small_size (Nat.le_of_ble_eq_true rfl)) ?_; intro g'; lcg_lit)))
local macro_rules | `(tactic| walk_at "CompEnd") => `(tactic| (k_here; k_dflt (refine' Mine.comp_end ?F (news_d2 ?N) ?off ?S ?_; (case F => k_asm); (case N => k_asm); (case off => (simp only [LCg.Off3, and_true]; assumption)); (case S => lcg_src))))
local macro_rules | `(tactic| k_handed) => `(tactic| exact Mine.handed_base _ _)
local macro_rules | `(tactic| walk_at "compareOp Eq ref ref") => `(tactic| (k_here; (with_reducible show wpAny _ _ (compareOp CmpOp.Eq (Value.ref _) (Value.ref _)) _ _ _); (refine cmp_ofEq ?_); k_dflt (refine' Mine.eq_tups_b ?N ?ma ?ca ?da ?mb ?cb ?db ?u ?e ?r ?_; (case N => k_asm); (case ma => k_mem); (case ca => exact rfl); (case da => exact rfl); (case mb => k_mem); (case cb => exact rfl); (case db => exact rfl); (case u => k_units); (case e => ked_reads); (case r => first | with_reducible exact dbr1 (by with_reducible assumption) | with_reducible exact dbr2 | with_reducible exact dbr3 | with_reducible exact dbr4 (by with_reducible assumption)); k_whole)))
set_option maxRecDepth 100000 in
set_option maxHeartbeats 8000000 in
theorem step28 (w : World) (H : Pre29 w) : Pre28 w := by
  unfold Pre28
  intro h₀ L o1 o2 m Dn yn nn cc n_ tn row tr d1 od1 kv1 c1 tx tt ob tb rx rd rk rt1 rt2 rt3 rt4 rt5 rt6 rt7 ork kvr oD on x1 e1 k1 q1t1 q1t2 q1t3 q1t4 q1t5 q1t6 q1t7 ok1 kw1 x2 e2 k2 q2t1 q2t2 q2t3 q2t4 q2t5 q2t6 q2t7 ok2 kw2 x3 e3 k3 q3t1 q3t2 q3t3 q3t4 q3t5 q3t6 q3t7 ok3 kw3 x4 e4 k4 q4t1 q4t2 q4t3 q4t4 q4t5 q4t6 q4t7 ok4 kw4 x5 e5 k5 q5t1 q5t2 q5t3 q5t4 q5t5 q5t6 q5t7 ok5 kw5 x6 e6 k6 q6t1 q6t2 q6t3 q6t4 q6t5 q6t6 q6t7 ok6 kw6 co1 hf0 hf1 hf2 hf3 hf4 hf5 hf6 hf7 hf8 hf9 hf10 hf11 hf12 hf13 hf14 hf15 hf16 hf17 hf18 hf19 hf20 hf21 hf22 hf23 hf24 hf25 hf26 hf27 hf28 hf29 hf30 hf31 hf32 hf33 hf34 hf35 hf36 hf37 hf38 hf39 hf40 hf41 hf42 hf43 hf44 me0 me1 me2 me3 me4 me5 me6
  refine LStep.rest (st := ?st) (sc := ?sc) ?ea ?eb ?_
  case ea => exact rfl
  case eb => exact rfl
  unfold LStep
  k_fill
  intro mean mg mb a cd s K B F X N T hK
  have hq1 : dEq c1 c1 = true := dEq_self (nodup_of hf7 hf8)
  have hq5 : dEq c1 (c1 ++ [(Str.ofString "z", (1 : Int))]) = false := dEq_snoc _ _
  have hq6 : dEq c1 [(Str.ofString "z", (1 : Int))] = false := dEq_one (by assumption) (by assumption)
  have hby : (ob == some (tx ++ Str.ofString "y")) = false := base_y (by assumption)
  k_steps
  all_goals (refine' hK _ _ _ _ ?F ?N (H h₀ L o1 o2 _ Dn yn nn cc n_ tn row tr d1 od1 kv1 c1 tx tt ob tb rx rd rk rt1 rt2 rt3 rt4 rt5 rt6 rt7 ork kvr ?f0 ?f1 ?f2 ?f3 ?f4 ?f5 ?f6 ?f7 ?f8 ?f9 ?f10 ?f11 ?f12 ?f13 ?f14 ?f15 ?f16 ?f17 ?f18 ?f19 ?f20 ?f21 ?e0 ?e1 ?e2 ?e3 ?e4 ?e5); (case F => k_asm); (case e0 => first | exact rfl | assumption); (case e1 => first | exact rfl | assumption); (case e2 => first | exact rfl | assumption); (case e3 => first | exact rfl | assumption); (case e4 => first | exact rfl | assumption); (case e5 => first | exact rfl | assumption); (case N => exact cb_drop (by k_asm) (by kcj_all)); (case f0 => first | assumption | omega | exact ltN (by omega) | omega); (case f1 => first | assumption | omega | exact ltN (by omega) | omega); (case f2 => first | assumption | omega | exact ltN (by omega) | omega); (case f3 => first | assumption | omega | exact ltN (by omega) | omega); (case f4 => first | assumption | omega | exact ltN (by omega) | omega); (case f5 => first | assumption | omega | exact ltN (by omega) | omega); (case f6 => first | assumption | omega | exact ltN (by omega) | omega); (case f7 => first | assumption | omega | exact ltN (by omega) | omega); (case f8 => first | assumption | omega | exact ltN (by omega) | omega); (case f9 => first | assumption | omega | exact ltN (by omega) | omega); (case f10 => first | assumption | omega | exact ltN (by omega) | omega); (case f11 => first | assumption | omega | exact ltN (by omega) | omega); (case f12 => first | assumption | omega | exact ltN (by omega) | omega); (case f13 => first | assumption | omega | exact ltN (by omega) | omega); (case f14 => first | assumption | omega | exact ltN (by omega) | omega); (case f15 => first | assumption | omega | exact ltN (by omega) | omega); (case f16 => first | assumption | omega | exact ltN (by omega) | omega); (case f17 => first | assumption | omega | exact ltN (by omega) | omega); (case f18 => first | assumption | omega | exact ltN (by omega) | omega); (case f19 => first | assumption | omega | exact ltN (by omega) | omega); (case f20 => first | assumption | omega | exact ltN (by omega) | omega); (case f21 => first | assumption | omega | exact ltN (by omega) | omega))
end Mine

end
-- L29
section
local macro_rules | `(tactic| walk_at "pad") => `(tactic| skip)
local macro_rules | `(tactic| walk_at "pad") => `(tactic| skip)
local macro_rules | `(tactic| walk_at "pad") => `(tactic| skip)
local macro_rules | `(tactic| walk_at "pad") => `(tactic| skip)
local macro_rules | `(tactic| walk_at "pad") => `(tactic| skip)
local macro_rules | `(tactic| walk_at "pad") => `(tactic| skip)
local macro_rules | `(tactic| walk_at "pad") => `(tactic| skip)
local macro_rules | `(tactic| walk_at "pad") => `(tactic| skip)
local macro_rules | `(tactic| walk_at "pad") => `(tactic| skip)
local macro_rules | `(tactic| walk_at "pad") => `(tactic| skip)
local macro_rules | `(tactic| walk_at "pad") => `(tactic| skip)
local macro_rules | `(tactic| walk_at "pad") => `(tactic| skip)
theorem Mine.padL29 : (1 : Nat) = 1 := by
  w_top off
  first | (walk1; done) | rfl
end
section
open PySem PySem.Calls PySem.W PyProof.Rows PyProof.V PySem.Spec
namespace Mine
theorem fp_disp2 {kvs : List (PySem.Str × Value)} {k k2 : PySem.Str} {v v2 : Int} {t u t2 u2 : Tok} (h : FlatPairs PyData.str kvs (strData [(Value.str k t, Value.int v u), (Value.str k2 t2, Value.int v2 u2)])) : FlatPairs PyData.str kvs (kdpD [(k, v), (k2, v2)]) := h
theorem any_swap (f : Int → Bool) : ([0, 3, 4, 5, 6].any f) = ([0, 4, 3, 5, 6].any f) := by
  simp only [List.any_cons, List.any_nil]
  cases f 3 <;> cases f 4 <;> simp
local macro_rules | `(tactic| walk_at "ite") => `(tactic| (first | with_reducible refine Mine.ite_bF (bne_self_eq_false _) ?_ | with_reducible refine Mine.ite_bT (by with_reducible assumption) ?_ | with_reducible refine Mine.ite_bF (by with_reducible assumption) ?_))
local macro_rules | `(tactic| walk_at "call ref") => `(tactic| (k_here; (with_reducible show wpAny _ _ (call (Value.ref _) [Value.str _ _, Value.int _ _, Value.int _ _] []) _ _ _); k_dflt (refine' use_L (made_options_in _ _ _ _ _ _ ?g0) ?B ?F ?X ?N ?T ?k ?d ?u ?_; (case g0 => first | assumption | omega | decide); (case B => k_asm); (case F => k_asm); (case X => k_asm); (case N => k_asm); (case T => k_asm); (case k => first | exact rfl | assumption); (case d => ktr_room); (case u => k_units); k_whole); intro t' h' tk' F' N'; (try dsimp only); (try k_sweep)))
local macro_rules | `(tactic| walk_at "call ref") => `(tactic| (k_here; (with_reducible show wpAny _ _ (call (Value.ref _) [Value.str _ _, Value.int _ _, Value.int _ _] []) _ _ _); k_dflt (refine' use_L (made_options_out _ _ _ _ _ _ ?g0) ?B ?F ?X ?N ?T ?k ?d ?u ?_; (case g0 => first | assumption | omega | decide); (case B => k_asm); (case F => k_asm); (case X => k_asm); (case N => k_asm); (case T => k_asm); (case k => first | exact rfl | assumption); (case d => ktr_room); (case u => k_units); k_whole); intro t' h' tk' F' N'; (try dsimp only); (try k_sweep)))
local macro_rules | `(tactic| walk_at "call ref") => `(tactic| (k_here; (with_reducible show wpAny _ _ (call (Value.ref _) [Value.str _ _, Value.int _ _, baseV _ _, Value.ref _] _) _ _ _); k_dflt (refine' use_L (new_dbref_k _ _ _ _ _ _ ?lo1 ?hd1 ?hf1 ?hl1 ?hn1 _ _ _ _ _ _ _) ?B ?F ?X ?N ?T ?k ?d ?u ?_; (case B => k_asm); (case F => k_asm); (case X => k_asm); (case T => k_asm); (case k => first | exact rfl | assumption); (case d => ktr_room); (case u => k_units); (case N => exact news_pick1 (by k_asm) (by k_mem)); (case lo1 => assumption); (case hd1 => assumption); (case hf1 => first | with_reducible assumption | exact Mine.fp_nil (by with_reducible assumption) | exact Mine.fp_disp (by with_reducible assumption) | exact Mine.fp_kw (by with_reducible assumption) | assumption); (case hl1 => first | omega | exact Nat.le_of_ble_eq_true rfl | exact Nat.le_trans (putAll_len _ _) (by first | omega | (simp; omega))); (case hn1 => first | omega | exact Nat.le_of_ble_eq_true rfl | exact Nat.le_trans (by first | omega | assumption) (putAll_ge _ _)); k_whole); intro x' d' kd' okd' kvd' u1' u2' u3' u4' u5' u6' u7' l1' l2' l3' lo' hd' hf' h' tk' F' N'; (replace N' := news_unpick13 N'); (replace l1' := lt_unpick1 l1'); (try dsimp only); (try k_sweep); (try k_lt l1')))
local macro_rules | `(tactic| walk_at "call ref") => `(tactic| (k_here; (with_reducible show wpAny _ _ (call (Value.ref _) [Value.str _ _, Value.int _ _, baseV _ _, Value.ref _] []) _ _ _); k_dflt (refine' use_L (new_dbref_d _ _ _ _ _ _ ?lo1 ?hd1 ?hf1 ?hl1 ?hn1 _ _ _ _ _ _) ?B ?F ?X ?N ?T ?k ?d ?u ?_; (case B => k_asm); (case F => k_asm); (case X => k_asm); (case T => k_asm); (case k => first | exact rfl | assumption); (case d => ktr_room); (case u => k_units); (case N => exact news_pick1 (by k_asm) (by k_mem)); (case lo1 => assumption); (case hd1 => assumption); (case hf1 => first | with_reducible assumption | exact Mine.fp_nil (by with_reducible assumption) | exact Mine.fp_disp (by with_reducible assumption) | exact Mine.fp_disp2 (by with_reducible assumption) | exact Mine.fp_kw (by with_reducible assumption) | assumption); (case hl1 => first | omega | exact Nat.le_of_ble_eq_true rfl | exact Nat.le_trans (putAll_len _ _) (by first | omega | (simp; omega))); (case hn1 => first | omega | exact Nat.le_of_ble_eq_true rfl | exact Nat.le_trans (by first | omega | assumption) (putAll_ge _ _)); k_whole); intro x' d' kd' okd' kvd' u1' u2' u3' u4' u5' u6' u7' l1' l2' l3' lo' hd' hf' h' tk' F' N'; (replace N' := news_unpick13 N'); (replace l1' := lt_unpick1 l1'); (try simp only [putAll_nil_r] at hf'); (try dsimp only); (try k_sweep); (try k_lt l1')))
local macro_rules | `(tactic| k_handed) => `(tactic| exact Mine.handed_base _ _)
local macro_rules | `(tactic| walk_at "compareOp Eq ref ref") => `(tactic| (k_here; (with_reducible show wpAny _ _ (compareOp CmpOp.Eq (Value.ref _) (Value.ref _)) _ _ _); (refine cmp_ofEq ?_); k_dflt (refine' Mine.eq_tups_b ?N ?ma ?ca ?da ?mb ?cb ?db ?u ?e ?r ?_; (case N => k_asm); (case ma => k_mem); (case ca => exact rfl); (case da => exact rfl); (case mb => k_mem); (case cb => exact rfl); (case db => exact rfl); (case u => k_units); (case e => ked_reads); (case r => first | with_reducible exact dbr1 (by with_reducible assumption) | with_reducible exact dbr2 | with_reducible exact dbr3 | with_reducible exact dbr4 (by with_reducible assumption)); k_whole)))
set_option maxRecDepth 100000 in
set_option maxHeartbeats 8000000 in
theorem step29 (w : World) (H : Pre30 w) : Pre29 w := by
  unfold Pre29
  intro h₀ L o1 o2 m Dn yn nn cc n_ tn row tr d1 od1 kv1 c1 tx tt ob tb rx rd rk rt1 rt2 rt3 rt4 rt5 rt6 rt7 ork kvr co1 hf0 hf1 hf2 hf3 hf4 hf5 hf6 hf7 hf8 hf9 hf10 hf11 hf12 hf13 hf14 hf15 hf16 hf17 hf18 hf19 hf20 me0 me1 me2 me3 me4 me5
  refine LStep.rest (st := ?st) (sc := ?sc) ?ea ?eb ?_
  case ea => exact rfl
  case eb => exact rfl
  unfold LStep
  k_fill
  intro mean mg mb a cd s K B F X N T hK
  have hqa : dEq (putAll [(Str.ofString "b", (2 : Int))] [(Str.ofString "a", 1)]) (putAll [] [(Str.ofString "b", 2), (Str.ofString "a", 1)]) = true := by decide +kernel
  cases hin : ([0, 4, 3, 5, 6].any fun x => x == n_.fmod 12) with
  | true =>
    have hin2 := (any_swap fun x => x == n_.fmod 12).trans hin
    k_steps
    all_goals (refine' hK _ _ _ _ ?F ?N (H h₀ L o1 o2 _ Dn yn nn cc n_ tn row tr d1 od1 kv1 c1 tx tt ob tb rx rd rk rt1 rt2 rt3 rt4 rt5 rt6 rt7 ork kvr ?f0 ?f1 ?f2 ?f3 ?f4 ?f5 ?f6 ?f7 ?f8 ?f9 ?f10 ?f11 ?f12 ?f13 ?f14 ?f15 ?f16 ?f17 ?f18 ?f19 ?f20 ?f21 ?e0 ?e1 ?e2 ?e3 ?e4 ?e5); (case F => k_asm); (case e0 => first | exact rfl | assumption); (case e1 => first | exact rfl | assumption); (case e2 => first | exact rfl | assumption); (case e3 => first | exact rfl | assumption); (case e4 => first | exact rfl | assumption); (case e5 => first | exact rfl | assumption); (case N => exact cb_drop (by k_asm) (by kcj_all)); (case f0 => first | assumption | omega | exact ltN (by omega) | omega); (case f1 => first | assumption | omega | exact ltN (by omega) | omega); (case f2 => first | assumption | omega | exact ltN (by omega) | omega); (case f3 => first | assumption | omega | exact ltN (by omega) | omega); (case f4 => first | assumption | omega | exact ltN (by omega) | omega); (case f5 => first | assumption | omega | exact ltN (by omega) | omega); (case f6 => first | assumption | omega | exact ltN (by omega) | omega); (case f7 => first | assumption | omega | exact ltN (by omega) | omega); (case f8 => first | assumption | omega | exact ltN (by omega) | omega); (case f9 => first | assumption | omega | exact ltN (by omega) | omega); (case f10 => first | assumption | omega | exact ltN (by omega) | omega); (case f11 => first | assumption | omega | exact ltN (by omega) | omega); (case f12 => first | assumption | omega | exact ltN (by omega) | omega); (case f13 => first | assumption | omega | exact ltN (by omega) | omega); (case f14 => first | assumption | omega | exact ltN (by omega) | omega); (case f15 => first | assumption | omega | exact ltN (by omega) | omega); (case f16 => first | assumption | omega | exact ltN (by omega) | omega); (case f17 => first | assumption | omega | exact ltN (by omega) | omega); (case f18 => first | assumption | omega | exact ltN (by omega) | omega); (case f19 => first | assumption | omega | exact ltN (by omega) | omega); (case f20 => first | assumption | omega | exact ltN (by omega) | omega); (case f21 => first | assumption | omega | exact ltN (by omega) | omega))
  | false =>
    have hin2 := (any_swap fun x => x == n_.fmod 12).trans hin
    k_steps
    all_goals (refine' hK _ _ _ _ ?F ?N (H h₀ L o1 o2 _ Dn yn nn cc n_ tn row tr d1 od1 kv1 c1 tx tt ob tb rx rd rk rt1 rt2 rt3 rt4 rt5 rt6 rt7 ork kvr ?f0 ?f1 ?f2 ?f3 ?f4 ?f5 ?f6 ?f7 ?f8 ?f9 ?f10 ?f11 ?f12 ?f13 ?f14 ?f15 ?f16 ?f17 ?f18 ?f19 ?f20 ?f21 ?e0 ?e1 ?e2 ?e3 ?e4 ?e5); (case F => k_asm); (case e0 => first | exact rfl | assumption); (case e1 => first | exact rfl | assumption); (case e2 => first | exact rfl | assumption); (case e3 => first | exact rfl | assumption); (case e4 => first | exact rfl | assumption); (case e5 => first | exact rfl | assumption); (case N => exact cb_drop (by k_asm) (by kcj_all)); (case f0 => first | assumption | omega | exact ltN (by omega) | omega); (case f1 => first | assumption | omega | exact ltN (by omega) | omega); (case f2 => first | assumption | omega | exact ltN (by omega) | omega); (case f3 => first | assumption | omega | exact ltN (by omega) | omega); (case f4 => first | assumption | omega | exact ltN (by omega) | omega); (case f5 => first | assumption | omega | exact ltN (by omega) | omega); (case f6 => first | assumption | omega | exact ltN (by omega) | omega); (case f7 => first | assumption | omega | exact ltN (by omega) | omega); (case f8 => first | assumption | omega | exact ltN (by omega) | omega); (case f9 => first | assumption | omega | exact ltN (by omega) | omega); (case f10 => first | assumption | omega | exact ltN (by omega) | omega); (case f11 => first | assumption | omega | exact ltN (by omega) | omega); (case f12 => first | assumption | omega | exact ltN (by omega) | omega); (case f13 => first | assumption | omega | exact ltN (by omega) | omega); (case f14 => first | assumption | omega | exact ltN (by omega) | omega); (case f15 => first | assumption | omega | exact ltN (by omega) | omega); (case f16 => first | assumption | omega | exact ltN (by omega) | omega); (case f17 => first | assumption | omega | exact ltN (by omega) | omega); (case f18 => first | assumption | omega | exact ltN (by omega) | omega); (case f19 => first | assumption | omega | exact ltN (by omega) | omega); (case f20 => first | assumption | omega | exact ltN (by omega) | omega); (case f21 => first | assumption | omega | exact ltN (by omega) | omega))
end Mine

end
-- L30
section
local macro_rules | `(tactic| walk_at "pad") => `(tactic| skip)
local macro_rules | `(tactic| walk_at "pad") => `(tactic| skip)
local macro_rules | `(tactic| walk_at "pad") => `(tactic| skip)
local macro_rules | `(tactic| walk_at "pad") => `(tactic| skip)
local macro_rules | `(tactic| walk_at "pad") => `(tactic| skip)
local macro_rules | `(tactic| walk_at "pad") => `(tactic| skip)
local macro_rules | `(tactic| walk_at "pad") => `(tactic| skip)
local macro_rules | `(tactic| walk_at "pad") => `(tactic| skip)
local macro_rules | `(tactic| walk_at "pad") => `(tactic| skip)
local macro_rules | `(tactic| walk_at "pad") => `(tactic| skip)
local macro_rules | `(tactic| walk_at "pad") => `(tactic| skip)
local macro_rules | `(tactic| walk_at "pad") => `(tactic| skip)
theorem Mine.padL30 : (1 : Nat) = 1 := by
  w_top off
  first | (walk1; done) | rfl
end
section
open PySem PySem.Calls PySem.W PyProof.Rows PyProof.V PySem.Spec
namespace Mine
local macro_rules | `(tactic| walk_at "call ref") => `(tactic| (k_here; (with_reducible show wpAny _ _ (call (Value.ref _) [Value.int _ _] []) _ _ _); k_dflt (refine' use_C (new_int64 _ _ _ _) ?B ?F ?X ?N ?T ?k ?d ?u ?_; (case B => k_asm); (case F => k_asm); (case X => k_asm); (case N => k_asm); (case T => k_asm); (case k => first | exact rfl | assumption); (case d => ktr_room); (case u => k_units); k_whole); intro x' d' u1' u2' l1' l2' h' tk' F' N'; (try dsimp only); (try k_sweep); (try k_lt l1'); (try k_lt2 l2')))
local macro_rules | `(tactic| walk_at "call ref") => `(tactic| (k_here; (with_reducible show wpAny _ _ (call (Value.ref _) [Value.int _ _] []) _ _ _); k_dflt (refine' use_C (new_date _ _ _ _ ?g0 ?g1) ?B ?F ?X ?N ?T ?k ?d ?u ?_; (case g0 => first | assumption | omega | decide); (case g1 => first | assumption | omega | decide); (case B => k_asm); (case F => k_asm); (case X => k_asm); (case N => k_asm); (case T => k_asm); (case k => first | exact rfl | assumption); (case d => ktr_room); (case u => k_units); k_whole); intro x' d' t1' l1' l2' h' tk' F' N'; (try dsimp only); (try k_sweep); (try k_lt l1'); (try k_lt2 l2')))
local macro_rules | `(tactic| walk_at "call ref") => `(tactic| (k_here; (with_reducible show wpAny _ _ (call (Value.ref _) [Value.int _ _, Value.int _ _] []) _ _ _); k_dflt (refine' use_C (new_stamp _ _ _ _) ?B ?F ?X ?N ?T ?k ?d ?u ?_; (case B => k_asm); (case F => k_asm); (case X => k_asm); (case N => k_asm); (case T => k_asm); (case k => first | exact rfl | assumption); (case d => ktr_room); (case u => k_units); k_whole); intro x' d' u1' u2' u3' u4' l1' l2' h' tk' F' N'; (try dsimp only); (try k_sweep); (try k_lt l1'); (try k_lt2 l2')))
local macro_rules | `(tactic| walk_at "call ref") => `(tactic| (k_here; (with_reducible show wpAny _ _ (call (Value.ref _) [Value.bytes _ _] []) _ _ _); k_dflt (refine' use_C (new_objid _ _ _) ?B ?F ?X ?N ?T ?k ?d ?u ?_; (case B => k_asm); (case F => k_asm); (case X => k_asm); (case N => k_asm); (case T => k_asm); (case k => first | exact rfl | assumption); (case d => ktr_room); (case u => k_units); k_whole); intro x' d' u1' u2' l1' l2' h' tk' F' N'; (try dsimp only); (try k_sweep); (try k_lt l1'); (try k_lt2 l2')))
local macro_rules | `(tactic| walk_at "call ref") => `(tactic| (k_here; (with_reducible show wpAny _ _ (call (Value.ref _) [] []) _ _ _); k_dflt (refine' use_C (new_minkey _ _) ?B ?F ?X ?N ?T ?k ?d ?u ?_; (case B => k_asm); (case F => k_asm); (case X => k_asm); (case N => k_asm); (case T => k_asm); (case k => first | exact rfl | assumption); (case d => ktr_room); (case u => k_units); k_whole); intro x' d' l1' l2' h' tk' F' N'; (try dsimp only); (try k_sweep); (try k_lt l1'); (try k_lt2 l2')))
local macro_rules | `(tactic| walk_at "call ref") => `(tactic| (k_here; (with_reducible show wpAny _ _ (call (Value.ref _) [] []) _ _ _); k_dflt (refine' use_C (new_maxkey _ _) ?B ?F ?X ?N ?T ?k ?d ?u ?_; (case B => k_asm); (case F => k_asm); (case X => k_asm); (case N => k_asm); (case T => k_asm); (case k => first | exact rfl | assumption); (case d => ktr_room); (case u => k_units); k_whole); intro x' d' l1' l2' h' tk' F' N'; (try dsimp only); (try k_sweep); (try k_lt l1'); (try k_lt2 l2')))
local macro_rules | `(tactic| walk_at "call ref") => `(tactic| (k_here; (with_reducible show wpAny _ _ (call (Value.ref _) [Value.str _ _] []) _ _ _); k_dflt (refine' use_C (new_code_s _ _ _ _) ?B ?F ?X ?N ?T ?k ?d ?u ?_; (case B => k_asm); (case F => k_asm); (case X => k_asm); (case N => k_asm); (case T => k_asm); (case k => first | exact rfl | assumption); (case d => ktr_room); (case u => k_units); k_whole); intro x' d' u1' u2' u4' l1' l2' h' tk' F' N'; (try dsimp only); (try k_sweep); (try k_lt l1'); (try k_lt2 l2')))
local macro_rules | `(tactic| walk_at "call ref") => `(tactic| (k_here; (with_reducible show wpAny _ _ (call (Value.ref _) [Value.str _ _] []) _ _ _); k_dflt (refine' use_C (new_regex_0 _ _ _ _) ?B ?F ?X ?N ?T ?k ?d ?u ?_; (case B => k_asm); (case F => k_asm); (case X => k_asm); (case N => k_asm); (case T => k_asm); (case k => first | exact rfl | assumption); (case d => ktr_room); (case u => k_units); k_whole); intro x' d' u1' u2' u3' u4' l1' l2' h' tk' F' N'; (try dsimp only); (try k_sweep); (try k_lt l1'); (try k_lt2 l2')))
local macro_rules | `(tactic| walk_at "call ref") => `(tactic| (k_here; (with_reducible show wpAny _ _ (call (Value.ref _) [Value.bytes _ _, Value.int _ _] []) _ _ _); k_dflt (refine' use_C (new_binary _ _ _ _ _ _ ?g0 ?g1) ?B ?F ?X ?N ?T ?k ?d ?u ?_; (case g0 => first | assumption | omega | decide); (case g1 => first | assumption | omega | decide); (case B => k_asm); (case F => k_asm); (case X => k_asm); (case N => k_asm); (case T => k_asm); (case k => first | exact rfl | assumption); (case d => ktr_room); (case u => k_units); k_whole); intro x' d' u1' u2' u3' u4' l1' l2' h' tk' F' N'; (try dsimp only); (try k_sweep); (try k_lt l1'); (try k_lt2 l2')))
set_option maxRecDepth 100000 in
set_option maxHeartbeats 8000000 in
theorem step30 (w : World) (H : Pre31 w) : Pre30 w := by
  unfold Pre30
  intro h₀ L o1 o2 m Dn yn nn cc n_ tn row tr d1 od1 kv1 c1 tx tt ob tb rx rd rk rt1 rt2 rt3 rt4 rt5 rt6 rt7 ork kvr co1 hf0 hf1 hf2 hf3 hf4 hf5 hf6 hf7 hf8 hf9 hf10 hf11 hf12 hf13 hf14 hf15 hf16 hf17 hf18 hf19 hf20 me0 me1 me2 me3 me4 me5
  refine LStep.rest (st := ?st) (sc := ?sc) ?ea ?eb ?_
  case ea => exact rfl
  case eb => exact rfl
  unfold LStep
  k_fill
  intro mean mg mb a cd s K B F X N T hK
  k_steps
  all_goals (refine' hK _ _ _ _ ?F ?N (H h₀ L _ o2 _ d1 od1 kv1 c1 row tx n_ ob _ _ rx rd rk rt1 rt2 rt3 rt4 rt5 rt6 rt7 _ _ _ _ _ _ _ _ _ _ _ _ _ _ _ _ _ _ _ _ _ _ _ _ _ _ _ _ _ _ _ _ _ _ _ _ _ _ _ _ _ ?f0 ?f1 ?f2 ?f3 ?f4 ?f5 ?f6 ?f7 ?e0); (case F => k_asm); (case e0 => first | exact rfl | assumption); (case N => exact cb_drop (by k_asm) (by kcj_all)); (case f0 => first | assumption | omega | exact ltN (by omega) | omega); (case f1 => first | assumption | omega | exact ltN (by omega) | omega); (case f2 => first | assumption | omega | exact ltN (by omega) | omega); (case f3 => first | assumption | omega | exact ltN (by omega) | omega); (case f4 => first | assumption | omega | exact ltN (by omega) | omega); (case f5 => first | assumption | omega | exact ltN (by omega) | omega); (case f6 => first | assumption | omega | exact ltN (by omega) | omega); (case f7 => first | assumption | omega | exact ltN (by omega) | omega))
end Mine

end
-- L31
section
local macro_rules | `(tactic| walk_at "pad") => `(tactic| skip)
local macro_rules | `(tactic| walk_at "pad") => `(tactic| skip)
local macro_rules | `(tactic| walk_at "pad") => `(tactic| skip)
local macro_rules | `(tactic| walk_at "pad") => `(tactic| skip)
local macro_rules | `(tactic| walk_at "pad") => `(tactic| skip)
local macro_rules | `(tactic| walk_at "pad") => `(tactic| skip)
local macro_rules | `(tactic| walk_at "pad") => `(tactic| skip)
local macro_rules | `(tactic| walk_at "pad") => `(tactic| skip)
local macro_rules | `(tactic| walk_at "pad") => `(tactic| skip)
local macro_rules | `(tactic| walk_at "pad") => `(tactic| skip)
local macro_rules | `(tactic| walk_at "pad") => `(tactic| skip)
local macro_rules | `(tactic| walk_at "pad") => `(tactic| skip)
theorem Mine.padL31 : (1 : Nat) = 1 := by
  w_top off
  first | (walk1; done) | rfl
end
section
open PySem PySem.Calls PySem.W PyProof.Rows PyProof.V PySem.Spec
namespace Mine
local macro_rules | `(tactic| walk_at "eval ListComp") => `(tactic| (k_here; (with_reducible show wpAny _ _ (eval (Expr.ListComp (Expr.ListComp _ _ _ _) [⟨_, _, [], _⟩] _ _) _) _ _ _); k_dflt (refine' nest_comp (by k_asm) ?q1 ?q2 ?q3 ?q4 ?q5 ?q6 ?_ ?q7; (case q1 => with_unfolding_all rfl); (case q2 => exact fun _ => rfl); (case q3 => exact fun _ => rfl); (case q4 => rfl); (case q5 => decide); (case q6 => exact fun _ _ => rfl); (case q7 => exact fun _ => rfl))))
local macro_rules | `(tactic| walk_at "eval ListComp") => `(tactic| (k_here; (with_reducible show wpAny _ _ (eval (Expr.ListComp _ [⟨_, _, [_], _⟩] _ _) _) _ _ _); k_dflt (refine LCt.ListComp_T (F₀ := by k_asm) (by with_unfolding_all rfl) (by decide) (by rfl) (by decide) (by rfl) ?_)))
local macro_rules | `(tactic| walk_at "eval ListComp") => `(tactic| (k_here; (with_reducible show wpAny _ _ (eval (Expr.ListComp (Expr.List _ _) [⟨_, _, [], _⟩] _ _) _) _ _ _); k_dflt (refine LCg.ListComp_U (F₀ := by k_asm) (by with_unfolding_all rfl) (by decide) (by rfl) (by decide) (by rfl) ?_)))
local macro_rules | `(tactic| walk_at "CompSrc") => `(tactic| (k_here; refine Mine.stop_of ?_))
local macro_rules | `(tactic| walk_at "CompSrcT") => `(tactic| (k_here; refine Mine.stop_of ?_))
local macro_rules | `(tactic| walk_at "NestSrc") => `(tactic| (k_here; refine Mine.stop_of ?_))
local macro_rules | `(tactic| walk_at "compareOp Eq") => `(tactic| (k_here; k_dflt (refine' use_Cmp ?H ?B ?F ?X ?N ?T ?k ?d ?u ?_; (case H => with_reducible assumption); (case B => k_asm); (case F => k_asm); (case X => k_asm); (case T => k_asm); (case k => first | exact rfl | assumption); (case d => ktr_room); (case u => k_units); (case N => k_asm)); intro h' tk' F' N'; (try dsimp only)))
local macro_rules | `(tactic| walk_at "subscriptTail") => `(tactic| (k_here; k_dflt (refine' item_at ?F ?N ?m ?i ?x ?_ ?s; (case F => k_asm); (case N => k_asm); (case m => k_mem); (case i => omega); (case x => with_reducible assumption); (case s => with_unfolding_all rfl))))
set_option maxRecDepth 100000 in
set_option maxHeartbeats 8000000 in
theorem step31 (w : World) (H : Pre32 w) : Pre31 w := by
  unfold Pre31
  intro h₀ L o1 o2 m d1 od1 kv1 c1 row tx n_ ob vt1 vt2 rx rd rk rt1 rt2 rt3 rt4 rt5 rt6 rt7 vD vn xb yb bk0 bk1 bk8 bk9 xc yc ck0 ck1 ck9 xg yg gk0 gk1 gk8 gk9 xa ya ak0 ak9 xi yi ik0 ik9 xn yn xw yw xo yo ok0 ok9 xs ys sk0 sk1 sk8 sk9 hf0 hf1 hf2 hf3 hf4 hf5 hf6 hf7 me0
  refine LStep.rest (st := ?st) (sc := ?sc) ?ea ?eb ?_
  case ea => exact rfl
  case eb => exact rfl
  unfold LStep
  k_fill
  intro mean mg mb a cd s K B F X N T hK
  k_steps
  unfold Stop
  refine nest_src (n := 13) (by rfl) (by k_asm) (by k_asm) (by assumption) (by decide) (by rfl) (Mine.small_size (by decide)) ?turn ?fin
  case turn =>
    intro i t R c oc C h tk E' hi hcd F hsub N
    have hv : (L + 1 + 1, o1) ∈ R := hsub _ (by k_mem)
    have hl : (vD, W.listOf [.ref xb, .ref xc, .ref xg, .ref rx, .ref xa, .ref xi, .ref xn, .ref xw, .ref xo, .ref xs, .bytes row vt1, .str tx vt2, .none].toArray vn) ∈ R := hsub _ (by k_mem)
    have h20 : ∀ p ∈ ([(xb, instObj 144 yb), (yb, dictOf [⟨PyData.keyHash w.params (Str.ofString "data"), .str (Str.ofString "data") bk0, .bytes row bk9⟩, ⟨PyData.keyHash w.params (Str.ofString "_subtype"), .str (Str.ofString "_subtype") bk1, .int 0 bk8⟩] 2), (xc, instObj 61 yc), (yc, dictOf [⟨PyData.keyHash w.params (Str.ofString "text"), .str (Str.ofString "text") ck0, .str tx ck9⟩, ⟨PyData.keyHash w.params (Str.ofString "_scope"), .str (Str.ofString "_scope") ck1, .none⟩] 2), (xg, instObj 626 yg), (yg, dictOf [⟨PyData.keyHash w.params (Str.ofString "pattern"), .str (Str.ofString "pattern") gk0, .str tx gk9⟩, ⟨PyData.keyHash w.params (Str.ofString "flags"), .str (Str.ofString "flags") gk1, .int 0 gk8⟩] 2), (rx, instObj 261 rd), (rd, dictOf [⟨PyData.keyHash w.params (Str.ofString "_collection"), .str (Str.ofString "_collection") rt2, .str tx rt1⟩, ⟨PyData.keyHash w.params (Str.ofString "_id"), .str (Str.ofString "_id") rt4, .int n_ rt3⟩, ⟨PyData.keyHash w.params (Str.ofString "_database"), .str (Str.ofString "_database") rt6, baseV ob rt5⟩, ⟨PyData.keyHash w.params (Str.ofString "_kwargs"), .str (Str.ofString "_kwargs") rt7, .ref rk⟩] 4), (xa, instObj 201 ya), (ya, dictOf [⟨PyData.keyHash w.params (Str.ofString "_value"), .str (Str.ofString "_value") ak0, .int 5 ak9⟩] 1), (xi, instObj 344 yi), (yi, dictOf [⟨PyData.keyHash w.params (Str.ofString "value"), .str (Str.ofString "value") ik0, .int 5 ik9⟩] 1), (xn, instObj 470 yn), (yn, dictOf [] 0), (xw, instObj 407 yw), (yw, dictOf [] 0), (xo, instObj 583 yo), (yo, dictOf [⟨PyData.keyHash w.params (Str.ofString "_id"), .str (Str.ofString "_id") ok0, .bytes (Array.replicate 12 0) ok9⟩] 1), (xs, instObj 705 ys), (ys, dictOf [⟨PyData.keyHash w.params (Str.ofString "_time"), .str (Str.ofString "_time") sk0, .int 5 sk9⟩, ⟨PyData.keyHash w.params (Str.ofString "_inc"), .str (Str.ofString "_inc") sk1, .int 5 sk8⟩] 2)] : Led), p ∈ R := fun p hp => hsub p (by revert p; lcg_sub)
    clear hsub
    have N2 := news_pick1 (news_pick1 N (.tail _ hv)) (.tail _ (.tail _ hl))
    clear N
    k_steps
    unfold Stop
    refine LCt.CompSrcT.range (n := 13) (by rfl) (by k_asm) (by k_asm) (by assumption) (by decide) (by rfl) (Mine.small_size (by decide)) (fun g => restT_one (j := i) hi ?helt ?tn ?fn)
    case helt =>
      intro C2 s' m₂ v Q E'' hn hm hq
      exact wpAny_Name (wpAny_loadName_local rfl rfl hn hm hq) (by decide)
    case tn =>
      intro i2 t2 I oI C2 oC2 D2 ys m₂ h2 tk2 E'' hi2 hC2 hx2 F2 N3
      obtain ⟨vj, hvj⟩ : ∃ v, ([.ref xb, .ref xc, .ref xg, .ref rx, .ref xa, .ref xi, .ref xn, .ref xw, .ref xo, .ref xs, .bytes row vt1, .str tx vt2, .none] : List Value)[i]? = some v := ⟨_, List.getElem?_eq_getElem hi⟩
      obtain ⟨vi, hvi⟩ : ∃ v, ([.ref xb, .ref xc, .ref xg, .ref rx, .ref xa, .ref xi, .ref xn, .ref xw, .ref xo, .ref xs, .bytes row vt1, .str tx vt2, .none] : List Value)[i2]? = some v := ⟨_, List.getElem?_eq_getElem hi2⟩
      have hcmp := vals_cmp (w := w) (news := (I, oI) :: (C2, oC2) :: (D2, LCg.lst ys) :: (vD, W.listOf [.ref xb, .ref xc, .ref xg, .ref rx, .ref xa, .ref xi, .ref xn, .ref xw, .ref xo, .ref xs, .bytes row vt1, .str tx vt2, .none].toArray vn) :: (L + 1 + 1, o1) :: (c, oc) :: R) (fun p hp => .tail _ (.tail _ (.tail _ (.tail _ (.tail _ (.tail _ (h20 p hp))))))) i i2 vj vi hvj hvi
      k_steps
      all_goals k_asm
    case fn =>
      intro t3
      unfold LCg.FinE
      intro D3 h3 tk3 F3 N3 o1
      exact ⟨D3, t3, 1, h3, tk3, rfl, rfl, F3, fun p hp => (List.mem_cons.mp hp).elim (fun e => e ▸ N3 _ (.head _)) (fun hp => N3 p (.tail _ (.tail _ (.tail _ hp)))), fun p hp => off1_mem o1 p (.tail _ (.tail _ hp))⟩
  case fin =>
    intro D ys rows R h tk hR F hr hsub N
    have hv : (L + 1 + 1, o1) ∈ R := hsub _ (by k_mem)
    have hl : (vD, W.listOf [.ref xb, .ref xc, .ref xg, .ref rx, .ref xa, .ref xi, .ref xn, .ref xw, .ref xo, .ref xs, .bytes row vt1, .str tx vt2, .none].toArray vn) ∈ R := hsub _ (by k_mem)
    have hd1 : (d1, od1) ∈ R := hsub _ (by k_mem)
    have hc1 : (L + 1, o2) ∈ R := hsub _ (by k_mem)
    clear hsub
    have N2 := news_pick1 (news_pick1 N (.tail _ hv)) (.tail _ (.tail _ hl))
    clear N
    k_steps
    unfold Stop
    refine rows_src (n := 13) (by rfl) (by k_asm) (by k_asm) (by assumption) (by decide) (by rfl) (Mine.small_size (by decide)) ?t2 ?f2
    case t2 =>
      intro i t R2 I oI C2 oC2 D2 ys2 m₂ h2 tk2 E'' hi hC2 hx2 F2 N3
      k_steps
      all_goals first | k_asm | (refine Nat.ne_of_lt (ktn_ltOf ?h1 _ (by assumption)); assumption)
    case f2 =>
      intro D4 ys2 rows2 R2 h4 tk4 hR2 F4 hr2 hsub2 N4
      refine cmp_ofNotEq (ne_lists_t (xs := ys) (ys := ys2) N4 (.tail _ (hsub2 _ (.tail _ (.tail _ (.head _))))) rfl rfl (.head _) rfl rfl (by k_units) (rows_eq N4 (by k_units) hR hR2 (fun p hp => .tail _ (hsub2 p (.tail _ (.tail _ (.tail _ (hr p hp)))))) (fun p hp => .tail _ (hr2 p hp))) rfl ?_)
      have N5 : News h₀ L h4 [(d1, od1), (L + 1 + 1, o1), (L + 1, o2)] := fun p hp => N4 p (.tail _ (hsub2 p (.tail _ (.tail _ (.tail _ (by
        rcases List.mem_cons.mp hp with rfl | hp
        · exact hd1
        rcases List.mem_cons.mp hp with rfl | hp
        · exact hv
        · rw [List.mem_singleton.mp hp]; exact hc1))))))
      clear N4
      k_steps
      all_goals (refine' hK _ _ _ _ ?F ?N (H h₀ L o1 o2 _ d1 od1 kv1 c1 ?f0 ?f1 ?f2 ?f3 ?f4 ?e0); (case F => k_asm); (case e0 => first | exact rfl | assumption); (case N => exact cb_drop (by k_asm) (by kcj_all)); (case f0 => first | assumption | omega | exact ltN (by omega) | omega); (case f1 => first | assumption | omega | exact ltN (by omega) | omega); (case f2 => first | assumption | omega | exact ltN (by omega) | omega); (case f3 => first | assumption | omega | exact ltN (by omega) | omega); (case f4 => first | assumption | omega | exact ltN (by omega) | omega))
end Mine

end
-- L32
section
local macro_rules | `(tactic| walk_at "pad") => `(tactic| skip)
local macro_rules | `(tactic| walk_at "pad") => `(tactic| skip)
local macro_rules | `(tactic| walk_at "pad") => `(tactic| skip)
local macro_rules | `(tactic| walk_at "pad") => `(tactic| skip)
local macro_rules | `(tactic| walk_at "pad") => `(tactic| skip)
local macro_rules | `(tactic| walk_at "pad") => `(tactic| skip)
local macro_rules | `(tactic| walk_at "pad") => `(tactic| skip)
local macro_rules | `(tactic| walk_at "pad") => `(tactic| skip)
local macro_rules | `(tactic| walk_at "pad") => `(tactic| skip)
local macro_rules | `(tactic| walk_at "pad") => `(tactic| skip)
local macro_rules | `(tactic| walk_at "pad") => `(tactic| skip)
local macro_rules | `(tactic| walk_at "pad") => `(tactic| skip)
theorem Mine.padL32 : (1 : Nat) = 1 := by
  w_top off
  first | (walk1; done) | rfl
end
section
open PySem PySem.Calls PySem.W PyProof.Rows PyProof.V PySem.Spec
namespace Mine
local macro_rules | `(tactic| walk_at "call ref") => `(tactic| (k_here; (with_reducible show wpAny _ _ (call (Value.ref _) [Value.str _ _, Value.ref _] []) _ _ _); k_dflt (refine' use_L (new_inv _ _ _ _) ?B ?F ?X ?N ?T ?k ?d ?u ?_; (case B => k_asm); (case F => k_asm); (case X => k_asm); (case N => k_asm); (case T => k_asm); (case k => first | exact rfl | assumption); (case d => ktr_room); (case u => k_units); k_whole); intro x' tt' dx' u' l1' l2' h' tk' F' N'; (try dsimp only); (try k_sweep); (try k_lt l1')))
set_option maxRecDepth 100000 in
set_option maxHeartbeats 8000000 in
theorem step32 (w : World) (H : Pre33 w) : Pre32 w := by
  unfold Pre32
  intro h₀ L o1 o2 m d1 od1 kv1 c1 hf0 hf1 hf2 hf3 hf4 me0
  refine LStep.rest (st := ?st) (sc := ?sc) ?ea ?eb ?_
  case ea => exact rfl
  case eb => exact rfl
  unfold LStep
  k_fill
  intro mean mg mb a cd s K B F X N T hK
  k_steps
  all_goals (refine' hK _ _ _ _ ?F ?N (H h₀ L o1 o2 _ d1 od1 kv1 c1 _ _ _ _ ?f0 ?f1 ?f2 ?f3 ?f4 ?f5 ?f6 ?e0 ?e1); (case F => k_asm); (case e0 => first | exact rfl | assumption); (case e1 => first | exact rfl | assumption); (case N => exact cb_drop (by k_asm) (by kcj_all)); (case f0 => first | assumption | omega | exact ltN (by omega) | omega); (case f1 => first | assumption | omega | exact ltN (by omega) | omega); (case f2 => first | assumption | omega | exact ltN (by omega) | omega); (case f3 => first | assumption | omega | exact ltN (by omega) | omega); (case f4 => first | assumption | omega | exact ltN (by omega) | omega); (case f5 => first | assumption | omega | exact ltN (by omega) | omega); (case f6 => first | assumption | omega | exact ltN (by omega) | omega))
end Mine

end
-- L33
section
local macro_rules | `(tactic| walk_at "pad") => `(tactic| skip)
local macro_rules | `(tactic| walk_at "pad") => `(tactic| skip)
local macro_rules | `(tactic| walk_at "pad") => `(tactic| skip)
local macro_rules | `(tactic| walk_at "pad") => `(tactic| skip)
local macro_rules | `(tactic| walk_at "pad") => `(tactic| skip)
local macro_rules | `(tactic| walk_at "pad") => `(tactic| skip)
local macro_rules | `(tactic| walk_at "pad") => `(tactic| skip)
local macro_rules | `(tactic| walk_at "pad") => `(tactic| skip)
local macro_rules | `(tactic| walk_at "pad") => `(tactic| skip)
local macro_rules | `(tactic| walk_at "pad") => `(tactic| skip)
local macro_rules | `(tactic| walk_at "pad") => `(tactic| skip)
local macro_rules | `(tactic| walk_at "pad") => `(tactic| skip)
theorem Mine.padL33 : (1 : Nat) = 1 := by
  w_top off
  first | (walk1; done) | rfl
end
section
open PySem PySem.Calls PySem.W PyProof.Rows PyProof.V PySem.Spec
namespace Mine
local macro_rules | `(tactic| k_inst) => `(tactic| first | exact inst_ex (by k_asm) (by k_mem) | exact inst_exD (by k_asm) (by k_mem) (by k_mem))
local macro_rules | `(tactic| walk_at "getAttr ref") => `(tactic| (k_here; (with_reducible show wpAny _ _ (getAttr (Value.ref _) (Str.ofString "document") _) _ _ _); k_dflt (refine' doc_prop ?F ?X ?N ?a ?b ?_; (case F => k_asm); (case X => k_asm); (case N => k_asm); (case a => k_mem); (case b => k_mem); k_enter)))
local macro_rules | `(tactic| walk_at "getAttr ref") => `(tactic| (k_here; (with_reducible show wpAny _ _ (getAttr (Value.ref _) (Str.ofString "_document") _) _ _ _); k_dflt (refine' doc_get ?F ?X ?N ?a ?b ?c ?_; (case F => k_asm); (case X => k_asm); (case N => k_asm); (case a => k_mem); (case b => k_mem); (case c => exact rfl); intro tk'; k_whole)))
local macro_rules | `(tactic| walk_at "call ref") => `(tactic| (k_here; (with_reducible show wpAny _ _ (call (Value.ref _) [Value.str _ _] []) _ _ _); k_dflt (refine' use_L (new_inv0 _ _ _) ?B ?F ?X ?N ?T ?k ?d ?u ?_; (case B => k_asm); (case F => k_asm); (case X => k_asm); (case N => k_asm); (case T => k_asm); (case k => first | exact rfl | assumption); (case d => ktr_room); (case u => k_units); k_whole); intro x' tt' dx' u' l1' l2' h' tk' F' N'; (try dsimp only); (try k_sweep); (try k_lt l1')))
local macro_rules | `(tactic| walk_at "ite") => `(tactic| (first | with_reducible refine Mine.ite_bF (bne_self_eq_false _) ?_ | with_reducible refine Mine.ite_bT (by with_reducible assumption) ?_ | with_reducible refine Mine.ite_bF (by with_reducible assumption) ?_))
set_option maxRecDepth 100000 in
set_option maxHeartbeats 8000000 in
theorem step33 (w : World) : Pre33 w := by
  unfold Pre33
  intro h₀ L o1 o2 m d1 od1 kv1 c1 fx tt dx u hf0 hf1 hf2 hf3 hf4 hf5 hf6 me0 me1
  refine LRest.last (st := ?st) (sc := ?sc) ?ea ?eb ?_
  case ea => exact rfl
  case eb => exact rfl
  k_fill
  intro mean mg mb a cd s K B F X N T hK
  have hq1 : dEq c1 c1 = true := dEq_self (nodup_of hf1 hf2)
  k_steps
  all_goals exact hK _ _ _ (by k_asm)
end Mine

end
-- Top
section
open PySem PySem.Calls PySem.W PyProof.Rows
namespace Mine
theorem top_use {w : World} {h₀ : Heap} {L : Addr} {m : Map} {news : Led} {sc : Scope} {body : List Stmt} (R : LRestP w 0 h₀ L m news) (es : lawScope = some sc) (eb : lawFrom 0 = body) {mean : ExcName → Option Value} {mg mb : PySem.Str → Option Value} {a : Addr} {cd : Value} {s : Shared} {K : Flow → Shared → Prop} {E : Value → Shared → Prop}
    (B : Below callerA h₀ [] h₀) (F : Fr h₀ L s.heap m) (X : (hd.heap_39 w.params).In h₀) (N : News h₀ L s.heap news) (T : Top hd.view_39 (looseW hd.view_39 [Str.ofString "Code", Str.ofString "Binary", Str.ofString "DatetimeMS", Str.ofString "DBRef", Str.ofString "InvalidDocument", Str.ofString "Int64", Str.ofString "MaxKey", Str.ofString "MinKey", Str.ofString "ObjectId", Str.ofString "Regex", Str.ofString "Timestamp"]) mean mg mb h₀)
    (hK : ∀ h' tk' m', Fr h₀ L h' m' → K (.ret (.bool true)) { s with heap := h', toks := tk' }) :
    wpP (model PySem.Challenge.rw_jh0019_01.row.prog w) (callerA.deeper (envOfC (Str.ofString "law") sc L a cd)) (execs body (envOfC (Str.ofString "law") sc L a cd)) K E s := by
  subst eb
  unfold LRestP at R
  exact wpP_mono (R sc es mean mg mb a cd s K B F X N T hK) (fun _ _ h => h) fun _ _ h => h.elim
set_option maxRecDepth 100000 in
set_option maxHeartbeats 8000000 in
theorem top (H : ∀ w, Pre0 w) : PySem.Challenge.rw_jh0019_01.Holds := hd (by
  k_fill
  intro w s₀ s₁ mg mb G Y fa o pm cd doc dV kV ho hd hcd hD hmg hg args vals as hpre hlay hrd hwl hlo
  have KX := kIn_of Y
  refine Ground.open G ?_
  intro T B D TE TW
  try (obtain ⟨_, _, he, B0⟩ := based_of_top T rfl hmg ho hd; have he' : cd = _ := he; subst he'; clear he)
  clear hmg
  wrow_args hpre hlay hrd hwl hlo
  have he := Dflts.none hD rfl; subst he; have he := Dflts.noKw hD; subst he
  refine wpP_call ?_
  · refine enter_P (by decide) ho (fd_plain hd) (Top.nolimit T) hcd rfl (kinds_of (by kinds_ok)) (by decide) fun h₁ tk₁ cells F N0 X0 => ?_
    rename List Int => ns0
    cells_open X0
    rename_i o1 o2 d1 d2
    have K0 := below_caller (Top.heap T)
    have hlen : ns0.length ≤ 63 := by omega
    refine top_use (H w _ _ o1 o2 _ _ _ ns0 d1 d2 (by assumption) (by assumption) hlen (by exact rfl)) (by exact rfl) (by exact rfl) K0 F KX N0 T (fun h' tk' m' F' => ?_)
    dsimp only
    refine GoodW.toG ?_
    wrow_close)
end Mine

end
theorem PySem.Challenge.cw_jh0019_01_holds : PySem.Challenge.rw_jh0019_01.Holds := by
  exact Mine.top fun w => Mine.step0 w (Mine.step1 w (Mine.step2 w (Mine.step3 w (Mine.step4 w (Mine.step5 w (Mine.step6 w (Mine.step7 w (Mine.step8 w (Mine.step9 w (Mine.step10 w (Mine.step11 w (Mine.step12 w (Mine.step13 w (Mine.step14 w (Mine.step15 w (Mine.step16 w (Mine.step17 w (Mine.step18 w (Mine.step19 w (Mine.step20 w (Mine.step21 w (Mine.step22 w (Mine.step23 w (Mine.step24 w (Mine.step25 w (Mine.step26 w (Mine.step27 w (Mine.step28 w (Mine.step29 w (Mine.step30 w (Mine.step31 w (Mine.step32 w (Mine.step33 w)))))))))))))))))))))))))))))))))
