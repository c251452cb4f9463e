import PyProof.Rows.All
import Wide.All
import OpenK.AllK
import Wide.FinOn
import Lean
import PySem.Challenge.RW_jh0019_01
set_option Elab.async false
set_option autoImplicit false
abbrev Mine.Thru (P : Prop) (_ : P) : Prop := P
theorem Mine.thru {P : Prop} {h : P} : Mine.Thru P h := h
theorem Mine.into {P : Prop} {h : P} (_ : Mine.Thru P h) : P := h
-- P1
section
open PySem PySem.Calls PySem.W PyProof.Rows
open Sem (wp)
set_option maxRecDepth 100000
namespace Mine
def NoDec (l : List Code) : Prop := ∀ c ∈ l, ∀ id a, c = .builtin id a → Builtin.Bytes.decodersThatHold.contains id = false
def wpP {α : Type} (M : Model) (A : Around) (t : Sem α) (Q : α → Shared → Prop) (E : Value → Shared → Prop) (s : Shared) : Prop :=
  ∀ Γ p, Γ.In A → NoDec (Γ.code :: Γ.below.map (·.1)) → wp M Γ t (fun a _ s' => Q a s') (fun e _ s' => E e s') p s
def codeP (M : Model) (A : Around) (c : Code) (R : Result → Shared → Prop) (s : Shared) : Prop :=
  ∀ Γ p, Γ.code = c → Γ.Below A → NoDec (Γ.below.map (·.1)) → wpCode M Γ R p s
section
variable {α β : Type} {M : Model} {A : Around} {E : Value → Shared → Prop} {s : Shared}
theorem wpP_of {t : Sem α} {Q : α → Shared → Prop} (h : wpAny M A t Q E s) : wpP M A t Q E s := fun Γ p hΓ _ => h Γ p hΓ
theorem codeP_of {c : Code} {R : Result → Shared → Prop} (h : codeAny M A c R s) : codeP M A c R s := fun Γ p hc hΓ _ => h Γ p hc hΓ
theorem wpP_mono {t : Sem α} {Q Q' : α → Shared → Prop} {E' : Value → Shared → Prop} (h : wpP M A t Q E s) (hQ : ∀ a s, Q a s → Q' a s) (hE : ∀ e s, E e s → E' e s) : wpP M A t Q' E' s :=
  fun Γ p hΓ hn => Sem.wp_mono M Γ t (fun a _ s => hQ a s) (fun e _ s => hE e s) p s (h Γ p hΓ hn)
theorem wpP_bind {m : Sem α} {f : α → Sem β} {Q : β → Shared → Prop} (h : wpP M A m (fun a s' => wpP M A (f a) Q E s') E s) : wpP M A (m >>= f) Q E s := fun Γ p hΓ hn => by
  rw [Sem.wp_bind']
  exact Sem.wp_mono M Γ m (fun a p' s' h' => h' Γ p' hΓ hn) (fun _ _ _ h' => h') p s (h Γ p hΓ hn)
theorem wpP_bindA {m : Sem α} {f : α → Sem β} {Q : β → Shared → Prop} (h : wpAny M A m (fun a s' => wpP M A (f a) Q E s') E s) : wpP M A (m >>= f) Q E s := wpP_bind (wpP_of h)
theorem wpP_done {Γ : Ctx} {t : Sem Fin} {R : Result → Shared → Prop} (hin : Γ.In A) (hn : NoDec (Γ.code :: Γ.below.map (·.1)))
    (h : wpP M A t (fun fin s' => ∃ f, fin = .done f ∧ R (.ok f) s') (fun e s' => R (.error e) s') s) (p : Pos) :
    wp M Γ t (Sem.finPost M Γ R) (fun e _ s' => R (.error e) s') p s := by
  refine Sem.wp_mono M Γ t (fun fin p' s' h' => ?_) (fun _ _ _ h' => h') p s (h Γ p hin hn)
  obtain ⟨f, rfl, hf⟩ := h'
  exact hf
theorem caller_noDec : NoDec ((.builtin "claim.caller" {} : Code) :: ([] : List (Code × Pos)).map (·.1)) := by
  intro c hc id a e
  rw [List.mem_singleton.mp hc] at e
  cases e
  decide +kernel
end
theorem thread_ends_P {prog : Program} {w : World} {t : Sem Fin} {s : Shared} {R : Result → Shared → Prop} (hreg : s.asleep)
    (h : wpP (model prog w) callerA t (fun fin s' => ∃ f, fin = .done f ∧ (R (.ok f) s' ∧ leftWithCleanup s'.gens = false)) (fun e s' => R (.error e) s' ∧ leftWithCleanup s'.gens = false) s) :
    ∃ n r s' s'', runN (denote table) prog w n s ⟨t, .builtin "claim.caller" {}, default, []⟩ = .halted (outcomeOf r) s' ∧
      schedN (denote table) prog w n (.single s ⟨t, .builtin "claim.caller" {}, default, []⟩) = .halted (outcomeOf r) s' ∧ s'.forget = s''.forget ∧ R r s'' := by
  obtain ⟨n, r, s₁, s₂, hs, hn, hfo, hR⟩ := wp_halts_full (M := model prog w) (R := R) hreg (wpP_done (R := fun r s' => R r s' ∧ leftWithCleanup s'.gens = false) caller_in caller_noDec h default)
  exact ⟨n, r, s₂, s₁, hn, hs, hfo, hR⟩
theorem callFrom_P {c : ClaimW} {tree : List Value → Sem Fin} {w : World} {s : Shared} {free : Addr → Prop} {gens : Prop} {kept : Heap → Prop} (hz : s.asleep) (hgens : s.gens = #[])
    (hspec : ∀ args, c.pre args = true → WData.layableAll args = true →
      ∀ ord : List DictEntry → List DictEntry, (∀ l, (ord l).Perm l) →
      ∃ vs s₁, layAllW c.records (classAt s.heap) w.params ord args s = some (vs, s₁) ∧
        wpP (model c.prog w) callerA (tree vs) (fun fin s' => ∃ f, fin = .done f ∧ (c.Ends s args vs s₁ (.ok f) s' ∧ s'.os = s.os ∧ AllBare s'.gens ∧ kept s'.heap))
          (fun e s' => c.Ends s args vs s₁ (.error e) s' ∧ s'.os = s.os ∧ AllBare s'.gens ∧ kept s'.heap) s₁) :
    c.CallFrom (fun vs => ⟨tree vs, .builtin "claim.caller" {}, default, []⟩) w free gens kept s := by
  intro args hpre hlay ord hord
  obtain ⟨vs, s₁, hlaid, hcode⟩ := hspec args hpre hlay ord hord
  have hal := layAllW_rest _ _ _ hlaid
  have hcode' := wpP_mono (Q' := fun fin s' => ∃ f, fin = .done f ∧ ((c.Ends s args vs s₁ (.ok f) s' ∧ s'.os = s.os ∧ kept s'.heap) ∧ leftWithCleanup s'.gens = false))
    (E' := fun e s' => (c.Ends s args vs s₁ (.error e) s' ∧ s'.os = s.os ∧ kept s'.heap) ∧ leftWithCleanup s'.gens = false) hcode
    (fun _ _ ⟨f, e, a, b, d, k⟩ => ⟨f, e, ⟨a, b, k⟩, leftWithCleanup_false_of_bare d⟩) fun _ _ ⟨a, b, d, k⟩ => ⟨⟨a, b, k⟩, leftWithCleanup_false_of_bare d⟩
  obtain ⟨k, r, s', s'', hrun, hsched, hfo, hcase, hos, hkp⟩ := thread_ends_P (R := fun r s' => c.Ends s args vs s₁ r s' ∧ s'.os = s.os ∧ kept s'.heap) (Shared.asleep_of_life hal.2.2.2 hz) hcode'
  obtain ⟨eh, _, _, eo, _⟩ := Shared.forget_eq hfo
  have hcase := hcase.congr eh
  have hkp' : kept s'.heap := eh.symm ▸ hkp
  have hlife : s'.heap.life = s.heap.life := (runN_life _ _ _ hrun).trans hal.2.2.2
  refine ⟨vs, s₁, hlaid, k, _, s', hsched, ?_, (fun _ i x hx => by rw [hgens] at hx; simp at hx), hkp', by rw [hlife], Shared.rest_eq (eo.trans hos)⟩
  rcases hcase with ⟨v, rfl, d1, d2, d3, d4, d5⟩ | ⟨e, ob, cls, rfl, d1, d2, d3, d4, d5⟩
  · exact .inl ⟨v, rfl, d1, d2, d3, fun b o y _ => d4 b o y, d5⟩
  · exact .inr ⟨e, ob, cls, rfl, d1, d2, d3, d4, fun b o y _ => d5 b o y⟩
abbrev WalkP (q : Program) (loose : List PySem.Str) (XP : (PySem.Str → Option Value) → Heap → Prop) (YP : World → Heap → Prop) (r : RowW) (d : DefRec) (kwd : List (PySem.Str × PySem.Expr)) : Prop :=
  ∀ (w : World) (s₀ s₁ : Shared) (mg mb : PySem.Str → Option Value), Ground q loose r.records XP w s₀ mg mb s₁.heap → YP w s₁.heap → ∀ (a : Addr) (o : Obj) (pm cd doc dV kV : Value), s₁.heap.get? a = some o →
    o.data = .func { docDef d.name d.params d.body d.scope pm cd doc with defaults := dV, kwdefaults := kV } → s₁.heap.CodeRec cd d.name → Dflts mg s₁.heap d.params kwd dV kV → mg d.name = some (.ref a) → s₁.gens = #[] →
    ∀ (args : List WData) (vals : List Value) (as : List Addr), r.claim.pre args = true → WData.layableAll args = true → ReadsAllW r.records (classAt s₀.heap) s₁.heap vals args as → WellAll w.params s₁.heap vals args → (∀ a ∈ as, (a == sysModules) = false) →
      wpP (model r.prog w) callerA (call (.ref a) vals) (fun v s' => GoodWG r.claim (classAt s₀.heap) (ExcName.means s₀.heap) args s₁ (.ok (.ret v)) s')
        (fun e s' => GoodWG r.claim (classAt s₀.heap) (ExcName.means s₀.heap) args s₁ (.error e) s') s₁
theorem PySem.W.holds_open {r : OpenRow} {q : Program} {loose : List PySem.Str} {Xt : Shared → Bool} {XP : (PySem.Str → Option Value) → Heap → Prop} {α : Type} {Yf : Shared → α} {Ya : World → α} {YP : World → Heap → Prop} {d : DefRec} {kwd : List (PySem.Str × PySem.Expr)} {N : Nat}
    (left : LeftO r.prog q loose Xt Yf Ya N) (hY : ∀ w s, Yf s = Ya w → YP w s.heap) (hYk : ∀ w h h', YP w h → (∀ b o, h.get? b = some o → h'.get? b = some o) → YP w h')
    (hX : ∀ s, Xt s = true → XP (s.heap.nsMap mainGlobals) s.heap) (hXk : ∀ mg h h', XP mg h → (∀ b o, h.get? b = some o → h'.get? b = some o) → XP mg h')
    (hdef : defOf q r.name = some (d, kwd)) (hp : r.prog.theDef r.name = some (d.params, d.body, d.scope)) (hk : kwWritten? d.params.kwonlyargs d.params.kw_defaults = some kwd) (hRf : ∀ s, Xt s = true → RecFacts r.records s.heap) (hwr : (!r.writes || r.records.isEmpty) = true)
    (k1 : r.wellSaid = true) (ok : (chainsOk q && opensWell r.prog && (frees r.toRowW && r.within.isEmpty)) = true) (hb : r.prog.bare) (hw : r.toRowW.promised)
    (call : WalkP q loose XP YP r.toRowW d kwd) : r.Holds := by
  obtain ⟨ok, k5⟩ := Bool.and_eq_true_iff.mp ok
  obtain ⟨hch, o1⟩ := Bool.and_eq_true_iff.mp ok
  obtain ⟨k5, k6⟩ := Bool.and_eq_true_iff.mp k5
  obtain ⟨hsame, hu, ha, hap, hm⟩ := frees_parts k5
  refine ⟨k1, hw, ⟨hb, o1, by show r.makers.map _ = []; rw [hm]; rfl⟩, hw.witness, fun w => ⟨(left.behind hX hch w).1, fun s' hs' => ?_⟩⟩
  obtain ⟨s₀, hf, hg0, s, hT, hz, hgens, hg, G00, y⟩ := (left.behind (XP := fun mg h => XP mg h ∧ RecFacts r.records h) (fun s hs => ⟨hX s hs, hRf s hs⟩) hch w).2 s' hs'
  have G0 : Ground q loose [] XP w s (s.heap.nsMap mainGlobals) (s.heap.nsMap builtinsNs) s.heap := ⟨G00.T, G00.B, G00.D, G00.TE, G00.TD, G00.W, G00.X.1, G00.cls, G00.has, G00.apart, G00.once, G00.K⟩
  have RF := G00.X.2
  refine ⟨s₀, hf, hg0, s, hT, fun n hn => ?_, RF.1, RF.2.1, ?_⟩
  · obtain rfl : n = r.name := by split at hn <;> simp_all
    exact pinned_of_view hg G0 hdef hp hk
  have hgens : s.gens = #[] := Array.eq_empty_of_size_eq_zero (beq_iff_eq.mp hgens)
  have G : Ground q loose r.records XP w s _ _ s.heap := RF.ground G0
  refine callFrom_P (c := r.toRowW.claim) hz hgens fun args hpre hlay ord hord => ?_
  obtain ⟨⟨vs, s₁⟩, hlaid⟩ := Option.isSome_iff_exists.mp (layAllW_isSome (P := w.params) (ord := ord) G.has args r.args s (pre_splitW hpre).1)
  have keeps := layAllW_keeps _ _ _ hlaid
  have hal := layAllW_rest _ _ _ hlaid
  obtain ⟨as, hrd, hin, hold⟩ := reads_layAllW hord _ _ _ hlaid hlay s₁.heap (fun _ _ e => e)
  have L : Laid r.records w s s₁ args vs as := ⟨⟨ord, hord, hlaid⟩, hrd, hin, hold, keeps, hal.1.trans hgens, hal.2.2.1⟩
  have G₁ := G.keeps hXk keeps
  obtain ⟨a, o, pm, cd, doc, dV, kV, h1, h2, h3, h4, h5⟩ := G₁.fn hdef
  have h := call w s s₁ _ _ G₁ (hYk _ _ _ (hY w s y) keeps) a o pm cd doc dV kV h2 h3 h4 h5 (defOf_name hdef ▸ h1) L.gens args vs as hpre hlay L.reads L.well (L.low G.low)
  have hi := ident_freeW hu ha hap
  have hwi : r.toRowW.claim.within = [] := List.isEmpty_iff.mp k6
  refine ⟨vs, s₁, hlaid, wpP_bindA (wpAny_nsGet G₁.T.g ?_)⟩
  rw [h1]
  refine wpP_bind (wpP_mono h (fun v s' g => wpP_of (wpAny_pure ⟨_, rfl, ?_⟩)) fun e s' g => ?_)
  · have z := g.laid (c := r.toRowW.claim) hsame hwi hi L
    exact ⟨z.1, z.2.1, z.2.2, fun q => ⟨namesKept_of hT hg _ keeps g.2.1.old, noTable hwr q⟩⟩
  · have z := g.laid (c := r.toRowW.claim) hsame hwi hi L
    exact ⟨z.1, z.2.1, z.2.2, fun q => ⟨namesKept_of hT hg _ keeps g.2.1.old, noTable hwr q⟩⟩
end Mine

end
-- Hp19
section
open PySem PySem.W PyProof.Rows
namespace Mine
structure Kept (P : Prop) : Prop where
  out : P
theorem cutHd {L T G : Prop} (g : G) (_ : L) (_ : T) : G := g
set_option maxRecDepth 100000 in
set_option maxHeartbeats 8000000 in
noncomputable def hd : (L : Prop) ×' (T : Prop) ×' (Kept L → Kept T → PySem.Challenge.rw_jh0019_01.row.wellSaid = true → PySem.Challenge.rw_jh0019_01.row.Holds) := by
  refine ⟨?L, ?T, fun hl' walk said => ?g⟩
  case g =>
  w_on
  refine' cutHd ?g ?hl ?hc
  case g =>
    k_head
    case hw => w_witness2
  case hl => exact hl'.out
  case hc => exact walk.out
end Mine

end
-- HpL
section
open PySem PySem.W PyProof.Rows
namespace Mine.left
theorem tw16626968708875040768:True:=⟨⟩
theorem tw11978306165023620128:True:=⟨⟩
theorem tw3918396611877472320:True:=⟨⟩
theorem tw4599591953671435328:True:=⟨⟩
theorem tw9800590566204604544:True:=⟨⟩
theorem tw8426472542052761728:True:=⟨⟩
theorem tw2489694541397801152:True:=⟨⟩
theorem tw11933382971143157024:True:=⟨⟩
theorem tw14632035536979847456:True:=⟨⟩
theorem tw1733358190782052672:True:=⟨⟩
theorem tw17918731595228751264:True:=⟨⟩
theorem tw12067431065527532992:True:=⟨⟩
theorem tw10281854798755221984:True:=⟨⟩
theorem tw9414729040831682048:True:=⟨⟩
theorem tw293621963135360512:True:=⟨⟩
theorem tw17455788676648917504:True:=⟨⟩
theorem tw18107603315756180064:True:=⟨⟩
theorem tw5230269776742887072:True:=⟨⟩
theorem tw3286320554445986464:True:=⟨⟩
theorem tw3150591360373913280:True:=⟨⟩
theorem tw10671917126445178560:True:=⟨⟩
theorem tw4691973147772534720:True:=⟨⟩
theorem tw2125306935990770624:True:=⟨⟩
theorem tw4996661729215439937:True:=⟨⟩
theorem tw11688981301955081313:True:=⟨⟩
theorem tw15362004809716315329:True:=⟨⟩
theorem tw17444110254218320065:True:=⟨⟩
theorem tw6410683852271784129:True:=⟨⟩
theorem tw7460171706544653537:True:=⟨⟩
theorem tw11674698038307207457:True:=⟨⟩
theorem tw13246979939585098049:True:=⟨⟩
theorem tw16957782904915359073:True:=⟨⟩
theorem tw8862476643316650369:True:=⟨⟩
theorem tw16043369713537145217:True:=⟨⟩
theorem tw7295848788276667777:True:=⟨⟩
theorem tw1188263462692492705:True:=⟨⟩
theorem tw18413136178168696289:True:=⟨⟩
theorem tw5661942516020131297:True:=⟨⟩
theorem tw6860854114324739553:True:=⟨⟩
theorem tw5437909918590995969:True:=⟨⟩
theorem tw1261963674239776353:True:=⟨⟩
theorem tw10151312791342082657:True:=⟨⟩
theorem tw12959562207316844193:True:=⟨⟩
theorem tw15309015439086172897:True:=⟨⟩
theorem tw17707789244453389089:True:=⟨⟩
theorem tw1540070949890137953:True:=⟨⟩
theorem tw1985274675474967393:True:=⟨⟩
theorem tw18321875359367329633:True:=⟨⟩
theorem tw16329304139462472577:True:=⟨⟩
theorem tw1046897063461232577:True:=⟨⟩
theorem tw2677519105378830273:True:=⟨⟩
theorem tw10093092835474590657:True:=⟨⟩
theorem tw3664702351300885441:True:=⟨⟩
theorem tw13236444547175214082:True:=⟨⟩
theorem tw4223480244196193282:True:=⟨⟩
theorem tw2557951806838780962:True:=⟨⟩
theorem tw12051849861802018882:True:=⟨⟩
theorem tw5015176778083012706:True:=⟨⟩
theorem tw3617247177903111266:True:=⟨⟩
theorem tw15568081794291975298:True:=⟨⟩
theorem tw11617878345684816034:True:=⟨⟩
theorem tw977824055443978402:True:=⟨⟩
theorem tw2576615309115021506:True:=⟨⟩
theorem tw7843870615901454594:True:=⟨⟩
theorem tw11116273132371693858:True:=⟨⟩
theorem tw17838875188309515554:True:=⟨⟩
theorem tw12724409782858219842:True:=⟨⟩
theorem tw4753074589126823266:True:=⟨⟩
theorem tw16295658442614639042:True:=⟨⟩
theorem tw3541312328011835874:True:=⟨⟩
theorem tw13628868633129766498:True:=⟨⟩
theorem tw12817532065343064706:True:=⟨⟩
theorem tw8103928304910830274:True:=⟨⟩
theorem tw95931982343333570:True:=⟨⟩
theorem tw5328464313782485826:True:=⟨⟩
theorem tw5026904603143193410:True:=⟨⟩
theorem tw10851147821393397570:True:=⟨⟩
theorem tw5971216192702116674:True:=⟨⟩
theorem tw7895153431473632162:True:=⟨⟩
theorem tw10603356492682181538:True:=⟨⟩
theorem tw3693013279911963586:True:=⟨⟩
theorem tw5735158803717967842:True:=⟨⟩
theorem tw4787540457906869283:True:=⟨⟩
theorem tw7001932671804858435:True:=⟨⟩
theorem tw2804921168362233923:True:=⟨⟩
theorem tw3207305721191766147:True:=⟨⟩
theorem tw18335348270226892963:True:=⟨⟩
theorem tw7575708160884200643:True:=⟨⟩
theorem tw9867104578834655427:True:=⟨⟩
theorem tw4041443389662543075:True:=⟨⟩
theorem tw8570696682419980547:True:=⟨⟩
theorem tw6370551534009850115:True:=⟨⟩
theorem tw6608153472847300867:True:=⟨⟩
theorem tw13204487639391416707:True:=⟨⟩
theorem tw10958720018219850211:True:=⟨⟩
theorem tw9241849893194190339:True:=⟨⟩
theorem tw6817707530571098755:True:=⟨⟩
theorem tw446292205204121315:True:=⟨⟩
theorem tw913569938377557763:True:=⟨⟩
theorem tw2218288772306837283:True:=⟨⟩
theorem tw13612445473930194723:True:=⟨⟩
theorem tw17505251581537069923:True:=⟨⟩
theorem tw8724555940855826307:True:=⟨⟩
theorem tw6467780426542064644:True:=⟨⟩
theorem tw1194703537107015684:True:=⟨⟩
theorem tw9347541995480993860:True:=⟨⟩
theorem tw9655648198490983492:True:=⟨⟩
theorem tw16968524706118480996:True:=⟨⟩
theorem tw424871090245785700:True:=⟨⟩
theorem tw12950348844343933060:True:=⟨⟩
theorem tw11657384738555347204:True:=⟨⟩
theorem tw17843237756364363044:True:=⟨⟩
theorem tw15569102236497036580:True:=⟨⟩
theorem tw4927496761294116228:True:=⟨⟩
theorem tw5205432766805872036:True:=⟨⟩
theorem tw6574822226635146724:True:=⟨⟩
theorem tw1673244356827421188:True:=⟨⟩
theorem tw6851223737122240068:True:=⟨⟩
theorem tw3405460300243194532:True:=⟨⟩
theorem tw8946552059443308196:True:=⟨⟩
theorem tw1849890066055018212:True:=⟨⟩
theorem tw6423247884063342340:True:=⟨⟩
theorem tw15478597734914124676:True:=⟨⟩
theorem tw18289767875218844580:True:=⟨⟩
theorem tw11022495552240593828:True:=⟨⟩
theorem tw310529545011302405:True:=⟨⟩
theorem tw6025565557315649541:True:=⟨⟩
theorem tw15130306369687750693:True:=⟨⟩
theorem tw1072432864016260133:True:=⟨⟩
theorem tw12218992713691122757:True:=⟨⟩
theorem tw1451710973134968933:True:=⟨⟩
theorem tw17144207742779020389:True:=⟨⟩
theorem tw346384763600597093:True:=⟨⟩
theorem tw17207796601729815717:True:=⟨⟩
theorem tw1903068400676924581:True:=⟨⟩
theorem tw9356436199667116229:True:=⟨⟩
theorem tw7337996397209067749:True:=⟨⟩
theorem tw8601662615017601253:True:=⟨⟩
theorem tw14123494338020263205:True:=⟨⟩
theorem tw14106970932411751749:True:=⟨⟩
theorem tw3060770867945613701:True:=⟨⟩
theorem tw17450752911354281413:True:=⟨⟩
theorem tw3713228527541328357:True:=⟨⟩
theorem tw12372490563435553253:True:=⟨⟩
theorem tw7635273161601129989:True:=⟨⟩
theorem tw12269095004267329029:True:=⟨⟩
theorem tw12455884306032385541:True:=⟨⟩
theorem tw6340716366496903717:True:=⟨⟩
theorem tw12801006423870300805:True:=⟨⟩
theorem tw6956908445091105477:True:=⟨⟩
theorem tw15798144084868576005:True:=⟨⟩
theorem tw14768252079023202053:True:=⟨⟩
theorem tw467081856714786565:True:=⟨⟩
theorem tw2037518677745461029:True:=⟨⟩
theorem tw7807978389932575557:True:=⟨⟩
theorem tw8069966807139461957:True:=⟨⟩
theorem tw3837091989822747461:True:=⟨⟩
theorem tw3324000579429069637:True:=⟨⟩
theorem tw17113973238261083109:True:=⟨⟩
theorem tw12938519343239720933:True:=⟨⟩
theorem tw5730037189062602790:True:=⟨⟩
theorem tw17437390732388045990:True:=⟨⟩
theorem tw17755080249498578086:True:=⟨⟩
theorem tw7290501534801717446:True:=⟨⟩
theorem tw9388865160395153606:True:=⟨⟩
theorem tw18046205338796328166:True:=⟨⟩
theorem tw14407831051984841990:True:=⟨⟩
theorem tw10256386411441557798:True:=⟨⟩
theorem tw12599416211121995078:True:=⟨⟩
theorem tw1066925079118519654:True:=⟨⟩
theorem tw5636254567344182662:True:=⟨⟩
theorem tw66489006102515110:True:=⟨⟩
theorem tw6931853715559009702:True:=⟨⟩
theorem tw2550101192098192838:True:=⟨⟩
theorem tw4489462798095017414:True:=⟨⟩
theorem tw3899486174912264646:True:=⟨⟩
theorem tw5137177417475608038:True:=⟨⟩
theorem tw7666210433114993222:True:=⟨⟩
theorem tw10583805265828315878:True:=⟨⟩
theorem tw12490703189174989606:True:=⟨⟩
theorem tw3301577345469062982:True:=⟨⟩
theorem tw12358095837965013926:True:=⟨⟩
theorem tw18024292576007941030:True:=⟨⟩
theorem tw7519619793892750310:True:=⟨⟩
theorem tw10750622819123524582:True:=⟨⟩
theorem tw522514582983336967:True:=⟨⟩
theorem tw13532623747370889255:True:=⟨⟩
theorem tw14904296272429108295:True:=⟨⟩
theorem tw8424847000148699239:True:=⟨⟩
theorem tw4061779586667398343:True:=⟨⟩
theorem tw260505202533482791:True:=⟨⟩
theorem tw14971252574272429415:True:=⟨⟩
theorem tw16376792593663576423:True:=⟨⟩
theorem tw8549818254588159367:True:=⟨⟩
theorem tw11167620800608065991:True:=⟨⟩
theorem tw15270833238438580711:True:=⟨⟩
theorem tw6079531504047495687:True:=⟨⟩
theorem tw5975778768647462407:True:=⟨⟩
theorem tw15317098742630112775:True:=⟨⟩
theorem tw14953899456640022055:True:=⟨⟩
theorem tw15248823433397124647:True:=⟨⟩
theorem tw6468210441948735047:True:=⟨⟩
theorem tw8121825820727831143:True:=⟨⟩
theorem tw2978388071527280327:True:=⟨⟩
theorem tw3297296898832518855:True:=⟨⟩
theorem tw3969496689101431527:True:=⟨⟩
theorem tw1955291914543115015:True:=⟨⟩
theorem tw6059880493629475623:True:=⟨⟩
theorem tw17252704264414412583:True:=⟨⟩
theorem tw10693492227433593639:True:=⟨⟩
theorem tw7805062997515121479:True:=⟨⟩
theorem tw4664132766463784775:True:=⟨⟩
theorem tw3526301563121512359:True:=⟨⟩
theorem tw11742288132445340615:True:=⟨⟩
theorem tw3138515495832952775:True:=⟨⟩
theorem tw6127282377307187143:True:=⟨⟩
theorem tw13907339717669527527:True:=⟨⟩
theorem tw1508320659539494920:True:=⟨⟩
theorem tw3067257751023955976:True:=⟨⟩
theorem tw13262983923050879016:True:=⟨⟩
theorem tw3429001262975880264:True:=⟨⟩
theorem tw9303917177309968456:True:=⟨⟩
theorem tw16434471594823165064:True:=⟨⟩
theorem tw15314005707403465928:True:=⟨⟩
theorem tw13579788891588010216:True:=⟨⟩
theorem tw9687453282412708072:True:=⟨⟩
theorem tw17579278438069799176:True:=⟨⟩
theorem tw17957586997340028168:True:=⟨⟩
theorem tw4179690246857395496:True:=⟨⟩
theorem tw9773181907768743272:True:=⟨⟩
theorem tw713507697797212648:True:=⟨⟩
theorem tw18288525139608627720:True:=⟨⟩
theorem tw10341094312932717064:True:=⟨⟩
theorem tw8756454257742161512:True:=⟨⟩
theorem tw4884106663507342984:True:=⟨⟩
theorem tw9617616547176521384:True:=⟨⟩
theorem tw16975863605541780136:True:=⟨⟩
theorem tw2018104661057912488:True:=⟨⟩
theorem tw729597280060366536:True:=⟨⟩
theorem tw1674613995309681352:True:=⟨⟩
theorem tw10264672467984683816:True:=⟨⟩
theorem tw15552159793137356616:True:=⟨⟩
theorem tw17305294282995476296:True:=⟨⟩
theorem tw2829597849042729800:True:=⟨⟩
theorem tw7670592303902837576:True:=⟨⟩
theorem tw13218556168328081224:True:=⟨⟩
theorem tw2945053057276885896:True:=⟨⟩
theorem tw14983421513954287528:True:=⟨⟩
theorem tw14146912827222531016:True:=⟨⟩
theorem tw7647586637117180904:True:=⟨⟩
theorem tw12218609469945376777:True:=⟨⟩
theorem tw4347137292517815337:True:=⟨⟩
theorem tw10567704653366348841:True:=⟨⟩
theorem tw14694146824260351209:True:=⟨⟩
theorem tw12639080135360128265:True:=⟨⟩
theorem tw3651668166143141161:True:=⟨⟩
theorem tw10151495462918665545:True:=⟨⟩
theorem tw2595306304908868969:True:=⟨⟩
theorem tw12196038995244825961:True:=⟨⟩
theorem tw14140284516111470953:True:=⟨⟩
theorem tw4928650539993767337:True:=⟨⟩
theorem tw787735702752308681:True:=⟨⟩
theorem tw9477364778139411913:True:=⟨⟩
theorem tw2767614240719289833:True:=⟨⟩
theorem tw16557656335607025129:True:=⟨⟩
theorem tw608166263850297865:True:=⟨⟩
theorem tw12819864338015822409:True:=⟨⟩
theorem tw4821453697003687529:True:=⟨⟩
theorem tw6579484601361349225:True:=⟨⟩
theorem tw10143405938765005481:True:=⟨⟩
theorem tw7845613103693603497:True:=⟨⟩
theorem tw17347385210630387465:True:=⟨⟩
theorem tw10472740042052222793:True:=⟨⟩
theorem tw16840920206810730313:True:=⟨⟩
theorem tw13917343715190758281:True:=⟨⟩
theorem tw12997541620905208745:True:=⟨⟩
theorem tw1164429594220558249:True:=⟨⟩
theorem tw1399665183164206025:True:=⟨⟩
theorem tw10209169731344440265:True:=⟨⟩
theorem tw18029117483783319497:True:=⟨⟩
theorem tw14202437277625228298:True:=⟨⟩
theorem tw6181344930624877610:True:=⟨⟩
theorem tw12733516243987310634:True:=⟨⟩
theorem tw14498891537802568778:True:=⟨⟩
theorem tw13948697263707746474:True:=⟨⟩
theorem tw9677756019436221610:True:=⟨⟩
theorem tw6141958466056436938:True:=⟨⟩
theorem tw4811882328835170538:True:=⟨⟩
theorem tw5471574347014984010:True:=⟨⟩
theorem tw8196220841762268522:True:=⟨⟩
theorem tw7772856142751723882:True:=⟨⟩
theorem tw7284628390158284202:True:=⟨⟩
theorem tw7351529114510660042:True:=⟨⟩
theorem tw3605776001896063434:True:=⟨⟩
theorem tw2220092501728977418:True:=⟨⟩
theorem tw14102566695447932490:True:=⟨⟩
theorem tw6674595174652103274:True:=⟨⟩
theorem tw2980123887242302058:True:=⟨⟩
theorem tw7234021835422384778:True:=⟨⟩
theorem tw10735625053927540362:True:=⟨⟩
theorem tw16770490895799808682:True:=⟨⟩
theorem tw7792888156242153162:True:=⟨⟩
theorem tw2871743258066528970:True:=⟨⟩
theorem tw7336441081730118378:True:=⟨⟩
theorem tw17881750598707033866:True:=⟨⟩
theorem tw10282926190799414026:True:=⟨⟩
theorem tw13830276570113600298:True:=⟨⟩
theorem tw225683184635372330:True:=⟨⟩
theorem tw17919373750753300298:True:=⟨⟩
theorem tw11741918580612730762:True:=⟨⟩
theorem tw13621995913637967754:True:=⟨⟩
theorem tw9933941139700458378:True:=⟨⟩
theorem tw2040828705181952938:True:=⟨⟩
theorem tw2436852134466682794:True:=⟨⟩
theorem tw1544766528295230410:True:=⟨⟩
theorem tw15240273301694060522:True:=⟨⟩
theorem tw8517501710897700842:True:=⟨⟩
theorem tw15692628875698285579:True:=⟨⟩
theorem tw5458372099047346347:True:=⟨⟩
theorem tw18410813282971877579:True:=⟨⟩
theorem tw16167277134001846475:True:=⟨⟩
theorem tw10458911827509816523:True:=⟨⟩
theorem tw8326381009722246379:True:=⟨⟩
theorem tw5605696582311864651:True:=⟨⟩
theorem tw9339303518564081035:True:=⟨⟩
theorem tw9085525394936266123:True:=⟨⟩
theorem tw5420294964283338155:True:=⟨⟩
theorem tw10279625494121290155:True:=⟨⟩
theorem tw11917109347430600139:True:=⟨⟩
theorem tw98609132642807275:True:=⟨⟩
theorem tw18214064924823687947:True:=⟨⟩
theorem tw7095431271382997771:True:=⟨⟩
theorem tw5562428078156939019:True:=⟨⟩
theorem tw9937757902560833323:True:=⟨⟩
theorem tw17269131746750513963:True:=⟨⟩
theorem tw6060282504093114219:True:=⟨⟩
theorem tw4232518973763252075:True:=⟨⟩
theorem tw9175227809439305611:True:=⟨⟩
theorem tw13425754566913696715:True:=⟨⟩
theorem tw12328109241456740299:True:=⟨⟩
theorem tw5982150389648779276:True:=⟨⟩
theorem tw13085060216072310796:True:=⟨⟩
theorem tw15500958973802345580:True:=⟨⟩
theorem tw17841987803356070028:True:=⟨⟩
theorem tw14298710678158045356:True:=⟨⟩
theorem tw1254135645399619788:True:=⟨⟩
theorem tw11072706374972710092:True:=⟨⟩
theorem tw16138783781342146796:True:=⟨⟩
theorem tw14007281954563547404:True:=⟨⟩
theorem tw10561362231469935948:True:=⟨⟩
theorem tw13986459623980930412:True:=⟨⟩
theorem tw10560650421270493612:True:=⟨⟩
theorem tw7100873245990132172:True:=⟨⟩
theorem tw14985497679988395500:True:=⟨⟩
theorem tw1117911673876799980:True:=⟨⟩
theorem tw6484015392448588396:True:=⟨⟩
theorem tw11661825415886592652:True:=⟨⟩
theorem tw15061046877589463692:True:=⟨⟩
theorem tw12023544485869644428:True:=⟨⟩
theorem tw9939434930907591436:True:=⟨⟩
theorem tw16304877039532951372:True:=⟨⟩
theorem tw14280599821044484012:True:=⟨⟩
theorem tw1482216389812675564:True:=⟨⟩
theorem tw15472741514179313805:True:=⟨⟩
theorem tw10032533016382007469:True:=⟨⟩
theorem tw4454000134082066605:True:=⟨⟩
theorem tw8070862196266509549:True:=⟨⟩
theorem tw14591101849549550829:True:=⟨⟩
theorem tw8287925586298167565:True:=⟨⟩
theorem tw6786967612168800781:True:=⟨⟩
theorem tw14571384214735213069:True:=⟨⟩
theorem tw12924136601568335405:True:=⟨⟩
theorem tw796625907079114285:True:=⟨⟩
theorem tw6766156173428751917:True:=⟨⟩
theorem tw16261591811933609549:True:=⟨⟩
theorem tw11709516455398172237:True:=⟨⟩
theorem tw1667581109383659085:True:=⟨⟩
theorem tw7468272032094685837:True:=⟨⟩
theorem tw11648813517919540909:True:=⟨⟩
theorem tw5823752613303233229:True:=⟨⟩
theorem tw4727920720577402637:True:=⟨⟩
theorem tw17906676475504374541:True:=⟨⟩
theorem tw8525144318441121549:True:=⟨⟩
theorem tw10868912989937390445:True:=⟨⟩
theorem tw175867871583210349:True:=⟨⟩
theorem tw12809254123221137293:True:=⟨⟩
theorem tw11328717148215825293:True:=⟨⟩
theorem tw2904803393034020813:True:=⟨⟩
theorem tw17661951653745533933:True:=⟨⟩
theorem tw3054605922474189805:True:=⟨⟩
theorem tw9014414747297604622:True:=⟨⟩
theorem tw11609343907124731950:True:=⟨⟩
theorem tw4243254756219242574:True:=⟨⟩
theorem tw4569371261588614350:True:=⟨⟩
theorem tw5215604804788603086:True:=⟨⟩
theorem tw5054362774269152462:True:=⟨⟩
theorem tw12297700991395419406:True:=⟨⟩
theorem tw3935732499234096462:True:=⟨⟩
theorem tw2576152985002051950:True:=⟨⟩
theorem tw1221678849379798446:True:=⟨⟩
theorem tw1223745742223699406:True:=⟨⟩
theorem tw216158926086795790:True:=⟨⟩
theorem tw15142531265973088814:True:=⟨⟩
theorem tw18260590464796327534:True:=⟨⟩
theorem tw12265578896984509038:True:=⟨⟩
theorem tw4787958415307381390:True:=⟨⟩
theorem tw383653199687920302:True:=⟨⟩
theorem tw9643496590558471918:True:=⟨⟩
theorem tw8812064511318443822:True:=⟨⟩
theorem tw16069356975837495118:True:=⟨⟩
theorem tw3868366889853560654:True:=⟨⟩
theorem tw15491290966592441326:True:=⟨⟩
theorem tw16162645704336056335:True:=⟨⟩
theorem tw18232285170600229935:True:=⟨⟩
theorem tw5225895591752404015:True:=⟨⟩
theorem tw13900878795584300207:True:=⟨⟩
theorem tw7242205262554270959:True:=⟨⟩
theorem tw8947724154228320495:True:=⟨⟩
theorem tw5956793854091004175:True:=⟨⟩
theorem tw5082372510931963151:True:=⟨⟩
theorem tw2737744863713738095:True:=⟨⟩
theorem tw10156389901437801903:True:=⟨⟩
theorem tw10033850479068168623:True:=⟨⟩
theorem tw6341429647656768943:True:=⟨⟩
theorem tw11476376700303643087:True:=⟨⟩
theorem tw11216135269866385903:True:=⟨⟩
theorem tw11521838682323867151:True:=⟨⟩
theorem tw8775185159510891023:True:=⟨⟩
theorem tw17376137216125042415:True:=⟨⟩
theorem tw16070758623498278735:True:=⟨⟩
theorem tw2072704515039238991:True:=⟨⟩
theorem tw18045384542474422127:True:=⟨⟩
theorem tw14228367619033580463:True:=⟨⟩
theorem tw7745915234920646575:True:=⟨⟩
theorem tw16146746993817466831:True:=⟨⟩
theorem tw2671948426490528751:True:=⟨⟩
theorem tw10565666839966065744:True:=⟨⟩
theorem tw6043124221414068304:True:=⟨⟩
theorem tw13814369255481661520:True:=⟨⟩
theorem tw8356506623373217936:True:=⟨⟩
theorem tw10870860360433079504:True:=⟨⟩
theorem tw10950764397446134992:True:=⟨⟩
theorem tw14196573756848182512:True:=⟨⟩
theorem tw7857815985408435568:True:=⟨⟩
theorem tw14145803251057699184:True:=⟨⟩
theorem tw16718163421302513040:True:=⟨⟩
theorem tw12782903245148790160:True:=⟨⟩
theorem tw10182510533951622544:True:=⟨⟩
theorem tw5551704327849718288:True:=⟨⟩
theorem tw13902028575093278256:True:=⟨⟩
theorem tw12274654036710088240:True:=⟨⟩
theorem tw7393897359131223664:True:=⟨⟩
theorem tw15273746805940100752:True:=⟨⟩
theorem tw16148323610865114768:True:=⟨⟩
theorem tw8846796875151517392:True:=⟨⟩
theorem tw5146028044943863504:True:=⟨⟩
theorem tw3323479749445410512:True:=⟨⟩
theorem tw17348282538298273488:True:=⟨⟩
theorem tw13530390655042401008:True:=⟨⟩
theorem tw15387189751188481776:True:=⟨⟩
theorem tw16016862433306369808:True:=⟨⟩
theorem tw16960728842414889776:True:=⟨⟩
theorem tw3139337457514203952:True:=⟨⟩
theorem tw3641075115409563440:True:=⟨⟩
theorem tw9974907699682404144:True:=⟨⟩
theorem tw16963929479675567952:True:=⟨⟩
theorem tw9114300751808193392:True:=⟨⟩
theorem tw5736179480474842000:True:=⟨⟩
theorem tw6478600376628014097:True:=⟨⟩
theorem tw10679779585800064049:True:=⟨⟩
theorem tw5128718971058437265:True:=⟨⟩
theorem tw6567758591786941681:True:=⟨⟩
theorem tw3930111360077716753:True:=⟨⟩
theorem tw11342117570289050929:True:=⟨⟩
theorem tw13346930428620180881:True:=⟨⟩
theorem tw13135663755077032337:True:=⟨⟩
theorem tw11329403379702386161:True:=⟨⟩
theorem tw12565684408609080849:True:=⟨⟩
theorem tw13843513333748511249:True:=⟨⟩
theorem tw8615720850650313233:True:=⟨⟩
theorem tw18158236158231261745:True:=⟨⟩
theorem tw13554353786107045457:True:=⟨⟩
theorem tw8212941452848062225:True:=⟨⟩
theorem tw16743428827577892753:True:=⟨⟩
theorem tw11658599626812424081:True:=⟨⟩
theorem tw1454908699005844401:True:=⟨⟩
theorem tw3490804333984100305:True:=⟨⟩
theorem tw13287027855985290225:True:=⟨⟩
theorem tw16026198403456948242:True:=⟨⟩
theorem tw13872795490424071218:True:=⟨⟩
theorem tw12931619525689794642:True:=⟨⟩
theorem tw17326424540950339730:True:=⟨⟩
theorem tw1973319857745251474:True:=⟨⟩
theorem tw15943660273730505906:True:=⟨⟩
theorem tw10642452910342667442:True:=⟨⟩
theorem tw9377490910188962066:True:=⟨⟩
theorem tw9083896721455978802:True:=⟨⟩
theorem tw18311408142467001650:True:=⟨⟩
theorem tw10483020707534452050:True:=⟨⟩
theorem tw1297496008851490162:True:=⟨⟩
theorem tw9785781270522831250:True:=⟨⟩
theorem tw15458790489863536050:True:=⟨⟩
theorem tw13978445554027800018:True:=⟨⟩
theorem tw257731287307225586:True:=⟨⟩
theorem tw8377394117134710258:True:=⟨⟩
theorem tw11540845610898119186:True:=⟨⟩
theorem tw8857504141129643538:True:=⟨⟩
theorem tw441177552857648786:True:=⟨⟩
theorem tw15692723794750608050:True:=⟨⟩
theorem tw16767574237284492978:True:=⟨⟩
theorem tw12935179443516416754:True:=⟨⟩
theorem tw9539291337092223762:True:=⟨⟩
theorem tw600397798997955378:True:=⟨⟩
theorem tw399750218421956402:True:=⟨⟩
theorem tw11866562722792620882:True:=⟨⟩
theorem tw397720688128187282:True:=⟨⟩
theorem tw1331668227521595314:True:=⟨⟩
theorem tw6113291112484915186:True:=⟨⟩
theorem tw18443024702047464531:True:=⟨⟩
theorem tw9609703272140571795:True:=⟨⟩
theorem tw8040539995183503507:True:=⟨⟩
theorem tw12077491225584100499:True:=⟨⟩
theorem tw7654589037326587091:True:=⟨⟩
theorem tw4400545601830344915:True:=⟨⟩
theorem tw16083098703390993715:True:=⟨⟩
theorem tw5233231172979365235:True:=⟨⟩
theorem tw12281449840040871347:True:=⟨⟩
theorem tw17615969120643129875:True:=⟨⟩
theorem tw5097588479848903219:True:=⟨⟩
theorem tw16027528873007020659:True:=⟨⟩
theorem tw11611224961057276595:True:=⟨⟩
theorem tw4349624817163775667:True:=⟨⟩
theorem tw14452968524310018771:True:=⟨⟩
theorem tw12440826426070541043:True:=⟨⟩
theorem tw3219837590169047859:True:=⟨⟩
theorem tw584982347081546547:True:=⟨⟩
theorem tw18262254217129384819:True:=⟨⟩
theorem tw11636613976200614803:True:=⟨⟩
theorem tw4143658306695679891:True:=⟨⟩
theorem tw1252732068263964595:True:=⟨⟩
theorem tw9121618800917861331:True:=⟨⟩
theorem tw12175285534131660755:True:=⟨⟩
theorem tw13334989193672951795:True:=⟨⟩
theorem tw13115594765294418964:True:=⟨⟩
theorem tw15105975663200629812:True:=⟨⟩
theorem tw18333326744384333972:True:=⟨⟩
theorem tw11718230251625038004:True:=⟨⟩
theorem tw4395567243408122132:True:=⟨⟩
theorem tw1430266459221762356:True:=⟨⟩
theorem tw12535030932219989364:True:=⟨⟩
theorem tw10193410139820363156:True:=⟨⟩
theorem tw796537728920769940:True:=⟨⟩
theorem tw10545244833756504468:True:=⟨⟩
theorem tw3374960886655828404:True:=⟨⟩
theorem tw3757401458182696404:True:=⟨⟩
theorem tw1711239733658349044:True:=⟨⟩
theorem tw4534568425177312756:True:=⟨⟩
theorem tw1265610219443342836:True:=⟨⟩
theorem tw924503743653488148:True:=⟨⟩
theorem tw8003917203849569908:True:=⟨⟩
theorem tw12734336549348356788:True:=⟨⟩
theorem tw9805637421396591316:True:=⟨⟩
theorem tw705614464706871028:True:=⟨⟩
theorem tw3031371785057515284:True:=⟨⟩
theorem tw8334687271127113524:True:=⟨⟩
theorem tw10353123265780169556:True:=⟨⟩
theorem tw13128287226727684980:True:=⟨⟩
theorem tw9683303324707262356:True:=⟨⟩
theorem tw4177535187734046612:True:=⟨⟩
theorem tw8806894995864043476:True:=⟨⟩
theorem tw12988122388485786612:True:=⟨⟩
theorem tw9980767789842257941:True:=⟨⟩
theorem tw7414956118413822005:True:=⟨⟩
theorem tw6080116865351514165:True:=⟨⟩
theorem tw1805036438167378005:True:=⟨⟩
theorem tw10568860375426805845:True:=⟨⟩
theorem tw69995430493896821:True:=⟨⟩
theorem tw6647755121446343797:True:=⟨⟩
theorem tw197870795437958485:True:=⟨⟩
theorem tw4868827745629546901:True:=⟨⟩
theorem tw13226833206374660533:True:=⟨⟩
theorem tw13833008023571501589:True:=⟨⟩
theorem tw4909842148772057621:True:=⟨⟩
theorem tw17738396502912086645:True:=⟨⟩
theorem tw7990518068206596757:True:=⟨⟩
theorem tw1988294207759718101:True:=⟨⟩
theorem tw15092336917629885173:True:=⟨⟩
theorem tw5777511573246548757:True:=⟨⟩
theorem tw18082144781183619925:True:=⟨⟩
theorem tw9638406022943956853:True:=⟨⟩
theorem tw13880518554233248661:True:=⟨⟩
theorem tw9086540958804509621:True:=⟨⟩
theorem tw11759519512051202037:True:=⟨⟩
theorem tw4477465724835642390:True:=⟨⟩
theorem tw7408491178043503734:True:=⟨⟩
theorem tw4542541825098672310:True:=⟨⟩
theorem tw14484961425474909366:True:=⟨⟩
theorem tw11958156957937890614:True:=⟨⟩
theorem tw15651264263332840822:True:=⟨⟩
theorem tw17343161809624973686:True:=⟨⟩
theorem tw7734492998386875766:True:=⟨⟩
theorem tw3549496867848586646:True:=⟨⟩
theorem tw4660476320827963798:True:=⟨⟩
theorem tw12527789903193490934:True:=⟨⟩
theorem tw3033133781413424630:True:=⟨⟩
theorem tw13070865033562924566:True:=⟨⟩
theorem tw7336946248030305814:True:=⟨⟩
theorem tw17631624591901147766:True:=⟨⟩
theorem tw13237848382355206774:True:=⟨⟩
theorem tw13886692527419010710:True:=⟨⟩
theorem tw6295457906440270486:True:=⟨⟩
theorem tw8622946368317499062:True:=⟨⟩
theorem tw10483209903173700342:True:=⟨⟩
theorem tw14262933350132513526:True:=⟨⟩
theorem tw12315566853318643478:True:=⟨⟩
theorem tw17517543165973718039:True:=⟨⟩
theorem tw16422673340940630071:True:=⟨⟩
theorem tw8445713607014714551:True:=⟨⟩
theorem tw9786312453151405239:True:=⟨⟩
theorem tw4601418690812010711:True:=⟨⟩
theorem tw1938537710861592791:True:=⟨⟩
theorem tw6379534398832791831:True:=⟨⟩
theorem tw6442356832555567383:True:=⟨⟩
theorem tw16069456915747030455:True:=⟨⟩
theorem tw7338825798504071639:True:=⟨⟩
theorem tw4105156467587365367:True:=⟨⟩
theorem tw12962493000013561335:True:=⟨⟩
theorem tw2090020685193300471:True:=⟨⟩
theorem tw6220784885047539255:True:=⟨⟩
theorem tw1745614457629242967:True:=⟨⟩
theorem tw5071381080737138359:True:=⟨⟩
theorem tw13040489704264440535:True:=⟨⟩
theorem tw13051862436137710327:True:=⟨⟩
theorem tw2965026021801887479:True:=⟨⟩
theorem tw6201766966481036055:True:=⟨⟩
theorem tw10901095356670634775:True:=⟨⟩
theorem tw9077386048720187191:True:=⟨⟩
theorem tw4288894521968058199:True:=⟨⟩
theorem tw15415397639968721783:True:=⟨⟩
theorem tw4281940085092572119:True:=⟨⟩
theorem tw8118477501192694743:True:=⟨⟩
theorem tw14327370849864988696:True:=⟨⟩
theorem tw13699566045552029752:True:=⟨⟩
theorem tw6344129971342327896:True:=⟨⟩
theorem tw6569408530330651768:True:=⟨⟩
theorem tw9169434909308603512:True:=⟨⟩
theorem tw2946437789193543864:True:=⟨⟩
theorem tw7746548596025678008:True:=⟨⟩
theorem tw14418934472424868120:True:=⟨⟩
theorem tw7056227147748621624:True:=⟨⟩
theorem tw8566509389450326392:True:=⟨⟩
theorem tw10576339077882403192:True:=⟨⟩
theorem tw15687474920247515544:True:=⟨⟩
theorem tw9120212445779535288:True:=⟨⟩
theorem tw8765980645009410552:True:=⟨⟩
theorem tw1613248274766639640:True:=⟨⟩
theorem tw3269549622936974936:True:=⟨⟩
theorem tw4229963709926515320:True:=⟨⟩
theorem tw3987433624807069464:True:=⟨⟩
theorem tw9874155804475205432:True:=⟨⟩
theorem tw5837859562888539000:True:=⟨⟩
theorem tw1228790166644337560:True:=⟨⟩
theorem tw7556789358984651672:True:=⟨⟩
theorem tw3414335513530530712:True:=⟨⟩
theorem tw17036744071539419096:True:=⟨⟩
theorem tw15099383726882911192:True:=⟨⟩
theorem tw15443245686791377945:True:=⟨⟩
theorem tw4126974990754358297:True:=⟨⟩
theorem tw1599709829766544441:True:=⟨⟩
theorem tw13033793313090064441:True:=⟨⟩
theorem tw6097691102853432441:True:=⟨⟩
theorem tw3059900339960028281:True:=⟨⟩
theorem tw4562429646015468697:True:=⟨⟩
theorem tw16126674823551492313:True:=⟨⟩
theorem tw1175876367739985145:True:=⟨⟩
theorem tw8069602997271461177:True:=⟨⟩
theorem tw15099661793649438041:True:=⟨⟩
theorem tw10258633807918476665:True:=⟨⟩
theorem tw10497113061955055993:True:=⟨⟩
theorem tw6044261491761352121:True:=⟨⟩
theorem tw1464559281597093305:True:=⟨⟩
theorem tw6253372995550657977:True:=⟨⟩
theorem tw16133769050073667065:True:=⟨⟩
theorem tw17161742941631303161:True:=⟨⟩
theorem tw16432201379848949401:True:=⟨⟩
theorem tw9979766287243147929:True:=⟨⟩
theorem tw6657759233358708473:True:=⟨⟩
theorem tw2505198872403419929:True:=⟨⟩
theorem tw16969740368846337817:True:=⟨⟩
theorem tw14726003650098202425:True:=⟨⟩
theorem tw9306463771360843577:True:=⟨⟩
theorem tw5735630570236950586:True:=⟨⟩
theorem tw16561832329841859642:True:=⟨⟩
theorem tw9279506062988143674:True:=⟨⟩
theorem tw142936556190945370:True:=⟨⟩
theorem tw15910266447769327802:True:=⟨⟩
theorem tw625895409160344954:True:=⟨⟩
theorem tw3479846651248090554:True:=⟨⟩
theorem tw14354474661560689114:True:=⟨⟩
theorem tw16288803816049952250:True:=⟨⟩
theorem tw6562524512884175386:True:=⟨⟩
theorem tw8499756597231244826:True:=⟨⟩
theorem tw12791001641629359738:True:=⟨⟩
theorem tw2220909065049684634:True:=⟨⟩
theorem tw3191848008515570394:True:=⟨⟩
theorem tw15333888422682877658:True:=⟨⟩
theorem tw17829125627131500314:True:=⟨⟩
theorem tw17945303661827348250:True:=⟨⟩
theorem tw12042187068062785402:True:=⟨⟩
theorem tw8334705217199738778:True:=⟨⟩
theorem tw4739594428638237594:True:=⟨⟩
theorem tw9286876756336198586:True:=⟨⟩
theorem tw12889484114658923482:True:=⟨⟩
theorem tw9754517288593227738:True:=⟨⟩
theorem tw12015992243965489243:True:=⟨⟩
theorem tw4730750878445362299:True:=⟨⟩
theorem tw13430007999514716315:True:=⟨⟩
theorem tw11397742301676134555:True:=⟨⟩
theorem tw12993552966330328315:True:=⟨⟩
theorem tw8739198768267114779:True:=⟨⟩
theorem tw7591003848623993179:True:=⟨⟩
theorem tw15642042218848208251:True:=⟨⟩
theorem tw5780734594186154363:True:=⟨⟩
theorem tw8175617888867968475:True:=⟨⟩
theorem tw12369461380471000539:True:=⟨⟩
theorem tw4256641406850833979:True:=⟨⟩
theorem tw2687931651891054171:True:=⟨⟩
theorem tw1959312399276381819:True:=⟨⟩
theorem tw2933644757141575419:True:=⟨⟩
theorem tw17276252674101441275:True:=⟨⟩
theorem tw2902260320541814555:True:=⟨⟩
theorem tw11304041720320558971:True:=⟨⟩
theorem tw2255486724812201851:True:=⟨⟩
theorem tw11370268684683296699:True:=⟨⟩
theorem tw16119138810524048379:True:=⟨⟩
theorem tw9176408718176534523:True:=⟨⟩
theorem tw8546750960090845212:True:=⟨⟩
theorem tw2410979464976744476:True:=⟨⟩
theorem tw2433940751780958300:True:=⟨⟩
theorem tw10072773156952664156:True:=⟨⟩
theorem tw16478796857054019708:True:=⟨⟩
theorem tw3998132680337854652:True:=⟨⟩
theorem tw6308662861830334652:True:=⟨⟩
theorem tw10883313555387499708:True:=⟨⟩
theorem tw13364247555786964156:True:=⟨⟩
theorem tw14823852809733117148:True:=⟨⟩
theorem tw15388307339199157500:True:=⟨⟩
theorem tw12728617445422835964:True:=⟨⟩
theorem tw14730715848814321948:True:=⟨⟩
theorem tw3566499293308614940:True:=⟨⟩
theorem tw3584277749812111676:True:=⟨⟩
theorem tw123111215161874780:True:=⟨⟩
theorem tw12125402850506401180:True:=⟨⟩
theorem tw10331684208139663804:True:=⟨⟩
theorem tw372570073014967836:True:=⟨⟩
theorem tw13413135523098589788:True:=⟨⟩
theorem tw16023584117983342236:True:=⟨⟩
theorem tw5076402248763215644:True:=⟨⟩
theorem tw17146708102230651676:True:=⟨⟩
theorem tw4523142755951121244:True:=⟨⟩
theorem tw18282180785652238172:True:=⟨⟩
theorem tw13342650174906684284:True:=⟨⟩
theorem tw6328516239794352028:True:=⟨⟩
theorem tw5904470893689583645:True:=⟨⟩
theorem tw12188817705667713053:True:=⟨⟩
theorem tw10372876405645812797:True:=⟨⟩
theorem tw6338702256602230877:True:=⟨⟩
theorem tw5979233295252247645:True:=⟨⟩
theorem tw14736857232309963133:True:=⟨⟩
theorem tw17863852435618129309:True:=⟨⟩
theorem tw13252411263934785949:True:=⟨⟩
theorem tw13059306584284192189:True:=⟨⟩
theorem tw2626298145180874205:True:=⟨⟩
theorem tw15443643540675095037:True:=⟨⟩
theorem tw1013502583226224189:True:=⟨⟩
theorem tw12356721104814363197:True:=⟨⟩
theorem tw5840840180869434077:True:=⟨⟩
theorem tw11310005001180010205:True:=⟨⟩
theorem tw10087329720646860509:True:=⟨⟩
theorem tw7458867375653168893:True:=⟨⟩
theorem tw9693087805405979517:True:=⟨⟩
theorem tw15252127133743716253:True:=⟨⟩
theorem tw18311324124150051773:True:=⟨⟩
theorem tw3777694670016643037:True:=⟨⟩
theorem tw5695254828805938173:True:=⟨⟩
theorem tw12399215071430002878:True:=⟨⟩
theorem tw12537361543081304254:True:=⟨⟩
theorem tw17883387069699955934:True:=⟨⟩
theorem tw1920812795044169982:True:=⟨⟩
theorem tw8957087978856992030:True:=⟨⟩
theorem tw2577069837521916286:True:=⟨⟩
theorem tw5762543952666006910:True:=⟨⟩
theorem tw7510691806872366494:True:=⟨⟩
theorem tw6634763434613339550:True:=⟨⟩
theorem tw10138830186647492030:True:=⟨⟩
theorem tw17761110009018887646:True:=⟨⟩
theorem tw13238140433448828382:True:=⟨⟩
theorem tw9146736359334604286:True:=⟨⟩
theorem tw7203639259665647166:True:=⟨⟩
theorem tw16885379053910604414:True:=⟨⟩
theorem tw10666825194978484894:True:=⟨⟩
theorem tw5898860310758411966:True:=⟨⟩
theorem tw10179673160384373534:True:=⟨⟩
theorem tw13089195539566960414:True:=⟨⟩
theorem tw253441702135978942:True:=⟨⟩
theorem tw6344032613518549982:True:=⟨⟩
theorem tw7023106223382797343:True:=⟨⟩
theorem tw10676494211188967455:True:=⟨⟩
theorem tw7831521669703977055:True:=⟨⟩
theorem tw14558135424462192799:True:=⟨⟩
theorem tw11645645356114842879:True:=⟨⟩
theorem tw9690073872827788543:True:=⟨⟩
theorem tw1187454000392326399:True:=⟨⟩
theorem tw9442386859629638911:True:=⟨⟩
theorem tw10379239753403489567:True:=⟨⟩
theorem tw9859870083146981791:True:=⟨⟩
theorem tw7236082114901107231:True:=⟨⟩
theorem tw2343994746765739551:True:=⟨⟩
theorem tw3391366902148080223:True:=⟨⟩
theorem tw4915470769991959135:True:=⟨⟩
theorem tw1072813793537646175:True:=⟨⟩
theorem tw3707323365333952127:True:=⟨⟩
theorem tw17336275454561605279:True:=⟨⟩
theorem tw10025962566823239327:True:=⟨⟩
theorem tw11824326441471557311:True:=⟨⟩
theorem tw8747484548045222623:True:=⟨⟩
theorem tw12579323281030301407:True:=⟨⟩
theorem tw9205537278916327135:True:=⟨⟩
theorem tw12066646302777773855:True:=⟨⟩
theorem tw13409020890884816671:True:=⟨⟩
theorem tw4892868693751887647:True:=⟨⟩
theorem tw15966324404689925951:True:=⟨⟩
theorem tw4481971785416828735:True:=⟨⟩
theorem tw3986338883197930335:True:=⟨⟩
theorem tw13005743501663379359:True:=⟨⟩
theorem tw16900064411783118783:True:=⟨⟩
theorem tw1210477050624216031:True:=⟨⟩
end Mine.left
def Mine.left.tw11298389812829339156 : Program := PySem.Challenge.pw_jh0019_01
theorem Mine.left.te11298389812829339156 : PySem.Challenge.pw_jh0019_01 = Mine.left.tw11298389812829339156 := rfl
namespace Mine
set_option maxRecDepth 100000 in
set_option maxHeartbeats 8000000 in
set_option Elab.async true in
theorem left (walk : Kept hd.2.1) : PySem.Challenge.rw_jh0019_01.Holds := by
  w_on; o_law
  refine' cutHd (L := True) ?g trivial ?hc
  case g =>
    k_head
    case hw => w_witness2
  case hc => exact walk.out
end Mine

end
-- P2
section
open PySem PySem.Calls PySem.W PyProof.Rows
open Sem (wp)
set_option maxRecDepth 100000
namespace Mine
section
variable {α β : Type} {M : Model} {A : Around} {E : Value → Shared → Prop} {s : Shared} {R : Result → Shared → Prop}
theorem codeP_mono {c : Code} {R R' : Result → Shared → Prop} (h : codeP M A c R s) (hR : ∀ r s, R r s → R' r s) : codeP M A c R' s := fun Γ p hc hΓ hn => wpCode_mono hR (h Γ p hc hΓ hn)
theorem NoDec.tail {c : Code} {l : List Code} (h : NoDec (c :: l)) : NoDec l := fun x hx => h x (List.mem_cons_of_mem _ hx)
theorem NoDec.cons {c : Code} {l : List Code} (hc : ∀ id a, c = .builtin id a → Builtin.Bytes.decodersThatHold.contains id = false) (h : NoDec l) : NoDec (c :: l) := fun x hx => by
  rcases List.mem_cons.mp hx with rfl | hx
  · exact hc
  · exact h x hx
theorem wpP_call {f : Value} {pos : List Value} {kw : List (PySem.Str × Value)} {Q : Value → Shared → Prop}
    (hc : codeP M A (.call f ⟨pos, kw⟩) (fun r s' => match r with | .ok (.ret v) => Q v s' | .ok _ => False | .error e => E e s') s) :
    wpP M A (call f pos kw) Q E s := fun Γ p hΓ hn => by
  show wp M Γ (runValue _) _ _ p s
  rw [Sem.wp_runValue]
  exact hc _ p rfl (hΓ.enter _ none p (by intro x; cases x)) hn
theorem codeP_of_tree {c : Code} (hc : ∀ id a, c = .builtin id a → Builtin.Bytes.decodersThatHold.contains id = false)
    (h : wpP M (A.under c) (M.den c) (fun fin s' => match fin with | .done f => R (.ok f) s' | .again c' => c'.quiet = true ∧ codeP M A c' R s') (fun e s' => R (.error e) s') s) : codeP M A c R s := fun Γ p hcd hΓ hn => by
  rw [wpCode_iff_wp, hcd]
  refine Sem.wp_mono M Γ _ (fun fin p' s' h' => ?_) (fun _ _ _ h' => h') p s (h Γ p (hcd ▸ hΓ.in) (hcd ▸ NoDec.cons hc hn))
  cases fin with
  | done f => exact h'
  | again c' => exact ⟨h'.1, h'.2 (Γ.goto c') p' rfl (hΓ.goto c') hn⟩
theorem wpP_onRaise {m : Sem α} {k : Value → Sem Unit} {Q : α → Shared → Prop}
    (h : wpP M A m Q (fun e s' => wpP M A (k e) (fun _ s'' => E e s'') E s') s) : wpP M A (m.onRaise k) Q E s := fun Γ p hΓ hn => by
  rw [Sem.wp_onRaise]
  exact Sem.wp_mono M Γ m (fun _ _ _ h' => h') (fun e p' s' h' => h' Γ p' hΓ hn) p s (h Γ p hΓ hn)
end
section
variable {prog : Program} {w : World} {A : Around} {E : Value → Shared → Prop} {s : Shared} {R : Result → Shared → Prop}
theorem codeP_func {body : List Stmt} {env : Env}
    (h : wpP (model prog w) (A.deeper env) (execs body env) (fun f s' => R (.ok (.ret (match f with | .ret v => v | _ => .none))) s') (fun _ _ => False) s) :
    codeP (model prog w) A (.func body env) R s := by
  refine codeP_of_tree (fun _ _ e => by cases e) ?_
  show wpP _ (A.deeper env) (do point; match ← (execs body env).onRaise (leaving env) with | .ret v => ret v | _ => ret .none) _ _ s
  refine wpP_bindA (wpAny_point (wpP_bind (wpP_onRaise (wpP_mono h (fun f s' h' => ?_) fun _ _ h' => h'.elim))))
  cases f <;> exact wpP_of (wpAny_pure h')
theorem enter_P {name : PySem.Str} {params : Arguments} {body : List Stmt} {scope : Scope} {pm cd doc : Value} {a : Addr} {o : Obj} {args : List Value} {binds : List (PySem.Str × Value)}
    (hroom : A.depth < recursionLimit) (ho : s.heap.get? a = some o) (hdata : o.data = .func (Calls.docDef name params body scope pm cd doc)) (hlim : s.heap.NoLimit) (hcd : s.heap.CodeRec cd name)
    (hbind : bindArgs (Calls.docDef name params body scope pm cd doc) ⟨args, []⟩ = pure binds)
    (hkind : ∀ x ∈ binds, scope.names.lookup x.1 = some .local ∨ (scope.names.lookup x.1 = some .cell ∧ ((cellsFrom (s.heap.objs.size + 1) scope.names []).lookup x.1).isSome = true))
    (hnd : ((cellsFrom 0 scope.names []).map (·.1)).Nodup)
    (h : ∀ h₁ tk cells, Fr s.heap s.heap.objs.size h₁ (bindL (envOfC name scope s.heap.objs.size a cd).kindOf binds fun _ => none) → News s.heap s.heap.objs.size h₁ cells →
      CellsAre (bindC (envOfC name scope s.heap.objs.size a cd).kindOf binds fun _ => none) (cellsFrom (s.heap.objs.size + 1) scope.names []) cells →
      wpP (model prog w) (A.deeper (envOfC name scope s.heap.objs.size a cd)) (execs body (envOfC name scope s.heap.objs.size a cd))
        (fun f s' => R (.ok (.ret (match f with | .ret v => v | _ => .none))) s') (fun _ _ => False) { s with heap := h₁, toks := tk })
    (hco : scope.isCoroutine = false := by rfl) (hgen : scope.isGenerator = false := by rfl) (hk : scope.kind = .function := by rfl) :
    codeP (model prog w) A (.call (.ref a) ⟨args, []⟩) R s := by
  refine codeP_of_tree (fun _ _ e => by cases e) (wpP_of ?_)
  show wpAny _ A.in1 (callAny (.ref a) ⟨args, []⟩) _ _ s
  simp only [callAny]
  refine wpAny_bind (wpAny_load ho ?_)
  obtain ⟨c, oc, vs, tq, hc, hoc, hdc, hq⟩ := hcd
  subst hc
  simp only [hdata, callFunction, Calls.docDef, hco, hgen]
  refine wpAny_bind (m := field (.ref c) 1) (wpAny_field hoc hdc hq (wpAny_bind (wpAny_pure ?_)))
  have hbind' : bindArgs (Calls.docDef name params body scope pm (.ref c) doc) ⟨args, []⟩ = pure binds := hbind
  unfold Calls.docDef at hbind'
  rw [hbind']
  refine wpAny_bind (wpAny_pure ?_)
  refine wpAny_bind (wpAny_newFunctionEnv_cells hk hkind fun env' he s' x => ?_)
  subst he
  obtain ⟨h₁, tk, rfl, _⟩ := x.done
  refine wpAny_bind (wpAny_enterFrame (hlim.keeps x.toInCall.keep) hroom (wpAny_pure ⟨rfl, codeP_func ?_⟩))
  obtain ⟨cells, NC, Y⟩ := Cl.news (h₀ := s.heap) (Nat.le_refl _) fun n c hm => ⟨x.cell n c (lookup_of_mem_nodup (cellsFrom_names scope.names 0 (s.heap.objs.size + 1) [] [] rfl ▸ hnd) hm), x.above n c hm⟩
  exact h h₁ tk cells ⟨x.toInCall.ns, x.toInCall.keep, x.toInCall.fresh⟩ NC Y
theorem cutP {st : Stmt} {rest : List Stmt} {env : Env} {Q : Flow → Shared → Prop} (P : (Shared → Prop) → Prop)
    (h1 : ∀ K : Flow → Shared → Prop, P (K .next) → wpAny (model prog w) A (exec st env) K (fun _ _ => False) s)
    (h2 : P fun s' => wpP (model prog w) A (execs rest env) Q E s') : wpP (model prog w) A (execs (st :: rest) env) Q E s := by
  rw [execs_cons]
  refine wpP_bindA (wpAny_mono (h1 (fun f s' => match f with | .next => wpP (model prog w) A (execs rest env) Q E s' | _ => False) h2) (fun f s' h => ?_) fun _ _ h => h.elim)
  cases f with
  | next => exact h
  | _ => exact h.elim
end
end Mine

end
-- P3
section
open PySem PySem.Calls PySem.W PyProof.Rows
open Sem (wp)
set_option maxRecDepth 100000
namespace Mine
section
variable {α : Type} {M : Model} {A : Around} {E : Value → Shared → Prop} {s : Shared} {env : Env}
theorem wpP_holding {vs : List Value} {m : Sem α} {Q : α → Shared → Prop} (h : wpP M A m Q E s) : wpP M A (holding vs m) Q E s :=
  fun Γ p hΓ hn => by rw [Sem.wp_holding]; exact h Γ p hΓ hn
theorem wpP_then {β : Type} {m : Sem α} {f : α → Sem β} {Q₁ : α → Shared → Prop} {Q : β → Shared → Prop} (h : wpP M A m Q₁ E s) (k : ∀ a s', Q₁ a s' → wpAny M A (f a) Q E s') : wpP M A (m >>= f) Q E s :=
  wpP_bind (wpP_mono h (fun a s' h' => wpP_of (k a s' h')) fun _ _ x => x)
theorem if_P {test : PySem.Expr} {body orelse : List Stmt} {pos : Pos} {Q : Flow → Shared → Prop}
    (h : wpP M A (isTrue test env (eval test env)) (fun b s₂ => if b then wpAny M A (execs body env) Q E s₂ else wpAny M A (execs orelse env) Q E s₂) E s) :
    wpP M A (exec (.If test body orelse pos) env) Q E s := by
  rw [exec_If]
  refine wpP_bindA (wpAny_standAt (wpP_then h fun b s' h' => ?_))
  cases b <;> exact h'
theorem or_P {x : PySem.Expr} {rest : List PySem.Expr} {pos : Pos} {whole : Sem Value} {Q : Bool → Shared → Prop}
    (h : wpAny M A (isTrue x env (eval x env)) (fun c s' => if c then Q true s' else wpP M A (isTrue (.BoolOp .Or rest pos) env whole) Q E s') E s) :
    wpP M A (isTrue (.BoolOp .Or (x :: rest) pos) env whole) Q E s := by
  show wpP M A (do
    match BoolOp.Or, ← isTrue x env (eval x env) with
    | .And, false => pure false
    | .Or, true => pure true
    | _, _ => allTrue .Or rest env) Q E s
  refine wpP_bindA (wpAny_mono h (fun c s' h' => ?_) fun _ _ x => x)
  cases c with
  | true => exact wpP_of (wpAny_pure h')
  | false => exact h'
theorem orLast_P {x : PySem.Expr} {pos : Pos} {whole : Sem Value} {Q : Bool → Shared → Prop}
    (h : wpP M A (isTrue x env (eval x env)) Q E s) :
    wpP M A (isTrue (.BoolOp .Or [x] pos) env whole) Q E s := by
  show wpP M A (do
    match BoolOp.Or, ← isTrue x env (eval x env) with
    | .And, false => pure false
    | .Or, true => pure true
    | _, _ => allTrue .Or [] env) Q E s
  refine wpP_then h fun c s' h' => ?_
  cases c with
  | true => exact wpAny_pure h'
  | false => exact wpAny_pure h'
theorem cmp_P {l r : PySem.Expr} {op : CmpOp} {pos : Pos} {whole : Sem Value} {Q : Bool → Shared → Prop}
    (h : wpP M A (eval l env) (fun a s₁ => wpAny M A (eval r env) (fun b s₂ => wpAny M A (compareOp op a b) (fun c s₃ => wpAny M A (truthy c) Q E s₃) E s₂) E s₁) E s)
    (hm : behindInMarks op r = false := by with_unfolding_all rfl) : wpP M A (isTrue (.Compare l [op] [r] pos) env whole) Q E s := by
  rw [isTrue_Compare1, markedBehindIn_of_false hm]
  refine wpP_then h fun a s₁ h₁ => wpAny_bind (wpAny_holding (wpAny_mono h₁ (fun b s₂ h₂ => ?_) fun _ _ x => x))
  refine wpAny_bind (wpAny_standAt (wpAny_bind ?_))
  refine fun Γ p hΓ => ?_
  rw [Sem.wp_operate]
  exact (wpAny_mono h₂ (fun c s₃ h₃ => wpAny_holding h₃) fun _ _ x => x) Γ p hΓ
theorem call_P {func : PySem.Expr} {args : List PySem.Expr} {pos : Pos} {Q : Value → Shared → Prop}
    (h : wpAny M A (eval func env) (fun f s₁ => wpP M A (callWith pos f [] (backTo pos (starEach args env)) []) Q E s₁) E s)
    (he : eval (.Call func args [] pos) env = (do callWith pos (← eval func env) [] (backTo pos (starEach args env)) (backToKw pos (keywordEach [] env))) := by rfl) :
    wpP M A (eval (.Call func args [] pos) env) Q E s := by
  rw [he]
  exact wpP_bindA h
theorem spliced_P {x : Sem Value} {rest : List (Bool × Sem Value)} {Q : List Value → Shared → Prop}
    (h : wpP M A x (fun v s₁ => wpAny M A (spliced rest) (fun vs s₂ => Q (v :: vs) s₂) E s₁) E s) : wpP M A (spliced ((false, x) :: rest)) Q E s := by
  rw [spliced]
  refine wpP_then h fun v s₁ h₁ => ?_
  simp only [Bool.false_eq_true, if_false]
  exact wpAny_bind (wpAny_pure (wpAny_bind (wpAny_holding (wpAny_mono h₁ (fun vs s₂ h₂ => wpAny_pure h₂) fun _ _ x => x))))
theorem args_P {f : Value} {x : Sem Value} {rest : List (Bool × Sem Value)} {Q : Args → Shared → Prop}
    (h : wpP M A (spliced ((false, x) :: rest)) (fun vs s' => Q ⟨vs, []⟩ s') E s) : wpP M A (evalArgs f true ((false, x) :: rest) []) Q E s := by
  unfold evalArgs
  show wpP M A (spliced ((false, x) :: rest) >>= _) Q E s
  refine wpP_then h fun vs s' h' => ?_
  refine wpAny_holding ?_
  exact wpAny_bind (wpAny_pure (wpAny_bind (wpAny_pure (wpAny_pure h'))))
theorem callT_P {pos : Pos} {T : String} {e : PySem.Expr} {rest : List PySem.Expr} {Q : Value → Shared → Prop}
    (h : wpAny M A (spliced (backTo pos (starEach (e :: rest) env))) (fun vs s₁ => wpP M A (call (.type T) vs) Q E s₁) E s)
    (he : starEach (e :: rest) env = (false, eval e env) :: starEach rest env := by rfl)
    (hplain : (backTo pos (starEach rest env)).any (·.1) = false := by rfl) :
    wpP M A (callWith pos (.type T) [] (backTo pos (starEach (e :: rest) env)) []) Q E s := by
  rw [he] at h ⊢
  have hp : ((false, eval e env) :: backTo pos (starEach rest env)).any (·.1) = false := by show (false || (backTo pos (starEach rest env)).any (·.1)) = false; rw [hplain]; rfl
  have h' := evalArgs_plain (f := .type T) (Q := fun a s₁ => wpP M A (call (.type T) ([] ++ a.pos) a.kw) Q E s₁) h
  unfold callWith
  refine wpP_bindA (wpAny_holding (wpAny_mono h' (fun a s₁ h₁ => wpP_bindA (wpAny_standAt ?_)) fun _ _ x => x))
  have hp' : (backTo pos ((false, eval e env) :: starEach rest env)).any (·.1) = false := hp
  simp only [hp', List.any_nil, Bool.or_false]
  refine wpP_bindA (wpAny_pure ?_)
  exact wpP_bind (wpP_mono h₁ (fun r s₂ hr => wpP_of (wpAny_bind (wpAny_holding (wpAny_point (wpAny_pure hr))))) fun _ _ x => x)
end
section
variable {M : Model} {A : Around} {E : Value → Shared → Prop} {s : Shared} {K : Frag} {env : Env} {pos : Pos} {f : Value} {Q : Value → Shared → Prop}
theorem callK_P {e : PySem.Expr} {rest : List PySem.Expr} (hk : keepIn K f = true)
    (h : wpP M A (eval e env) (fun v s₁ => wpAny M A (spliced (backTo pos (starEach rest env))) (fun vs s₂ => K.In s₂.heap ∧ wpAny M A (call f (v :: vs)) Q E s₂) E s₁) E s)
    (he : starEach (e :: rest) env = (false, eval e env) :: starEach rest env := by rfl) (hplain : (backTo pos (starEach rest env)).any (·.1) = false := by rfl) :
    wpP M A (callWith pos f [] (backTo pos (starEach (e :: rest) env)) []) Q E s := by
  rw [he]
  have hp : (backTo pos ((false, eval e env) :: starEach rest env)).any (·.1) = false := by show (false || (backTo pos (starEach rest env)).any (·.1)) = false; rw [hplain]; rfl
  have h' := args_P (f := f) (Q := fun a s₁ => K.In s₁.heap ∧ wpAny M A (call f ([] ++ a.pos) a.kw) Q E s₁) (spliced_P (rest := backTo pos (starEach rest env)) h)
  unfold callWith
  refine wpP_then (wpP_holding h') fun a s₁ h₁ => wpAny_bind (wpAny_standAt ?_)
  obtain ⟨k, hk', L⟩ := keeps_K (M := M) hk _ h₁.1
  simp only [hp, List.any_nil, Bool.or_false]
  refine wpAny_bind (L.here ?_)
  have tail : ∀ {t : Sem Value}, wpAny M A t Q E s₁ → wpAny M A (t >>= fun r => holding [r] point >>= fun _ => pure r) Q E s₁ :=
    fun ht => wpAny_bind (wpAny_mono ht (fun r s₂ hr => wpAny_bind (wpAny_holding (wpAny_point (wpAny_pure hr)))) fun _ _ x => x)
  have marked (mk : Value) : wpAny M A (callMarked mk f ([] ++ a.pos) a.kw) Q E s₁ := by unfold callMarked; exact Calls.wpAny_keep h₁.2
  rcases hk' with rfl | rfl | rfl <;> dsimp only <;> first | exact tail h₁.2 | (split <;> first | exact tail h₁.2 | exact tail (marked _))
end
section
variable {prog : Program} {w : World} {A : Around} {E : Value → Shared → Prop} {s : Shared}
theorem attr_P {env : Env} {value : PySem.Expr} {attr : PySem.Str} {pos : Pos} {Q : Value → Shared → Prop}
    (h : wpP (model prog w) A (eval value env) (fun o s₁ => wpAny (model prog w) A (getAttr o attr true) Q E s₁) E s)
    (he : eval (.Attribute value attr pos) env = (do
      let o ← eval value env
      standAt pos.atName
      let r ← holding [o] (getAttr o attr true)
      letTemporaryGo value o r
      pure r) := by with_unfolding_all rfl) : wpP (model prog w) A (eval (.Attribute value attr pos) env) Q E s := by
  rw [he]
  refine wpP_then h fun o s₁ h₁ => wpAny_bind (wpAny_standAt (wpAny_bind (wpAny_holding (wpAny_mono h₁ (fun r s₂ hr => ?_) fun _ _ x => x))))
  exact wpAny_bind (wpAny_letTemporaryGo (wpAny_pure hr))
theorem cutPP {st : Stmt} {rest : List Stmt} {env : Env} {Q : Flow → Shared → Prop} (P : (Shared → Prop) → Prop)
    (h1 : ∀ K : Flow → Shared → Prop, P (K .next) → wpP (model prog w) A (exec st env) K (fun _ _ => False) s)
    (h2 : P fun s' => wpP (model prog w) A (execs rest env) Q E s') : wpP (model prog w) A (execs (st :: rest) env) Q E s := by
  rw [execs_cons]
  refine wpP_bind (wpP_mono (h1 (fun f s' => match f with | .next => wpP (model prog w) A (execs rest env) Q E s' | _ => False) h2) (fun f s' h => ?_) fun _ _ h => h.elim)
  cases f with
  | next => exact h
  | _ => exact h.elim
end
end Mine

end
-- P4
section
open PySem PySem.Calls PySem.W PyProof.Rows
namespace Mine
theorem or_cut {M : Model} {A : Around} {E : Value → Shared → Prop} {s : Shared} {env : Env} {x : PySem.Expr} {rest : List PySem.Expr} {pos : Pos} {whole : Sem Value} {Q : Bool → Shared → Prop} (P : (Shared → Prop) → Prop)
    (h1 : ∀ K : Bool → Shared → Prop, P (K false) → wpAny M A (isTrue x env (eval x env)) K (fun _ _ => False) s)
    (h2 : P fun s' => wpP M A (isTrue (.BoolOp .Or rest pos) env whole) Q E s') : wpP M A (isTrue (.BoolOp .Or (x :: rest) pos) env whole) Q E s := by
  refine or_P (wpAny_mono (h1 (fun c s' => if c then False else wpP M A (isTrue (.BoolOp .Or rest pos) env whole) Q E s') h2) (fun c s' h => ?_) fun _ _ h => h.elim)
  cases c with
  | true => exact h.elim
  | false => exact h
end Mine

end
-- B2
section
open PySem PySem.Spec PySem.Calls PySem.W PyProof.Rows
open Sem (wp)
set_option maxRecDepth 100000
namespace Mine
namespace BA
theorem mro : mroOf (.type "bytearray") = pure [.type "bytearray", .type "object"] := by rw [mroOf_type]; kernel_rfl
theorem find_init : typeLookup (.type "bytearray") "__init__" = pure (some (.builtin "bytearray.__init__")) := by rw [typeLookup_type, builtinLookup_eq_fast]; kernel_rfl
theorem find_new : typeLookup (.type "bytearray") "__new__" = pure (some (.builtin "bytearray.__new__")) := by rw [typeLookup_type, builtinLookup_eq_fast]; kernel_rfl
theorem find_rel : typeLookup (.type "bytearray") "__release_buffer__" = pure (some (.builtin "bytearray.__release_buffer__")) := by rw [typeLookup_type, builtinLookup_eq_fast]; kernel_rfl
theorem find_buf : typeLookup (.type "bytearray") "__buffer__" = pure (some (.builtin "bytearray.__buffer__")) := by rw [typeLookup_type, builtinLookup_eq_fast]; kernel_rfl
theorem find_bytes : typeLookup (.type "bytearray") "__bytes__" = pure none := by rw [typeLookup_type, builtinLookup_eq_fast]; kernel_rfl
theorem find_index : typeLookup (.type "bytearray") "__index__" = pure none := by rw [typeLookup_type, builtinLookup_eq_fast]; kernel_rfl
theorem find_bindex : typeLookup (.type "bytes") "__index__" = pure none := by rw [typeLookup_type, builtinLookup_eq_fast]; kernel_rfl
theorem slot_init : Slot "bytearray" "__init__" "bytearray.__init__" :=
  .of (owner := "bytearray") (n := "__init__") find_init (by decide +kernel) (by decide +kernel) (by decide +kernel)
    (by first | exact .inl (by decide +kernel) | exact .inr (by decide +kernel)) (by rw [isSubtype_type]; kernel_rfl)
theorem called : TypeCalled "bytearray" "bytearray.__new__" "bytearray.__init__" :=
  ⟨by decide +kernel, by decide +kernel, ⟨_, _, mro⟩, madeBy_type mro find_new (by decide +kernel), by decide +kernel, by rw [isSubtype_type]; kernel_rfl, slot_init⟩
theorem typeCall (a : Value) : checkTypeCall "bytearray" ⟨[a], []⟩ = pure () := by kernel_rfl
theorem newCall (a : Value) : checkBuiltinCall "bytearray.__new__" ⟨[.type "bytearray", a], []⟩ = pure () := by kernel_rfl
theorem args_init (a b : Value) : argsOk "bytearray.__init__" ⟨[a, b], []⟩ := by unfold argsOk; kernel_rfl
theorem plain_new : plainId "bytearray.__new__" = true := by decide +kernel
theorem plain_init : plainId "bytearray.__init__" = true := by decide +kernel
theorem entry_init : entryFor table "bytearray.__init__" = some Builtin.«bytearray.__init__» := by first | exact entryFor_of_fast (by kernel_rfl) | exact entryFor_of_tree (by kernel_rfl)
theorem entry_new : entryFor table "bytearray.__new__" = some Builtin.«list.__new__» := entryFor_alias (id' := "list.__new__") (by kernel_rfl) (by decide +kernel) (by decide +kernel) (by kernel_rfl)
theorem bindI (v : Value) : Builtin.Bytes.bindOptional "bytearray.__init__" "bytearray" ["source", "encoding", "errors"] [v] [] = pure [some v, none, none] := by kernel_rfl
end BA
section
variable {prog : Program} {w : World} {A : Around} {E : Value → Shared → Prop} {s : Shared}
theorem exported_P {M : Model} {o : Addr} {Q : Bool → Shared → Prop} (hg : A.guards = some []) (h : Q false s) : wpP M A (Builtin.Bytes.exported (.ref o)) Q E s := by
  intro Γ p hΓ hn
  unfold Builtin.Bytes.exported
  show Q (((Γ.code, p) :: Γ.below).any _) s
  rw [List.any_eq_false.mpr ?_]
  · exact h
  · rintro ⟨c, q⟩ hc
    have hgd : c.isGuard = false := by
      have hgs := hΓ.2.2.2.1 [] hg
      cases hcg : c.isGuard with
      | false => rfl
      | true =>
        have : c ∈ guardsOf ((Γ.code, p) :: Γ.below) := List.mem_filter.mpr ⟨List.mem_map.mpr ⟨_, hc, rfl⟩, hcg⟩
        rw [guardsOf_cons, hgs] at this
        cases this
    have hd := hn c (by
      rcases List.mem_cons.mp hc with e | hc
      · cases e; exact .head _
      · exact .tail _ (List.mem_map.mpr ⟨_, hc, rfl⟩))
    have hno : ∀ (x : String) (a : Args), guardIds.contains x = true → c ≠ Code.builtin x a := fun x a hx e => by
      subst e
      have : guardIds.contains x = false := hgd
      rw [hx] at this
      cases this
    split
    · rename_i e; cases e; exact absurd rfl (hno _ _ (by decide +kernel))
    · rename_i e; cases e; exact absurd rfl (hno _ _ (by decide +kernel))
    · rename_i e; cases e; exact absurd rfl (hno _ _ (by decide +kernel))
    · rename_i e; cases e; exact absurd rfl (hno _ _ (by decide +kernel))
    · rename_i e; cases e; exact absurd rfl (hno _ _ (by decide +kernel))
    · rename_i e; cases e; have z := hd _ _ rfl; simp only [z, Bool.and_false]; exact Bool.false_ne_true
    · simp
end
end Mine

end
-- B3
section
open PySem PySem.Spec PySem.Calls PySem.W PyProof.Rows
open Sem (wp)
set_option maxRecDepth 100000
namespace Mine
set_option maxRecDepth 1000000 in
set_option maxHeartbeats 4000000 in
theorem owner_ba_new : ("bytearray.__new__".splitOn ".__new__").headD "" = "bytearray" := by simp +decide [String.splitOn, String.splitOnAux]
section
variable {prog : Program} {w : World} {A : Around} {E : Value → Shared → Prop} {s : Shared} {R : Result → Shared → Prop}
theorem codeP_builtin {id : String} {args : Args} {b : Builtin} (hb : entryFor table id = some b) (hd : Builtin.Bytes.decodersThatHold.contains id = false)
    (h : wpP (model prog w) (A.under (.builtin id args)) (b args)
      (fun fin s' => match fin with | .done f => R (.ok f) s' | .again c' => c'.quiet = true ∧ codeP (model prog w) A c' R s') (fun e s' => R (.error e) s') s) :
    codeP (model prog w) A (.builtin id args) R s := by
  refine codeP_of_tree (fun _ _ e => by cases e; exact hd) ?_
  show wpP _ _ (match entryFor table id with | some b => b args | none => unsupported ((withoutEnding? id "#data").getD id)) _ _ s
  rw [hb]; exact h
theorem code_ba_new (a : Value) {Q₁ : Value → Shared → Prop}
    (h : Q₁ (.ref s.heap.objs.size) { s with heap := s.heap.push { cls := .type "bytearray", data := .bytearray #[] } }) :
    codeAny (model prog w) A (.call (.builtin "bytearray.__new__") ⟨[.type "bytearray", a], []⟩) (wants Q₁ E) s := by
  refine codeAny_of_tree ?_
  show wpAny _ A.in1 (do checkBuiltinCall "bytearray.__new__" ⟨[.type "bytearray", a], []⟩; again (.builtin "bytearray.__new__" ⟨[.type "bytearray", a], []⟩)) _ _ s
  refine wpAny_bind (wpAny_of_eq (BA.newCall a) (wpAny_pure ⟨plainId_quiet BA.plain_new _, codeAny_builtin_stack BA.entry_new rfl fun p st => ?_⟩))
  rw [Around.under_plainId BA.plain_new _]
  have hsub : isSubtype (.type "bytearray") (.type "bytearray") = pure true := by rw [isSubtype_type]; kernel_rfl
  have hown := owner_ba_new
  obtain ⟨hp, g, d, tk, os⟩ := s
  simp only [hown]
  wp_walk
  exact h
theorem ownRel_ba {M : Model} {o : Addr} {Q : Bool → Shared → Prop} (hT : s.TypeIs (.ref o) "bytearray") (hQ : Q false s) : wpAny M A (Builtin.Bytes.ownRelease (.ref o)) Q E s := by
  unfold Builtin.Bytes.ownRelease Builtin.Bytes.slotIsOwn
  refine wpAny_bind (wpAny_bind (wpAny_specialOf hT BA.find_rel ?_))
  have key : ∀ x : String, x = "bytearray" → wpAny M A (isInstance (.ref o) (.type x)) (fun b s' => wpAny M A (pure (!b)) Q E s') E s := fun x hx => by
    rw [hx]
    exact wpAny_isInstance hT BA.called.sub (wpAny_pure hQ)
  dsimp only
  split
  · rename_i hx
    exact absurd hx (by decide +kernel)
  · exact key _ (by decide +kernel)
theorem buffer_full {id : String} {b : Array UInt8} {t : Tok} : Builtin.Bytes.buffer? id (.bytes b t) true = pure (some b) := by
  unfold Builtin.Bytes.buffer?
  rw [KBy.special_eq KBy.look_buffer, KBy.own_buffer, KBy.own_release]
  kernel_rfl
theorem write_ba {M : Model} {o : Addr} {ob : Obj} {c b : Array UInt8} {n : Nat} {Q : Unit → Shared → Prop} (ho : s.heap.get? o = some ob) (hd : ob.data = .bytearray c n) (hz : b.size ≤ sizeLine)
    (hQ : ∀ h', Heap.SameBut o s.heap h' → h'.get? o = some (Obj.mapBytearray (fun _ => b) ob) → Q () { s with heap := h' }) : wpAny M A (Builtin.Bytes.write (.ref o) fun _ => b) Q E s := by
  show wpAny _ _ (updateBytearray o _) _ _ _
  unfold updateBytearray
  refine wpAny_bind (wpAny_load ho ?_)
  rw [hd]
  show wpAny _ _ (update o (Obj.mapBytearray (fun _ => b)) >>= fun _ => lookBehind o) _ _ _
  refine wpAny_bind (wpAny_update ho ?_)
  have h2 : (s.heap.update o (Obj.mapBytearray (fun _ => b))).get? o = some (Obj.mapBytearray (fun _ => b) ob) := Heap.get?_update_self _ ho (by obtain ⟨a1, a2, a3, a4⟩ := ob; cases hd; rfl)
  refine wpAny_lookBehind h2 ?_ (hQ _ (Heap.SameBut.update ..) h2)
  obtain ⟨a1, a2, a3, a4⟩ := ob
  cases hd
  show (if b.size > sizeLine then some "bytearray:memory" else none) = none
  rw [if_neg (by omega)]
theorem call_ba_P {b : Array UInt8} {t : Tok} {Q : Value → Shared → Prop} (hg : A.guards = some []) (hz : b.size ≤ sizeLine)
    (hQ : ∀ h', (∀ x o, s.heap.get? x = some o → h'.get? x = some o) → h'.get? s.heap.objs.size = some { cls := .type "bytearray", data := .bytearray b } → Q (.ref s.heap.objs.size) { s with heap := h' }) :
    wpP (model prog w) A (call (.type "bytearray") [.bytes b t]) Q E s := by
  refine wpP_call (codeP_of_tree (fun _ _ e => by cases e) ?_)
  show wpP _ _ (callAny (.type "bytearray") _) _ _ _
  refine wpP_of (wpAny_pure ⟨Code.quiet_builtin _ (by decide +kernel), codeP_builtin F.entry_type_call (by decide +kernel) ?_⟩)
  rw [Around.under_plain (weight_type_call_type "bytearray" [.bytes b t] []) rfl]
  have h1 := BA.called.notType
  have h2 := BA.called.canCreate
  unfold Builtin.«type.__call__»
  dsimp only
  simp only [show (Value.type "bytearray" == Value.type "type") = false from by decide +kernel, Bool.false_eq_true, if_false, h2, BA.typeCall, BA.mro, pure_bind, BA.called.made, List.isEmpty_cons]
  refine wpP_bindA (wpAny_holding (wpAny_call (code_ba_new _ ?_)))
  have ho : (s.heap.push { cls := .type "bytearray", data := .bytearray #[] }).get? s.heap.objs.size = some { cls := .type "bytearray", data := .bytearray #[] } := Heap.get?_push_size _ rfl
  have hT : ({ s with heap := s.heap.push { cls := .type "bytearray", data := .bytearray #[] } } : Shared).TypeIs (.ref s.heap.objs.size) "bytearray" := ⟨_, ho, rfl⟩
  refine wpP_bindA (wpAny_isInstance hT BA.called.sub ?_)
  simp only [Bool.not_true, Bool.false_eq_true, if_false]
  refine wpP_bind (wpP_holding ?_)
  simp only [callSpecial?]
  refine wpP_bindA (wpAny_specialOf hT BA.slot_init.lookup ?_)
  simp only [BA.slot_init.bind]
  refine wpP_holding (wpP_bindA (wpAny_pure (wpP_bind (wpP_call (codeP_of_tree (fun _ _ e => by cases e) ?_)))))
  show wpP _ A.in1.in1 (do checkBuiltinCall "bytearray.__init__" ⟨[.ref s.heap.objs.size, .bytes b t], []⟩; again (.builtin "bytearray.__init__" ⟨[.ref s.heap.objs.size, .bytes b t], []⟩)) _ _ _
  refine wpP_bindA (BA.slot_init.check _ _ _ _ _ _ _ _ hT (BA.args_init _ _) (wpP_of (wpAny_pure ⟨plainId_quiet BA.plain_init _, codeP_builtin BA.entry_init (by decide +kernel) ?_⟩)))
  rw [Around.under_plainId BA.plain_init _]
  unfold Builtin.«bytearray.__init__»
  dsimp only
  refine wpP_bindA (ownRel_ba hT ?_)
  simp only [Bool.false_eq_true, if_false]
  refine wpP_bindA (wpAny_of_eq (BA.bindI _) ?_)
  dsimp only
  refine wpP_bindA (wpAny_of_eq (a := ()) rfl ?_)
  refine wpP_bindA (wpAny_of_eq (a := ()) rfl ?_)
  refine wpP_bind ?_
  show wpP _ _ (Builtin.Bytes.exported _ >>= _) _ _ _
  refine wpP_bind (exported_P hg ?_)
  refine wpP_of ?_
  show wpAny _ _ (Builtin.Bytes.exportsOf _ >>= _) _ _ _
  refine wpAny_bind ?_
  unfold Builtin.Bytes.exportsOf
  refine wpAny_bind (wpAny_load ho (wpAny_pure (wpAny_pure (wpP_of ?_))))
  refine bm_if_false (by decide) ?_
  refine wpAny_bind (write_ba ho rfl (Nat.zero_le _) fun h2 hs2 ho2 => ?_)
  refine wpAny_bind (wpAny_of_eq (a := none) rfl ?_)
  refine bm_if_false rfl ?_
  refine wpAny_bind (bm_if_false rfl (bm_if_false rfl (wpAny_pure ?_)))
  refine wpAny_bind (wpAny_of_eq (KBy.special_eq BA.find_bindex) ?_)
  refine bm_if_false rfl ?_
  refine wpAny_bind (wpAny_of_eq buffer_full ?_)
  dsimp only
  refine wpAny_bind (wpAny_rule ?_)
  refine wpAny_bind (write_ba (c := #[]) ho2 rfl hz fun h3 hs3 ho3 => ?_)
  refine wpAny_pure ?_
  refine wpP_of (wpAny_pure (wpP_of (bm_if_false rfl (wpAny_pure (hQ h3 (fun x o e => ?_) ho3)))))
  have hx : x ≠ s.heap.objs.size := Nat.ne_of_lt (Heap.lt_size e)
  exact (hs3.2 x hx).trans ((hs2.2 x hx).trans (Heap.get?_push_of_some _ e))
end
end Mine

end
-- B4
section
open PySem PySem.Spec PySem.Calls PySem.W PyProof.Rows
set_option maxRecDepth 100000
namespace Mine
section
variable {prog : Program} {w : World} {A : Around} {E : Value → Shared → Prop} {s : Shared} {b : Array UInt8} {t : Tok}
theorem look_dbytes : typeLookup (.type "bytes") "__bytes__" = pure (some (.builtin "bytes.__bytes__")) := by rw [typeLookup_type, builtinLookup_eq_fast]; kernel_rfl
theorem bytes_new_bytes {Q : Value → Shared → Prop} (hQ : Q (.bytes b t) s) :
    codeAny (model prog w) A (.call (.builtin "bytes.__new__") ⟨[.type "bytes", .bytes b t], []⟩) (wants Q E) s := by
  refine codeAny_of_tree ?_
  show wpAny _ A.in1 (do checkBuiltinCall "bytes.__new__" ⟨[.type "bytes", .bytes b t], []⟩; again (.builtin "bytes.__new__" ⟨[.type "bytes", .bytes b t], []⟩)) _ _ s
  refine wpAny_bind (wpAny_of_eq (F.bm_newCall _) (wpAny_pure ⟨plainId_quiet F.bm_plain _, codeAny_builtin F.bm_entry ?_⟩))
  rw [Around.under_plainId F.bm_plain _]
  unfold Builtin.«bytes.__new__»
  refine wpAny_bind (wpAny_of_eq (a := true) rfl ?_)
  refine bm_if_false rfl ?_
  refine wpAny_bind (wpAny_of_eq F.bm_sub ?_)
  refine bm_if_false rfl ?_
  refine wpAny_bind (wpAny_of_eq (F.bm_bind _) ?_)
  refine wpAny_bind (wpAny_of_eq (a := ()) rfl ?_)
  refine wpAny_bind (wpAny_of_eq (a := ()) rfl ?_)
  refine bm_if_false rfl ?_
  refine wpAny_bind (wpAny_of_eq (KBy.special_eq look_dbytes) ?_)
  dsimp only
  refine wpAny_bind (wpAny_rule ?_)
  refine wpAny_bind (wpAny_of_eq (a := Value.type "bytes") rfl ?_)
  refine bm_if_true (by decide +kernel) ?_
  show wpAny _ _ (if (Value.type "bytes" == Value.type "bytes") = true then _ else _) _ _ _
  refine bm_if_true (by decide) ?_
  first
    | exact wpAny_pure hQ
    | exact wpAny_bind (wpAny_pure (wpAny_pure hQ))
theorem call_bytes_bytes {Q : Value → Shared → Prop} (hQ : Q (.bytes b t) s) : wpAny (model prog w) A (call (.type "bytes") [.bytes b t]) Q E s := by
  refine callType_codes (Q₁ := fun obj s₁ => s₁.TypeIs obj "bytes" ∧ Q obj s₁) F.bm_called (F.bm_typeCall _) F.entry_object_init
    (bytes_new_bytes ⟨PySem.W.typeIs_bytes _ _ _, hQ⟩) fun obj s₁ h₁ => ?_
  exact ⟨h₁.1, F.args_object_init_2 obj _, object_init_meets F.bm_called.init.lookup F.bm_called.made (by decide) prog w A.in1 _ s₁ ⟨h₁.1, rfl, h₁.2⟩⟩
theorem slotOwn_ba {M : Model} {o : Addr} {Q : Bool → Shared → Prop} (hT : s.TypeIs (.ref o) "bytearray") (hQ : Q true s) : wpAny M A (Builtin.Bytes.slotIsOwn (.ref o) "__buffer__") Q E s := by
  unfold Builtin.Bytes.slotIsOwn
  refine wpAny_bind (wpAny_specialOf hT BA.find_buf ?_)
  have key : ∀ x : String, x = "bytearray" → wpAny M A (isInstance (.ref o) (.type x)) Q E s := fun x hx => by
    rw [hx]
    exact wpAny_isInstance hT BA.called.sub hQ
  dsimp only
  split
  · rename_i hx
    exact absurd hx (by decide +kernel)
  · exact key _ (by decide +kernel)
theorem bytes_new_ba {a : Addr} {Q : Value → Shared → Prop} (ho : s.heap.get? a = some { cls := .type "bytearray", data := .bytearray b }) (hz : b.size ≤ sizeLine) (hQ : ∀ t' k, Q (.bytes b t') { s with toks := k }) :
    codeAny (model prog w) A (.call (.builtin "bytes.__new__") ⟨[.type "bytes", .ref a], []⟩) (wants Q E) s := by
  refine codeAny_of_tree ?_
  show wpAny _ A.in1 (do checkBuiltinCall "bytes.__new__" ⟨[.type "bytes", .ref a], []⟩; again (.builtin "bytes.__new__" ⟨[.type "bytes", .ref a], []⟩)) _ _ s
  refine wpAny_bind (wpAny_of_eq (F.bm_newCall _) (wpAny_pure ⟨plainId_quiet F.bm_plain _, codeAny_builtin F.bm_entry ?_⟩))
  rw [Around.under_plainId F.bm_plain _]
  have hT : s.TypeIs (.ref a) "bytearray" := ⟨_, ho, rfl⟩
  unfold Builtin.«bytes.__new__»
  refine wpAny_bind (wpAny_of_eq (a := true) rfl ?_)
  refine bm_if_false rfl ?_
  refine wpAny_bind (wpAny_of_eq F.bm_sub ?_)
  refine bm_if_false rfl ?_
  refine wpAny_bind (wpAny_of_eq (F.bm_bind _) ?_)
  refine wpAny_bind (wpAny_of_eq (a := ()) rfl ?_)
  refine wpAny_bind (wpAny_of_eq (a := ()) rfl ?_)
  refine bm_if_false rfl ?_
  refine wpAny_bind (wpAny_specialOf hT BA.find_bytes ?_)
  refine wpAny_bind (wpAny_bind ?_)
  show wpAny _ _ (load a >>= _) _ _ _
  refine wpAny_bind (wpAny_load ho ?_)
  refine wpAny_pure (wpAny_pure ?_)
  refine bm_if_false rfl ?_
  refine wpAny_bind (wpAny_specialOf hT BA.find_index ?_)
  refine bm_if_true rfl ?_
  first
    | show wpAny _ _ (Builtin.Bytes.buffer? "bytes.__new__" (.ref a) true >>= _) _ _ _
    | (refine wpAny_bind ?_; show wpAny _ _ (Builtin.Bytes.buffer? "bytes.__new__" (.ref a) true >>= _) _ _ _)
  refine wpAny_bind ?_
  unfold Builtin.Bytes.buffer?
  refine wpAny_bind (wpAny_specialOf hT BA.find_buf ?_)
  dsimp only
  refine wpAny_bind (slotOwn_ba hT ?_)
  refine bm_if_false rfl ?_
  refine wpAny_bind (wpAny_specialOf hT BA.find_buf ?_)
  (try dsimp only)
  refine wpAny_bind (ownRel_ba hT ?_)
  refine bm_if_false rfl ?_
  refine wpAny_bind ?_
  unfold Builtin.Bytes.payload Builtin.Bytes.payload?
  refine wpAny_bind (wpAny_bind (wpAny_load ho ?_))
  refine wpAny_pure (wpAny_pure ?_)
  refine wpAny_pure ?_
  first
    | refine wpAny_bind (wpAny_rule ?_)
    | (show wpAny _ _ (rule "bytes.__new__.bytes-like" >>= _) _ _ _; refine wpAny_bind (wpAny_rule ?_))
  refine wpAny_bind (wpAny_mkBytes ?_ hz)
  show wpAny _ _ (if (Value.type "bytes" == Value.type "bytes") = true then _ else _) _ _ _
  refine bm_if_true (by decide) ?_
  first
    | exact wpAny_pure (hQ _ _)
    | exact wpAny_bind (wpAny_pure (wpAny_pure (hQ _ _)))
theorem call_bytes_ba {a : Addr} {Q : Value → Shared → Prop} (ho : s.heap.get? a = some { cls := .type "bytearray", data := .bytearray b }) (hz : b.size ≤ sizeLine) (hQ : ∀ t' k, Q (.bytes b t') { s with toks := k }) :
    wpAny (model prog w) A (call (.type "bytes") [.ref a]) Q E s := by
  refine callType_codes (Q₁ := fun obj s₁ => s₁.TypeIs obj "bytes" ∧ Q obj s₁) F.bm_called (F.bm_typeCall _) F.entry_object_init
    (bytes_new_ba ho hz fun t' k => ⟨PySem.W.typeIs_bytes _ _ _, hQ t' k⟩) fun obj s₁ h₁ => ?_
  exact ⟨h₁.1, F.args_object_init_2 obj _, object_init_meets F.bm_called.init.lookup F.bm_called.made (by decide) prog w A.in1 _ s₁ ⟨h₁.1, rfl, h₁.2⟩⟩
theorem bytes_new_12 {Q : Value → Shared → Prop} (hQ : ∀ t' k, Q (.bytes (Array.replicate 12 0) t') { s with toks := k }) :
    codeAny (model prog w) A (.call (.builtin "bytes.__new__") ⟨[.type "bytes", .int 12 t], []⟩) (wants Q E) s := by
  refine codeAny_of_tree ?_
  show wpAny _ A.in1 (do checkBuiltinCall "bytes.__new__" ⟨[.type "bytes", .int 12 t], []⟩; again (.builtin "bytes.__new__" ⟨[.type "bytes", .int 12 t], []⟩)) _ _ s
  refine wpAny_bind (wpAny_of_eq (F.bm_newCall _) (wpAny_pure ⟨plainId_quiet F.bm_plain _, codeAny_builtin F.bm_entry ?_⟩))
  rw [Around.under_plainId F.bm_plain _]
  unfold Builtin.«bytes.__new__»
  refine wpAny_bind (wpAny_of_eq (a := true) rfl ?_)
  refine bm_if_false rfl ?_
  refine wpAny_bind (wpAny_of_eq F.bm_sub ?_)
  refine bm_if_false rfl ?_
  refine wpAny_bind (wpAny_of_eq (F.bm_bind _) ?_)
  refine wpAny_bind (wpAny_of_eq (a := ()) rfl ?_)
  refine wpAny_bind (wpAny_of_eq (a := ()) rfl ?_)
  refine bm_if_false rfl ?_
  have e1 : specialOf (.int 12 t) "__bytes__" = pure none := by
    show typeLookup (.type "int") "__bytes__" = pure none
    rw [typeLookup_type, builtinLookup_eq_fast]; kernel_rfl
  have e2 : ∃ f, specialOf (.int 12 t) "__index__" = pure (some f) := ⟨_, by
    show typeLookup (.type "int") "__index__" = pure (some (.builtin "int.__index__"))
    rw [typeLookup_type, builtinLookup_eq_fast]; kernel_rfl⟩
  obtain ⟨f, e2⟩ := e2
  refine wpAny_bind (wpAny_of_eq e1 ?_)
  dsimp only
  refine wpAny_bind (wpAny_of_eq (a := false) rfl ?_)
  refine bm_if_false rfl ?_
  refine wpAny_bind (wpAny_of_eq e2 ?_)
  refine bm_if_false rfl ?_
  refine wpAny_bind (wpAny_attempt (wpAny_of_eq (a := (12 : Int)) (by first | rfl | kernel_rfl) ?_))
  dsimp only
  refine bm_if_false (by decide +kernel) ?_
  first
    | rw [if_neg (by decide), if_neg (by decide)]
    | (refine wpAny_ite ?_; rw [if_neg (by decide)]; refine wpAny_ite ?_; rw [if_neg (by decide)])
  refine bm_if_false (by decide +kernel) ?_
  refine wpAny_bind (wpAny_rule ?_)
  refine wpAny_bind (wpAny_mkBytes ?_ (by decide +kernel))
  show wpAny _ _ (if (Value.type "bytes" == Value.type "bytes") = true then _ else _) _ _ _
  refine bm_if_true (by decide) ?_
  first
    | exact wpAny_pure (hQ _ _)
    | exact wpAny_bind (wpAny_pure (wpAny_pure (hQ _ _)))
theorem call_bytes_12 {Q : Value → Shared → Prop} (hQ : ∀ t' k, Q (.bytes (Array.replicate 12 0) t') { s with toks := k }) :
    wpAny (model prog w) A (call (.type "bytes") [.int 12 t]) Q E s := by
  refine callType_codes (Q₁ := fun obj s₁ => s₁.TypeIs obj "bytes" ∧ Q obj s₁) F.bm_called (F.bm_typeCall _) F.entry_object_init
    (bytes_new_12 fun t' k => ⟨PySem.W.typeIs_bytes _ _ _, hQ t' k⟩) fun obj s₁ h₁ => ?_
  exact ⟨h₁.1, F.args_object_init_2 obj _, object_init_meets F.bm_called.init.lookup F.bm_called.made (by decide) prog w A.in1 _ s₁ ⟨h₁.1, rfl, h₁.2⟩⟩
end
end Mine

end
-- Q1
section
open PySem PySem.Calls PySem.W PyProof.Rows PyProof.V PySem.Spec PySem.SeqAt
set_option maxRecDepth 100000
namespace Mine
def EqW (prog : Program) (w : World) (A : Around) (s : Shared) (y x : Value) (b : Bool) : Prop :=
  ∀ (E : Value → Shared → Prop) (Q : Bool → Shared → Prop), Q b s → wpAny (model prog w) A (eqBool y x) Q E s
section
variable {prog : Program} {w : World} {A : Around} {s : Shared}
theorem EqW.of {x y : Value} {b : Bool} (h : EqAt A s x y b) : EqW prog w A s x y b := fun E Q q => h prog w E Q q
theorem EqW.refs {x y : Addr} {b : Bool} (hne : x ≠ y) (h : ∀ (E : Value → Shared → Prop) (Q : Value → Shared → Prop), Q (.bool b) s → wpAny (model prog w) A (richCompare .Eq (.ref x) (.ref y)) Q E s) : EqW prog w A s (.ref x) (.ref y) b := fun E Q hq => by
  unfold eqBool
  refine wpAny_holding ?_
  refine wpAny_ite_split (fun hab => absurd (by have := eq_of_beq hab; injection this) hne) (fun _ => ?_)
  exact wpAny_bind (h E _ (wpAny_truthy_bool hq))
theorem eqW_bytes (b c : Array UInt8) (t u : Tok) : EqW prog w A s (.bytes b t) (.bytes c u) (b.toList == c.toList) := fun E Q h => by
  unfold eqBool
  refine wpAny_holding ?_
  refine wpAny_ite_split (fun hab => ?_) (fun _ => ?_)
  · have e : b = c := by have := eq_of_beq hab; injection this
    subst e
    exact wpAny_bind (wpAny_rule (wpAny_pure (by simpa using h)))
  · exact wpAny_bind (richCompare_gives (typeIs_bytes s b t) (typeIs_bytes s c u) FB.slot_bytes_eq FB.entry_bytes_eq (FB.args_bytes_eq_2 _ _) (gives_bytes_eq b c t u) (fun e => nomatch e) (wpAny_truthy_bool h))
end
inductive EqAll (prog : Program) (w : World) (A : Around) (s : Shared) : List Value → List Value → Bool → Prop
  | nil : EqAll prog w A s [] [] true
  | cons {x y : Value} {xs ys : List Value} {e r : Bool} : EqW prog w A s x y e → EqAll prog w A s xs ys r → EqAll prog w A s (x :: xs) (y :: ys) (e && r)
theorem EqAll.len {prog : Program} {w : World} {A : Around} {s : Shared} : ∀ {xs ys : List Value} {r : Bool}, EqAll prog w A s xs ys r → xs.length = ys.length
  | _, _, _, .nil => rfl
  | _, _, _, .cons _ t => by simp [t.len]
section
variable {prog : Program} {w : World} {A : Around}
open MeetsSeq MeetsSeq2 MeetsSeq3 AutoSeq1
set_option maxHeartbeats 4000000 in
theorem listLoop (k : Bool) (l b : Addr) (items items2 : Array Value) (n n2 : Nat) (dd dd2 : Option Addr) (sl sl2 : Array (Option Value)) (hsz : items.size = items2.size) : ∀ (m i : Nat) (r : Bool) (R : Result → Shared → Prop) (s : Shared), items.size - i = m →
    s.heap.get? l = some { cls := .type "list", dict := dd, data := .seq items n, slots := sl } → s.heap.get? b = some { cls := .type "list", dict := dd2, data := .seq items2 n2, slots := sl2 } →
    EqAll prog w A.in1 s (items.toList.drop i) (items2.toList.drop i) r → R (.ok (.ret (.bool (if k then r else !r)))) s →
    wpAny (model prog w) A.in1 (Builtin.«list.__eq__.loop» ⟨[.ref l, .ref b, rawInt i, rawInt (if k then 2 else 3)], []⟩)
      (fun fin s' => match fin with | .done f => R (.ok f) s' | .again c' => c'.quiet = true ∧ codeAny (model prog w) A c' R s') (fun e s' => R (.error e) s') s := by
  intro m
  induction m with
  | zero =>
    intro i r R s hm hl hb he h
    obtain ⟨hp, g, d, tk, os⟩ := s
    have hi1 : items[((i : Nat) : Int).toNat]? = none := by simp; omega
    have hi2 : items2[((i : Nat) : Int).toNat]? = none := by simp; omega
    have hd1 : items.toList.drop i = [] := by simp; omega
    have hd2 : items2.toList.drop i = [] := by simp; omega
    rw [hd1, hd2] at he
    cases he
    cases k with
    | true =>
      simp only [if_true] at h ⊢
      wp_walk using wpAny_loadPart' hl, wpAny_loadPart' hb
      rw [hi1, hi2]
      wp_walk using wpAny_loadPart' hl, wpAny_loadPart' hb
      show R (.ok (.ret (.bool (items.size == items2.size)))) _
      rw [hsz]
      simpa using h
    | false =>
      simp only [Bool.false_eq_true, if_false] at h ⊢
      wp_walk using wpAny_loadPart' hl, wpAny_loadPart' hb
      rw [hi1, hi2]
      wp_walk using wpAny_loadPart' hl, wpAny_loadPart' hb
      show R (.ok (.ret (.bool (items.size != items2.size)))) _
      rw [hsz]
      simpa using h
  | succ m ih =>
    intro i r R s hm hl hb he h
    obtain ⟨hp, g, d, tk, os⟩ := s
    have hlt : i < items.size := by omega
    have hlt2 : i < items2.size := by omega
    have hi1 : items[((i : Nat) : Int).toNat]? = some items[i] := by simp [hlt]
    have hi2 : items2[((i : Nat) : Int).toNat]? = some items2[i] := by simp [hlt2]
    have hd1 : items.toList.drop i = items[i] :: items.toList.drop (i + 1) := by simp [List.drop_eq_getElem_cons, hlt]
    have hd2 : items2.toList.drop i = items2[i] :: items2.toList.drop (i + 1) := by simp [List.drop_eq_getElem_cons, hlt2]
    have hc : ((i : Int) + 1) = ((i + 1 : Nat) : Int) := by push_cast; rfl
    rw [hd1, hd2] at he
    cases he with
    | @cons _ _ _ _ e q he ht =>
    cases k with
    | true =>
      simp only [if_true] at h ⊢
      wp_walk using wpAny_loadPart' hl, wpAny_loadPart' hb
      rw [hi1, hi2]
      refine wpAny_bind (he _ _ ?_)
      cases e with
      | true =>
        wp_walk
        rw [hc]
        exact ⟨plainId_quiet plain_eq_loop _, codeAny_builtin entry_eq_loop (by
          rw [Around.under_plainId plain_eq_loop _]
          exact ih (i + 1) q R _ (by omega) hl hb ht (by simpa using h))⟩
      | false =>
        wp_walk using wpAny_loadPart' hl, wpAny_loadPart' hb
        rw [hi1, hi2]
        wp_walk
        simpa using h
    | false =>
      simp only [Bool.false_eq_true, if_false] at h ⊢
      wp_walk using wpAny_loadPart' hl, wpAny_loadPart' hb
      rw [hi1, hi2]
      refine wpAny_bind (he _ _ ?_)
      cases e with
      | true =>
        wp_walk
        rw [hc]
        exact ⟨plainId_quiet plain_eq_loop _, codeAny_builtin entry_eq_loop (by
          rw [Around.under_plainId plain_eq_loop _]
          exact ih (i + 1) q R _ (by omega) hl hb ht (by simpa using h))⟩
      | false =>
        wp_walk using wpAny_loadPart' hl, wpAny_loadPart' hb
        rw [hi1, hi2]
        wp_walk
        simpa using h
set_option maxHeartbeats 4000000 in
theorem listEq (l b : Addr) (items items2 : Array Value) (n n2 : Nat) (dd dd2 : Option Addr) (sl sl2 : Array (Option Value)) (r : Bool) (R : Result → Shared → Prop) (s : Shared) (hl : s.heap.get? l = some { cls := .type "list", dict := dd, data := .seq items n, slots := sl }) (hb : s.heap.get? b = some { cls := .type "list", dict := dd2, data := .seq items2 n2, slots := sl2 })
    (he : EqAll prog w A.in1 s items.toList items2.toList r) (h : R (.ok (.ret (.bool r))) s) :
    wpAny (model prog w) A.in1 (Builtin.«list.__eq__» ⟨[.ref l, .ref b], []⟩)
      (fun fin s' => match fin with | .done f => R (.ok f) s' | .again c' => c'.quiet = true ∧ codeAny (model prog w) A c' R s') (fun e s' => R (.error e) s') s := by
  have hsz : items.size = items2.size := by simpa using he.len
  obtain ⟨hp, g, d, tk, os⟩ := s
  have f3 := AutoSeq1.sub_list_list
  have hne : ¬ (items.size != items2.size) = true := by simp [hsz]
  wp_walk using wpAny_loadPart' hl, wpAny_loadPart' hb
  exact ⟨plainId_quiet plain_eq_loop _, codeAny_builtin entry_eq_loop (by
    rw [Around.under_plainId plain_eq_loop _]
    exact listLoop true l b items items2 n n2 dd dd2 sl sl2 hsz _ 0 r R _ rfl hl hb (by simpa using he) h)⟩
set_option maxHeartbeats 4000000 in
theorem listNe (l b : Addr) (items items2 : Array Value) (n n2 : Nat) (dd dd2 : Option Addr) (sl sl2 : Array (Option Value)) (r : Bool) (R : Result → Shared → Prop) (s : Shared) (hl : s.heap.get? l = some { cls := .type "list", dict := dd, data := .seq items n, slots := sl }) (hb : s.heap.get? b = some { cls := .type "list", dict := dd2, data := .seq items2 n2, slots := sl2 })
    (he : EqAll prog w A.in1 s items.toList items2.toList r) (h : R (.ok (.ret (.bool (!r)))) s) :
    wpAny (model prog w) A.in1 (Builtin.«list.__ne__» ⟨[.ref l, .ref b], []⟩)
      (fun fin s' => match fin with | .done f => R (.ok f) s' | .again c' => c'.quiet = true ∧ codeAny (model prog w) A c' R s') (fun e s' => R (.error e) s') s := by
  have hsz : items.size = items2.size := by simpa using he.len
  obtain ⟨hp, g, d, tk, os⟩ := s
  have f3 := AutoSeq1.sub_list_list
  have hne : ¬ (items.size != items2.size) = true := by simp [hsz]
  wp_walk using wpAny_loadPart' hl, wpAny_loadPart' hb
  exact ⟨plainId_quiet plain_eq_loop _, codeAny_builtin entry_eq_loop (by
    rw [Around.under_plainId plain_eq_loop _]
    exact listLoop false l b items items2 n n2 dd dd2 sl sl2 hsz _ 0 r R _ rfl hl hb (by simpa using he) h)⟩
set_option maxHeartbeats 4000000 in
theorem tupleBoth (k : Bool) (l b : Addr) (items items2 : Array Value) (n n2 : Nat) (dd dd2 : Option Addr) (sl sl2 : Array (Option Value)) (r : Bool) (R : Result → Shared → Prop) (s : Shared) (hl : s.heap.get? l = some { cls := .type "tuple", dict := dd, data := .seq items n, slots := sl }) (hb : s.heap.get? b = some { cls := .type "tuple", dict := dd2, data := .seq items2 n2, slots := sl2 })
    (he : EqAll prog w A.in1 s items.toList items2.toList r) (h : R (.ok (.ret (.bool (if k then r else !r)))) s) :
    wpAny (model prog w) A.in1 (if k then Builtin.«tuple.__eq__» ⟨[.ref l, .ref b], []⟩ else Builtin.«tuple.__ne__» ⟨[.ref l, .ref b], []⟩)
      (fun fin s' => ∃ v, fin = .done (.ret v) ∧ R (.ok (.ret v)) s') (fun e s' => R (.error e) s') s := by
  have hsz : items.size = items2.size := by simpa using he.len
  obtain ⟨hp, g, d, tk, os⟩ := s
  have f2 := AutoSeq1.sub_tuple_tuple
  cases k with
  | true =>
    simp only [if_true] at h ⊢
    wp_walk using wpAny_loadPart' hl, wpAny_loadPart' hb, wpAny_forIn_list _ (fun rest q s' => q.1 = none ∧ s' = ⟨hp, g, d, tk, os⟩ ∧ ∃ xs ys r', rest = xs.zip ys ∧ EqAll prog w A.in1 ⟨hp, g, d, tk, os⟩ xs ys r' ∧ R (.ok (.ret (.bool r'))) ⟨hp, g, d, tk, os⟩) _
    case turn =>
      rintro ⟨y, x⟩ rest q s' ⟨hq, rfl, xs, ys, r', hz, hA, hR⟩
      cases hA with
      | nil => cases hz
      | @cons _ _ xs ys e r' he ht =>
        injection hz with hyx hrest
        injection hyx with hy hx
        subst hy hx
        refine wpAny_bind (he _ _ ?_)
        cases e with
        | true => wp_walk; exact ⟨rfl, rfl, xs, ys, r', hrest, ht, by simpa using hR⟩
        | false => wp_walk; exact ⟨_, rfl, by simpa using hR⟩
    case fin =>
      rintro ⟨b1, b2⟩ s' ⟨hq, rfl, xs, ys, r', hz, hA, hR⟩
      simp only at hq
      subst hq
      cases hA with
      | nil =>
        wp_walk
        exact ⟨_, rfl, by simpa [Builtin.Tuple.tupleCompareSizes, hsz] using hR⟩
      | cons => cases hz
    case h => exact ⟨rfl, rfl, _, _, _, rfl, he, h⟩
  | false =>
    simp only [Bool.false_eq_true, if_false] at h ⊢
    wp_walk using wpAny_loadPart' hl, wpAny_loadPart' hb, wpAny_forIn_list _ (fun rest q s' => q.1 = none ∧ s' = ⟨hp, g, d, tk, os⟩ ∧ ∃ xs ys r', rest = xs.zip ys ∧ EqAll prog w A.in1 ⟨hp, g, d, tk, os⟩ xs ys r' ∧ R (.ok (.ret (.bool (!r')))) ⟨hp, g, d, tk, os⟩) _
    case turn =>
      rintro ⟨y, x⟩ rest q s' ⟨hq, rfl, xs, ys, r', hz, hA, hR⟩
      cases hA with
      | nil => cases hz
      | @cons _ _ xs ys e r' he ht =>
        injection hz with hyx hrest
        injection hyx with hy hx
        subst hy hx
        refine wpAny_bind (he _ _ ?_)
        cases e with
        | true => wp_walk; exact ⟨rfl, rfl, xs, ys, r', hrest, ht, by simpa using hR⟩
        | false => wp_walk; exact ⟨_, rfl, by simpa using hR⟩
    case fin =>
      rintro ⟨b1, b2⟩ s' ⟨hq, rfl, xs, ys, r', hz, hA, hR⟩
      simp only at hq
      subst hq
      cases hA with
      | nil =>
        wp_walk
        exact ⟨_, rfl, by simpa [Builtin.Tuple.tupleCompareSizes, hsz, bne] using hR⟩
      | cons => cases hz
    case h => exact ⟨rfl, rfl, _, _, _, rfl, he, h⟩
end
section
variable {prog : Program} {w : World} {A : Around} {s : Shared} {a b : Addr} {xs ys : List Value} {r : Bool} {h₀ : Heap} {L : Addr} {news : List (Addr × Obj)} {oa ob : Obj} {ka kb : Nat} {E : Value → Shared → Prop} {Q : Value → Shared → Prop}
theorem eq_tups (N : News h₀ L s.heap news) (ma : (a, oa) ∈ news) (ca : oa.cls = .type "tuple") (da : oa.data = .seq xs.toArray ka) (mb : (b, ob) ∈ news) (cb : ob.cls = .type "tuple") (db : ob.data = .seq ys.toArray kb) (hu : A.units < cLine) (he : EqAll prog w A.in1 s xs ys r) (h : Q (.bool r) s) :
    wpAny (model prog w) A (richCompare .Eq (.ref a) (.ref b)) Q E s := by
  obtain ⟨c1, d1, x1, s1⟩ := oa
  obtain ⟨c2, d2, x2, s2⟩ := ob
  simp only at ca da cb db
  subst ca da cb db
  have ha := N.get ma
  have hb := N.get mb
  exact wpAny_richCompare_same_room (op := .Eq) ⟨_, ha, rfl⟩ ⟨_, hb, rfl⟩ F.slot_tuple_eq (wpAny_call_entry F.slot_tuple_eq ⟨_, ha, rfl⟩ F.entry_tuple_eq
    (wpAny_mono (tupleBoth true a b xs.toArray ys.toArray ka kb d1 d2 s1 s2 r (wants (fun v s' => v ≠ .notImplemented ∧ Q v s') E) s ha hb (by simpa using he) ⟨nofun, h⟩) (fun fin s' h' => by obtain ⟨v, rfl, hv⟩ := h'; exact ⟨v, rfl, hv⟩) fun _ _ x => x) (F.args_tuple_eq_2 _ _)) hu
theorem ne_tups (N : News h₀ L s.heap news) (ma : (a, oa) ∈ news) (ca : oa.cls = .type "tuple") (da : oa.data = .seq xs.toArray ka) (mb : (b, ob) ∈ news) (cb : ob.cls = .type "tuple") (db : ob.data = .seq ys.toArray kb) (hu : A.units < cLine) (he : EqAll prog w A.in1 s xs ys r) (h : Q (.bool (!r)) s) :
    wpAny (model prog w) A (richCompare .NotEq (.ref a) (.ref b)) Q E s := by
  obtain ⟨c1, d1, x1, s1⟩ := oa
  obtain ⟨c2, d2, x2, s2⟩ := ob
  simp only at ca da cb db
  subst ca da cb db
  have ha := N.get ma
  have hb := N.get mb
  exact wpAny_richCompare_same_room (op := .NotEq) ⟨_, ha, rfl⟩ ⟨_, hb, rfl⟩ F.slot_tuple_ne (wpAny_call_entry F.slot_tuple_ne ⟨_, ha, rfl⟩ F.entry_tuple_ne
    (wpAny_mono (tupleBoth false a b xs.toArray ys.toArray ka kb d1 d2 s1 s2 r (wants (fun v s' => v ≠ .notImplemented ∧ Q v s') E) s ha hb (by simpa using he) ⟨nofun, h⟩) (fun fin s' h' => by obtain ⟨v, rfl, hv⟩ := h'; exact ⟨v, rfl, hv⟩) fun _ _ x => x) (F.args_tuple_ne_2 _ _)) hu
theorem eq_lists (N : News h₀ L s.heap news) (ma : (a, oa) ∈ news) (ca : oa.cls = .type "list") (da : oa.data = .seq xs.toArray ka) (mb : (b, ob) ∈ news) (cb : ob.cls = .type "list") (db : ob.data = .seq ys.toArray kb) (hu : A.units < cLine) (he : EqAll prog w A.in1 s xs ys r) (h : Q (.bool r) s) :
    wpAny (model prog w) A (richCompare .Eq (.ref a) (.ref b)) Q E s := by
  obtain ⟨c1, d1, x1, s1⟩ := oa
  obtain ⟨c2, d2, x2, s2⟩ := ob
  simp only at ca da cb db
  subst ca da cb db
  have ha := N.get ma
  have hb := N.get mb
  exact wpAny_richCompare_same_room (op := .Eq) ⟨_, ha, rfl⟩ ⟨_, hb, rfl⟩ F.slot_list_eq (wpAny_call (codeAny_call_builtin F.slot_list_eq.plain F.entry_list_eq (F.slot_list_eq.check _ _ _ _ _ _ _ _ ⟨_, ha, rfl⟩ (F.args_list_eq_2 _ _)
    (listEq a b xs.toArray ys.toArray ka kb d1 d2 s1 s2 r (wants (fun v s' => v ≠ .notImplemented ∧ Q v s') E) s ha hb (by simpa using he) ⟨nofun, h⟩)))) hu
theorem ne_lists (N : News h₀ L s.heap news) (ma : (a, oa) ∈ news) (ca : oa.cls = .type "list") (da : oa.data = .seq xs.toArray ka) (mb : (b, ob) ∈ news) (cb : ob.cls = .type "list") (db : ob.data = .seq ys.toArray kb) (hu : A.units < cLine) (he : EqAll prog w A.in1 s xs ys r) (h : Q (.bool (!r)) s) :
    wpAny (model prog w) A (richCompare .NotEq (.ref a) (.ref b)) Q E s := by
  obtain ⟨c1, d1, x1, s1⟩ := oa
  obtain ⟨c2, d2, x2, s2⟩ := ob
  simp only at ca da cb db
  subst ca da cb db
  have ha := N.get ma
  have hb := N.get mb
  exact wpAny_richCompare_same_room (op := .NotEq) ⟨_, ha, rfl⟩ ⟨_, hb, rfl⟩ F.slot_list_ne (wpAny_call (codeAny_call_builtin F.slot_list_ne.plain F.entry_list_ne (F.slot_list_ne.check _ _ _ _ _ _ _ _ ⟨_, ha, rfl⟩ (F.args_list_ne_2 _ _)
    (listNe a b xs.toArray ys.toArray ka kb d1 d2 s1 s2 r (wants (fun v s' => v ≠ .notImplemented ∧ Q v s') E) s ha hb (by simpa using he) ⟨nofun, h⟩)))) hu
theorem EqAll.strs {f g : List PySem.Str} : ∀ {xs ys : List Value}, StrsAre xs f → StrsAre ys g → f.length = g.length → EqAll prog w A s xs ys (f == g)
  | _, _, .nil, .nil, _ => .nil
  | _, _, .cons x t r1, .cons y u r2, hl => by
    have := EqAll.cons (prog := prog) (w := w) (EqW.of (EqAt.str_str x t y u)) (EqAll.strs r1 r2 (by simpa using hl))
    simpa using this
end
noncomputable def dRows (c₂ : List (PySem.Str × Int)) : List (PySem.Str × Int) → Bool
  | [] => true
  | p :: r => match c₂.find? (fun q => decide (q.1 = p.1)) with | none => false | some q => (p.2 == q.2) && dRows c₂ r
noncomputable def dEq (c₁ c₂ : List (PySem.Str × Int)) : Bool := c₁.length == c₂.length && dRows c₂ c₁
theorem dRows_rows (c₂ : List (PySem.Str × Int)) : ∀ c₁ : List (PySem.Str × Int), KeqRows (kdpD c₂) (kdpD c₁) (dRows c₂ c₁)
  | [] => .nil
  | p :: r => by
    have hl := kdpD_lookup p.1 c₂
    show KeqRows (kdpD c₂) ((PyData.str p.1, PyData.int p.2) :: kdpD r) (match c₂.find? (fun q => decide (q.1 = p.1)) with | none => false | some q => (p.2 == q.2) && dRows c₂ r)
    cases hf : c₂.find? (fun q => decide (q.1 = p.1)) with
    | none => rw [hf] at hl; exact .miss hl
    | some q =>
      rw [hf] at hl
      have := KeqRows.hit (v := PyData.int p.2) hl (dRows_rows c₂ r)
      simpa [PyData.eqv] using this
section
variable {A : Around} {s : Shared} {a b : Addr} {c₁ c₂ : List (PySem.Str × Int)}
theorem rc_dicts {prog : Program} {w : World} {E : Value → Shared → Prop} {Q : Value → Shared → Prop} (ha : StrTab prog w s.heap a (kdpD c₁)) (hb : StrTab prog w s.heap b (kdpD c₂)) (hu : A.units < cLine) (h : Q (.bool (dEq c₁ c₂)) s) :
    wpAny (model prog w) A (richCompare .Eq (.ref a) (.ref b)) Q E s := by
  obtain ⟨la, ka, da, fa⟩ := ha
  obtain ⟨lb, kb, db, fb⟩ := hb
  refine keq_eq la lb da db hu (fun _ => (dRows_rows c₂ c₁).hits PyProof.V.same_str fb fa) ?_
  have e1 : ka.length = c₁.length := by rw [← kdpD_length c₁, ← fa.length]
  have e2 : kb.length = c₂.length := by rw [← kdpD_length c₂, ← fb.length]
  rw [e1, e2]; exact h
theorem nc_dicts {prog : Program} {w : World} {E : Value → Shared → Prop} {Q : Value → Shared → Prop} (ha : StrTab prog w s.heap a (kdpD c₁)) (hb : StrTab prog w s.heap b (kdpD c₂)) (hu : A.units < cLine) (h : Q (.bool (!dEq c₁ c₂)) s) :
    wpAny (model prog w) A (richCompare .NotEq (.ref a) (.ref b)) Q E s := by
  obtain ⟨la, ka, da, fa⟩ := ha
  obtain ⟨lb, kb, db, fb⟩ := hb
  refine keq_ne la lb da db hu (fun _ => (dRows_rows c₂ c₁).hits PyProof.V.same_str fb fa) ?_
  have e1 : ka.length = c₁.length := by rw [← kdpD_length c₁, ← fa.length]
  have e2 : kb.length = c₂.length := by rw [← kdpD_length c₂, ← fb.length]
  rw [e1, e2]; exact h
theorem eqW_dicts {prog : Program} {w : World} (hne : a ≠ b) (ha : StrTab prog w s.heap a (kdpD c₁)) (hb : StrTab prog w s.heap b (kdpD c₂)) (hu : A.units < cLine) : EqW prog w A s (.ref a) (.ref b) (dEq c₁ c₂) :=
  EqW.refs hne fun _ _ hq => rc_dicts ha hb hu hq
theorem dRows_self {c : List (PySem.Str × Int)} (hn : (c.map (·.1)).Nodup) : ∀ r : List (PySem.Str × Int), (∀ p ∈ r, p ∈ c) → dRows c r = true
  | [], _ => rfl
  | p :: r, h => by
    have hp : c.find? (fun q => decide (q.1 = p.1)) = some p := by
      have hm := h p (.head _)
      clear h
      induction c with
      | nil => cases hm
      | cons q c ih =>
        rw [List.find?_cons]
        rcases List.mem_cons.mp hm with e | hm
        · subst e; simp
        · have hne : ¬ q.1 = p.1 := fun e => by
            rw [List.map_cons, List.nodup_cons] at hn
            exact hn.1 (e ▸ List.mem_map_of_mem hm)
          simp only [hne, decide_false]
          rw [List.map_cons, List.nodup_cons] at hn
          exact ih hn.2 hm
    unfold dRows
    rw [hp]
    simp [dRows_self hn r fun q hq => h q (.tail _ hq)]
theorem dEq_self {c : List (PySem.Str × Int)} (hn : (c.map (·.1)).Nodup) : dEq c c = true := by
  unfold dEq
  rw [dRows_self hn c fun _ h => h]
  simp
theorem dEq_len {c₁ c₂ : List (PySem.Str × Int)} (h : c₁.length ≠ c₂.length) : dEq c₁ c₂ = false := by
  unfold dEq
  rw [Bool.and_eq_false_iff]
  exact .inl (by simpa using h)
end
section
theorem dict_eq_declines_none {prog : Program} {w : World} {A : Around} {s : Shared} {a : Addr} {Q : Value → Shared → Prop} {E : Value → Shared → Prop} (hT : s.TypeIs (.ref a) "dict") (h : Q .notImplemented s)
    {x : Value} {T : String} (hx : s.TypeIs x T) (hsub : isSubtype (.type T) (.type "dict") = pure false) :
    wpAny (model prog w) A (call (.builtin "dict.__eq__") [.ref a, x]) Q E s := by
  refine wpAny_call_entry PySem.F.slot_dict_eq hT PySem.F.entry_dict_eq ?_ (PySem.F.args_dict_eq_2 _ _)
  show wpAny _ _ (Builtin.Dict.dictSlotArgs "__eq__" ⟨[.ref a, x], []⟩ >>= _) _ _ s
  refine wpAny_bind ?_
  unfold Builtin.Dict.dictSlotArgs
  refine wpAny_bind (wpAny_notOrdered_dict hT ?_)
  show wpAny _ _ (pure (Value.ref a, x)) _ _ s
  refine wpAny_pure ?_
  refine wpAny_bind (wpAny_isInstance (T := T) hx hsub ?_)
  simp only [Bool.not_false, if_true]
  first
    | exact wpAny_pure ⟨Value.notImplemented, rfl, h⟩
    | exact wpAny_bind (wpAny_rule (wpAny_pure ⟨Value.notImplemented, rfl, h⟩))
    | exact wpAny_bind (wpAny_pure (wpAny_pure ⟨Value.notImplemented, rfl, h⟩))
    | trace_state
variable {A : Around} {s : Shared} {a : Addr}
theorem rc_none_dict (hT : s.TypeIs (.ref a) "dict") (hu : A.units < cLine) : RcAt A s .none (.ref a) false := fun prog w E Q h =>
  rc_eq_decline_or (k := false) rfl hT (by decide) PySem.F.sub_dict_NoneType F.slot_NoneType_eq F.slot_dict_eq_refl
    (fun _ hq => call_gives F.slot_NoneType_eq rfl F.entry_NoneType_eq (F.args_NoneType_eq_2 _ _) (NoneType___eq___none_ref_0 a) hq)
    (fun _ hq => dict_eq_declines_none hT hq rfl F.sub_NoneType_dict)
    (fun _ hq => wpAny_of_eq (rfl : isSame .none (.ref a) = pure false) hq) (.inr hu) h
theorem eqAt_none_dict (hT : s.TypeIs (.ref a) "dict") (hu : A.units < cLine) : EqAt A s .none (.ref a) false := fun prog w E Q h => by
  unfold eqBool
  refine wpAny_holding ?_
  refine wpAny_ite_split (fun hab => absurd (eq_of_beq hab) nofun) (fun _ => ?_)
  exact wpAny_bind (rc_none_dict hT hu prog w E _ (wpAny_truthy_bool h))
theorem rc_dict_none (hT : s.TypeIs (.ref a) "dict") (hu : A.units < cLine) : RcAt A s (.ref a) .none false := fun prog w E Q h =>
  rc_eq_decline_or (k := false) hT rfl (by decide) PySem.F.sub_NoneType_dict F.slot_dict_eq F.slot_NoneType_eq_refl
    (fun _ hq => dict_eq_declines_none hT hq rfl F.sub_NoneType_dict)
    (fun _ hq => call_gives F.slot_NoneType_eq_refl rfl F.entry_NoneType_eq (F.args_NoneType_eq_2 _ _) (NoneType___eq___none_ref_0 a) hq)
    (fun _ hq => wpAny_of_eq (rfl : isSame (.ref a) .none = pure false) hq) (.inr hu) h
theorem eqAt_dict_none (hT : s.TypeIs (.ref a) "dict") (hu : A.units < cLine) : EqAt A s (.ref a) .none false := fun prog w E Q h => by
  unfold eqBool
  refine wpAny_holding ?_
  refine wpAny_ite_split (fun hab => absurd (eq_of_beq hab) nofun) (fun _ => ?_)
  exact wpAny_bind (rc_dict_none hT hu prog w E _ (wpAny_truthy_bool h))
end
end Mine

end
-- Bs
section
open PySem PySem.W PyProof.Rows
namespace Mine
abbrev Led := List (Addr × Obj)
abbrev tupO (vs : List Value) : Obj := { cls := .type "tuple", data := .seq vs.toArray }
def CallC (w : World) (f : Addr) (pos : List Value) (kw : List (PySem.Str × Value)) (news : Led) (Ret : (Led → Value → Prop) → Prop) : Prop :=
  ∀ (mean : ExcName → Option Value) (mg mb : PySem.Str → Option Value) (dp un : Nat) (gd : Option (List Code)) (cn : PySem.Str) (cs : Scope) (a : Addr) (ccd : Value) (cl : List (PySem.Str × Addr)) (outer : List Env) (A₀ : Around) (base h₀ : Heap) (L : Addr) (m : PySem.Str → Option Value) (s : Shared) (Q E : Value → Shared → Prop),
    Below A₀ base outer h₀ → Fr h₀ L s.heap m → (hd.heap_1 w.params).In h₀ → News h₀ L s.heap news → Top hd.view_1 (looseW hd.view_1 [Str.ofString "Code", Str.ofString "Binary", Str.ofString "DatetimeMS", Str.ofString "DBRef", Str.ofString "InvalidDocument", Str.ofString "Int64", Str.ofString "MaxKey", Str.ofString "MinKey", Str.ofString "ObjectId", Str.ofString "Regex", Str.ofString "Timestamp"]) mean mg mb h₀ → cs.kind = .function → dp + 8 < recursionLimit → un + 64 < cLine →
    Ret (fun tl r => ∀ h' tk', Fr h₀ L h' m → News h₀ L h' tl → Q r { s with heap := h', toks := tk' }) →
    wpAny (model PySem.Challenge.rw_jh0019_01.row.prog w) (ktrTop dp un gd cn cs L a ccd cl outer) (call (.ref f) pos kw) Q E s
def CallL (w : World) (f : Addr) (pos : List Value) (kw : List (PySem.Str × Value)) (news : Led) (Ret : (Led → Value → Prop) → Prop) : Prop :=
  ∀ (mean : ExcName → Option Value) (mg mb : PySem.Str → Option Value) (dp un : Nat) (gd : Option (List Code)) (cn : PySem.Str) (cs : Scope) (a : Addr) (ccd : Value) (cl : List (PySem.Str × Addr)) (A₀ : Around) (h₀ : Heap) (L : Addr) (m : PySem.Str → Option Value) (s : Shared) (Q E : Value → Shared → Prop),
    Below A₀ h₀ [] h₀ → Fr h₀ L s.heap m → (hd.heap_1 w.params).In h₀ → News h₀ L s.heap news → Top hd.view_1 (looseW hd.view_1 [Str.ofString "Code", Str.ofString "Binary", Str.ofString "DatetimeMS", Str.ofString "DBRef", Str.ofString "InvalidDocument", Str.ofString "Int64", Str.ofString "MaxKey", Str.ofString "MinKey", Str.ofString "ObjectId", Str.ofString "Regex", Str.ofString "Timestamp"]) mean mg mb h₀ → cs.kind = .function → dp + 30 < recursionLimit → un + 300 < cLine →
    Ret (fun tl r => ∀ h' tk', Fr h₀ L h' m → News h₀ L h' tl → Q r { s with heap := h', toks := tk' }) →
    wpAny (model PySem.Challenge.rw_jh0019_01.row.prog w) (ktrTop dp un gd cn cs L a ccd cl []) (call (.ref f) pos kw) Q E s
end Mine
theorem Mine.ite_dT {c : Prop} [Decidable c] {P Q : Prop} (h : c) (p : P) : if decide c = true then P else Q := by rw [if_pos (decide_eq_true h)]; exact p
theorem Mine.ite_dF {c : Prop} [Decidable c] {P Q : Prop} (h : ¬ c) (q : Q) : if decide c = true then P else Q := by rw [if_neg (by simp [h])]; exact q
theorem Mine.ite_nT {c : Prop} [Decidable c] {P Q : Prop} (h : c) (q : Q) : if (!decide c) = true then P else Q := by rw [if_neg (by simp [h])]; exact q
theorem Mine.ite_nF {c : Prop} [Decidable c] {P Q : Prop} (h : ¬ c) (p : P) : if (!decide c) = true then P else Q := by rw [if_pos (by simp [h])]; exact p
theorem Mine.gen_toks {α : Type} {M : Model} {A : Around} {t : Sem α} {Q : α → Shared → Prop} {E : Value → Shared → Prop} {h : Heap} {g : Array GenState} {d : Drawn} {X : Nat} {o : OsState} (H : ∀ tk, wpAny M A t Q E ⟨h, g, d, tk, o⟩) : wpAny M A t Q E ⟨h, g, d, X, o⟩ := H X
section
variable {prog : Program} {w : World} {A : Around} {E : Value → Shared → Prop} {s : Shared} {t u : Tok} {Q : Value → Shared → Prop}
theorem Mine.pow63 (h : Q (.int 9223372036854775808 s.toks) { s with toks := s.toks + 1 }) : wpAny (model prog w) A (binaryOp .Pow (.int 2 t) (.int 63 u)) Q E s := pow_int_small (by decide) (by decide) (by decide) (by rw [show (2 : Int) ^ Int.toNat 63 = 9223372036854775808 from by decide]; exact h)
theorem Mine.pow64 (h : Q (.int 18446744073709551616 s.toks) { s with toks := s.toks + 1 }) : wpAny (model prog w) A (binaryOp .Pow (.int 2 t) (.int 64 u)) Q E s := pow_int_small (by decide) (by decide) (by decide) (by rw [show (2 : Int) ^ Int.toNat 64 = 18446744073709551616 from by decide]; exact h)
theorem Mine.pow65 (h : Q (.int 36893488147419103232 s.toks) { s with toks := s.toks + 1 }) : wpAny (model prog w) A (binaryOp .Pow (.int 2 t) (.int 65 u)) Q E s := pow_int_small (by decide) (by decide) (by decide) (by rw [show (2 : Int) ^ Int.toNat 65 = 36893488147419103232 from by decide]; exact h)
theorem Mine.pow66 (h : Q (.int 73786976294838206464 s.toks) { s with toks := s.toks + 1 }) : wpAny (model prog w) A (binaryOp .Pow (.int 2 t) (.int 66 u)) Q E s := pow_int_small (by decide) (by decide) (by decide) (by rw [show (2 : Int) ^ Int.toNat 66 = 73786976294838206464 from by decide]; exact h)
end

end
-- S1
section
open PySem PySem.Calls PySem.W PyProof.Rows
set_option maxRecDepth 100000
namespace Mine
theorem use_C {w : World} {f : Addr} {pos : List Value} {kw : List (PySem.Str × Value)} {news : Led} {Ret : (Led → Value → Prop) → Prop} (H : CallC w f pos kw news Ret)
    {mean : ExcName → Option Value} {mg mb : PySem.Str → Option Value} {dp un : Nat} {gd : Option (List Code)} {cn : PySem.Str} {cs : Scope} {a : Addr} {ccd : Value} {cl : List (PySem.Str × Addr)} {outer : List Env} {A₀ : Around} {base h₀ : Heap} {L : Addr} {m : PySem.Str → Option Value} {s : Shared} {Q E : Value → Shared → Prop}
    (B : Below A₀ base outer h₀) (F : Fr h₀ L s.heap m) (X : (hd.heap_1 w.params).In h₀) (N : News h₀ L s.heap news) (T : Top hd.view_1 (looseW hd.view_1 [Str.ofString "Code", Str.ofString "Binary", Str.ofString "DatetimeMS", Str.ofString "DBRef", Str.ofString "InvalidDocument", Str.ofString "Int64", Str.ofString "MaxKey", Str.ofString "MinKey", Str.ofString "ObjectId", Str.ofString "Regex", Str.ofString "Timestamp"]) mean mg mb h₀) (hk : cs.kind = .function) (hd : dp + 8 < recursionLimit) (hu : un + 64 < cLine)
    (hret : Ret fun tl r => ∀ h' tk', Fr h₀ L h' m → News h₀ L h' tl → Q r { s with heap := h', toks := tk' }) :
    wpAny (model PySem.Challenge.rw_jh0019_01.row.prog w) (ktrTop dp un gd cn cs L a ccd cl outer) (call (.ref f) pos kw) Q E s :=
  H mean mg mb dp un gd cn cs a ccd cl outer A₀ base h₀ L m s Q E B F X N T hk hd hu hret
theorem use_L {w : World} {f : Addr} {pos : List Value} {kw : List (PySem.Str × Value)} {news : Led} {Ret : (Led → Value → Prop) → Prop} (H : CallL w f pos kw news Ret)
    {mean : ExcName → Option Value} {mg mb : PySem.Str → Option Value} {dp un : Nat} {gd : Option (List Code)} {cn : PySem.Str} {cs : Scope} {a : Addr} {ccd : Value} {cl : List (PySem.Str × Addr)} {A₀ : Around} {h₀ : Heap} {L : Addr} {m : PySem.Str → Option Value} {s : Shared} {Q E : Value → Shared → Prop}
    (B : Below A₀ h₀ [] h₀) (F : Fr h₀ L s.heap m) (X : (hd.heap_1 w.params).In h₀) (N : News h₀ L s.heap news) (T : Top hd.view_1 (looseW hd.view_1 [Str.ofString "Code", Str.ofString "Binary", Str.ofString "DatetimeMS", Str.ofString "DBRef", Str.ofString "InvalidDocument", Str.ofString "Int64", Str.ofString "MaxKey", Str.ofString "MinKey", Str.ofString "ObjectId", Str.ofString "Regex", Str.ofString "Timestamp"]) mean mg mb h₀) (hk : cs.kind = .function) (hd : dp + 30 < recursionLimit) (hu : un + 300 < cLine)
    (hret : Ret fun tl r => ∀ h' tk', Fr h₀ L h' m → News h₀ L h' tl → Q r { s with heap := h', toks := tk' }) :
    wpAny (model PySem.Challenge.rw_jh0019_01.row.prog w) (ktrTop dp un gd cn cs L a ccd cl []) (call (.ref f) pos kw) Q E s :=
  H mean mg mb dp un gd cn cs a ccd cl A₀ h₀ L m s Q E B F X N T hk hd hu hret
section
variable {prog : Program} {w : World} {A₀ A : Around} {s : Shared} {base h₀ : Heap} {L : Addr} {m : PySem.Str → Option Value} {env : Env} {news : List (Addr × Obj)} {K : Frag} {p : Program} {loose : List PySem.Str} {mean : ExcName → Option Value} {mg mb : PySem.Str → Option Value}
    {R : Result → Shared → Prop} {name qual : PySem.Str} {params : Arguments} {body : List Stmt} {scope : Scope} {dV kV doc pm cdv ct oc : Value} {an od : Option Addr} {osl : Array (Option Value)} {f : Addr} {args : Args} {binds : List (PySem.Str × Value)}
theorem ns_slots {h h' : Heap} {oL : Obj} (F : h.Ns L m) (ho : h.get? L = some oL) (sl : Array (Option Value)) (hs : h'.get? L = some { oL with slots := sl }) : h'.Ns L m := by
  obtain ⟨o, es, ep, h1, h2, h3, h4⟩ := F
  rw [ho] at h1
  cases h1
  exact ⟨_, es, ep, hs, h2, h3, h4⟩
theorem ns_dict {h : Heap} (F : h.Ns L m) : ∃ o es n, h.get? L = some o ∧ o.data = .dict es n := by
  obtain ⟨o, es, ep, h1, h2, _⟩ := F
  exact ⟨o, es, ep, h1, h2⟩

theorem back_S {g g' h' : Heap} {L' : Addr} {m' : PySem.Str → Option Value} {news' : List (Addr × Obj)} (FG : Fr h₀ L g m) (T : KtsTurn [L] g g') (F' : Fr g' L' h' m') (N' : News g' L' h' news') : Fr h₀ L h' m ∧ News h₀ L h' news' := by
  obtain ⟨oL, es, ep, hL, hd⟩ := ns_dict FG.ns
  obtain ⟨sl, hs⟩ := T.up hL
  have nL : h₀.get? L = none := kts_self FG
  refine ⟨⟨ns_slots FG.ns hL sl (F'.keep _ _ hs), fun b o e => F'.keep b o (T.other b o (FG.keep b o e) fun q => ?_), FG.above⟩, fun p hp => ⟨(N' p hp).1, fun q => ?_, ?_⟩⟩
  · rw [List.mem_singleton.mp q, nL] at e
    cases e
  · have := (N' p hp).2.2
    rw [q, hs] at this
    cases this
  · cases q : h₀.get? p.1 with
    | none => rfl
    | some o =>
      obtain ⟨sl', hs'⟩ := T.up (FG.keep _ _ q)
      have := (N' p hp).2.2
      rw [hs'] at this
      cases this
theorem code_S (B : Below A₀ base [] h₀) (F : Fr h₀ L s.heap m) (X₀ : K.In h₀) (N : News h₀ L s.heap news) (T : Top p loose mean mg mb h₀) (hA : A.frames = some [env]) (hf : env.frame = some L) (hke : env.scope.kind = .function)
    (ho : K.lookup f = some ⟨oc, od, .func (fnOf name qual params body scope dV kV doc pm an cdv ct), osl⟩) (hcd : codeIn K cdv qual = true) (hroom : A.depth < recursionLimit)
    (hbind : BindsTo s (fnOf name qual params body scope dV kV doc pm an cdv ct) args binds) (hloc : ∀ y ∈ binds, scope.names.lookup y.1 = some .local)
    (h : ∀ g L' h₁, Fr h₀ L g m → Fr g L' h₁ (fun y => binds.reverse.lookup y) → News g L' h₁ news → Below A base [env] g → K.In g → Top p loose mean mg mb g → KtsDicts ([env].filterMap (·.frame)) g →
      wpAny (model prog w) (A.deeper (envOf qual scope L' f cdv)) (execs body (envOf qual scope L' f cdv))
        (fun fl s' => LeaveS0 ([env].filterMap (·.frame)) h₀ L m g R (match fl with | .ret v => v | _ => .none) s')
        (fun e s' => wpAny (model prog w) (A.deeper (envOf qual scope L' f cdv)) (leaving (envOf qual scope L' f cdv) e) (fun _ s'' => R (.error e) s'') (fun e' s'' => R (.error e') s'') s')
        { s with heap := h₁, toks := s.toks + binds.length })
    (hco : scope.isCoroutine = false) (hgen : scope.isGenerator = false) (hk : scope.kind = .function)
    (hcell : ∀ x ∈ scope.names, x.2 ≠ .cell) : codeAny (model prog w) A (.call (.ref f) args) R s := by
  have X := X₀.keeps F.keep
  have efs : [env].filterMap (·.frame) = [L] := by simp [hf]
  refine codeAny_call_def (fd := fnOf name qual params body scope dV kV doc pm an cdv ct) (body := body) (binds := binds) hroom (X _ _ ho) rfl (T.nolimit.keeps F.keep) (codeRec_of X hcd) rfl hbind hcell hloc (fun h₁ hns hk₁ => ?_) hco hgen hk
  obtain ⟨FG, BG, st, _⟩ := groundX (R := R) B F N hA hf hke
  obtain ⟨oL, es, ep, hL, hd⟩ := ns_dict FG.ns
  refine wpAny_mono (h _ s.heap.objs.size h₁ FG ⟨hns, fun b o e => hk₁ b o (of_hideAll _ e), Nat.le_of_eq (hideAll_size _ _)⟩
    (fun p hp => ⟨hk₁ _ _ (N p hp).1, Nat.ne_of_lt (Heap.lt_size (N p hp).1), hideAll_none _ (List.mem_map_of_mem hp)⟩) BG (X₀.keeps st) (T.keeps st) (fun b hb => by
      rw [efs] at hb
      rw [List.mem_singleton.mp hb]
      exact ⟨oL, es, ep, hL, hd⟩)) (fun fl s' hl => ?_) fun _ _ y => y
  rw [efs] at hl
  obtain ⟨g', L', m', news', T', F', N', k⟩ := hl
  obtain ⟨a, b⟩ := back_S FG T' F' N'
  exact k a b
end
end Mine

end
-- Q2
section
open PySem PySem.Calls PySem.W PyProof.Rows PyProof.V PySem.Spec PySem.SeqAt
namespace Mine
section
variable {prog : Program} {w : World} {A : Around} {s : Shared} {a b : Addr} {xs ys : List Value} {r : Bool} {h₀ : Heap} {L : Addr} {news : List (Addr × Obj)} {oa ob : Obj} {ka kb : Nat} {f g : List PySem.Str} {E Q : Value → Shared → Prop}
theorem eqW_tups (hne : a ≠ b) (N : News h₀ L s.heap news) (ma : (a, oa) ∈ news) (ca : oa.cls = .type "tuple") (da : oa.data = .seq xs.toArray ka) (mb : (b, ob) ∈ news) (cb : ob.cls = .type "tuple") (db : ob.data = .seq ys.toArray kb) (hu : A.units < cLine) (he : EqAll prog w A.in1 s xs ys r) : EqW prog w A s (.ref a) (.ref b) r :=
  EqW.refs hne fun _ _ hq => eq_tups N ma ca da mb cb db hu he hq
theorem eqW_lists (hne : a ≠ b) (N : News h₀ L s.heap news) (ma : (a, oa) ∈ news) (ca : oa.cls = .type "list") (da : oa.data = .seq xs.toArray ka) (mb : (b, ob) ∈ news) (cb : ob.cls = .type "list") (db : ob.data = .seq ys.toArray kb) (hu : A.units < cLine) (he : EqAll prog w A.in1 s xs ys r) : EqW prog w A s (.ref a) (.ref b) r :=
  EqW.refs hne fun _ _ hq => eq_lists N ma ca da mb cb db hu he hq
theorem ne_lists_t (N : News h₀ L s.heap news) (ma : (a, oa) ∈ news) (ca : oa.cls = .type "list") (da : oa.data = .seq xs.toArray ka) (mb : (b, ob) ∈ news) (cb : ob.cls = .type "list") (db : ob.data = .seq ys.toArray kb) (hu : A.units < cLine) (he : EqAll prog w A.in1 s xs ys r) (hr : r = true) {Q : Value → Shared → Prop} (h : Q (.bool false) s) :
    wpAny (model prog w) A (richCompare .NotEq (.ref a) (.ref b)) Q E s := ne_lists N ma ca da mb cb db hu he (by rw [hr]; exact h)
theorem snoc_ne (b : Array UInt8) (x : UInt8) : (b.toList == (b ++ [x].toArray).toList) = false := by
  rw [beq_eq_false_iff_ne]
  intro h
  have := congrArg List.length h
  simp at this
theorem str_snoc (x : PySem.Str) (c : String) (h : 0 < (PySem.Str.ofString c).length) : (x == x ++ PySem.Str.ofString c) = false := by
  rw [beq_eq_false_iff_ne]
  intro e
  have := congrArg PySem.Str.length e
  rw [PySem.Str.length_append] at this
  omega
theorem str_snoc' (x : PySem.Str) (c : String) (h : 0 < (PySem.Str.ofString c).length) : (x ++ PySem.Str.ofString c == x) = false := by
  rw [beq_eq_false_iff_ne]
  intro e
  have := congrArg PySem.Str.length e
  rw [PySem.Str.length_append] at this
  omega
theorem str_x (x : PySem.Str) : (x == x ++ PySem.Str.ofString "x") = false := str_snoc x "x" (by decide +kernel)
theorem str_x' (x : PySem.Str) : (x ++ PySem.Str.ofString "x" == x) = false := str_snoc' x "x" (by decide +kernel)
theorem str_y (x : PySem.Str) : (x == x ++ PySem.Str.ofString "y") = false := str_snoc x "y" (by decide +kernel)
theorem str_y' (x : PySem.Str) : (x ++ PySem.Str.ofString "y" == x) = false := str_snoc' x "y" (by decide +kernel)
theorem int_succ (n : Int) : (n == n + 1) = false := by
  rw [beq_eq_false_iff_ne]; omega
end
section
variable {prog : Program} {w : World} {A : Around} {s : Shared} {a : Addr} {h₀ : Heap} {L : Addr} {news : List (Addr × Obj)} {o : Obj} {kvs : List (PySem.Str × Value)}
theorem eqW_none_dict (N : News h₀ L s.heap news) (ma : (a, o) ∈ news) (hd : o.IsDictOf (PySem.strKind prog w) kvs) (hu : A.units < cLine) : EqW prog w A s .none (.ref a) false :=
  EqW.of (eqAt_none_dict (Heap.DictOf.typeIs (knd := PySem.strKind prog w) (Heap.dictOf_iff.mpr ⟨o, N.get ma, hd⟩)) hu)
theorem eqW_dict_none (N : News h₀ L s.heap news) (ma : (a, o) ∈ news) (hd : o.IsDictOf (PySem.strKind prog w) kvs) (hu : A.units < cLine) : EqW prog w A s (.ref a) .none false :=
  EqW.of (eqAt_dict_none (Heap.DictOf.typeIs (knd := PySem.strKind prog w) (Heap.dictOf_iff.mpr ⟨o, N.get ma, hd⟩)) hu)
end
theorem fp_nil {kvs : List (PySem.Str × Value)} (h : FlatPairs PyData.str kvs []) : FlatPairs PyData.str kvs (kdpD []) := h
theorem fp_disp {kvs : List (PySem.Str × Value)} {k : PySem.Str} {v : Int} {t u : Tok} (h : FlatPairs PyData.str kvs (strData [(Value.str k t, Value.int v u)])) : FlatPairs PyData.str kvs (kdpD [(k, v)]) := h
theorem fp_kw {kvs : List (PySem.Str × Value)} {k : PySem.Str} {v : Int} (h : FlatPairs PyData.str kvs [(PyData.str k, PyData.int v)]) : FlatPairs PyData.str kvs (kdpD [(k, v)]) := h
def baseV (ob : Option PySem.Str) (t : Tok) : Value := match ob with | none => .none | some y => .str y t
section
variable {prog : Program} {w : World} {A : Around} {s : Shared}
theorem eqW_base (ob : Option PySem.Str) (t u : Tok) : EqW prog w A s (baseV ob t) (baseV ob u) true := by
  cases ob with
  | none => exact EqW.of (EqAt.same Value.none)
  | some y =>
    have h : EqW prog w A s (.str y t) (.str y u) (y == y) := EqW.of (EqAt.str_str _ _ _ _)
    rw [beq_self_eq_true] at h
    exact h
theorem eqW_base_str (ob : Option PySem.Str) (y : PySem.Str) (t u : Tok) : EqW prog w A s (baseV ob t) (.str y u) (ob == some y) := by
  cases ob with
  | none => exact EqW.of (EqAt.none_str _ _)
  | some z => exact EqW.of (EqAt.str_str _ _ _ _)
theorem base_y {ob : Option PySem.Str} {x : PySem.Str} (h : ob = none ∨ ob = some x) : (ob == some (x ++ PySem.Str.ofString "y")) = false := by
  rcases h with rfl | rfl
  · rfl
  · exact str_y x
end
end Mine

end
-- LW
section
open PySem PySem.Calls PySem.W PyProof.Rows
namespace Mine
abbrev Map := PySem.Str → Option Value
noncomputable def lawParts : Option (List Stmt × Scope) := match hd.view_1.main.body.getLast? with | some (.FunctionDef _ _ body _ _ _ sc _ _ _) => some (body, sc) | _ => none
noncomputable def lawAt (n : Nat) : Option Stmt := match lawParts with | some p => p.1[n]? | none => none
noncomputable def lawFrom (n : Nat) : List Stmt := match lawParts with | some p => p.1.drop n | none => []
noncomputable def lawScope : Option Scope := match hd.view_1.main.body.getLast? with | some (.FunctionDef _ _ _ _ _ _ sc _ _ _) => some sc | _ => none
abbrev looseN : List PySem.Str := [Str.ofString "Code", Str.ofString "Binary", Str.ofString "DatetimeMS", Str.ofString "DBRef", Str.ofString "InvalidDocument", Str.ofString "Int64", Str.ofString "MaxKey", Str.ofString "MinKey", Str.ofString "ObjectId", Str.ofString "Regex", Str.ofString "Timestamp"]
@[irreducible] def LRest (w : World) (n : Nat) (h₀ : Heap) (L : Addr) (m : Map) (news : Led) : Prop :=
  ∀ (sc : Scope), lawScope = some sc → ∀ (mean : ExcName → Option Value) (mg mb : PySem.Str → Option Value) (a : Addr) (cd : Value) (s : Shared) (K : Flow → Shared → Prop),
    Below callerA h₀ [] h₀ → Fr h₀ L s.heap m → (hd.heap_1 w.params).In h₀ → News h₀ L s.heap news → Top hd.view_1 (looseW hd.view_1 [Str.ofString "Code", Str.ofString "Binary", Str.ofString "DatetimeMS", Str.ofString "DBRef", Str.ofString "InvalidDocument", Str.ofString "Int64", Str.ofString "MaxKey", Str.ofString "MinKey", Str.ofString "ObjectId", Str.ofString "Regex", Str.ofString "Timestamp"]) mean mg mb h₀ →
    (∀ h' tk' m', Fr h₀ L h' m' → K (.ret (.bool true)) { s with heap := h', toks := tk' }) →
    wpAny (model PySem.Challenge.rw_jh0019_01.row.prog w) (callerA.deeper (envOfC (Str.ofString "law") sc L a cd)) (execs (lawFrom n) (envOfC (Str.ofString "law") sc L a cd)) K (fun _ _ => False) s
@[irreducible] def LRestP (w : World) (n : Nat) (h₀ : Heap) (L : Addr) (m : Map) (news : Led) : Prop :=
  ∀ (sc : Scope), lawScope = some sc → ∀ (mean : ExcName → Option Value) (mg mb : PySem.Str → Option Value) (a : Addr) (cd : Value) (s : Shared) (K : Flow → Shared → Prop),
    Below callerA h₀ [] h₀ → Fr h₀ L s.heap m → (hd.heap_1 w.params).In h₀ → News h₀ L s.heap news → Top hd.view_1 (looseW hd.view_1 [Str.ofString "Code", Str.ofString "Binary", Str.ofString "DatetimeMS", Str.ofString "DBRef", Str.ofString "InvalidDocument", Str.ofString "Int64", Str.ofString "MaxKey", Str.ofString "MinKey", Str.ofString "ObjectId", Str.ofString "Regex", Str.ofString "Timestamp"]) mean mg mb h₀ →
    (∀ h' tk' m', Fr h₀ L h' m' → K (.ret (.bool true)) { s with heap := h', toks := tk' }) →
    wpP (model PySem.Challenge.rw_jh0019_01.row.prog w) (callerA.deeper (envOfC (Str.ofString "law") sc L a cd)) (execs (lawFrom n) (envOfC (Str.ofString "law") sc L a cd)) K (fun _ _ => False) s
theorem LRest.toP {w : World} {n : Nat} {h₀ : Heap} {L : Addr} {m : Map} {news : Led} (h : LRest w n h₀ L m news) : LRestP w n h₀ L m news := by
  unfold LRest at h
  unfold LRestP
  exact fun sc hs mean mg mb a cd s K B F X N T hK => wpP_of (h sc hs mean mg mb a cd s K B F X N T hK)
theorem lawFrom_cons {n : Nat} {st : Stmt} (h : lawAt n = some st) : lawFrom n = st :: lawFrom (n + 1) := by
  unfold lawAt at h
  unfold lawFrom
  generalize lawParts = o at h ⊢
  cases o with
  | none => exact nomatch h
  | some p =>
    dsimp only at h ⊢
    have hlt : n < p.1.length := (List.getElem?_eq_some_iff.mp h).1
    rw [List.drop_eq_getElem_cons hlt]
    rw [List.getElem?_eq_getElem hlt] at h
    rw [Option.some.inj h]
def LStep (w : World) (n : Nat) (h₀ : Heap) (L : Addr) (m : Map) (news : Led) (st : Stmt) (sc : Scope) : Prop :=
  ∀ (mean : ExcName → Option Value) (mg mb : PySem.Str → Option Value) (a : Addr) (cd : Value) (s : Shared) (K : Flow → Shared → Prop),
    Below callerA h₀ [] h₀ → Fr h₀ L s.heap m → (hd.heap_1 w.params).In h₀ → News h₀ L s.heap news → Top hd.view_1 (looseW hd.view_1 [Str.ofString "Code", Str.ofString "Binary", Str.ofString "DatetimeMS", Str.ofString "DBRef", Str.ofString "InvalidDocument", Str.ofString "Int64", Str.ofString "MaxKey", Str.ofString "MinKey", Str.ofString "ObjectId", Str.ofString "Regex", Str.ofString "Timestamp"]) mean mg mb h₀ →
    (∀ h' tk' m' news', Fr h₀ L h' m' → News h₀ L h' news' → LRest w (n + 1) h₀ L m' news' → K .next { s with heap := h', toks := tk' }) →
    wpAny (model PySem.Challenge.rw_jh0019_01.row.prog w) (callerA.deeper (envOfC (Str.ofString "law") sc L a cd)) (exec st (envOfC (Str.ofString "law") sc L a cd)) K (fun _ _ => False) s
def LStepP (w : World) (n : Nat) (h₀ : Heap) (L : Addr) (m : Map) (news : Led) (st : Stmt) (sc : Scope) : Prop :=
  ∀ (mean : ExcName → Option Value) (mg mb : PySem.Str → Option Value) (a : Addr) (cd : Value) (s : Shared) (K : Flow → Shared → Prop),
    Below callerA h₀ [] h₀ → Fr h₀ L s.heap m → (hd.heap_1 w.params).In h₀ → News h₀ L s.heap news → Top hd.view_1 (looseW hd.view_1 [Str.ofString "Code", Str.ofString "Binary", Str.ofString "DatetimeMS", Str.ofString "DBRef", Str.ofString "InvalidDocument", Str.ofString "Int64", Str.ofString "MaxKey", Str.ofString "MinKey", Str.ofString "ObjectId", Str.ofString "Regex", Str.ofString "Timestamp"]) mean mg mb h₀ →
    (∀ h' tk' m' news', Fr h₀ L h' m' → News h₀ L h' news' → LRestP w (n + 1) h₀ L m' news' → K .next { s with heap := h', toks := tk' }) →
    wpP (model PySem.Challenge.rw_jh0019_01.row.prog w) (callerA.deeper (envOfC (Str.ofString "law") sc L a cd)) (exec st (envOfC (Str.ofString "law") sc L a cd)) K (fun _ _ => False) s
theorem LStep.rest {w : World} {n : Nat} {h₀ : Heap} {L : Addr} {m : Map} {news : Led} {st : Stmt} {sc : Scope} (e : lawAt n = some st) (es : lawScope = some sc) (H : LStep w n h₀ L m news st sc) : LRest w n h₀ L m news := by
  unfold LRest
  intro sc' hs mean mg mb a cd s K B F X N T hK
  have e1 : sc' = sc := Option.some.inj (hs.symm.trans es)
  subst e1
  rw [lawFrom_cons e, execs_cons]
  refine wpAny_bind ?_
  refine wpAny_mono (H mean mg mb a cd s (fun f s' => match f with | .next => wpAny (model PySem.Challenge.rw_jh0019_01.row.prog w) (callerA.deeper (envOfC (Str.ofString "law") sc' L a cd)) (execs (lawFrom (n + 1)) (envOfC (Str.ofString "law") sc' L a cd)) K (fun _ _ => False) s' | _ => False) B F X N T (fun h' tk' m' news' F' N' R => ?_)) (fun f s' h => ?_) fun _ _ x => x.elim
  · unfold LRest at R
    exact R sc' hs mean mg mb a cd { s with heap := h', toks := tk' } K B F' X N' T (fun h'' tk'' m'' F'' => hK h'' tk'' m'' F'')
  · cases f with
    | next => exact h
    | _ => exact h.elim
theorem LStepP.rest {w : World} {n : Nat} {h₀ : Heap} {L : Addr} {m : Map} {news : Led} {st : Stmt} {sc : Scope} (e : lawAt n = some st) (es : lawScope = some sc) (H : LStepP w n h₀ L m news st sc) : LRestP w n h₀ L m news := by
  unfold LRestP
  intro sc' hs mean mg mb a cd s K B F X N T hK
  have e1 : sc' = sc := Option.some.inj (hs.symm.trans es)
  subst e1
  rw [lawFrom_cons e, execs_cons]
  refine wpP_bind ?_
  refine wpP_mono (H mean mg mb a cd s (fun f s' => match f with | .next => wpP (model PySem.Challenge.rw_jh0019_01.row.prog w) (callerA.deeper (envOfC (Str.ofString "law") sc' L a cd)) (execs (lawFrom (n + 1)) (envOfC (Str.ofString "law") sc' L a cd)) K (fun _ _ => False) s' | _ => False) B F X N T (fun h' tk' m' news' F' N' R => ?_)) (fun f s' h => ?_) fun _ _ x => x.elim
  · unfold LRestP at R
    exact R sc' hs mean mg mb a cd { s with heap := h', toks := tk' } K B F' X N' T (fun h'' tk'' m'' F'' => hK h'' tk'' m'' F'')
  · cases f with
    | next => exact h
    | _ => exact h.elim
theorem LRest.last {w : World} {n : Nat} {h₀ : Heap} {L : Addr} {m : Map} {news : Led} {st : Stmt} {sc : Scope} (e : lawAt n = some st) (es : lawScope = some sc)
    (H : ∀ (mean : ExcName → Option Value) (mg mb : PySem.Str → Option Value) (a : Addr) (cd : Value) (s : Shared) (K : Flow → Shared → Prop),
      Below callerA h₀ [] h₀ → Fr h₀ L s.heap m → (hd.heap_1 w.params).In h₀ → News h₀ L s.heap news → Top hd.view_1 (looseW hd.view_1 [Str.ofString "Code", Str.ofString "Binary", Str.ofString "DatetimeMS", Str.ofString "DBRef", Str.ofString "InvalidDocument", Str.ofString "Int64", Str.ofString "MaxKey", Str.ofString "MinKey", Str.ofString "ObjectId", Str.ofString "Regex", Str.ofString "Timestamp"]) mean mg mb h₀ →
      (∀ h' tk' m', Fr h₀ L h' m' → K (.ret (.bool true)) { s with heap := h', toks := tk' }) →
      wpAny (model PySem.Challenge.rw_jh0019_01.row.prog w) (callerA.deeper (envOfC (Str.ofString "law") sc L a cd)) (exec st (envOfC (Str.ofString "law") sc L a cd)) K (fun _ _ => False) s) : LRest w n h₀ L m news := by
  unfold LRest
  intro sc' hs mean mg mb a cd s K B F X N T hK
  have e1 : sc' = sc := Option.some.inj (hs.symm.trans es)
  subst e1
  rw [lawFrom_cons e, execs_cons]
  refine wpAny_bind ?_
  refine wpAny_mono (H mean mg mb a cd s (fun f s' => match f with | .ret v => K (.ret v) s' | _ => False) B F X N T hK) (fun f s' h => ?_) fun _ _ x => x.elim
  cases f with
  | ret v => exact wpAny_pure h
  | _ => exact h.elim
end Mine

end
-- K0
section
open PySem PySem.W
namespace Mine
abbrev strK (w : World) := PySem.strKind PySem.Challenge.rw_jh0019_01.row.prog w
end Mine

end
-- LT
section
open PySem PySem.Calls PySem.W PyProof.Rows
theorem Mine.boot_ba : bootBuiltins (Str.ofString "bytearray") = some (.type "bytearray") := by decide +kernel
theorem Mine.comp_end {h₀ : Heap} {L I C D : Addr} {m : PySem.Str → Option Value} {s₁ : Shared} {oI oC oD : Obj} {S : List (Addr × Obj) → Prop} {rest : Value → List (Addr × Obj) → Prop} {y : Value} {h' : Heap} {tk : Nat} {news' : List (Addr × Obj)}
    (F : Fr h₀ L h' m) (N : News h₀ L h' ((I, oI) :: (C, oC) :: (D, oD) :: news')) (off : LCg.Off3 I C D news') (hS : S news') (r : rest y news') : LCg.CompEnd h₀ L m s₁ I oI C oC D oD S rest y { s₁ with heap := h', toks := tk } := LCg.CompEnd.intro F N news' (fun _ h => h) off hS r
theorem Mine.ite_isEmpty {α : Type} {a : α} {l : List α} {P Q : Prop} {inst : Decidable ((a :: l).isEmpty = true)} (h : Q) : @ite Prop ((a :: l).isEmpty = true) inst P Q := by rw [if_neg (show ¬ ((a :: l).isEmpty = true) from Bool.false_ne_true)]; exact h
theorem Mine.small_size {n : Nat} (h : n ≤ 1000) : n ≤ sizeLine := by rw [sizeLine_eq]; omega
end
open PySem PySem.Calls PySem.W PyProof.Rows PyProof.V PySem.Spec in
set_option compiler.extract_closed false in
local macro_rules | `(tactic| walk_at "eval Name") => `(tactic| (k_here; first | k_dflt (refine' nameX_K ?F ?X ?T ?e ?_ ?a ?b; (case F | X | T => k_asm); (case e => k_is); (case a => exact rfl); (case b => kernel_rfl); k_whole) | k_dflt (refine' nameX_B ?F ?X ?T ?e ?v ?n ?_ ?a ?b; (case F | X | T => k_asm); (case e => k_is); (case a => exact rfl); (case b => kernel_rfl); (case v => boot_fast); (case n => decide); k_whole) | k_dflt (refine' nameX_L ?F ?v ?_ ?a ?b; (case F => k_asm); (case v => first | with_reducible assumption | exact rfl | assumption); (case a => exact rfl); (case b => kernel_rfl); k_whole)))

-- K1
section
open PySem PySem.Calls PySem.W PyProof.Rows PyProof.V PySem.Spec
namespace Mine
def Stop (P : Prop) : Prop := P
theorem stop_of {P : Prop} (h : Stop P) : P := h
section
variable {prog : Program} {w : World} {A : Around} {E : Value → Shared → Prop} {s : Shared} {env : Env} {h₀ : Heap} {x : PySem.Str} {body : List Stmt} {Q : Flow → Shared → Prop}
theorem iter_keys {d : Addr} {o : Obj} {kvs : List (PySem.Str × Value)} {c : List (PySem.Str × Int)} {m₀ : Map} {news : Led} (J : Nat → Map → Led → Prop)
    (hh : A.handled = none) (lo : (d == sysModules) = false) (hd : o.IsDictOf (PySem.strKind prog w) kvs) (hf : FlatPairs PyData.str kvs (kdpD c)) (F : Fr h₀ env.locals s.heap m₀) (N : News h₀ env.locals s.heap news)
    (hJd : ∀ i m n, J i m n → (d, o) ∈ n) (hj : J 0 m₀ news)
    (turn : ∀ i k v t m₁ n₁ h tk I oI, c[i]? = some (k, v) → J i m₁ n₁ → (∀ p ∈ n₁, p.1 ≠ I) → Fr h₀ env.locals h (fun y => if y = x then some (.str k t) else m₁ y) → News h₀ env.locals h ((I, oI) :: n₁) →
      wpAny (model prog w) A (execs body env) (fun f s₂ => f = .next ∧ ∃ h' tk' m₂ n₂, s₂ = { s with heap := h', toks := tk' } ∧ Fr h₀ env.locals h' m₂ ∧ News h₀ env.locals h' ((I, oI) :: n₂) ∧ (∀ p ∈ n₂, p.1 ≠ I) ∧ J (i + 1) m₂ n₂) E { s with heap := h, toks := tk })
    (done : ∀ m₁ n₁ h tk, J c.length m₁ n₁ → Fr h₀ env.locals h m₁ → News h₀ env.locals h n₁ → Q .next { s with heap := h, toks := tk }) :
    wpAny (model prog w) A (pyIter (.ref d)) (fun it s₂ => LoopAtV prog w A h₀ env x body Q E it s₂) E s := by
  have hm := hJd _ _ _ hj
  obtain ⟨ep, hk⟩ := KdkAt.of hd
  have hat := hk.dictAt (N _ hm).1
  refine wpAny_pyIter_dict lo hat ?_
  have hne : d ≠ s.heap.objs.size := Nat.ne_of_lt hat.lt_size
  have hlen : kvs.length = c.length := by rw [← kdpD_length c, ← hf.length]
  refine ⟨s.heap.objs.size, [s.heap.objs.size, d], [s.heap.objs.size], kvs.length, _, _, m₀, news, J, rfl, Walks.dictKeys (knd := PySem.strKind prog w) hh _ d hne kvs ep, ?_, ?_, ?_,
    ⟨⟨_, Heap.get?_push_size _ rfl, rfl, rfl⟩, hat.push _⟩, F.push _, fun p hp => ⟨Heap.get?_push_of_some _ (N p hp).1, (N p hp).2⟩, hj, ?_, ?_⟩
  · intro hq
    rcases List.mem_cons.mp hq with e | hq
    · exact absurd F.ns.lt (e ▸ Nat.lt_irrefl _)
    · exact (N _ hm).2.1 (List.mem_singleton.mp hq).symm
  · intro b hb
    rw [List.mem_singleton.mp hb]
    exact next_is_new F
  · intro p hp hI
    exact absurd (Heap.lt_size (N p hp).1) ((List.mem_singleton.mp hI) ▸ Nat.lt_irrefl _)
  · rintro i v m₁ n₁ s₁ own ⟨h1, tk1, rfl⟩ hi ⟨k, xv, hx, hkey⟩ hJ hoff hown hownat hall hSt F₁ N₁
    obtain ⟨t, rfl⟩ := Value.isStrOf_shape hkey
    obtain ⟨dv, hD, _⟩ := hf.at hx
    obtain ⟨vi, hc⟩ : ∃ vi, c[i]? = some (k, vi) := by
      unfold kdpD at hD
      rw [List.getElem?_map] at hD
      cases hci : c[i]? with
      | none => rw [hci] at hD; cases hD
      | some p =>
        rw [hci] at hD
        obtain ⟨a, b⟩ := p
        have h := congrArg Prod.fst (Option.some.inj hD)
        injection h with h
        subst h
        exact ⟨b, rfl⟩
    obtain ⟨⟨oI, hoI, _⟩, _⟩ := hSt
    have hIn : (s.heap.objs.size, oI) ∈ own := hall _ (.head _) (next_is_new F) oI hoI
    have N₂ : News h₀ env.locals h1 ((s.heap.objs.size, oI) :: n₁) := fun p hp => by
      rcases List.mem_cons.mp hp with rfl | hp
      · exact N₁ _ (List.mem_append_left _ hIn)
      · exact N₁ _ (List.mem_append_right _ hp)
    refine wpAny_mono (turn i k vi t m₁ n₁ h1 tk1 _ oI hc hJ (fun p hp e => hoff p hp (by rw [e]; exact .head _)) F₁ N₂) (fun f s₂ hq => ?_) fun _ _ e => e
    obtain ⟨rfl, h2, tk2, m₂, n₂, rfl, F₂, N₃, hne2, hJ2⟩ := hq
    refine LoopStepV.next ⟨rfl, h2, tk2, m₂, n₂, rfl, F₂, fun p hp => ?_, fun p hp hI => hne2 p hp (List.mem_singleton.mp hI), hJ2⟩
    rcases List.mem_append.mp hp with hp | hp
    · have hp1 := hown p hp
      have hp2 := hownat p hp
      rcases List.mem_cons.mp hp1 with e | hp1
      · have : p = (s.heap.objs.size, oI) := by
          obtain ⟨a, b⟩ := p
          simp only at e hp2
          subst e
          have h3 : h1.get? s.heap.objs.size = some b := hp2
          have h4 : h1.get? s.heap.objs.size = some oI := hoI
          rw [h4] at h3
          rw [Option.some.inj h3]
        rw [this]
        exact N₃ _ (.head _)
      · have e := List.mem_singleton.mp hp1
        have : p = (d, o) := by
          obtain ⟨a, b⟩ := p
          simp only at e hp2
          subst e
          have h3 : h1.get? a = some b := hp2
          have h4 : h1.get? a = some o := (N₂ _ (.tail _ (hJd _ _ _ hJ))).1
          rw [h4] at h3
          rw [Option.some.inj h3]
        rw [this]
        exact N₃ _ (.tail _ (hJd _ _ _ hJ2))
    · exact N₃ _ (.tail _ hp)
  · intro h2 tk2 m₂ n₂ F₂ N₂ _ hJ2
    rw [hlen] at hJ2
    exact done m₂ n₂ h2 tk2 hJ2 F₂ N₂
end
def putAll (c : List (PySem.Str × Int)) (l : List (PySem.Str × Int)) : List (PySem.Str × Int) := l.foldl (fun a p => kdpPut a p.1 p.2) c
theorem putAll_snoc {c l : List (PySem.Str × Int)} {i : Nat} {k : PySem.Str} {v : Int} (h : l[i]? = some (k, v)) : putAll c (l.take (i + 1)) = kdpPut (putAll c (l.take i)) k v := by
  unfold putAll
  rw [List.take_add_one, h]
  simp
theorem look_of {c : List (PySem.Str × Int)} (hn : (c.map (·.1)).Nodup) {i : Nat} {k : PySem.Str} {v : Int} (h : c[i]? = some (k, v)) : kdpHas c k = true ∧ kdpLook c k 0 = v := by
  induction c generalizing i with
  | nil => cases h
  | cons p c ih =>
    rw [List.map_cons, List.nodup_cons] at hn
    cases i with
    | zero =>
      have e : p = (k, v) := Option.some.inj h
      subst e
      unfold kdpHas kdpLook
      simp
    | succ i =>
      have h' : c[i]? = some (k, v) := h
      obtain ⟨h1, h2⟩ := ih hn.2 h'
      have hne : ¬ p.1 = k := fun e => hn.1 (e ▸ List.mem_map_of_mem (f := (·.1)) (List.mem_of_getElem? h'))
      unfold kdpHas kdpLook at *
      simp [hne, h1, h2]
theorem nodup_of {w : World} {o : Obj} {kvs : List (PySem.Str × Value)} {c : List (PySem.Str × Int)} (hd : o.IsDictOf (strK w) kvs) (hf : FlatPairs PyData.str kvs (kdpD c)) : (c.map (·.1)).Nodup := by
  obtain ⟨ep, es, _, _, _, _, hn⟩ := KdkAt.of hd
  have e : kvs.map (·.1) = c.map (·.1) := by
    clear hn hd
    have : ∀ {kvs : List (PySem.Str × Value)} {D : List (PyData × PyData)}, FlatPairs PyData.str kvs D → ∀ c, D = kdpD c → kvs.map (·.1) = c.map (·.1) := by
      intro kvs D hf
      induction hf with
      | nil => intro c e; cases c with
        | nil => rfl
        | cons => cases e
      | cons _ _ ih =>
        intro c e
        cases c with
        | nil => cases e
        | cons p c =>
          injection e with e1 e2
          injection e1 with e1 _
          injection e1 with e1
          simp only [List.map_cons, ih c e2, e1]
    exact this hf c rfl
  rw [← e]; exact hn
theorem putAll_len (l : List (PySem.Str × Int)) : ∀ c : List (PySem.Str × Int), (putAll c l).length ≤ c.length + l.length := by
  induction l with
  | nil => intro c; exact Nat.le_refl _
  | cons p l ih =>
    intro c
    have h1 := ih (kdpPut c p.1 p.2)
    have h2 := kdpPut_len c p.1 p.2
    have e : putAll c (p :: l) = putAll (kdpPut c p.1 p.2) l := rfl
    rw [e]
    simp only [List.length_cons]
    omega
theorem putAll_nil {c : List (PySem.Str × Int)} (hn : (c.map (·.1)).Nodup) : putAll [] c = c := by
  have : ∀ l a : List (PySem.Str × Int), ((a ++ l).map (·.1)).Nodup → putAll a l = a ++ l := by
    intro l
    induction l with
    | nil => intro a _; simp [putAll]
    | cons p l ih =>
      intro a hn
      have e : putAll a (p :: l) = putAll (kdpPut a p.1 p.2) l := rfl
      have hp : kdpPut a p.1 p.2 = a ++ [p] := by
        unfold kdpPut
        rw [if_neg]
        intro h
        obtain ⟨q, hq, hqe⟩ := List.any_eq_true.mp h
        rw [List.map_append, List.map_cons, List.nodup_append] at hn
        exact hn.2.2 q.1 (List.mem_map_of_mem hq) p.1 (.head _) (of_decide_eq_true hqe)
      rw [e, hp, ih]
      · simp
      · simpa using hn
  simpa using this c [] (by simpa using hn)
end Mine
namespace Mine
section
variable {h₀ h : Heap} {L : Addr} {news : Led} {pa pb pc : Addr × Obj} {d x : Addr}
theorem news_pick1 (N : News h₀ L h news) (ha : pa ∈ news) : News h₀ L h (pa :: news) := fun p hp => by
  rcases List.mem_cons.mp hp with rfl | hp
  · exact N _ ha
  · exact N p hp
theorem news_pick2 (N : News h₀ L h news) (ha : pa ∈ news) (hb : pb ∈ news) : News h₀ L h (pa :: pb :: news) := news_pick1 (news_pick1 N hb) (.tail _ ha)
theorem news_unpick2 (N : News h₀ L h (pc :: pa :: pb :: news)) : News h₀ L h (pc :: news) := fun p hp => by
  rcases List.mem_cons.mp hp with rfl | hp
  · exact N _ (.head _)
  · exact N p (.tail _ (.tail _ (.tail _ hp)))
theorem news_unpick12 (N : News h₀ L h (pc :: pa :: pb :: news)) : News h₀ L h (pc :: pa :: news) := fun p hp => by
  rcases List.mem_cons.mp hp with rfl | hp
  · exact N _ (.head _)
  rcases List.mem_cons.mp hp with rfl | hp
  · exact N _ (.tail _ (.head _))
  · exact N p (.tail _ (.tail _ (.tail _ hp)))
theorem lt_unpick1 (l : ∀ p ∈ pa :: news, p.1 < d) : ∀ p ∈ news, p.1 < d := fun p hp => l p (.tail _ hp)
theorem lt_unpick2 (l : ∀ p ∈ pa :: pb :: news, p.1 < d) : ∀ p ∈ news, p.1 < d := fun p hp => l p (.tail _ (.tail _ hp))
end
theorem merge_kdp (c c₂ : List (PySem.Str × Int)) : ktMergeD (kdpD c) (kdpD c₂) = kdpD (putAll c c₂) := by
  unfold ktMergeD putAll
  induction c₂ generalizing c with
  | nil => rfl
  | cons p l ih =>
    show List.foldl _ (putD (PyData.str p.1) (PyData.int p.2) (kdpD c)) (kdpD l) = _
    rw [kdpD_put]
    exact ih _
end Mine

end
-- U1
section
open PySem PySem.Calls PySem.W PyProof.Rows PyProof.V PySem.Spec
namespace Mine
def UPost (h₀ : Heap) (L : Addr) (s : Shared) (own : Led) (J : Map → Led → Prop) (f : Flow) (s₂ : Shared) : Prop :=
  f = .next ∧ ∃ (h' : Heap) (tk' : Nat) (m₂ : Map) (n₂ : Led), s₂ = { s with heap := h', toks := tk' } ∧ Fr h₀ L h' m₂ ∧ News h₀ L h' (own ++ n₂) ∧ J m₂ n₂
section
variable {prog : Program} {w : World} {A : Around} {E : Value → Shared → Prop} {s : Shared} {env : Env} {h₀ : Heap} {target : PySem.Expr} {body : List Stmt} {Q : Flow → Shared → Prop}
theorem unr_inv {items : List Value} {fp : List Addr} (J : Nat → Map → Led → Prop)
    (turn : ∀ i v m₁ n₁ h tk own, items[i]? = some v → J i m₁ n₁ → Fr h₀ env.locals h m₁ → News h₀ env.locals h (own ++ n₁) → (∀ p ∈ own, p.1 ∈ fp) →
      wpAny (model prog w) A (assign target env v) (fun _ s₂ => wpAny (model prog w) A (execs body env) (LoopStep3 h₀ env.locals own n₁ (J (i + 1)) { s with heap := h, toks := tk } (fun v s' => Q (.ret v) s') fun s' => Q .next s') E s₂) E { s with heap := h, toks := tk })
    (done : ∀ m₁ n₁ h tk, J items.length m₁ n₁ → Fr h₀ env.locals h m₁ → News h₀ env.locals h n₁ → Q .next { s with heap := h, toks := tk }) :
    ∀ (k i : Nat) (m₁ : Map) (n₁ : Led), i + k = items.length → J i m₁ n₁ → Unr prog w A E h₀ env target body Q (fun i v => items.toArray[i]? = some v) fp s k i m₁ n₁ := by
  intro k
  induction k with
  | zero =>
    intro i m₁ n₁ e hJ
    refine Unr.zero fun h' tk F N => ?_
    have e' : i = items.length := by omega
    subst e'
    exact done m₁ n₁ h' tk hJ F N
  | succ k ih =>
    intro i m₁ n₁ e hJ
    refine Unr.succ fun v h₁ tk₁ own hP hown F N => ?_
    refine wpAny_mono (turn i v m₁ n₁ h₁ tk₁ own (by simpa using hP) hJ F N hown) (fun _ s₂ h₂ => wpAny_mono h₂ (fun f s₃ h₃ => ?_) fun _ _ x => x) fun _ _ x => x
    cases f with
    | ret v => exact h₃
    | brk => exact h₃
    | cont =>
      obtain ⟨e0, h₃', tk₃, m₂, news₂, e1, F₃, N₃, ha₃, hJ₃⟩ := h₃
      exact ⟨e0, h₃', tk₃, m₂, news₂, e1, F₃, N₃, ha₃, ih (i + 1) m₂ news₂ (by omega) hJ₃⟩
    | next =>
      obtain ⟨e0, h₃', tk₃, m₂, news₂, e1, F₃, N₃, ha₃, hJ₃⟩ := h₃
      exact ⟨e0, h₃', tk₃, m₂, news₂, e1, F₃, N₃, ha₃, ih (i + 1) m₂ news₂ (by omega) hJ₃⟩
end
theorem News.ne_locals {h₀ h : Heap} {L a : Addr} {o : Obj} {news : Led} (N : News h₀ L h news) (hm : (a, o) ∈ news) : a ≠ L := (N _ hm).2.1
theorem loadName_L {M : Model} {A : Around} {E : Value → Shared → Prop} {s : Shared} {h₀ : Heap} {L : Addr} {m : Map} {cn : PySem.Str} {cs : Scope} {a : Addr} {ccd : Value} {cl : List (PySem.Str × Addr)} {x : PySem.Str} {v : Value} {Q : Value → Shared → Prop} (F : Fr h₀ L s.heap m) (hv : m x = some v) (h : Q v s) (hk : cs.kind = .function) (hx : (envX cn cs L a ccd cl).kindOf x = some .local) :
    wpAny M A (loadName (envX cn cs L a ccd cl) x) Q E s := wpAny_loadName_local hk hx F.ns hv h
def hasL (x : PySem.Str) (l : String) : Bool := !(Builtin.Str.occurrences x (Str.ofString l) 0 x.length 1).isEmpty
def bitsL : List (String × Int) := [("i", 2), ("l", 4), ("m", 8), ("s", 16), ("u", 32), ("x", 64)]
def flagsTo (x : PySem.Str) (i : Nat) : Int := (bitsL.take i).foldl (fun g p => g + if hasL x p.1 then p.2 else 0) 0
theorem flag_no {x : PySem.Str} {l : String} {b g : Int} (h : (Builtin.Str.occurrences x (Str.ofString l) 0 x.length 1).isEmpty = true) : (g + if hasL x l then b else 0) = g := by
  unfold hasL; rw [h]; simp
theorem flag_yes {x : PySem.Str} {l : String} {b g : Int} (h : (Builtin.Str.occurrences x (Str.ofString l) 0 x.length 1).isEmpty = false) : (g + if hasL x l then b else 0) = g + b := by
  unfold hasL; rw [h]; simp
def LJ (led : Led) (Dn : Addr) (n_ : Int) (tn : Tok) (row : Array UInt8) (tr : Tok) (d1 : Addr) (tx lx : PySem.Str) (tt lt : Tok) (i : Nat) (m : Map) (n : Led) : Prop :=
  n = led ∧ m (Str.ofString "numbers") = some (.ref Dn) ∧ m (Str.ofString "n") = some (.int n_ tn) ∧ m (Str.ofString "row") = some (.bytes row tr) ∧ m (Str.ofString "one") = some (.ref d1) ∧ m (Str.ofString "text") = some (.str tx tt) ∧ m (Str.ofString "letters") = some (.str lx lt) ∧
  ∃ gt, m (Str.ofString "flags") = some (.int (flagsTo lx i) gt)
end Mine

end
-- LPre
section
open PySem PySem.Calls PySem.W PyProof.Rows PyProof.V PySem.Spec
namespace Mine
def Pre1 (w : World) : Prop := ∀ (h₀ : Heap) (L : Addr) (o1 o2 : Obj) (m : Map) (Dn : Addr) (yn : List Value) (nn : List Int) (cc : Nat), o1.data = Data.cell none → o2.data = Data.cell none → IntsAre yn nn → 1 ≤ nn.length → nn.length ≤ 16 → (@Ne Nat Dn (L + 1 + 1) ∧ @Ne Nat Dn (L + 1)) → m (Str.ofString "numbers") = some (.ref Dn) → LRestP w 1 h₀ L m [(Dn, W.listOf yn.toArray cc), (L + 1 + 1, o1), (L + 1, o2)]
def Pre2 (w : World) : Prop := ∀ (h₀ : Heap) (L : Addr) (o1 o2 : Obj) (m : Map) (Dn : Addr) (yn : List Value) (nn : List Int) (cc : Nat) (n_ m_ : Int) (tn tm : Tok), o1.data = Data.cell none → o2.data = Data.cell none → IntsAre yn nn → 1 ≤ nn.length → nn.length ≤ 16 → (@Ne Nat Dn (L + 1 + 1) ∧ @Ne Nat Dn (L + 1)) → m (Str.ofString "numbers") = some (.ref Dn) → m (Str.ofString "m") = some (.int m_ tm) → m (Str.ofString "n") = some (.int n_ tn) → LRestP w 2 h₀ L m [(Dn, W.listOf yn.toArray cc), (L + 1 + 1, o1), (L + 1, o2)]
def Pre3 (w : World) : Prop := ∀ (h₀ : Heap) (L : Addr) (o1 o2 : Obj) (m : Map) (Dn : Addr) (yn : List Value) (nn : List Int) (cc : Nat) (n_ m_ : Int) (tn tm : Tok) (row : Array UInt8) (tr : Tok), o1.data = Data.cell none → o2.data = Data.cell none → IntsAre yn nn → 1 ≤ nn.length → nn.length ≤ 16 → (@Ne Nat Dn (L + 1 + 1) ∧ @Ne Nat Dn (L + 1)) → row.size ≤ 16 → m (Str.ofString "numbers") = some (.ref Dn) → m (Str.ofString "m") = some (.int m_ tm) → m (Str.ofString "n") = some (.int n_ tn) → m (Str.ofString "row") = some (.bytes row tr) → LRestP w 3 h₀ L m [(Dn, W.listOf yn.toArray cc), (L + 1 + 1, o1), (L + 1, o2)]
def Pre4 (w : World) : Prop := ∀ (h₀ : Heap) (L : Addr) (o1 o2 : Obj) (m : Map) (Dn : Addr) (yn : List Value) (nn : List Int) (cc : Nat) (n_ m_ : Int) (tn tm : Tok) (row : Array UInt8) (tr : Tok) (kk : Int) (tkk : Tok), o1.data = Data.cell none → o2.data = Data.cell none → IntsAre yn nn → 1 ≤ nn.length → nn.length ≤ 16 → (@Ne Nat Dn (L + 1 + 1) ∧ @Ne Nat Dn (L + 1)) → row.size ≤ 16 → m (Str.ofString "numbers") = some (.ref Dn) → m (Str.ofString "m") = some (.int m_ tm) → m (Str.ofString "n") = some (.int n_ tn) → m (Str.ofString "row") = some (.bytes row tr) → m (Str.ofString "subtype") = some (.int kk tkk) → LRestP w 4 h₀ L m [(Dn, W.listOf yn.toArray cc), (L + 1 + 1, o1), (L + 1, o2)]
def Pre5 (w : World) : Prop := ∀ (h₀ : Heap) (L : Addr) (o1 o2 : Obj) (m : Map) (Dn : Addr) (yn : List Value) (nn : List Int) (cc : Nat) (n_ m_ : Int) (tn tm : Tok) (row : Array UInt8) (tr : Tok), o1.data = Data.cell none → o2.data = Data.cell none → IntsAre yn nn → 1 ≤ nn.length → nn.length ≤ 16 → (@Ne Nat Dn (L + 1 + 1) ∧ @Ne Nat Dn (L + 1)) → row.size ≤ 16 → m (Str.ofString "numbers") = some (.ref Dn) → m (Str.ofString "m") = some (.int m_ tm) → m (Str.ofString "n") = some (.int n_ tn) → m (Str.ofString "row") = some (.bytes row tr) → LRest w 5 h₀ L m [(Dn, W.listOf yn.toArray cc), (L + 1 + 1, o1), (L + 1, o2)]
def Pre6 (w : World) : Prop := ∀ (h₀ : Heap) (L : Addr) (o1 o2 : Obj) (m : Map) (Dn : Addr) (yn : List Value) (nn : List Int) (cc : Nat) (n_ m_ : Int) (tn tm : Tok) (row : Array UInt8) (tr : Tok), o1.data = Data.cell none → o2.data = Data.cell none → IntsAre yn nn → 1 ≤ nn.length → nn.length ≤ 16 → (@Ne Nat Dn (L + 1 + 1) ∧ @Ne Nat Dn (L + 1)) → row.size ≤ 16 → m (Str.ofString "numbers") = some (.ref Dn) → m (Str.ofString "m") = some (.int m_ tm) → m (Str.ofString "n") = some (.int n_ tn) → m (Str.ofString "row") = some (.bytes row tr) → LRest w 6 h₀ L m [(Dn, W.listOf yn.toArray cc), (L + 1 + 1, o1), (L + 1, o2)]
def Pre7 (w : World) : Prop := ∀ (h₀ : Heap) (L : Addr) (o1 o2 : Obj) (m : Map) (Dn : Addr) (yn : List Value) (nn : List Int) (cc : Nat) (n_ m_ : Int) (tn tm : Tok) (row : Array UInt8) (tr : Tok) (vv : Int) (tv : Tok), o1.data = Data.cell none → o2.data = Data.cell none → IntsAre yn nn → 1 ≤ nn.length → nn.length ≤ 16 → (@Ne Nat Dn (L + 1 + 1) ∧ @Ne Nat Dn (L + 1)) → row.size ≤ 16 → m (Str.ofString "numbers") = some (.ref Dn) → m (Str.ofString "m") = some (.int m_ tm) → m (Str.ofString "n") = some (.int n_ tn) → m (Str.ofString "row") = some (.bytes row tr) → m (Str.ofString "whole") = some (.int vv tv) → LRest w 7 h₀ L m [(Dn, W.listOf yn.toArray cc), (L + 1 + 1, o1), (L + 1, o2)]
def Pre8 (w : World) : Prop := ∀ (h₀ : Heap) (L : Addr) (o1 o2 : Obj) (m : Map) (Dn : Addr) (yn : List Value) (nn : List Int) (cc : Nat) (n_ m_ : Int) (tn tm : Tok) (row : Array UInt8) (tr : Tok), o1.data = Data.cell none → o2.data = Data.cell none → IntsAre yn nn → 1 ≤ nn.length → nn.length ≤ 16 → (@Ne Nat Dn (L + 1 + 1) ∧ @Ne Nat Dn (L + 1)) → row.size ≤ 16 → m (Str.ofString "numbers") = some (.ref Dn) → m (Str.ofString "m") = some (.int m_ tm) → m (Str.ofString "n") = some (.int n_ tn) → m (Str.ofString "row") = some (.bytes row tr) → LRest w 8 h₀ L m [(Dn, W.listOf yn.toArray cc), (L + 1 + 1, o1), (L + 1, o2)]
def Pre9 (w : World) : Prop := ∀ (h₀ : Heap) (L : Addr) (o1 o2 : Obj) (m : Map) (Dn : Addr) (yn : List Value) (nn : List Int) (cc : Nat) (n_ m_ : Int) (tn tm : Tok) (row : Array UInt8) (tr : Tok) (d1 : Addr) (od1 : Obj) (kv1 : List (PySem.Str × Value)) (c1 : List (PySem.Str × Int)) (d2 : Addr) (od2 : Obj) (kv2 : List (PySem.Str × Value)) (c2 : List (PySem.Str × Int)), o1.data = Data.cell none → o2.data = Data.cell none → IntsAre yn nn → 1 ≤ nn.length → nn.length ≤ 16 → (@Ne Nat Dn (L + 1 + 1) ∧ @Ne Nat Dn (L + 1)) → row.size ≤ 16 → (@LT.lt Nat _ Dn d1 ∧ @LT.lt Nat _ (L + 1 + 1) d1) → @LT.lt Nat _ d1 d2 → (d1 == sysModules) = false → od1.IsDictOf (strK w) kv1 → FlatPairs PyData.str kv1 (kdpD c1) → (d2 == sysModules) = false → od2.IsDictOf (strK w) kv2 → FlatPairs PyData.str kv2 (kdpD c2) → c1.length ≤ 4 → 1 ≤ c1.length → kdpHas c1 (Str.ofString "z") = false → c2.length ≤ 4 → m (Str.ofString "numbers") = some (.ref Dn) → m (Str.ofString "m") = some (.int m_ tm) → m (Str.ofString "n") = some (.int n_ tn) → m (Str.ofString "row") = some (.bytes row tr) → m (Str.ofString "one") = some (.ref d1) → m (Str.ofString "two") = some (.ref d2) → LRest w 9 h₀ L m [(d2, od2), (d1, od1), (Dn, W.listOf yn.toArray cc), (L + 1 + 1, o1), (L + 1, o2)]
def Pre10 (w : World) : Prop := ∀ (h₀ : Heap) (L : Addr) (o1 o2 : Obj) (m : Map) (Dn : Addr) (yn : List Value) (nn : List Int) (cc : Nat) (n_ m_ : Int) (tn tm : Tok) (row : Array UInt8) (tr : Tok) (d1 : Addr) (od1 : Obj) (kv1 : List (PySem.Str × Value)) (c1 : List (PySem.Str × Int)) (d2 : Addr) (od2 : Obj) (kv2 : List (PySem.Str × Value)) (c2 : List (PySem.Str × Int)) (tx : PySem.Str) (tt : Tok), o1.data = Data.cell none → o2.data = Data.cell none → IntsAre yn nn → 1 ≤ nn.length → nn.length ≤ 16 → (@Ne Nat Dn (L + 1 + 1) ∧ @Ne Nat Dn (L + 1)) → row.size ≤ 16 → (@LT.lt Nat _ Dn d1 ∧ @LT.lt Nat _ (L + 1 + 1) d1) → @LT.lt Nat _ d1 d2 → (d1 == sysModules) = false → od1.IsDictOf (strK w) kv1 → FlatPairs PyData.str kv1 (kdpD c1) → (d2 == sysModules) = false → od2.IsDictOf (strK w) kv2 → FlatPairs PyData.str kv2 (kdpD c2) → c1.length ≤ 4 → 1 ≤ c1.length → kdpHas c1 (Str.ofString "z") = false → c2.length ≤ 4 → tx.length ≤ 16 → m (Str.ofString "numbers") = some (.ref Dn) → m (Str.ofString "m") = some (.int m_ tm) → m (Str.ofString "n") = some (.int n_ tn) → m (Str.ofString "row") = some (.bytes row tr) → m (Str.ofString "one") = some (.ref d1) → m (Str.ofString "two") = some (.ref d2) → m (Str.ofString "text") = some (.str tx tt) → LRest w 10 h₀ L m [(d2, od2), (d1, od1), (Dn, W.listOf yn.toArray cc), (L + 1 + 1, o1), (L + 1, o2)]
def Pre11 (w : World) : Prop := ∀ (h₀ : Heap) (L : Addr) (o1 o2 : Obj) (m : Map) (Dn : Addr) (yn : List Value) (nn : List Int) (cc : Nat) (n_ m_ : Int) (tn tm : Tok) (row : Array UInt8) (tr : Tok) (d1 : Addr) (od1 : Obj) (kv1 : List (PySem.Str × Value)) (c1 : List (PySem.Str × Int)) (d2 : Addr) (od2 : Obj) (kv2 : List (PySem.Str × Value)) (c2 : List (PySem.Str × Int)) (tx : PySem.Str) (tt : Tok) (fx fd : Addr) (ft1 ft2 ft3 : Tok) (d3 : Addr) (od3 : Obj) (kv3 : List (PySem.Str × Value)), o1.data = Data.cell none → o2.data = Data.cell none → IntsAre yn nn → 1 ≤ nn.length → nn.length ≤ 16 → (@Ne Nat Dn (L + 1 + 1) ∧ @Ne Nat Dn (L + 1)) → row.size ≤ 16 → (@LT.lt Nat _ Dn d1 ∧ @LT.lt Nat _ (L + 1 + 1) d1) → @LT.lt Nat _ d1 d2 → (d1 == sysModules) = false → od1.IsDictOf (strK w) kv1 → FlatPairs PyData.str kv1 (kdpD c1) → (d2 == sysModules) = false → od2.IsDictOf (strK w) kv2 → FlatPairs PyData.str kv2 (kdpD c2) → c1.length ≤ 4 → 1 ≤ c1.length → kdpHas c1 (Str.ofString "z") = false → c2.length ≤ 4 → tx.length ≤ 16 → @LT.lt Nat _ d2 d3 → @LT.lt Nat _ d3 fd → @LT.lt Nat _ fd fx → (d3 == sysModules) = false → od3.IsDictOf (strK w) kv3 → FlatPairs PyData.str kv3 (kdpD c1) → m (Str.ofString "numbers") = some (.ref Dn) → m (Str.ofString "m") = some (.int m_ tm) → m (Str.ofString "n") = some (.int n_ tn) → m (Str.ofString "row") = some (.bytes row tr) → m (Str.ofString "one") = some (.ref d1) → m (Str.ofString "two") = some (.ref d2) → m (Str.ofString "text") = some (.str tx tt) → m (Str.ofString "first") = some (.ref fx) → LRest w 11 h₀ L m [(fx, instObj 61 fd), (fd, dictOf [⟨PyData.keyHash w.params (Str.ofString "text"), .str (Str.ofString "text") ft2, .str tx ft1⟩, ⟨PyData.keyHash w.params (Str.ofString "_scope"), .str (Str.ofString "_scope") ft3, .ref d3⟩] 2), (d3, od3), (d2, od2), (d1, od1), (Dn, W.listOf yn.toArray cc), (L + 1 + 1, o1), (L + 1, o2)]
def Pre12 (w : World) : Prop := ∀ (h₀ : Heap) (L : Addr) (o1 o2 : Obj) (m : Map) (Dn : Addr) (yn : List Value) (nn : List Int) (cc : Nat) (n_ m_ : Int) (tn tm : Tok) (row : Array UInt8) (tr : Tok) (d1 : Addr) (od1 : Obj) (kv1 : List (PySem.Str × Value)) (c1 : List (PySem.Str × Int)) (d2 : Addr) (od2 : Obj) (kv2 : List (PySem.Str × Value)) (c2 : List (PySem.Str × Int)) (tx : PySem.Str) (tt : Tok) (fx fd : Addr) (ft1 ft2 ft3 : Tok) (d3 : Addr) (od3 : Obj) (kv3 : List (PySem.Str × Value)), o1.data = Data.cell none → o2.data = Data.cell none → IntsAre yn nn → 1 ≤ nn.length → nn.length ≤ 16 → (@Ne Nat Dn (L + 1 + 1) ∧ @Ne Nat Dn (L + 1)) → row.size ≤ 16 → (@LT.lt Nat _ Dn d1 ∧ @LT.lt Nat _ (L + 1 + 1) d1) → @LT.lt Nat _ d1 d2 → (d1 == sysModules) = false → od1.IsDictOf (strK w) kv1 → FlatPairs PyData.str kv1 (kdpD c1) → (d2 == sysModules) = false → od2.IsDictOf (strK w) kv2 → FlatPairs PyData.str kv2 (kdpD c2) → c1.length ≤ 4 → 1 ≤ c1.length → kdpHas c1 (Str.ofString "z") = false → c2.length ≤ 4 → tx.length ≤ 16 → @LT.lt Nat _ d2 d3 → @LT.lt Nat _ d3 fd → @LT.lt Nat _ fd fx → (d3 == sysModules) = false → od3.IsDictOf (strK w) kv3 → FlatPairs PyData.str kv3 (kdpD c1) → m (Str.ofString "numbers") = some (.ref Dn) → m (Str.ofString "m") = some (.int m_ tm) → m (Str.ofString "n") = some (.int n_ tn) → m (Str.ofString "row") = some (.bytes row tr) → m (Str.ofString "one") = some (.ref d1) → m (Str.ofString "two") = some (.ref d2) → m (Str.ofString "text") = some (.str tx tt) → m (Str.ofString "first") = some (.ref fx) → LRest w 12 h₀ L m [(fx, instObj 61 fd), (fd, dictOf [⟨PyData.keyHash w.params (Str.ofString "text"), .str (Str.ofString "text") ft2, .str tx ft1⟩, ⟨PyData.keyHash w.params (Str.ofString "_scope"), .str (Str.ofString "_scope") ft3, .ref d3⟩] 2), (d3, od3), (d2, od2), (d1, od1), (Dn, W.listOf yn.toArray cc), (L + 1 + 1, o1), (L + 1, o2)]
def Pre13 (w : World) : Prop := ∀ (h₀ : Heap) (L : Addr) (o1 o2 : Obj) (m : Map) (Dn : Addr) (yn : List Value) (nn : List Int) (cc : Nat) (n_ m_ : Int) (tn tm : Tok) (row : Array UInt8) (tr : Tok) (d1 : Addr) (od1 : Obj) (kv1 : List (PySem.Str × Value)) (c1 : List (PySem.Str × Int)) (d2 : Addr) (od2 : Obj) (kv2 : List (PySem.Str × Value)) (c2 : List (PySem.Str × Int)) (tx : PySem.Str) (tt : Tok) (fx fd : Addr) (ft1 ft2 ft3 : Tok) (d3 : Addr) (od3 : Obj) (kv3 : List (PySem.Str × Value)) (sx sd : Addr) (st1 st2 st3 : Tok) (d4 : Addr) (od4 : Obj) (kv4 : List (PySem.Str × Value)), o1.data = Data.cell none → o2.data = Data.cell none → IntsAre yn nn → 1 ≤ nn.length → nn.length ≤ 16 → (@Ne Nat Dn (L + 1 + 1) ∧ @Ne Nat Dn (L + 1)) → row.size ≤ 16 → (@LT.lt Nat _ Dn d1 ∧ @LT.lt Nat _ (L + 1 + 1) d1) → @LT.lt Nat _ d1 d2 → (d1 == sysModules) = false → od1.IsDictOf (strK w) kv1 → FlatPairs PyData.str kv1 (kdpD c1) → (d2 == sysModules) = false → od2.IsDictOf (strK w) kv2 → FlatPairs PyData.str kv2 (kdpD c2) → c1.length ≤ 4 → 1 ≤ c1.length → kdpHas c1 (Str.ofString "z") = false → c2.length ≤ 4 → tx.length ≤ 16 → @LT.lt Nat _ d2 d3 → @LT.lt Nat _ d3 fd → @LT.lt Nat _ fd fx → (d3 == sysModules) = false → od3.IsDictOf (strK w) kv3 → FlatPairs PyData.str kv3 (kdpD c1) → @LT.lt Nat _ fx d4 → @LT.lt Nat _ d4 sd → @LT.lt Nat _ sd sx → (d4 == sysModules) = false → od4.IsDictOf (strK w) kv4 → FlatPairs PyData.str kv4 (kdpD (putAll (putAll c1 c2) [(Str.ofString "b", m_.fmod 9)])) → m (Str.ofString "numbers") = some (.ref Dn) → m (Str.ofString "m") = some (.int m_ tm) → m (Str.ofString "n") = some (.int n_ tn) → m (Str.ofString "row") = some (.bytes row tr) → m (Str.ofString "one") = some (.ref d1) → m (Str.ofString "two") = some (.ref d2) → m (Str.ofString "text") = some (.str tx tt) → m (Str.ofString "first") = some (.ref fx) → m (Str.ofString "second") = some (.ref sx) → LRest w 13 h₀ L m [(sx, instObj 61 sd), (sd, dictOf [⟨PyData.keyHash w.params (Str.ofString "text"), .str (Str.ofString "text") st2, .str tx st1⟩, ⟨PyData.keyHash w.params (Str.ofString "_scope"), .str (Str.ofString "_scope") st3, .ref d4⟩] 2), (d4, od4), (fx, instObj 61 fd), (fd, dictOf [⟨PyData.keyHash w.params (Str.ofString "text"), .str (Str.ofString "text") ft2, .str tx ft1⟩, ⟨PyData.keyHash w.params (Str.ofString "_scope"), .str (Str.ofString "_scope") ft3, .ref d3⟩] 2), (d3, od3), (d2, od2), (d1, od1), (Dn, W.listOf yn.toArray cc), (L + 1 + 1, o1), (L + 1, o2)]
def Pre14 (w : World) : Prop := ∀ (h₀ : Heap) (L : Addr) (o1 o2 : Obj) (m : Map) (Dn : Addr) (yn : List Value) (nn : List Int) (cc : Nat) (n_ m_ : Int) (tn tm : Tok) (row : Array UInt8) (tr : Tok) (d1 : Addr) (od1 : Obj) (kv1 : List (PySem.Str × Value)) (c1 : List (PySem.Str × Int)) (d2 : Addr) (od2 : Obj) (kv2 : List (PySem.Str × Value)) (c2 : List (PySem.Str × Int)) (tx : PySem.Str) (tt : Tok) (fx fd : Addr) (ft1 ft2 ft3 : Tok) (d3 : Addr) (od3 : Obj) (kv3 : List (PySem.Str × Value)) (sx sd : Addr) (st1 st2 st3 : Tok) (d4 : Addr) (od4 : Obj) (kv4 : List (PySem.Str × Value)) (d5 : Addr) (od5 : Obj) (kv5 : List (PySem.Str × Value)), o1.data = Data.cell none → o2.data = Data.cell none → IntsAre yn nn → 1 ≤ nn.length → nn.length ≤ 16 → (@Ne Nat Dn (L + 1 + 1) ∧ @Ne Nat Dn (L + 1)) → row.size ≤ 16 → (@LT.lt Nat _ Dn d1 ∧ @LT.lt Nat _ (L + 1 + 1) d1) → @LT.lt Nat _ d1 d2 → (d1 == sysModules) = false → od1.IsDictOf (strK w) kv1 → FlatPairs PyData.str kv1 (kdpD c1) → (d2 == sysModules) = false → od2.IsDictOf (strK w) kv2 → FlatPairs PyData.str kv2 (kdpD c2) → c1.length ≤ 4 → 1 ≤ c1.length → kdpHas c1 (Str.ofString "z") = false → c2.length ≤ 4 → tx.length ≤ 16 → @LT.lt Nat _ d2 d3 → @LT.lt Nat _ d3 fd → @LT.lt Nat _ fd fx → (d3 == sysModules) = false → od3.IsDictOf (strK w) kv3 → FlatPairs PyData.str kv3 (kdpD c1) → @LT.lt Nat _ fx d4 → @LT.lt Nat _ d4 sd → @LT.lt Nat _ sd sx → (d4 == sysModules) = false → od4.IsDictOf (strK w) kv4 → FlatPairs PyData.str kv4 (kdpD (putAll (putAll c1 c2) [(Str.ofString "b", m_.fmod 9)])) → @LT.lt Nat _ sx d5 → (d5 == sysModules) = false → od5.IsDictOf (strK w) kv5 → FlatPairs PyData.str kv5 (kdpD (putAll (putAll c1 c2) [(Str.ofString "b", m_.fmod 9)])) → m (Str.ofString "numbers") = some (.ref Dn) → m (Str.ofString "m") = some (.int m_ tm) → m (Str.ofString "n") = some (.int n_ tn) → m (Str.ofString "row") = some (.bytes row tr) → m (Str.ofString "one") = some (.ref d1) → m (Str.ofString "two") = some (.ref d2) → m (Str.ofString "text") = some (.str tx tt) → m (Str.ofString "first") = some (.ref fx) → m (Str.ofString "second") = some (.ref sx) → m (Str.ofString "due") = some (.ref d5) → LRest w 14 h₀ L m [(d5, od5), (sx, instObj 61 sd), (sd, dictOf [⟨PyData.keyHash w.params (Str.ofString "text"), .str (Str.ofString "text") st2, .str tx st1⟩, ⟨PyData.keyHash w.params (Str.ofString "_scope"), .str (Str.ofString "_scope") st3, .ref d4⟩] 2), (d4, od4), (fx, instObj 61 fd), (fd, dictOf [⟨PyData.keyHash w.params (Str.ofString "text"), .str (Str.ofString "text") ft2, .str tx ft1⟩, ⟨PyData.keyHash w.params (Str.ofString "_scope"), .str (Str.ofString "_scope") ft3, .ref d3⟩] 2), (d3, od3), (d2, od2), (d1, od1), (Dn, W.listOf yn.toArray cc), (L + 1 + 1, o1), (L + 1, o2)]
def Pre15 (w : World) : Prop := ∀ (h₀ : Heap) (L : Addr) (o1 o2 : Obj) (m : Map) (Dn : Addr) (yn : List Value) (nn : List Int) (cc : Nat) (n_ m_ : Int) (tn tm : Tok) (row : Array UInt8) (tr : Tok) (d1 : Addr) (od1 : Obj) (kv1 : List (PySem.Str × Value)) (c1 : List (PySem.Str × Int)) (d2 : Addr) (od2 : Obj) (kv2 : List (PySem.Str × Value)) (c2 : List (PySem.Str × Int)) (tx : PySem.Str) (tt : Tok) (fx fd : Addr) (ft1 ft2 ft3 : Tok) (d3 : Addr) (od3 : Obj) (kv3 : List (PySem.Str × Value)) (sx sd : Addr) (st1 st2 st3 : Tok) (d4 : Addr) (od4 : Obj) (kv4 : List (PySem.Str × Value)) (d5 : Addr) (od5 : Obj) (kv5 : List (PySem.Str × Value)), o1.data = Data.cell none → o2.data = Data.cell none → IntsAre yn nn → 1 ≤ nn.length → nn.length ≤ 16 → (@Ne Nat Dn (L + 1 + 1) ∧ @Ne Nat Dn (L + 1)) → row.size ≤ 16 → (@LT.lt Nat _ Dn d1 ∧ @LT.lt Nat _ (L + 1 + 1) d1) → @LT.lt Nat _ d1 d2 → (d1 == sysModules) = false → od1.IsDictOf (strK w) kv1 → FlatPairs PyData.str kv1 (kdpD c1) → (d2 == sysModules) = false → od2.IsDictOf (strK w) kv2 → FlatPairs PyData.str kv2 (kdpD c2) → c1.length ≤ 4 → 1 ≤ c1.length → kdpHas c1 (Str.ofString "z") = false → c2.length ≤ 4 → tx.length ≤ 16 → @LT.lt Nat _ d2 d3 → @LT.lt Nat _ d3 fd → @LT.lt Nat _ fd fx → (d3 == sysModules) = false → od3.IsDictOf (strK w) kv3 → FlatPairs PyData.str kv3 (kdpD c1) → @LT.lt Nat _ fx d4 → @LT.lt Nat _ d4 sd → @LT.lt Nat _ sd sx → (d4 == sysModules) = false → od4.IsDictOf (strK w) kv4 → FlatPairs PyData.str kv4 (kdpD (putAll (putAll c1 c2) [(Str.ofString "b", m_.fmod 9)])) → @LT.lt Nat _ sx d5 → (d5 == sysModules) = false → od5.IsDictOf (strK w) kv5 → FlatPairs PyData.str kv5 (kdpD (putAll (putAll c1 c2) [(Str.ofString "b", m_.fmod 9)])) → m (Str.ofString "numbers") = some (.ref Dn) → m (Str.ofString "m") = some (.int m_ tm) → m (Str.ofString "n") = some (.int n_ tn) → m (Str.ofString "row") = some (.bytes row tr) → m (Str.ofString "one") = some (.ref d1) → m (Str.ofString "two") = some (.ref d2) → m (Str.ofString "text") = some (.str tx tt) → m (Str.ofString "first") = some (.ref fx) → m (Str.ofString "second") = some (.ref sx) → m (Str.ofString "due") = some (.ref d5) → LRest w 15 h₀ L m [(d5, od5), (sx, instObj 61 sd), (sd, dictOf [⟨PyData.keyHash w.params (Str.ofString "text"), .str (Str.ofString "text") st2, .str tx st1⟩, ⟨PyData.keyHash w.params (Str.ofString "_scope"), .str (Str.ofString "_scope") st3, .ref d4⟩] 2), (d4, od4), (fx, instObj 61 fd), (fd, dictOf [⟨PyData.keyHash w.params (Str.ofString "text"), .str (Str.ofString "text") ft2, .str tx ft1⟩, ⟨PyData.keyHash w.params (Str.ofString "_scope"), .str (Str.ofString "_scope") ft3, .ref d3⟩] 2), (d3, od3), (d2, od2), (d1, od1), (Dn, W.listOf yn.toArray cc), (L + 1 + 1, o1), (L + 1, o2)]
def Pre16 (w : World) : Prop := ∀ (h₀ : Heap) (L : Addr) (o1 o2 : Obj) (m : Map) (Dn : Addr) (yn : List Value) (nn : List Int) (cc : Nat) (n_ m_ : Int) (tn tm : Tok) (row : Array UInt8) (tr : Tok) (d1 : Addr) (od1 : Obj) (kv1 : List (PySem.Str × Value)) (c1 : List (PySem.Str × Int)) (d2 : Addr) (od2 : Obj) (kv2 : List (PySem.Str × Value)) (c2 : List (PySem.Str × Int)) (tx : PySem.Str) (tt : Tok) (fx fd : Addr) (ft1 ft2 ft3 : Tok) (d3 : Addr) (od3 : Obj) (kv3 : List (PySem.Str × Value)) (sx sd : Addr) (st1 st2 st3 : Tok) (d4 : Addr) (od4 : Obj) (kv4 : List (PySem.Str × Value)) (d5 : Addr) (od5 : Obj) (kv5 : List (PySem.Str × Value)) (nD : Addr) (nk : Nat) (x1 e1 : Addr) (n1u1 n1u2 n1u3 : Tok) (x2 e2 : Addr) (n2u1 n2u2 n2u3 : Tok) (x3 e3 : Addr) (n3u1 n3u2 n3u3 : Tok) (k1 : Addr) (ok1 : Obj) (kw1 : List (PySem.Str × Value)) (k3 : Addr) (ok3 : Obj) (kw3 : List (PySem.Str × Value)), o1.data = Data.cell none → o2.data = Data.cell none → IntsAre yn nn → 1 ≤ nn.length → nn.length ≤ 16 → (@Ne Nat Dn (L + 1 + 1) ∧ @Ne Nat Dn (L + 1)) → row.size ≤ 16 → (@LT.lt Nat _ Dn d1 ∧ @LT.lt Nat _ (L + 1 + 1) d1) → @LT.lt Nat _ d1 d2 → (d1 == sysModules) = false → od1.IsDictOf (strK w) kv1 → FlatPairs PyData.str kv1 (kdpD c1) → (d2 == sysModules) = false → od2.IsDictOf (strK w) kv2 → FlatPairs PyData.str kv2 (kdpD c2) → c1.length ≤ 4 → 1 ≤ c1.length → kdpHas c1 (Str.ofString "z") = false → c2.length ≤ 4 → tx.length ≤ 16 → @LT.lt Nat _ d2 d3 → @LT.lt Nat _ d3 fd → @LT.lt Nat _ fd fx → (d3 == sysModules) = false → od3.IsDictOf (strK w) kv3 → FlatPairs PyData.str kv3 (kdpD c1) → @LT.lt Nat _ fx d4 → @LT.lt Nat _ d4 sd → @LT.lt Nat _ sd sx → (d4 == sysModules) = false → od4.IsDictOf (strK w) kv4 → FlatPairs PyData.str kv4 (kdpD (putAll (putAll c1 c2) [(Str.ofString "b", m_.fmod 9)])) → @LT.lt Nat _ sx d5 → (d5 == sysModules) = false → od5.IsDictOf (strK w) kv5 → FlatPairs PyData.str kv5 (kdpD (putAll (putAll c1 c2) [(Str.ofString "b", m_.fmod 9)])) → (k1 == sysModules) = false → ok1.IsDictOf (strK w) kw1 → FlatPairs PyData.str kw1 (kdpD [(Str.ofString "a", 1)]) → (k3 == sysModules) = false → ok3.IsDictOf (strK w) kw3 → FlatPairs PyData.str kw3 (kdpD [(Str.ofString "a", n_.fmod 5)]) → m (Str.ofString "numbers") = some (.ref Dn) → m (Str.ofString "m") = some (.int m_ tm) → m (Str.ofString "n") = some (.int n_ tn) → m (Str.ofString "row") = some (.bytes row tr) → m (Str.ofString "one") = some (.ref d1) → m (Str.ofString "two") = some (.ref d2) → m (Str.ofString "text") = some (.str tx tt) → m (Str.ofString "first") = some (.ref fx) → m (Str.ofString "second") = some (.ref sx) → m (Str.ofString "due") = some (.ref d5) → m (Str.ofString "named") = some (.ref nD) → LRest w 16 h₀ L m [(nD, W.listOf [.ref x1, .ref x2, .ref x3].toArray nk), (x1, instObj 61 e1), (e1, dictOf [⟨PyData.keyHash w.params (Str.ofString "text"), .str (Str.ofString "text") n1u2, .str tx n1u1⟩, ⟨PyData.keyHash w.params (Str.ofString "_scope"), .str (Str.ofString "_scope") n1u3, .ref k1⟩] 2), (x2, instObj 61 e2), (e2, dictOf [⟨PyData.keyHash w.params (Str.ofString "text"), .str (Str.ofString "text") n2u2, .str tx n2u1⟩, ⟨PyData.keyHash w.params (Str.ofString "_scope"), .str (Str.ofString "_scope") n2u3, .none⟩] 2), (x3, instObj 61 e3), (e3, dictOf [⟨PyData.keyHash w.params (Str.ofString "text"), .str (Str.ofString "text") n3u2, .str tx n3u1⟩, ⟨PyData.keyHash w.params (Str.ofString "_scope"), .str (Str.ofString "_scope") n3u3, .ref k3⟩] 2), (k1, ok1), (k3, ok3), (d5, od5), (sx, instObj 61 sd), (sd, dictOf [⟨PyData.keyHash w.params (Str.ofString "text"), .str (Str.ofString "text") st2, .str tx st1⟩, ⟨PyData.keyHash w.params (Str.ofString "_scope"), .str (Str.ofString "_scope") st3, .ref d4⟩] 2), (d4, od4), (fx, instObj 61 fd), (fd, dictOf [⟨PyData.keyHash w.params (Str.ofString "text"), .str (Str.ofString "text") ft2, .str tx ft1⟩, ⟨PyData.keyHash w.params (Str.ofString "_scope"), .str (Str.ofString "_scope") ft3, .ref d3⟩] 2), (d3, od3), (d2, od2), (d1, od1), (Dn, W.listOf yn.toArray cc), (L + 1 + 1, o1), (L + 1, o2)]
def Pre17 (w : World) : Prop := ∀ (h₀ : Heap) (L : Addr) (o1 o2 : Obj) (m : Map) (Dn : Addr) (yn : List Value) (nn : List Int) (cc : Nat) (n_ m_ : Int) (tn tm : Tok) (row : Array UInt8) (tr : Tok) (d1 : Addr) (od1 : Obj) (kv1 : List (PySem.Str × Value)) (c1 : List (PySem.Str × Int)) (d2 : Addr) (od2 : Obj) (kv2 : List (PySem.Str × Value)) (c2 : List (PySem.Str × Int)) (tx : PySem.Str) (tt : Tok) (fx fd : Addr) (ft1 ft2 ft3 : Tok) (d3 : Addr) (od3 : Obj) (kv3 : List (PySem.Str × Value)) (sx sd : Addr) (st1 st2 st3 : Tok) (d4 : Addr) (od4 : Obj) (kv4 : List (PySem.Str × Value)) (d5 : Addr) (od5 : Obj) (kv5 : List (PySem.Str × Value)), o1.data = Data.cell none → o2.data = Data.cell none → IntsAre yn nn → 1 ≤ nn.length → nn.length ≤ 16 → (@Ne Nat Dn (L + 1 + 1) ∧ @Ne Nat Dn (L + 1)) → row.size ≤ 16 → (@LT.lt Nat _ Dn d1 ∧ @LT.lt Nat _ (L + 1 + 1) d1) → @LT.lt Nat _ d1 d2 → (d1 == sysModules) = false → od1.IsDictOf (strK w) kv1 → FlatPairs PyData.str kv1 (kdpD c1) → (d2 == sysModules) = false → od2.IsDictOf (strK w) kv2 → FlatPairs PyData.str kv2 (kdpD c2) → c1.length ≤ 4 → 1 ≤ c1.length → kdpHas c1 (Str.ofString "z") = false → c2.length ≤ 4 → tx.length ≤ 16 → @LT.lt Nat _ d2 d3 → @LT.lt Nat _ d3 fd → @LT.lt Nat _ fd fx → (d3 == sysModules) = false → od3.IsDictOf (strK w) kv3 → FlatPairs PyData.str kv3 (kdpD c1) → @LT.lt Nat _ fx d4 → @LT.lt Nat _ d4 sd → @LT.lt Nat _ sd sx → (d4 == sysModules) = false → od4.IsDictOf (strK w) kv4 → FlatPairs PyData.str kv4 (kdpD (putAll (putAll c1 c2) [(Str.ofString "b", m_.fmod 9)])) → @LT.lt Nat _ sx d5 → (d5 == sysModules) = false → od5.IsDictOf (strK w) kv5 → FlatPairs PyData.str kv5 (kdpD (putAll (putAll c1 c2) [(Str.ofString "b", m_.fmod 9)])) → m (Str.ofString "numbers") = some (.ref Dn) → m (Str.ofString "m") = some (.int m_ tm) → m (Str.ofString "n") = some (.int n_ tn) → m (Str.ofString "row") = some (.bytes row tr) → m (Str.ofString "one") = some (.ref d1) → m (Str.ofString "two") = some (.ref d2) → m (Str.ofString "text") = some (.str tx tt) → m (Str.ofString "first") = some (.ref fx) → m (Str.ofString "second") = some (.ref sx) → m (Str.ofString "due") = some (.ref d5) → LRest w 17 h₀ L m [(d5, od5), (sx, instObj 61 sd), (sd, dictOf [⟨PyData.keyHash w.params (Str.ofString "text"), .str (Str.ofString "text") st2, .str tx st1⟩, ⟨PyData.keyHash w.params (Str.ofString "_scope"), .str (Str.ofString "_scope") st3, .ref d4⟩] 2), (d4, od4), (fx, instObj 61 fd), (fd, dictOf [⟨PyData.keyHash w.params (Str.ofString "text"), .str (Str.ofString "text") ft2, .str tx ft1⟩, ⟨PyData.keyHash w.params (Str.ofString "_scope"), .str (Str.ofString "_scope") ft3, .ref d3⟩] 2), (d3, od3), (d2, od2), (d1, od1), (Dn, W.listOf yn.toArray cc), (L + 1 + 1, o1), (L + 1, o2)]
def Pre18 (w : World) : Prop := ∀ (h₀ : Heap) (L : Addr) (o1 o2 : Obj) (m : Map) (Dn : Addr) (yn : List Value) (nn : List Int) (cc : Nat) (n_ : Int) (tn : Tok) (row : Array UInt8) (tr : Tok) (d1 : Addr) (od1 : Obj) (kv1 : List (PySem.Str × Value)) (c1 : List (PySem.Str × Int)) (tx : PySem.Str) (tt : Tok), o1.data = Data.cell none → o2.data = Data.cell none → IntsAre yn nn → 1 ≤ nn.length → nn.length ≤ 16 → (@Ne Nat Dn (L + 1 + 1) ∧ @Ne Nat Dn (L + 1)) → row.size ≤ 16 → (@LT.lt Nat _ Dn d1 ∧ @LT.lt Nat _ (L + 1 + 1) d1) → (d1 == sysModules) = false → od1.IsDictOf (strK w) kv1 → FlatPairs PyData.str kv1 (kdpD c1) → c1.length ≤ 4 → 1 ≤ c1.length → kdpHas c1 (Str.ofString "z") = false → tx.length ≤ 16 → m (Str.ofString "numbers") = some (.ref Dn) → m (Str.ofString "n") = some (.int n_ tn) → m (Str.ofString "row") = some (.bytes row tr) → m (Str.ofString "one") = some (.ref d1) → m (Str.ofString "text") = some (.str tx tt) → LRest w 18 h₀ L m [(d1, od1), (Dn, W.listOf yn.toArray cc), (L + 1 + 1, o1), (L + 1, o2)]
def Pre19 (w : World) : Prop := ∀ (h₀ : Heap) (L : Addr) (o1 o2 : Obj) (m : Map) (Dn : Addr) (yn : List Value) (nn : List Int) (cc : Nat) (n_ : Int) (tn : Tok) (row : Array UInt8) (tr : Tok) (d1 : Addr) (od1 : Obj) (kv1 : List (PySem.Str × Value)) (c1 : List (PySem.Str × Int)) (tx : PySem.Str) (tt : Tok), o1.data = Data.cell none → o2.data = Data.cell none → IntsAre yn nn → 1 ≤ nn.length → nn.length ≤ 16 → (@Ne Nat Dn (L + 1 + 1) ∧ @Ne Nat Dn (L + 1)) → row.size ≤ 16 → (@LT.lt Nat _ Dn d1 ∧ @LT.lt Nat _ (L + 1 + 1) d1) → (d1 == sysModules) = false → od1.IsDictOf (strK w) kv1 → FlatPairs PyData.str kv1 (kdpD c1) → c1.length ≤ 4 → 1 ≤ c1.length → kdpHas c1 (Str.ofString "z") = false → tx.length ≤ 16 → m (Str.ofString "numbers") = some (.ref Dn) → m (Str.ofString "n") = some (.int n_ tn) → m (Str.ofString "row") = some (.bytes row tr) → m (Str.ofString "one") = some (.ref d1) → m (Str.ofString "text") = some (.str tx tt) → LRest w 19 h₀ L m [(d1, od1), (Dn, W.listOf yn.toArray cc), (L + 1 + 1, o1), (L + 1, o2)]
def Pre20 (w : World) : Prop := ∀ (h₀ : Heap) (L : Addr) (o1 o2 : Obj) (m : Map) (Dn : Addr) (yn : List Value) (nn : List Int) (cc : Nat) (n_ : Int) (tn : Tok) (row : Array UInt8) (tr : Tok) (d1 : Addr) (od1 : Obj) (kv1 : List (PySem.Str × Value)) (c1 : List (PySem.Str × Int)) (tx : PySem.Str) (tt : Tok) (lx : PySem.Str) (lt : Tok), o1.data = Data.cell none → o2.data = Data.cell none → IntsAre yn nn → 1 ≤ nn.length → nn.length ≤ 16 → (@Ne Nat Dn (L + 1 + 1) ∧ @Ne Nat Dn (L + 1)) → row.size ≤ 16 → (@LT.lt Nat _ Dn d1 ∧ @LT.lt Nat _ (L + 1 + 1) d1) → (d1 == sysModules) = false → od1.IsDictOf (strK w) kv1 → FlatPairs PyData.str kv1 (kdpD c1) → c1.length ≤ 4 → 1 ≤ c1.length → kdpHas c1 (Str.ofString "z") = false → tx.length ≤ 16 → lx.length ≤ 16 → m (Str.ofString "numbers") = some (.ref Dn) → m (Str.ofString "n") = some (.int n_ tn) → m (Str.ofString "row") = some (.bytes row tr) → m (Str.ofString "one") = some (.ref d1) → m (Str.ofString "text") = some (.str tx tt) → m (Str.ofString "letters") = some (.str lx lt) → LRest w 20 h₀ L m [(d1, od1), (Dn, W.listOf yn.toArray cc), (L + 1 + 1, o1), (L + 1, o2)]
def Pre21 (w : World) : Prop := ∀ (h₀ : Heap) (L : Addr) (o1 o2 : Obj) (m : Map) (Dn : Addr) (yn : List Value) (nn : List Int) (cc : Nat) (n_ : Int) (tn : Tok) (row : Array UInt8) (tr : Tok) (d1 : Addr) (od1 : Obj) (kv1 : List (PySem.Str × Value)) (c1 : List (PySem.Str × Int)) (tx : PySem.Str) (tt : Tok) (lx : PySem.Str) (lt : Tok) (gt : Tok), o1.data = Data.cell none → o2.data = Data.cell none → IntsAre yn nn → 1 ≤ nn.length → nn.length ≤ 16 → (@Ne Nat Dn (L + 1 + 1) ∧ @Ne Nat Dn (L + 1)) → row.size ≤ 16 → (@LT.lt Nat _ Dn d1 ∧ @LT.lt Nat _ (L + 1 + 1) d1) → (d1 == sysModules) = false → od1.IsDictOf (strK w) kv1 → FlatPairs PyData.str kv1 (kdpD c1) → c1.length ≤ 4 → 1 ≤ c1.length → kdpHas c1 (Str.ofString "z") = false → tx.length ≤ 16 → lx.length ≤ 16 → m (Str.ofString "numbers") = some (.ref Dn) → m (Str.ofString "n") = some (.int n_ tn) → m (Str.ofString "row") = some (.bytes row tr) → m (Str.ofString "one") = some (.ref d1) → m (Str.ofString "text") = some (.str tx tt) → m (Str.ofString "letters") = some (.str lx lt) → m (Str.ofString "flags") = some (.int 0 gt) → LRest w (20 + 1) h₀ L m [(d1, od1), (Dn, W.listOf yn.toArray cc), (L + 1 + 1, o1), (L + 1, o2)]
def Pre22 (w : World) : Prop := ∀ (h₀ : Heap) (L : Addr) (o1 o2 : Obj) (m : Map) (Dn : Addr) (yn : List Value) (nn : List Int) (cc : Nat) (n_ : Int) (tn : Tok) (row : Array UInt8) (tr : Tok) (d1 : Addr) (od1 : Obj) (kv1 : List (PySem.Str × Value)) (c1 : List (PySem.Str × Int)) (tx : PySem.Str) (tt : Tok) (lx : PySem.Str) (lt : Tok) (gt : Tok), o1.data = Data.cell none → o2.data = Data.cell none → IntsAre yn nn → 1 ≤ nn.length → nn.length ≤ 16 → (@Ne Nat Dn (L + 1 + 1) ∧ @Ne Nat Dn (L + 1)) → row.size ≤ 16 → (@LT.lt Nat _ Dn d1 ∧ @LT.lt Nat _ (L + 1 + 1) d1) → (d1 == sysModules) = false → od1.IsDictOf (strK w) kv1 → FlatPairs PyData.str kv1 (kdpD c1) → c1.length ≤ 4 → 1 ≤ c1.length → kdpHas c1 (Str.ofString "z") = false → tx.length ≤ 16 → lx.length ≤ 16 → m (Str.ofString "numbers") = some (.ref Dn) → m (Str.ofString "n") = some (.int n_ tn) → m (Str.ofString "row") = some (.bytes row tr) → m (Str.ofString "one") = some (.ref d1) → m (Str.ofString "text") = some (.str tx tt) → m (Str.ofString "letters") = some (.str lx lt) → m (Str.ofString "flags") = some (.int (flagsTo lx 6) gt) → LRest w 22 h₀ L m [(d1, od1), (Dn, W.listOf yn.toArray cc), (L + 1 + 1, o1), (L + 1, o2)]
def Pre23 (w : World) : Prop := ∀ (h₀ : Heap) (L : Addr) (o1 o2 : Obj) (m : Map) (Dn : Addr) (yn : List Value) (nn : List Int) (cc : Nat) (n_ : Int) (tn : Tok) (row : Array UInt8) (tr : Tok) (d1 : Addr) (od1 : Obj) (kv1 : List (PySem.Str × Value)) (c1 : List (PySem.Str × Int)) (tx : PySem.Str) (tt : Tok) (lx : PySem.Str) (lt : Tok) (gt : Tok), o1.data = Data.cell none → o2.data = Data.cell none → IntsAre yn nn → 1 ≤ nn.length → nn.length ≤ 16 → (@Ne Nat Dn (L + 1 + 1) ∧ @Ne Nat Dn (L + 1)) → row.size ≤ 16 → (@LT.lt Nat _ Dn d1 ∧ @LT.lt Nat _ (L + 1 + 1) d1) → (d1 == sysModules) = false → od1.IsDictOf (strK w) kv1 → FlatPairs PyData.str kv1 (kdpD c1) → c1.length ≤ 4 → 1 ≤ c1.length → kdpHas c1 (Str.ofString "z") = false → tx.length ≤ 16 → lx.length ≤ 16 → m (Str.ofString "numbers") = some (.ref Dn) → m (Str.ofString "n") = some (.int n_ tn) → m (Str.ofString "row") = some (.bytes row tr) → m (Str.ofString "one") = some (.ref d1) → m (Str.ofString "text") = some (.str tx tt) → m (Str.ofString "letters") = some (.str lx lt) → m (Str.ofString "flags") = some (.int (flagsTo lx 6) gt) → LRest w 23 h₀ L m [(d1, od1), (Dn, W.listOf yn.toArray cc), (L + 1 + 1, o1), (L + 1, o2)]
def Pre24 (w : World) : Prop := ∀ (h₀ : Heap) (L : Addr) (o1 o2 : Obj) (m : Map) (Dn : Addr) (yn : List Value) (nn : List Int) (cc : Nat) (n_ : Int) (tn : Tok) (row : Array UInt8) (tr : Tok) (d1 : Addr) (od1 : Obj) (kv1 : List (PySem.Str × Value)) (c1 : List (PySem.Str × Int)) (tx : PySem.Str) (tt : Tok), o1.data = Data.cell none → o2.data = Data.cell none → IntsAre yn nn → 1 ≤ nn.length → nn.length ≤ 16 → (@Ne Nat Dn (L + 1 + 1) ∧ @Ne Nat Dn (L + 1)) → row.size ≤ 16 → (@LT.lt Nat _ Dn d1 ∧ @LT.lt Nat _ (L + 1 + 1) d1) → (d1 == sysModules) = false → od1.IsDictOf (strK w) kv1 → FlatPairs PyData.str kv1 (kdpD c1) → c1.length ≤ 4 → 1 ≤ c1.length → kdpHas c1 (Str.ofString "z") = false → tx.length ≤ 16 → m (Str.ofString "numbers") = some (.ref Dn) → m (Str.ofString "n") = some (.int n_ tn) → m (Str.ofString "row") = some (.bytes row tr) → m (Str.ofString "one") = some (.ref d1) → m (Str.ofString "text") = some (.str tx tt) → LRest w 24 h₀ L m [(d1, od1), (Dn, W.listOf yn.toArray cc), (L + 1 + 1, o1), (L + 1, o2)]
def Pre25 (w : World) : Prop := ∀ (h₀ : Heap) (L : Addr) (o1 o2 : Obj) (m : Map) (Dn : Addr) (yn : List Value) (nn : List Int) (cc : Nat) (n_ : Int) (tn : Tok) (row : Array UInt8) (tr : Tok) (d1 : Addr) (od1 : Obj) (kv1 : List (PySem.Str × Value)) (c1 : List (PySem.Str × Int)) (tx : PySem.Str) (tt : Tok) (ob : Option PySem.Str) (tb : Tok), o1.data = Data.cell none → o2.data = Data.cell none → IntsAre yn nn → 1 ≤ nn.length → nn.length ≤ 16 → (@Ne Nat Dn (L + 1 + 1) ∧ @Ne Nat Dn (L + 1)) → row.size ≤ 16 → (@LT.lt Nat _ Dn d1 ∧ @LT.lt Nat _ (L + 1 + 1) d1) → (d1 == sysModules) = false → od1.IsDictOf (strK w) kv1 → FlatPairs PyData.str kv1 (kdpD c1) → c1.length ≤ 4 → 1 ≤ c1.length → kdpHas c1 (Str.ofString "z") = false → tx.length ≤ 16 → (ob = none ∨ ob = some tx) → m (Str.ofString "numbers") = some (.ref Dn) → m (Str.ofString "n") = some (.int n_ tn) → m (Str.ofString "row") = some (.bytes row tr) → m (Str.ofString "one") = some (.ref d1) → m (Str.ofString "text") = some (.str tx tt) → m (Str.ofString "base") = some (baseV ob tb) → LRest w 25 h₀ L m [(d1, od1), (Dn, W.listOf yn.toArray cc), (L + 1 + 1, o1), (L + 1, o2)]
def Pre26 (w : World) : Prop := ∀ (h₀ : Heap) (L : Addr) (o1 o2 : Obj) (m : Map) (Dn : Addr) (yn : List Value) (nn : List Int) (cc : Nat) (n_ : Int) (tn : Tok) (row : Array UInt8) (tr : Tok) (d1 : Addr) (od1 : Obj) (kv1 : List (PySem.Str × Value)) (c1 : List (PySem.Str × Int)) (tx : PySem.Str) (tt : Tok) (ob : Option PySem.Str) (tb : Tok), o1.data = Data.cell none → o2.data = Data.cell none → IntsAre yn nn → 1 ≤ nn.length → nn.length ≤ 16 → (@Ne Nat Dn (L + 1 + 1) ∧ @Ne Nat Dn (L + 1)) → row.size ≤ 16 → (@LT.lt Nat _ Dn d1 ∧ @LT.lt Nat _ (L + 1 + 1) d1) → (d1 == sysModules) = false → od1.IsDictOf (strK w) kv1 → FlatPairs PyData.str kv1 (kdpD c1) → c1.length ≤ 4 → 1 ≤ c1.length → kdpHas c1 (Str.ofString "z") = false → tx.length ≤ 16 → (ob = none ∨ ob = some tx) → m (Str.ofString "numbers") = some (.ref Dn) → m (Str.ofString "n") = some (.int n_ tn) → m (Str.ofString "row") = some (.bytes row tr) → m (Str.ofString "one") = some (.ref d1) → m (Str.ofString "text") = some (.str tx tt) → m (Str.ofString "base") = some (baseV ob tb) → LRest w 26 h₀ L m [(d1, od1), (Dn, W.listOf yn.toArray cc), (L + 1 + 1, o1), (L + 1, o2)]
def Pre27 (w : World) : Prop := ∀ (h₀ : Heap) (L : Addr) (o1 o2 : Obj) (m : Map) (Dn : Addr) (yn : List Value) (nn : List Int) (cc : Nat) (n_ : Int) (tn : Tok) (row : Array UInt8) (tr : Tok) (d1 : Addr) (od1 : Obj) (kv1 : List (PySem.Str × Value)) (c1 : List (PySem.Str × Int)) (tx : PySem.Str) (tt : Tok) (ob : Option PySem.Str) (tb : Tok) (rx rd rk : Addr) (rt1 rt2 rt3 rt4 rt5 rt6 rt7 : Tok) (ork : Obj) (kvr : List (PySem.Str × Value)), o1.data = Data.cell none → IntsAre yn nn → 1 ≤ nn.length → nn.length ≤ 16 → (@Ne Nat Dn (L + 1 + 1) ∧ @Ne Nat Dn (L + 1)) → row.size ≤ 16 → (@LT.lt Nat _ Dn d1 ∧ @LT.lt Nat _ (L + 1 + 1) d1) → (d1 == sysModules) = false → od1.IsDictOf (strK w) kv1 → FlatPairs PyData.str kv1 (kdpD c1) → c1.length ≤ 4 → 1 ≤ c1.length → kdpHas c1 (Str.ofString "z") = false → tx.length ≤ 16 → (ob = none ∨ ob = some tx) → o2.data = Data.cell (some (.ref rx)) → @LT.lt Nat _ d1 rd → @LT.lt Nat _ rd rx → @LT.lt Nat _ rx rk → (rk == sysModules) = false → ork.IsDictOf (strK w) kvr → FlatPairs PyData.str kvr (kdpD c1) → m (Str.ofString "numbers") = some (.ref Dn) → m (Str.ofString "n") = some (.int n_ tn) → m (Str.ofString "row") = some (.bytes row tr) → m (Str.ofString "one") = some (.ref d1) → m (Str.ofString "text") = some (.str tx tt) → m (Str.ofString "base") = some (baseV ob tb) → LRest w 27 h₀ L m [(rx, instObj 261 rd), (rd, dictOf [⟨PyData.keyHash w.params (Str.ofString "_collection"), .str (Str.ofString "_collection") rt2, .str tx rt1⟩, ⟨PyData.keyHash w.params (Str.ofString "_id"), .str (Str.ofString "_id") rt4, .int n_ rt3⟩, ⟨PyData.keyHash w.params (Str.ofString "_database"), .str (Str.ofString "_database") rt6, baseV ob rt5⟩, ⟨PyData.keyHash w.params (Str.ofString "_kwargs"), .str (Str.ofString "_kwargs") rt7, .ref rk⟩] 4), (rk, ork), (d1, od1), (Dn, W.listOf yn.toArray cc), (L + 1 + 1, o1), (L + 1, o2)]
def Pre28 (w : World) : Prop := ∀ (h₀ : Heap) (L : Addr) (o1 o2 : Obj) (m : Map) (Dn : Addr) (yn : List Value) (nn : List Int) (cc : Nat) (n_ : Int) (tn : Tok) (row : Array UInt8) (tr : Tok) (d1 : Addr) (od1 : Obj) (kv1 : List (PySem.Str × Value)) (c1 : List (PySem.Str × Int)) (tx : PySem.Str) (tt : Tok) (ob : Option PySem.Str) (tb : Tok) (rx rd rk : Addr) (rt1 rt2 rt3 rt4 rt5 rt6 rt7 : Tok) (ork : Obj) (kvr : List (PySem.Str × Value)) (oD : Addr) (on : Nat) (x1 e1 k1 : Addr) (q1t1 q1t2 q1t3 q1t4 q1t5 q1t6 q1t7 : Tok) (ok1 : Obj) (kw1 : List (PySem.Str × Value)) (x2 e2 k2 : Addr) (q2t1 q2t2 q2t3 q2t4 q2t5 q2t6 q2t7 : Tok) (ok2 : Obj) (kw2 : List (PySem.Str × Value)) (x3 e3 k3 : Addr) (q3t1 q3t2 q3t3 q3t4 q3t5 q3t6 q3t7 : Tok) (ok3 : Obj) (kw3 : List (PySem.Str × Value)) (x4 e4 k4 : Addr) (q4t1 q4t2 q4t3 q4t4 q4t5 q4t6 q4t7 : Tok) (ok4 : Obj) (kw4 : List (PySem.Str × Value)) (x5 e5 k5 : Addr) (q5t1 q5t2 q5t3 q5t4 q5t5 q5t6 q5t7 : Tok) (ok5 : Obj) (kw5 : List (PySem.Str × Value)) (x6 e6 k6 : Addr) (q6t1 q6t2 q6t3 q6t4 q6t5 q6t6 q6t7 : Tok) (ok6 : Obj) (kw6 : List (PySem.Str × Value)), o1.data = Data.cell none → IntsAre yn nn → 1 ≤ nn.length → nn.length ≤ 16 → (@Ne Nat Dn (L + 1 + 1) ∧ @Ne Nat Dn (L + 1)) → row.size ≤ 16 → (@LT.lt Nat _ Dn d1 ∧ @LT.lt Nat _ (L + 1 + 1) d1) → (d1 == sysModules) = false → od1.IsDictOf (strK w) kv1 → FlatPairs PyData.str kv1 (kdpD c1) → c1.length ≤ 4 → 1 ≤ c1.length → kdpHas c1 (Str.ofString "z") = false → tx.length ≤ 16 → (ob = none ∨ ob = some tx) → o2.data = Data.cell (some (.ref rx)) → @LT.lt Nat _ d1 rd → @LT.lt Nat _ rd rx → @LT.lt Nat _ rx rk → (rk == sysModules) = false → ork.IsDictOf (strK w) kvr → FlatPairs PyData.str kvr (kdpD c1) → @LT.lt Nat _ rk k1 → (k1 == sysModules) = false → ok1.IsDictOf (strK w) kw1 → FlatPairs PyData.str kw1 (kdpD (c1)) → @LT.lt Nat _ rk k2 → (k2 == sysModules) = false → ok2.IsDictOf (strK w) kw2 → FlatPairs PyData.str kw2 (kdpD (c1)) → @LT.lt Nat _ rk k3 → (k3 == sysModules) = false → ok3.IsDictOf (strK w) kw3 → FlatPairs PyData.str kw3 (kdpD (c1)) → @LT.lt Nat _ rk k4 → (k4 == sysModules) = false → ok4.IsDictOf (strK w) kw4 → FlatPairs PyData.str kw4 (kdpD (c1)) → @LT.lt Nat _ rk k5 → (k5 == sysModules) = false → ok5.IsDictOf (strK w) kw5 → FlatPairs PyData.str kw5 (kdpD (c1 ++ [(Str.ofString "z", 1)])) → @LT.lt Nat _ rk k6 → (k6 == sysModules) = false → ok6.IsDictOf (strK w) kw6 → FlatPairs PyData.str kw6 (kdpD ([(Str.ofString "z", 1)])) → m (Str.ofString "numbers") = some (.ref Dn) → m (Str.ofString "n") = some (.int n_ tn) → m (Str.ofString "row") = some (.bytes row tr) → m (Str.ofString "one") = some (.ref d1) → m (Str.ofString "text") = some (.str tx tt) → m (Str.ofString "base") = some (baseV ob tb) → m (Str.ofString "others") = some (.ref oD) → LRest w 28 h₀ L m [(oD, W.listOf [.ref x1, .ref x2, .ref x3, .ref x4, .ref x5, .ref x6].toArray on), (x6, instObj 261 e6), (e6, dictOf [⟨PyData.keyHash w.params (Str.ofString "_collection"), .str (Str.ofString "_collection") q6t2, .str tx q6t1⟩, ⟨PyData.keyHash w.params (Str.ofString "_id"), .str (Str.ofString "_id") q6t4, .int n_ q6t3⟩, ⟨PyData.keyHash w.params (Str.ofString "_database"), .str (Str.ofString "_database") q6t6, baseV ob q6t5⟩, ⟨PyData.keyHash w.params (Str.ofString "_kwargs"), .str (Str.ofString "_kwargs") q6t7, .ref k6⟩] 4), (k6, ok6), (x5, instObj 261 e5), (e5, dictOf [⟨PyData.keyHash w.params (Str.ofString "_collection"), .str (Str.ofString "_collection") q5t2, .str tx q5t1⟩, ⟨PyData.keyHash w.params (Str.ofString "_id"), .str (Str.ofString "_id") q5t4, .int n_ q5t3⟩, ⟨PyData.keyHash w.params (Str.ofString "_database"), .str (Str.ofString "_database") q5t6, baseV ob q5t5⟩, ⟨PyData.keyHash w.params (Str.ofString "_kwargs"), .str (Str.ofString "_kwargs") q5t7, .ref k5⟩] 4), (k5, ok5), (x4, instObj 261 e4), (e4, dictOf [⟨PyData.keyHash w.params (Str.ofString "_collection"), .str (Str.ofString "_collection") q4t2, .str tx q4t1⟩, ⟨PyData.keyHash w.params (Str.ofString "_id"), .str (Str.ofString "_id") q4t4, .int n_ q4t3⟩, ⟨PyData.keyHash w.params (Str.ofString "_database"), .str (Str.ofString "_database") q4t6, .str (tx ++ Str.ofString "y") q4t5⟩, ⟨PyData.keyHash w.params (Str.ofString "_kwargs"), .str (Str.ofString "_kwargs") q4t7, .ref k4⟩] 4), (k4, ok4), (x3, instObj 261 e3), (e3, dictOf [⟨PyData.keyHash w.params (Str.ofString "_collection"), .str (Str.ofString "_collection") q3t2, .str tx q3t1⟩, ⟨PyData.keyHash w.params (Str.ofString "_id"), .str (Str.ofString "_id") q3t4, .int (n_ + 1) q3t3⟩, ⟨PyData.keyHash w.params (Str.ofString "_database"), .str (Str.ofString "_database") q3t6, baseV ob q3t5⟩, ⟨PyData.keyHash w.params (Str.ofString "_kwargs"), .str (Str.ofString "_kwargs") q3t7, .ref k3⟩] 4), (k3, ok3), (x2, instObj 261 e2), (e2, dictOf [⟨PyData.keyHash w.params (Str.ofString "_collection"), .str (Str.ofString "_collection") q2t2, .str (tx ++ Str.ofString "x") q2t1⟩, ⟨PyData.keyHash w.params (Str.ofString "_id"), .str (Str.ofString "_id") q2t4, .int n_ q2t3⟩, ⟨PyData.keyHash w.params (Str.ofString "_database"), .str (Str.ofString "_database") q2t6, baseV ob q2t5⟩, ⟨PyData.keyHash w.params (Str.ofString "_kwargs"), .str (Str.ofString "_kwargs") q2t7, .ref k2⟩] 4), (k2, ok2), (x1, instObj 261 e1), (e1, dictOf [⟨PyData.keyHash w.params (Str.ofString "_collection"), .str (Str.ofString "_collection") q1t2, .str tx q1t1⟩, ⟨PyData.keyHash w.params (Str.ofString "_id"), .str (Str.ofString "_id") q1t4, .int n_ q1t3⟩, ⟨PyData.keyHash w.params (Str.ofString "_database"), .str (Str.ofString "_database") q1t6, baseV ob q1t5⟩, ⟨PyData.keyHash w.params (Str.ofString "_kwargs"), .str (Str.ofString "_kwargs") q1t7, .ref k1⟩] 4), (k1, ok1), (rx, instObj 261 rd), (rd, dictOf [⟨PyData.keyHash w.params (Str.ofString "_collection"), .str (Str.ofString "_collection") rt2, .str tx rt1⟩, ⟨PyData.keyHash w.params (Str.ofString "_id"), .str (Str.ofString "_id") rt4, .int n_ rt3⟩, ⟨PyData.keyHash w.params (Str.ofString "_database"), .str (Str.ofString "_database") rt6, baseV ob rt5⟩, ⟨PyData.keyHash w.params (Str.ofString "_kwargs"), .str (Str.ofString "_kwargs") rt7, .ref rk⟩] 4), (rk, ork), (d1, od1), (Dn, W.listOf yn.toArray cc), (L + 1 + 1, o1), (L + 1, o2)]
def Pre29 (w : World) : Prop := ∀ (h₀ : Heap) (L : Addr) (o1 o2 : Obj) (m : Map) (Dn : Addr) (yn : List Value) (nn : List Int) (cc : Nat) (n_ : Int) (tn : Tok) (row : Array UInt8) (tr : Tok) (d1 : Addr) (od1 : Obj) (kv1 : List (PySem.Str × Value)) (c1 : List (PySem.Str × Int)) (tx : PySem.Str) (tt : Tok) (ob : Option PySem.Str) (tb : Tok) (rx rd rk : Addr) (rt1 rt2 rt3 rt4 rt5 rt6 rt7 : Tok) (ork : Obj) (kvr : List (PySem.Str × Value)), o1.data = Data.cell none → IntsAre yn nn → 1 ≤ nn.length → nn.length ≤ 16 → (@Ne Nat Dn (L + 1 + 1) ∧ @Ne Nat Dn (L + 1)) → row.size ≤ 16 → (@LT.lt Nat _ Dn d1 ∧ @LT.lt Nat _ (L + 1 + 1) d1) → (d1 == sysModules) = false → od1.IsDictOf (strK w) kv1 → FlatPairs PyData.str kv1 (kdpD c1) → c1.length ≤ 4 → 1 ≤ c1.length → kdpHas c1 (Str.ofString "z") = false → tx.length ≤ 16 → (ob = none ∨ ob = some tx) → o2.data = Data.cell (some (.ref rx)) → @LT.lt Nat _ d1 rd → @LT.lt Nat _ rd rx → @LT.lt Nat _ rx rk → (rk == sysModules) = false → ork.IsDictOf (strK w) kvr → FlatPairs PyData.str kvr (kdpD c1) → m (Str.ofString "numbers") = some (.ref Dn) → m (Str.ofString "n") = some (.int n_ tn) → m (Str.ofString "row") = some (.bytes row tr) → m (Str.ofString "one") = some (.ref d1) → m (Str.ofString "text") = some (.str tx tt) → m (Str.ofString "base") = some (baseV ob tb) → LRest w 29 h₀ L m [(rx, instObj 261 rd), (rd, dictOf [⟨PyData.keyHash w.params (Str.ofString "_collection"), .str (Str.ofString "_collection") rt2, .str tx rt1⟩, ⟨PyData.keyHash w.params (Str.ofString "_id"), .str (Str.ofString "_id") rt4, .int n_ rt3⟩, ⟨PyData.keyHash w.params (Str.ofString "_database"), .str (Str.ofString "_database") rt6, baseV ob rt5⟩, ⟨PyData.keyHash w.params (Str.ofString "_kwargs"), .str (Str.ofString "_kwargs") rt7, .ref rk⟩] 4), (rk, ork), (d1, od1), (Dn, W.listOf yn.toArray cc), (L + 1 + 1, o1), (L + 1, o2)]
def Pre30 (w : World) : Prop := ∀ (h₀ : Heap) (L : Addr) (o1 o2 : Obj) (m : Map) (Dn : Addr) (yn : List Value) (nn : List Int) (cc : Nat) (n_ : Int) (tn : Tok) (row : Array UInt8) (tr : Tok) (d1 : Addr) (od1 : Obj) (kv1 : List (PySem.Str × Value)) (c1 : List (PySem.Str × Int)) (tx : PySem.Str) (tt : Tok) (ob : Option PySem.Str) (tb : Tok) (rx rd rk : Addr) (rt1 rt2 rt3 rt4 rt5 rt6 rt7 : Tok) (ork : Obj) (kvr : List (PySem.Str × Value)), o1.data = Data.cell none → IntsAre yn nn → 1 ≤ nn.length → nn.length ≤ 16 → (@Ne Nat Dn (L + 1 + 1) ∧ @Ne Nat Dn (L + 1)) → row.size ≤ 16 → (@LT.lt Nat _ Dn d1 ∧ @LT.lt Nat _ (L + 1 + 1) d1) → (d1 == sysModules) = false → od1.IsDictOf (strK w) kv1 → FlatPairs PyData.str kv1 (kdpD c1) → c1.length ≤ 4 → 1 ≤ c1.length → kdpHas c1 (Str.ofString "z") = false → tx.length ≤ 16 → (ob = none ∨ ob = some tx) → o2.data = Data.cell (some (.ref rx)) → @LT.lt Nat _ d1 rd → @LT.lt Nat _ rd rx → @LT.lt Nat _ rx rk → (rk == sysModules) = false → ork.IsDictOf (strK w) kvr → FlatPairs PyData.str kvr (kdpD c1) → m (Str.ofString "numbers") = some (.ref Dn) → m (Str.ofString "n") = some (.int n_ tn) → m (Str.ofString "row") = some (.bytes row tr) → m (Str.ofString "one") = some (.ref d1) → m (Str.ofString "text") = some (.str tx tt) → m (Str.ofString "base") = some (baseV ob tb) → LRest w 30 h₀ L m [(rx, instObj 261 rd), (rd, dictOf [⟨PyData.keyHash w.params (Str.ofString "_collection"), .str (Str.ofString "_collection") rt2, .str tx rt1⟩, ⟨PyData.keyHash w.params (Str.ofString "_id"), .str (Str.ofString "_id") rt4, .int n_ rt3⟩, ⟨PyData.keyHash w.params (Str.ofString "_database"), .str (Str.ofString "_database") rt6, baseV ob rt5⟩, ⟨PyData.keyHash w.params (Str.ofString "_kwargs"), .str (Str.ofString "_kwargs") rt7, .ref rk⟩] 4), (rk, ork), (d1, od1), (Dn, W.listOf yn.toArray cc), (L + 1 + 1, o1), (L + 1, o2)]
def Pre31 (w : World) : Prop := ∀ (h₀ : Heap) (L : Addr) (o1 o2 : Obj) (m : Map)  (d1 : Addr) (od1 : Obj) (kv1 : List (PySem.Str × Value)) (c1 : List (PySem.Str × Int)) (row : Array UInt8) (tx : PySem.Str) (n_ : Int) (ob : Option PySem.Str) (vt1 vt2 : Tok) (rx rd rk : Addr) (rt1 rt2 rt3 rt4 rt5 rt6 rt7 : Tok) (vD : Addr) (vn : Nat) (xb yb : Addr) (bk0 bk1 bk8 bk9 : Tok) (xc yc : Addr) (ck0 ck1 ck9 : Tok) (xg yg : Addr) (gk0 gk1 gk8 gk9 : Tok) (xa ya : Addr) (ak0 ak9 : Tok) (xi yi : Addr) (ik0 ik9 : Tok) (xn yn : Addr) (xw yw : Addr) (xo yo : Addr) (ok0 ok9 : Tok) (xs ys : Addr) (sk0 sk1 sk8 sk9 : Tok), row.size ≤ 16 → tx.length ≤ 16 → (d1 == sysModules) = false → od1.IsDictOf (strK w) kv1 → FlatPairs PyData.str kv1 (kdpD c1) → c1.length ≤ 4 → 1 ≤ c1.length → o1.data = Data.cell (some (.ref vD)) → m (Str.ofString "one") = some (.ref d1) → LRest w 31 h₀ L m [(vD, W.listOf [.ref xb, .ref xc, .ref xg, .ref rx, .ref xa, .ref xi, .ref xn, .ref xw, .ref xo, .ref xs, .bytes row vt1, .str tx vt2, .none].toArray vn), (xb, instObj 144 yb), (yb, dictOf [⟨PyData.keyHash w.params (Str.ofString "data"), .str (Str.ofString "data") bk0, .bytes row bk9⟩, ⟨PyData.keyHash w.params (Str.ofString "_subtype"), .str (Str.ofString "_subtype") bk1, .int 0 bk8⟩] 2), (xc, instObj 61 yc), (yc, dictOf [⟨PyData.keyHash w.params (Str.ofString "text"), .str (Str.ofString "text") ck0, .str tx ck9⟩, ⟨PyData.keyHash w.params (Str.ofString "_scope"), .str (Str.ofString "_scope") ck1, .none⟩] 2), (xg, instObj 626 yg), (yg, dictOf [⟨PyData.keyHash w.params (Str.ofString "pattern"), .str (Str.ofString "pattern") gk0, .str tx gk9⟩, ⟨PyData.keyHash w.params (Str.ofString "flags"), .str (Str.ofString "flags") gk1, .int 0 gk8⟩] 2), (rx, instObj 261 rd), (rd, dictOf [⟨PyData.keyHash w.params (Str.ofString "_collection"), .str (Str.ofString "_collection") rt2, .str tx rt1⟩, ⟨PyData.keyHash w.params (Str.ofString "_id"), .str (Str.ofString "_id") rt4, .int n_ rt3⟩, ⟨PyData.keyHash w.params (Str.ofString "_database"), .str (Str.ofString "_database") rt6, baseV ob rt5⟩, ⟨PyData.keyHash w.params (Str.ofString "_kwargs"), .str (Str.ofString "_kwargs") rt7, .ref rk⟩] 4), (xa, instObj 201 ya), (ya, dictOf [⟨PyData.keyHash w.params (Str.ofString "_value"), .str (Str.ofString "_value") ak0, .int 5 ak9⟩] 1), (xi, instObj 344 yi), (yi, dictOf [⟨PyData.keyHash w.params (Str.ofString "value"), .str (Str.ofString "value") ik0, .int 5 ik9⟩] 1), (xn, instObj 470 yn), (yn, dictOf [] 0), (xw, instObj 407 yw), (yw, dictOf [] 0), (xo, instObj 583 yo), (yo, dictOf [⟨PyData.keyHash w.params (Str.ofString "_id"), .str (Str.ofString "_id") ok0, .bytes (Array.replicate 12 0) ok9⟩] 1), (xs, instObj 705 ys), (ys, dictOf [⟨PyData.keyHash w.params (Str.ofString "_time"), .str (Str.ofString "_time") sk0, .int 5 sk9⟩, ⟨PyData.keyHash w.params (Str.ofString "_inc"), .str (Str.ofString "_inc") sk1, .int 5 sk8⟩] 2), (d1, od1), (L + 1 + 1, o1), (L + 1, o2)]
def Pre32 (w : World) : Prop := ∀ (h₀ : Heap) (L : Addr) (o1 o2 : Obj) (m : Map)  (d1 : Addr) (od1 : Obj) (kv1 : List (PySem.Str × Value)) (c1 : List (PySem.Str × Int)), (d1 == sysModules) = false → od1.IsDictOf (strK w) kv1 → FlatPairs PyData.str kv1 (kdpD c1) → c1.length ≤ 4 → 1 ≤ c1.length → m (Str.ofString "one") = some (.ref d1) → LRest w 32 h₀ L m [(d1, od1), (L + 1 + 1, o1), (L + 1, o2)]
def Pre33 (w : World) : Prop := ∀ (h₀ : Heap) (L : Addr) (o1 o2 : Obj) (m : Map)  (d1 : Addr) (od1 : Obj) (kv1 : List (PySem.Str × Value)) (c1 : List (PySem.Str × Int)) (fx tt dx : Addr) (u : Tok), (d1 == sysModules) = false → od1.IsDictOf (strK w) kv1 → FlatPairs PyData.str kv1 (kdpD c1) → c1.length ≤ 4 → 1 ≤ c1.length → @LT.lt Nat _ d1 fx → @LT.lt Nat _ fx dx → m (Str.ofString "one") = some (.ref d1) → m (Str.ofString "fault") = some (.ref fx) → LRest w 33 h₀ L m [(dx, dictOf [⟨PyData.keyHash w.params (Str.ofString "_document"), .str (Str.ofString "_document") u, .ref d1⟩] 1), (fx, { cls := .ref 306, dict := some dx, data := .fields #[.ref tt, .none, .none, .none, .bool false, .none] }), (d1, od1), (L + 1 + 1, o1), (L + 1, o2)]
end Mine

end
-- K2
section
open PySem PySem.Calls PySem.W PyProof.Rows PyProof.V PySem.Spec
namespace Mine
noncomputable def AllNe (d : Addr) : Led → Prop
  | [] => True
  | p :: r => @Ne Nat p.1 d ∧ AllNe d r
theorem allNe_of {d : Addr} : ∀ {l : Led}, (∀ p ∈ l, p.1 ≠ d) → AllNe d l
  | [], _ => trivial
  | p :: _, h => ⟨h p (.head _), allNe_of fun q hq => h q (.tail _ hq)⟩
theorem putAll_nil_r (c : List (PySem.Str × Int)) : putAll c [] = c := rfl
theorem keys_of {w : World} {kvs : List (PySem.Str × Value)} {c : List (PySem.Str × Int)} (hf : FlatPairs PyData.str kvs (kdpD c)) : kvs.map (·.1) = c.map (·.1) := by
  have : ∀ {kvs : List (PySem.Str × Value)} {D : List (PyData × PyData)}, FlatPairs PyData.str kvs D → ∀ c, D = kdpD c → kvs.map (·.1) = c.map (·.1) := by
    intro kvs D hf
    induction hf with
    | nil => intro c e; cases c with
      | nil => rfl
      | cons => cases e
    | cons _ _ ih =>
      intro c e
      cases c with
      | nil => cases e
      | cons p c =>
        injection e with e1 e2
        injection e1 with e1 _
        injection e1 with e1
        simp only [List.map_cons, ih c e2, e1]
  exact this hf c rfl
theorem strs_of {prog : Program} {w : World} : ∀ {kvs : List (PySem.Str × Value)} {vs : List Value}, vs.length = kvs.length → (∀ (j : Nat) (v : Value), vs[j]? = some v → ∃ k x, kvs[j]? = some (k, x) ∧ (PySem.strKind prog w).is k v = true) → StrsAre vs (kvs.map (·.1))
  | [], [], _, _ => .nil
  | [], _ :: _, hl, _ => by simp at hl
  | _ :: _, [], hl, _ => by simp at hl
  | (k, x) :: kvs, v :: vs, hl, h => by
    obtain ⟨k', x', e, hk⟩ := h 0 v rfl
    have e' : (k, x) = (k', x') := Option.some.inj e
    injection e' with e1 e2
    subst e1
    obtain ⟨t, rfl⟩ := Value.isStrOf_shape hk
    exact .cons k t (strs_of (by simpa using hl) fun j v hj => h (j + 1) v hj)
theorem paired_eq : ∀ {xs ys : List Value}, Paired (fun v y => y = v) xs ys → ys = xs
  | _, _, .nil => rfl
  | _, _, .cons h t => by rw [h, paired_eq t]
def KeysSrc (prog : Program) (w : World) (A : Around) (Q : Value → Shared → Prop) (xv : Value) (s₁ : Shared) : Prop :=
  ∃ (d : Addr) (o : Obj) (kvs : List (PySem.Str × Value)) (c : List (PySem.Str × Int)) (h₀ : Heap) (L : Addr) (m : Map) (news : Led), xv = .ref d ∧ A.handled = none ∧ (d == sysModules) = false ∧ o.IsDictOf (PySem.strKind prog w) kvs ∧ FlatPairs PyData.str kvs (kdpD c) ∧ c.length ≤ 100 ∧ (d, o) ∈ news ∧
    Fr h₀ L s₁.heap m ∧ News h₀ L s₁.heap news ∧ ∀ D h' tk ys n, StrsAre ys (c.map (·.1)) → Fr h₀ L h' m → News h₀ L h' ((D, W.listOf ys.toArray n) :: news) → (∀ p ∈ news, p.1 ≠ D) → Q (.ref D) { s₁ with heap := h', toks := tk }
section
variable {prog : Program} {w : World} {A : Around} {E : Value → Shared → Prop} {s : Shared} {Q : Value → Shared → Prop}
theorem KeysSrc.intro {d : Addr} {o : Obj} {kvs : List (PySem.Str × Value)} {c : List (PySem.Str × Int)} {h₀ : Heap} {L : Addr} {m : Map} {news : Led} {s₁ : Shared} (hh : A.handled = none) (lo : (d == sysModules) = false) (F : Fr h₀ L s₁.heap m) (N : News h₀ L s₁.heap news) (hm : (d, o) ∈ news) (hd : o.IsDictOf (PySem.strKind prog w) kvs) (hf : FlatPairs PyData.str kvs (kdpD c)) (hc : c.length ≤ 100)
    (h : ∀ D h' tk ys n, StrsAre ys (c.map (·.1)) → Fr h₀ L h' m → News h₀ L h' ((D, W.listOf ys.toArray n) :: news) → (∀ p ∈ news, p.1 ≠ D) → Q (.ref D) { s₁ with heap := h', toks := tk }) : KeysSrc prog w A Q (.ref d) s₁ := ⟨d, o, kvs, c, h₀, L, m, news, rfl, hh, lo, hd, hf, hc, hm, F, N, h⟩
theorem comp_keys {env : Env} {x : PySem.Str} {px px2 pos : Pos} {iter : PySem.Expr} {scope : Scope} (hfree : ∀ y ∈ scope.names, y.2 ≠ .free) (hcell : ∀ y ∈ scope.names, y.2 ≠ .cell) (hkind : scope.kind = .function)
    (hnames : ∀ y ∈ scope.names, y.2 = .local → scope.names.lookup y.1 = some .local) (hx : scope.names.lookup x = some .local) (hdb : (x == ("__debug__" : PySem.Str)) = false)
    (h : wpAny (model prog w) A (eval iter env) (KeysSrc prog w A Q) E s) (hs : ∀ x, foldedSetIterable iter env x = pure x) :
    wpAny (model prog w) A (eval (.ListComp (.Name x px2) [⟨.Name x px, iter, [], 0⟩] scope pos) env) Q E s := by
  refine wpAny_ListComp_walk (fun _ => true) (fun v y => y = v) hfree hcell hkind hnames hx (wpAny_mono h (fun xv s₁ h₁ => ?_) fun _ _ e => e) hs
  obtain ⟨d, o, kvs, c, h₀, L, m, news, rfl, hh, lo, hd, hf, hc, hm, F, N, hQ⟩ := h₁
  obtain ⟨ep, hk⟩ := KdkAt.of hd
  have hat := hk.dictAt (N _ hm).1
  have hlen : kvs.length = c.length := by rw [← kdpD_length c, ← hf.length]
  refine wpAny_pyIter_dict lo hat ?_
  have hne : d ≠ s₁.heap.objs.size := Nat.ne_of_lt hat.lt_size
  refine ⟨s₁.heap.objs.size, [s₁.heap.objs.size, d], [s₁.heap.objs.size], kvs.length, _, _, rfl, Walks.dictKeys (knd := PySem.strKind prog w) hh _ d hne kvs ep, ?_, ⟨⟨_, Heap.get?_push_size _ rfl, rfl, rfl⟩, hat.push _⟩, ?_, ⟨?_, ?_⟩, ?_⟩
  · rw [hlen, sizeLine_eq]; omega
  · intro b hb
    show b < (s₁.heap.push _).objs.size
    rw [Heap.size_push]
    rcases List.mem_cons.mp hb with rfl | hb
    · exact Nat.lt_succ_self _
    · rw [List.mem_singleton.mp hb]
      exact Nat.lt_succ_of_lt hat.lt_size
  · intro C i v s₃ m₃ E' _ _ _ _ _
    exact wpAny_pure ⟨rfl, s₃.heap, s₃.toks, rfl, fun _ _ e => e⟩
  · intro C i v s₃ m₃ E' _ _ hn hmx _ _
    exact wpAny_Name (wpAny_loadName_local (env := compEnv scope C env) hkind (by simp [compEnv, Env.kindOf, hx, hkind]) hn hmx ⟨rfl, s₃.heap, s₃.toks, rfl, fun _ _ e => e⟩) hdb
  · intro D h' tk ys vs hD hl hpl hlen2 hP hF hkp
    have ef : vs.filter (fun _ => true) = vs := by simp
    rw [ef] at hF
    have ey := paired_eq hF
    have hst : StrsAre ys.toList (c.map (·.1)) := by
      rw [ey, ← keys_of (w := w) hf]
      exact strs_of hlen2 hP
    obtain ⟨n, hDn⟩ := hpl
    have keep : ∀ b o, s₁.heap.get? b = some o → h'.get? b = some o := fun b o e => hkp b o (fun hb => by
      rw [List.mem_singleton.mp hb] at e
      exact absurd (Heap.lt_size e) (Nat.lt_irrefl _)) (Heap.get?_push_of_some _ e)
    have hD1 : s₁.heap.get? D = none := by
      cases e : s₁.heap.get? D with
      | none => rfl
      | some o' => rw [Heap.get?_push_of_some _ e] at hD; cases hD
    refine hQ D h' tk ys.toList n hst (F.keeps keep) (fun p hp => ?_) (fun p hp e => ?_)
    · rcases List.mem_cons.mp hp with rfl | hp
      · refine ⟨by simpa [W.listOf] using hDn, fun e => ?_, ?_⟩
        · obtain ⟨oL, _, _, hL, _⟩ := F.ns
          have e' : D = L := e
          rw [e', hL] at hD1; cases hD1
        · cases e : h₀.get? D with
          | none => rfl
          | some o' => rw [F.keep _ _ e] at hD1; cases hD1
      · exact ⟨keep _ _ (N p hp).1, (N p hp).2⟩
    · rw [← e, (N p hp).1] at hD1; cases hD1
end
end Mine
namespace Mine
section
variable {prog : Program} {w : World} {A : Around} {E : Value → Shared → Prop} {s : Shared} {h₀ : Heap} {L d d₂ : Addr} {m : Map} {news : Led} {g : Obj → Led} {o ob : Obj} {kvs kvs2 : List (PySem.Str × Value)} {c c₂ : List (PySem.Str × Int)}
theorem kdp_update {Q : Value → Shared → Prop} (F : Fr h₀ L s.heap m) (N : News h₀ L s.heap news) (U : UpdF d o news g) (hd : o.IsDictOf (PySem.strKind prog w) kvs) (hf : FlatPairs PyData.str kvs (kdpD c)) (m2 : (d₂, ob) ∈ news) (lo2 : (d₂ == sysModules) = false)
    (hd2 : ob.IsDictOf (PySem.strKind prog w) kvs2) (hf2 : FlatPairs PyData.str kvs2 (kdpD c₂)) (hne : @Ne Nat d d₂) (hc : c.length ≤ 64) (hc2 : c₂.length ≤ 64)
    (h : ∀ h' o' kvs', Fr h₀ L h' m → News h₀ L h' (g o') → o'.IsDictOf (PySem.strKind prog w) kvs' → FlatPairs PyData.str kvs' (kdpD (putAll c c₂)) → Q .none { s with heap := h' }) : wpAny (model prog w) A (call (.builtin "dict.update") [.ref d, .ref d₂]) Q E s :=
  kt_update_K (knd := PySem.strKind prog w) PyProof.V.same_str F N U hd hf (TabAt.ofNews N m2 lo2 hd2 hf2) hne (fun h' o' kvs' F' N' a b => h h' o' kvs' F' N' a (by rw [← merge_kdp]; exact b)) (by rw [kdpD_length, kdpD_length, sizeLine_eq]; omega)
end
end Mine

end
-- C40
section
open PySem PySem.Calls PySem.W PyProof.Rows PyProof.V PySem.Spec
namespace Mine
set_option maxRecDepth 100000
theorem kdpPut_ge (c : List (PySem.Str × Int)) (k : PySem.Str) (v : Int) : c.length ≤ (kdpPut c k v).length := by
  unfold kdpPut
  split
  · rw [List.length_map]; exact Nat.le_refl _
  · rw [List.length_append]; exact Nat.le_add_right _ _
theorem putAll_ge (l : List (PySem.Str × Int)) : ∀ c : List (PySem.Str × Int), c.length ≤ (putAll c l).length := by
  induction l with
  | nil => intro c; exact Nat.le_refl _
  | cons p l ih => intro c; exact Nat.le_trans (kdpPut_ge c p.1 p.2) (ih (kdpPut c p.1 p.2))
theorem put_new {c : List (PySem.Str × Int)} {k : PySem.Str} {v : Int} (h : kdpHas c k = false) : putAll c [(k, v)] = c ++ [(k, v)] := by
  show kdpPut c k v = _
  unfold kdpPut
  rw [if_neg (by unfold kdpHas at h; rw [h]; exact Bool.false_ne_true)]
theorem put_z {c : List (PySem.Str × Int)} {k : PySem.Str} {v : Int} (hn : (c.map (·.1)).Nodup) (h : kdpHas c k = false) : putAll [] (putAll c [(k, v)]) = c ++ [(k, v)] := by
  rw [put_new h]
  refine putAll_nil ?_
  rw [List.map_append, List.nodup_append]
  refine ⟨hn, by simp, fun a ha b hb e => ?_⟩
  simp only [List.map_cons, List.map_nil, List.mem_singleton] at hb
  obtain ⟨p, hp, hpe⟩ := List.mem_map.mp ha
  have : kdpHas c k = true := List.any_eq_true.mpr ⟨p, hp, decide_eq_true (by rw [hpe, e, hb])⟩
  rw [h] at this; cases this
theorem dEq_snoc (c : List (PySem.Str × Int)) (p : PySem.Str × Int) : dEq c (c ++ [p]) = false := dEq_len (by simp)
theorem dEq_one {c : List (PySem.Str × Int)} {k : PySem.Str} {v : Int} (hl : 1 ≤ c.length) (h : kdpHas c k = false) : dEq c [(k, v)] = false := by
  cases c with
  | nil => exact absurd hl (by decide)
  | cons p r =>
    have hp : ¬ k = p.1 := fun e => by
      have : kdpHas (p :: r) k = true := List.any_eq_true.mpr ⟨p, .head _, decide_eq_true e.symm⟩
      rw [h] at this; cases this
    unfold dEq dRows
    simp [hp]
theorem news_unpick13 {h₀ h : Heap} {L : Addr} {news : Led} {pa pb pc pd : Addr × Obj} (N : News h₀ L h (pc :: pa :: pb :: pd :: news)) : News h₀ L h (pc :: pa :: pb :: news) := fun p hp => by
  rcases List.mem_cons.mp hp with rfl | hp
  · exact N _ (.head _)
  rcases List.mem_cons.mp hp with rfl | hp
  · exact N _ (.tail _ (.head _))
  rcases List.mem_cons.mp hp with rfl | hp
  · exact N _ (.tail _ (.tail _ (.head _)))
  · exact N p (.tail _ (.tail _ (.tail _ (.tail _ hp))))
theorem dbr1 {x : PySem.Str} {n : Int} {d b : Bool} (h : d = b) : (true && ((x == x) && ((n == n) && (d && true)))) = b := by simp [h]
theorem dbr2 {x : PySem.Str} {a b : Bool} : (a && ((x == x ++ PySem.Str.ofString "x") && b)) = false := by rw [str_x]; simp
theorem dbr3 {n : Int} {a b c : Bool} : (a && (b && ((n == n + 1) && c))) = false := by rw [int_succ]; simp
theorem dbr4 {a b : Bool} (h : a = false) : (a && b) = false := by rw [h]; rfl
theorem kdpD_ne {c : List (PySem.Str × Int)} (h : 1 ≤ c.length) (e : (kdpD c).isEmpty = true) : False := by
  cases c with
  | nil => exact absurd h (by decide)
  | cons => cases e
end Mine

end
-- JA
section
open PySem PySem.Calls PySem.W PyProof.Rows PyProof.V PySem.Spec
namespace Mine
structure Cx (w : World) where
  mean : ExcName → Option Value
  mg : PySem.Str → Option Value
  mb : PySem.Str → Option Value
  dp : Nat
  un : Nat
  gd : Option (List Code)
  cn : PySem.Str
  cs : Scope
  a : Addr
  ccd : Value
  cl : List (PySem.Str × Addr)
  outer : List Env
  A₀ : Around
  base : Heap
  h₀ : Heap
  L : Addr
  m : PySem.Str → Option Value
section
variable {w : World}
def Cx.A (c : Cx w) : Around := ktrTop c.dp c.un c.gd c.cn c.cs c.L c.a c.ccd c.cl c.outer
abbrev Cx.env (c : Cx w) : Env := envX c.cn c.cs c.L c.a c.ccd c.cl
abbrev Wm (w : World) : Model := model PySem.Challenge.rw_jh0019_01.row.prog w
structure Cx.OkR (c : Cx w) (fs : Option Scope) (r u : Nat) : Prop where
  B : Below c.A₀ c.base c.outer c.h₀
  X : (hd.heap_1 w.params).In c.h₀
  T : Top hd.view_1 (looseW hd.view_1 [Str.ofString "Code", Str.ofString "Binary", Str.ofString "DatetimeMS", Str.ofString "DBRef", Str.ofString "InvalidDocument", Str.ofString "Int64", Str.ofString "MaxKey", Str.ofString "MinKey", Str.ofString "ObjectId", Str.ofString "Regex", Str.ofString "Timestamp"]) c.mean c.mg c.mb c.h₀
  hk : c.cs.kind = .function
  hd : c.dp + r < recursionLimit
  hu : c.un + u < cLine
  hs : fs = some c.cs
abbrev Cx.Ok (c : Cx w) (fs : Option Scope) : Prop := c.OkR fs 8 64
def LN (fs : Option Scope) (x : PySem.Str) (k : NameKind) : Prop := (match fs with | some s => s.names.lookup x | none => none) = some k ∧ (x == ("__debug__" : PySem.Str)) = false
def LG (w : World) (x : PySem.Str) (v : Value) : Prop := nsIn (hd.heap_1 w.params) mainGlobals x = some (some v)
def LB (w : World) (x : PySem.Str) (v : Value) : Prop := nsIn (hd.heap_1 w.params) mainGlobals x = some none ∧ bootBuiltins x = some v ∧ x ≠ "__name__"
def J (c : Cx w) {α : Type} (t : Sem α) (news : Led) (K : Led → α → Prop) : Prop :=
  ∀ (s : Shared) (Q : α → Shared → Prop) (E : Value → Shared → Prop), Fr c.h₀ c.L s.heap c.m → News c.h₀ c.L s.heap news →
    (∀ tl v h' tk', K tl v → Fr c.h₀ c.L h' c.m → News c.h₀ c.L h' tl → Q v { s with heap := h', toks := tk' }) →
    wpAny (Wm w) c.A t Q E s
variable {c : Cx w} {α β γ : Type} {news : Led}
theorem J.lift1 {t : Sem α} {t' : Sem β} {f : α → β} {K : Led → β → Prop} (r : ∀ (Q : β → Shared → Prop) (E : Value → Shared → Prop) (s : Shared), wpAny (Wm w) c.A t (fun v s₁ => Q (f v) s₁) E s → wpAny (Wm w) c.A t' Q E s)
    (h : J c t news fun tl v => K tl (f v)) : J c t' news K := fun s Q E F N k => r Q E s (h s _ E F N fun tl v h' tk' hk F' N' => k tl _ h' tk' hk F' N')
theorem J.lift2 {t : Sem α} {t2 : α → Sem β} {t' : Sem γ} {f : α → β → γ} {K : Led → γ → Prop} (r : ∀ (Q : γ → Shared → Prop) (E : Value → Shared → Prop) (s : Shared), wpAny (Wm w) c.A t (fun v s₁ => wpAny (Wm w) c.A (t2 v) (fun u s₂ => Q (f v u) s₂) E s₁) E s → wpAny (Wm w) c.A t' Q E s)
    (h : J c t news fun tl v => J c (t2 v) tl fun tl' u => K tl' (f v u)) : J c t' news K :=
  fun s Q E F N k => r Q E s (h s _ E F N fun tl v h' tk' hj F' N' => hj { s with heap := h', toks := tk' } _ E F' N' fun tl' u h'' tk'' hk F'' N'' => k tl' _ h'' tk'' hk F'' N'')
theorem J.lift3 {δ : Type} {t : Sem α} {t2 : α → Sem β} {t3 : α → β → Sem γ} {t' : Sem δ} {f : α → β → γ → δ} {K : Led → δ → Prop}
    (r : ∀ (Q : δ → Shared → Prop) (E : Value → Shared → Prop) (s : Shared), wpAny (Wm w) c.A t (fun v s₁ => wpAny (Wm w) c.A (t2 v) (fun u s₂ => wpAny (Wm w) c.A (t3 v u) (fun x s₃ => Q (f v u x) s₃) E s₂) E s₁) E s → wpAny (Wm w) c.A t' Q E s)
    (h : J c t news fun tl v => J c (t2 v) tl fun tl' u => J c (t3 v u) tl' fun tl'' x => K tl'' (f v u x)) : J c t' news K :=
  fun s Q E F N k => r Q E s (h s _ E F N fun tl v h' tk' hj F' N' => hj { s with heap := h', toks := tk' } _ E F' N' fun tl' u h'' tk'' hi F'' N'' => hi { s with heap := h'', toks := tk'' } _ E F'' N'' fun tl3 x h3 tk3 hk F3 N3 => k tl3 _ h3 tk3 hk F3 N3)
theorem J.mono {t : Sem α} {K K' : Led → α → Prop} (h : J c t news K) (hk : ∀ tl v, K tl v → K' tl v) : J c t news K' := fun s Q E F N k => h s Q E F N fun tl v h' tk' x F' N' => k tl v h' tk' (hk _ _ x) F' N'
theorem J.sub {t : Sem α} {news' : Led} {K : Led → α → Prop} (hs : ∀ p ∈ news', p ∈ news) (h : J c t news' K) : J c t news K := fun s Q E F N k => h s Q E F (fun p hp => N p (hs p hp)) k
def JR (c : Cx w) {α : Type} (t : Sem α) (news : Led) (K : Led → α → Prop) (P : Value → Heap → Prop) : Prop :=
  ∀ (s : Shared) (Q : α → Shared → Prop) (E : Value → Shared → Prop), Fr c.h₀ c.L s.heap c.m → News c.h₀ c.L s.heap news →
    (∀ tl v h' tk', K tl v → Fr c.h₀ c.L h' c.m → News c.h₀ c.L h' tl → Q v { s with heap := h', toks := tk' }) →
    (∀ e h' tk', P e h' → E e { s with heap := h', toks := tk' }) →
    wpAny (Wm w) c.A t Q E s
def JX (c : Cx w) {α : Type} (t : Sem α) (news : Led) (K : Led → α → Prop) (P : Value → Heap → Prop) : Prop :=
  ∀ (s : Shared) (Q : α → Shared → Prop) (E : Value → Shared → Prop), Fr c.h₀ c.L s.heap c.m → News c.h₀ c.L s.heap news →
    (∀ tl v h' tk' m', K tl v → Fr c.h₀ c.L h' m' → News c.h₀ c.L h' tl → Q v { s with heap := h', toks := tk' }) →
    (∀ e h' tk', P e h' → E e { s with heap := h', toks := tk' }) →
    wpAny (Wm w) c.A t Q E s
variable {P : Value → Heap → Prop}
theorem JR.ofJ {t : Sem α} {K : Led → α → Prop} (h : J c t news K) : JR c t news K P := fun s Q E F N k _ => h s Q E F N k
theorem JX.ofR {t : Sem α} {K : Led → α → Prop} (h : JR c t news K P) : JX c t news K P := fun s Q E F N k x => h s Q E F N (fun tl v h' tk' hk F' N' => k tl v h' tk' _ hk F' N') x
def Flown (c : Cx w) (X : String → Led → Prop) (e : Value) (h' : Heap) : Prop := ∃ cls tl e' tb vs G m', e = .ref e' ∧ X cls tl ∧ RaisedS c.base G (c.env :: c.outer) e' (.type cls) tb vs tl h' ∧ G.UpToSlots h' ∧ Fr c.h₀ c.L G m'
def Thrown (c : Cx w) (X : String → Led → Prop) (e : Value) (h' : Heap) : Prop := ∃ cls tl e' vs h m', e = .ref e' ∧ X cls tl ∧ h.MadeExc h' e' cls vs ∧ Fr c.h₀ c.L h m' ∧ News c.h₀ c.L h tl
end
end Mine

end
-- MA
section
open PySem PySem.Calls PySem.W PyProof.Rows PyProof.V PySem.Spec
namespace Mine
@[reducible] def litOf {f : Addr} {oc : Value} {od : Option Addr} {name qual : PySem.Str} {params : Arguments} {body : List Stmt} {scope : Scope} {dV kV doc pm cdv ct : Value} {an : Option Addr} {osl : Array (Option Value)} (_ : ∀ w : World, (hd.heap_1 w.params).lookup f = some ⟨oc, od, .func (fnOf name qual params body scope dV kV doc pm an cdv ct), osl⟩) : List Stmt × Scope := (body, scope)
@[reducible] def litTry {f : Addr} {oc : Value} {od : Option Addr} {name qual : PySem.Str} {params : Arguments} {body : List Stmt} {hs : List ExceptHandler} {oe fin : List Stmt} {pos : Pos} {scope : Scope} {dV kV doc pm cdv ct : Value} {an : Option Addr} {osl : Array (Option Value)} (_ : ∀ w : World, (hd.heap_1 w.params).lookup f = some ⟨oc, od, .func (fnOf name qual params [.Try body hs oe fin pos] scope dV kV doc pm an cdv ct), osl⟩) : List Stmt × Scope := (body, scope)
def FilledA (_ : Program) (_ : Frag) : Prop := True
theorem filledA (w : World) : FilledA PySem.Challenge.rw_jh0019_01.row.prog (hd.heap_1 w.params) := by
  k_fill
  exact trivial
set_option maxRecDepth 100000 in
noncomputable def madeLit : List Stmt × Scope := by
  refine' litTry (f := 716) fun w => ?ho
  case ho => k_is
noncomputable abbrev madeTry : List Stmt := madeLit.1
set_option maxRecDepth 100000 in
theorem raised_sub {base G : Heap} {l : List Env} {e t : Addr} {cls : Value} {vs : List Value} {news news' : Led} {h : Heap} (hs : ∀ p ∈ news', p ∈ news) (R : RaisedS base G l e cls t vs news h) : RaisedS base G l e cls t vs news' h := by
  obtain ⟨⟨B, h1, h2, h3, h4⟩, h5⟩ := R
  exact ⟨⟨B, h1, h2, fun q hq => h3 q (hs q hq), h4⟩, h5⟩
noncomputable def frameCx (w : World) (name : PySem.Str) (lit : List Stmt × Scope) (a : Addr) (ccd : Value) (mean : ExcName → Option Value) (mg mb : PySem.Str → Option Value) (A₀ : Around) (base h₀ : Heap) (L : Addr) (m : PySem.Str → Option Value) (outer : List Env) : Cx w where
  mean := mean
  mg := mg
  mb := mb
  dp := (A₀.deeper (envOf name lit.2 L a ccd)).depth
  un := (A₀.deeper (envOf name lit.2 L a ccd)).units
  gd := (A₀.deeper (envOf name lit.2 L a ccd)).guards
  cn := name
  cs := lit.2
  a := a
  ccd := ccd
  cl := []
  outer := outer
  A₀ := A₀
  base := base
  h₀ := h₀
  L := L
  m := m
structure MadeAt {w : World} (c : Cx w) (x one two : Value) : Prop where
  ok : c.Ok (some madeLit.2)
  kind : c.m (Str.ofString "kind") = some x
  one : c.m (Str.ofString "one") = some one
  two : c.m (Str.ofString "two") = some two
  hd : c.dp + 20 < recursionLimit
  hu : c.un + 200 < cLine
  kd : KtsDicts (c.outer.filterMap (·.frame)) c.h₀
abbrev madeEnd (K : Led → Value → Prop) : Led → Flow → Prop := fun tl fl => ∃ v tl', fl = .ret v ∧ (∀ p ∈ tl', p ∈ tl) ∧ K tl' v
abbrev madeBad (K : Led → Value → Prop) : String → Led → Prop := fun cls tl => (cls = "ValueError" ∧ ∃ tl', (∀ p ∈ tl', p ∈ tl) ∧ ∀ t, K tl' (.str (Str.ofString "value") t)) ∨ (cls = "OverflowError" ∧ ∃ tl', (∀ p ∈ tl', p ∈ tl) ∧ ∀ t, K tl' (.str (Str.ofString "overflow") t)) ∨ (cls = "TypeError" ∧ ∃ tl', (∀ p ∈ tl', p ∈ tl) ∧ ∀ t, K tl' (.str (Str.ofString "kind") t))
set_option maxRecDepth 100000 in
set_option maxHeartbeats 8000000 in
theorem made_run (w : World) (news : Led) (x one two : Value) (Ret : (Led → Value → Prop) → Prop)
    (h : ∀ c : Cx w, MadeAt c x one two → ∀ K : Led → Value → Prop, Ret K → JX c (execs madeTry c.env) news (madeEnd K) (Flown c (madeBad K))) :
    CallL w 716 [x, one, two] [] news Ret := Mine.into (by exact Mine.thru : Mine.Thru _ (by
    unfold CallL
    k_fill
    intro mean mg mb dp un gd cn cs a ccd cl A₀ h₀ L m s Q E B F X N T hk hd hu hret
    refine wpAny_call ?_
    k_dflt (refine' code_S ?k1 ?k2 ?k3 ?k4 ?k5 ?kA ?kF ?kK ?k6 ?k7 ?k8 ?k9 ?kB ?_ ?c2 ?c3 ?c4 ?c5; (case kA | kF => exact rfl); (case kK => assumption); (case k1 | k2 | k3 | k4 | k5 => k_asm); (case k6 | k7 => k_is); (case k8 => ktr_room); (case k9 => first | exact binds_K (by k_in) rfl (by k_is) rfl rfl rfl | exact BindsTo.of_eq rfl); (case kB => exact locs rfl); (case c2 | c3 | c4 => exact rfl); (case c5 => decide); k_whole; intro g' L' h' FG' F' N' B' X' T' D'; (try dsimp only); (try k_lift B'); (try k_fold))
    repeat' ((fail_if_success (with_reducible show wpAny _ _ (execs [Stmt.If _ _ _ _, _, _, _, _, _, _] _) _ _ _)); (first | (k_unfold; (try dsimp only)) | (k_end; wrow_close) | walk1 | (dsimp only; walk1) | (leave1; walk_say "STEP leave1"; try dsimp only) | fail "no step"))
    refine h (frameCx w (Str.ofString "_law_made") madeLit 716 (.ref 715) mean mg mb _ _ g' L' _ _) ⟨⟨B', X', T', rfl, ?k1, ?k2, rfl⟩, rfl, rfl, rfl, ?k3, ?k4, D'⟩ _ hret _ _ _ F' N' ?ok ?bad
    case k1 => exact (by omega : dp + 1 + 8 < recursionLimit)
    case k3 => exact (by omega : dp + 1 + 20 < recursionLimit)
    case k2 => have hcL9 := cLine_is; show ((ktrTop dp un gd cn cs L a ccd cl []).deeper (envOf (Str.ofString "_law_made") madeLit.2 L' 716 (.ref 715))).units + 64 < cLine; simp only [units_deeper, ktrTop]; omega
    case k4 => have hcL9 := cLine_is; show ((ktrTop dp un gd cn cs L a ccd cl []).deeper (envOf (Str.ofString "_law_made") madeLit.2 L' 716 (.ref 715))).units + 200 < cLine; simp only [units_deeper, ktrTop]; omega
    case ok =>
      intro tl fl h2 tk2 m2 hv F2 N2
      obtain ⟨v, tl', rfl, hs, hK⟩ := hv
      exact leaveS0_ F2 (fun p hp => N2 p (hs p hp)) KtsTurn.refl fun F3 N3 => hK _ _ F3 N3
    case bad =>
      clear F' N' hret
      intro ex h2 tk2 hx
      obtain ⟨cls, tl, e, tb, vs, G, m2, rfl, hx, R1, U1, F1⟩ := hx
      have F3 : Fr g' L' G m2 := F1
      clear F1
      rcases hx with ⟨rfl, tl', hs, hK⟩ | ⟨rfl, tl', hs, hK⟩ | ⟨rfl, tl', hs, hK⟩
      · have R2 : RaisedS h₀ G [envOf (Str.ofString "_law_made") madeLit.2 L' 716 (.ref 715), envX cn cs L a ccd cl] e (.type "ValueError") tb vs tl' h2 := raised_sub hs R1
        clear R1 hs
        unfold madeLit at R2
        dsimp only at R2
        k_steps
        all_goals exact hK _ _ _ (by k_asm) (by k_asm)
      · have R2 : RaisedS h₀ G [envOf (Str.ofString "_law_made") madeLit.2 L' 716 (.ref 715), envX cn cs L a ccd cl] e (.type "OverflowError") tb vs tl' h2 := raised_sub hs R1
        clear R1 hs
        unfold madeLit at R2
        dsimp only at R2
        k_steps
        all_goals exact hK _ _ _ (by k_asm) (by k_asm)
      · have R2 : RaisedS h₀ G [envOf (Str.ofString "_law_made") madeLit.2 L' 716 (.ref 715), envX cn cs L a ccd cl] e (.type "TypeError") tb vs tl' h2 := raised_sub hs R1
        clear R1 hs
        unfold madeLit at R2
        dsimp only at R2
        k_steps
        all_goals exact hK _ _ _ (by k_asm) (by k_asm)))
end Mine

end
-- MB
section
open PySem PySem.Calls PySem.W PyProof.Rows PyProof.V PySem.Spec
namespace Mine
def CallX (w : World) (f : Addr) (pos : List Value) (kw : List (PySem.Str × Value)) (news : Led) (Ret : (Led → Value → Prop) → Prop) (Bad : String → Prop) : Prop :=
  ∀ (mean : ExcName → Option Value) (mg mb : PySem.Str → Option Value) (dp un : Nat) (gd : Option (List Code)) (cn : PySem.Str) (cs : Scope) (a : Addr) (ccd : Value) (cl : List (PySem.Str × Addr)) (outer : List Env) (A₀ : Around) (base h₀ : Heap) (L : Addr) (m : PySem.Str → Option Value) (s : Shared) (Q E : Value → Shared → Prop),
    Below A₀ base outer h₀ → Fr h₀ L s.heap m → (hd.heap_1 w.params).In h₀ → News h₀ L s.heap news → Top hd.view_1 (looseW hd.view_1 [Str.ofString "Code", Str.ofString "Binary", Str.ofString "DatetimeMS", Str.ofString "DBRef", Str.ofString "InvalidDocument", Str.ofString "Int64", Str.ofString "MaxKey", Str.ofString "MinKey", Str.ofString "ObjectId", Str.ofString "Regex", Str.ofString "Timestamp"]) mean mg mb h₀ →
    cs.kind = .function → dp + 8 < recursionLimit → un + 64 < cLine →
    Ret (fun tl r => ∀ h' tk', Fr h₀ L h' m → News h₀ L h' tl → Q r { s with heap := h', toks := tk' }) →
    (∀ X, Bad X → KtsDicts (outer.filterMap (·.frame)) h₀ ∧ ∀ e tb vs G h' tk', RaisedS base G (envX cn cs L a ccd cl :: outer) e (.type X) tb vs news h' → G.UpToSlots h' → Fr h₀ L G m → E (.ref e) { s with heap := h', toks := tk' }) →
    wpAny (model PySem.Challenge.rw_jh0019_01.row.prog w) (ktrTop dp un gd cn cs L a ccd cl outer) (call (.ref f) pos kw) Q E s
structure InitAt {w : World} (c : Cx w) (sc : Scope) (news : Led) (x d : Addr) : Prop where
  ok : c.OkR (some sc) 5 10
  hdx : @LT.lt Nat _ d x
  hd : ∀ p ∈ news, @LT.lt Nat _ p.1 d
def initEnd (x : Addr) (K : Led → Value → Prop) (tl : Led) (fl : Flow) : Prop := (match fl with | .ret v => v | _ => Value.none) = .none ∧ ∃ tl', (∀ p ∈ tl', p ∈ tl) ∧ K tl' (.ref x)
def initBad (news : Led) (Bad : String → Prop) : String → Led → Prop := fun cls tl => Bad cls ∧ ∀ p ∈ news, p ∈ tl
theorem ctor_run {w : World} {f fI : Addr} {name qual : PySem.Str} {params : Arguments} {body : List Stmt} {scope : Scope} {dV kV doc pm cdv ct oc : Value} {an od : Option Addr} {osl : Array (Option Value)} {pos : List Value} {kw : List (PySem.Str × Value)} {news : Led} {Ret : (Led → Value → Prop) → Prop} {Bad : String → Prop} {binds : Addr → List (PySem.Str × Value)}
    (hm : makesIn (hd.heap_1 w.params) f = true) (hi : findIn (hd.heap_1 w.params) (.ref f) "__init__" = some (some (.ref fI))) (hf : isFn (hd.heap_1 w.params) (.ref fI) = true)
    (ho : (hd.heap_1 w.params).lookup fI = some ⟨oc, od, .func (fnOf name qual params body scope dV kV doc pm an cdv ct), osl⟩) (hcd : codeIn (hd.heap_1 w.params) cdv qual = true)
    (hbind : ∀ (s : Shared) (x : Addr), (hd.heap_1 w.params).In s.heap → BindsTo s (fnOf name qual params body scope dV kV doc pm an cdv ct) ⟨.ref x :: pos, kw⟩ (binds x))
    (hloc : ∀ x, ∀ y ∈ binds x, scope.names.lookup y.1 = some .local)
    (hsc : scope.isCoroutine = false ∧ scope.isGenerator = false ∧ scope.kind = .function) (hcell : ∀ x ∈ scope.names, x.2 ≠ .cell) (hun : (Code.builtin "type.__call__" ⟨.ref f :: pos, kw⟩).cUnits ≤ 5)
    (h : ∀ (c : Cx w) (x d : Addr), InitAt c scope news x d → (∀ y v, (binds x).reverse.lookup y = some v → c.m y = some v) → ∀ K, Ret K → JX c (execs body c.env) ((x, instObj f d) :: (d, dictOf [] 0) :: news) (initEnd x K) (Thrown c (initBad news Bad))) :
    CallX w f pos kw news Ret Bad := by
  intro mean mg mb dp un gd cn cs a ccd cl outer A₀ base h₀ L m s Q E B F X N T hk hd hu hret hbad
  refine call_cls F X N hm hi hf fun x d h1 F1 N1 l1 l2 => ?_
  refine code_def (A₀ := A₀) (base := base) (env := envX cn cs L a ccd cl) (outer := outer) B F1 X N1 T rfl rfl hk ho hcd ?room (hbind _ x (X.keeps F1.keep)) (hloc x) ?_ hsc.1 hsc.2.1 hsc.2.2 hcell
  case room => exact (by omega : dp + 1 < recursionLimit)
  intro g L' h2 FG F2 N2 B2 X2 T2
  refine h (frameCx w qual (body, scope) fI cdv mean mg mb _ base g L' _ _) x d ⟨⟨B2, X2, T2, hsc.2.2, ?k1, ?k2, rfl⟩, l2, l1⟩ (fun _ _ e => e) _ hret _ _ _ F2 N2 ?ok ?bad
  case k1 => exact (by omega : dp + 1 + 1 + 5 < recursionLimit)
  case k2 => exact (by have hcL9 := cLine_is; omega : un + (Code.builtin "type.__call__" ⟨.ref f :: pos, kw⟩).cUnits + 3 + 10 < cLine)
  case ok =>
    intro tl fl h3 tk3 m3 hv F3 N3
    obtain ⟨hv, tl', hs, hK⟩ := hv
    refine leaveK_ F3 (fun p hp => N3 p (hs p hp)) fun F4 N4 => ⟨hv, hK _ _ F4 N4⟩
  case bad =>
    intro ex h3 tk3 hx
    obtain ⟨cls, tl, e, vs, h4, m3, rfl, ⟨hB, hs⟩, M1, F3, N3⟩ := hx
    obtain ⟨kd, hE⟩ := hbad cls hB
    exact leave_raiseS B2 M1.of F3 (fun p hp => N3 p (hs p hp)) (fun h5 t S _ U => hE e t vs g h5 _ S U FG) hsc.2.2
theorem ctor_runK {w : World} {f fI : Addr} {name qual : PySem.Str} {params : Arguments} {body : List Stmt} {scope : Scope} {dV kV doc pm cdv ct oc : Value} {an od : Option Addr} {osl : Array (Option Value)} {pos : List Value} {kw : List (PySem.Str × Value)} {news : Led} {Ret : (Led → Value → Prop) → Prop} {Bad : String → Prop} {nm : PySem.Str} {ex : List (PySem.Str × Value)} {front : Addr → List (PySem.Str × Value)} {DD : List (PyData × PyData)} {g₁ : Addr → Addr → Sem (List (PySem.Str × Value))}
    (hm : makesIn (hd.heap_1 w.params) f = true) (hi : findIn (hd.heap_1 w.params) (.ref f) "__init__" = some (some (.ref fI))) (hf : isFn (hd.heap_1 w.params) (.ref fI) = true)
    (ho : (hd.heap_1 w.params).lookup fI = some ⟨oc, od, .func (fnOf name qual params body scope dV kV doc pm an cdv ct), osl⟩) (hcd : codeIn (hd.heap_1 w.params) cdv qual = true)
    (hx : kw.filter (fun x => !ownKw params x.1) = ex) (hnm : params.kwarg.map (·.arg) = some nm) (hn : kwDistinct ex = true) (hD : FlatPairs PyData.str ex DD)
    (hR : ∀ x, peek (hd.heap_1 w.params) ⟨PySem.Challenge.rw_jh0019_01.row.prog, w.params⟩ (bindArgs (fnCut (fnOf name qual params body scope dV kV doc pm an cdv ct)) (argsCut params ⟨.ref x :: pos, kw⟩)) = some (front x))
    (hp : ∀ x, peekA (hd.heap_1 w.params) ⟨PySem.Challenge.rw_jh0019_01.row.prog, w.params⟩ (bindArgs (fnOf name qual params body scope dV kV doc pm an cdv ct) ⟨.ref x :: pos, kw⟩) = some (dictOf [] 0, g₁ x))
    (hk₁ : ∀ x D, g₁ x D = (forIn ex PUnit.unit (fun x _ => (nsSet D x.1 x.2 >>= fun _ => pure (ForInStep.yield PUnit.unit))) >>= fun _ => pure (front x ++ [(nm, Value.ref D)])))
    (hloc : ∀ x D, ∀ y ∈ front x ++ [(nm, Value.ref D)], scope.names.lookup y.1 = some .local)
    (hsc : scope.isCoroutine = false ∧ scope.isGenerator = false ∧ scope.kind = .function) (hcell : ∀ x ∈ scope.names, x.2 ≠ .cell) (hun : (Code.builtin "type.__call__" ⟨.ref f :: pos, kw⟩).cUnits ≤ 5)
    (h : ∀ (c : Cx w) (x d D : Addr) (o : Obj), InitAt c scope news x d → (∀ y v, (front x ++ [(nm, Value.ref D)]).reverse.lookup y = some v → c.m y = some v) → @LT.lt Nat _ x D → (D == sysModules) = false → o.IsDictOf (strKind PySem.Challenge.rw_jh0019_01.row.prog w) ex → FlatPairs PyData.str ex DD → ∀ K, Ret K → JX c (execs body c.env) ((D, o) :: (x, instObj f d) :: (d, dictOf [] 0) :: news) (initEnd x K) (Thrown c (initBad news Bad))) :
    CallX w f pos kw news Ret Bad := by
  intro mean mg mb dp un gd cn cs a ccd cl outer A₀ base h₀ L m s Q E B F X N T hk hd hu hret hbad
  refine call_cls F X N hm hi hf fun x d h1 F1 N1 l1 l2 => ?_
  refine kp_more (A₀ := A₀) (base := base) (env := envX cn cs L a ccd cl) (outer := outer) B F1 X N1 T rfl rfl hk ho hcd ?room hx hnm hn hD (hR x) (hp x) (hk₁ x) (hloc x) ?_ hsc.1 hsc.2.1 hsc.2.2 hcell
  case room => exact (by omega : dp + 1 < recursionLimit)
  intro D o g L' h2 tk l3 hD1 hD2 hD3 FG F2 N2 B2 X2 T2
  refine h (frameCx w qual (body, scope) fI cdv mean mg mb _ base g L' _ _) x d D o ⟨⟨B2, X2, T2, hsc.2.2, ?k1, ?k2, rfl⟩, l2, l1⟩ (fun _ _ e => e) (l3 _ (.head _)) hD1 hD2 hD3 _ hret _ _ _ F2 N2 ?ok ?bad
  case k1 => exact (by omega : dp + 1 + 1 + 5 < recursionLimit)
  case k2 => exact (by have hcL9 := cLine_is; omega : un + (Code.builtin "type.__call__" ⟨.ref f :: pos, kw⟩).cUnits + 3 + 10 < cLine)
  case ok =>
    intro tl fl h3 tk3 m3 hv F3 N3
    obtain ⟨hv, tl', hs, hK⟩ := hv
    refine leaveK_ F3 (fun p hp => N3 p (hs p hp)) fun F4 N4 => ⟨hv, hK _ _ F4 N4⟩
  case bad =>
    intro ex h3 tk3 hx
    obtain ⟨cls, tl, e, vs, h4, m3, rfl, ⟨hB, hs⟩, M1, F3, N3⟩ := hx
    obtain ⟨kd, hE⟩ := hbad cls hB
    exact leave_raiseS B2 M1.of F3 (fun p hp => N3 p (hs p hp)) (fun h5 t S _ U => hE e t vs g h5 _ S U FG) hsc.2.2
def Filled (_ : Program) (_ : Frag) : Prop := True
theorem filled (w : World) : Filled PySem.Challenge.rw_jh0019_01.row.prog (hd.heap_1 w.params) := by
  k_fill
  exact trivial
noncomputable def binLit : List Stmt × Scope := by
  refine' litOf (f := 81) fun w => ?ho
  case ho => k_is
set_option maxRecDepth 100000 in
theorem bin_run {w : World} {news : Led} {x y : Value} {Ret : (Led → Value → Prop) → Prop} {Bad : String → Prop}
    (h : ∀ (c : Cx w) (a d : Addr), InitAt c binLit.2 news a d → c.m (Str.ofString "self") = some (.ref a) → c.m (Str.ofString "data") = some x → c.m (Str.ofString "subtype") = some y → ∀ K, Ret K → JX c (execs binLit.1 c.env) ((a, instObj 144 d) :: (d, dictOf [] 0) :: news) (initEnd a K) (Thrown c (initBad news Bad))) : CallX w 144 [x, y] [] news Ret Bad := by
  refine' ctor_run (fI := 81) ?hm ?hi ?hf ?ho ?hcd ?hb ?hl ?sc ?hc ?hu ?h
  case ho | hm | hi | hf | hcd => k_is
  case hb => exact fun s a X => binds_K X rfl (by k_is) rfl rfl rfl
  case hl => exact fun a => locs rfl
  case sc => exact ⟨rfl, rfl, rfl⟩
  case hc => decide
  case hu => exact Nat.le_of_ble_eq_true rfl
  case h => exact fun c a d I hm K hK => h c a d I (hm _ _ rfl) (hm _ _ rfl) (hm _ _ rfl) K hK
theorem CallC.ofX {w : World} {f : Addr} {pos : List Value} {kw : List (PySem.Str × Value)} {news : Led} {Ret : (Led → Value → Prop) → Prop} (H : CallX w f pos kw news Ret fun _ => False) : CallC w f pos kw news Ret :=
  fun mean mg mb dp un gd cn cs a ccd cl outer A₀ base h₀ L m s Q E B F X N T hk hd hu hret => H mean mg mb dp un gd cn cs a ccd cl outer A₀ base h₀ L m s Q E B F X N T hk hd hu hret fun _ h => h.elim
end Mine

end
-- MB2
section
open PySem PySem.Calls PySem.W PyProof.Rows PyProof.V PySem.Spec
namespace Mine
set_option maxRecDepth 100000
theorem filled2 (w : World) : Filled PySem.Challenge.rw_jh0019_01.row.prog (hd.heap_1 w.params) := by
  k_fill
  exact trivial
structure HasD (w : World) (D : Addr) (o : Obj) (ex : List (PySem.Str × Value)) (x : Addr) (cc : List (PySem.Str × Int)) : Prop where
  hx : @LT.lt Nat _ x D
  lo : (D == sysModules) = false
  hd : o.IsDictOf (strK w) ex
  hf : FlatPairs PyData.str ex (kdpD cc)
noncomputable def codeLit : List Stmt × Scope := by
  refine' litOf (f := 36) fun w => ?ho
  case ho => k_is
theorem code_run1 {w : World} {news : Led} {v1 : Value} {Ret : (Led → Value → Prop) → Prop} {Bad : String → Prop}
    (h : ∀ (c : Cx w) (a d D : Addr) (o : Obj), InitAt c codeLit.2 news a d → HasD w D o [] a [] → c.m (Str.ofString "self") = some (.ref a) → c.m (Str.ofString "code") = some v1 → c.m (Str.ofString "scope") = some (.none) → c.m (Str.ofString "kwargs") = some (.ref D) → ∀ K, Ret K → JX c (execs codeLit.1 c.env) ((D, o) :: (a, instObj 61 d) :: (d, dictOf [] 0) :: news) (initEnd a K) (Thrown c (initBad news Bad))) : CallX w 61 [v1] [] news Ret Bad := by
  refine' ctor_runK (fI := 36) ?hm ?hi ?hf ?ho ?hcd ?kX ?kM ?kN ?kD ?kR ?kP ?kT ?hl ?sc ?hc ?hu ?h
  case ho | hm | hi | hf | hcd => k_is
  case kX => kp_lit
  case kM | kN => exact rfl
  case kD => kp_flats
  case kR | kP => exact fun _ => rfl
  case kT => exact fun _ _ => rfl
  case hl => exact fun _ _ => locs rfl
  case sc => exact ⟨rfl, rfl, rfl⟩
  case hc => decide
  case hu => exact Nat.le_of_ble_eq_true rfl
  case h => exact fun c a d D o I hm l1 l2 l3 l4 K hK => h c a d D o I ⟨l1, l2, l3, l4⟩ (hm _ _ rfl) (hm _ _ rfl) (hm _ _ rfl) (hm _ _ rfl) K hK
theorem code_run {w : World} {news : Led} {v1 v2 : Value} {Ret : (Led → Value → Prop) → Prop} {Bad : String → Prop}
    (h : ∀ (c : Cx w) (a d D : Addr) (o : Obj), InitAt c codeLit.2 news a d → HasD w D o [] a [] → c.m (Str.ofString "self") = some (.ref a) → c.m (Str.ofString "code") = some v1 → c.m (Str.ofString "scope") = some v2 → c.m (Str.ofString "kwargs") = some (.ref D) → ∀ K, Ret K → JX c (execs codeLit.1 c.env) ((D, o) :: (a, instObj 61 d) :: (d, dictOf [] 0) :: news) (initEnd a K) (Thrown c (initBad news Bad))) : CallX w 61 [v1, v2] [] news Ret Bad := by
  refine' ctor_runK (fI := 36) ?hm ?hi ?hf ?ho ?hcd ?kX ?kM ?kN ?kD ?kR ?kP ?kT ?hl ?sc ?hc ?hu ?h
  case ho | hm | hi | hf | hcd => k_is
  case kX => kp_lit
  case kM | kN => exact rfl
  case kD => kp_flats
  case kR | kP => exact fun _ => rfl
  case kT => exact fun _ _ => rfl
  case hl => exact fun _ _ => locs rfl
  case sc => exact ⟨rfl, rfl, rfl⟩
  case hc => decide
  case hu => exact Nat.le_of_ble_eq_true rfl
  case h => exact fun c a d D o I hm l1 l2 l3 l4 K hK => h c a d D o I ⟨l1, l2, l3, l4⟩ (hm _ _ rfl) (hm _ _ rfl) (hm _ _ rfl) (hm _ _ rfl) K hK
theorem code_run1a {w : World} {news : Led} {v1 : Value} {kv : Int} {tkv : Tok} {Ret : (Led → Value → Prop) → Prop} {Bad : String → Prop}
    (h : ∀ (c : Cx w) (a d D : Addr) (o : Obj), InitAt c codeLit.2 news a d → HasD w D o [(Str.ofString "a", .int kv tkv)] a [(Str.ofString "a", kv)] → c.m (Str.ofString "self") = some (.ref a) → c.m (Str.ofString "code") = some v1 → c.m (Str.ofString "scope") = some (.none) → c.m (Str.ofString "kwargs") = some (.ref D) → ∀ K, Ret K → JX c (execs codeLit.1 c.env) ((D, o) :: (a, instObj 61 d) :: (d, dictOf [] 0) :: news) (initEnd a K) (Thrown c (initBad news Bad))) : CallX w 61 [v1] [(Str.ofString "a", .int kv tkv)] news Ret Bad := by
  refine' ctor_runK (fI := 36) ?hm ?hi ?hf ?ho ?hcd ?kX ?kM ?kN ?kD ?kR ?kP ?kT ?hl ?sc ?hc ?hu ?h
  case ho | hm | hi | hf | hcd => k_is
  case kX => kp_lit
  case kM | kN => exact rfl
  case kD => kp_flats
  case kR | kP => exact fun _ => rfl
  case kT => exact fun _ _ => rfl
  case hl => exact fun _ _ => locs rfl
  case sc => exact ⟨rfl, rfl, rfl⟩
  case hc => decide
  case hu => exact Nat.le_of_ble_eq_true rfl
  case h => exact fun c a d D o I hm l1 l2 l3 l4 K hK => h c a d D o I ⟨l1, l2, l3, l4⟩ (hm _ _ rfl) (hm _ _ rfl) (hm _ _ rfl) (hm _ _ rfl) K hK
theorem code_run2b {w : World} {news : Led} {v1 v2 : Value} {kv : Int} {tkv : Tok} {Ret : (Led → Value → Prop) → Prop} {Bad : String → Prop}
    (h : ∀ (c : Cx w) (a d D : Addr) (o : Obj), InitAt c codeLit.2 news a d → HasD w D o [(Str.ofString "b", .int kv tkv)] a [(Str.ofString "b", kv)] → c.m (Str.ofString "self") = some (.ref a) → c.m (Str.ofString "code") = some v1 → c.m (Str.ofString "scope") = some v2 → c.m (Str.ofString "kwargs") = some (.ref D) → ∀ K, Ret K → JX c (execs codeLit.1 c.env) ((D, o) :: (a, instObj 61 d) :: (d, dictOf [] 0) :: news) (initEnd a K) (Thrown c (initBad news Bad))) : CallX w 61 [v1, v2] [(Str.ofString "b", .int kv tkv)] news Ret Bad := by
  refine' ctor_runK (fI := 36) ?hm ?hi ?hf ?ho ?hcd ?kX ?kM ?kN ?kD ?kR ?kP ?kT ?hl ?sc ?hc ?hu ?h
  case ho | hm | hi | hf | hcd => k_is
  case kX => kp_lit
  case kM | kN => exact rfl
  case kD => kp_flats
  case kR | kP => exact fun _ => rfl
  case kT => exact fun _ _ => rfl
  case hl => exact fun _ _ => locs rfl
  case sc => exact ⟨rfl, rfl, rfl⟩
  case hc => decide
  case hu => exact Nat.le_of_ble_eq_true rfl
  case h => exact fun c a d D o I hm l1 l2 l3 l4 K hK => h c a d D o I ⟨l1, l2, l3, l4⟩ (hm _ _ rfl) (hm _ _ rfl) (hm _ _ rfl) (hm _ _ rfl) K hK
noncomputable def dateLit : List Stmt × Scope := by
  refine' litOf (f := 184) fun w => ?ho
  case ho => k_is
theorem date_run {w : World} {news : Led} {v1 : Value} {Ret : (Led → Value → Prop) → Prop} {Bad : String → Prop}
    (h : ∀ (c : Cx w) (a d : Addr), InitAt c dateLit.2 news a d → c.m (Str.ofString "self") = some (.ref a) → c.m (Str.ofString "value") = some v1 → ∀ K, Ret K → JX c (execs dateLit.1 c.env) ((a, instObj 201 d) :: (d, dictOf [] 0) :: news) (initEnd a K) (Thrown c (initBad news Bad))) : CallX w 201 [v1] [] news Ret Bad := by
  refine' ctor_run (fI := 184) ?hm ?hi ?hf ?ho ?hcd ?hb ?hl ?sc ?hc ?hu ?h
  case ho | hm | hi | hf | hcd => k_is
  case hb => exact fun s a X => BindsTo.of_eq rfl
  case hl => exact fun a => locs rfl
  case sc => exact ⟨rfl, rfl, rfl⟩
  case hc => decide
  case hu => exact Nat.le_of_ble_eq_true rfl
  case h => exact fun c a d I hm K hK => h c a d I (hm _ _ rfl) (hm _ _ rfl) K hK
noncomputable def int64Lit : List Stmt × Scope := by
  refine' litOf (f := 334) fun w => ?ho
  case ho => k_is
theorem int64_run {w : World} {news : Led} {v1 : Value} {Ret : (Led → Value → Prop) → Prop} {Bad : String → Prop}
    (h : ∀ (c : Cx w) (a d : Addr), InitAt c int64Lit.2 news a d → c.m (Str.ofString "self") = some (.ref a) → c.m (Str.ofString "value") = some v1 → ∀ K, Ret K → JX c (execs int64Lit.1 c.env) ((a, instObj 344 d) :: (d, dictOf [] 0) :: news) (initEnd a K) (Thrown c (initBad news Bad))) : CallX w 344 [v1] [] news Ret Bad := by
  refine' ctor_run (fI := 334) ?hm ?hi ?hf ?ho ?hcd ?hb ?hl ?sc ?hc ?hu ?h
  case ho | hm | hi | hf | hcd => k_is
  case hb => exact fun s a X => BindsTo.of_eq rfl
  case hl => exact fun a => locs rfl
  case sc => exact ⟨rfl, rfl, rfl⟩
  case hc => decide
  case hu => exact Nat.le_of_ble_eq_true rfl
  case h => exact fun c a d I hm K hK => h c a d I (hm _ _ rfl) (hm _ _ rfl) K hK
noncomputable def regexLit : List Stmt × Scope := by
  refine' litOf (f := 609) fun w => ?ho
  case ho => k_is
theorem regex_run1 {w : World} {news : Led} {v1 : Value} {Ret : (Led → Value → Prop) → Prop} {Bad : String → Prop}
    (h : ∀ (c : Cx w) (a d : Addr), InitAt c regexLit.2 news a d → c.m (Str.ofString "self") = some (.ref a) → c.m (Str.ofString "pattern") = some v1 → (∃ t, c.m (Str.ofString "flags") = some (.int 0 t)) → ∀ K, Ret K → JX c (execs regexLit.1 c.env) ((a, instObj 626 d) :: (d, dictOf [] 0) :: news) (initEnd a K) (Thrown c (initBad news Bad))) : CallX w 626 [v1] [] news Ret Bad := by
  refine' ctor_run (fI := 609) ?hm ?hi ?hf ?ho ?hcd ?hb ?hl ?sc ?hc ?hu ?h
  case ho | hm | hi | hf | hcd => k_is
  case hb => exact fun s a X => binds_K X rfl (by k_is) rfl rfl rfl
  case hl => exact fun a => locs rfl
  case sc => exact ⟨rfl, rfl, rfl⟩
  case hc => decide
  case hu => exact Nat.le_of_ble_eq_true rfl
  case h => exact fun c a d I hm K hK => h c a d I (hm _ _ rfl) (hm _ _ rfl) ⟨_, hm _ _ rfl⟩ K hK
theorem regex_run {w : World} {news : Led} {v1 v2 : Value} {Ret : (Led → Value → Prop) → Prop} {Bad : String → Prop}
    (h : ∀ (c : Cx w) (a d : Addr), InitAt c regexLit.2 news a d → c.m (Str.ofString "self") = some (.ref a) → c.m (Str.ofString "pattern") = some v1 → c.m (Str.ofString "flags") = some v2 → ∀ K, Ret K → JX c (execs regexLit.1 c.env) ((a, instObj 626 d) :: (d, dictOf [] 0) :: news) (initEnd a K) (Thrown c (initBad news Bad))) : CallX w 626 [v1, v2] [] news Ret Bad := by
  refine' ctor_run (fI := 609) ?hm ?hi ?hf ?ho ?hcd ?hb ?hl ?sc ?hc ?hu ?h
  case ho | hm | hi | hf | hcd => k_is
  case hb => exact fun s a X => binds_K X rfl (by k_is) rfl rfl rfl
  case hl => exact fun a => locs rfl
  case sc => exact ⟨rfl, rfl, rfl⟩
  case hc => decide
  case hu => exact Nat.le_of_ble_eq_true rfl
  case h => exact fun c a d I hm K hK => h c a d I (hm _ _ rfl) (hm _ _ rfl) (hm _ _ rfl) K hK
theorem bin_run1 {w : World} {news : Led} {v1 : Value} {Ret : (Led → Value → Prop) → Prop} {Bad : String → Prop}
    (h : ∀ (c : Cx w) (a d : Addr), InitAt c binLit.2 news a d → c.m (Str.ofString "self") = some (.ref a) → c.m (Str.ofString "data") = some v1 → (∃ t, c.m (Str.ofString "subtype") = some (.int 0 t)) → ∀ K, Ret K → JX c (execs binLit.1 c.env) ((a, instObj 144 d) :: (d, dictOf [] 0) :: news) (initEnd a K) (Thrown c (initBad news Bad))) : CallX w 144 [v1] [] news Ret Bad := by
  refine' ctor_run (fI := 81) ?hm ?hi ?hf ?ho ?hcd ?hb ?hl ?sc ?hc ?hu ?h
  case ho | hm | hi | hf | hcd => k_is
  case hb => exact fun s a X => binds_K X rfl (by k_is) rfl rfl rfl
  case hl => exact fun a => locs rfl
  case sc => exact ⟨rfl, rfl, rfl⟩
  case hc => decide
  case hu => exact Nat.le_of_ble_eq_true rfl
  case h => exact fun c a d I hm K hK => h c a d I (hm _ _ rfl) (hm _ _ rfl) ⟨_, hm _ _ rfl⟩ K hK
noncomputable def refLit : List Stmt × Scope := by
  refine' litOf (f := 220) fun w => ?ho
  case ho => k_is
theorem ref_run {w : World} {news : Led} {v1 v2 v3 : Value} {Ret : (Led → Value → Prop) → Prop} {Bad : String → Prop}
    (h : ∀ (c : Cx w) (a d D : Addr) (o : Obj), InitAt c refLit.2 news a d → HasD w D o [] a [] → c.m (Str.ofString "self") = some (.ref a) → c.m (Str.ofString "collection") = some v1 → c.m (Str.ofString "id") = some v2 → c.m (Str.ofString "database") = some v3 → c.m (Str.ofString "_extra") = some (.none) → c.m (Str.ofString "kwargs") = some (.ref D) → ∀ K, Ret K → JX c (execs refLit.1 c.env) ((D, o) :: (a, instObj 261 d) :: (d, dictOf [] 0) :: news) (initEnd a K) (Thrown c (initBad news Bad))) : CallX w 261 [v1, v2, v3] [] news Ret Bad := by
  refine' ctor_runK (fI := 220) ?hm ?hi ?hf ?ho ?hcd ?kX ?kM ?kN ?kD ?kR ?kP ?kT ?hl ?sc ?hc ?hu ?h
  case ho | hm | hi | hf | hcd => k_is
  case kX => kp_lit
  case kM | kN => exact rfl
  case kD => kp_flats
  case kR | kP => exact fun _ => rfl
  case kT => exact fun _ _ => rfl
  case hl => exact fun _ _ => locs rfl
  case sc => exact ⟨rfl, rfl, rfl⟩
  case hc => decide
  case hu => exact Nat.le_of_ble_eq_true rfl
  case h => exact fun c a d D o I hm l1 l2 l3 l4 K hK => h c a d D o I ⟨l1, l2, l3, l4⟩ (hm _ _ rfl) (hm _ _ rfl) (hm _ _ rfl) (hm _ _ rfl) (hm _ _ rfl) (hm _ _ rfl) K hK
theorem ref_run4 {w : World} {news : Led} {v1 v2 v3 v4 : Value} {Ret : (Led → Value → Prop) → Prop} {Bad : String → Prop}
    (h : ∀ (c : Cx w) (a d D : Addr) (o : Obj), InitAt c refLit.2 news a d → HasD w D o [] a [] → c.m (Str.ofString "self") = some (.ref a) → c.m (Str.ofString "collection") = some v1 → c.m (Str.ofString "id") = some v2 → c.m (Str.ofString "database") = some v3 → c.m (Str.ofString "_extra") = some v4 → c.m (Str.ofString "kwargs") = some (.ref D) → ∀ K, Ret K → JX c (execs refLit.1 c.env) ((D, o) :: (a, instObj 261 d) :: (d, dictOf [] 0) :: news) (initEnd a K) (Thrown c (initBad news Bad))) : CallX w 261 [v1, v2, v3, v4] [] news Ret Bad := by
  refine' ctor_runK (fI := 220) ?hm ?hi ?hf ?ho ?hcd ?kX ?kM ?kN ?kD ?kR ?kP ?kT ?hl ?sc ?hc ?hu ?h
  case ho | hm | hi | hf | hcd => k_is
  case kX => kp_lit
  case kM | kN => exact rfl
  case kD => kp_flats
  case kR | kP => exact fun _ => rfl
  case kT => exact fun _ _ => rfl
  case hl => exact fun _ _ => locs rfl
  case sc => exact ⟨rfl, rfl, rfl⟩
  case hc => decide
  case hu => exact Nat.le_of_ble_eq_true rfl
  case h => exact fun c a d D o I hm l1 l2 l3 l4 K hK => h c a d D o I ⟨l1, l2, l3, l4⟩ (hm _ _ rfl) (hm _ _ rfl) (hm _ _ rfl) (hm _ _ rfl) (hm _ _ rfl) (hm _ _ rfl) K hK
theorem ref_run4z {w : World} {news : Led} {v1 v2 v3 v4 : Value} {kv : Int} {tkv : Tok} {Ret : (Led → Value → Prop) → Prop} {Bad : String → Prop}
    (h : ∀ (c : Cx w) (a d D : Addr) (o : Obj), InitAt c refLit.2 news a d → HasD w D o [(Str.ofString "z", .int kv tkv)] a [(Str.ofString "z", kv)] → c.m (Str.ofString "self") = some (.ref a) → c.m (Str.ofString "collection") = some v1 → c.m (Str.ofString "id") = some v2 → c.m (Str.ofString "database") = some v3 → c.m (Str.ofString "_extra") = some v4 → c.m (Str.ofString "kwargs") = some (.ref D) → ∀ K, Ret K → JX c (execs refLit.1 c.env) ((D, o) :: (a, instObj 261 d) :: (d, dictOf [] 0) :: news) (initEnd a K) (Thrown c (initBad news Bad))) : CallX w 261 [v1, v2, v3, v4] [(Str.ofString "z", .int kv tkv)] news Ret Bad := by
  refine' ctor_runK (fI := 220) ?hm ?hi ?hf ?ho ?hcd ?kX ?kM ?kN ?kD ?kR ?kP ?kT ?hl ?sc ?hc ?hu ?h
  case ho | hm | hi | hf | hcd => k_is
  case kX => kp_lit
  case kM | kN => exact rfl
  case kD => kp_flats
  case kR | kP => exact fun _ => rfl
  case kT => exact fun _ _ => rfl
  case hl => exact fun _ _ => locs rfl
  case sc => exact ⟨rfl, rfl, rfl⟩
  case hc => decide
  case hu => exact Nat.le_of_ble_eq_true rfl
  case h => exact fun c a d D o I hm l1 l2 l3 l4 K hK => h c a d D o I ⟨l1, l2, l3, l4⟩ (hm _ _ rfl) (hm _ _ rfl) (hm _ _ rfl) (hm _ _ rfl) (hm _ _ rfl) (hm _ _ rfl) K hK
theorem ref_run4b {w : World} {news : Led} {v1 v2 v3 v4 : Value} {kv : Int} {tkv : Tok} {Ret : (Led → Value → Prop) → Prop} {Bad : String → Prop}
    (h : ∀ (c : Cx w) (a d D : Addr) (o : Obj), InitAt c refLit.2 news a d → HasD w D o [(Str.ofString "b", .int kv tkv)] a [(Str.ofString "b", kv)] → c.m (Str.ofString "self") = some (.ref a) → c.m (Str.ofString "collection") = some v1 → c.m (Str.ofString "id") = some v2 → c.m (Str.ofString "database") = some v3 → c.m (Str.ofString "_extra") = some v4 → c.m (Str.ofString "kwargs") = some (.ref D) → ∀ K, Ret K → JX c (execs refLit.1 c.env) ((D, o) :: (a, instObj 261 d) :: (d, dictOf [] 0) :: news) (initEnd a K) (Thrown c (initBad news Bad))) : CallX w 261 [v1, v2, v3, v4] [(Str.ofString "b", .int kv tkv)] news Ret Bad := by
  refine' ctor_runK (fI := 220) ?hm ?hi ?hf ?ho ?hcd ?kX ?kM ?kN ?kD ?kR ?kP ?kT ?hl ?sc ?hc ?hu ?h
  case ho | hm | hi | hf | hcd => k_is
  case kX => kp_lit
  case kM | kN => exact rfl
  case kD => kp_flats
  case kR | kP => exact fun _ => rfl
  case kT => exact fun _ _ => rfl
  case hl => exact fun _ _ => locs rfl
  case sc => exact ⟨rfl, rfl, rfl⟩
  case hc => decide
  case hu => exact Nat.le_of_ble_eq_true rfl
  case h => exact fun c a d D o I hm l1 l2 l3 l4 K hK => h c a d D o I ⟨l1, l2, l3, l4⟩ (hm _ _ rfl) (hm _ _ rfl) (hm _ _ rfl) (hm _ _ rfl) (hm _ _ rfl) (hm _ _ rfl) K hK
noncomputable def objidLit : List Stmt × Scope := by
  refine' litOf (f := 500) fun w => ?ho
  case ho => k_is
theorem objid_run {w : World} {news : Led} {v1 : Value} {Ret : (Led → Value → Prop) → Prop} {Bad : String → Prop}
    (h : ∀ (c : Cx w) (a d : Addr), InitAt c objidLit.2 news a d → c.m (Str.ofString "self") = some (.ref a) → c.m (Str.ofString "oid") = some v1 → ∀ K, Ret K → JX c (execs objidLit.1 c.env) ((a, instObj 583 d) :: (d, dictOf [] 0) :: news) (initEnd a K) (Thrown c (initBad news Bad))) : CallX w 583 [v1] [] news Ret Bad := by
  refine' ctor_run (fI := 500) ?hm ?hi ?hf ?ho ?hcd ?hb ?hl ?sc ?hc ?hu ?h
  case ho | hm | hi | hf | hcd => k_is
  case hb => exact fun s a X => BindsTo.of_eq rfl
  case hl => exact fun a => locs rfl
  case sc => exact ⟨rfl, rfl, rfl⟩
  case hc => decide
  case hu => exact Nat.le_of_ble_eq_true rfl
  case h => exact fun c a d I hm K hK => h c a d I (hm _ _ rfl) (hm _ _ rfl) K hK
noncomputable def stampLit : List Stmt × Scope := by
  refine' litOf (f := 644) fun w => ?ho
  case ho => k_is
theorem stamp_run {w : World} {news : Led} {v1 v2 : Value} {Ret : (Led → Value → Prop) → Prop} {Bad : String → Prop}
    (h : ∀ (c : Cx w) (a d : Addr), InitAt c stampLit.2 news a d → c.m (Str.ofString "self") = some (.ref a) → c.m (Str.ofString "time") = some v1 → c.m (Str.ofString "inc") = some v2 → ∀ K, Ret K → JX c (execs stampLit.1 c.env) ((a, instObj 705 d) :: (d, dictOf [] 0) :: news) (initEnd a K) (Thrown c (initBad news Bad))) : CallX w 705 [v1, v2] [] news Ret Bad := by
  refine' ctor_run (fI := 644) ?hm ?hi ?hf ?ho ?hcd ?hb ?hl ?sc ?hc ?hu ?h
  case ho | hm | hi | hf | hcd => k_is
  case hb => exact fun s a X => BindsTo.of_eq rfl
  case hl => exact fun a => locs rfl
  case sc => exact ⟨rfl, rfl, rfl⟩
  case hc => decide
  case hu => exact Nat.le_of_ble_eq_true rfl
  case h => exact fun c a d I hm K hK => h c a d I (hm _ _ rfl) (hm _ _ rfl) (hm _ _ rfl) K hK
end Mine

end
-- CP
section
open PySem PySem.Calls PySem.W PyProof.Rows PyProof.V PySem.Spec PySem.SeqAt
namespace Mine
set_option maxRecDepth 100000
noncomputable abbrev KP (w : World) : Frag := hd.heap_1 w.params
abbrev MD (w : World) : Model := model PySem.Challenge.rw_jh0019_01.row.prog w
def TryC (w : World) (v u : Value) (news : Led) : Prop :=
  ∀ (mean : ExcName → Option Value) (mg mb : PySem.Str → Option Value) (dp un : Nat) (gd : Option (List Code)) (cn : PySem.Str) (cs : Scope) (a : Addr) (ccd : Value) (cl : List (PySem.Str × Addr)) (outer : List Env) (A₀ : Around) (base h₀ : Heap) (L : Addr) (m : Map) (s : Shared) (Q : Option Value → Shared → Prop) (E : Value → Shared → Prop),
    Below A₀ base outer h₀ → Fr h₀ L s.heap m → (KP w).In h₀ → News h₀ L s.heap news → Top hd.view_1 (looseW hd.view_1 looseN) mean mg mb h₀ → cs.kind = .function → dp + 8 < recursionLimit → un + 64 < cLine →
    (∀ r h' tk', (r = none ∨ r = some (.bool false)) → Fr h₀ L h' m → News h₀ L h' news → Q r { s with heap := h', toks := tk' }) →
    wpAny (MD w) (ktrTop dp un gd cn cs L a ccd cl outer) (tryCompare v (cmpInfo .Eq).2.1 u) Q E s
def CmpC (w : World) (v u : Value) (news : Led) (b : Bool) : Prop :=
  ∀ (mean : ExcName → Option Value) (mg mb : PySem.Str → Option Value) (dp un : Nat) (gd : Option (List Code)) (cn : PySem.Str) (cs : Scope) (a : Addr) (ccd : Value) (cl : List (PySem.Str × Addr)) (outer : List Env) (A₀ : Around) (base h₀ : Heap) (L : Addr) (m : Map) (s : Shared) (Q E : Value → Shared → Prop),
    Below A₀ base outer h₀ → Fr h₀ L s.heap m → (KP w).In h₀ → News h₀ L s.heap news → Top hd.view_1 (looseW hd.view_1 looseN) mean mg mb h₀ → cs.kind = .function → dp + 8 < recursionLimit → un + 64 < cLine →
    (∀ h' tk', Fr h₀ L h' m → News h₀ L h' news → Q (.bool b) { s with heap := h', toks := tk' }) →
    wpAny (MD w) (ktrTop dp un gd cn cs L a ccd cl outer) (compareOp .Eq v u) Q E s
theorem news_d1 {h₀ h : Heap} {L : Addr} {news : Led} {pa : Addr × Obj} (N : News h₀ L h (pa :: news)) : News h₀ L h news := fun p hp => N p (.tail _ hp)
theorem cmpC_pick2 {w : World} {v u : Value} {p q : Addr × Obj} {news : Led} {b : Bool} (H : CmpC w v u (p :: q :: news) b) (hp : p ∈ news) (hq : q ∈ news) : CmpC w v u news b := by
  intro mean mg mb dp un gd cn cs a ccd cl outer A₀ base h₀ L m s Q E B F X N T hk hd hu hret
  exact H mean mg mb dp un gd cn cs a ccd cl outer A₀ base h₀ L m s Q E B F X (news_pick1 (news_pick1 N hq) (.tail _ hp)) T hk hd hu fun h' tk' F' N' => hret h' tk' F' (news_d1 (news_d1 N'))
theorem use_Cmp {w : World} {v u : Value} {news : Led} {b : Bool} (H : CmpC w v u news b)
    {mean : ExcName → Option Value} {mg mb : PySem.Str → Option Value} {dp un : Nat} {gd : Option (List Code)} {cn : PySem.Str} {cs : Scope} {a : Addr} {ccd : Value} {cl : List (PySem.Str × Addr)} {outer : List Env} {A₀ : Around} {base h₀ : Heap} {L : Addr} {m : Map} {s : Shared} {Q E : Value → Shared → Prop}
    (B : Below A₀ base outer h₀) (F : Fr h₀ L s.heap m) (X : (hd.heap_1 w.params).In h₀) (N : News h₀ L s.heap news) (T : Top hd.view_1 (looseW hd.view_1 [Str.ofString "Code", Str.ofString "Binary", Str.ofString "DatetimeMS", Str.ofString "DBRef", Str.ofString "InvalidDocument", Str.ofString "Int64", Str.ofString "MaxKey", Str.ofString "MinKey", Str.ofString "ObjectId", Str.ofString "Regex", Str.ofString "Timestamp"]) mean mg mb h₀) (hk : cs.kind = .function) (hd : dp + 8 < recursionLimit) (hu : un + 64 < cLine)
    (hret : ∀ h' tk', Fr h₀ L h' m → News h₀ L h' news → Q (.bool b) { s with heap := h', toks := tk' }) :
    wpAny (model PySem.Challenge.rw_jh0019_01.row.prog w) (ktrTop dp un gd cn cs L a ccd cl outer) (compareOp .Eq v u) Q E s :=
  H mean mg mb dp un gd cn cs a ccd cl outer A₀ base h₀ L m s Q E B F X N T hk hd hu hret
def NeC (w : World) (v u : Value) (news : Led) (b : Bool) : Prop :=
  ∀ (mean : ExcName → Option Value) (mg mb : PySem.Str → Option Value) (dp un : Nat) (gd : Option (List Code)) (cn : PySem.Str) (cs : Scope) (a : Addr) (ccd : Value) (cl : List (PySem.Str × Addr)) (outer : List Env) (A₀ : Around) (base h₀ : Heap) (L : Addr) (m : Map) (s : Shared) (Q E : Value → Shared → Prop),
    Below A₀ base outer h₀ → Fr h₀ L s.heap m → (KP w).In h₀ → News h₀ L s.heap news → Top hd.view_1 (looseW hd.view_1 looseN) mean mg mb h₀ → cs.kind = .function → dp + 30 < recursionLimit → un + 300 < cLine →
    (∀ h' tk', Fr h₀ L h' m → News h₀ L h' news → Q (.bool b) { s with heap := h', toks := tk' }) →
    wpAny (MD w) (ktrTop dp un gd cn cs L a ccd cl outer) (compareOp .NotEq v u) Q E s
def IsiNo (w : World) (u : Value) (C : Addr) (news : Led) : Prop :=
  ∀ (A : Around) (h₀ : Heap) (L : Addr) (m : Map) (s : Shared) (Q E : Value → Shared → Prop), (hd.heap_1 w.params).In s.heap → Fr h₀ L s.heap m → News h₀ L s.heap news → (∀ tk', Q (.bool false) { s with toks := tk' }) →
    wpAny (model PySem.Challenge.rw_jh0019_01.row.prog w) A (call (.builtin "isinstance") [u, .ref C]) Q E s
theorem IsiNo.at {w : World} {u : Value} {C : Addr} {news : Led} (H : IsiNo w u C news) {A : Around} {h₀ : Heap} {L : Addr} {m : Map} {s : Shared} {Q E : Value → Shared → Prop} (X : (hd.heap_1 w.params).In s.heap) (F : Fr h₀ L s.heap m) (N : News h₀ L s.heap news) (h : ∀ tk', Q (.bool false) { s with toks := tk' }) :
    wpAny (model PySem.Challenge.rw_jh0019_01.row.prog w) A (call (.builtin "isinstance") [u, .ref C]) Q E s := H A h₀ L m s Q E X F N h
end Mine

end
-- N2
section
open PySem PySem.Calls PySem.W PyProof.Rows PyProof.V PySem.Spec
set_option maxRecDepth 100000
namespace Mine
inductive Kd (news : Led) : Value → Value → Prop
  | inst {x d C : Addr} {od : Obj} : (x, instObj C d) ∈ news → (d, od) ∈ news → Kd news (.ref x) (.ref C)
  | bytes (b : Array UInt8) (t : Tok) : Kd news (.bytes b t) (.type "bytes")
  | str (z : PySem.Str) (t : Tok) : Kd news (.str z t) (.type "str")
  | none : Kd news .none (.type "NoneType")
theorem Kd.looks {news : Led} {v tv : Value} (k : Kd news v tv) {h₀ : Heap} {L : Addr} {h : Heap} (N : News h₀ L h news) {M : Model} : Looks M h (typeOf v) tv := by
  cases k with
  | inst h1 h2 => exact (InstAt.of_news N h1 h2).type
  | bytes b t => exact Looks.of_pure rfl
  | str z t => exact Looks.of_pure rfl
  | none => exact Looks.of_pure rfl
theorem Kd.one {news : Led} {v tv u tu : Value} (k : Kd news v tv) (k2 : Kd news u tu) : oneThing? .Eq v u = Option.none := by
  cases k <;> cases k2 <;> rfl
theorem Kd.same {news : Led} {v tv u tu : Value} (k : Kd news v tv) (k2 : Kd news u tu) (hne : tv ≠ tu) {h₀ : Heap} {L : Addr} {M : Model} {A : Around} {s : Shared} (N : News h₀ L s.heap news) {Q : Bool → Shared → Prop} {E : Value → Shared → Prop} (h : Q false s) : wpAny M A (isSame v u) Q E s := by
  cases k with
  | @inst x d C od h1 h2 =>
    cases k2 with
    | @inst y d' C' od' g1 g2 =>
      have hxy : (x == y) = false := beq_eq_false_iff_ne.mpr fun e => by
        subst e
        have e1 := (N _ h1).1
        have e2 := (N _ g1).1
        simp only at e1 e2
        rw [e1] at e2
        have e3 := congrArg Obj.cls (Option.some.inj e2)
        exact hne e3
      unfold isSame
      simp only [hxy, Bool.false_eq_true, if_false]
      refine wpAny_bind (wpAny_load (N _ h1).1 (wpAny_bind (wpAny_load (N _ g1).1 ?_)))
      exact wpAny_pure h
    | bytes b t => exact wpAny_of_eq rfl h
    | str z t => exact wpAny_of_eq rfl h
    | none => exact wpAny_of_eq rfl h
  | bytes b t =>
    cases k2 with
    | inst g1 g2 => exact wpAny_of_eq rfl h
    | bytes b t => exact absurd rfl hne
    | str z t => exact wpAny_of_eq rfl h
    | none => exact wpAny_of_eq rfl h
  | str z t =>
    cases k2 with
    | inst g1 g2 => exact wpAny_of_eq rfl h
    | bytes b t => exact wpAny_of_eq rfl h
    | str z t => exact absurd rfl hne
    | none => exact wpAny_of_eq rfl h
  | none =>
    cases k2 with
    | inst g1 g2 => exact wpAny_of_eq rfl h
    | bytes b t => exact wpAny_of_eq rfl h
    | str z t => exact wpAny_of_eq rfl h
    | none => exact absurd rfl hne
section
variable {w : World} {news : Led} {v u tv tu : Value}
theorem try_inst {x C d f : Addr} {od : Obj} {v0 : Value} (H : CallC w f [.ref x, u] [] news (fun K => K news v0)) (hv : v0 = .bool false ∨ v0 = .notImplemented) (h1 : (x, instObj C d) ∈ news) (h2 : (d, od) ∈ news)
    (hs : findIn (KP w) (.ref C) (cmpInfo .Eq).2.1 = some (some (.ref f))) (hf : isFn (KP w) (.ref f) = true) : TryC w (.ref x) u news := by
  intro mean mg mb dp un gd cn cs a ccd cl outer A₀ base h₀ L m s Q E B F X N T hk hd hu hret
  unfold tryCompare
  refine wpAny_bind (ifBound_K (X.keeps F.keep) (InstAt.of_news N h1 h2) hs hf ?_)
  refine H mean mg mb dp un gd cn cs a ccd cl outer A₀ base h₀ L m s _ E B F X N T hk hd hu fun h' tk' F' N' => ?_
  rcases hv with rfl | rfl
  · exact wpAny_pure (hret _ _ _ (.inr rfl) F' N')
  · exact wpAny_pure (hret _ _ _ (.inl rfl) F' N')
theorem try_bytes (b : Array UInt8) (t : Tok) (k : Kd news u tu) (e : subIn (KP w) tu (.type "bytes") = some false) : TryC w (.bytes b t) u news := by
  intro mean mg mb dp un gd cn cs a ccd cl outer A₀ base h₀ L m s Q E B F X N T hk hd hu hret
  refine wpAny_tryCompare_declines (typeIs_bytes s b t) FB.slot_bytes_eq (wpAny_call_entry FB.slot_bytes_eq (typeIs_bytes s b t) FB.entry_bytes_eq ?_ (FB.args_bytes_eq_2 _ _))
  show wpAny _ _ (isInstance u (.type "bytes") >>= fun r => _) _ _ s
  have L1 : Looks (MD w) s.heap (typeOf u) tu := k.looks N
  have L2 : Looks (MD w) s.heap (isSubtype tu (.type "bytes")) false := looks_subIn (X.keeps F.keep) e
  have L3 : Looks (MD w) s.heap (isInstance u (.type "bytes")) false := L1.andThen L2
  refine wpAny_bind (L3.here ?_)
  simp only [Bool.not_false, if_true]
  first
    | exact wpAny_pure ⟨Value.notImplemented, rfl, rfl, hret _ _ _ (.inl rfl) F N⟩
    | exact wpAny_bind (wpAny_rule (wpAny_pure ⟨Value.notImplemented, rfl, rfl, hret _ _ _ (.inl rfl) F N⟩))
    | exact wpAny_bind (wpAny_rule (wpAny_bind (wpAny_pure (wpAny_pure ⟨Value.notImplemented, rfl, rfl, hret _ _ _ (.inl rfl) F N⟩))))
theorem try_str (z : PySem.Str) (t : Tok) (k : Kd news u tu) (hne : tu ≠ .type "str") : TryC w (.str z t) u news := by
  intro mean mg mb dp un gd cn cs a ccd cl outer A₀ base h₀ L m s Q E B F X N T hk hd hu hret
  refine wpAny_tryCompare_declines (typeIs_str s z t) PySem.F.slot_str_eq (wpAny_call_entry PySem.F.slot_str_eq (typeIs_str s z t) PySem.F.entry_str_eq ?_ (PySem.F.args_str_eq_2 _ _))
  show wpAny _ _ (asStr? u >>= fun r => _) _ _ s
  cases k with
  | inst h1 h2 =>
    unfold asStr?
    refine wpAny_bind (wpAny_bind (wpAny_load (N _ h1).1 ?_))
    refine wpAny_pure ?_
    first
      | exact wpAny_bind (wpAny_rule (wpAny_pure ⟨Value.notImplemented, rfl, rfl, hret _ _ _ (.inl rfl) F N⟩))
      | exact wpAny_pure ⟨Value.notImplemented, rfl, rfl, hret _ _ _ (.inl rfl) F N⟩
  | bytes b t =>
    refine wpAny_bind (wpAny_of_eq (rfl : asStr? (.bytes b t) = pure Option.none) ?_)
    first
      | exact wpAny_bind (wpAny_rule (wpAny_pure ⟨Value.notImplemented, rfl, rfl, hret _ _ _ (.inl rfl) F N⟩))
      | exact wpAny_pure ⟨Value.notImplemented, rfl, rfl, hret _ _ _ (.inl rfl) F N⟩
  | str => exact absurd rfl hne
  | none =>
    refine wpAny_bind (wpAny_of_eq (rfl : asStr? .none = pure Option.none) ?_)
    first
      | exact wpAny_bind (wpAny_rule (wpAny_pure ⟨Value.notImplemented, rfl, rfl, hret _ _ _ (.inl rfl) F N⟩))
      | exact wpAny_pure ⟨Value.notImplemented, rfl, rfl, hret _ _ _ (.inl rfl) F N⟩
theorem try_none (k : Kd news u tu) (hne : tu ≠ .type "NoneType") : TryC w .none u news := by
  intro mean mg mb dp un gd cn cs a ccd cl outer A₀ base h₀ L m s Q E B F X N T hk hd hu hret
  refine wpAny_tryCompare_declines (rfl : s.TypeIs .none "NoneType") PySem.F.slot_NoneType_eq (wpAny_call_entry PySem.F.slot_NoneType_eq (rfl : s.TypeIs .none "NoneType") PySem.F.entry_NoneType_eq ?_ (PySem.F.args_NoneType_eq_2 _ _))
  cases k with
  | inst h1 h2 => exact wpAny_pure ⟨Value.notImplemented, rfl, rfl, hret _ _ _ (.inl rfl) F N⟩
  | bytes b t => exact wpAny_pure ⟨Value.notImplemented, rfl, rfl, hret _ _ _ (.inl rfl) F N⟩
  | str => exact wpAny_pure ⟨Value.notImplemented, rfl, rfl, hret _ _ _ (.inl rfl) F N⟩
  | none => exact absurd rfl hne
theorem cmp_alien (H1 : TryC w v u news) (H2 : TryC w u v news) (k1 : Kd news v tv) (k2 : Kd news u tu) (hne : tv ≠ tu) (e : subIn (KP w) tu tv = some false) : CmpC w v u news false := by
  intro mean mg mb dp un gd cn cs a ccd cl outer A₀ base h₀ L m s Q E B F X N T hk hd hu hret
  refine cmp_ofEq ?_
  unfold richCompare
  simp only [k1.one k2]
  have hu' : (ktrTop dp un gd cn cs L a ccd cl outer).units < cLine := by show un < cLine; omega
  refine wpAny_holding (wpAny_bind (wpAny_cRoomFor hu' ?_))
  refine wpAny_bind ((k1.looks N).here (wpAny_bind ((k2.looks N).here ?_)))
  rw [if_pos (by simpa using hne)]
  refine wpAny_bind ((looks_subIn (X.keeps F.keep) e).here ?_)
  simp only [Bool.false_eq_true, if_false, Bool.not_false, if_true]
  refine wpAny_bind (H1 mean mg mb dp un gd cn cs a ccd cl outer A₀ base h₀ L m s _ E B F X N T hk hd hu fun r h' tk' hr F' N' => ?_)
  rcases hr with rfl | rfl
  · refine wpAny_bind (H2 mean mg mb dp un gd cn cs a ccd cl outer A₀ base h₀ L m { s with heap := h', toks := tk' } _ E B F' X N' T hk hd hu fun r h'' tk'' hr F'' N'' => ?_)
    rcases hr with rfl | rfl
    · refine wpAny_bind (wpAny_rule (wpAny_bind ?_))
      exact k1.same k2 hne N'' (wpAny_pure (hret _ _ F'' N''))
    · exact wpAny_pure (hret _ _ F'' N'')
  · exact wpAny_pure (hret _ _ F' N')
end
end Mine

end
-- N3a
section
open PySem PySem.Calls PySem.W PyProof.Rows PyProof.V PySem.Spec
set_option maxRecDepth 100000
namespace Mine
def okCls (K : Frag) (D : Addr) : Bool := plainGet K D "__class__" && hasDictIn K D && findIn K (.ref D) "__class__" == some (some (.builtin "object.__class__")) && mroIn K D (.type "object") == some true
def okAll (K : Frag) : Bool := specialIn K (.builtin "object.__class__") "__get__" == some (some (.builtin "getset_descriptor.__get__")) && takesIn K (.builtin "object.__class__") == some true
def cls10 : List Addr := [144, 61, 626, 261, 201, 344, 470, 407, 583, 705]
def types13 : List Value := cls10.map Value.ref ++ [.type "bytes", .type "str", .type "NoneType"]
def chkAll (K : Frag) : Bool := okAll K && (cls10.all fun D => okCls K D && isNotIn K "bytes" D && isNotIn K "str" D && isNotIn K "NoneType" D && cls10.all fun C => D == C || kin_not K D C) && (types13.all fun a => types13.all fun b => a == b || subIn K a b == some false)
theorem chk_all (w : World) : chkAll (KP w) = true := by kernel_rfl
theorem chk_ok (w : World) : okAll (KP w) = true := by
  have h := chk_all w
  unfold chkAll at h
  simp only [Bool.and_eq_true] at h
  exact h.1.1
theorem chk_cls (w : World) {D : Addr} (hD : D ∈ cls10) : okCls (KP w) D = true ∧ isNotIn (KP w) "bytes" D = true ∧ isNotIn (KP w) "str" D = true ∧ isNotIn (KP w) "NoneType" D = true := by
  have h := chk_all w
  unfold chkAll at h
  rw [Bool.and_eq_true, Bool.and_eq_true] at h
  have h1 := List.all_eq_true.mp h.1.2 D hD
  simp only [Bool.and_eq_true] at h1
  exact ⟨h1.1.1.1.1, h1.1.1.1.2, h1.1.1.2, h1.1.2⟩
theorem chk_not (w : World) {D C : Addr} (hD : D ∈ cls10) (hC : C ∈ cls10) (hne : D ≠ C) : kin_not (KP w) D C = true := by
  have h := chk_all w
  unfold chkAll at h
  rw [Bool.and_eq_true, Bool.and_eq_true] at h
  have h1 := List.all_eq_true.mp h.1.2 D hD
  rw [Bool.and_eq_true] at h1
  have h2 := List.all_eq_true.mp h1.2 C hC
  rcases Bool.or_eq_true_iff.mp h2 with e | e
  · exact absurd (by simpa using e) hne
  · exact e
theorem chk_sub (w : World) {a b : Value} (ha : a ∈ types13) (hb : b ∈ types13) (hne : a ≠ b) : subIn (KP w) a b = some false := by
  have h := chk_all w
  unfold chkAll at h
  rw [Bool.and_eq_true] at h
  have h1 := List.all_eq_true.mp h.2 a ha
  have h2 := List.all_eq_true.mp h1 b hb
  rcases Bool.or_eq_true_iff.mp h2 with e | e
  · exact absurd (beq_iff_eq.mp e) hne
  · exact beq_iff_eq.mp e
theorem bytes_cls {b : Array UInt8} {u : Tok} {prog : Program} {w : World} {A : Around} {E : Value → Shared → Prop} {Q : Option Value → Shared → Prop} {s : Shared} (_ : True) (h : Q (some (.type "bytes")) { s with toks := s.toks + 1 }) : wpAny (model prog w) A (getAttr? (.bytes b u) "__class__") Q E s := by
  obtain ⟨hh, g, d, t, os⟩ := s
  exact class_attr_bytes h
theorem mem_cls {C : Addr} (h : Value.ref C ∈ types13) : C ∈ cls10 := by
  unfold types13 at h
  rcases List.mem_append.mp h with h | h
  · obtain ⟨D, hD, e⟩ := List.mem_map.mp h
    cases e
    exact hD
  · rcases List.mem_cons.mp h with e | h
    · cases e
    · rcases List.mem_cons.mp h with e | h
      · cases e
      · rcases List.mem_cons.mp h with e | h
        · cases e
        · cases h
def Dicted (news : Led) (v : Value) : Prop := ∀ x C d, v = .ref x → (x, instObj C d) ∈ news → ∃ od, (d, od) ∈ news
theorem isi_any {w : World} {news : Led} {u tu : Value} {C : Addr} (k : Kd news u tu) (ht : tu ∈ types13) (hC : C ∈ cls10) (hne : tu ≠ .ref C) : IsiNo w u C news := by
  intro A h₀ L m s Q E X F N h
  cases k with
  | @inst x d D od h1 h2 =>
    have hD := mem_cls ht
    have hDC : D ≠ C := fun e => hne (by rw [e])
    have c := (chk_cls w hD).1
    unfold okCls at c
    simp only [Bool.and_eq_true, beq_iff_eq] at c
    have o := chk_ok w
    unfold okAll at o
    simp only [Bool.and_eq_true, beq_iff_eq] at o
    exact kin_callC X (InstAt.of_news N h1 h2) (chk_not w hD hC hDC) c.1.1.1 c.1.1.2 c.1.2 o.1 o.2 c.2 (h _)
  | bytes b t => exact isn_call (P := fun _ => True) X (fun M => Looks.of_pure rfl) (chk_cls w hC).2.1 (fun e => nomatch e) trivial bytes_cls (h _)
  | str z t => exact isn_call (P := fun _ => True) X (fun M => Looks.of_pure rfl) (chk_cls w hC).2.2.1 (fun e => nomatch e) trivial str_cls (h _)
  | none => exact isn_call (P := fun _ => True) X (fun M => Looks.of_pure rfl) (chk_cls w hC).2.2.2 (fun e => nomatch e) trivial none_cls (h _)
theorem callC_pick {w : World} {f : Addr} {pos : List Value} {kw : List (PySem.Str × Value)} {p : Addr × Obj} {news : Led} {v0 : Value} (H : CallC w f pos kw (p :: news) (fun K => K (p :: news) v0)) (hp : p ∈ news) : CallC w f pos kw news (fun K => K news v0) := by
  intro mean mg mb dp un gd cn cs a ccd cl outer A₀ base h₀ L m s Q E B F X N T hk hd hu hret
  exact H mean mg mb dp un gd cn cs a ccd cl outer A₀ base h₀ L m s Q E B F X (fun q hq => (List.mem_cons.mp hq).elim (fun e => e ▸ N p hp) (N q)) T hk hd hu fun h' tk' F' N' => hret h' tk' F' (news_d1 N')
def Al (w : World) (news : Led) (v tv : Value) : Prop := Kd news v tv ∧ ∀ u tu, Kd news u tu → tu ∈ types13 → tu ≠ tv → TryC w v u news
end Mine

end
-- J0
section
open PySem PySem.Calls PySem.W PyProof.Rows PyProof.V PySem.Spec
namespace Mine
section
variable {w : World}
structure Cx.OkL (c : Cx w) : Prop where
  ok : c.Ok lawScope
  ho : c.outer = []
  hb : c.base = c.h₀
  hd : c.dp + 30 < recursionLimit
  hu : c.un + 300 < cLine
variable {c : Cx w} {α β γ : Type} {news : Led}
variable {fs : Option Scope} {r u : Nat}
theorem kindL (ok : c.OkR fs r u) {x : PySem.Str} {k : NameKind} (h : LN fs x k) : c.env.kindOf x = some k := by
  have h := h.1
  rw [ok.hs] at h
  exact h
theorem J.l (ok : c.OkR fs r u) {x : PySem.Str} {pos : Pos} {v : Value} {K : Led → Value → Prop} (hx : LN fs x .local) (hv : c.m x = some v) (h : K news v) : J c (eval (.Name x pos) c.env) news K :=
  fun s _ _ F N k => nameX_L F hv (k _ _ s.heap s.toks h F N) ok.hk (kindL ok hx) hx.2
theorem J.g (ok : c.OkR fs r u) {x : PySem.Str} {pos : Pos} {v : Value} {K : Led → Value → Prop} (hn : LN fs x .globalImplicit) (hx : LG w x v) (h : K news v) : J c (eval (.Name x pos) c.env) news K :=
  fun s _ _ F N k => nameX_K F ok.X (topRead_of ok.T) hx (k _ _ s.heap s.toks h F N) ok.hk (kindL ok hn) hn.2
theorem J.b (ok : c.OkR fs r u) {x : PySem.Str} {pos : Pos} {v : Value} {K : Led → Value → Prop} (hn : LN fs x .globalImplicit) (hx : LB w x v) (h : K news v) : J c (eval (.Name x pos) c.env) news K :=
  fun s _ _ F N k => nameX_B F ok.X (topRead_of ok.T) hx.1 hx.2.1 hx.2.2 (k _ _ s.heap s.toks h F N) ok.hk (kindL ok hn) hn.2
theorem J.int {i : Int} {k : Nat} {pos : Pos} {K : Led → Value → Prop} (h : ∀ t, K news (.int i t)) : J c (eval (.Constant (.int i) k pos) c.env) news K := fun s _ _ F N q => wpAny_Constant_int (q _ _ s.heap _ (h _) F N)
theorem J.str {x : PySem.Str} {k : Nat} {pos : Pos} {K : Led → Value → Prop} (h : ∀ t, K news (.str x t)) : J c (eval (.Constant (.str x) k pos) c.env) news K := fun s _ _ F N q => Constant_str (q _ _ s.heap _ (h _) F N)
theorem J.bool {x : Bool} {k : Nat} {pos : Pos} {K : Led → Value → Prop} (h : K news (.bool x)) : J c (eval (.Constant (.bool x) k pos) c.env) news K := fun s _ _ F N q => Constant_bool (q _ _ s.heap s.toks h F N)
theorem J.none {k : Nat} {pos : Pos} {K : Led → Value → Prop} (h : K news .none) : J c (eval (.Constant .none k pos) c.env) news K := fun s _ _ F N q => wpAny_Constant_none (q _ _ s.heap s.toks h F N)
theorem J.nil {pos : Pos} {K : Led → List Value → Prop} (h : K news []) : J c (spliced (backTo pos (starEach [] c.env))) news K := fun s _ _ F N q => args_nil (q _ _ s.heap s.toks h F N)
theorem J.cons {e : Expr} {rest : List Expr} {pos : Pos} {K : Led → List Value → Prop} (h : J c (eval e c.env) news fun tl v => J c (spliced (backTo pos (starEach rest c.env))) tl fun tl' vs => K tl' (v :: vs)) (he : starEach (e :: rest) c.env = (false, eval e c.env) :: starEach rest c.env) : J c (spliced (backTo pos (starEach (e :: rest) c.env))) news K :=
  J.lift2 (fun _ _ _ x => args_cons x he) h
theorem J.Call {func : Expr} {args : List Expr} {pos : Pos} {K : Led → Value → Prop} (h : J c (eval func c.env) news fun tl f => J c (callWith pos f [] (backTo pos (starEach args c.env)) []) tl K) (he : eval (.Call func args [] pos) c.env = (eval func c.env >>= fun f => callWith pos f [] (backTo pos (starEach args c.env)) (backToKw pos (keywordEach [] c.env)))) : J c (eval (.Call func args [] pos) c.env) news K := J.lift2 (f := fun _ x => x) (fun _ _ _ x => Call_ x he) h
theorem J.callK (ok : c.OkR fs r u) {f : Value} {e : Expr} {rest : List Expr} {pos : Pos} {K : Led → Value → Prop} (hf : keepIn (hd.heap_1 w.params) f = true) (h : J c (spliced (backTo pos (starEach (e :: rest) c.env))) news fun tl vs => J c (call f vs) tl K)
    (he : starEach (e :: rest) c.env = (false, eval e c.env) :: starEach rest c.env) (hr : ((backTo pos (starEach rest c.env)).any fun x => x.1) = false) : J c (callWith pos f [] (backTo pos (starEach (e :: rest) c.env)) []) news K :=
  fun s _ E F N k => callWith_K ok.X hf (h s _ E F N fun _ _ h' tk' hj F' N' => ⟨ok.X.keeps F'.keep, hj { s with heap := h', toks := tk' } _ E F' N' fun tl' u h'' tk'' hk F'' N'' => k tl' _ h'' tk'' hk F'' N''⟩) he hr
theorem J.callB {id : String} {e : Expr} {rest : List Expr} {pos : Pos} {K : Led → Value → Prop} (h : J c (spliced (backTo pos (starEach (e :: rest) c.env))) news fun tl vs => J c (call (.builtin id) vs) tl K)
    (he : starEach (e :: rest) c.env = (false, eval e c.env) :: starEach rest c.env) (hr : ((backTo pos (starEach rest c.env)).any fun x => x.1) = false) : J c (callWith pos (.builtin id) [] (backTo pos (starEach (e :: rest) c.env)) []) news K :=
  J.lift2 (f := fun _ x => x) (fun _ _ _ x => callWith_builtin1 x he hr) h
theorem J.callT {T : String} {e : Expr} {rest : List Expr} {pos : Pos} {K : Led → Value → Prop} (h : J c (spliced (backTo pos (starEach (e :: rest) c.env))) news fun tl vs => J c (call (.type T) vs) tl K)
    (he : starEach (e :: rest) c.env = (false, eval e c.env) :: starEach rest c.env) (hr : ((backTo pos (starEach rest c.env)).any fun x => x.1) = false) : J c (callWith pos (.type T) [] (backTo pos (starEach (e :: rest) c.env)) []) news K :=
  J.lift2 (f := fun _ x => x) (fun _ _ _ x => PyProof.Rows.callWith_type1 x he hr) h
theorem J.callK0 (ok : c.OkR fs r u) {f : Value} {pos : Pos} {K : Led → Value → Prop} (hf : keepIn (hd.heap_1 w.params) f = true) (h : J c (call f []) news K) : J c (callWith pos f [] (backTo pos (starEach [] c.env)) []) news K :=
  fun s _ E F N k => callWith_K0 (ok.X.keeps F.keep) hf (h s _ E F N k)
theorem J.own (ok : c.OkR fs r u) {x : PySem.Str} {f : Value} {p pos : Pos} {e : Expr} {rest : List Expr} {K : Led → Value → Prop} (hn : LN fs x .globalImplicit) (hx : LG w x f) (hf : keepIn (hd.heap_1 w.params) f = true) (h : J c (spliced (backTo pos (starEach (e :: rest) c.env))) news fun tl vs => J c (call f vs) tl K)
    (he : starEach (e :: rest) c.env = (false, eval e c.env) :: starEach rest c.env ∧ ((backTo pos (starEach rest c.env)).any fun x => x.1) = false) : J c (eval (.Call (.Name x p) (e :: rest) [] pos) c.env) news K :=
  J.Call (J.g ok hn hx (J.callK ok hf h he.1 he.2)) rfl
theorem J.own0 (ok : c.OkR fs r u) {x : PySem.Str} {f : Value} {p pos : Pos} {K : Led → Value → Prop} (hn : LN fs x .globalImplicit) (hx : LG w x f) (hf : keepIn (hd.heap_1 w.params) f = true) (h : J c (call f []) news K) : J c (eval (.Call (.Name x p) [] [] pos) c.env) news K :=
  J.Call (J.g ok hn hx (J.callK0 ok hf h)) rfl
theorem J.consL (ok : c.OkR fs r u) {x : PySem.Str} {p : Pos} {v : Value} {rest : List Expr} {pos : Pos} {K : Led → List Value → Prop} (hx : LN fs x .local) (hv : c.m x = some v) (h : J c (spliced (backTo pos (starEach rest c.env))) news fun tl vs => K tl (v :: vs)) : J c (spliced (backTo pos (starEach (.Name x p :: rest) c.env))) news K := J.cons (J.l ok hx hv h) rfl
theorem J.consI {k : Int} {n : Nat} {p : Pos} {rest : List Expr} {pos : Pos} {K : Led → List Value → Prop} (h : ∀ t, J c (spliced (backTo pos (starEach rest c.env))) news fun tl vs => K tl (.int k t :: vs)) : J c (spliced (backTo pos (starEach (.Constant (.int k) n p :: rest) c.env))) news K := J.cons (J.int h) rfl
theorem J.consS {x : PySem.Str} {n : Nat} {p : Pos} {rest : List Expr} {pos : Pos} {K : Led → List Value → Prop} (h : ∀ t, J c (spliced (backTo pos (starEach rest c.env))) news fun tl vs => K tl (.str x t :: vs)) : J c (spliced (backTo pos (starEach (.Constant (.str x) n p :: rest) c.env))) news K := J.cons (J.str h) rfl
theorem J.lastL (ok : c.OkR fs r u) {x : PySem.Str} {p : Pos} {v : Value} {pos : Pos} {K : Led → List Value → Prop} (hx : LN fs x .local) (hv : c.m x = some v) (h : K news [v]) : J c (spliced (backTo pos (starEach [.Name x p] c.env))) news K := J.consL ok hx hv (J.nil h)
theorem J.lastI {k : Int} {n : Nat} {p : Pos} {pos : Pos} {K : Led → List Value → Prop} (h : ∀ t, K news [.int k t]) : J c (spliced (backTo pos (starEach [.Constant (.int k) n p] c.env))) news K := J.consI fun t => J.nil (h t)
def NewK (O : List Value → Obj) (K : Led → Value → Prop) (tl : Led) (vs : List Value) : Prop := vs.length ≤ 1000 ∧ ∀ l tl', (∀ p ∈ tl, p ∈ tl') → (l, O vs) ∈ tl' → (∀ p ∈ tl, p.1 < l) → K tl' (.ref l)
theorem NewK.intro {O : List Value → Obj} {K : Led → Value → Prop} {tl : Led} {vs : List Value} (hz : vs.length ≤ 1000) (h : ∀ l tl', (∀ p ∈ tl, p ∈ tl') → (l, O vs) ∈ tl' → (∀ p ∈ tl, p.1 < l) → K tl' (.ref l)) : NewK O K tl vs := ⟨hz, h⟩
abbrev listO (vs : List Value) : Obj := W.listOf vs.toArray 0
theorem J.list {es : List Expr} {pos : Pos} {K : Led → Value → Prop} (h : J c (spliced (backTo pos (starEach es c.env))) news (NewK listO K)) : J c (eval (.List es pos) c.env) news K :=
  fun s _ E F N k => List_ (h s _ E F N fun tl vs h' tk' hj F' N' => newList_K F' N' (fun l h2 F2 N2 l1 => k _ _ h2 tk' (hj.2 l _ (fun _ hp => .tail _ hp) (.head _) l1) F2 N2) (small_size hj.1))
theorem J.tuple {es : List Expr} {n : Nat} {pos : Pos} {K : Led → Value → Prop} (h : J c (spliced (backTo pos (starEach es c.env))) news (NewK tupO K)) : J c (eval (.Tuple es n pos) c.env) news K :=
  fun s _ E F N k => Tuple_ (h s _ E F N fun tl vs h' tk' hj F' N' => kup_newTuple F' N' (fun l h2 F2 N2 l1 => k _ _ h2 tk' (hj.2 l _ (fun _ hp => .tail _ hp) (.head _) l1) F2 N2) (small_size hj.1))
def EndIf (w : World) (n : Nat) (h₀ : Heap) (L : Addr) (m : Map) (tl : Led) (b : Bool) : Prop := b = false ∧ ∃ A, (∀ p ∈ A, p ∈ tl) ∧ LRest w n h₀ L m A
def EndSet (w : World) (n : Nat) (h₀ : Heap) (L : Addr) (m : Map) (x : PySem.Str) (tl : Led) (v : Value) : Prop := ∃ A, (∀ p ∈ A, p ∈ tl) ∧ LRest w n h₀ L (fun y => if y = x then some v else m y) A
def EndCell (w : World) (n : Nat) (h₀ : Heap) (L : Addr) (m : Map) (ca : Addr) (tl : Led) (v : Value) : Prop := ∃ o v₀, (ca, o) ∈ tl ∧ o.data = .cell v₀ ∧ ∀ o', o'.data = .cell (some v) → ∃ A, (∀ p ∈ A, p = (ca, o') ∨ (p ∈ tl ∧ p.1 ≠ ca)) ∧ LRest w n h₀ L m A
def lawCx (w : World) (mean : ExcName → Option Value) (mg mb : PySem.Str → Option Value) (cs : Scope) (a : Addr) (cd : Value) (h₀ : Heap) (L : Addr) (m : Map) : Cx w where
  mean := mean
  mg := mg
  mb := mb
  dp := (callerA.deeper (envOfC (Str.ofString "law") cs L a cd)).depth
  un := (callerA.deeper (envOfC (Str.ofString "law") cs L a cd)).units
  gd := (callerA.deeper (envOfC (Str.ofString "law") cs L a cd)).guards
  cn := Str.ofString "law"
  cs := cs
  a := a
  ccd := cd
  cl := (envOfC (Str.ofString "law") cs L a cd).cells
  outer := []
  A₀ := callerA
  base := h₀
  h₀ := h₀
  L := L
  m := m
theorem J.cmp {l r : Expr} {op : CmpOp} {pos : Pos} {K : Led → Value → Prop} (h : J c (eval l c.env) news fun tl a => J c (eval r c.env) tl fun tl' b => J c (compareOp op a b) tl' K) (hb : behindInMarks op r = false) : J c (eval (.Compare l [op] [r] pos) c.env) news K :=
  J.lift3 (f := fun _ _ x => x) (fun _ _ _ x => wpAny_Compare1 x hb) h
theorem J.bin {l r : Expr} {op : Operator} {pos : Pos} {K : Led → Value → Prop} (h : J c (eval l c.env) news fun tl a => J c (eval r c.env) tl fun tl' b => J c (binaryOp op a b) tl' K) : J c (eval (.BinOp l op r pos) c.env) news K :=
  J.lift3 (f := fun _ _ x => x) (fun _ _ _ x => wpAny_BinOp x) h
end
end Mine

end
-- JN
section
open PySem PySem.Calls PySem.W PyProof.Rows PyProof.V PySem.Spec
namespace Mine
theorem ln_script : LN lawScope (Str.ofString "script") .local := ⟨by kernel_rfl, by kernel_rfl⟩
theorem ln_numbers : LN lawScope (Str.ofString "numbers") .local := ⟨by kernel_rfl, by kernel_rfl⟩
theorem ln_n : LN lawScope (Str.ofString "n") .local := ⟨by kernel_rfl, by kernel_rfl⟩
theorem ln_m : LN lawScope (Str.ofString "m") .local := ⟨by kernel_rfl, by kernel_rfl⟩
theorem ln_row : LN lawScope (Str.ofString "row") .local := ⟨by kernel_rfl, by kernel_rfl⟩
theorem ln_subtype : LN lawScope (Str.ofString "subtype") .local := ⟨by kernel_rfl, by kernel_rfl⟩
theorem ln_whole : LN lawScope (Str.ofString "whole") .local := ⟨by kernel_rfl, by kernel_rfl⟩
theorem ln_one : LN lawScope (Str.ofString "one") .local := ⟨by kernel_rfl, by kernel_rfl⟩
theorem ln_two : LN lawScope (Str.ofString "two") .local := ⟨by kernel_rfl, by kernel_rfl⟩
theorem ln_text : LN lawScope (Str.ofString "text") .local := ⟨by kernel_rfl, by kernel_rfl⟩
theorem ln_first : LN lawScope (Str.ofString "first") .local := ⟨by kernel_rfl, by kernel_rfl⟩
theorem ln_second : LN lawScope (Str.ofString "second") .local := ⟨by kernel_rfl, by kernel_rfl⟩
theorem ln_due : LN lawScope (Str.ofString "due") .local := ⟨by kernel_rfl, by kernel_rfl⟩
theorem ln_named : LN lawScope (Str.ofString "named") .local := ⟨by kernel_rfl, by kernel_rfl⟩
theorem ln_letters : LN lawScope (Str.ofString "letters") .local := ⟨by kernel_rfl, by kernel_rfl⟩
theorem ln_flags : LN lawScope (Str.ofString "flags") .local := ⟨by kernel_rfl, by kernel_rfl⟩
theorem ln_letter : LN lawScope (Str.ofString "letter") .local := ⟨by kernel_rfl, by kernel_rfl⟩
theorem ln_bit : LN lawScope (Str.ofString "bit") .local := ⟨by kernel_rfl, by kernel_rfl⟩
theorem ln_base : LN lawScope (Str.ofString "base") .local := ⟨by kernel_rfl, by kernel_rfl⟩
theorem ln_others : LN lawScope (Str.ofString "others") .local := ⟨by kernel_rfl, by kernel_rfl⟩
theorem ln_fault : LN lawScope (Str.ofString "fault") .local := ⟨by kernel_rfl, by kernel_rfl⟩
theorem ln_values : LN lawScope (Str.ofString "values") .cell := ⟨by kernel_rfl, by kernel_rfl⟩
theorem ln_reference : LN lawScope (Str.ofString "reference") .cell := ⟨by kernel_rfl, by kernel_rfl⟩
theorem lg_Binary (w : World) : LG w (Str.ofString "Binary") (.ref 144) := by unfold LG; kernel_rfl
theorem ln_Binary : LN lawScope (Str.ofString "Binary") .globalImplicit := ⟨by kernel_rfl, by kernel_rfl⟩
theorem kp_Binary (w : World) : keepIn (hd.heap_1 w.params) (.ref 144) = true := by kernel_rfl
theorem lg_Code (w : World) : LG w (Str.ofString "Code") (.ref 61) := by unfold LG; kernel_rfl
theorem ln_Code : LN lawScope (Str.ofString "Code") .globalImplicit := ⟨by kernel_rfl, by kernel_rfl⟩
theorem kp_Code (w : World) : keepIn (hd.heap_1 w.params) (.ref 61) = true := by kernel_rfl
theorem lg_Regex (w : World) : LG w (Str.ofString "Regex") (.ref 626) := by unfold LG; kernel_rfl
theorem ln_Regex : LN lawScope (Str.ofString "Regex") .globalImplicit := ⟨by kernel_rfl, by kernel_rfl⟩
theorem kp_Regex (w : World) : keepIn (hd.heap_1 w.params) (.ref 626) = true := by kernel_rfl
theorem lg_DatetimeMS (w : World) : LG w (Str.ofString "DatetimeMS") (.ref 201) := by unfold LG; kernel_rfl
theorem ln_DatetimeMS : LN lawScope (Str.ofString "DatetimeMS") .globalImplicit := ⟨by kernel_rfl, by kernel_rfl⟩
theorem kp_DatetimeMS (w : World) : keepIn (hd.heap_1 w.params) (.ref 201) = true := by kernel_rfl
theorem lg_Int64 (w : World) : LG w (Str.ofString "Int64") (.ref 344) := by unfold LG; kernel_rfl
theorem ln_Int64 : LN lawScope (Str.ofString "Int64") .globalImplicit := ⟨by kernel_rfl, by kernel_rfl⟩
theorem kp_Int64 (w : World) : keepIn (hd.heap_1 w.params) (.ref 344) = true := by kernel_rfl
theorem lg_MinKey (w : World) : LG w (Str.ofString "MinKey") (.ref 470) := by unfold LG; kernel_rfl
theorem ln_MinKey : LN lawScope (Str.ofString "MinKey") .globalImplicit := ⟨by kernel_rfl, by kernel_rfl⟩
theorem kp_MinKey (w : World) : keepIn (hd.heap_1 w.params) (.ref 470) = true := by kernel_rfl
theorem lg_MaxKey (w : World) : LG w (Str.ofString "MaxKey") (.ref 407) := by unfold LG; kernel_rfl
theorem ln_MaxKey : LN lawScope (Str.ofString "MaxKey") .globalImplicit := ⟨by kernel_rfl, by kernel_rfl⟩
theorem kp_MaxKey (w : World) : keepIn (hd.heap_1 w.params) (.ref 407) = true := by kernel_rfl
theorem lg_ObjectId (w : World) : LG w (Str.ofString "ObjectId") (.ref 583) := by unfold LG; kernel_rfl
theorem ln_ObjectId : LN lawScope (Str.ofString "ObjectId") .globalImplicit := ⟨by kernel_rfl, by kernel_rfl⟩
theorem kp_ObjectId (w : World) : keepIn (hd.heap_1 w.params) (.ref 583) = true := by kernel_rfl
theorem lg_Timestamp (w : World) : LG w (Str.ofString "Timestamp") (.ref 705) := by unfold LG; kernel_rfl
theorem ln_Timestamp : LN lawScope (Str.ofString "Timestamp") .globalImplicit := ⟨by kernel_rfl, by kernel_rfl⟩
theorem kp_Timestamp (w : World) : keepIn (hd.heap_1 w.params) (.ref 705) = true := by kernel_rfl
theorem lg_DBRef (w : World) : LG w (Str.ofString "DBRef") (.ref 261) := by unfold LG; kernel_rfl
theorem ln_DBRef : LN lawScope (Str.ofString "DBRef") .globalImplicit := ⟨by kernel_rfl, by kernel_rfl⟩
theorem kp_DBRef (w : World) : keepIn (hd.heap_1 w.params) (.ref 261) = true := by kernel_rfl
theorem lg_law_made (w : World) : LG w (Str.ofString "_law_made") (.ref 716) := by unfold LG; kernel_rfl
theorem ln_law_made : LN lawScope (Str.ofString "_law_made") .globalImplicit := ⟨by kernel_rfl, by kernel_rfl⟩
theorem kp_law_made (w : World) : keepIn (hd.heap_1 w.params) (.ref 716) = true := by kernel_rfl
theorem lg_law_joined (w : World) : LG w (Str.ofString "_law_joined") (.ref 723) := by unfold LG; kernel_rfl
theorem ln_law_joined : LN lawScope (Str.ofString "_law_joined") .globalImplicit := ⟨by kernel_rfl, by kernel_rfl⟩
theorem kp_law_joined (w : World) : keepIn (hd.heap_1 w.params) (.ref 723) = true := by kernel_rfl
theorem lg_law_fields (w : World) : LG w (Str.ofString "_law_fields") (.ref 730) := by unfold LG; kernel_rfl
theorem ln_law_fields : LN lawScope (Str.ofString "_law_fields") .globalImplicit := ⟨by kernel_rfl, by kernel_rfl⟩
theorem kp_law_fields (w : World) : keepIn (hd.heap_1 w.params) (.ref 730) = true := by kernel_rfl
theorem lg_InvalidDocument (w : World) : LG w (Str.ofString "InvalidDocument") (.ref 306) := by unfold LG; kernel_rfl
theorem ln_InvalidDocument : LN lawScope (Str.ofString "InvalidDocument") .globalImplicit := ⟨by kernel_rfl, by kernel_rfl⟩
theorem kp_InvalidDocument (w : World) : keepIn (hd.heap_1 w.params) (.ref 306) = true := by kernel_rfl
theorem lb_bytes (w : World) : LB w (Str.ofString "bytes") (.type "bytes") := ⟨by kernel_rfl, by kernel_rfl, by decide +kernel⟩
theorem ln_bytes : LN lawScope (Str.ofString "bytes") .globalImplicit := ⟨by kernel_rfl, by kernel_rfl⟩
theorem lb_len (w : World) : LB w (Str.ofString "len") (.builtin "len") := ⟨by kernel_rfl, by kernel_rfl, by decide +kernel⟩
theorem ln_len : LN lawScope (Str.ofString "len") .globalImplicit := ⟨by kernel_rfl, by kernel_rfl⟩
theorem lb_isinstance (w : World) : LB w (Str.ofString "isinstance") (.builtin "isinstance") := ⟨by kernel_rfl, by kernel_rfl, by decide +kernel⟩
theorem ln_isinstance : LN lawScope (Str.ofString "isinstance") .globalImplicit := ⟨by kernel_rfl, by kernel_rfl⟩
theorem lb_int (w : World) : LB w (Str.ofString "int") (.type "int") := ⟨by kernel_rfl, by kernel_rfl, by decide +kernel⟩
theorem lb_str (w : World) : LB w (Str.ofString "str") (.type "str") := ⟨by kernel_rfl, by kernel_rfl, by decide +kernel⟩
theorem lb_dict (w : World) : LB w (Str.ofString "dict") (.type "dict") := ⟨by kernel_rfl, by kernel_rfl, by decide +kernel⟩
theorem lb_TypeError (w : World) : LB w (Str.ofString "TypeError") (.type "TypeError") := ⟨by kernel_rfl, by kernel_rfl, by decide +kernel⟩
theorem lb_ValueError (w : World) : LB w (Str.ofString "ValueError") (.type "ValueError") := ⟨by kernel_rfl, by kernel_rfl, by decide +kernel⟩
theorem lb_OverflowError (w : World) : LB w (Str.ofString "OverflowError") (.type "OverflowError") := ⟨by kernel_rfl, by kernel_rfl, by decide +kernel⟩
end Mine

end
-- JT
section
open PySem PySem.Calls PySem.W PyProof.Rows PyProof.V PySem.Spec PySem.SeqAt
namespace Mine
section
variable {w : World} {c : Cx w} {news : Led} {fs : Option Scope}
theorem J.tcmp {l r : Expr} {op : CmpOp} {pos : Pos} {whole : Sem Value} {K : Led → Bool → Prop} (h : J c (eval l c.env) news fun tl a => J c (eval r c.env) tl fun tl' b => J c (compareOp op a b) tl' fun tl'' v => J c (truthy v) tl'' K) (hb : behindInMarks op r = false) : J c (isTrue (.Compare l [op] [r] pos) c.env whole) news K :=
  fun s Q E F N k => wpAny_isTrue_Compare1 (whole := whole) (h s _ E F N fun tl v h' tk' hj F' N' => hj { s with heap := h', toks := tk' } _ E F' N' fun tl' u h'' tk'' hi F'' N'' => hi { s with heap := h'', toks := tk'' } _ E F'' N'' fun tl3 x h3 tk3 hk F3 N3 => hk { s with heap := h3, toks := tk3 } Q E F3 N3 fun tl4 y h4 tk4 hl F4 N4 => k tl4 y h4 tk4 hl F4 N4) hb
theorem J.tor {x : Expr} {rest : List Expr} {pos : Pos} {whole : Sem Value} {K : Led → Bool → Prop} (h : J c (isTrue x c.env (eval x c.env)) news fun tl b => b = false ∧ J c (isTrue (.BoolOp .Or rest pos) c.env whole) tl K) : J c (isTrue (.BoolOp .Or (x :: rest) pos) c.env whole) news K :=
  fun s Q E F N k => isTrue_or (h s _ E F N fun tl b h' tk' hj F' N' => by
    rw [if_neg (by rw [hj.1]; exact Bool.false_ne_true)]
    exact hj.2 { s with heap := h', toks := tk' } Q E F' N' fun tl' u h'' tk'' hk F'' N'' => k tl' u h'' tk'' hk F'' N'')
theorem J.tornil {pos : Pos} {whole : Sem Value} {K : Led → Bool → Prop} (h : K news false) : J c (isTrue (.BoolOp .Or [] pos) c.env whole) news K := fun s _ _ F N q => isTrue_or_nil (q _ _ s.heap s.toks h F N)
theorem J.tb {b : Bool} {K : Led → Bool → Prop} (h : K news b) : J c (truthy (.bool b)) news K := fun s _ _ F N q => wpAny_truthy_bool (q _ _ s.heap s.toks h F N)
theorem J.tplain {e : Expr} {whole : Sem Value} {K : Led → Bool → Prop} (h : J c whole news fun tl v => J c (truthy v) tl K) (he : isTrue e c.env whole = (whole >>= fun v => standAt e.pos >>= fun _ => holding [v] (truthy v))) : J c (isTrue e c.env whole) news K :=
  J.lift2 (f := fun _ x => x) (fun _ _ _ x => isTrue_plain x he) h
theorem lawCells {sc : Scope} (L : Addr) (es : lawScope = some sc) : (cellsFrom (L + 1) sc.names []).lookup (Str.ofString "reference") = some (L + 1) ∧ (cellsFrom (L + 1) sc.names []).lookup (Str.ofString "values") = some (L + 1 + 1) := by
  have h : (match lawScope with | some s => ((cellsFrom (L + 1) s.names []).lookup (Str.ofString "reference"), (cellsFrom (L + 1) s.names []).lookup (Str.ofString "values")) | none => (none, none)) = (some (L + 1), some (L + 1 + 1)) := by kernel_rfl
  rw [es] at h
  exact ⟨congrArg (·.1) h, congrArg (·.2) h⟩
theorem lawOk {w : World} {mean : ExcName → Option Value} {mg mb : PySem.Str → Option Value} {sc : Scope} {a : Addr} {cd : Value} {h₀ : Heap} {L : Addr} {m : Map} (es : lawScope = some sc ∧ sc.kind = .function) (B : Below callerA h₀ [] h₀) (X : (hd.heap_1 w.params).In h₀) (T : Top hd.view_1 (looseW hd.view_1 [Str.ofString "Code", Str.ofString "Binary", Str.ofString "DatetimeMS", Str.ofString "DBRef", Str.ofString "InvalidDocument", Str.ofString "Int64", Str.ofString "MaxKey", Str.ofString "MinKey", Str.ofString "ObjectId", Str.ofString "Regex", Str.ofString "Timestamp"]) mean mg mb h₀) : (lawCx w mean mg mb sc a cd h₀ L m).OkL := by
  have h1 : callerA.depth + 1 + 30 < recursionLimit := by decide +kernel
  have h2 : (callerA.deeper (envOfC (Str.ofString "law") sc L a cd)).units + 300 < cLine := by
    have hcL9 := cLine_is
    simp only [units_deeper, units_caller]
    omega
  exact ⟨⟨B, X, T, es.2, Nat.lt_of_le_of_lt (Nat.add_le_add_left (Nat.le_of_ble_eq_true rfl : 8 ≤ 30) _) h1, Nat.lt_of_le_of_lt (Nat.add_le_add_left (Nat.le_of_ble_eq_true rfl : 64 ≤ 300) _) h2, es.1⟩, rfl, rfl, h1, h2⟩
theorem LStep.ofIf {n : Nat} {h₀ : Heap} {L : Addr} {m : Map} {news : Led} {test : Expr} {body : List Stmt} {pos : Pos} {sc : Scope} (es : lawScope = some sc ∧ sc.kind = .function)
    (h : ∀ c : Cx w, c.OkL → (∀ x v, m x = some v → c.m x = some v) → c.cl.lookup (Str.ofString "reference") = some (L + 1) ∧ c.cl.lookup (Str.ofString "values") = some (L + 1 + 1) → J c (isTrue test c.env (eval test c.env)) news (EndIf w (n + 1) h₀ L m)) : LStep w n h₀ L m news (.If test body [] pos) sc := by
  unfold LStep
  intro mean mg mb a cd s K B F X N T hK
  refine wpAny_If (h (lawCx w mean mg mb sc a cd h₀ L m) (lawOk es B X T) (fun _ _ e => e) (lawCells L es.1) s _ _ F N fun tl b h' tk' hj F' N' => ?_)
  obtain ⟨hb, news', hs, hl⟩ := hj
  rw [if_neg (by rw [hb]; exact Bool.false_ne_true)]
  exact wpAny_execs_nil (hK h' tk' m news' F' (fun p hp => N' p (hs p hp)) hl)
theorem LStep.ofAssign {n : Nat} {h₀ : Heap} {L : Addr} {m : Map} {news : Led} {x : PySem.Str} {e : Expr} {p' pos : Pos} {sc : Scope} (es : lawScope = some sc ∧ sc.kind = .function) (hx : LN lawScope x .local)
    (hsw : ∀ env : Env, swapsWith e (some (.Name x p')) pos.line env = pure false)
    (h : ∀ c : Cx w, c.OkL → (∀ x v, m x = some v → c.m x = some v) → c.cl.lookup (Str.ofString "reference") = some (L + 1) ∧ c.cl.lookup (Str.ofString "values") = some (L + 1 + 1) → J c (eval e c.env) news (EndSet w (n + 1) h₀ L m x)) : LStep w n h₀ L m news (.Assign [.Name x p'] e pos) sc := by
  unfold LStep
  intro mean mg mb a cd s K B F X N T hK
  refine wpAny_Assign_Name (h (lawCx w mean mg mb sc a cd h₀ L m) (lawOk es B X T) (fun _ _ e => e) (lawCells L es.1) s _ _ F N fun tl v h' tk' hj F' N' => ?_) (hsw _)
  obtain ⟨news', hs, hl⟩ := hj
  refine storeX_L (cn := Str.ofString "law") (cs := sc) F' (fun p hp => N' p (hs p hp)) (fun h'' F'' N'' => hK h'' _ _ news' F'' N'' hl) es.2 ?_
  have := hx.1
  rw [es.1] at this
  exact this
theorem LStep.ofAssignCell {n : Nat} {h₀ : Heap} {L : Addr} {m : Map} {news : Led} {x : PySem.Str} {e : Expr} {p' pos : Pos} {sc : Scope} {ca : Addr} (es : lawScope = some sc ∧ sc.kind = .function) (hx : LN lawScope x .cell)
    (hc : (cellsFrom (L + 1) sc.names []).lookup x = some ca)
    (hsw : ∀ env : Env, swapsWith e (some (.Name x p')) pos.line env = pure false)
    (h : ∀ c : Cx w, c.OkL → (∀ x v, m x = some v → c.m x = some v) → c.cl.lookup (Str.ofString "reference") = some (L + 1) ∧ c.cl.lookup (Str.ofString "values") = some (L + 1 + 1) → J c (eval e c.env) news (EndCell w (n + 1) h₀ L m ca)) : LStep w n h₀ L m news (.Assign [.Name x p'] e pos) sc := by
  unfold LStep
  intro mean mg mb a cd s K B F X N T hK
  refine wpAny_Assign_Name (h (lawCx w mean mg mb sc a cd h₀ L m) (lawOk es B X T) (fun _ _ e => e) (lawCells L es.1) s _ _ F N fun tl v h' tk' hj F' N' => ?_) (hsw _)
  obtain ⟨o, v₀, hm, hd, hl⟩ := hj
  refine storeX_C (cn := Str.ofString "law") (cs := sc) (news := (ca, o) :: tl.filter fun p => p.1 != ca) (g := fun o' => (ca, o') :: tl.filter fun p => p.1 != ca) F' (fun p hp => (List.mem_cons.mp hp).elim (fun e => e ▸ N' _ hm) fun hp => N' p (List.mem_filter.mp hp).1) hc ?_ hd (fun h'' o' F'' N'' hd' => ?_) es.2 ?_
  · exact UpdF.head fun p hp => by
      have := (List.mem_filter.mp hp).2
      exact fun e => by rw [e] at this; simp at this
  · obtain ⟨A, hA, hr⟩ := hl o' hd'
    refine hK h'' _ m A F'' (fun p hp => ?_) hr
    rcases hA p hp with e | ⟨h1, h2⟩
    · exact e ▸ N'' _ (.head _)
    · exact N'' p (.tail _ (List.mem_filter.mpr ⟨h1, by simpa using h2⟩))
  · have := hx.1
    rw [es.1] at this
    exact this
theorem ne_x {tl : Led} {d x ca : Addr} {o : Obj} (hdx : @LT.lt Nat _ d x) (hlt : ∀ p ∈ tl, @LT.lt Nat _ p.1 d) (hm : (ca, o) ∈ tl) : x ≠ ca := Nat.ne_of_gt (Nat.lt_trans (hlt _ hm) hdx)
theorem ne_d {tl : Led} {d ca : Addr} {o : Obj} (hlt : ∀ p ∈ tl, @LT.lt Nat _ p.1 d) (hm : (ca, o) ∈ tl) : d ≠ ca := Nat.ne_of_gt (hlt _ hm)
theorem lt_x {tl : Led} {d x ca : Addr} {o : Obj} (hdx : @LT.lt Nat _ d x) (hlt : ∀ p ∈ tl, @LT.lt Nat _ p.1 d) (hm : (ca, o) ∈ tl) : @LT.lt Nat _ ca x := Nat.lt_trans (hlt _ hm) hdx
theorem lt_d {tl : Led} {d a : Addr} {o : Obj} (hlt : ∀ p ∈ tl, @LT.lt Nat _ p.1 d) (hm : (a, o) ∈ tl) : @LT.lt Nat _ a d := hlt _ hm
theorem lt_k {tl : Led} {d x k ca : Addr} {o : Obj} (hxk : @LT.lt Nat _ x k) (hdx : @LT.lt Nat _ d x) (hlt : ∀ p ∈ tl, @LT.lt Nat _ p.1 d) (hm : (ca, o) ∈ tl) : @LT.lt Nat _ ca k := Nat.lt_trans (lt_x hdx hlt hm) hxk
theorem ne_k {tl : Led} {d x k ca : Addr} {o : Obj} (hxk : @LT.lt Nat _ x k) (hdx : @LT.lt Nat _ d x) (hlt : ∀ p ∈ tl, @LT.lt Nat _ p.1 d) (hm : (ca, o) ∈ tl) : k ≠ ca := Nat.ne_of_gt (lt_k hxk hdx hlt hm)
theorem all_cons {P : Addr × Obj → Prop} {a : Addr × Obj} {l : Led} (h : P a) (t : ∀ p ∈ l, P p) : ∀ p ∈ a :: l, P p := fun p hp => (List.mem_cons.mp hp).elim (fun e => e ▸ h) fun hp => t p hp
theorem all_nil {P : Addr × Obj → Prop} : ∀ p ∈ ([] : Led), P p := fun _ hp => nomatch hp
theorem J.cell (ok : c.Ok fs) {x : PySem.Str} {pos : Pos} {v : Value} {ca : Addr} {o : Obj} {K : Led → Value → Prop} (hx : LN fs x .cell) (hc : c.cl.lookup x = some ca) (hm : (ca, o) ∈ news) (hd : o.data = .cell (some v)) (h : K news v) : J c (eval (.Name x pos) c.env) news K :=
  fun s _ _ F N k => nameX_C N hc hm hd (k _ _ s.heap s.toks h F N) ok.hk (kindL ok hx) hx.2
theorem J.useC (ok : c.Ok fs) {f : Addr} {pos : List Value} {kw : List (PySem.Str × Value)} {Ret : (Led → Value → Prop) → Prop} {K : Led → Value → Prop} (H : CallC w f pos kw news Ret) (h : ∀ K' : Led → Value → Prop, (∀ tl r, K tl r → K' tl r) → Ret K') : J c (call (.ref f) pos kw) news K :=
  fun _ _ _ F N k => use_C H ok.B F ok.X N ok.T ok.hk ok.hd ok.hu (h _ fun tl r hk h' tk' F' N' => k tl r h' tk' hk F' N')
theorem J.useL (ok : c.OkL) {f : Addr} {pos : List Value} {kw : List (PySem.Str × Value)} {Ret : (Led → Value → Prop) → Prop} {K : Led → Value → Prop} (H : CallL w f pos kw news Ret) (h : ∀ K' : Led → Value → Prop, (∀ tl r, K tl r → K' tl r) → Ret K') : J c (call (.ref f) pos kw) news K :=
  by
    intro s Q E F N k
    obtain ⟨ok, ho, hb, hd, hu⟩ := ok
    have B := ok.B
    rw [ho, hb] at B
    unfold Cx.A
    rw [ho]
    exact use_L H B F ok.X N ok.T ok.hk hd hu (h _ fun tl r hk h' tk' F' N' => k tl r h' tk' hk F' N')
theorem J.callStr (ok : c.OkL) {f : Addr} {pos : List Value} {x : PySem.Str} {K : Led → Value → Prop} (H : CallL w f pos [] news (fun K => ∀ t, K news (.str x t))) (h : ∀ t, K news (.str x t)) : J c (call (.ref f) pos []) news K :=
  J.useL ok H fun _ kk t => kk _ _ (h t)
theorem J.callInt (ok : c.OkL) {f : Addr} {pos : List Value} {x : Int} {K : Led → Value → Prop} (H : CallL w f pos [] news (fun K => ∀ t, K news (.int x t))) (h : ∀ t, K news (.int x t)) : J c (call (.ref f) pos []) news K :=
  J.useL ok H fun _ kk t => kk _ _ (h t)
theorem J.callV (ok : c.OkL) {f : Addr} {pos : List Value} {v : Value} {K : Led → Value → Prop} (H : CallL w f pos [] news (fun K => K news v)) (h : K news v) : J c (call (.ref f) pos []) news K :=
  J.useL ok H fun _ kk => kk _ _ h
theorem J.callT2 (ok : c.OkL) {f : Addr} {pos : List Value} {O : Tok → Tok → List Value} {K : Led → Value → Prop} (H : CallL w f pos [] news (fun K => ∀ a t3 t4, (∀ p ∈ news, p.1 < a) → K ((a, tupO (O t3 t4)) :: news) (.ref a))) (h : ∀ tl a t3 t4, (∀ p ∈ news, p ∈ tl) → (a, tupO (O t3 t4)) ∈ tl → (∀ p ∈ news, p.1 < a) → K tl (.ref a)) : J c (call (.ref f) pos []) news K :=
  J.useL ok H fun _ kk a t3 t4 l1 => kk _ _ (h _ a t3 t4 (fun _ hp => .tail _ hp) (.head _) l1)
theorem J.callT3 (ok : c.OkL) {f : Addr} {pos : List Value} {O : Tok → Tok → Tok → List Value} {K : Led → Value → Prop} (H : CallL w f pos [] news (fun K => ∀ a t3 t4 t5, (∀ p ∈ news, p.1 < a) → K ((a, tupO (O t3 t4 t5)) :: news) (.ref a))) (h : ∀ tl a t3 t4 t5, (∀ p ∈ news, p ∈ tl) → (a, tupO (O t3 t4 t5)) ∈ tl → (∀ p ∈ news, p.1 < a) → K tl (.ref a)) : J c (call (.ref f) pos []) news K :=
  J.useL ok H fun _ kk a t3 t4 t5 l1 => kk _ _ (h _ a t3 t4 t5 (fun _ hp => .tail _ hp) (.head _) l1)
end
end Mine

end
-- JE0
section
open PySem PySem.Calls PySem.W PyProof.Rows PyProof.V PySem.Spec PySem.SeqAt
namespace Mine
section
variable {w : World} {c : Cx w} {news : Led} {fs : Option Scope} {k r0 u0 : Nat}
def EqJ (c : Cx w) (k : Nat) (news : Led) (x y : Value) (b : Bool) : Prop := ∀ (A : Around) (s : Shared), A.units ≤ c.un + k → News c.h₀ c.L s.heap news → EqW PySem.Challenge.rw_jh0019_01.row.prog w A s x y b
def EqJs (c : Cx w) (k : Nat) (news : Led) (xs ys : List Value) (b : Bool) : Prop := ∀ (A : Around) (s : Shared), A.units ≤ c.un + k → News c.h₀ c.L s.heap news → EqAll PySem.Challenge.rw_jh0019_01.row.prog w A s xs ys b
theorem EqJs.nil : EqJs c k news [] [] true := fun _ _ _ _ => .nil
theorem EqJs.cons {x y : Value} {xs ys : List Value} {b r : Bool} (h : EqJ c k news x y b) (t : EqJs c k news xs ys r) : EqJs c k news (x :: xs) (y :: ys) (b && r) := fun A s hu N => .cons (h A s hu N) (t A s hu N)
theorem EqJ.str {x y : PySem.Str} {t u : Tok} : EqJ c k news (.str x t) (.str y u) (x == y) := fun _ _ _ _ => EqW.of (EqAt.str_str _ _ _ _)
theorem EqJ.int {x y : Int} {t u : Tok} : EqJ c k news (.int x t) (.int y u) (x == y) := fun _ _ _ _ => EqW.of (EqAt.int_int _ _ _ _)
theorem EqJ.bool {x y : Bool} : EqJ c k news (.bool x) (.bool y) (x == y) := fun _ _ _ _ => EqW.of (EqAt.bool_bool _ _)
theorem EqJ.none : EqJ c k news .none .none true := fun _ _ _ _ => EqW.of (EqAt.same Value.none)
theorem EqJ.bytes {x y : Array UInt8} {t u : Tok} : EqJ c k news (.bytes x t) (.bytes y u) (x.toList == y.toList) := fun _ _ _ _ => eqW_bytes _ _ _ _
theorem EqJ.base {ob : Option PySem.Str} {t u : Tok} : EqJ c k news (baseV ob t) (baseV ob u) true := fun _ _ _ _ => eqW_base _ _ _
theorem units_lt (ok : c.OkR fs r0 u0) {A : Around} (hA : A.units ≤ c.un + k) (hk : k ≤ u0) : A.units < cLine := by have := ok.hu; omega
theorem units_in (A : Around) (hA : A.units ≤ c.un + k) : A.in1.units ≤ c.un + (k + 1) := by rw [units_in1]; omega
theorem EqJ.tups (ok : c.OkR fs r0 u0) (hk : k ≤ u0) {a b : Addr} {xs ys : List Value} {r : Bool} (hne : a ≠ b) (ma : (a, tupO xs) ∈ news) (mb : (b, tupO ys) ∈ news) (h : EqJs c (k + 1) news xs ys r) : EqJ c k news (.ref a) (.ref b) r :=
  fun A s hu N => eqW_tups hne N ma rfl rfl mb rfl rfl (units_lt ok hu hk) (h A.in1 s (units_in A hu) N)
theorem EqJ.lists (ok : c.OkR fs r0 u0) (hk : k ≤ u0) {a b : Addr} {xs ys : List Value} {ka kb : Nat} {r : Bool} (hne : a ≠ b) (ma : (a, W.listOf xs.toArray ka) ∈ news) (mb : (b, W.listOf ys.toArray kb) ∈ news) (h : EqJs c (k + 1) news xs ys r) : EqJ c k news (.ref a) (.ref b) r :=
  fun A s hu N => eqW_lists hne N ma rfl rfl mb rfl rfl (units_lt ok hu hk) (h A.in1 s (units_in A hu) N)
theorem tab_of {h₀ h : Heap} {L d : Addr} {o : Obj} {kv : List (PySem.Str × Value)} {c1 : List (PySem.Str × Int)} {P : Program} (N : News h₀ L h news) (m : (d, o) ∈ news) (lo : (d == sysModules) = false) (hd : o.IsDictOf (PySem.strKind P w) kv) (hf : FlatPairs PyData.str kv (kdpD c1)) : StrTab P w h d (kdpD c1) := TabAt.ofNews N m lo hd hf
theorem EqJ.dicts (ok : c.OkR fs r0 u0) (hk : k ≤ u0) {a b : Addr} {oa ob : Obj} {kva kvb : List (PySem.Str × Value)} {ca cb : List (PySem.Str × Int)} (hne : a ≠ b) (ma : (a, oa) ∈ news) (mb : (b, ob) ∈ news) (la : (a == sysModules) = false) (lb : (b == sysModules) = false) (da : oa.IsDictOf (strK w) kva) (db : ob.IsDictOf (strK w) kvb) (fa : FlatPairs PyData.str kva (kdpD ca)) (fb : FlatPairs PyData.str kvb (kdpD cb)) : EqJ c k news (.ref a) (.ref b) (dEq ca cb) :=
  fun A s hu N => eqW_dicts hne (tab_of N ma la da fa) (tab_of N mb lb db fb) (units_lt ok hu hk)
theorem EqJ.noneDict (ok : c.OkR fs r0 u0) (hk : k ≤ u0) {b : Addr} {ob : Obj} {kvb : List (PySem.Str × Value)} (mb : (b, ob) ∈ news) (db : ob.IsDictOf (strK w) kvb) : EqJ c k news .none (.ref b) false := fun A s hu N => eqW_none_dict N mb db (units_lt ok hu hk)
theorem EqJ.dictNone (ok : c.OkR fs r0 u0) (hk : k ≤ u0) {b : Addr} {ob : Obj} {kvb : List (PySem.Str × Value)} (mb : (b, ob) ∈ news) (db : ob.IsDictOf (strK w) kvb) : EqJ c k news (.ref b) .none false := fun A s hu N => eqW_dict_none N mb db (units_lt ok hu hk)
theorem Aun (c : Cx w) : c.A.units = c.un := rfl
theorem J.neL (ok : c.OkR fs r0 u0) {a b : Addr} {xs ys : List Value} {ka kb : Nat} {r : Bool} {K : Led → Value → Prop} (ma : (a, W.listOf xs.toArray ka) ∈ news) (mb : (b, W.listOf ys.toArray kb) ∈ news) (he : EqJs c 1 news xs ys r) (hr : r = true) (h : K news (.bool false)) : J c (compareOp .NotEq (.ref a) (.ref b)) news K :=
  fun s _ _ F N q => cmp_ofNotEq (ne_lists N ma rfl rfl mb rfl rfl (units_lt ok (Nat.le_refl _ : c.A.units ≤ c.un + 0) (Nat.zero_le _)) (he c.A.in1 s (units_in c.A (Nat.le_refl _)) N) (by rw [hr]; exact q _ _ s.heap s.toks h F N))
theorem J.eqL (ok : c.OkR fs r0 u0) {a b : Addr} {xs ys : List Value} {ka kb : Nat} {r : Bool} {K : Led → Value → Prop} (ma : (a, W.listOf xs.toArray ka) ∈ news) (mb : (b, W.listOf ys.toArray kb) ∈ news) (he : EqJs c 1 news xs ys r) (h : K news (.bool r)) : J c (compareOp .Eq (.ref a) (.ref b)) news K :=
  fun s _ _ F N q => cmp_ofEq (eq_lists N ma rfl rfl mb rfl rfl (units_lt ok (Nat.le_refl _ : c.A.units ≤ c.un + 0) (Nat.zero_le _)) (he c.A.in1 s (units_in c.A (Nat.le_refl _)) N) (q _ _ s.heap s.toks h F N))
theorem J.eqT (ok : c.OkR fs r0 u0) {a b : Addr} {xs ys : List Value} {r : Bool} {K : Led → Value → Prop} (ma : (a, tupO xs) ∈ news) (mb : (b, tupO ys) ∈ news) (he : EqJs c 1 news xs ys r) (h : K news (.bool r)) : J c (compareOp .Eq (.ref a) (.ref b)) news K :=
  fun s _ _ F N q => cmp_ofEq (eq_tups N ma rfl rfl mb rfl rfl (units_lt ok (Nat.le_refl _ : c.A.units ≤ c.un + 0) (Nat.zero_le _)) (he c.A.in1 s (units_in c.A (Nat.le_refl _)) N) (q _ _ s.heap s.toks h F N))
theorem J.neT (ok : c.OkR fs r0 u0) {a b : Addr} {xs ys : List Value} {r : Bool} {K : Led → Value → Prop} (ma : (a, tupO xs) ∈ news) (mb : (b, tupO ys) ∈ news) (he : EqJs c 1 news xs ys r) (hr : r = true) (h : K news (.bool false)) : J c (compareOp .NotEq (.ref a) (.ref b)) news K :=
  fun s _ _ F N q => cmp_ofNotEq (ne_tups N ma rfl rfl mb rfl rfl (units_lt ok (Nat.le_refl _ : c.A.units ≤ c.un + 0) (Nat.zero_le _)) (he c.A.in1 s (units_in c.A (Nat.le_refl _)) N) (by rw [hr]; exact q _ _ s.heap s.toks h F N))
theorem J.eqD (ok : c.OkR fs r0 u0) {a b : Addr} {oa ob : Obj} {kva kvb : List (PySem.Str × Value)} {ca cb : List (PySem.Str × Int)} {K : Led → Value → Prop} (ma : (a, oa) ∈ news) (mb : (b, ob) ∈ news) (la : (a == sysModules) = false) (lb : (b == sysModules) = false) (da : oa.IsDictOf (strK w) kva) (db : ob.IsDictOf (strK w) kvb) (fa : FlatPairs PyData.str kva (kdpD ca)) (fb : FlatPairs PyData.str kvb (kdpD cb)) (h : K news (.bool (dEq ca cb))) : J c (compareOp .Eq (.ref a) (.ref b)) news K :=
  fun s _ _ F N q => cmp_ofEq (rc_dicts (tab_of N ma la da fa) (tab_of N mb lb db fb) (units_lt ok (Nat.le_refl _ : c.A.units ≤ c.un + 0) (Nat.zero_le _)) (q _ _ s.heap s.toks h F N))
theorem J.neD (ok : c.OkR fs r0 u0) {a b : Addr} {oa ob : Obj} {kva kvb : List (PySem.Str × Value)} {ca cb : List (PySem.Str × Int)} {K : Led → Value → Prop} (ma : (a, oa) ∈ news) (mb : (b, ob) ∈ news) (la : (a == sysModules) = false) (lb : (b == sysModules) = false) (da : oa.IsDictOf (strK w) kva) (db : ob.IsDictOf (strK w) kvb) (fa : FlatPairs PyData.str kva (kdpD ca)) (fb : FlatPairs PyData.str kvb (kdpD cb)) (h : K news (.bool (!dEq ca cb))) : J c (compareOp .NotEq (.ref a) (.ref b)) news K :=
  fun s _ _ F N q => cmp_ofNotEq (nc_dicts (tab_of N ma la da fa) (tab_of N mb lb db fb) (units_lt ok (Nat.le_refl _ : c.A.units ≤ c.un + 0) (Nat.zero_le _)) (q _ _ s.heap s.toks h F N))
theorem J.neStr {x y : PySem.Str} {t u : Tok} {K : Led → Value → Prop} (h : K news (.bool (x != y))) : J c (compareOp .NotEq (.str x t) (.str y u)) news K := fun s _ _ F N q => ne_str (q _ _ s.heap s.toks h F N)
theorem J.neInt {x y : Int} {t u : Tok} {K : Led → Value → Prop} (h : K news (.bool (x != y))) : J c (compareOp .NotEq (.int x t) (.int y u)) news K := fun s _ _ F N q => ne_int (q _ _ s.heap s.toks h F N)
theorem J.eqInt {x y : Int} {t u : Tok} {K : Led → Value → Prop} (h : K news (.bool (x == y))) : J c (compareOp .Eq (.int x t) (.int y u)) news K := fun s _ _ F N q => eq_int (q _ _ s.heap s.toks h F N)
theorem J.neBool {x y : Bool} {K : Led → Value → Prop} (h : K news (.bool (x != y))) : J c (compareOp .NotEq (.bool x) (.bool y)) news K := fun s _ _ F N q => ne_bool (q _ _ s.heap s.toks h F N)
theorem J.mod {a b : Int} {t u : Tok} {K : Led → Value → Prop} (hb : b ≠ 0) (h : ∀ t, K news (.int (a.fmod b) t)) : J c (binaryOp .Mod (.int a t) (.int b u)) news K := fun s _ _ F N q => mod_int' hb (q _ _ s.heap _ (h _) F N)
theorem J.add {a b : Int} {t u : Tok} {K : Led → Value → Prop} (h : ∀ t, K news (.int (a + b) t)) : J c (binaryOp .Add (.int a t) (.int b u)) news K := fun s _ _ F N q => add_int (q _ _ s.heap _ (h _) F N)
theorem J.cmpC (ok : c.Ok fs) {v u : Value} {b : Bool} {K : Led → Value → Prop} (H : CmpC w v u news b) (h : K news (.bool b)) : J c (compareOp .Eq v u) news K :=
  fun _ _ _ F N q => use_Cmp H ok.B F ok.X N ok.T ok.hk ok.hd ok.hu fun h' tk' F' N' => q _ _ h' tk' h F' N'
theorem J.neC (ok : c.OkL) {v u : Value} {b : Bool} {K : Led → Value → Prop} (H : NeC w v u news b) (h : K news (.bool b)) : J c (compareOp .NotEq v u) news K :=
  fun s Q E F N q => H c.mean c.mg c.mb c.dp c.un c.gd c.cn c.cs c.a c.ccd c.cl c.outer c.A₀ c.base c.h₀ c.L c.m s Q E ok.ok.B F ok.ok.X N ok.ok.T ok.ok.hk ok.hd ok.hu fun h' tk' F' N' => q _ _ h' tk' h F' N'
theorem J.bytes12 {t : Tok} {K : Led → Value → Prop} (h : ∀ t', K news (.bytes (Array.replicate 12 0) t')) : J c (call (.type "bytes") [.int 12 t]) news K := fun s _ _ F N q => call_bytes_12 fun t' k => q _ _ s.heap k (h t') F N
end
theorem cmpC_sub {w : World} {v u : Value} {A news : Led} {b : Bool} (H : CmpC w v u A b) (h1 : ∀ p ∈ A, p ∈ news) (h2 : ∀ p ∈ news, p ∈ A) : CmpC w v u news b :=
  fun mean mg mb dp un gd cn cs a ccd cl outer A₀ base h₀ L m s Q E B F X N T hk hd hu hret => H mean mg mb dp un gd cn cs a ccd cl outer A₀ base h₀ L m s Q E B F X (fun p hp => N p (h1 p hp)) T hk hd hu fun h' tk' F' N' => hret h' tk' F' fun x hx => N' x (h2 x hx)
theorem neC_sub {w : World} {v u : Value} {A news : Led} {b : Bool} (H : NeC w v u A b) (h1 : ∀ p ∈ A, p ∈ news) (h2 : ∀ p ∈ news, p ∈ A) : NeC w v u news b :=
  fun mean mg mb dp un gd cn cs a ccd cl outer A₀ base h₀ L m s Q E B F X N T hk hd hu hret => H mean mg mb dp un gd cn cs a ccd cl outer A₀ base h₀ L m s Q E B F X (fun p hp => N p (h1 p hp)) T hk hd hu fun h' tk' F' N' => hret h' tk' F' fun x hx => N' x (h2 x hx)
theorem neC_pick2 {w : World} {v u : Value} {p q : Addr × Obj} {news : Led} {b : Bool} (H : NeC w v u (p :: q :: news) b) (hp : p ∈ news) (hq : q ∈ news) : NeC w v u news b :=
  fun mean mg mb dp un gd cn cs a ccd cl outer A₀ base h₀ L m s Q E B F X N T hk hd hu hret => H mean mg mb dp un gd cn cs a ccd cl outer A₀ base h₀ L m s Q E B F X (news_pick2 N hp hq) T hk hd hu fun h' tk' F' N' => hret h' tk' F' fun x hx => N' x (.tail _ (.tail _ hx))
theorem neC_pick4 {w : World} {v u : Value} {p q p' q' : Addr × Obj} {news : Led} {b : Bool} (H : NeC w v u (p :: q :: p' :: q' :: news) b) (hp : p ∈ news) (hq : q ∈ news) (hp' : p' ∈ news) (hq' : q' ∈ news) : NeC w v u news b :=
  neC_pick2 (neC_pick2 H (.tail _ (.tail _ hp)) (.tail _ (.tail _ hq))) hp' hq'
theorem cmpC_pick4 {w : World} {v u : Value} {p q p' q' : Addr × Obj} {news : Led} {b : Bool} (H : CmpC w v u (p :: q :: p' :: q' :: news) b) (hp : p ∈ news) (hq : q ∈ news) (hp' : p' ∈ news) (hq' : q' ∈ news) : CmpC w v u news b :=
  cmpC_pick2 (cmpC_pick2 H (.tail _ (.tail _ hp)) (.tail _ (.tail _ hq))) hp' hq'
end Mine

end
-- JD0
section
open PySem PySem.Calls PySem.W PyProof.Rows PyProof.V PySem.Spec PySem.SeqAt
namespace Mine
section
variable {w : World} {c : Cx w} {news : Led} {fs : Option Scope}
theorem J.bconst {x : List UInt8} {n : Nat} {pos : Pos} {K : Led → Value → Prop} (h : ∀ t, K news (.bytes x.toArray t)) : J c (eval (.Constant (.bytes x) n pos) c.env) news K := fun s _ _ F N q => Constant_bytes (q _ _ s.heap _ (h _) F N)
theorem J.addB {x y : Array UInt8} {t u : Tok} {K : Led → Value → Prop} (hz : x.size + y.size ≤ 16777216) (h : ∀ t, K news (.bytes (x ++ y) t)) : J c (binaryOp .Add (.bytes x t) (.bytes y u)) news K := fun s _ _ F N q => KBy.add_bytes hz fun t' k => q _ _ s.heap k (h t') F N
theorem J.addS {x y : PySem.Str} {t u : Tok} {K : Led → Value → Prop} (hz : x.length + y.length ≤ 1000) (h : ∀ t, K news (.str (x ++ y) t)) : J c (binaryOp .Add (.str x t) (.str y u)) news K := fun s _ _ F N q => PyProof.Rows.add_str (fun t' tk => q _ _ s.heap tk (h t') F N) (by rw [sizeLine_eq]; omega)
def JInt (c : Cx w) (e : Expr) (k : Int) : Prop := ∀ nn : Led, J c (eval e c.env) nn fun tl v => tl = nn ∧ ∃ t, v = .int k t
theorem jint_c {b : Int} {n : Nat} {p : Pos} : JInt c (.Constant (.int b) n p) b := fun _ => J.int fun _ => ⟨rfl, _, rfl⟩
theorem jint_mod (ok : c.Ok fs) {x : PySem.Str} {p p2 pos : Pos} {n : Nat} {a b : Int} {t : Tok} (hx : LN fs x .local) (hv : c.m x = some (.int a t)) (hb : b ≠ 0) : JInt c (.BinOp (.Name x p) .Mod (.Constant (.int b) n p2) pos) (a.fmod b) := fun _ => J.bin (J.l ok hx hv (J.int fun _ => J.mod hb fun _ => ⟨rfl, _, rfl⟩))
theorem J.dict0 {r u : Nat} (ok : c.OkR fs r u) {pos : Pos} {K : Led → Value → Prop} (h : ∀ tl d o kvs, (∀ p ∈ news, p ∈ tl) → (d, o) ∈ tl → (∀ p ∈ news, p.1 < d) → (d == sysModules) = false → o.IsDictOf (strK w) kvs → FlatPairs PyData.str kvs (kdpD []) → K tl (.ref d)) : J c (eval (.Dict [] [] pos) c.env) news K :=
  fun _ _ _ F N q => newDict_K F N (Top.nolimit ok.T) fun d h' o F' N' l1 lo hd hf _ _ => q _ _ h' _ (h _ d o _ (fun _ hp => .tail _ hp) (.head _) l1 lo hd hf) F' N'
theorem J.dict1 (ok : c.Ok fs) {key : PySem.Str} {n : Nat} {p pos : Pos} {e : Expr} {k : Int} {K : Led → Value → Prop} (he : JInt c e k)
    (h : ∀ tl d o kvs, (∀ p ∈ news, p ∈ tl) → (d, o) ∈ tl → (∀ p ∈ news, p.1 < d) → (d == sysModules) = false → o.IsDictOf (strK w) kvs → FlatPairs PyData.str kvs (kdpD [(key, k)]) → K tl (.ref d)) : J c (eval (.Dict [some (.Constant (.str key) n p)] [e] pos) c.env) news K := by
  intro s Q E F N q
  refine kdn_str rfl F N (Top.nolimit ok.T) rfl rfl (List.cons_ne_nil _ _) (Nat.le_of_ble_eq_true rfl) fun d h' o F' N' l1 lo hd => ?_
  refine pairTrees_cons_walk (Constant_str ?_)
  refine he _ { s with heap := h', toks := s.toks + 1 } _ E F' N' ?_
  rintro tl v h2 tk2 ⟨rfl, t, rfl⟩ F2 N2
  refine pairTrees_nil_walk ?_
  refine kdn_made_strF F2 N2 (UpdF.head fun p hp => Nat.ne_of_lt (l1 p hp)) hd rfl (of_decide_eq_true rfl) rfl fun h3 o3 F3 N3 hd3 hf3 => ?_
  exact q _ _ h3 _ (h _ d o3 _ (fun _ hp => .tail _ hp) (.head _) l1 lo hd3 hf3) F3 N3
theorem J.dict2 (ok : c.Ok fs) {key key2 : PySem.Str} {n n2 : Nat} {p p2 pos : Pos} {e e2 : Expr} {k k2 : Int} {K : Led → Value → Prop} (hne : [key, key2].Nodup) (he : JInt c e k) (he2 : JInt c e2 k2)
    (h : ∀ tl d o kvs, (∀ p ∈ news, p ∈ tl) → (d, o) ∈ tl → (∀ p ∈ news, p.1 < d) → (d == sysModules) = false → o.IsDictOf (strK w) kvs → FlatPairs PyData.str kvs (kdpD [(key, k), (key2, k2)]) → K tl (.ref d)) : J c (eval (.Dict [some (.Constant (.str key) n p), some (.Constant (.str key2) n2 p2)] [e, e2] pos) c.env) news K := by
  intro s Q E F N q
  refine kdn_str rfl F N (Top.nolimit ok.T) rfl rfl (List.cons_ne_nil _ _) (Nat.le_of_ble_eq_true rfl) fun d h' o F' N' l1 lo hd => ?_
  refine pairTrees_cons_walk (Constant_str ?_)
  refine he _ { s with heap := h', toks := s.toks + 1 } _ E F' N' ?_
  rintro tl v h2 tk2 ⟨rfl, t, rfl⟩ F2 N2
  refine pairTrees_cons_walk (Constant_str ?_)
  refine he2 _ { s with heap := h2, toks := tk2 + 1 } _ E F2 N2 ?_
  rintro tl v h4 tk4 ⟨rfl, t4, rfl⟩ F4 N4
  refine pairTrees_nil_walk ?_
  refine kdn_made_strF F4 N4 (UpdF.head fun p hp => Nat.ne_of_lt (l1 p hp)) hd rfl hne rfl fun h3 o3 F3 N3 hd3 hf3 => ?_
  exact q _ _ h3 _ (h _ d o3 _ (fun _ hp => .tail _ hp) (.head _) l1 lo hd3 hf3) F3 N3
theorem J.Attr {x attr : PySem.Str} {p pos : Pos} {K : Led → Value → Prop} (h : J c (eval (.Name x p) c.env) news fun tl o => J c (getAttr o attr true) tl K) : J c (eval (.Attribute (.Name x p) attr pos) c.env) news K := J.lift2 (f := fun _ x => x) (fun _ _ _ x => Attribute_Name_ x rfl) h
theorem J.AttrA {e : Expr} {attr : PySem.Str} {pos : Pos} {K : Led → Value → Prop} (h : J c (eval e c.env) news fun tl o => J c (getAttr o attr true) tl K) (he : eval (.Attribute e attr pos) c.env = (do let o ← eval e c.env; standAt pos.atName; let r ← holding [o] (getAttr o attr true); letTemporaryGo e o r; pure r)) : J c (eval (.Attribute e attr pos) c.env) news K := J.lift2 (f := fun _ x => x) (fun _ _ _ x => Attribute_any_ x he) h
def GA (w : World) (C : Addr) (name : PySem.Str) : Prop := plainGet (hd.heap_1 w.params) C name = true ∧ hasDictIn (hd.heap_1 w.params) C = true ∧ findIn (hd.heap_1 w.params) (.ref C) name = some none
theorem J.own_attr (ok : c.Ok fs) {x C d : Addr} {es : List DictEntry} {n : Nat} {name : PySem.Str} {v : Value} {K : Led → Value → Prop} (mx : (x, instObj C d) ∈ news) (md : (d, dictOf es n) ∈ news) (g : GA w C name) (hg : getL name es = some (some v)) (hh : handedIn v = true) (h : K news v) : J c (getAttr (.ref x) name true) news K :=
  fun s _ _ F N k => get_own F ok.X (InstAt.of_news N mx md) g.1 g.2.1 g.2.2 rfl hg hh (k _ _ s.heap _ h F N)
theorem ga_text (w : World) : GA w 61 (Str.ofString "text") := ⟨by kernel_rfl, by kernel_rfl, by kernel_rfl⟩
theorem ga_flags (w : World) : GA w 626 (Str.ofString "flags") := ⟨by kernel_rfl, by kernel_rfl, by kernel_rfl⟩
theorem J.mulL (ok : c.Ok fs) {l : Addr} {vs ws : List Value} {n : Nat} {x : Int} {u : Tok} {K : Led → Value → Prop} (m : (l, W.listOf vs.toArray n) ∈ news) (h0 : -2 ^ 63 ≤ x ∧ x < 2 ^ 63 ∧ vs.length * x.toNat ≤ 256) (hw : (List.replicate x.toNat vs).flatten = ws) (h : ∀ tl D, (∀ p ∈ news, p ∈ tl) → (D, listO ws) ∈ tl → (∀ p ∈ news, p.1 < D) → K tl (.ref D)) : J c (binaryOp .Mult (.ref l) (.int x u)) news K :=
  fun _ _ _ F N k => KMa.mul F N (N.isList m) h0.1 h0.2.1 h0.2.2 hw fun D h' F' N' l1 => k _ _ h' _ (h _ D (fun _ hp => .tail _ hp) (.head _) l1) F' N'
theorem J.mul4 (ok : c.Ok fs) {l : Addr} {v : Value} {n : Nat} {u : Tok} {K : Led → Value → Prop} (m : (l, W.listOf [v].toArray n) ∈ news) (h : ∀ tl D, (∀ p ∈ news, p ∈ tl) → (D, listO [v, v, v, v]) ∈ tl → (∀ p ∈ news, p.1 < D) → K tl (.ref D)) : J c (binaryOp .Mult (.ref l) (.int 4 u)) news K :=
  J.mulL ok m (by refine ⟨by decide, by decide, ?_⟩; exact Nat.le_of_ble_eq_true rfl) rfl h
theorem J.callKW (ok : c.Ok fs) {x : PySem.Str} {f : Value} {p pos : Pos} {e : Expr} {rest : List Expr} {kws : List Keyword} {K : Led → Value → Prop} (hn : LN fs x .globalImplicit) (hx : LG w x f) (hf : keepIn (hd.heap_1 w.params) f = true)
    (h : J c (spliced (backTo pos (starEach (e :: rest) c.env))) news fun tl vs => J c (evalAll ((backToKw pos (keywordEach kws c.env)).map fun x => x.2)) tl fun tl' ks => J c (call f vs (((backToKw pos (keywordEach kws c.env)).filterMap fun x => x.1).zip ks)) tl' K)
    (he : ((backToKw pos (keywordEach kws c.env)).all fun x => x.1.isSome) = true ∧ (((backTo pos (starEach (e :: rest) c.env)).any fun x => x.1) || ((backToKw pos (keywordEach kws c.env)).any fun x => x.1.isNone)) = false ∧ starEach (e :: rest) c.env = (false, eval e c.env) :: starEach rest c.env) : J c (eval (.Call (.Name x p) (e :: rest) kws pos) c.env) news K :=
  fun s Q E F N k => wpAny_Call_Name_kw (J.g (K := fun tl v => tl = news ∧ v = f) ok hn hx ⟨rfl, rfl⟩ s _ E F N fun tl v h' tk' hv F' N' => by
    obtain ⟨rfl, rfl⟩ := hv
    exact callWith_KW ok.X hf he.1 (h { s with heap := h', toks := tk' } _ E F' N' fun tl2 vs h2 tk2 hj F2 N2 => hj { s with heap := h2, toks := tk2 } _ E F2 N2 fun tl3 ks h3 tk3 hi F3 N3 => ⟨ok.X.keeps F3.keep, hi { s with heap := h3, toks := tk3 } _ E F3 N3 fun tl4 u h4 tk4 hk F4 N4 => k tl4 u h4 tk4 hk F4 N4⟩) he.2.1 he.2.2)
theorem J.kw1 {pos p : Pos} {name : PySem.Str} {e : Expr} {K : Led → List Value → Prop} (h : J c (eval e c.env) news fun tl v => K tl [v]) : J c (evalAll ((backToKw pos (keywordEach [⟨some name, e, p⟩] c.env)).map fun x => x.2)) news K :=
  fun s Q E F N k => kwAll_cons (h s _ E F N fun tl v h' tk' hj F' N' => kwAll_nil (k tl _ h' tk' hj F' N'))
theorem J.callKW1 (ok : c.Ok fs) {x : PySem.Str} {f : Value} {p pos q : Pos} {e e1 : Expr} {rest : List Expr} {name : PySem.Str} {K : Led → Value → Prop} (hn : LN fs x .globalImplicit) (hx : LG w x f) (hf : keepIn (hd.heap_1 w.params) f = true)
    (h : J c (spliced (backTo pos (starEach (e :: rest) c.env))) news fun tl vs => J c (eval e1 c.env) tl fun tl' v => J c (call f vs [(name, v)]) tl' K)
    (he : ((backTo pos (starEach (e :: rest) c.env)).any fun x => x.1) = false ∧ starEach (e :: rest) c.env = (false, eval e c.env) :: starEach rest c.env) : J c (eval (.Call (.Name x p) (e :: rest) [⟨some name, e1, q⟩] pos) c.env) news K :=
  J.callKW ok hn hx hf (h.mono fun _ _ h => J.kw1 h) ⟨rfl, by rw [he.1]; rfl, he.2⟩
theorem J.ifT {t a b : Expr} {pos : Pos} {K : Led → Value → Prop} (h : J c (isTrue t c.env (eval t c.env)) news fun tl v => v = true ∧ J c (eval a c.env) tl K) : J c (eval (.IfExp t a b pos) c.env) news K :=
  fun s Q E F N k => IfExp_ (h s _ E F N fun tl v h' tk' hj F' N' => by
    rw [if_pos hj.1]
    exact hj.2 { s with heap := h', toks := tk' } Q E F' N' fun tl' u h'' tk'' hk F'' N'' => k tl' u h'' tk'' hk F'' N'')
theorem J.ifF {t a b : Expr} {pos : Pos} {K : Led → Value → Prop} (h : J c (isTrue t c.env (eval t c.env)) news fun tl v => v = false ∧ J c (eval b c.env) tl K) : J c (eval (.IfExp t a b pos) c.env) news K :=
  fun s Q E F N k => IfExp_ (h s _ E F N fun tl v h' tk' hj F' N' => by
    rw [if_neg (by rw [hj.1]; exact Bool.false_ne_true)]
    exact hj.2 { s with heap := h', toks := tk' } Q E F' N' fun tl' u h'' tk'' hk F'' N'' => k tl' u h'' tk'' hk F'' N'')
theorem J.inT {t : Addr} {items : List Value} {ns : List Int} {x : Int} {u : Tok} {K : Led → Value → Prop} (m : (t, tupO items) ∈ news) (hI : IntsAre items ns) (h : K news (.bool (ns.any fun y => y == x))) : J c (compareOp .In (.int x u) (.ref t)) news K :=
  fun s _ _ F N q => in_tuple_ints (News.isTup N m) (by simpa using hI) (q _ _ s.heap s.toks h F N)
theorem J.and_f {P : Prop} {b : Bool} (hb : b = false) (h : P) : b = false ∧ P := ⟨hb, h⟩
theorem any_swap (f : Int → Bool) : ([0, 3, 4, 5, 6].any f) = ([0, 4, 3, 5, 6].any f) := by
  simp only [List.any_cons, List.any_nil]
  cases f 3 <;> cases f 4 <;> simp
theorem EqJs.strs {k : Nat} {xs ys : List Value} {f g : List PySem.Str} (hx : StrsAre xs f) (hy : StrsAre ys g) (hl : f.length = g.length) : EqJs c k news xs ys (f == g) := fun _ _ _ _ => EqAll.strs hx hy hl
def KeysK (w : World) (K : Led → Value → Prop) (tl : Led) (v : Value) : Prop := ∃ d o kvs cc, v = .ref d ∧ (d, o) ∈ tl ∧ (d == sysModules) = false ∧ o.IsDictOf (strK w) kvs ∧ FlatPairs PyData.str kvs (kdpD cc) ∧ cc.length ≤ 100 ∧ ∀ tl' D ys n, StrsAre ys (cc.map (·.1)) → (∀ p ∈ tl, p ∈ tl') → (D, W.listOf ys.toArray n) ∈ tl' → (∀ p ∈ tl, p.1 ≠ D) → K tl' (.ref D)
theorem KeysK.intro {K : Led → Value → Prop} {tl : Led} {d : Addr} {o : Obj} {kvs : List (PySem.Str × Value)} {cc : List (PySem.Str × Int)} (m : (d, o) ∈ tl) (lo : (d == sysModules) = false) (hd : o.IsDictOf (strK w) kvs) (hf : FlatPairs PyData.str kvs (kdpD cc)) (hl : cc.length ≤ 100) (h : ∀ tl' D ys n, StrsAre ys (cc.map (·.1)) → (∀ p ∈ tl, p ∈ tl') → (D, W.listOf ys.toArray n) ∈ tl' → (∀ p ∈ tl, p.1 ≠ D) → K tl' (.ref D)) : KeysK w K tl (.ref d) := ⟨d, o, kvs, cc, rfl, m, lo, hd, hf, hl, h⟩
theorem J.keys {x : PySem.Str} {px px2 pos : Pos} {iter : Expr} {scope : Scope} {K : Led → Value → Prop} (c1 : ∀ y ∈ scope.names, y.2 ≠ .free) (c2 : ∀ y ∈ scope.names, y.2 ≠ .cell) (c3 : scope.kind = .function) (c4 : ∀ y ∈ scope.names, y.2 = .local → scope.names.lookup y.1 = some .local) (c5 : scope.names.lookup x = some .local) (c6 : (x == Str.ofString "__debug__") = false) (c8 : ∀ x, foldedSetIterable iter c.env x = pure x)
    (h : J c (eval iter c.env) news (KeysK w K)) : J c (eval (.ListComp (.Name x px2) [⟨.Name x px, iter, [], 0⟩] scope pos) c.env) news K :=
  fun s Q E F N q => comp_keys c1 c2 c3 c4 c5 c6 (h s _ E F N fun tl v h' tk' hj F' N' => by
    obtain ⟨d, o, kvs, cc, rfl, hm, lo, hd, hf, hl, hk⟩ := hj
    exact KeysSrc.intro rfl lo F' N' hm hd hf hl fun D h2 tk2 ys n hS F2 N2 hne => q _ _ h2 tk2 (hk _ D ys n hS (fun _ hp => .tail _ hp) (.head _) hne) F2 N2) c8
theorem ne_of_all {tl : Led} {a D : Addr} {o : Obj} (h : ∀ p ∈ tl, p.1 ≠ D) (hm : (a, o) ∈ tl) : a ≠ D := h _ hm
theorem allLt_of {d : Addr} {l : Led} : (∀ p ∈ l, @LT.lt Nat _ p.1 d) → AllLt d l := by
  induction l with
  | nil => intro _; trivial
  | cons a r ih => intro h; exact ⟨h a (.head _), ih fun p hp => h p (.tail _ hp)⟩
end
end Mine

end
-- JF
section
open PySem PySem.Calls PySem.W PyProof.Rows PyProof.V PySem.Spec PySem.SeqAt
namespace Mine
section
variable {w : World} {c : Cx w} {news : Led} {fs : Option Scope}
inductive Pures (c : Cx w) (T : Value → Sem Value) (tl : Led) : List Value → List Value → Prop
  | nil : Pures c T tl [] []
  | cons {v y : Value} {vs ys : List Value} : (∀ nn, (∀ p ∈ tl, p ∈ nn) → J c (T v) nn fun tl' u => tl' = nn ∧ u = y) → Pures c T tl vs ys → Pures c T tl (v :: vs) (y :: ys)
def CompK (c : Cx w) (T : Value → Sem Value) (K : Led → Value → Prop) (tl : Led) (v : Value) : Prop := ∃ l n its ys, v = .ref l ∧ (l, W.listOf its.toArray n) ∈ tl ∧ its.length ≤ 1000 ∧ Pures c T tl its ys ∧ ∀ D tl', (∀ p ∈ tl, p ∈ tl') → (D, LCg.lst ys) ∈ tl' → (∀ p ∈ tl, p.1 ≠ D) → K tl' (.ref D)
theorem CompK.intro {T : Value → Sem Value} {K : Led → Value → Prop} {tl : Led} {l : Addr} {n : Nat} {its ys : List Value} (m : (l, W.listOf its.toArray n) ∈ tl) (hz : its.length ≤ 1000) (hp : Pures c T tl its ys) (h : ∀ D tl', (∀ p ∈ tl, p ∈ tl') → (D, LCg.lst ys) ∈ tl' → (∀ p ∈ tl, p.1 ≠ D) → K tl' (.ref D)) : CompK c T K tl (.ref l) := ⟨l, n, its, ys, rfl, m, hz, hp, h⟩
theorem off1_all {D : Addr} {l : Led} : LCg.Off1 D l → ∀ p ∈ l, p.1 ≠ D := by
  induction l with
  | nil => intro _ p h; exact nomatch h
  | cons a r ih =>
    intro x p h
    cases h with
    | head => exact x.1
    | tail _ h => exact ih x.2 p h
theorem comp_rest {elt : Expr} {x : PySem.Str} {scope : Scope} {cl : List (PySem.Str × Addr)} {T : Value → Sem Value} {tl : Led} {l : Addr} {n : Nat} {all : List Value} {s : Shared} {Fin : List Value → Led → Prop}
    (helt : ∀ (C : Addr) (oC : Obj) (m₂ : Map) (s : Shared) (Q E : Value → Shared → Prop) (v : Value) (nn : Led), (∀ p ∈ tl, p ∈ nn) → News c.h₀ c.L s.heap nn → (C, oC) ∈ nn → LCg.NsObj oC m₂ → m₂ x = some v → Fr c.h₀ c.L s.heap c.m → wpAny (Wm w) c.A (T v) Q E s → wpAny (Wm w) c.A (eval elt (compEnvC scope cl C c.env)) Q E s)
    (hm : (l, W.listOf all.toArray n) ∈ tl) : ∀ (rest yr : List Value) (i : Nat) (ysd : List Value), all.drop i = rest → Pures c T tl rest yr → Fin (ysd ++ yr) tl → LCg.CompRest PySem.Challenge.rw_jh0019_01.row.prog w c.A c.h₀ c.L c.m c.env elt x scope cl s (LCg.SrcAt c.h₀ l all.toArray) (fun i v => all.toArray[i]? = some v) Fin rest.length i ysd tl := by
  intro rest
  induction rest with
  | nil =>
    intro yr i ysd _ hp hf
    cases hp
    rw [List.append_nil] at hf
    exact hf
  | cons v vs ih =>
    intro yr i ysd hd hp hf
    cases hp with
    | @cons _ y _ ys h t =>
      refine LCg.CompRest.succ fun u I oI C oC D m₂ hh tk E' hu hns hx F N off hne => ?_
      have e : u = v := by
        have h1 : all[i]? = some v := by
          have := congrArg (·[0]?) hd
          simpa [List.getElem?_drop] using this
        have h2 : all[i]? = some u := by simpa using hu
        exact Option.some.inj (h2.symm.trans h1)
      subst e
      refine helt C oC m₂ _ _ _ u _ (fun p hp => .tail _ (.tail _ (.tail _ hp))) N (.tail _ (.head _)) hns hx F ?_
      refine h ((I, oI) :: (C, oC) :: (D, LCg.lst ysd) :: tl) (fun p hp => .tail _ (.tail _ (.tail _ hp))) _ _ _ F N ?_
      rintro tl' z h' tk' ⟨rfl, rfl⟩ F' N'
      refine LCg.CompEnd.intro F' N' tl (fun _ h => h) off (Or.inr ⟨_, hm, rfl, _, rfl⟩) ?_
      refine ih ys (i + 1) (ysd ++ [z]) ?_ t (by simpa using hf)
      have := congrArg List.tail hd
      simpa [List.tail_drop] using this
theorem J.comp {elt iter : Expr} {x : PySem.Str} {px pos : Pos} {scope : Scope} {cl : List (PySem.Str × Addr)} {T : Value → Sem Value} {K : Led → Value → Prop}
    (c1 : closureFor scope c.env = pure cl) (c2 : ∀ y ∈ scope.names, y.2 ≠ .cell) (c3 : scope.kind = .function) (c4 : ∀ y ∈ scope.names, y.2 = .local → scope.names.lookup y.1 = some .local) (c5 : scope.names.lookup x = some .local) (c8 : ∀ x, foldedSetIterable iter c.env x = pure x)
    (helt : ∀ (C : Addr) (oC : Obj) (m₂ : Map) (s : Shared) (Q E : Value → Shared → Prop) (v : Value) (tl nn : Led), (∀ p ∈ tl, p ∈ nn) → (∀ p ∈ news, p ∈ tl) → News c.h₀ c.L s.heap nn → (C, oC) ∈ nn → LCg.NsObj oC m₂ → m₂ x = some v → Fr c.h₀ c.L s.heap c.m → wpAny (Wm w) c.A (T v) Q E s → wpAny (Wm w) c.A (eval elt (compEnvC scope cl C c.env)) Q E s)
    (h : J c (eval iter c.env) news fun tl v => (∀ p ∈ news, p ∈ tl) ∧ CompK c T K tl v) : J c (eval (.ListComp elt [⟨.Name x px, iter, [], 0⟩] scope pos) c.env) news K :=
  fun s Q E F N q => LCg.ListComp_U F c1 c2 c3 c4 c5 (h s _ E F N fun tl v h' tk' hj F' N' => by
    obtain ⟨hsub, l, n, its, ys, rfl, hm, hz, hp, hk⟩ := hj
    refine LCg.CompSrc.ledger rfl F' N' hm (small_size (by simpa using hz)) fun g => ?_
    rw [List.size_toArray]
    refine comp_rest (T := T) (tl := tl) (all := its) (n := n) (fun C oC m₂ s Q E v nn a b d e f g => helt C oC m₂ s Q E v tl nn a hsub b d e f g) hm its ys 0 [] rfl hp ?_
    intro D h2 tk2 F2 N2 off
    exact q _ _ h2 tk2 (hk D _ (fun _ hp => .tail _ hp) (.head _) (off1_all off)) F2 N2) c8
end
end Mine

end
-- JM
section
open PySem PySem.Calls PySem.W PyProof.Rows PyProof.V PySem.Spec PySem.SeqAt
end
open PySem PySem.Calls PySem.W PyProof.Rows PyProof.V PySem.Spec in
set_option hygiene false in
set_option compiler.extract_closed false in
local macro_rules
  | `(tactic| walk_at "mem") => `(tactic| (repeat (first | with_reducible assumption | k_mem | with_reducible refine (by with_reducible assumption : ∀ p ∈ _, p ∈ _) _ ?_)))
  | `(tactic| walk_at "flat") => `(tactic| first | with_reducible assumption | exact Mine.fp_nil (by with_reducible assumption) | exact Mine.fp_disp (by with_reducible assumption) | exact Mine.fp_kw (by with_reducible assumption) | assumption)
  | `(tactic| walk_at "len") => `(tactic| first | omega | exact Nat.le_of_ble_eq_true rfl | exact Nat.le_trans (Mine.putAll_len _ _) (by first | omega | (simp; omega)))
  | `(tactic| walk_at "lt") => `(tactic| first | with_reducible assumption | exact Mine.lt_d (by assumption) (by walk_at "mem") | exact Mine.lt_x (by assumption) (by assumption) (by walk_at "mem") | exact Mine.lt_k (by assumption) (by assumption) (by assumption) (by walk_at "mem"))
  | `(tactic| walk_at "ne") => `(tactic| first | with_reducible assumption | exact Nat.ne_of_lt (by walk_at "lt") | exact Nat.ne_of_gt (by walk_at "lt") | assumption | exact Nat.ne_of_lt (by omega) | exact Nat.ne_of_gt (by omega))
  | `(tactic| walk_at "fact") => `(tactic| first | with_reducible assumption | assumption | omega | walk_at "lt" | exact Mine.ltN (by omega) | exact Nat.ne_of_lt (by walk_at "lt"))
  | `(tactic| walk_at "loc") => `(tactic| with_reducible first | exact Mine.ln_script | exact Mine.ln_numbers | exact Mine.ln_n | exact Mine.ln_m | exact Mine.ln_row | exact Mine.ln_subtype | exact Mine.ln_whole | exact Mine.ln_one | exact Mine.ln_two | exact Mine.ln_text | exact Mine.ln_first | exact Mine.ln_second | exact Mine.ln_due | exact Mine.ln_named | exact Mine.ln_letters | exact Mine.ln_flags | exact Mine.ln_letter | exact Mine.ln_bit | exact Mine.ln_base | exact Mine.ln_others | exact Mine.ln_fault)

-- JS
section
open PySem PySem.Calls PySem.W PyProof.Rows PyProof.V PySem.Spec PySem.SeqAt
namespace Mine
set_option maxRecDepth 100000
section
variable {w : World} {c : Cx w} {news : Led} {fs : Option Scope} {r u : Nat}
inductive Lett (g : Int → PySem.Str) : List Value → List Value → Prop
  | nil : Lett g [] []
  | cons {k : Int} {t t' : Tok} {vs us : List Value} : Lett g vs us → Lett g (.int k t :: vs) (.str (g k) t' :: us)
theorem Lett.carried {g : Int → PySem.Str} : ∀ {vs us : List Value} {ns : List Int}, IntsAre vs ns → Lett g vs us → CarriedAll us (ns.map fun a => PyData.str (g a))
  | _, _, _, .nil, .nil => .nil
  | _, _, _, .cons _ _ h, .cons l => .cons (.str _ _) (Lett.carried h l)
theorem lett_rest {elt : Expr} {x : PySem.Str} {scope : Scope} {cl : List (PySem.Str × Addr)} {g : Int → PySem.Str} {tl : Led} {l : Addr} {n : Nat} {all : List Value} {s : Shared} {Fin : List Value → Led → Prop}
    (helt : ∀ (C : Addr) (oC : Obj) (m₂ : Map) (s : Shared) (Q E : Value → Shared → Prop) (k : Int) (t : Tok) (nn : Led), News c.h₀ c.L s.heap nn → (C, oC) ∈ nn → LCg.NsObj oC m₂ → m₂ x = some (.int k t) → (∀ t' tk, Q (.str (g k) t') { s with toks := tk }) → wpAny (Wm w) c.A (eval elt (compEnvC scope cl C c.env)) Q E s)
    (hm : (l, W.listOf all.toArray n) ∈ tl) : ∀ (rest : List Value) (ns : List Int) (i : Nat) (ysd : List Value), IntsAre rest ns → all.drop i = rest → (∀ yr, Lett g rest yr → Fin (ysd ++ yr) tl) → LCg.CompRest PySem.Challenge.rw_jh0019_01.row.prog w c.A c.h₀ c.L c.m c.env elt x scope cl s (LCg.SrcAt c.h₀ l all.toArray) (fun i v => all.toArray[i]? = some v) Fin rest.length i ysd tl := by
  intro rest
  induction rest with
  | nil =>
    intro ns i ysd _ _ hf
    have := hf [] .nil
    rw [List.append_nil] at this
    exact this
  | cons v vs ih =>
    intro ns i ysd hi hd hf
    cases hi with
    | @cons k t _ ns hi =>
      refine LCg.CompRest.succ fun u I oI C oC D m₂ hh tk E' hu hns hx F N off hne => ?_
      have e : u = .int k t := by
        have h1 : all[i]? = some (.int k t) := by
          have := congrArg (·[0]?) hd
          simpa [List.getElem?_drop] using this
        have h2 : all[i]? = some u := by simpa using hu
        exact Option.some.inj (h2.symm.trans h1)
      subst e
      refine helt C oC m₂ _ _ _ k t _ N (.tail _ (.head _)) hns hx fun t' tk' => ?_
      refine LCg.CompEnd.intro F N tl (fun _ h => h) off (Or.inr ⟨_, hm, rfl, _, rfl⟩) ?_
      refine ih ns (i + 1) (ysd ++ [.str (g k) t']) hi ?_ fun yr hy => by simpa using hf _ (.cons hy)
      have := congrArg List.tail hd
      simpa [List.tail_drop] using this
theorem J.letters (ok : c.OkR fs r u) {abc : String} {b : Int} {x y : PySem.Str} {k1 k2 : Nat} {p1 p2 p3 p4 p5 p6 p7 p8 pos pj pc : Pos} {kk : Nat} {scope : Scope} {l : Addr} {vs : List Value} {ns : List Int} {n : Nat} {K : Led → Value → Prop}
    (hy : LN fs y .local) (hv : c.m y = some (.ref l)) (m : (l, W.listOf vs.toArray n) ∈ news) (hi : IntsAre vs ns) (hz : vs.length ≤ 100)
    (hb0 : 0 < b) (hb : b ≤ ((Str.ofString abc).length : Int)) (hx' : ((Str.ofString abc).length : Int) < 9223372036854775808) (h1 : ∀ k : Int, (Txt.item (Str.ofString abc) (k.fmod b)).length = 1)
    (c1 : closureFor scope c.env = pure []) (c2 : ∀ y ∈ scope.names, y.2 ≠ .cell) (c3 : scope.kind = .function) (c4 : ∀ y ∈ scope.names, y.2 = .local → scope.names.lookup y.1 = some .local) (c5 : scope.names.lookup x = some .local) (c6 : (x == ("__debug__" : PySem.Str)) = false) (c7 : ∀ C, (compEnvC scope [] C c.env).scope.kind = .function ∧ (compEnvC scope [] C c.env).kindOf x = some .local) (c8 : ∀ x, foldedSetIterable (.Name y p5) c.env x = pure x)
    (hs : ∀ t k t2, subscripted (.BinOp (.Name x p2) .Mod (.Constant (.int b) k2 p3) p4) false (.str (Str.ofString abc) t) (.int k t2) = operate [.str (Str.ofString abc) t, .int k t2] (getItem (.str (Str.ofString abc) t) (.int k t2)))
    (ht : ∀ t r, letTemporaryGo (.Constant (.str (Str.ofString abc)) k1 p1) (.str (Str.ofString abc) t) r = pure ())
    (he : eval (.Call (.Attribute (.Constant (.str (Str.ofString "")) kk pc) (Str.ofString "join") pj) [.ListComp (.Subscript (.Constant (.str (Str.ofString abc)) k1 p1) (.BinOp (.Name x p2) .Mod (.Constant (.int b) k2 p3) p4) p6) [⟨.Name x p7, .Name y p5, [], 0⟩] scope p8] [] pos) c.env = (do let ov ← eval (.Constant (.str (Str.ofString "")) kk pc) c.env; standAt pj.atName; let (f, first) ← holding [ov] (getMethod ov (Str.ofString "join") (pure false)); callWith pos f first (backTo pos (starEach [.ListComp (.Subscript (.Constant (.str (Str.ofString abc)) k1 p1) (.BinOp (.Name x p2) .Mod (.Constant (.int b) k2 p3) p4) p6) [⟨.Name x p7, .Name y p5, [], 0⟩] scope p8] c.env)) []))
    (h : ∀ t, K news (.str (PySem.Txt.join (Str.ofString "") (ns.map fun k => Txt.item (Str.ofString abc) (k.fmod b))) t)) :
    J c (eval (.Call (.Attribute (.Constant (.str (Str.ofString "")) kk pc) (Str.ofString "join") pj) [.ListComp (.Subscript (.Constant (.str (Str.ofString abc)) k1 p1) (.BinOp (.Name x p2) .Mod (.Constant (.int b) k2 p3) p4) p6) [⟨.Name x p7, .Name y p5, [], 0⟩] scope p8] [] pos) c.env) news K := by
  intro s Q E F N q
  have hst : starEach [.ListComp (.Subscript (.Constant (.str (Str.ofString abc)) k1 p1) (.BinOp (.Name x p2) .Mod (.Constant (.int b) k2 p3) p4) p6) [⟨.Name x p7, .Name y p5, [], 0⟩] scope p8] c.env = (false, eval (.ListComp (.Subscript (.Constant (.str (Str.ofString abc)) k1 p1) (.BinOp (.Name x p2) .Mod (.Constant (.int b) k2 p3) p4) p6) [⟨.Name x p7, .Name y p5, [], 0⟩] scope p8) c.env) :: starEach [] c.env := rfl
  refine MethodCall_ (pl := pure false) (Constant_str (GM.join (callWith_builtin rfl ?_))) he
  refine evalArgs_plain (args_cons ?_ hst)
  refine LCg.ListComp_U F c1 c2 c3 c4 c5 (nameX_L F hv ?_ ok.hk (kindL ok hy) hy.2) c8
  refine LCg.CompSrc.ledger rfl F N m (small_size (by rw [List.size_toArray]; omega)) fun g => ?_
  rw [List.size_toArray]
  refine lett_rest (g := fun k => Txt.item (Str.ofString abc) (k.fmod b)) (tl := news) (all := vs) (n := n) (fun C oC m₂ s Q E k t nn N hC hns hx hq => ?_) m vs ns 0 [] hi rfl ?_
  · refine Subscript_ (Constant_str (wpAny_BinOp (wpAny_Name (wpAny_loadName_local (c7 C).1 (c7 C).2 (hns.ns (N.get hC)) hx (wpAny_Constant_int (mod_int' (Int.ne_of_gt hb0) ?_))) c6)))
    exact item_str_fmod hb0 hb hx' (fun _ => hq _ _) (hs _ _ _) (ht _)
  · intro yr hy D h2 tk2 F2 N2 off
    refine args_nil ?_
    refine KT.join_1 (N2.isList (.head _)) (hy.carried hi) (fun _ _ => h1 _) (by rw [← hi.length]; omega) fun t' k _ => ?_
    exact q _ _ h2 k (h t') F2 (fun p hp => N2 p (.tail _ hp))
end
end Mine

end
-- JG
section
open PySem PySem.Calls PySem.W PyProof.Rows PyProof.V PySem.Spec PySem.SeqAt
namespace Mine
section
variable {w : World} {c : Cx w} {news : Led} {fs : Option Scope}
theorem J.un {op : UnaryOp} {x : Expr} {pos : Pos} {K : Led → Value → Prop} (h : J c (eval x c.env) news fun tl v => J c (unaryOp op v) tl K) : J c (eval (.UnaryOp op x pos) c.env) news K := J.lift2 (f := fun _ x => x) (fun _ _ _ x => UnaryOp_ x) h
theorem J.neg {a : Int} {t : Tok} {K : Led → Value → Prop} (h : ∀ t, K news (.int (-a) t)) : J c (unaryOp .USub (.int a t)) news K := fun s _ _ F N q => neg_int (q _ _ s.heap _ (h _) F N)
theorem J.pow63 {t u : Tok} {K : Led → Value → Prop} (h : ∀ t, K news (.int 9223372036854775808 t)) : J c (binaryOp .Pow (.int 2 t) (.int 63 u)) news K := fun s _ _ F N q => Mine.pow63 (q _ _ s.heap _ (h _) F N)
theorem J.le {a b : Int} {t u : Tok} {K : Led → Value → Prop} (h : K news (.bool (decide (a ≤ b)))) : J c (compareOp .LtE (.int a t) (.int b u)) news K := fun s _ _ F N q => le_int (q _ _ s.heap s.toks h F N)
theorem J.lt {a b : Int} {t u : Tok} {K : Led → Value → Prop} (h : K news (.bool (decide (a < b)))) : J c (compareOp .Lt (.int a t) (.int b u)) news K := fun s _ _ F N q => lt_int (q _ _ s.heap s.toks h F N)
theorem J.sub' {a b : Int} {t u : Tok} {K : Led → Value → Prop} (h : ∀ t, K news (.int (a - b) t)) : J c (binaryOp .Sub (.int a t) (.int b u)) news K := fun s _ _ F N q => sub_int (q _ _ s.heap _ (h _) F N)
def IfI (k1 k2 : Int) (K : Led → Value → Prop) (tl : Led) (v : Bool) : Prop := ∀ u, K tl (.int (if v = true then k1 else k2) u)
theorem IfI.intro {k1 k2 : Int} {K : Led → Value → Prop} {tl : Led} {v : Bool} (h : ∀ u, K tl (.int (if v = true then k1 else k2) u)) : IfI k1 k2 K tl v := h
theorem J.ifInt {t : Expr} {k1 k2 : Int} {n1 n2 : Nat} {p1 p2 pos : Pos} {K : Led → Value → Prop} (h : J c (isTrue t c.env (eval t c.env)) news (IfI k1 k2 K)) : J c (eval (.IfExp t (.Constant (.int k1) n1 p1) (.Constant (.int k2) n2 p2) pos) c.env) news K :=
  fun s Q E F N k => IfExp_ (h s _ E F N fun tl v h' tk' hj F' N' => by
    cases v with
    | true => rw [if_pos rfl]; exact wpAny_Constant_int (k _ _ h' _ (hj _) F' N')
    | false => rw [if_neg Bool.false_ne_true]; exact wpAny_Constant_int (k _ _ h' _ (hj _) F' N'))
theorem J.chain2T {l r1 r2 : Expr} {o1 o2 : CmpOp} {pos : Pos} {whole : Sem Value} {K : Led → Bool → Prop} (h : J c (eval l c.env) news fun tl a => J c (eval r1 c.env) tl fun tl b => J c (compareOp o1 a b) tl fun tl v => J c (truthy v) tl fun tl t => t = true ∧ J c (eval r2 c.env) tl fun tl d => J c (compareOp o2 b d) tl fun tl v => J c (truthy v) tl K) (hm : lastMarks [o1, o2] [r1, r2] = false) : J c (isTrue (.Compare l [o1, o2] [r1, r2] pos) c.env whole) news K :=
  fun s Q E F N k => isTrue_chain (h s _ E F N fun tl a h' tk' h1 F' N' => test_link (h1 { s with heap := h', toks := tk' } _ E F' N' fun tl b h2 tk2 hj F2 N2 => hj { s with heap := h2, toks := tk2 } _ E F2 N2 fun tl v h3 tk3 hj F3 N3 => hj { s with heap := h3, toks := tk3 } _ E F3 N3 fun tl t h4 tk4 hj F4 N4 => by
    rw [if_pos hj.1]
    exact test_last (hj.2 { s with heap := h4, toks := tk4 } _ E F4 N4 fun tl d h5 tk5 hj F5 N5 => hj { s with heap := h5, toks := tk5 } _ E F5 N5 fun tl v h6 tk6 hj F6 N6 => hj { s with heap := h6, toks := tk6 } _ E F6 N6 fun tl t h7 tk7 hk F7 N7 => k tl t h7 tk7 hk F7 N7))) hm
theorem J.chain2F {l r1 r2 : Expr} {o1 o2 : CmpOp} {pos : Pos} {whole : Sem Value} {K : Led → Bool → Prop} (h : J c (eval l c.env) news fun tl a => J c (eval r1 c.env) tl fun tl b => J c (compareOp o1 a b) tl fun tl v => J c (truthy v) tl fun tl t => t = false ∧ K tl false) (hm : lastMarks [o1, o2] [r1, r2] = false) : J c (isTrue (.Compare l [o1, o2] [r1, r2] pos) c.env whole) news K :=
  fun s Q E F N k => isTrue_chain (h s _ E F N fun tl a h' tk' h1 F' N' => test_link (h1 { s with heap := h', toks := tk' } _ E F' N' fun tl b h2 tk2 hj F2 N2 => hj { s with heap := h2, toks := tk2 } _ E F2 N2 fun tl v h3 tk3 hj F3 N3 => hj { s with heap := h3, toks := tk3 } _ E F3 N3 fun tl t h4 tk4 hj F4 N4 => by
    rw [if_neg (by rw [hj.1]; exact Bool.false_ne_true)]
    exact k _ _ h4 tk4 hj.2 F4 N4)) hm
end
end Mine

end
-- JB
section
open PySem PySem.Calls PySem.W PyProof.Rows PyProof.V PySem.Spec
namespace Mine
section
variable {w : World} {c : Cx w} {news : Led} {fs : Option Scope} {r u : Nat} {P : Value → Heap → Prop}
def Cx.set (c : Cx w) (x : PySem.Str) (v : Value) : Cx w := { c with m := fun y => if y = x then some v else c.m y }
theorem Cx.OkR.set (ok : c.OkR fs r u) {x : PySem.Str} {v : Value} : (c.set x v).OkR fs r u := ⟨ok.B, ok.X, ok.T, ok.hk, ok.hd, ok.hu, ok.hs⟩
theorem Cx.set_self {x : PySem.Str} {v : Value} : (c.set x v).m x = some v := by
  show (if x = x then some v else c.m x) = some v
  exact if_pos rfl
theorem JR.nil {K : Led → Flow → Prop} (h : K news .next) : JR c (execs [] c.env) news K P := fun s _ _ F N k _ => wpAny_execs_nil (k _ _ s.heap s.toks h F N)
theorem JX.nil {K : Led → Flow → Prop} (h : K news .next) : JX c (execs [] c.env) news K P := JX.ofR (JR.nil h)
theorem JR.cons {st : Stmt} {rest : List Stmt} {K : Led → Flow → Prop} (h : JR c (exec st c.env) news (fun tl fl => fl = .next ∧ JR c (execs rest c.env) tl K P) P) : JR c (execs (st :: rest) c.env) news K P :=
  fun s Q E F N k x => wpAny_execs_cons (h s _ E F N (fun tl fl h' tk' hj F' N' => by obtain ⟨rfl, hj⟩ := hj; exact hj { s with heap := h', toks := tk' } Q E F' N' (fun tl' v h'' tk'' => k tl' v h'' tk'') fun e h'' tk'' => x e h'' tk'') x)
theorem JX.cons {st : Stmt} {rest : List Stmt} {K : Led → Flow → Prop} (h : JR c (exec st c.env) news (fun tl fl => fl = .next ∧ JX c (execs rest c.env) tl K P) P) : JX c (execs (st :: rest) c.env) news K P :=
  fun s Q E F N k x => wpAny_execs_cons (h s _ E F N (fun tl fl h' tk' hj F' N' => by obtain ⟨rfl, hj⟩ := hj; exact hj { s with heap := h', toks := tk' } Q E F' N' (fun tl' v h'' tk'' => k tl' v h'' tk'') fun e h'' tk'' => x e h'' tk'') x)
theorem JX.last {st : Stmt} {rest : List Stmt} {K : Led → Flow → Prop} (h : JX c (exec st c.env) news (fun tl fl => fl ≠ .next ∧ K tl fl) P) : JX c (execs (st :: rest) c.env) news K P :=
  fun s Q E F N k x => wpAny_execs_cons (h s _ E F N (fun tl fl h' tk' m' hj F' N' => by
    obtain ⟨hn, hj⟩ := hj
    cases fl with
    | next => exact absurd rfl hn
    | ret v => exact k _ _ _ _ _ hj F' N'
    | brk => exact k _ _ _ _ _ hj F' N'
    | cont => exact k _ _ _ _ _ hj F' N') x)
theorem JX.ifT {test : Expr} {body orelse : List Stmt} {pos : Pos} {K : Led → Flow → Prop} (h : J c (isTrue test c.env (eval test c.env)) news fun tl b => b = true ∧ JX c (execs body c.env) tl K P) : JX c (exec (.If test body orelse pos) c.env) news K P :=
  fun s Q E F N k x => wpAny_If (h s _ E F N fun tl b h' tk' hj F' N' => by rw [if_pos hj.1]; exact hj.2 { s with heap := h', toks := tk' } Q E F' N' (fun tl' v h'' tk'' => k tl' v h'' tk'') fun e h'' tk'' => x e h'' tk'')
theorem JR.ifT {test : Expr} {body orelse : List Stmt} {pos : Pos} {K : Led → Flow → Prop} (h : J c (isTrue test c.env (eval test c.env)) news fun tl b => b = true ∧ JR c (execs body c.env) tl K P) : JR c (exec (.If test body orelse pos) c.env) news K P :=
  fun s Q E F N k x => wpAny_If (h s _ E F N fun tl b h' tk' hj F' N' => by rw [if_pos hj.1]; exact hj.2 { s with heap := h', toks := tk' } Q E F' N' (fun tl' v h'' tk'' => k tl' v h'' tk'') fun e h'' tk'' => x e h'' tk'')
theorem JR.ifF {test : Expr} {body orelse : List Stmt} {pos : Pos} {K : Led → Flow → Prop} (h : J c (isTrue test c.env (eval test c.env)) news fun tl b => b = false ∧ JR c (execs orelse c.env) tl K P) : JR c (exec (.If test body orelse pos) c.env) news K P :=
  fun s Q E F N k x => wpAny_If (h s _ E F N fun tl b h' tk' hj F' N' => by rw [if_neg (by rw [hj.1]; exact Bool.false_ne_true)]; exact hj.2 { s with heap := h', toks := tk' } Q E F' N' (fun tl' v h'' tk'' => k tl' v h'' tk'') fun e h'' tk'' => x e h'' tk'')
theorem JX.ret {e : Expr} {pos : Pos} {K : Led → Flow → Prop} (h : J c (eval e c.env) news fun tl v => K tl (.ret v)) : JX c (exec (.Return (some e) pos) c.env) news K P :=
  fun s _ E F N k _ => wpAny_Return_some (h s _ E F N fun tl v h' tk' hj F' N' => k _ _ h' tk' _ hj F' N')
theorem JX.set (ok : c.OkR fs r u) {x : PySem.Str} {e : Expr} {p' pos : Pos} {rest : List Stmt} {K : Led → Flow → Prop} (hx : LN fs x .local) (hsw : swapsWith e (some (.Name x p')) pos.line c.env = pure false)
    (h : JR c (eval e c.env) news (fun tl v => JX (c.set x v) (execs rest (c.set x v).env) tl K P) P) : JX c (execs (.Assign [.Name x p'] e pos :: rest) c.env) news K P :=
  fun s Q E F N k ex => wpAny_execs_cons (wpAny_Assign_Name (h s _ E F N (fun tl v h' tk' hj F' N' => storeX_L (cn := c.cn) (cs := c.cs) F' N' (fun h'' F'' N'' => hj { s with heap := h'', toks := _ } Q E F'' N'' (fun tl' v h3 tk3 => k tl' v h3 tk3) fun e h3 tk3 => ex e h3 tk3) ok.hk (by have := hx.1; rw [ok.hs] at this; exact this)) ex) hsw)
theorem JR.raise (ok : c.OkR fs r u) {x : PySem.Str} {cls newId initId : String} {np cpos pos : Pos} {e₀ : Expr} {K : Led → Flow → Prop} {X : String → Led → Prop} (FC : ExcCallFacts cls newId initId) (FR : ExcRaiseFacts cls) (hn : LN fs x .globalImplicit) (hx : LB w x (.type cls))
    (h : J c (spliced (backTo cpos (starEach [e₀] c.env))) news fun tl vs => vs.length ≤ sizeLine ∧ X cls tl) (he : starEach [e₀] c.env = (false, eval e₀ c.env) :: starEach [] c.env) : JR c (exec (.Raise (some (.Call (.Name x np) [e₀] [] cpos)) none pos) c.env) news K (Thrown c X) :=
  fun s Q E F N _ ex => Raise_madeB FC FR rfl (nameX_B F ok.X (topRead_of ok.T) hx.1 hx.2.1 hx.2.2 ⟨rfl, h s _ E F N fun tl vs h' tk' hj F' N' => ⟨hj.1, fun h2 e M => ex _ h2 tk' ⟨cls, tl, e, vs, h', _, rfl, hj.2, M, F', N'⟩⟩⟩ ok.hk (kindL ok hn) hn.2) he rfl
theorem J.tnot {e : Expr} {pos : Pos} {whole : Sem Value} {K : Led → Bool → Prop} (h : J c (isTrue e c.env (eval e c.env)) news fun tl b => K tl (!b)) : J c (isTrue (.UnaryOp .Not e pos) c.env whole) news K :=
  fun s _ E F N k => isTrue_not (h s _ E F N fun tl b h' tk' hj F' N' => k tl _ h' tk' hj F' N')
theorem J.tandT {x : Expr} {rest : List Expr} {pos : Pos} {whole : Sem Value} {K : Led → Bool → Prop} (h : J c (isTrue x c.env (eval x c.env)) news fun tl b => b = true ∧ J c (isTrue (.BoolOp .And rest pos) c.env whole) tl K) : J c (isTrue (.BoolOp .And (x :: rest) pos) c.env whole) news K :=
  fun s Q E F N k => isTrue_and (h s _ E F N fun tl b h' tk' hj F' N' => by
    rw [hj.1]
    exact hj.2 { s with heap := h', toks := tk' } Q E F' N' fun tl' u h'' tk'' hk F'' N'' => k tl' u h'' tk'' hk F'' N'')
theorem J.tandF {x : Expr} {rest : List Expr} {pos : Pos} {whole : Sem Value} {K : Led → Bool → Prop} (h : J c (isTrue x c.env (eval x c.env)) news fun tl b => b = false ∧ K tl false) : J c (isTrue (.BoolOp .And (x :: rest) pos) c.env whole) news K :=
  fun s Q E F N k => isTrue_and (h s _ E F N fun tl b h' tk' hj F' N' => by
    rw [hj.1]
    exact k _ _ h' tk' hj.2 F' N')
theorem J.tandnil {pos : Pos} {whole : Sem Value} {K : Led → Bool → Prop} (h : K news true) : J c (isTrue (.BoolOp .And [] pos) c.env whole) news K := fun s _ _ F N q => isTrue_and_nil (q _ _ s.heap s.toks h F N)
theorem J.tor1 {x : Expr} {rest : List Expr} {pos : Pos} {whole : Sem Value} {K : Led → Bool → Prop} (h : J c (isTrue x c.env (eval x c.env)) news fun tl b => b = true ∧ K tl true) : J c (isTrue (.BoolOp .Or (x :: rest) pos) c.env whole) news K :=
  fun s Q E F N k => isTrue_or (h s _ E F N fun tl b h' tk' hj F' N' => by
    rw [if_pos hj.1]
    exact k _ _ h' tk' hj.2 F' N')
structure SetOk (w : World) (C : Addr) (x : PySem.Str) : Prop where
  hs : findIn (hd.heap_1 w.params) (.ref C) "__setattr__" = some (some (.builtin "object.__setattr__"))
  hp : plainOver (hd.heap_1 w.params) C = true
  ht : takerIn (hd.heap_1 w.params) C x = some none
  hh : hasDictIn (hd.heap_1 w.params) C = true
theorem J.setA (ok : c.OkR fs r u) {y x : PySem.Str} {C o d : Addr} {e : Expr} {p p' pos : Pos} {es : List DictEntry} {n n' : Nat} {es' : Value → Tok → List DictEntry} {K : Led → Flow → Prop} (hy : LN fs y .local) (hv : c.m y = some (.ref o)) (so : SetOk w C x)
    (hsw : swapsWith e (some (.Attribute (.Name y p) x p')) pos.line c.env = pure false) (hl : (getL x es).isSome = true) (hz : ∀ v t, (es' v t).length ≤ 1000)
    (hput : ∀ v t, (putL x (PyData.keyHash w.params x) (.str x t) v es, putN x es n) = (es' v t, n')) (hdo : @LT.lt Nat _ d o)
    (h : J c (eval e c.env) news fun tl v => (o, instObj C d) ∈ tl ∧ (d, dictOf es n) ∈ tl ∧ ∀ t tl', (∀ p ∈ tl, p.1 ≠ d → p ∈ tl') → (d, dictOf (es' v t) n') ∈ tl' → K tl' .next) : J c (exec (.Assign [.Attribute (.Name y p) x p'] e pos) c.env) news K :=
  fun s Q E F N k => plainObj_wpAny_Assign_Attribute (h s _ E F N fun tl v h' tk' hj F' N' => by
    obtain ⟨hi, hd, hk⟩ := hj
    refine nameX_L F' hv ?_ ok.hk (kindL ok hy) hy.2
    refine set_dict (news := (d, dictOf es n) :: tl.filter fun p => p.1 != d) (news' := (d, dictOf (es' v (tk' + 1)) n') :: tl.filter fun p => p.1 != d) F' ok.X (fun p hp => (List.mem_cons.mp hp).elim (fun e => e ▸ N' _ hd) fun hp => N' p (List.mem_filter.mp hp).1) (InstAt.of_news N' hi hd) rfl so.hs so.hp so.ht so.hh hl (hput v _) (.head fun p hp => ?_) (hz _ _) fun h'' F'' N'' => ?_
    · have := (List.mem_filter.mp hp).2
      exact fun e => by rw [e] at this; simp at this
    · exact k _ _ h'' _ (hk (tk' + 1) ((d, dictOf (es' v (tk' + 1)) n') :: tl.filter fun p => p.1 != d) (fun p hp hn => .tail _ (List.mem_filter.mpr ⟨hp, by simpa using hn⟩)) (.head _)) F'' N'') hsw
theorem J.isiT (ok : c.OkR fs r u) {x t : Value} {its : List Value} {b : Bool} {q : Addr} {K : Led → Value → Prop} (Z : KitX (hd.heap_1 w.params) x t (fun _ => True)) (mq : (q, tupO its) ∈ news) (e : kitAny (hd.heap_1 w.params) t its = some b) (hx : x ≠ .builtin "__main__.__loader__#opaque") (h : K news (.bool b)) : J c (call (.builtin "isinstance") [x, .ref q]) news K :=
  fun s _ _ F N k => kia_tup Z (ok.X.keeps F.keep) trivial (kitTp_N N mq) e hx fun tk => k _ _ s.heap tk h F N
theorem J.isi1 (ok : c.OkR fs r u) {x t cl : Value} {b : Bool} {K : Led → Value → Prop} (Z : KitX (hd.heap_1 w.params) x t (fun _ => True)) (e : kitOne (hd.heap_1 w.params) t cl = some b) (hx : x ≠ .builtin "__main__.__loader__#opaque") (h : K news (.bool b)) : J c (call (.builtin "isinstance") [x, cl]) news K :=
  fun s _ _ F N k => kia_one Z (ok.X.keeps F.keep) trivial e hx fun tk => k _ _ s.heap tk h F N
theorem J.isnot {v : Value} {K : Led → Value → Prop} (h : K news (.bool (!(v == .none)))) : J c (compareOp .IsNot v .none) news K := fun s _ _ F N q => isNot_none (q _ _ s.heap s.toks h F N)
theorem J.ge {a b : Int} {t u : Tok} {K : Led → Value → Prop} (h : K news (.bool (decide (a ≥ b)))) : J c (compareOp .GtE (.int a t) (.int b u)) news K := fun s _ _ F N q => ge_int (q _ _ s.heap s.toks h F N)
theorem J.ltI {a b : Int} {t u : Tok} {K : Led → Value → Prop} (h : K news (.bool (decide (a < b)))) : J c (compareOp .Lt (.int a t) (.int b u)) news K := fun s _ _ F N q => lt_int (q _ _ s.heap s.toks h F N)
theorem J.bytesB {b : Array UInt8} {t : Tok} {K : Led → Value → Prop} (h : K news (.bytes b t)) : J c (call (.type "bytes") [.bytes b t]) news K := fun s _ _ F N q => Mine.call_bytes_bytes (q _ _ s.heap s.toks h F N)
theorem J.lo (ok : c.OkR fs r u) {x : PySem.Str} {pos : Pos} {v : Value} {K : Led → Value → Prop} (hv : c.m x = some v) (hx : LN fs x .local) (h : K news v) : J c (eval (.Name x pos) c.env) news K := J.l ok hx hv h
structure Inv (C o d : Addr) (es : List DictEntry) (n : Nat) (news₀ tl : Led) : Prop where
  hi : (o, instObj C d) ∈ tl
  hd : (d, dictOf es n) ∈ tl
  hn : ∀ p ∈ news₀, p ∈ tl
theorem inv0 {C o d : Addr} {es : List DictEntry} {n : Nat} {news : Led} : Inv C o d es n news ((o, instObj C d) :: (d, dictOf es n) :: news) := ⟨.head _, .tail _ (.head _), fun p hp => .tail _ (.tail _ hp)⟩
theorem J.setI {sc : Scope} {news₀ : Led} {y x : PySem.Str} {C o d : Addr} {e : Expr} {p p' pos : Pos} {es : List DictEntry} {n n' : Nat} {es' : Value → Tok → List DictEntry} {K : Led → Flow → Prop} (I : InitAt c sc news₀ o d) (S : Inv C o d es n news₀ news) (hv : c.m y = some (.ref o)) (so : SetOk w C x)
    (hy : LN (some sc) y .local) (hsw : swapsWith e (some (.Attribute (.Name y p) x p')) pos.line c.env = pure false) (hl : (getL x es).isSome = true) (hz : ∀ v t, (es' v t).length ≤ 1000)
    (hput : ∀ v t, (putL x (PyData.keyHash w.params x) (.str x t) v es, putN x es n) = (es' v t, n'))
    (h : J c (eval e c.env) news fun tl v => (∀ p ∈ news, p ∈ tl) ∧ ∀ t tl', Inv C o d (es' v t) n' news₀ tl' → K tl' .next) : J c (exec (.Assign [.Attribute (.Name y p) x p'] e pos) c.env) news K :=
  J.setA I.ok hy hv so hsw hl hz hput I.hdx (h.mono fun tl v q => ⟨q.1 _ S.hi, q.1 _ S.hd, fun t tl' hs hd => q.2 t tl' ⟨hs _ (q.1 _ S.hi) (Nat.ne_of_gt I.hdx), hd, fun p hp => hs p (q.1 _ (S.hn p hp)) (Nat.ne_of_lt (I.hd p hp))⟩⟩)
theorem J.setN {sc : Scope} {news₁ news₀ : Led} {y x : PySem.Str} {C o d : Addr} {e : Expr} {p p' pos : Pos} {es : List DictEntry} {n n' : Nat} {es' : Value → Tok → List DictEntry} {K : Led → Flow → Prop} (I : InitAt c sc news₁ o d) (hne : ∀ p ∈ news₀, p.1 ≠ d) (S : Inv C o d es n news₀ news) (hv : c.m y = some (.ref o)) (so : SetOk w C x)
    (hy : LN (some sc) y .local) (hsw : swapsWith e (some (.Attribute (.Name y p) x p')) pos.line c.env = pure false) (hl : (getL x es).isSome = true) (hz : ∀ v t, (es' v t).length ≤ 1000)
    (hput : ∀ v t, (putL x (PyData.keyHash w.params x) (.str x t) v es, putN x es n) = (es' v t, n'))
    (h : J c (eval e c.env) news fun tl v => (∀ p ∈ news, p ∈ tl) ∧ ∀ t tl', Inv C o d (es' v t) n' news₀ tl' → K tl' .next) : J c (exec (.Assign [.Attribute (.Name y p) x p'] e pos) c.env) news K :=
  J.setA I.ok hy hv so hsw hl hz hput I.hdx (h.mono fun tl v q => ⟨q.1 _ S.hi, q.1 _ S.hd, fun t tl' hs hd => q.2 t tl' ⟨hs _ (q.1 _ S.hi) (Nat.ne_of_gt I.hdx), hd, fun p hp => hs p (q.1 _ (S.hn p hp)) (hne p hp)⟩⟩)
theorem JR.Call {func : Expr} {args : List Expr} {pos : Pos} {K : Led → Value → Prop} (h : J c (eval func c.env) news fun tl f => JR c (callWith pos f [] (backTo pos (starEach args c.env)) []) tl K P) (he : eval (.Call func args [] pos) c.env = (eval func c.env >>= fun f => callWith pos f [] (backTo pos (starEach args c.env)) (backToKw pos (keywordEach [] c.env)))) : JR c (eval (.Call func args [] pos) c.env) news K P :=
  fun s Q E F N k x => Call_ (h s _ E F N fun tl v h' tk' hj F' N' => hj { s with heap := h', toks := tk' } Q E F' N' (fun tl' u h'' tk'' => k tl' u h'' tk'') fun e h'' tk'' => x e h'' tk'') he
theorem JR.callK (ok : c.OkR fs r u) {f : Value} {e : Expr} {rest : List Expr} {pos : Pos} {K : Led → Value → Prop} (hf : keepIn (hd.heap_1 w.params) f = true) (h : J c (spliced (backTo pos (starEach (e :: rest) c.env))) news fun tl vs => JR c (call f vs) tl K P)
    (he : starEach (e :: rest) c.env = (false, eval e c.env) :: starEach rest c.env) (hr : ((backTo pos (starEach rest c.env)).any fun x => x.1) = false) : JR c (callWith pos f [] (backTo pos (starEach (e :: rest) c.env)) []) news K P :=
  fun s _ E F N k x => callWith_K ok.X hf (h s _ E F N fun _ _ h' tk' hj F' N' => ⟨ok.X.keeps F'.keep, hj { s with heap := h', toks := tk' } _ E F' N' (fun tl' u h'' tk'' => k tl' u h'' tk'') fun e h'' tk'' => x e h'' tk''⟩) he hr
theorem JR.own (ok : c.OkR fs r u) {x : PySem.Str} {f : Value} {p pos : Pos} {e : Expr} {rest : List Expr} {K : Led → Value → Prop} (hn : LN fs x .globalImplicit) (hx : LG w x f) (hf : keepIn (hd.heap_1 w.params) f = true) (h : J c (spliced (backTo pos (starEach (e :: rest) c.env))) news fun tl vs => JR c (call f vs) tl K P)
    (he : starEach (e :: rest) c.env = (false, eval e c.env) :: starEach rest c.env ∧ ((backTo pos (starEach rest c.env)).any fun x => x.1) = false) : JR c (eval (.Call (.Name x p) (e :: rest) [] pos) c.env) news K P :=
  JR.Call (J.g ok hn hx (JR.callK ok hf h he.1 he.2)) rfl
theorem JR.useX (ok : c.OkR fs r u) (hd : c.dp + 8 < recursionLimit) (hu : c.un + 64 < cLine) (kd : KtsDicts (c.outer.filterMap (·.frame)) c.h₀) {f : Addr} {pos : List Value} {kw : List (PySem.Str × Value)} {Ret : (Led → Value → Prop) → Prop} {Bad : String → Prop} {X : String → Led → Prop} {K : Led → Value → Prop} (H : CallX w f pos kw news Ret Bad)
    (h : ∀ K' : Led → Value → Prop, (∀ tl r, K tl r → K' tl r) → Ret K') (hb : ∀ cls, Bad cls → X cls news) : JR c (call (.ref f) pos kw) news K (Flown c X) :=
  fun s Q E F N k x => H c.mean c.mg c.mb c.dp c.un c.gd c.cn c.cs c.a c.ccd c.cl c.outer c.A₀ c.base c.h₀ c.L c.m s Q E ok.B F ok.X N ok.T ok.hk hd hu (h _ fun tl r hk h' tk' F' N' => k tl r h' tk' hk F' N')
    fun cls hc => ⟨kd, fun e tb vs G h' tk' R U F' => x _ h' tk' ⟨cls, news, e, tb, vs, G, _, rfl, hb cls hc, R, U, F'⟩⟩
theorem J.eqS {x y : PySem.Str} {t u : Tok} {K : Led → Value → Prop} (h : K news (.bool (x == y))) : J c (compareOp .Eq (.str x t) (.str y u)) news K := fun s _ _ F N q => eq_str (q _ _ s.heap s.toks h F N)
theorem JX.retE {e : Expr} {pos : Pos} {K : Led → Flow → Prop} (h : JR c (eval e c.env) news (fun _ _ => False) P) : JX c (exec (.Return (some e) pos) c.env) news K P :=
  fun s _ E F N _ x => wpAny_Return_some (h s _ E F N (fun _ _ _ _ hf => hf.elim) x)
theorem JR.cmpE {l r : Expr} {op : CmpOp} {pos : Pos} {K : Led → Value → Prop} (h : JR c (eval l c.env) news (fun _ _ => False) P) (hb : behindInMarks op r = false) : JR c (eval (.Compare l [op] [r] pos) c.env) news K P :=
  fun s _ E F N _ x => wpAny_Compare1 (h s _ E F N (fun _ _ _ _ hf => hf.elim) x) hb
theorem JR.listE {es : List Expr} {pos : Pos} {K : Led → Value → Prop} (h : JR c (spliced (backTo pos (starEach es c.env))) news (fun _ _ => False) P) : JR c (eval (.List es pos) c.env) news K P :=
  fun s _ E F N _ x => List_ (h s _ E F N (fun _ _ _ _ hf => hf.elim) x)
theorem JR.consE {e : Expr} {rest : List Expr} {pos : Pos} {K : Led → List Value → Prop} (h : JR c (eval e c.env) news (fun _ _ => False) P) (he : starEach (e :: rest) c.env = (false, eval e c.env) :: starEach rest c.env) : JR c (spliced (backTo pos (starEach (e :: rest) c.env))) news K P :=
  fun s _ E F N _ x => args_cons (h s _ E F N (fun _ _ _ _ hf => hf.elim) x) he
end
end Mine

end
set_option hygiene false in
set_option compiler.extract_closed false in
local macro_rules
  | `(tactic| walk_at "jb") => `(tactic| first | ((with_reducible refine' J.lo ok (by with_reducible assumption) ?hx ?_); (case hx => exact ⟨by kernel_rfl, by kernel_rfl⟩)) | ((with_reducible refine J.b ok (x := Str.ofString "isinstance") ?hx (lb_isinstance w) ?_); (case hx => exact ⟨by kernel_rfl, by kernel_rfl⟩)) | ((with_reducible refine J.cons ?_ ?he); (case he => exact rfl)) | ((with_reducible refine J.callB ?_ ?he ?hr); (case he | hr => exact rfl)) | ((with_reducible refine J.Call ?_ ?he); (case he => exact rfl)) | with_reducible refine J.tb ?_ | with_reducible refine J.nil ?_ | ((with_reducible refine J.tcmp ?_ ?he); (case he => exact rfl)))
-- JP
section
open PySem PySem.Calls PySem.W PyProof.Rows PyProof.V PySem.Spec
namespace Mine
section
variable {w : World} {c : Cx w} {news : Led} {fs : Option Scope} {r u : Nat} {P : Value → Heap → Prop}
theorem J.ownR (ok : c.OkR fs r u) {x C d : Addr} {es : List DictEntry} {n : Nat} {name : PySem.Str} {v : Value} {K : Led → Value → Prop} (mx : (x, instObj C d) ∈ news) (md : (d, dictOf es n) ∈ news) (g : GA w C name) (hg : getL name es = some (some v)) (hh : handedIn v = true) (h : K news v) : J c (getAttr (.ref x) name true) news K :=
  fun s _ _ F N k => get_own F ok.X (InstAt.of_news N mx md) g.1 g.2.1 g.2.2 rfl hg hh (k _ _ s.heap _ h F N)
theorem J.prop (ok : c.OkR fs (r + 1) (u + 4)) {x C d p fget : Addr} {od : Obj} {rest : List Value} {attr : PySem.Str} {name qual : PySem.Str} {params : Arguments} {body : List Stmt} {scope : Scope} {dV kV doc pm cdv ct oc : Value} {an odd : Option Addr} {osl : Array (Option Value)} {binds : List (PySem.Str × Value)} {K : Led → Value → Prop}
    (mx : (x, instObj C d) ∈ news) (md : (d, od) ∈ news) (hg : plainGet (hd.heap_1 w.params) C attr = true) (hh : hasDictIn (hd.heap_1 w.params) C = true)
    (ha : findIn (hd.heap_1 w.params) (.ref C) attr = some (some (.ref p))) (hn : specialIn (hd.heap_1 w.params) (.ref p) "__get__" = some (some (.builtin "property.__get__"))) (ht : takesIn (hd.heap_1 w.params) (.ref p) = some true) (hp : recIn (hd.heap_1 w.params) p "property" = some (.ref fget :: rest))
    (ho : (hd.heap_1 w.params).lookup fget = some ⟨oc, odd, .func (fnOf name qual params body scope dV kV doc pm an cdv ct), osl⟩) (hcd : codeIn (hd.heap_1 w.params) cdv qual = true)
    (hbind : ∀ s : Shared, BindsTo s (fnOf name qual params body scope dV kV doc pm an cdv ct) ⟨[.ref x], []⟩ binds) (hloc : ∀ y ∈ binds, scope.names.lookup y.1 = some .local)
    (hsc : scope.isCoroutine = false ∧ scope.isGenerator = false ∧ scope.kind = .function) (hcell : ∀ x ∈ scope.names, x.2 ≠ .cell)
    (h : ∀ c' : Cx w, c'.OkR (some scope) r u → (∀ y v, binds.reverse.lookup y = some v → c'.m y = some v) → JX c' (execs body c'.env) news (fun tl fl => ∃ v, fl = .ret v ∧ handedIn v = true ∧ K tl v) (fun _ _ => False)) : J c (getAttr (.ref x) attr true) news K := by
  intro s Q E F N k
  refine get_prop F ok.X (InstAt.of_news N mx md) hg hh ha hn ht hp ?_
  refine code_def (A₀ := c.A₀) (base := c.base) (env := c.env) (outer := c.outer) ok.B (s := { s with toks := s.toks + 1 }) F ok.X N ok.T rfl rfl ok.hk ho hcd ?room (hbind _) hloc ?_ hsc.1 hsc.2.1 hsc.2.2 hcell
  case room => exact (by have := ok.hd; omega : c.dp < recursionLimit)
  intro g L' h2 FG F2 N2 B2 X2 T2
  refine h (frameCx w qual (body, scope) fget cdv c.mean c.mg c.mb _ c.base g L' _ _) ⟨B2, X2, T2, hsc.2.2, ?k1, ?k2, rfl⟩ (fun _ _ e => e) _ _ _ F2 N2 ?ok ?bad
  case k1 => exact (by have := ok.hd; omega : c.dp + 1 + r < recursionLimit)
  case k2 => exact (by have := ok.hu; omega : c.un + 1 + 3 + u < cLine)
  case ok =>
    intro tl fl h3 tk3 m3 hv F3 N3
    obtain ⟨v, rfl, hin, hK⟩ := hv
    exact leaveK_ F3 N3 fun F4 N4 => handed_on hin (k _ _ _ _ hK F4 N4)
  case bad => exact fun _ _ _ hx => hx.elim
structure PropField (w : World) (C : Addr) (attr y : PySem.Str) (p fget : Addr) (name qual : PySem.Str) (params : Arguments) (p1 p2 p3 : Pos) (scope : Scope) (dV kV doc pm cdv ct oc : Value) (an odd : Option Addr) (osl : Array (Option Value)) (rest : List Value) : Prop where
  hg : plainGet (hd.heap_1 w.params) C attr = true
  hh : hasDictIn (hd.heap_1 w.params) C = true
  ha : findIn (hd.heap_1 w.params) (.ref C) attr = some (some (.ref p))
  hn : specialIn (hd.heap_1 w.params) (.ref p) "__get__" = some (some (.builtin "property.__get__"))
  ht : takesIn (hd.heap_1 w.params) (.ref p) = some true
  hp : recIn (hd.heap_1 w.params) p "property" = some (.ref fget :: rest)
  ho : (hd.heap_1 w.params).lookup fget = some ⟨oc, odd, .func (fnOf name qual params [.Return (some (.Attribute (.Name (Str.ofString "self") p1) y p2)) p3] scope dV kV doc pm an cdv ct), osl⟩
  hcd : codeIn (hd.heap_1 w.params) cdv qual = true
  hb : ∀ (x : Addr) (s : Shared), BindsTo s (fnOf name qual params [.Return (some (.Attribute (.Name (Str.ofString "self") p1) y p2)) p3] scope dV kV doc pm an cdv ct) ⟨[.ref x], []⟩ [(Str.ofString "self", .ref x)]
  hl : scope.names.lookup (Str.ofString "self") = some .local
  sc : scope.isCoroutine = false ∧ scope.isGenerator = false ∧ scope.kind = .function
  hc : ∀ x ∈ scope.names, x.2 ≠ .cell
  ga : GA w C y
theorem J.field (ok : c.OkR fs (r + 1) (u + 4)) {C x d : Addr} {es : List DictEntry} {n : Nat} {attr y : PySem.Str} {v : Value} {K : Led → Value → Prop} {p fget : Addr} {name qual : PySem.Str} {params : Arguments} {p1 p2 p3 : Pos} {scope : Scope} {dV kV doc pm cdv ct oc : Value} {an odd : Option Addr} {osl : Array (Option Value)} {rest : List Value}
    (PF : PropField w C attr y p fget name qual params p1 p2 p3 scope dV kV doc pm cdv ct oc an odd osl rest) (mx : (x, instObj C d) ∈ news) (md : (d, dictOf es n) ∈ news) (hg : getL y es = some (some v)) (hv : handedIn v = true) (h : K news v) : J c (getAttr (.ref x) attr true) news K :=
  J.prop ok mx md PF.hg PF.hh PF.ha PF.hn PF.ht PF.hp PF.ho PF.hcd (PF.hb x) (fun y hy => by rw [List.mem_singleton.mp hy]; exact PF.hl) PF.sc PF.hc fun c' ok' hm =>
    JX.last (JX.ret (J.Attr (J.lo ok' (hm (Str.ofString "self") _ rfl) ⟨PF.hl, rfl⟩ (J.ownR ok' mx md PF.ga hg hv ⟨Flow.noConfusion, _, rfl, hv, h⟩))))
theorem J.isiTN (ok : c.OkR fs r u) {x t : Value} {H : Heap → Prop} {its : List Value} {b : Bool} {q : Addr} {K : Led → Value → Prop} (Z : KitX (hd.heap_1 w.params) x t H) (hH : ∀ h, News c.h₀ c.L h news → H h) (mq : (q, tupO its) ∈ news) (e : kitAny (hd.heap_1 w.params) t its = some b) (hx : x ≠ .builtin "__main__.__loader__#opaque") (h : K news (.bool b)) : J c (call (.builtin "isinstance") [x, .ref q]) news K :=
  fun s _ _ F N k => kia_tup Z (ok.X.keeps F.keep) (hH _ N) (kitTp_N N mq) e hx fun tk => k _ _ s.heap tk h F N
theorem J.isi1N (ok : c.OkR fs r u) {x t cl : Value} {H : Heap → Prop} {b : Bool} {K : Led → Value → Prop} (Z : KitX (hd.heap_1 w.params) x t H) (hH : ∀ h, News c.h₀ c.L h news → H h) (e : kitOne (hd.heap_1 w.params) t cl = some b) (hx : x ≠ .builtin "__main__.__loader__#opaque") (h : K news (.bool b)) : J c (call (.builtin "isinstance") [x, cl]) news K :=
  fun s _ _ F N k => kia_one Z (ok.X.keeps F.keep) (hH _ N) e hx fun tk => k _ _ s.heap tk h F N
structure HasDict (w : World) (tl : Led) (d : Addr) (o : Obj) (kv : List (PySem.Str × Value)) (cc : List (PySem.Str × Int)) : Prop where
  m : (d, o) ∈ tl
  lo : (d == sysModules) = false
  hd : o.IsDictOf (strK w) kv
  hf : FlatPairs PyData.str kv (kdpD cc)
theorem HasDict.sub {tl tl' : Led} {d : Addr} {o : Obj} {kv : List (PySem.Str × Value)} {cc : List (PySem.Str × Int)} (H : HasDict w tl d o kv cc) (h : (d, o) ∈ tl → (d, o) ∈ tl') : HasDict w tl' d o kv cc := ⟨h H.m, H.lo, H.hd, H.hf⟩
theorem HasDict.tab {tl : Led} {d : Addr} {o : Obj} {kv : List (PySem.Str × Value)} {cc : List (PySem.Str × Int)} (H : HasDict w tl d o kv cc) {h₀ h : Heap} {L : Addr} (N : News h₀ L h tl) : StrTab PySem.Challenge.rw_jh0019_01.row.prog w h d (kdpD cc) := TabAt.ofNews N H.m H.lo H.hd H.hf
theorem HasDict.kit {tl : Led} {d : Addr} {o : Obj} {kv : List (PySem.Str × Value)} {cc : List (PySem.Str × Int)} (H : HasDict w tl d o kv cc) {h₀ h : Heap} {L : Addr} (N : News h₀ L h tl) : KitAt d "dict" h := by
  obtain ⟨_, _, he, _⟩ := H.hd
  exact ⟨o, (N _ H.m).1, he.1⟩
theorem J.truthyD {d : Addr} {o : Obj} {kv : List (PySem.Str × Value)} {cc : List (PySem.Str × Int)} {K : Led → Bool → Prop} (H : HasDict w news d o kv cc) (hz : cc.length ≤ 100) (h : K news (!cc.isEmpty)) : J c (truthy (.ref d)) news K :=
  fun s _ _ F N k => truthy_tab (H.tab N) (by rw [kdpD_length]; omega) (by
    have e : (kdpD cc).isEmpty = cc.isEmpty := by cases cc <;> rfl
    rw [e]; exact k _ _ s.heap _ h F N)
theorem inter_no (ok : c.OkR fs r u) : interactive c.env = false := by
  have h : c.env.scope.kind = .function := ok.hk
  unfold interactive
  rw [h]
  rfl
theorem JR.expr {e : Expr} {pos : Pos} {K : Led → Flow → Prop} (h : JR c (eval e c.env) news (fun tl _ => K tl .next) P) (hi : interactive c.env = false) (hs : swapsWith e none pos.line c.env = pure false) : JR c (exec (.Expr e pos) c.env) news K P :=
  fun s _ _ F N k x => wpAny_Expr_any (h s _ _ F N (fun tl v h' tk' hj F' N' => k tl _ h' tk' hj F' N') x) hi hs
def UpdK (w : World) (d : Addr) (od : Obj) (cc : List (PySem.Str × Int)) (K : Led → Value → Prop) (tl : Led) (v : Value) : Prop :=
  (d, od) ∈ tl ∧ ∃ d2 o2 kv2 c2, v = .ref d2 ∧ HasDict w tl d2 o2 kv2 c2 ∧ @Ne Nat d d2 ∧ cc.length ≤ 64 ∧ c2.length ≤ 64 ∧ ∀ o' kv' tl', (∀ p ∈ tl, p.1 ≠ d → p ∈ tl') → HasDict w tl' d o' kv' (putAll cc c2) → K tl' .none
theorem J.update {pl : Sem Bool} {o e : Expr} {apos pos : Pos} {K : Led → Value → Prop}
    (h : J c (eval o c.env) news fun tl ov => ∃ d od kv cc, ov = .ref d ∧ HasDict w tl d od kv cc ∧ J c (spliced (backTo pos (starEach [e] c.env))) tl fun tl2 vs => ∃ v, vs = [v] ∧ UpdK w d od cc K tl2 v)
    (he : eval (.Call (.Attribute o (Str.ofString "update") apos) [e] [] pos) c.env = (do let ov ← eval o c.env; standAt apos.atName; let (f, first) ← holding [ov] (getMethod ov (Str.ofString "update") pl); callWith pos f first (backTo pos (starEach [e] c.env)) []))
    (hs : (backTo pos (starEach [e] c.env)).any (·.1) = false ∧ backTo pos (starEach [e] c.env) = (false, (backTo pos (starEach [e] c.env)).headD (false, default) |>.2) :: []) : J c (eval (.Call (.Attribute o (Str.ofString "update") apos) [e] [] pos) c.env) news K := by
  intro s Q E F N k
  refine MethodCall_ (pl := pl) (h s _ E F N fun tl ov h' tk' hj F' N' => ?_) he
  obtain ⟨d, od, kv, cc, rfl, H, hj⟩ := hj
  refine getMethod_tab_any (knd := strK w) (enc := PyData.str) rfl (H.tab N') ?_
  refine callWith_builtin hs.1 ?_
  rw [hs.2]
  refine evalArgs_plain ?_
  rw [← hs.2]
  refine hj { s with heap := h', toks := tk' } _ E F' N' fun tl2 vs h2 tk2 hu F2 N2 => ?_
  obtain ⟨v, rfl, m1, d2, o2, kv2, c2, rfl, H2, hne, z1, z2, hk⟩ := hu
  refine kdp_update (news := (d, od) :: tl2.filter fun p => p.1 != d) (g := fun o' => (d, o') :: tl2.filter fun p => p.1 != d) F2 (fun p hp => (List.mem_cons.mp hp).elim (fun e => e ▸ N2 _ m1) fun hp => N2 p (List.mem_filter.mp hp).1) (UpdF.head fun p hp => ?_) H.hd H.hf (.tail _ (List.mem_filter.mpr ⟨H2.m, ?_⟩)) H2.lo H2.hd H2.hf hne z1 z2 fun h3 o' kv' F3 N3 hd3 hf3 => ?_
  · have := (List.mem_filter.mp hp).2
    exact fun e => by rw [e] at this; simp at this
  · simpa using fun e => hne e.symm
  · exact k _ _ h3 _ (hk o' kv' ((d, o') :: tl2.filter fun p => p.1 != d) (fun p hp hn => .tail _ (List.mem_filter.mpr ⟨hp, by simpa using hn⟩)) ⟨.head _, H.lo, hd3, hf3⟩) F3 N3
end
end Mine

end
-- MJ
section
open PySem PySem.Calls PySem.W PyProof.Rows PyProof.V PySem.Spec
namespace Mine
set_option maxRecDepth 100000
theorem filled3 (w : World) : Filled PySem.Challenge.rw_jh0019_01.row.prog (hd.heap_1 w.params) := by
  k_fill
  exact trivial
theorem bin_lo (w : World) (news : Led) (row : Array UInt8) (t1 t2 : Tok) (k : Int) (hk : k < 0) : CallX w 144 [.bytes row t1, .int k t2] [] news (fun _ => True) (· = "ValueError") := Mine.into (by exact Mine.thru : Mine.Thru _ (by
    refine bin_run fun c a d I h1 h2 h3 K _ => ?_
    have ok := I.ok
    refine JX.cons (JR.ifF ?_)
    repeat' (first | walk_at "jb" | ((with_reducible refine J.b ok (x := Str.ofString "int") ?hx (lb_int w) ?_); (case hx => exact ⟨by kernel_rfl, by kernel_rfl⟩)) | with_reducible refine J.tnot ?_ | ((with_reducible refine' J.isi1 ok kitx_int ?e ?n ?_); (case e => kit_is); (case n => exact fun q => nomatch q)) | ((with_reducible refine J.tplain ?_ ?he); (case he => exact rfl)))
    refine ⟨rfl, JR.nil ⟨rfl, ?_⟩⟩
    refine JX.cons (JR.ifT (J.tor ?_))
    repeat' (first | walk_at "jb" | ((with_reducible refine J.int ?_); intro _) | with_reducible refine J.ge ?_)
    refine ⟨by simp; omega, J.tor1 ?_⟩
    repeat' (first | walk_at "jb" | ((with_reducible refine J.int ?_); intro _) | with_reducible refine J.ltI ?_)
    refine ⟨by simp; omega, rfl, ?_⟩
    refine JR.cons (JR.raise ok PySem.F.excCall_ValueError PySem.F.excRaise_ValueError ⟨by kernel_rfl, by kernel_rfl⟩ (lb_ValueError w) ?_ rfl)
    repeat' (first | walk_at "jb" | ((with_reducible refine J.str ?_); intro _))
    exact ⟨Nat.le_of_ble_eq_true rfl, rfl, fun p hp => .tail _ (.tail _ hp)⟩))
theorem set_bin (w : World) (x : PySem.Str) (hx : takerIn (hd.heap_1 w.params) 144 x = some none) : SetOk w 144 x := ⟨by kernel_rfl, by kernel_rfl, hx, by kernel_rfl⟩
theorem new_binaryJ (w : World) (news : Led) (row : Array UInt8) (t t1 : Tok) (k : Int) (h0 : 0 ≤ k) (h1 : k < 256) :
    CallC w 144 [.bytes row t, .int k t1] [] news (fun K => ∀ x d u1 u2 u3 u4, (∀ p ∈ news, p.1 < d) → d < x → K ((x, instObj 144 d) :: (d, dictOf [⟨PyData.keyHash w.params (Str.ofString "data"), .str (Str.ofString "data") u2, .bytes row u1⟩, ⟨PyData.keyHash w.params (Str.ofString "_subtype"), .str (Str.ofString "_subtype") u4, .int k u3⟩] 2) :: news) (.ref x)) := Mine.into (by exact Mine.thru : Mine.Thru _ (by
    refine .ofX (bin_run fun c a d I h2 h3 h4 K hK => ?_)
    have ok := I.ok
    refine JX.cons (JR.ifF ?_)
    repeat' (first | walk_at "jb" | ((with_reducible refine J.b ok (x := Str.ofString "int") ?hx (lb_int w) ?_); (case hx => exact ⟨by kernel_rfl, by kernel_rfl⟩)) | with_reducible refine J.tnot ?_ | ((with_reducible refine' J.isi1 ok kitx_int ?e ?n ?_); (case e => kit_is); (case n => exact fun q => nomatch q)) | ((with_reducible refine J.tplain ?_ ?he); (case he => exact rfl)))
    refine ⟨rfl, JR.nil ⟨rfl, ?_⟩⟩
    refine JX.cons (JR.ifF (J.tor ?_))
    repeat' (first | walk_at "jb" | ((with_reducible refine J.int ?_); intro _) | with_reducible refine J.ge ?_)
    refine ⟨by simp; omega, J.tor ?_⟩
    repeat' (first | walk_at "jb" | ((with_reducible refine J.int ?_); intro _) | with_reducible refine J.ltI ?_)
    refine ⟨by simp; omega, ?_⟩
    repeat' (with_reducible refine J.tornil ?_)
    refine ⟨rfl, JR.nil ⟨rfl, ?_⟩⟩
    refine JX.cons (JR.ofJ (J.setI I inv0 h2 (set_bin w _ (by kernel_rfl)) ⟨by kernel_rfl, by kernel_rfl⟩ rfl rfl (fun _ _ => Nat.le_of_ble_eq_true rfl) (fun _ _ => rfl) ?_))
    repeat' (first | walk_at "jb" | ((with_reducible refine J.b ok (x := Str.ofString "bytes") ?hx (lb_bytes w) ?_); (case hx => exact ⟨by kernel_rfl, by kernel_rfl⟩)) | ((with_reducible refine J.callT ?_ ?he ?hr); (case he | hr => exact rfl)) | with_reducible refine J.bytesB ?_)
    refine ⟨fun _ h => h, fun u2 tl S => ⟨rfl, ?_⟩⟩
    refine JX.cons (JR.ofJ (J.setI I S h2 (set_bin w _ (by kernel_rfl)) ⟨by kernel_rfl, by kernel_rfl⟩ rfl rfl (fun _ _ => Nat.le_of_ble_eq_true rfl) (fun _ _ => rfl) ?_))
    repeat' walk_at "jb"
    exact ⟨fun _ h => h, fun u4 tl S => ⟨rfl, JX.nil ⟨rfl, _, all_cons S.hi (all_cons S.hd S.hn), hK a d _ u2 _ u4 I.hd I.hdx⟩⟩⟩))
theorem code_bad_i (w : World) (news : Led) (t1 : Tok) (i : Int) (y : Value) : CallX w 61 [.int i t1, y] [] news (fun _ => True) (· = "TypeError") := Mine.into (by exact Mine.thru : Mine.Thru _ (by
    refine code_run fun c a d D o I hD h1 h2 h3 h4 K _ => ?_
    have ok := I.ok
    refine JX.cons (JR.ifT ?_)
    repeat' (first | walk_at "jb" | ((with_reducible refine J.b ok (x := Str.ofString "str") ?hx (lb_str w) ?_); (case hx => exact ⟨by kernel_rfl, by kernel_rfl⟩)) | ((with_reducible refine J.g ok (x := Str.ofString "Code") ?hx (lg_Code w) ?_); (case hx => exact ⟨by kernel_rfl, by kernel_rfl⟩)) | with_reducible refine J.tuple ?_ | ((with_reducible refine NewK.intro ?hz ?_); (case hz => exact Nat.le_of_ble_eq_true rfl); intros) | with_reducible refine J.tnot ?_ | ((with_reducible refine' J.isiT ok kitx_int ?mq ?e ?n ?_); (case mq => with_reducible assumption); (case e => kit_is); (case n => exact fun q => nomatch q)) | ((with_reducible refine J.tplain ?_ ?he); (case he => exact rfl)))
    refine ⟨rfl, ?_⟩
    refine JR.cons (JR.raise ok PySem.F.excCall_TypeError PySem.F.excRaise_TypeError ⟨by kernel_rfl, by kernel_rfl⟩ (lb_TypeError w) ?_ rfl)
    repeat' (first | walk_at "jb" | ((with_reducible refine J.str ?_); intro _))
    exact ⟨Nat.le_of_ble_eq_true rfl, rfl, fun p hp => (by with_reducible assumption : ∀ p ∈ (D, o) :: _, p ∈ _) _ (.tail _ (.tail _ (.tail _ hp)))⟩))
theorem code_bad_b (w : World) (news : Led) (t1 : Tok) (b : Array UInt8) (y : Value) : CallX w 61 [.bytes b t1, y] [] news (fun _ => True) (· = "TypeError") := Mine.into (by exact Mine.thru : Mine.Thru _ (by
    refine code_run fun c a d D o I hD h1 h2 h3 h4 K _ => ?_
    have ok := I.ok
    refine JX.cons (JR.ifT ?_)
    repeat' (first | walk_at "jb" | ((with_reducible refine J.b ok (x := Str.ofString "str") ?hx (lb_str w) ?_); (case hx => exact ⟨by kernel_rfl, by kernel_rfl⟩)) | ((with_reducible refine J.g ok (x := Str.ofString "Code") ?hx (lg_Code w) ?_); (case hx => exact ⟨by kernel_rfl, by kernel_rfl⟩)) | with_reducible refine J.tuple ?_ | ((with_reducible refine NewK.intro ?hz ?_); (case hz => exact Nat.le_of_ble_eq_true rfl); intros) | with_reducible refine J.tnot ?_ | ((with_reducible refine' J.isiT ok kitx_bytes ?mq ?e ?n ?_); (case mq => with_reducible assumption); (case e => kit_is); (case n => exact fun q => nomatch q)) | ((with_reducible refine J.tplain ?_ ?he); (case he => exact rfl)))
    refine ⟨rfl, ?_⟩
    refine JR.cons (JR.raise ok PySem.F.excCall_TypeError PySem.F.excRaise_TypeError ⟨by kernel_rfl, by kernel_rfl⟩ (lb_TypeError w) ?_ rfl)
    repeat' (first | walk_at "jb" | ((with_reducible refine J.str ?_); intro _))
    exact ⟨Nat.le_of_ble_eq_true rfl, rfl, fun p hp => (by with_reducible assumption : ∀ p ∈ (D, o) :: _, p ∈ _) _ (.tail _ (.tail _ (.tail _ hp)))⟩))
theorem regex_bad_i (w : World) (news : Led) (t1 : Tok) (i : Int) (y : Value) : CallX w 626 [.int i t1, y] [] news (fun _ => True) (· = "TypeError") := Mine.into (by exact Mine.thru : Mine.Thru _ (by
    refine regex_run fun c a d I h1 h2 h3 K _ => ?_
    have ok := I.ok
    refine JX.cons (JR.ifT ?_)
    repeat' (first | walk_at "jb" | ((with_reducible refine J.b ok (x := Str.ofString "str") ?hx (lb_str w) ?_); (case hx => exact ⟨by kernel_rfl, by kernel_rfl⟩)) | ((with_reducible refine J.b ok (x := Str.ofString "bytes") ?hx (lb_bytes w) ?_); (case hx => exact ⟨by kernel_rfl, by kernel_rfl⟩)) | with_reducible refine J.tuple ?_ | ((with_reducible refine NewK.intro ?hz ?_); (case hz => exact Nat.le_of_ble_eq_true rfl); intros) | with_reducible refine J.tnot ?_ | ((with_reducible refine' J.isiT ok kitx_int ?mq ?e ?n ?_); (case mq => with_reducible assumption); (case e => kit_is); (case n => exact fun q => nomatch q)) | ((with_reducible refine J.tplain ?_ ?he); (case he => exact rfl)))
    refine ⟨rfl, ?_⟩
    refine JR.cons (JR.raise ok PySem.F.excCall_TypeError PySem.F.excRaise_TypeError ⟨by kernel_rfl, by kernel_rfl⟩ (lb_TypeError w) ?_ rfl)
    repeat' (first | walk_at "jb" | ((with_reducible refine J.str ?_); intro _))
    exact ⟨Nat.le_of_ble_eq_true rfl, rfl, fun p hp => (by with_reducible assumption : ∀ p ∈ (a, _) :: _, p ∈ _) _ (.tail _ (.tail _ hp))⟩))
theorem ref_bad_i (w : World) (news : Led) (t1 : Tok) (i : Int) (y z : Value) : CallX w 261 [.int i t1, y, z] [] news (fun _ => True) (· = "TypeError") := Mine.into (by exact Mine.thru : Mine.Thru _ (by
    refine ref_run fun c a d D o I hD h1 h2 h3 h4 h5 h6 K _ => ?_
    have ok := I.ok
    refine JX.cons (JR.ifT ?_)
    repeat' (first | walk_at "jb" | ((with_reducible refine J.b ok (x := Str.ofString "str") ?hx (lb_str w) ?_); (case hx => exact ⟨by kernel_rfl, by kernel_rfl⟩)) | ((with_reducible refine J.g ok (x := Str.ofString "Code") ?hx (lg_Code w) ?_); (case hx => exact ⟨by kernel_rfl, by kernel_rfl⟩)) | with_reducible refine J.tuple ?_ | ((with_reducible refine NewK.intro ?hz ?_); (case hz => exact Nat.le_of_ble_eq_true rfl); intros) | with_reducible refine J.tnot ?_ | ((with_reducible refine' J.isiT ok kitx_int ?mq ?e ?n ?_); (case mq => with_reducible assumption); (case e => kit_is); (case n => exact fun q => nomatch q)) | ((with_reducible refine J.tplain ?_ ?he); (case he => exact rfl)))
    refine ⟨rfl, ?_⟩
    refine JR.cons (JR.raise ok PySem.F.excCall_TypeError PySem.F.excRaise_TypeError ⟨by kernel_rfl, by kernel_rfl⟩ (lb_TypeError w) ?_ rfl)
    repeat' (first | walk_at "jb" | ((with_reducible refine J.str ?_); intro _))
    exact ⟨Nat.le_of_ble_eq_true rfl, rfl, fun p hp => (by with_reducible assumption : ∀ p ∈ (D, o) :: _, p ∈ _) _ (.tail _ (.tail _ (.tail _ hp)))⟩))
theorem ref_bad_n (w : World) (news : Led) (y z : Value) : CallX w 261 [.none, y, z] [] news (fun _ => True) (· = "TypeError") := Mine.into (by exact Mine.thru : Mine.Thru _ (by
    refine ref_run fun c a d D o I hD h1 h2 h3 h4 h5 h6 K _ => ?_
    have ok := I.ok
    refine JX.cons (JR.ifT ?_)
    repeat' (first | walk_at "jb" | ((with_reducible refine J.b ok (x := Str.ofString "str") ?hx (lb_str w) ?_); (case hx => exact ⟨by kernel_rfl, by kernel_rfl⟩)) | ((with_reducible refine J.g ok (x := Str.ofString "Code") ?hx (lg_Code w) ?_); (case hx => exact ⟨by kernel_rfl, by kernel_rfl⟩)) | with_reducible refine J.tuple ?_ | ((with_reducible refine NewK.intro ?hz ?_); (case hz => exact Nat.le_of_ble_eq_true rfl); intros) | with_reducible refine J.tnot ?_ | ((with_reducible refine' J.isiT ok kitx_none ?mq ?e ?n ?_); (case mq => with_reducible assumption); (case e => kit_is); (case n => exact fun q => nomatch q)) | ((with_reducible refine J.tplain ?_ ?he); (case he => exact rfl)))
    refine ⟨rfl, ?_⟩
    refine JR.cons (JR.raise ok PySem.F.excCall_TypeError PySem.F.excRaise_TypeError ⟨by kernel_rfl, by kernel_rfl⟩ (lb_TypeError w) ?_ rfl)
    repeat' (first | walk_at "jb" | ((with_reducible refine J.str ?_); intro _))
    exact ⟨Nat.le_of_ble_eq_true rfl, rfl, fun p hp => (by with_reducible assumption : ∀ p ∈ (D, o) :: _, p ∈ _) _ (.tail _ (.tail _ (.tail _ hp)))⟩))
theorem bin_kind (w : World) (news : Led) (x : Value) (y : PySem.Str) (t : Tok) : CallX w 144 [x, .str y t] [] news (fun _ => True) (· = "TypeError") := Mine.into (by exact Mine.thru : Mine.Thru _ (by
    refine bin_run fun c a d I h1 h2 h3 K _ => ?_
    have ok := I.ok
    refine JX.cons (JR.ifT ?_)
    repeat' (first | walk_at "jb" | ((with_reducible refine J.b ok (x := Str.ofString "int") ?hx (lb_int w) ?_); (case hx => exact ⟨by kernel_rfl, by kernel_rfl⟩)) | with_reducible refine J.tnot ?_ | ((with_reducible refine' J.isi1 ok kitx_str ?e ?n ?_); (case e => kit_is); (case n => exact fun q => nomatch q)) | ((with_reducible refine J.tplain ?_ ?he); (case he => exact rfl)))
    refine ⟨rfl, ?_⟩
    refine JR.cons (JR.raise ok PySem.F.excCall_TypeError PySem.F.excRaise_TypeError ⟨by kernel_rfl, by kernel_rfl⟩ (lb_TypeError w) ?_ rfl)
    repeat' (first | walk_at "jb" | ((with_reducible refine J.str ?_); intro _))
    exact ⟨Nat.le_of_ble_eq_true rfl, rfl, fun p hp => .tail _ (.tail _ hp)⟩))
theorem bin_hi (w : World) (news : Led) (row : Array UInt8) (t1 t2 : Tok) (k : Int) (hk : 256 ≤ k) : CallX w 144 [.bytes row t1, .int k t2] [] news (fun _ => True) (· = "ValueError") := Mine.into (by exact Mine.thru : Mine.Thru _ (by
    refine bin_run fun c a d I h1 h2 h3 K _ => ?_
    have ok := I.ok
    refine JX.cons (JR.ifF ?_)
    repeat' (first | walk_at "jb" | ((with_reducible refine J.b ok (x := Str.ofString "int") ?hx (lb_int w) ?_); (case hx => exact ⟨by kernel_rfl, by kernel_rfl⟩)) | with_reducible refine J.tnot ?_ | ((with_reducible refine' J.isi1 ok kitx_int ?e ?n ?_); (case e => kit_is); (case n => exact fun q => nomatch q)) | ((with_reducible refine J.tplain ?_ ?he); (case he => exact rfl)))
    refine ⟨rfl, JR.nil ⟨rfl, ?_⟩⟩
    refine JX.cons (JR.ifT (J.tor1 ?_))
    repeat' (first | walk_at "jb" | ((with_reducible refine J.int ?_); intro _) | with_reducible refine J.ge ?_)
    refine ⟨decide_eq_true hk, rfl, ?_⟩
    refine JR.cons (JR.raise ok PySem.F.excCall_ValueError PySem.F.excRaise_ValueError ⟨by kernel_rfl, by kernel_rfl⟩ (lb_ValueError w) ?_ rfl)
    repeat' (first | walk_at "jb" | ((with_reducible refine J.str ?_); intro _))
    exact ⟨Nat.le_of_ble_eq_true rfl, rfl, fun p hp => .tail _ (.tail _ hp)⟩))
theorem date_kind (w : World) (news : Led) (x : PySem.Str) (t : Tok) : CallX w 201 [.str x t] [] news (fun _ => True) (· = "TypeError") := Mine.into (by exact Mine.thru : Mine.Thru _ (by
    refine date_run fun c a d I h1 h2 K _ => ?_
    have ok := I.ok
    refine JX.cons (JR.ifF ?_)
    repeat' (first | walk_at "jb" | ((with_reducible refine J.b ok (x := Str.ofString "int") ?hx (lb_int w) ?_); (case hx => exact ⟨by kernel_rfl, by kernel_rfl⟩)) | ((with_reducible refine' J.isi1 ok kitx_str ?e ?n ?_); (case e => kit_is); (case n => exact fun q => nomatch q)) | ((with_reducible refine J.tplain ?_ ?he); (case he => exact rfl)))
    refine ⟨rfl, ?_⟩
    refine JR.cons (JR.raise ok PySem.F.excCall_TypeError PySem.F.excRaise_TypeError ⟨by kernel_rfl, by kernel_rfl⟩ (lb_TypeError w) ?_ rfl)
    repeat' (first | walk_at "jb" | ((with_reducible refine J.str ?_); intro _))
    exact ⟨Nat.le_of_ble_eq_true rfl, rfl, fun p hp => .tail _ (.tail _ hp)⟩))
end Mine

end
-- MJ2
section
open PySem PySem.Calls PySem.W PyProof.Rows PyProof.V PySem.Spec
namespace Mine
set_option maxRecDepth 100000
theorem filled4 (w : World) : Filled PySem.Challenge.rw_jh0019_01.row.prog (hd.heap_1 w.params) := by
  k_fill
  exact trivial
theorem set_code (w : World) (x : PySem.Str) (hx : takerIn (hd.heap_1 w.params) 61 x = some none) : SetOk w 61 x := ⟨by kernel_rfl, by kernel_rfl, hx, by kernel_rfl⟩
theorem set_regex (w : World) (x : PySem.Str) (hx : takerIn (hd.heap_1 w.params) 626 x = some none) : SetOk w 626 x := ⟨by kernel_rfl, by kernel_rfl, hx, by kernel_rfl⟩
theorem Inv.sub {C o d : Addr} {es : List DictEntry} {n : Nat} {news₀ tl tl' : Led} (S : Inv C o d es n news₀ tl) (h : ∀ p ∈ tl, p ∈ tl') : Inv C o d es n news₀ tl' := ⟨h _ S.hi, h _ S.hd, fun p hp => h _ (S.hn p hp)⟩
theorem code_bad_s (w : World) (news : Led) (x : PySem.Str) (t1 t2 : Tok) (i : Int) : CallX w 61 [.str x t1, .int i t2] [] news (fun _ => True) (· = "TypeError") := Mine.into (by exact Mine.thru : Mine.Thru _ (by
    refine code_run fun c a d D o I hD h1 h2 h3 h4 K _ => ?_
    have ok := I.ok
    refine JX.cons (JR.ifF ?_)
    repeat' (first | walk_at "jb" | ((with_reducible refine J.b ok (x := Str.ofString "str") ?hx (lb_str w) ?_); (case hx => exact ⟨by kernel_rfl, by kernel_rfl⟩)) | ((with_reducible refine J.g ok (x := Str.ofString "Code") ?hx (lg_Code w) ?_); (case hx => exact ⟨by kernel_rfl, by kernel_rfl⟩)) | with_reducible refine J.tuple ?_ | ((with_reducible refine NewK.intro ?hz ?_); (case hz => exact Nat.le_of_ble_eq_true rfl); intros) | with_reducible refine J.tnot ?_ | ((with_reducible refine' J.isiT ok kitx_str ?mq ?e ?n ?_); (case mq => with_reducible assumption); (case e => kit_is); (case n => exact fun q => nomatch q)) | ((with_reducible refine J.tplain ?_ ?he); (case he => exact rfl)))
    refine ⟨rfl, JR.nil ⟨rfl, ?_⟩⟩
    have S := (inv0 (C := 61) (o := a) (d := d) (es := []) (n := 0) (news := news)).sub (fun p hp => (by with_reducible assumption : ∀ p ∈ (D, o) :: _, p ∈ _) _ (.tail _ hp))
    refine JX.cons (JR.ifF ?_)
    repeat' (first | walk_at "jb" | ((with_reducible refine J.g ok (x := Str.ofString "Code") ?hx (lg_Code w) ?_); (case hx => exact ⟨by kernel_rfl, by kernel_rfl⟩)) | ((with_reducible refine' J.isi1 ok kitx_str ?e ?n ?_); (case e => kit_is); (case n => exact fun q => nomatch q)) | ((with_reducible refine J.tplain ?_ ?he); (case he => exact rfl)))
    refine ⟨rfl, ?_⟩
    refine JR.cons (JR.ofJ (J.setI I S h1 (set_code w _ (by kernel_rfl)) ⟨by kernel_rfl, by kernel_rfl⟩ rfl rfl (fun _ _ => Nat.le_of_ble_eq_true rfl) (fun _ _ => rfl) ?_))
    repeat' walk_at "jb"
    refine ⟨fun _ h => h, fun _ tl S => ⟨rfl, ?_⟩⟩
    refine JR.cons (JR.ofJ (J.setI I S h1 (set_code w _ (by kernel_rfl)) ⟨by kernel_rfl, by kernel_rfl⟩ rfl rfl (fun _ _ => Nat.le_of_ble_eq_true rfl) (fun _ _ => rfl) ?_))
    repeat' (with_reducible refine J.none ?_)
    refine ⟨fun _ h => h, fun _ tl S => ⟨rfl, JR.nil ⟨rfl, ?_⟩⟩⟩
    refine JX.cons (JR.ifT ?_)
    repeat' (first | walk_at "jb" | with_reducible refine J.none ?_ | with_reducible refine J.isnot ?_)
    refine ⟨rfl, JR.cons (JR.ifT ?_)⟩
    repeat' (first | walk_at "jb" | ((with_reducible refine J.b ok (x := Str.ofString "dict") ?hx (lb_dict w) ?_); (case hx => exact ⟨by kernel_rfl, by kernel_rfl⟩)) | with_reducible refine J.tnot ?_ | ((with_reducible refine' J.isi1 ok kitx_int ?e ?n ?_); (case e => kit_is); (case n => exact fun q => nomatch q)) | ((with_reducible refine J.tplain ?_ ?he); (case he => exact rfl)))
    refine ⟨rfl, ?_⟩
    refine JR.cons (JR.raise ok PySem.F.excCall_TypeError PySem.F.excRaise_TypeError ⟨by kernel_rfl, by kernel_rfl⟩ (lb_TypeError w) ?_ rfl)
    repeat' (first | walk_at "jb" | ((with_reducible refine J.str ?_); intro _))
    exact ⟨Nat.le_of_ble_eq_true rfl, rfl, S.hn⟩))
theorem regex_bad_n (w : World) (news : Led) (x : PySem.Str) (t1 : Tok) : CallX w 626 [.str x t1, .none] [] news (fun _ => True) (· = "TypeError") := Mine.into (by exact Mine.thru : Mine.Thru _ (by
    refine regex_run fun c a d I h1 h2 h3 K _ => ?_
    have ok := I.ok
    refine JX.cons (JR.ifF ?_)
    repeat' (first | walk_at "jb" | ((with_reducible refine J.b ok (x := Str.ofString "str") ?hx (lb_str w) ?_); (case hx => exact ⟨by kernel_rfl, by kernel_rfl⟩)) | ((with_reducible refine J.b ok (x := Str.ofString "bytes") ?hx (lb_bytes w) ?_); (case hx => exact ⟨by kernel_rfl, by kernel_rfl⟩)) | with_reducible refine J.tuple ?_ | ((with_reducible refine NewK.intro ?hz ?_); (case hz => exact Nat.le_of_ble_eq_true rfl); intros) | with_reducible refine J.tnot ?_ | ((with_reducible refine' J.isiT ok kitx_str ?mq ?e ?n ?_); (case mq => with_reducible assumption); (case e => kit_is); (case n => exact fun q => nomatch q)) | ((with_reducible refine J.tplain ?_ ?he); (case he => exact rfl)))
    refine ⟨rfl, JR.nil ⟨rfl, ?_⟩⟩
    have S := (inv0 (C := 626) (o := a) (d := d) (es := []) (n := 0) (news := news)).sub (by with_reducible assumption : ∀ p ∈ (a, _) :: _, p ∈ _)
    refine JX.cons (JR.ofJ (J.setI I S h1 (set_regex w _ (by kernel_rfl)) ⟨by kernel_rfl, by kernel_rfl⟩ rfl rfl (fun _ _ => Nat.le_of_ble_eq_true rfl) (fun _ _ => rfl) ?_))
    repeat' walk_at "jb"
    refine ⟨fun _ h => h, fun _ tl S => ⟨rfl, ?_⟩⟩
    refine JX.cons (JR.ifF ?_)
    repeat' (first | walk_at "jb" | ((with_reducible refine J.b ok (x := Str.ofString "str") ?hx (lb_str w) ?_); (case hx => exact ⟨by kernel_rfl, by kernel_rfl⟩)) | ((with_reducible refine' J.isi1 ok kitx_none ?e ?n ?_); (case e => kit_is); (case n => exact fun q => nomatch q)) | ((with_reducible refine J.tplain ?_ ?he); (case he => exact rfl)))
    refine ⟨rfl, JR.cons (JR.ifF ?_)⟩
    repeat' (first | walk_at "jb" | ((with_reducible refine J.b ok (x := Str.ofString "int") ?hx (lb_int w) ?_); (case hx => exact ⟨by kernel_rfl, by kernel_rfl⟩)) | ((with_reducible refine' J.isi1 ok kitx_none ?e ?n ?_); (case e => kit_is); (case n => exact fun q => nomatch q)) | ((with_reducible refine J.tplain ?_ ?he); (case he => exact rfl)))
    refine ⟨rfl, ?_⟩
    refine JR.cons (JR.raise ok PySem.F.excCall_TypeError PySem.F.excRaise_TypeError ⟨by kernel_rfl, by kernel_rfl⟩ (lb_TypeError w) ?_ rfl)
    repeat' (first | walk_at "jb" | ((with_reducible refine J.str ?_); intro _))
    exact ⟨Nat.le_of_ble_eq_true rfl, rfl, S.hn⟩))
theorem ref_bad_db (w : World) (news : Led) (x : PySem.Str) (y : Value) (t1 t2 : Tok) (i : Int) : CallX w 261 [.str x t1, y, .int i t2] [] news (fun _ => True) (· = "TypeError") := Mine.into (by exact Mine.thru : Mine.Thru _ (by
    refine ref_run fun c a d D o I hD h1 h2 h3 h4 h5 h6 K _ => ?_
    have ok := I.ok
    refine JX.cons (JR.ifF ?_)
    repeat' (first | walk_at "jb" | ((with_reducible refine J.b ok (x := Str.ofString "str") ?hx (lb_str w) ?_); (case hx => exact ⟨by kernel_rfl, by kernel_rfl⟩)) | ((with_reducible refine J.g ok (x := Str.ofString "Code") ?hx (lg_Code w) ?_); (case hx => exact ⟨by kernel_rfl, by kernel_rfl⟩)) | with_reducible refine J.tuple ?_ | ((with_reducible refine NewK.intro ?hz ?_); (case hz => exact Nat.le_of_ble_eq_true rfl); intros) | with_reducible refine J.tnot ?_ | ((with_reducible refine' J.isiT ok kitx_str ?mq ?e ?n ?_); (case mq => with_reducible assumption); (case e => kit_is); (case n => exact fun q => nomatch q)) | ((with_reducible refine J.tplain ?_ ?he); (case he => exact rfl)))
    refine ⟨rfl, JR.nil ⟨rfl, ?_⟩⟩
    have S := (inv0 (C := 261) (o := a) (d := d) (es := []) (n := 0) (news := news)).sub (fun p hp => (by with_reducible assumption : ∀ p ∈ (D, o) :: _, p ∈ _) _ (.tail _ hp))
    refine JX.cons (JR.ifT (J.tandT ?_))
    repeat' (first | walk_at "jb" | with_reducible refine J.none ?_ | with_reducible refine J.isnot ?_)
    refine ⟨rfl, J.tandT ?_⟩
    repeat' (first | walk_at "jb" | ((with_reducible refine J.b ok (x := Str.ofString "str") ?hx (lb_str w) ?_); (case hx => exact ⟨by kernel_rfl, by kernel_rfl⟩)) | ((with_reducible refine J.g ok (x := Str.ofString "Code") ?hx (lg_Code w) ?_); (case hx => exact ⟨by kernel_rfl, by kernel_rfl⟩)) | with_reducible refine J.tuple ?_ | ((with_reducible refine NewK.intro ?hz ?_); (case hz => exact Nat.le_of_ble_eq_true rfl); intros) | with_reducible refine J.tnot ?_ | ((with_reducible refine' J.isiT ok kitx_int ?mq ?e ?n ?_); (case mq => with_reducible assumption); (case e => kit_is); (case n => exact fun q => nomatch q)) | ((with_reducible refine J.tplain ?_ ?he); (case he => exact rfl)))
    refine ⟨rfl, ?_⟩
    repeat' (with_reducible refine J.tandnil ?_)
    refine ⟨rfl, ?_⟩
    refine JR.cons (JR.raise ok PySem.F.excCall_TypeError PySem.F.excRaise_TypeError ⟨by kernel_rfl, by kernel_rfl⟩ (lb_TypeError w) ?_ rfl)
    repeat' (first | walk_at "jb" | ((with_reducible refine J.str ?_); intro _))
    exact ⟨Nat.le_of_ble_eq_true rfl, rfl, fun p hp => (by with_reducible assumption : ∀ p ∈ _, p ∈ _) _ (S.hn p hp)⟩))
theorem date_over (w : World) (news : Led) (t : Tok) (k : Int) (h : ¬ (-9223372036854775808 ≤ k ∧ k ≤ 9223372036854775808 - 1)) : CallX w 201 [.int k t] [] news (fun _ => True) (· = "OverflowError") := Mine.into (by exact Mine.thru : Mine.Thru _ (by
    refine date_run fun c a d I h1 h2 K _ => ?_
    have ok := I.ok
    refine JX.cons (JR.ifT ?_)
    repeat' (first | walk_at "jb" | ((with_reducible refine J.b ok (x := Str.ofString "int") ?hx (lb_int w) ?_); (case hx => exact ⟨by kernel_rfl, by kernel_rfl⟩)) | ((with_reducible refine' J.isi1 ok kitx_int ?e ?n ?_); (case e => kit_is); (case n => exact fun q => nomatch q)) | ((with_reducible refine J.tplain ?_ ?he); (case he => exact rfl)))
    refine ⟨rfl, JR.cons (JR.ifT (J.tnot ?_))⟩
    by_cases h0 : -9223372036854775808 ≤ k
    · refine J.chain2T ?_ rfl
      repeat' (first | walk_at "jb" | ((with_reducible refine J.int ?_); intro _) | with_reducible refine J.bin ?_ | with_reducible refine J.un ?_ | ((with_reducible refine J.neg ?_); intro _) | ((with_reducible refine J.pow63 ?_); intro _) | with_reducible refine J.le ?_)
      refine ⟨decide_eq_true h0, ?_⟩
      repeat' (first | walk_at "jb" | ((with_reducible refine J.int ?_); intro _) | with_reducible refine J.bin ?_ | ((with_reducible refine J.pow63 ?_); intro _) | ((with_reducible refine J.sub' ?_); intro _) | with_reducible refine J.le ?_)
      refine ⟨by rw [decide_eq_false fun q => h ⟨h0, q⟩]; rfl, ?_⟩
      refine JR.cons (JR.raise ok PySem.F.excCall_OverflowError PySem.F.excRaise_OverflowError ⟨by kernel_rfl, by kernel_rfl⟩ (lb_OverflowError w) ?_ rfl)
      repeat' (first | walk_at "jb" | ((with_reducible refine J.str ?_); intro _))
      exact ⟨Nat.le_of_ble_eq_true rfl, rfl, fun p hp => .tail _ (.tail _ hp)⟩
    · refine J.chain2F ?_ rfl
      repeat' (first | walk_at "jb" | ((with_reducible refine J.int ?_); intro _) | with_reducible refine J.bin ?_ | with_reducible refine J.un ?_ | ((with_reducible refine J.neg ?_); intro _) | ((with_reducible refine J.pow63 ?_); intro _) | with_reducible refine J.le ?_)
      refine ⟨decide_eq_false h0, rfl, ?_⟩
      refine JR.cons (JR.raise ok PySem.F.excCall_OverflowError PySem.F.excRaise_OverflowError ⟨by kernel_rfl, by kernel_rfl⟩ (lb_OverflowError w) ?_ rfl)
      repeat' (first | walk_at "jb" | ((with_reducible refine J.str ?_); intro _))
      exact ⟨Nat.le_of_ble_eq_true rfl, rfl, fun p hp => .tail _ (.tail _ hp)⟩))
end Mine

end
-- CJ
section
open PySem PySem.Calls PySem.W PyProof.Rows PyProof.V PySem.Spec
namespace Mine
set_option maxRecDepth 100000
theorem filled6 (w : World) : Filled PySem.Challenge.rw_jh0019_01.row.prog (hd.heap_1 w.params) := by
  k_fill
  exact trivial
abbrev codeE (w : World) (tv sv : Value) (u1 u2 : Tok) : List DictEntry := [⟨PyData.keyHash w.params (Str.ofString "text"), .str (Str.ofString "text") u1, tv⟩, ⟨PyData.keyHash w.params (Str.ofString "_scope"), .str (Str.ofString "_scope") u2, sv⟩]
theorem ga_scope (w : World) : GA w 61 (Str.ofString "_scope") := ⟨by kernel_rfl, by kernel_rfl, by kernel_rfl⟩
section
variable {w : World} {c : Cx w} {news tl : Led} {r u : Nat} {fs : Option Scope} {K : Led → Flow → Prop} {P : Value → Heap → Prop} {a d D : Addr} {o : Obj} {tv sv : Value} {u1 u2 : Tok}
theorem J.codeScope (ok : c.OkR fs (r + 1) (u + 4)) {x d : Addr} {es : List DictEntry} {n : Nat} {v : Value} {K : Led → Value → Prop} (mx : (x, instObj 61 d) ∈ news) (md : (d, dictOf es n) ∈ news) (hg : getL (Str.ofString "_scope") es = some (some v)) (hv : handedIn v = true) (h : K news v) : J c (getAttr (.ref x) (Str.ofString "scope") true) news K := by
  refine' J.field ok (PropField.mk ?hg ?hh ?ha ?hn ?ht ?hp ?ho ?hcd ?hb ?hl ?sc ?hc (ga_scope w)) mx md hg hv h
  case ha | hg | hh | hn | ht | hp | ho | hcd => k_is
  case hb => exact fun x s => BindsTo.of_eq rfl
  case hl => rfl
  case sc => exact ⟨rfl, rfl, rfl⟩
  case hc => decide
theorem code_pre_str {x : PySem.Str} {t1 : Tok} (I : InitAt c codeLit.2 news a d) (hD : @LT.lt Nat _ a D) (h1 : c.m (Str.ofString "self") = some (.ref a)) (h2 : c.m (Str.ofString "code") = some (.str x t1))
    (h : ∀ tl u1 u2, Inv 61 a d (codeE w (.str x t1) .none u1 u2) 2 ((D, o) :: news) tl → JX c (execs (codeLit.1.drop 2) c.env) tl K P) : JX c (execs codeLit.1 c.env) ((D, o) :: (a, instObj 61 d) :: (d, dictOf [] 0) :: news) K P := Mine.into (by exact Mine.thru : Mine.Thru _ (by
    have ok := I.ok
    have hne : ∀ p ∈ (D, o) :: news, p.1 ≠ d := all_cons (Nat.ne_of_gt (Nat.lt_trans I.hdx hD)) fun p hp => Nat.ne_of_lt (I.hd p hp)
    refine JX.cons (JR.ifF ?_)
    repeat' (first | walk_at "jb" | ((with_reducible refine J.b ok (x := Str.ofString "str") ?hx (lb_str w) ?_); (case hx => exact ⟨by kernel_rfl, by kernel_rfl⟩)) | ((with_reducible refine J.g ok (x := Str.ofString "Code") ?hx (lg_Code w) ?_); (case hx => exact ⟨by kernel_rfl, by kernel_rfl⟩)) | with_reducible refine J.tuple ?_ | ((with_reducible refine NewK.intro ?hz ?_); (case hz => exact Nat.le_of_ble_eq_true rfl); intros) | with_reducible refine J.tnot ?_ | ((with_reducible refine' J.isiT ok kitx_str ?mq ?e ?n ?_); (case mq => with_reducible assumption); (case e => kit_is); (case n => exact fun q => nomatch q)) | ((with_reducible refine J.tplain ?_ ?he); (case he => exact rfl)))
    refine ⟨rfl, JR.nil ⟨rfl, ?_⟩⟩
    have hs := (by with_reducible assumption : ∀ p ∈ (D, o) :: _, p ∈ _)
    have S : Inv 61 a d [] 0 ((D, o) :: news) _ := ⟨hs _ (.tail _ (.head _)), hs _ (.tail _ (.tail _ (.head _))), all_cons (hs _ (.head _)) fun p hp => hs p (.tail _ (.tail _ (.tail _ hp)))⟩
    refine JX.cons (JR.ifF ?_)
    repeat' (first | walk_at "jb" | ((with_reducible refine J.g ok (x := Str.ofString "Code") ?hx (lg_Code w) ?_); (case hx => exact ⟨by kernel_rfl, by kernel_rfl⟩)) | ((with_reducible refine' J.isi1 ok kitx_str ?e ?n ?_); (case e => kit_is); (case n => exact fun q => nomatch q)) | ((with_reducible refine J.tplain ?_ ?he); (case he => exact rfl)))
    refine ⟨rfl, ?_⟩
    refine JR.cons (JR.ofJ (J.setN I hne S h1 (set_code w _ (by kernel_rfl)) ⟨by kernel_rfl, by kernel_rfl⟩ rfl rfl (fun _ _ => Nat.le_of_ble_eq_true rfl) (fun _ _ => rfl) ?_))
    repeat' walk_at "jb"
    refine ⟨fun _ h => h, fun u1 tl S => ⟨rfl, ?_⟩⟩
    refine JR.cons (JR.ofJ (J.setN I hne S h1 (set_code w _ (by kernel_rfl)) ⟨by kernel_rfl, by kernel_rfl⟩ rfl rfl (fun _ _ => Nat.le_of_ble_eq_true rfl) (fun _ _ => rfl) ?_))
    repeat' (with_reducible refine J.none ?_)
    exact ⟨fun _ h => h, fun u2 tl S => ⟨rfl, JR.nil ⟨rfl, h _ _ _ S⟩⟩⟩))
theorem kitx_code (w : World) {x : Addr} {ox od : Obj} : KitX (hd.heap_1 w.params) (.ref x) (.ref 61) (fun h => InstAt h x ox 61 (some od)) := kitx_own (by kernel_rfl) (by kernel_rfl) (by kernel_rfl) (by kernel_rfl) (by kernel_rfl) (by kernel_rfl)
theorem code_pre_code {x0 e0 : Addr} {es : List DictEntry} {n0 : Nat} (I : InitAt c codeLit.2 news a d) (hD : @LT.lt Nat _ a D) (h1 : c.m (Str.ofString "self") = some (.ref a)) (h2 : c.m (Str.ofString "code") = some (.ref x0)) (m0 : (x0, instObj 61 e0) ∈ news) (m1 : (e0, dictOf es n0) ∈ news)
    (g1 : getL (Str.ofString "text") es = some (some tv)) (g2 : getL (Str.ofString "_scope") es = some (some sv)) (v1 : handedIn tv = true) (v2 : handedIn sv = true)
    (h : ∀ tl u1 u2, Inv 61 a d (codeE w tv sv u1 u2) 2 ((D, o) :: news) tl → JX c (execs (codeLit.1.drop 2) c.env) tl K P) : JX c (execs codeLit.1 c.env) ((D, o) :: (a, instObj 61 d) :: (d, dictOf [] 0) :: news) K P := Mine.into (by exact Mine.thru : Mine.Thru _ (by
    have ok := I.ok
    have hne : ∀ p ∈ (D, o) :: news, p.1 ≠ d := all_cons (Nat.ne_of_gt (Nat.lt_trans I.hdx hD)) fun p hp => Nat.ne_of_lt (I.hd p hp)
    refine JX.cons (JR.ifF ?_)
    repeat' (first | walk_at "jb" | ((with_reducible refine J.b ok (x := Str.ofString "str") ?hx (lb_str w) ?_); (case hx => exact ⟨by kernel_rfl, by kernel_rfl⟩)) | ((with_reducible refine J.g ok (x := Str.ofString "Code") ?hx (lg_Code w) ?_); (case hx => exact ⟨by kernel_rfl, by kernel_rfl⟩)) | with_reducible refine J.tuple ?_ | ((with_reducible refine NewK.intro ?hz ?_); (case hz => exact Nat.le_of_ble_eq_true rfl); intros) | with_reducible refine J.tnot ?_ | ((with_reducible refine J.tplain ?_ ?he); (case he => exact rfl)))
    have hs := (by with_reducible assumption : ∀ p ∈ (D, o) :: _, p ∈ _)
    refine J.isiTN ok (kitx_code w) (fun _ N => InstAt.of_news N (hs _ (.tail _ (.tail _ (.tail _ m0)))) (hs _ (.tail _ (.tail _ (.tail _ m1))))) (by with_reducible assumption) (by kit_is) (fun q => nomatch q) ?_
    repeat' walk_at "jb"
    refine ⟨rfl, JR.nil ⟨rfl, ?_⟩⟩
    have S : Inv 61 a d [] 0 ((D, o) :: news) _ := ⟨hs _ (.tail _ (.head _)), hs _ (.tail _ (.tail _ (.head _))), all_cons (hs _ (.head _)) fun p hp => hs p (.tail _ (.tail _ (.tail _ hp)))⟩
    refine JX.cons (JR.ifT ?_)
    repeat' (first | walk_at "jb" | ((with_reducible refine J.g ok (x := Str.ofString "Code") ?hx (lg_Code w) ?_); (case hx => exact ⟨by kernel_rfl, by kernel_rfl⟩)) | ((with_reducible refine J.tplain ?_ ?he); (case he => exact rfl)))
    refine J.isi1N ok (kitx_code w) (fun _ N => InstAt.of_news N (hs _ (.tail _ (.tail _ (.tail _ m0)))) (hs _ (.tail _ (.tail _ (.tail _ m1))))) (by kit_is) (fun q => nomatch q) ?_
    repeat' walk_at "jb"
    refine ⟨rfl, ?_⟩
    refine JR.cons (JR.ofJ (J.setN I hne S h1 (set_code w _ (by kernel_rfl)) ⟨by kernel_rfl, by kernel_rfl⟩ rfl rfl (fun _ _ => Nat.le_of_ble_eq_true rfl) (fun _ _ => rfl) ?_))
    repeat' (first | walk_at "jb" | with_reducible refine J.Attr ?_)
    refine J.ownR ok (S.hn _ (.tail _ m0)) (S.hn _ (.tail _ m1)) (ga_text w) g1 v1 ?_
    refine ⟨fun _ h => h, fun u1 tl S => ⟨rfl, ?_⟩⟩
    refine JR.cons (JR.ofJ (J.setN I hne S h1 (set_code w _ (by kernel_rfl)) ⟨by kernel_rfl, by kernel_rfl⟩ rfl rfl (fun _ _ => Nat.le_of_ble_eq_true rfl) (fun _ _ => rfl) ?_))
    repeat' (first | walk_at "jb" | with_reducible refine J.Attr ?_)
    refine J.codeScope (r := 4) (u := 6) ok (S.hn _ (.tail _ m0)) (S.hn _ (.tail _ m1)) g2 v2 ?_
    exact ⟨fun _ h => h, fun u2 tl S => ⟨rfl, JR.nil ⟨rfl, h _ _ _ S⟩⟩⟩))
variable {news₁ news₀ : Led}
theorem code_s3_none (I : InitAt c codeLit.2 news₁ a d) (h3 : c.m (Str.ofString "scope") = some .none) (h : JX c (execs (codeLit.1.drop 3) c.env) tl K P) : JX c (execs (codeLit.1.drop 2) c.env) tl K P := Mine.into (by exact Mine.thru : Mine.Thru _ (by
    have ok := I.ok
    refine JX.cons (JR.ifF ?_)
    repeat' (first | walk_at "jb" | with_reducible refine J.none ?_ | with_reducible refine J.isnot ?_)
    exact ⟨rfl, JR.nil ⟨rfl, h⟩⟩))
theorem code_s3_set {d0 : Addr} {o0 : Obj} {kv0 : List (PySem.Str × Value)} {c0 : List (PySem.Str × Int)} (I : InitAt c codeLit.2 news₁ a d) (hne : ∀ p ∈ news₀, p.1 ≠ d) (S : Inv 61 a d (codeE w tv .none u1 u2) 2 news₀ tl) (h1 : c.m (Str.ofString "self") = some (.ref a)) (h3 : c.m (Str.ofString "scope") = some (.ref d0)) (H : HasDict w tl d0 o0 kv0 c0)
    (h : ∀ tl', Inv 61 a d (codeE w tv (.ref d0) u1 u2) 2 news₀ tl' → JX c (execs (codeLit.1.drop 3) c.env) tl' K P) : JX c (execs (codeLit.1.drop 2) c.env) tl K P := Mine.into (by exact Mine.thru : Mine.Thru _ (by
    have ok := I.ok
    refine JX.cons (JR.ifT ?_)
    repeat' (first | walk_at "jb" | with_reducible refine J.none ?_ | with_reducible refine J.isnot ?_)
    refine ⟨rfl, JR.cons (JR.ifF ?_)⟩
    repeat' (first | walk_at "jb" | ((with_reducible refine J.b ok (x := Str.ofString "dict") ?hx (lb_dict w) ?_); (case hx => exact ⟨by kernel_rfl, by kernel_rfl⟩)) | with_reducible refine J.tnot ?_ | ((with_reducible refine J.tplain ?_ ?he); (case he => exact rfl)))
    refine J.isi1N ok kitx_dict (fun _ N => H.kit N) (by kit_is) (fun q => nomatch q) ?_
    repeat' walk_at "jb"
    refine ⟨rfl, JR.nil ⟨rfl, JR.cons (JR.ifF ?_)⟩⟩
    repeat' (first | walk_at "jb" | with_reducible refine J.none ?_ | with_reducible refine J.isnot ?_ | with_reducible refine J.Attr ?_ | ((with_reducible refine' J.ownR ok S.hi S.hd (ga_scope w) ?g ?hv ?_); (case g | hv => exact rfl)))
    refine ⟨rfl, ?_⟩
    refine JR.cons (JR.ofJ (J.setN I hne S h1 (set_code w _ (by kernel_rfl)) ⟨by kernel_rfl, by kernel_rfl⟩ rfl rfl (fun _ _ => Nat.le_of_ble_eq_true rfl) (fun _ _ => rfl) ?_))
    repeat' walk_at "jb"
    exact ⟨fun _ h => h, fun _ tl S => ⟨rfl, JR.nil ⟨rfl, JR.nil ⟨rfl, h _ S⟩⟩⟩⟩))
theorem Inv.upd {k0 : Addr} {es : List DictEntry} {n : Nat} {tl tl' : Led} (S : Inv 61 a d es n news₀ tl) (ha : k0 ≠ a) (hd : k0 ≠ d) (h0 : ∀ p ∈ news₀, p.1 ≠ k0) (hs : ∀ p ∈ tl, p.1 ≠ k0 → p ∈ tl') : Inv 61 a d es n news₀ tl' := ⟨hs _ S.hi ha.symm, hs _ S.hd hd.symm, fun p hp => hs p (S.hn p hp) (h0 p hp)⟩
theorem code_s3_upd {k0 k2 : Addr} {o0 o2 : Obj} {kv0 kv2 : List (PySem.Str × Value)} {c0 c2 : List (PySem.Str × Int)} (I : InitAt c codeLit.2 news₁ a d) (S : Inv 61 a d (codeE w tv (.ref k0) u1 u2) 2 news₀ tl) (h1 : c.m (Str.ofString "self") = some (.ref a)) (h3 : c.m (Str.ofString "scope") = some (.ref k2)) (H0 : HasDict w tl k0 o0 kv0 c0) (H2 : HasDict w tl k2 o2 kv2 c2)
    (hne : @Ne Nat k0 k2) (z0 : c0.length ≤ 64) (z2 : c2.length ≤ 64) (ha : k0 ≠ a) (hd : k0 ≠ d) (h0 : ∀ p ∈ news₀, p.1 ≠ k0)
    (h : ∀ tl' o' kv', Inv 61 a d (codeE w tv (.ref k0) u1 u2) 2 news₀ tl' → HasDict w tl' k0 o' kv' (putAll c0 c2) → JX c (execs (codeLit.1.drop 3) c.env) tl' K P) : JX c (execs (codeLit.1.drop 2) c.env) tl K P := Mine.into (by exact Mine.thru : Mine.Thru _ (by
    have ok := I.ok
    refine JX.cons (JR.ifT ?_)
    repeat' (first | walk_at "jb" | with_reducible refine J.none ?_ | with_reducible refine J.isnot ?_)
    refine ⟨rfl, JR.cons (JR.ifF ?_)⟩
    repeat' (first | walk_at "jb" | ((with_reducible refine J.b ok (x := Str.ofString "dict") ?hx (lb_dict w) ?_); (case hx => exact ⟨by kernel_rfl, by kernel_rfl⟩)) | with_reducible refine J.tnot ?_ | ((with_reducible refine J.tplain ?_ ?he); (case he => exact rfl)))
    refine J.isi1N ok kitx_dict (fun _ N => H2.kit N) (by kit_is) (fun q => nomatch q) ?_
    repeat' walk_at "jb"
    refine ⟨rfl, JR.nil ⟨rfl, JR.cons (JR.ifT ?_)⟩⟩
    repeat' (first | walk_at "jb" | with_reducible refine J.none ?_ | with_reducible refine J.isnot ?_ | with_reducible refine J.Attr ?_ | ((with_reducible refine' J.ownR ok S.hi S.hd (ga_scope w) ?g ?hv ?_); (case g | hv => exact rfl)))
    refine ⟨rfl, JR.cons (JR.expr (JR.ofJ (J.update ?_ rfl ⟨rfl, rfl⟩)) (inter_no ok) rfl)⟩
    repeat' (first | walk_at "jb" | with_reducible refine J.Attr ?_ | ((with_reducible refine' J.ownR ok S.hi S.hd (ga_scope w) ?g ?hv ?_); (case g | hv => exact rfl)))
    refine ⟨k0, o0, kv0, c0, rfl, H0, ?_⟩
    repeat' walk_at "jb"
    refine ⟨_, rfl, H0.m, k2, o2, kv2, c2, rfl, H2, hne, z0, z2, fun o' kv' tl' hs H' => ⟨rfl, JR.nil ⟨rfl, JR.nil ⟨rfl, h _ _ _ (S.upd ha hd h0 hs) H'⟩⟩⟩⟩))
theorem code_s4_empty {kv : List (PySem.Str × Value)} (I : InitAt c codeLit.2 news₁ a d) (h4 : c.m (Str.ofString "kwargs") = some (.ref D)) (H : HasDict w tl D o kv []) (h : K tl .next) : JX c (execs (codeLit.1.drop 3) c.env) tl K P := Mine.into (by exact Mine.thru : Mine.Thru _ (by
    have ok := I.ok
    refine JX.cons (JR.ifF ?_)
    repeat' (first | walk_at "jb" | ((with_reducible refine J.tplain ?_ ?he); (case he => exact rfl)))
    refine J.truthyD H (Nat.zero_le _) ?_
    exact ⟨rfl, JR.nil ⟨rfl, JX.nil h⟩⟩))
theorem code_s4_set {kv : List (PySem.Str × Value)} {x : PySem.Str} {k : Int} (I : InitAt c codeLit.2 news₁ a d) (hne : ∀ p ∈ news₀, p.1 ≠ d) (S : Inv 61 a d (codeE w tv .none u1 u2) 2 news₀ tl) (h1 : c.m (Str.ofString "self") = some (.ref a)) (h4 : c.m (Str.ofString "kwargs") = some (.ref D)) (H : HasDict w tl D o kv [(x, k)])
    (h : ∀ tl', Inv 61 a d (codeE w tv (.ref D) u1 u2) 2 news₀ tl' → K tl' .next) : JX c (execs (codeLit.1.drop 3) c.env) tl K P := Mine.into (by exact Mine.thru : Mine.Thru _ (by
    have ok := I.ok
    refine JX.cons (JR.ifT ?_)
    repeat' (first | walk_at "jb" | ((with_reducible refine J.tplain ?_ ?he); (case he => exact rfl)))
    refine J.truthyD H (Nat.le_of_ble_eq_true rfl) ?_
    refine ⟨rfl, JR.cons (JR.ifF ?_)⟩
    repeat' (first | walk_at "jb" | with_reducible refine J.none ?_ | with_reducible refine J.isnot ?_ | with_reducible refine J.Attr ?_ | ((with_reducible refine' J.ownR ok S.hi S.hd (ga_scope w) ?g ?hv ?_); (case g | hv => exact rfl)))
    refine ⟨rfl, ?_⟩
    refine JR.cons (JR.ofJ (J.setN I hne S h1 (set_code w _ (by kernel_rfl)) ⟨by kernel_rfl, by kernel_rfl⟩ rfl rfl (fun _ _ => Nat.le_of_ble_eq_true rfl) (fun _ _ => rfl) ?_))
    repeat' walk_at "jb"
    exact ⟨fun _ h => h, fun _ tl S => ⟨rfl, JR.nil ⟨rfl, JR.nil ⟨rfl, JX.nil (h _ S)⟩⟩⟩⟩))
theorem code_s4_upd {k0 : Addr} {o0 : Obj} {kv0 kv : List (PySem.Str × Value)} {c0 : List (PySem.Str × Int)} {x : PySem.Str} {k : Int} (I : InitAt c codeLit.2 news₁ a d) (S : Inv 61 a d (codeE w tv (.ref k0) u1 u2) 2 news₀ tl) (h1 : c.m (Str.ofString "self") = some (.ref a)) (h4 : c.m (Str.ofString "kwargs") = some (.ref D)) (H0 : HasDict w tl k0 o0 kv0 c0) (H : HasDict w tl D o kv [(x, k)])
    (hne : @Ne Nat k0 D) (z0 : c0.length ≤ 64) (ha : k0 ≠ a) (hd : k0 ≠ d) (h0 : ∀ p ∈ news₀, p.1 ≠ k0)
    (h : ∀ tl' o' kv', Inv 61 a d (codeE w tv (.ref k0) u1 u2) 2 news₀ tl' → HasDict w tl' k0 o' kv' (putAll c0 [(x, k)]) → K tl' .next) : JX c (execs (codeLit.1.drop 3) c.env) tl K P := Mine.into (by exact Mine.thru : Mine.Thru _ (by
    have ok := I.ok
    refine JX.cons (JR.ifT ?_)
    repeat' (first | walk_at "jb" | ((with_reducible refine J.tplain ?_ ?he); (case he => exact rfl)))
    refine J.truthyD H (Nat.le_of_ble_eq_true rfl) ?_
    refine ⟨rfl, JR.cons (JR.ifT ?_)⟩
    repeat' (first | walk_at "jb" | with_reducible refine J.none ?_ | with_reducible refine J.isnot ?_ | with_reducible refine J.Attr ?_ | ((with_reducible refine' J.ownR ok S.hi S.hd (ga_scope w) ?g ?hv ?_); (case g | hv => exact rfl)))
    refine ⟨rfl, JR.cons (JR.expr (JR.ofJ (J.update ?_ rfl ⟨rfl, rfl⟩)) (inter_no ok) rfl)⟩
    repeat' (first | walk_at "jb" | with_reducible refine J.Attr ?_ | ((with_reducible refine' J.ownR ok S.hi S.hd (ga_scope w) ?g ?hv ?_); (case g | hv => exact rfl)))
    refine ⟨k0, o0, kv0, c0, rfl, H0, ?_⟩
    repeat' walk_at "jb"
    refine ⟨_, rfl, H0.m, D, o, kv, [(x, k)], rfl, H, hne, z0, Nat.le_of_ble_eq_true rfl, fun o' kv' tl' hs H' => ⟨rfl, JR.nil ⟨rfl, JR.nil ⟨rfl, JX.nil (h _ _ _ (S.upd ha hd h0 hs) H')⟩⟩⟩⟩))
end
end Mine

end
-- CJ2
section
open PySem PySem.Calls PySem.W PyProof.Rows PyProof.V PySem.Spec
namespace Mine
set_option maxRecDepth 100000
theorem filled7 (w : World) : Filled PySem.Challenge.rw_jh0019_01.row.prog (hd.heap_1 w.params) := by
  k_fill
  exact trivial
theorem set_int64 (w : World) (x : PySem.Str) (hx : takerIn (hd.heap_1 w.params) 344 x = some none) : SetOk w 344 x := ⟨by kernel_rfl, by kernel_rfl, hx, by kernel_rfl⟩
theorem set_date (w : World) (x : PySem.Str) (hx : takerIn (hd.heap_1 w.params) 201 x = some none) : SetOk w 201 x := ⟨by kernel_rfl, by kernel_rfl, hx, by kernel_rfl⟩
abbrev dateD (w : World) (k : Int) (t : Tok) (t1 : Tok) : Obj := dictOf [⟨PyData.keyHash w.params (Str.ofString "_value"), .str (Str.ofString "_value") t1, .int k t⟩] 1
theorem lt_keep {k0 d : Addr} {l : Led} (h : ∀ p ∈ l, @LT.lt Nat _ p.1 k0) (hd : @LT.lt Nat _ k0 d) : ∀ p ∈ l, @LT.lt Nat _ p.1 d := fun p hp => Nat.lt_trans (h p hp) hd
theorem allLt_to {d : Addr} : ∀ {l : Led}, AllLt d l → ∀ p ∈ l, @LT.lt Nat _ p.1 d
  | [], _, _, h => nomatch h
  | _ :: _, x, p, h => by
    rcases List.mem_cons.mp h with rfl | h
    · exact x.1
    · exact allLt_to x.2 p h
theorem new_binary (w : World) (news : Led) (row : Array UInt8) (t t1 : Tok) (k : Int) (h0 : 0 ≤ k) (h1 : k < 256) :
    CallC w 144 [.bytes row t, .int k t1] [] news (fun K => ∀ x d u1 u2 u3 u4, (∀ p ∈ news, p.1 < d) → d < x → K ((x, instObj 144 d) :: (d, dictOf [⟨PyData.keyHash w.params (Str.ofString "data"), .str (Str.ofString "data") u2, .bytes row u1⟩, ⟨PyData.keyHash w.params (Str.ofString "_subtype"), .str (Str.ofString "_subtype") u4, .int k u3⟩] 2) :: news) (.ref x)) := Mine.into (by exact Mine.thru : Mine.Thru _ (by
    refine .ofX (bin_run fun c a d I h1 h3 h4 K hK => ?_)
    have ok := I.ok
    refine JX.cons (JR.ifF ?_)
    repeat' (first | walk_at "jb" | ((with_reducible refine J.b ok (x := Str.ofString "int") ?hx (lb_int w) ?_); (case hx => exact ⟨by kernel_rfl, by kernel_rfl⟩)) | with_reducible refine J.tnot ?_ | ((with_reducible refine' J.isi1 ok kitx_int ?e ?n ?_); (case e => kit_is); (case n => exact fun q => nomatch q)) | ((with_reducible refine J.tplain ?_ ?he); (case he => exact rfl)))
    refine ⟨rfl, JR.nil ⟨rfl, ?_⟩⟩
    refine JX.cons (JR.ifF (J.tor ?_))
    repeat' (first | walk_at "jb" | ((with_reducible refine J.int ?_); intro _) | with_reducible refine J.ge ?_)
    refine ⟨by simp; omega, J.tor ?_⟩
    repeat' (first | walk_at "jb" | ((with_reducible refine J.int ?_); intro _) | with_reducible refine J.ltI ?_)
    refine ⟨by simp; omega, ?_⟩
    repeat' (with_reducible refine J.tornil ?_)
    refine ⟨rfl, JR.nil ⟨rfl, ?_⟩⟩
    refine JX.cons (JR.ofJ (J.setI I inv0 h1 (set_bin w _ (by kernel_rfl)) ⟨by kernel_rfl, by kernel_rfl⟩ rfl rfl (fun _ _ => Nat.le_of_ble_eq_true rfl) (fun _ _ => rfl) ?_))
    repeat' (first | walk_at "jb" | ((with_reducible refine J.b ok (x := Str.ofString "bytes") ?hx (lb_bytes w) ?_); (case hx => exact ⟨by kernel_rfl, by kernel_rfl⟩)) | ((with_reducible refine J.callT ?_ ?he ?hr); (case he | hr => exact rfl)) | with_reducible refine J.bytesB ?_)
    refine ⟨fun _ h => h, fun u2 tl S => ⟨rfl, ?_⟩⟩
    refine JX.cons (JR.ofJ (J.setI I S h1 (set_bin w _ (by kernel_rfl)) ⟨by kernel_rfl, by kernel_rfl⟩ rfl rfl (fun _ _ => Nat.le_of_ble_eq_true rfl) (fun _ _ => rfl) ?_))
    repeat' walk_at "jb"
    exact ⟨fun _ h => h, fun u4 tl S => ⟨rfl, JX.nil ⟨rfl, _, all_cons S.hi (all_cons S.hd S.hn), hK a d _ u2 _ u4 I.hd I.hdx⟩⟩⟩))
theorem new_int64 (w : World) (news : Led) (t : Tok) (k : Int) :
    CallC w 344 [.int k t] [] news (fun K => ∀ x d u1 u2, (∀ p ∈ news, p.1 < d) → d < x → K ((x, instObj 344 d) :: (d, dictOf [⟨PyData.keyHash w.params (Str.ofString "value"), .str (Str.ofString "value") u2, .int k u1⟩] 1) :: news) (.ref x)) := Mine.into (by exact Mine.thru : Mine.Thru _ (by
    refine .ofX (int64_run fun c a d I h1 h3 K hK => ?_)
    have ok := I.ok
    refine JX.cons (JR.ofJ (J.setI I inv0 h1 (set_int64 w _ (by kernel_rfl)) ⟨by kernel_rfl, by kernel_rfl⟩ rfl rfl (fun _ _ => Nat.le_of_ble_eq_true rfl) (fun _ _ => rfl) ?_))
    repeat' walk_at "jb"
    exact ⟨fun _ h => h, fun u2 tl S => ⟨rfl, JX.nil ⟨rfl, _, all_cons S.hi (all_cons S.hd S.hn), hK a d _ u2 I.hd I.hdx⟩⟩⟩))
theorem new_date (w : World) (news : Led) (t : Tok) (k : Int) (h0 : -9223372036854775808 ≤ k) (h1 : k ≤ 9223372036854775808 - 1) :
    CallC w 201 [.int k t] [] news (fun K => ∀ x d t1, (∀ p ∈ news, p.1 < d) → d < x → K ((x, instObj 201 d) :: (d, dateD w k t t1) :: news) (.ref x)) := Mine.into (by exact Mine.thru : Mine.Thru _ (by
    refine .ofX (date_run fun c a d I hs h3 K hK => ?_)
    have ok := I.ok
    refine JX.cons (JR.ifT ?_)
    repeat' (first | walk_at "jb" | ((with_reducible refine J.b ok (x := Str.ofString "int") ?hx (lb_int w) ?_); (case hx => exact ⟨by kernel_rfl, by kernel_rfl⟩)) | ((with_reducible refine' J.isi1 ok kitx_int ?e ?n ?_); (case e => kit_is); (case n => exact fun q => nomatch q)) | ((with_reducible refine J.tplain ?_ ?he); (case he => exact rfl)))
    refine ⟨rfl, JR.cons (JR.ifF (J.tnot (J.chain2T ?_ rfl)))⟩
    repeat' (first | walk_at "jb" | ((with_reducible refine J.int ?_); intro _) | with_reducible refine J.bin ?_ | with_reducible refine J.un ?_ | ((with_reducible refine J.neg ?_); intro _) | ((with_reducible refine J.pow63 ?_); intro _) | with_reducible refine J.le ?_)
    refine ⟨decide_eq_true h0, ?_⟩
    repeat' (first | walk_at "jb" | ((with_reducible refine J.int ?_); intro _) | with_reducible refine J.bin ?_ | ((with_reducible refine J.pow63 ?_); intro _) | ((with_reducible refine J.sub' ?_); intro _) | with_reducible refine J.le ?_)
    refine ⟨by rw [decide_eq_true h1]; rfl, JR.nil ⟨rfl, ?_⟩⟩
    refine JR.cons (JR.ofJ (J.setI I inv0 hs (set_date w _ (by kernel_rfl)) ⟨by kernel_rfl, by kernel_rfl⟩ rfl rfl (fun _ _ => Nat.le_of_ble_eq_true rfl) (fun _ _ => rfl) ?_))
    repeat' walk_at "jb"
    exact ⟨fun _ h => h, fun u2 tl S => ⟨rfl, JR.nil ⟨rfl, JX.nil ⟨rfl, _, all_cons S.hi (all_cons S.hd S.hn), hK a d u2 I.hd I.hdx⟩⟩⟩⟩))
theorem new_regex_i (w : World) (news : Led) (t t1 : Tok) (z : PySem.Str) (k : Int) :
    CallC w 626 [.str z t, .int k t1] [] news (fun K => ∀ x d u1 u2 u3 u4, (∀ p ∈ news, p.1 < d) → d < x → K ((x, instObj 626 d) :: (d, dictOf [⟨PyData.keyHash w.params (Str.ofString "pattern"), .str (Str.ofString "pattern") u2, .str z u1⟩, ⟨PyData.keyHash w.params (Str.ofString "flags"), .str (Str.ofString "flags") u4, .int k u3⟩] 2) :: news) (.ref x)) := Mine.into (by exact Mine.thru : Mine.Thru _ (by
    refine .ofX (regex_run fun c a d I h1 h3 h4 K hK => ?_)
    have ok := I.ok
    refine JX.cons (JR.ifF ?_)
    repeat' (first | walk_at "jb" | ((with_reducible refine J.b ok (x := Str.ofString "str") ?hx (lb_str w) ?_); (case hx => exact ⟨by kernel_rfl, by kernel_rfl⟩)) | ((with_reducible refine J.b ok (x := Str.ofString "bytes") ?hx (lb_bytes w) ?_); (case hx => exact ⟨by kernel_rfl, by kernel_rfl⟩)) | with_reducible refine J.tuple ?_ | ((with_reducible refine NewK.intro ?hz ?_); (case hz => exact Nat.le_of_ble_eq_true rfl); intros) | with_reducible refine J.tnot ?_ | ((with_reducible refine' J.isiT ok kitx_str ?mq ?e ?n ?_); (case mq => with_reducible assumption); (case e => kit_is); (case n => exact fun q => nomatch q)) | ((with_reducible refine J.tplain ?_ ?he); (case he => exact rfl)))
    refine ⟨rfl, JR.nil ⟨rfl, ?_⟩⟩
    have S := (inv0 (C := 626) (o := a) (d := d) (es := []) (n := 0) (news := news)).sub (by with_reducible assumption : ∀ p ∈ (a, _) :: _, p ∈ _)
    refine JX.cons (JR.ofJ (J.setI I S h1 (set_regex w _ (by kernel_rfl)) ⟨by kernel_rfl, by kernel_rfl⟩ rfl rfl (fun _ _ => Nat.le_of_ble_eq_true rfl) (fun _ _ => rfl) ?_))
    repeat' walk_at "jb"
    refine ⟨fun _ h => h, fun u2 tl S => ⟨rfl, ?_⟩⟩
    refine JX.cons (JR.ifF ?_)
    repeat' (first | walk_at "jb" | ((with_reducible refine J.b ok (x := Str.ofString "str") ?hx (lb_str w) ?_); (case hx => exact ⟨by kernel_rfl, by kernel_rfl⟩)) | ((with_reducible refine' J.isi1 ok kitx_int ?e ?n ?_); (case e => kit_is); (case n => exact fun q => nomatch q)) | ((with_reducible refine J.tplain ?_ ?he); (case he => exact rfl)))
    refine ⟨rfl, JR.cons (JR.ifT ?_)⟩
    repeat' (first | walk_at "jb" | ((with_reducible refine J.b ok (x := Str.ofString "int") ?hx (lb_int w) ?_); (case hx => exact ⟨by kernel_rfl, by kernel_rfl⟩)) | ((with_reducible refine' J.isi1 ok kitx_int ?e ?n ?_); (case e => kit_is); (case n => exact fun q => nomatch q)) | ((with_reducible refine J.tplain ?_ ?he); (case he => exact rfl)))
    refine ⟨rfl, JR.cons (JR.ofJ (J.setI I S h1 (set_regex w _ (by kernel_rfl)) ⟨by kernel_rfl, by kernel_rfl⟩ rfl rfl (fun _ _ => Nat.le_of_ble_eq_true rfl) (fun _ _ => rfl) ?_))⟩
    repeat' walk_at "jb"
    exact ⟨fun _ h => h, fun u4 tl S => ⟨rfl, JR.nil ⟨rfl, JR.nil ⟨rfl, JX.nil ⟨rfl, _, all_cons S.hi (all_cons S.hd S.hn), hK a d _ u2 _ u4 I.hd I.hdx⟩⟩⟩⟩⟩))
theorem new_regex_0 (w : World) (news : Led) (t : Tok) (z : PySem.Str) :
    CallC w 626 [.str z t] [] news (fun K => ∀ x d u1 u2 u3 u4, (∀ p ∈ news, p.1 < d) → d < x → K ((x, instObj 626 d) :: (d, dictOf [⟨PyData.keyHash w.params (Str.ofString "pattern"), .str (Str.ofString "pattern") u2, .str z u1⟩, ⟨PyData.keyHash w.params (Str.ofString "flags"), .str (Str.ofString "flags") u4, .int 0 u3⟩] 2) :: news) (.ref x)) := Mine.into (by exact Mine.thru : Mine.Thru _ (by
    refine .ofX (regex_run1 fun c a d I h1 h3 h4 K hK => ?_)
    have ok := I.ok
    obtain ⟨t0, h4⟩ := h4
    refine JX.cons (JR.ifF ?_)
    repeat' (first | walk_at "jb" | ((with_reducible refine J.b ok (x := Str.ofString "str") ?hx (lb_str w) ?_); (case hx => exact ⟨by kernel_rfl, by kernel_rfl⟩)) | ((with_reducible refine J.b ok (x := Str.ofString "bytes") ?hx (lb_bytes w) ?_); (case hx => exact ⟨by kernel_rfl, by kernel_rfl⟩)) | with_reducible refine J.tuple ?_ | ((with_reducible refine NewK.intro ?hz ?_); (case hz => exact Nat.le_of_ble_eq_true rfl); intros) | with_reducible refine J.tnot ?_ | ((with_reducible refine' J.isiT ok kitx_str ?mq ?e ?n ?_); (case mq => with_reducible assumption); (case e => kit_is); (case n => exact fun q => nomatch q)) | ((with_reducible refine J.tplain ?_ ?he); (case he => exact rfl)))
    refine ⟨rfl, JR.nil ⟨rfl, ?_⟩⟩
    have S := (inv0 (C := 626) (o := a) (d := d) (es := []) (n := 0) (news := news)).sub (by with_reducible assumption : ∀ p ∈ (a, _) :: _, p ∈ _)
    refine JX.cons (JR.ofJ (J.setI I S h1 (set_regex w _ (by kernel_rfl)) ⟨by kernel_rfl, by kernel_rfl⟩ rfl rfl (fun _ _ => Nat.le_of_ble_eq_true rfl) (fun _ _ => rfl) ?_))
    repeat' walk_at "jb"
    refine ⟨fun _ h => h, fun u2 tl S => ⟨rfl, ?_⟩⟩
    refine JX.cons (JR.ifF ?_)
    repeat' (first | walk_at "jb" | ((with_reducible refine J.b ok (x := Str.ofString "str") ?hx (lb_str w) ?_); (case hx => exact ⟨by kernel_rfl, by kernel_rfl⟩)) | ((with_reducible refine' J.isi1 ok kitx_int ?e ?n ?_); (case e => kit_is); (case n => exact fun q => nomatch q)) | ((with_reducible refine J.tplain ?_ ?he); (case he => exact rfl)))
    refine ⟨rfl, JR.cons (JR.ifT ?_)⟩
    repeat' (first | walk_at "jb" | ((with_reducible refine J.b ok (x := Str.ofString "int") ?hx (lb_int w) ?_); (case hx => exact ⟨by kernel_rfl, by kernel_rfl⟩)) | ((with_reducible refine' J.isi1 ok kitx_int ?e ?n ?_); (case e => kit_is); (case n => exact fun q => nomatch q)) | ((with_reducible refine J.tplain ?_ ?he); (case he => exact rfl)))
    refine ⟨rfl, JR.cons (JR.ofJ (J.setI I S h1 (set_regex w _ (by kernel_rfl)) ⟨by kernel_rfl, by kernel_rfl⟩ rfl rfl (fun _ _ => Nat.le_of_ble_eq_true rfl) (fun _ _ => rfl) ?_))⟩
    repeat' walk_at "jb"
    exact ⟨fun _ h => h, fun u4 tl S => ⟨rfl, JR.nil ⟨rfl, JR.nil ⟨rfl, JX.nil ⟨rfl, _, all_cons S.hi (all_cons S.hd S.hn), hK a d _ u2 _ u4 I.hd I.hdx⟩⟩⟩⟩⟩))
theorem new_regex_b (w : World) (news : Led) (row : Array UInt8) (t t1 : Tok) (k : Int) :
    CallC w 626 [.bytes row t, .int k t1] [] news (fun K => ∀ x d u1 u2 u3 u4, (∀ p ∈ news, p.1 < d) → d < x → K ((x, instObj 626 d) :: (d, dictOf [⟨PyData.keyHash w.params (Str.ofString "pattern"), .str (Str.ofString "pattern") u2, .bytes row u1⟩, ⟨PyData.keyHash w.params (Str.ofString "flags"), .str (Str.ofString "flags") u4, .int k u3⟩] 2) :: news) (.ref x)) := Mine.into (by exact Mine.thru : Mine.Thru _ (by
    refine .ofX (regex_run fun c a d I h1 h3 h4 K hK => ?_)
    have ok := I.ok
    refine JX.cons (JR.ifF ?_)
    repeat' (first | walk_at "jb" | ((with_reducible refine J.b ok (x := Str.ofString "str") ?hx (lb_str w) ?_); (case hx => exact ⟨by kernel_rfl, by kernel_rfl⟩)) | ((with_reducible refine J.b ok (x := Str.ofString "bytes") ?hx (lb_bytes w) ?_); (case hx => exact ⟨by kernel_rfl, by kernel_rfl⟩)) | with_reducible refine J.tuple ?_ | ((with_reducible refine NewK.intro ?hz ?_); (case hz => exact Nat.le_of_ble_eq_true rfl); intros) | with_reducible refine J.tnot ?_ | ((with_reducible refine' J.isiT ok kitx_bytes ?mq ?e ?n ?_); (case mq => with_reducible assumption); (case e => kit_is); (case n => exact fun q => nomatch q)) | ((with_reducible refine J.tplain ?_ ?he); (case he => exact rfl)))
    refine ⟨rfl, JR.nil ⟨rfl, ?_⟩⟩
    have S := (inv0 (C := 626) (o := a) (d := d) (es := []) (n := 0) (news := news)).sub (by with_reducible assumption : ∀ p ∈ (a, _) :: _, p ∈ _)
    refine JX.cons (JR.ofJ (J.setI I S h1 (set_regex w _ (by kernel_rfl)) ⟨by kernel_rfl, by kernel_rfl⟩ rfl rfl (fun _ _ => Nat.le_of_ble_eq_true rfl) (fun _ _ => rfl) ?_))
    repeat' walk_at "jb"
    refine ⟨fun _ h => h, fun u2 tl S => ⟨rfl, ?_⟩⟩
    refine JX.cons (JR.ifF ?_)
    repeat' (first | walk_at "jb" | ((with_reducible refine J.b ok (x := Str.ofString "str") ?hx (lb_str w) ?_); (case hx => exact ⟨by kernel_rfl, by kernel_rfl⟩)) | ((with_reducible refine' J.isi1 ok kitx_int ?e ?n ?_); (case e => kit_is); (case n => exact fun q => nomatch q)) | ((with_reducible refine J.tplain ?_ ?he); (case he => exact rfl)))
    refine ⟨rfl, JR.cons (JR.ifT ?_)⟩
    repeat' (first | walk_at "jb" | ((with_reducible refine J.b ok (x := Str.ofString "int") ?hx (lb_int w) ?_); (case hx => exact ⟨by kernel_rfl, by kernel_rfl⟩)) | ((with_reducible refine' J.isi1 ok kitx_int ?e ?n ?_); (case e => kit_is); (case n => exact fun q => nomatch q)) | ((with_reducible refine J.tplain ?_ ?he); (case he => exact rfl)))
    refine ⟨rfl, JR.cons (JR.ofJ (J.setI I S h1 (set_regex w _ (by kernel_rfl)) ⟨by kernel_rfl, by kernel_rfl⟩ rfl rfl (fun _ _ => Nat.le_of_ble_eq_true rfl) (fun _ _ => rfl) ?_))⟩
    repeat' walk_at "jb"
    exact ⟨fun _ h => h, fun u4 tl S => ⟨rfl, JR.nil ⟨rfl, JR.nil ⟨rfl, JX.nil ⟨rfl, _, all_cons S.hi (all_cons S.hd S.hn), hK a d _ u2 _ u4 I.hd I.hdx⟩⟩⟩⟩⟩))
theorem new_code_s (w : World) (news : Led) (t : Tok) (z : PySem.Str) :
    CallC w 61 [.str z t] [] news (fun K => ∀ x d u1 u2 u4, (∀ p ∈ news, p.1 < d) → d < x → K ((x, instObj 61 d) :: (d, dictOf [⟨PyData.keyHash w.params (Str.ofString "text"), .str (Str.ofString "text") u2, .str z u1⟩, ⟨PyData.keyHash w.params (Str.ofString "_scope"), .str (Str.ofString "_scope") u4, .none⟩] 2) :: news) (.ref x)) := by
  refine .ofX (code_run1 fun c a d D o I hD h1 h2 h3 h4 K hK => code_pre_str I hD.hx h1 h2 fun tl u1 u2 S => code_s3_none I h3 (code_s4_empty I h4 ⟨S.hn _ (.head _), hD.lo, hD.hd, hD.hf⟩ ⟨rfl, _, all_cons S.hi (all_cons S.hd fun p hp => S.hn p (.tail _ hp)), hK a d _ u1 u2 I.hd I.hdx⟩))
theorem new_code_sd (w : World) (news : Led) (d0 : Addr) (o0 : Obj) (kv0 : List (PySem.Str × Value)) (c0 : List (PySem.Str × Int)) (lo0 : (d0 == sysModules) = false) (hd0 : o0.IsDictOf (strK w) kv0) (hf0 : FlatPairs PyData.str kv0 (kdpD c0)) (t : Tok) (z : PySem.Str) :
    CallC w 61 [.str z t, .ref d0] [] ((d0, o0) :: news) (fun K => ∀ x d u1 u2 u4, (∀ p ∈ (d0, o0) :: news, p.1 < d) → d < x → K ((x, instObj 61 d) :: (d, dictOf [⟨PyData.keyHash w.params (Str.ofString "text"), .str (Str.ofString "text") u2, .str z u1⟩, ⟨PyData.keyHash w.params (Str.ofString "_scope"), .str (Str.ofString "_scope") u4, .ref d0⟩] 2) :: (d0, o0) :: news) (.ref x)) := by
  refine .ofX (code_run fun c a d D o I hD h1 h2 h3 h4 K hK => code_pre_str I hD.hx h1 h2 fun tl u1 u2 S => code_s3_set I (all_cons (Nat.ne_of_gt (Nat.lt_trans I.hdx hD.hx)) fun p hp => Nat.ne_of_lt (I.hd p hp)) S h1 h3 ⟨S.hn _ (.tail _ (.head _)), lo0, hd0, hf0⟩ fun tl S => code_s4_empty I h4 ⟨S.hn _ (.head _), hD.lo, hD.hd, hD.hf⟩ ⟨rfl, _, all_cons S.hi (all_cons S.hd fun p hp => S.hn p (.tail _ hp)), hK a d _ u1 u2 I.hd I.hdx⟩)
theorem new_code_kw (w : World) (news : Led) (z : PySem.Str) (k : Int) (t t1 : Tok) :
    CallC w 61 [.str z t] [(Str.ofString "a", .int k t1)] news (fun K => ∀ x d kd okd kvd u1 u2 u4, (∀ p ∈ news, p.1 < d) → @LT.lt Nat _ d x → @LT.lt Nat _ x kd → (kd == sysModules) = false → okd.IsDictOf (strK w) kvd → FlatPairs PyData.str kvd (kdpD [(Str.ofString "a", k)]) → K ((x, instObj 61 d) :: (d, dictOf [⟨PyData.keyHash w.params (Str.ofString "text"), .str (Str.ofString "text") u2, .str z u1⟩, ⟨PyData.keyHash w.params (Str.ofString "_scope"), .str (Str.ofString "_scope") u4, .ref kd⟩] 2) :: (kd, okd) :: news) (.ref x)) := by
  refine .ofX (code_run1a fun c a d D o I hD h1 h2 h3 h4 K hK => code_pre_str I hD.hx h1 h2 fun tl u1 u2 S => code_s3_none I h3 (code_s4_set I (all_cons (Nat.ne_of_gt (Nat.lt_trans I.hdx hD.hx)) fun p hp => Nat.ne_of_lt (I.hd p hp)) S h1 h4 ⟨S.hn _ (.head _), hD.lo, hD.hd, hD.hf⟩ fun tl S => ⟨rfl, _, all_cons S.hi (all_cons S.hd (all_cons (S.hn _ (.head _)) fun p hp => S.hn p (.tail _ hp))), hK a d D o _ _ u1 u2 I.hd I.hdx hD.hx hD.lo hD.hd hD.hf⟩))
theorem new_code_c (w : World) (news : Led) (x0 e0 : Addr) (z : PySem.Str) (s1 s2 s3 : Tok) :
    CallC w 61 [.ref x0] [] ((x0, instObj 61 e0) :: (e0, dictOf [⟨PyData.keyHash w.params (Str.ofString "text"), .str (Str.ofString "text") s2, .str z s1⟩, ⟨PyData.keyHash w.params (Str.ofString "_scope"), .str (Str.ofString "_scope") s3, .none⟩] 2) :: news) (fun K => ∀ x d u1 u2 u4, (∀ p ∈ news, p.1 < d) → @LT.lt Nat _ d x → K ((x, instObj 61 d) :: (d, dictOf [⟨PyData.keyHash w.params (Str.ofString "text"), .str (Str.ofString "text") u2, .str z u1⟩, ⟨PyData.keyHash w.params (Str.ofString "_scope"), .str (Str.ofString "_scope") u4, .none⟩] 2) :: news) (.ref x)) := by
  refine .ofX (code_run1 fun c a d D o I hD h1 h2 h3 h4 K hK => code_pre_code I hD.hx h1 h2 (.head _) (.tail _ (.head _)) rfl rfl rfl rfl fun tl u1 u2 S => code_s3_none I h3 (code_s4_empty I h4 ⟨S.hn _ (.head _), hD.lo, hD.hd, hD.hf⟩ ⟨rfl, _, all_cons S.hi (all_cons S.hd fun p hp => S.hn p (.tail _ (.tail _ (.tail _ hp)))), hK a d _ u1 u2 (fun p hp => I.hd p (.tail _ (.tail _ hp))) I.hdx⟩))
theorem new_code_ck (w : World) (news : Led) (x0 e0 : Addr) (z : PySem.Str) (k : Int) (t1 s1 s2 s3 : Tok) :
    CallC w 61 [.ref x0] [(Str.ofString "a", .int k t1)] ((x0, instObj 61 e0) :: (e0, dictOf [⟨PyData.keyHash w.params (Str.ofString "text"), .str (Str.ofString "text") s2, .str z s1⟩, ⟨PyData.keyHash w.params (Str.ofString "_scope"), .str (Str.ofString "_scope") s3, .none⟩] 2) :: news) (fun K => ∀ x d kd okd kvd u1 u2 u4, (∀ p ∈ news, p.1 < d) → @LT.lt Nat _ d x → @LT.lt Nat _ x kd → (kd == sysModules) = false → okd.IsDictOf (strK w) kvd → FlatPairs PyData.str kvd (kdpD [(Str.ofString "a", k)]) → K ((x, instObj 61 d) :: (d, dictOf [⟨PyData.keyHash w.params (Str.ofString "text"), .str (Str.ofString "text") u2, .str z u1⟩, ⟨PyData.keyHash w.params (Str.ofString "_scope"), .str (Str.ofString "_scope") u4, .ref kd⟩] 2) :: (kd, okd) :: news) (.ref x)) := by
  refine .ofX (code_run1a fun c a d D o I hD h1 h2 h3 h4 K hK => code_pre_code I hD.hx h1 h2 (.head _) (.tail _ (.head _)) rfl rfl rfl rfl fun tl u1 u2 S => code_s3_none I h3 (code_s4_set I (all_cons (Nat.ne_of_gt (Nat.lt_trans I.hdx hD.hx)) fun p hp => Nat.ne_of_lt (I.hd p hp)) S h1 h4 ⟨S.hn _ (.head _), hD.lo, hD.hd, hD.hf⟩ fun tl S => ⟨rfl, _, all_cons S.hi (all_cons S.hd (all_cons (S.hn _ (.head _)) fun p hp => S.hn p (.tail _ (.tail _ (.tail _ hp))))), hK a d D o _ _ u1 u2 (fun p hp => I.hd p (.tail _ (.tail _ hp))) I.hdx hD.hx hD.lo hD.hd hD.hf⟩))
theorem new_code_cdk (w : World) (news : Led) (x0 e0 k0 k2 : Addr) (o0 o2 : Obj) (kv0 kv2 : List (PySem.Str × Value)) (c0 c2 : List (PySem.Str × Int)) (z : PySem.Str) (k : Int) (t1 s1 s2 s3 : Tok) (hne : @LT.lt Nat _ k0 k2) (hxk : @LT.lt Nat _ k0 e0 ∧ @LT.lt Nat _ e0 x0 ∧ @LT.lt Nat _ x0 k2) (lo0 : (k0 == sysModules) = false) (lo2 : (k2 == sysModules) = false) (hd0 : o0.IsDictOf (strK w) kv0) (hd2 : o2.IsDictOf (strK w) kv2) (hf0 : FlatPairs PyData.str kv0 (kdpD c0)) (hf2 : FlatPairs PyData.str kv2 (kdpD c2)) (hl0 : c0.length ≤ 4) (hl2 : c2.length ≤ 4) (hall : AllLt k0 news) :
    CallC w 61 [.ref x0, .ref k2] [(Str.ofString "b", .int k t1)] ((x0, instObj 61 e0) :: (e0, dictOf [⟨PyData.keyHash w.params (Str.ofString "text"), .str (Str.ofString "text") s2, .str z s1⟩, ⟨PyData.keyHash w.params (Str.ofString "_scope"), .str (Str.ofString "_scope") s3, .ref k0⟩] 2) :: (k2, o2) :: (k0, o0) :: news) (fun K => ∀ x d o' kv' u1 u2 u4, (∀ p ∈ (x0, instObj 61 e0) :: (e0, dictOf [⟨PyData.keyHash w.params (Str.ofString "text"), .str (Str.ofString "text") s2, .str z s1⟩, ⟨PyData.keyHash w.params (Str.ofString "_scope"), .str (Str.ofString "_scope") s3, .ref k0⟩] 2) :: (k2, o2) :: (k0, o0) :: news, p.1 < d) → @LT.lt Nat _ d x → o'.IsDictOf (strK w) kv' → FlatPairs PyData.str kv' (kdpD (putAll (putAll c0 c2) [(Str.ofString "b", k)])) → K ((x, instObj 61 d) :: (d, dictOf [⟨PyData.keyHash w.params (Str.ofString "text"), .str (Str.ofString "text") u2, .str z u1⟩, ⟨PyData.keyHash w.params (Str.ofString "_scope"), .str (Str.ofString "_scope") u4, .ref k0⟩] 2) :: (k0, o') :: news) (.ref x)) := by
  refine .ofX (code_run2b fun c a d D o I hD h1 h2 h3 h4 K hK => code_pre_code I hD.hx h1 h2 (.head _) (.tail _ (.head _)) rfl rfl rfl rfl fun tl u1 u2 S => ?_)
  have l0 : @LT.lt Nat _ k0 d := I.hd _ (.tail _ (.tail _ (.tail _ (.head _))))
  have l1 : @LT.lt Nat _ k0 a := Nat.lt_trans l0 I.hdx
  have l2 : @LT.lt Nat _ k0 D := Nat.lt_trans l1 hD.hx
  have S' : Inv 61 a d (codeE w _ _ u1 u2) 2 ((D, o) :: news) tl := ⟨S.hi, S.hd, all_cons (S.hn _ (.head _)) fun p hp => S.hn p (.tail _ (.tail _ (.tail _ (.tail _ (.tail _ hp)))))⟩
  have h0 : ∀ p ∈ (D, o) :: news, p.1 ≠ k0 := all_cons (Nat.ne_of_gt l2) fun p hp => Nat.ne_of_lt (allLt_to hall p hp)
  refine code_s3_upd I S' h1 h3 ⟨S.hn _ (.tail _ (.tail _ (.tail _ (.tail _ (.head _))))), lo0, hd0, hf0⟩ ⟨S.hn _ (.tail _ (.tail _ (.tail _ (.head _)))), lo2, hd2, hf2⟩ (Nat.ne_of_lt hne) (by omega) (by omega) (Nat.ne_of_lt l1) (Nat.ne_of_lt l0) h0 fun tl o1 kv1 S H0 => ?_
  refine code_s4_upd I S h1 h4 H0 ⟨S.hn _ (.head _), hD.lo, hD.hd, hD.hf⟩ (Nat.ne_of_lt l2) ?_ (Nat.ne_of_lt l1) (Nat.ne_of_lt l0) h0 fun tl o2 kv2 S H => ⟨rfl, _, all_cons S.hi (all_cons S.hd (all_cons H.m fun p hp => S.hn p (.tail _ hp))), hK a d o2 kv2 _ u1 u2 I.hd I.hdx H.hd H.hf⟩
  exact Nat.le_trans (putAll_len _ _) (by omega)
theorem code_bad_l (w : World) (news : Led) (x : PySem.Str) (t1 : Tok) (l : Addr) (its : Array Value) (n : Nat) : CallX w 61 [.str x t1, .ref l] [] ((l, W.listOf its n) :: news) (fun _ => True) (· = "TypeError") := Mine.into (by exact Mine.thru : Mine.Thru _ (by
    refine code_run fun c a d D o I hD h1 h2 h3 h4 K _ => code_pre_str I hD.hx h1 h2 fun tl u1 u2 S => ?_
    have ok := I.ok
    refine JX.cons (JR.ifT ?_)
    repeat' (first | walk_at "jb" | with_reducible refine J.none ?_ | with_reducible refine J.isnot ?_)
    refine ⟨rfl, JR.cons (JR.ifT ?_)⟩
    repeat' (first | walk_at "jb" | ((with_reducible refine J.b ok (x := Str.ofString "dict") ?hx (lb_dict w) ?_); (case hx => exact ⟨by kernel_rfl, by kernel_rfl⟩)) | with_reducible refine J.tnot ?_ | ((with_reducible refine J.tplain ?_ ?he); (case he => exact rfl)))
    refine J.isi1N ok kitx_list (fun _ N => kitAt_N N (S.hn _ (.tail _ (.head _))) rfl) (by kit_is) (fun q => nomatch q) ?_
    repeat' walk_at "jb"
    refine ⟨rfl, ?_⟩
    refine JR.cons (JR.raise ok PySem.F.excCall_TypeError PySem.F.excRaise_TypeError ⟨by kernel_rfl, by kernel_rfl⟩ (lb_TypeError w) ?_ rfl)
    repeat' (first | walk_at "jb" | ((with_reducible refine J.str ?_); intro _))
    exact ⟨Nat.le_of_ble_eq_true rfl, rfl, fun p hp => S.hn p (.tail _ hp)⟩))
end Mine

end
-- CJ5
section
open PySem PySem.Calls PySem.W PyProof.Rows PyProof.V PySem.Spec
namespace Mine
set_option maxRecDepth 100000
theorem filled17 (w : World) : Filled PySem.Challenge.rw_jh0019_01.row.prog (hd.heap_1 w.params) := by
  k_fill
  exact trivial
theorem CallC.cls0 {w : World} {f : Addr} {news : Led} (hm : makesIn (hd.heap_1 w.params) f = true) (hi : findIn (hd.heap_1 w.params) (.ref f) "__init__" = some (some (.builtin "object.__init__"))) :
    CallC w f [] [] news (fun K => ∀ x d, (∀ p ∈ news, p.1 < d) → d < x → K ((x, instObj f d) :: (d, dictOf [] 0) :: news) (.ref x)) :=
  fun mean mg mb dp un gd cn cs a ccd cl outer A₀ base h₀ L m s Q E B F X N T hk hd hu hret => call_cls0 F X N hm hi fun x d h1 F1 N1 l1 l2 => hret x d l1 l2 h1 s.toks F1 N1
theorem new_minkey (w : World) (news : Led)  :
    CallC w 470 [] [] news (fun K => ∀ x d, (∀ p ∈ news, p.1 < d) → d < x → K ((x, instObj 470 d) :: (d, dictOf [] 0) :: news) (.ref x)) := .cls0 (by k_is) (by k_is)
theorem new_maxkey (w : World) (news : Led)  :
    CallC w 407 [] [] news (fun K => ∀ x d, (∀ p ∈ news, p.1 < d) → d < x → K ((x, instObj 407 d) :: (d, dictOf [] 0) :: news) (.ref x)) := .cls0 (by k_is) (by k_is)
theorem set_objid (w : World) (x : PySem.Str) (hx : takerIn (hd.heap_1 w.params) 583 x = some none) : SetOk w 583 x := ⟨by kernel_rfl, by kernel_rfl, hx, by kernel_rfl⟩
theorem set_stamp (w : World) (x : PySem.Str) (hx : takerIn (hd.heap_1 w.params) 705 x = some none) : SetOk w 705 x := ⟨by kernel_rfl, by kernel_rfl, hx, by kernel_rfl⟩
theorem J.lenB {w : World} {c : Cx w} {news : Led} {b : Array UInt8} {t : Tok} {n : Int} {K : Led → Value → Prop} (hz : b.size ≤ 1000) (hn : (b.size : Int) = n) (h : ∀ t, K news (.int n t)) : J c (call (.builtin "len") [.bytes b t]) news K :=
  fun s _ _ F N q => PySem.W.len_bytes (by omega) (by rw [hn]; exact q _ _ s.heap _ (h _) F N)
theorem J.eqI5 {w : World} {c : Cx w} {news : Led} {x y : Int} {t u : Tok} {K : Led → Value → Prop} (h : K news (.bool (x == y))) : J c (compareOp .Eq (.int x t) (.int y u)) news K := fun s _ _ F N q => eq_int (q _ _ s.heap s.toks h F N)
theorem new_objid (w : World) (news : Led) (t : Tok) :
    CallC w 583 [.bytes (Array.replicate 12 0) t] [] news (fun K => ∀ x d u1 u2, (∀ p ∈ news, p.1 < d) → d < x → K ((x, instObj 583 d) :: (d, dictOf [⟨PyData.keyHash w.params (Str.ofString "_id"), .str (Str.ofString "_id") u2, .bytes (Array.replicate 12 0) u1⟩] 1) :: news) (.ref x)) := Mine.into (by exact Mine.thru : Mine.Thru _ (by
    refine .ofX (objid_run fun c a d I h1 h3 K hK => ?_)
    have ok := I.ok
    refine JX.cons (JR.ifT (J.tandT ?_))
    repeat' (first | walk_at "jb" | ((with_reducible refine J.b ok (x := Str.ofString "bytes") ?hx (lb_bytes w) ?_); (case hx => exact ⟨by kernel_rfl, by kernel_rfl⟩)) | ((with_reducible refine' J.isi1 ok kitx_bytes ?e ?n ?_); (case e => kit_is); (case n => exact fun q => nomatch q)) | ((with_reducible refine J.tplain ?_ ?he); (case he => exact rfl)))
    refine ⟨rfl, J.tandT ?_⟩
    repeat' (first | walk_at "jb" | ((with_reducible refine J.int ?_); intro _) | ((with_reducible refine J.b ok (x := Str.ofString "len") ?hx (lb_len w) ?_); (case hx => exact ⟨by kernel_rfl, by kernel_rfl⟩)) | ((with_reducible refine J.lenB (n := 12) ?_ ?_ ?_); (case refine_1 => exact Nat.le_of_ble_eq_true rfl); (case refine_2 => rfl); intro _) | with_reducible refine J.eqI5 ?_)
    refine ⟨rfl, ?_⟩
    repeat' (with_reducible refine J.tandnil ?_)
    refine ⟨rfl, JR.cons (JR.ofJ (J.setI I inv0 h1 (set_objid w _ (by kernel_rfl)) ⟨by kernel_rfl, by kernel_rfl⟩ rfl rfl (fun _ _ => Nat.le_of_ble_eq_true rfl) (fun _ _ => rfl) ?_))⟩
    repeat' walk_at "jb"
    exact ⟨fun _ h => h, fun u2 tl S => ⟨rfl, JR.nil ⟨rfl, JX.nil ⟨rfl, _, all_cons S.hi (all_cons S.hd S.hn), hK a d _ u2 I.hd I.hdx⟩⟩⟩⟩))
theorem lg_UPPER (w : World) : ∃ t, LG w (Str.ofString "UPPERBOUND") (.int 4294967296 t) := ⟨_, (by k_is : nsIn (hd.heap_1 w.params) mainGlobals (Str.ofString "UPPERBOUND") = some (some _))⟩
theorem new_stamp (w : World) (news : Led) (t t1 : Tok) :
    CallC w 705 [.int 5 t, .int 5 t1] [] news (fun K => ∀ x d u1 u2 u3 u4, (∀ p ∈ news, p.1 < d) → d < x → K ((x, instObj 705 d) :: (d, dictOf [⟨PyData.keyHash w.params (Str.ofString "_time"), .str (Str.ofString "_time") u2, .int 5 u1⟩, ⟨PyData.keyHash w.params (Str.ofString "_inc"), .str (Str.ofString "_inc") u4, .int 5 u3⟩] 2) :: news) (.ref x)) := Mine.into (by exact Mine.thru : Mine.Thru _ (by
    refine .ofX (stamp_run fun c a d I h1 h3 h4 K hK => ?_)
    have ok := I.ok
    obtain ⟨tb, hU⟩ := lg_UPPER w
    refine JX.cons (JR.ifF (J.tnot ?_))
    repeat' (first | walk_at "jb" | ((with_reducible refine J.b ok (x := Str.ofString "int") ?hx (lb_int w) ?_); (case hx => exact ⟨by kernel_rfl, by kernel_rfl⟩)) | ((with_reducible refine' J.isi1 ok kitx_int ?e ?n ?_); (case e => kit_is); (case n => exact fun q => nomatch q)) | ((with_reducible refine J.tplain ?_ ?he); (case he => exact rfl)))
    refine ⟨rfl, JR.nil ⟨rfl, ?_⟩⟩
    refine JX.cons (JR.ifF (J.tnot ?_))
    repeat' (first | walk_at "jb" | ((with_reducible refine J.b ok (x := Str.ofString "int") ?hx (lb_int w) ?_); (case hx => exact ⟨by kernel_rfl, by kernel_rfl⟩)) | ((with_reducible refine' J.isi1 ok kitx_int ?e ?n ?_); (case e => kit_is); (case n => exact fun q => nomatch q)) | ((with_reducible refine J.tplain ?_ ?he); (case he => exact rfl)))
    refine ⟨rfl, JR.nil ⟨rfl, ?_⟩⟩
    refine JX.cons (JR.ifF (J.tnot (J.chain2T ?_ rfl)))
    repeat' (first | walk_at "jb" | ((with_reducible refine J.int ?_); intro _) | with_reducible refine J.le ?_)
    refine ⟨by decide, ?_⟩
    repeat' (first | walk_at "jb" | with_reducible refine J.ltI ?_ | ((with_reducible refine J.g ok (x := Str.ofString "UPPERBOUND") ?hx hU ?_); (case hx => exact ⟨by kernel_rfl, by kernel_rfl⟩)))
    refine ⟨by decide, JR.nil ⟨rfl, ?_⟩⟩
    refine JX.cons (JR.ifF (J.tnot (J.chain2T ?_ rfl)))
    repeat' (first | walk_at "jb" | ((with_reducible refine J.int ?_); intro _) | with_reducible refine J.le ?_)
    refine ⟨by decide, ?_⟩
    repeat' (first | walk_at "jb" | with_reducible refine J.ltI ?_ | ((with_reducible refine J.g ok (x := Str.ofString "UPPERBOUND") ?hx hU ?_); (case hx => exact ⟨by kernel_rfl, by kernel_rfl⟩)))
    refine ⟨by decide, JR.nil ⟨rfl, ?_⟩⟩
    refine JX.cons (JR.ofJ (J.setI I (inv0.sub (fun _ p => p)) h1 (set_stamp w _ (by kernel_rfl)) ⟨by kernel_rfl, by kernel_rfl⟩ rfl rfl (fun _ _ => Nat.le_of_ble_eq_true rfl) (fun _ _ => rfl) ?_))
    repeat' walk_at "jb"
    refine ⟨fun _ h => h, fun u2 tl S => ⟨rfl, ?_⟩⟩
    refine JX.cons (JR.ofJ (J.setI I S h1 (set_stamp w _ (by kernel_rfl)) ⟨by kernel_rfl, by kernel_rfl⟩ rfl rfl (fun _ _ => Nat.le_of_ble_eq_true rfl) (fun _ _ => rfl) ?_))
    repeat' walk_at "jb"
    exact ⟨fun _ h => h, fun u4 tl S => ⟨rfl, JX.nil ⟨rfl, _, all_cons S.hi (all_cons S.hd S.hn), hK a d _ u2 _ u4 I.hd I.hdx⟩⟩⟩))
end Mine

end
-- JC
section
open PySem PySem.Calls PySem.W PyProof.Rows PyProof.V PySem.Spec PySem.SeqAt
namespace Mine
section
variable {w : World} {c : Cx w} {news : Led} {fs : Option Scope}
theorem J.new_binary (ok : c.Ok fs) {row : Array UInt8} {t t1 : Tok} {k : Int} (h0 : 0 ≤ k) (h1 : k < 256) {K : Led → Value → Prop} (h : ∀ tl x d u1 u2 u3 u4, (∀ p ∈ news, p ∈ tl) → (x, instObj 144 d) ∈ tl → (d, dictOf [⟨PyData.keyHash w.params (Str.ofString "data"), .str (Str.ofString "data") u2, .bytes row u1⟩, ⟨PyData.keyHash w.params (Str.ofString "_subtype"), .str (Str.ofString "_subtype") u4, .int k u3⟩] 2) ∈ tl → (∀ p ∈ news, p.1 < d) → @LT.lt Nat _ d x → K tl (.ref x)) : J c (call (.ref 144) [.bytes row t, .int k t1] []) news K :=
  J.useC ok (Mine.new_binary w news row t t1 k h0 h1) fun _ kk x d u1 u2 u3 u4 l1 l2 => kk _ _ (h _ x d u1 u2 u3 u4 (fun _ hp => .tail _ (.tail _ hp)) (.head _) (.tail _ (.head _)) l1 l2)
theorem J.new_int64 (ok : c.Ok fs) {t : Tok} {k : Int}  {K : Led → Value → Prop} (h : ∀ tl x d u1 u2, (∀ p ∈ news, p ∈ tl) → (x, instObj 344 d) ∈ tl → (d, dictOf [⟨PyData.keyHash w.params (Str.ofString "value"), .str (Str.ofString "value") u2, .int k u1⟩] 1) ∈ tl → (∀ p ∈ news, p.1 < d) → @LT.lt Nat _ d x → K tl (.ref x)) : J c (call (.ref 344) [.int k t] []) news K :=
  J.useC ok (Mine.new_int64 w news t k) fun _ kk x d u1 u2 l1 l2 => kk _ _ (h _ x d u1 u2 (fun _ hp => .tail _ (.tail _ hp)) (.head _) (.tail _ (.head _)) l1 l2)
theorem J.new_regex_i (ok : c.Ok fs) {t t1 : Tok} {z : PySem.Str} {k : Int}  {K : Led → Value → Prop} (h : ∀ tl x d u1 u2 u3 u4, (∀ p ∈ news, p ∈ tl) → (x, instObj 626 d) ∈ tl → (d, dictOf [⟨PyData.keyHash w.params (Str.ofString "pattern"), .str (Str.ofString "pattern") u2, .str z u1⟩, ⟨PyData.keyHash w.params (Str.ofString "flags"), .str (Str.ofString "flags") u4, .int k u3⟩] 2) ∈ tl → (∀ p ∈ news, p.1 < d) → @LT.lt Nat _ d x → K tl (.ref x)) : J c (call (.ref 626) [.str z t, .int k t1] []) news K :=
  J.useC ok (Mine.new_regex_i w news t t1 z k) fun _ kk x d u1 u2 u3 u4 l1 l2 => kk _ _ (h _ x d u1 u2 u3 u4 (fun _ hp => .tail _ (.tail _ hp)) (.head _) (.tail _ (.head _)) l1 l2)
theorem J.new_regex_0 (ok : c.Ok fs) {t : Tok} {z : PySem.Str}  {K : Led → Value → Prop} (h : ∀ tl x d u1 u2 u3 u4, (∀ p ∈ news, p ∈ tl) → (x, instObj 626 d) ∈ tl → (d, dictOf [⟨PyData.keyHash w.params (Str.ofString "pattern"), .str (Str.ofString "pattern") u2, .str z u1⟩, ⟨PyData.keyHash w.params (Str.ofString "flags"), .str (Str.ofString "flags") u4, .int 0 u3⟩] 2) ∈ tl → (∀ p ∈ news, p.1 < d) → @LT.lt Nat _ d x → K tl (.ref x)) : J c (call (.ref 626) [.str z t] []) news K :=
  J.useC ok (Mine.new_regex_0 w news t z) fun _ kk x d u1 u2 u3 u4 l1 l2 => kk _ _ (h _ x d u1 u2 u3 u4 (fun _ hp => .tail _ (.tail _ hp)) (.head _) (.tail _ (.head _)) l1 l2)
theorem J.new_code_s (ok : c.Ok fs) {t : Tok} {z : PySem.Str}  {K : Led → Value → Prop} (h : ∀ tl x d u1 u2 u4, (∀ p ∈ news, p ∈ tl) → (x, instObj 61 d) ∈ tl → (d, dictOf [⟨PyData.keyHash w.params (Str.ofString "text"), .str (Str.ofString "text") u2, .str z u1⟩, ⟨PyData.keyHash w.params (Str.ofString "_scope"), .str (Str.ofString "_scope") u4, .none⟩] 2) ∈ tl → (∀ p ∈ news, p.1 < d) → @LT.lt Nat _ d x → K tl (.ref x)) : J c (call (.ref 61) [.str z t] []) news K :=
  J.useC ok (Mine.new_code_s w news t z) fun _ kk x d u1 u2 u4 l1 l2 => kk _ _ (h _ x d u1 u2 u4 (fun _ hp => .tail _ (.tail _ hp)) (.head _) (.tail _ (.head _)) l1 l2)
theorem J.new_minkey (ok : c.Ok fs)   {K : Led → Value → Prop} (h : ∀ tl x d, (∀ p ∈ news, p ∈ tl) → (x, instObj 470 d) ∈ tl → (d, dictOf [] 0) ∈ tl → (∀ p ∈ news, p.1 < d) → @LT.lt Nat _ d x → K tl (.ref x)) : J c (call (.ref 470) [] []) news K :=
  J.useC ok (Mine.new_minkey w news) fun _ kk x d l1 l2 => kk _ _ (h _ x d (fun _ hp => .tail _ (.tail _ hp)) (.head _) (.tail _ (.head _)) l1 l2)
theorem J.new_maxkey (ok : c.Ok fs)   {K : Led → Value → Prop} (h : ∀ tl x d, (∀ p ∈ news, p ∈ tl) → (x, instObj 407 d) ∈ tl → (d, dictOf [] 0) ∈ tl → (∀ p ∈ news, p.1 < d) → @LT.lt Nat _ d x → K tl (.ref x)) : J c (call (.ref 407) [] []) news K :=
  J.useC ok (Mine.new_maxkey w news) fun _ kk x d l1 l2 => kk _ _ (h _ x d (fun _ hp => .tail _ (.tail _ hp)) (.head _) (.tail _ (.head _)) l1 l2)
theorem J.new_objid (ok : c.Ok fs) {t : Tok}  {K : Led → Value → Prop} (h : ∀ tl x d u1 u2, (∀ p ∈ news, p ∈ tl) → (x, instObj 583 d) ∈ tl → (d, dictOf [⟨PyData.keyHash w.params (Str.ofString "_id"), .str (Str.ofString "_id") u2, .bytes (Array.replicate 12 0) u1⟩] 1) ∈ tl → (∀ p ∈ news, p.1 < d) → @LT.lt Nat _ d x → K tl (.ref x)) : J c (call (.ref 583) [.bytes (Array.replicate 12 0) t] []) news K :=
  J.useC ok (Mine.new_objid w news t) fun _ kk x d u1 u2 l1 l2 => kk _ _ (h _ x d u1 u2 (fun _ hp => .tail _ (.tail _ hp)) (.head _) (.tail _ (.head _)) l1 l2)
theorem J.new_stamp (ok : c.Ok fs) {t t1 : Tok}  {K : Led → Value → Prop} (h : ∀ tl x d u1 u2 u3 u4, (∀ p ∈ news, p ∈ tl) → (x, instObj 705 d) ∈ tl → (d, dictOf [⟨PyData.keyHash w.params (Str.ofString "_time"), .str (Str.ofString "_time") u2, .int 5 u1⟩, ⟨PyData.keyHash w.params (Str.ofString "_inc"), .str (Str.ofString "_inc") u4, .int 5 u3⟩] 2) ∈ tl → (∀ p ∈ news, p.1 < d) → @LT.lt Nat _ d x → K tl (.ref x)) : J c (call (.ref 705) [.int 5 t, .int 5 t1] []) news K :=
  J.useC ok (Mine.new_stamp w news t t1) fun _ kk x d u1 u2 u3 u4 l1 l2 => kk _ _ (h _ x d u1 u2 u3 u4 (fun _ hp => .tail _ (.tail _ hp)) (.head _) (.tail _ (.head _)) l1 l2)
theorem J.new_date (ok : c.Ok fs) {t : Tok} {k : Int} (h0 : -9223372036854775808 ≤ k) (h1 : k ≤ 9223372036854775808 - 1) {K : Led → Value → Prop} (h : ∀ tl x d t1, (∀ p ∈ news, p ∈ tl) → (x, instObj 201 d) ∈ tl → (d, dateD w k t t1) ∈ tl → (∀ p ∈ news, p.1 < d) → @LT.lt Nat _ d x → K tl (.ref x)) : J c (call (.ref 201) [.int k t] []) news K :=
  J.useC ok (Mine.new_date w news t k h0 h1) fun _ kk x d t1 l1 l2 => kk _ _ (h _ x d t1 (fun _ hp => .tail _ (.tail _ hp)) (.head _) (.tail _ (.head _)) l1 l2)
end
end Mine

end
-- DJ
section
open PySem PySem.Calls PySem.W PyProof.Rows PyProof.V PySem.Spec
namespace Mine
set_option maxRecDepth 100000
theorem filled8 (w : World) : Filled PySem.Challenge.rw_jh0019_01.row.prog (hd.heap_1 w.params) := by
  k_fill
  exact trivial
theorem set_ref (w : World) (x : PySem.Str) (hx : takerIn (hd.heap_1 w.params) 261 x = some none) : SetOk w 261 x := ⟨by kernel_rfl, by kernel_rfl, hx, by kernel_rfl⟩
abbrev refE (w : World) (cv iv dv : Value) (u1 u2 u3 : Tok) : List DictEntry := [⟨PyData.keyHash w.params (Str.ofString "_collection"), .str (Str.ofString "_collection") u1, cv⟩, ⟨PyData.keyHash w.params (Str.ofString "_id"), .str (Str.ofString "_id") u2, iv⟩, ⟨PyData.keyHash w.params (Str.ofString "_database"), .str (Str.ofString "_database") u3, dv⟩]
abbrev refE4 (w : World) (cv iv dv : Value) (kd : Addr) (u1 u2 u3 u4 : Tok) : List DictEntry := [⟨PyData.keyHash w.params (Str.ofString "_collection"), .str (Str.ofString "_collection") u1, cv⟩, ⟨PyData.keyHash w.params (Str.ofString "_id"), .str (Str.ofString "_id") u2, iv⟩, ⟨PyData.keyHash w.params (Str.ofString "_database"), .str (Str.ofString "_database") u3, dv⟩, ⟨PyData.keyHash w.params (Str.ofString "_kwargs"), .str (Str.ofString "_kwargs") u4, .ref kd⟩]
section
variable {w : World} {c : Cx w} {news tl : Led} {r u : Nat} {fs : Option Scope} {K : Led → Flow → Prop} {P : Value → Heap → Prop} {a d D : Addr} {o : Obj} {u1 u2 u3 : Tok}
theorem J.orT {e e2 : Expr} {rest : List Expr} {pos : Pos} {K : Led → Value → Prop} (h : J c (eval e c.env) news fun tl v => J c (truthy v) tl fun tl' b => b = true ∧ K tl' v) : J c (eval (.BoolOp .Or (e :: e2 :: rest) pos) c.env) news K :=
  fun s Q E F N k => BoolOp_or (h s _ E F N fun tl v h' tk' hj F' N' => hj { s with heap := h', toks := tk' } _ E F' N' fun tl' b h2 tk2 hb F2 N2 => by
    rw [if_pos hb.1]
    exact k _ _ h2 tk2 hb.2 F2 N2)
theorem J.orF1 {e e2 : Expr} {pos : Pos} {K : Led → Value → Prop} (h : J c (eval e c.env) news fun tl v => J c (truthy v) tl fun tl' b => b = false ∧ J c (eval e2 c.env) tl' K) : J c (eval (.BoolOp .Or [e, e2] pos) c.env) news K :=
  fun s Q E F N k => BoolOp_or (h s _ E F N fun tl v h' tk' hj F' N' => hj { s with heap := h', toks := tk' } _ E F' N' fun tl' b h2 tk2 hb F2 N2 => by
    rw [if_neg (by rw [hb.1]; exact Bool.false_ne_true)]
    exact BoolOp_one (hb.2 { s with heap := h2, toks := tk2 } Q E F2 N2 fun tl3 v3 h3 tk3 hk F3 N3 => k tl3 v3 h3 tk3 hk F3 N3))
theorem J.tnone {K : Led → Bool → Prop} (h : K news false) : J c (truthy .none) news K := fun s _ _ F N q => wpAny_pure (a := false) (q _ _ s.heap s.toks h F N)
theorem ref_s2 (I : InitAt c refLit.2 news a d) (ob : Option PySem.Str) {t : Tok} (h4 : c.m (Str.ofString "database") = some (baseV ob t)) (h : ∀ tl', (∀ p ∈ tl, p ∈ tl') → JX c (execs (refLit.1.drop 2) c.env) tl' K P) : JX c (execs (refLit.1.drop 1) c.env) tl K P := Mine.into (by exact Mine.thru : Mine.Thru _ (by
    have ok := I.ok
    cases ob with
    | none =>
      replace h4 : c.m (Str.ofString "database") = some .none := h4
      refine JX.cons (JR.ifF (J.tandF ?_))
      repeat' (first | walk_at "jb" | with_reducible refine J.none ?_ | with_reducible refine J.isnot ?_)
      exact ⟨rfl, rfl, JR.nil ⟨rfl, h _ fun _ p => p⟩⟩
    | some y =>
      replace h4 : c.m (Str.ofString "database") = some (.str y t) := h4
      refine JX.cons (JR.ifF (J.tandT ?_))
      repeat' (first | walk_at "jb" | with_reducible refine J.none ?_ | with_reducible refine J.isnot ?_)
      refine ⟨rfl, J.tandF ?_⟩
      repeat' (first | walk_at "jb" | ((with_reducible refine J.b ok (x := Str.ofString "str") ?hx (lb_str w) ?_); (case hx => exact ⟨by kernel_rfl, by kernel_rfl⟩)) | ((with_reducible refine J.g ok (x := Str.ofString "Code") ?hx (lg_Code w) ?_); (case hx => exact ⟨by kernel_rfl, by kernel_rfl⟩)) | with_reducible refine J.tuple ?_ | ((with_reducible refine NewK.intro ?hz ?_); (case hz => exact Nat.le_of_ble_eq_true rfl); intros) | with_reducible refine J.tnot ?_ | ((with_reducible refine' J.isiT ok kitx_str ?mq ?e ?n ?_); (case mq => with_reducible assumption); (case e => kit_is); (case n => exact fun q => nomatch q)) | ((with_reducible refine J.tplain ?_ ?he); (case he => exact rfl)))
      exact ⟨rfl, rfl, JR.nil ⟨rfl, h _ (by with_reducible assumption)⟩⟩))
theorem ref_pre {z : PySem.Str} {t1 t2 : Tok} {iv : Value} (I : InitAt c refLit.2 news a d) (ob : Option PySem.Str) (hD : @LT.lt Nat _ a D) (h1 : c.m (Str.ofString "self") = some (.ref a)) (h2 : c.m (Str.ofString "collection") = some (.str z t1)) (h3 : c.m (Str.ofString "id") = some iv) (h4 : c.m (Str.ofString "database") = some (baseV ob t2))
    (h : ∀ tl u1 u2 u3, Inv 261 a d (refE w (.str z t1) iv (baseV ob t2) u1 u2 u3) 3 ((D, o) :: news) tl → JX c (execs (refLit.1.drop 5) c.env) tl K P) : JX c (execs refLit.1 c.env) ((D, o) :: (a, instObj 261 d) :: (d, dictOf [] 0) :: news) K P := Mine.into (by exact Mine.thru : Mine.Thru _ (by
    have ok := I.ok
    have hne : ∀ p ∈ (D, o) :: news, p.1 ≠ d := all_cons (Nat.ne_of_gt (Nat.lt_trans I.hdx hD)) fun p hp => Nat.ne_of_lt (I.hd p hp)
    refine JX.cons (JR.ifF ?_)
    repeat' (first | walk_at "jb" | ((with_reducible refine J.b ok (x := Str.ofString "str") ?hx (lb_str w) ?_); (case hx => exact ⟨by kernel_rfl, by kernel_rfl⟩)) | ((with_reducible refine J.g ok (x := Str.ofString "Code") ?hx (lg_Code w) ?_); (case hx => exact ⟨by kernel_rfl, by kernel_rfl⟩)) | with_reducible refine J.tuple ?_ | ((with_reducible refine NewK.intro ?hz ?_); (case hz => exact Nat.le_of_ble_eq_true rfl); intros) | with_reducible refine J.tnot ?_ | ((with_reducible refine' J.isiT ok kitx_str ?mq ?e ?n ?_); (case mq => with_reducible assumption); (case e => kit_is); (case n => exact fun q => nomatch q)) | ((with_reducible refine J.tplain ?_ ?he); (case he => exact rfl)))
    have hs := (by with_reducible assumption : ∀ p ∈ (D, o) :: _, p ∈ _)
    refine ⟨rfl, JR.nil ⟨rfl, ref_s2 I ob h4 fun tl hs2 => ?_⟩⟩
    have S : Inv 261 a d [] 0 ((D, o) :: news) tl := ⟨hs2 _ (hs _ (.tail _ (.head _))), hs2 _ (hs _ (.tail _ (.tail _ (.head _)))), all_cons (hs2 _ (hs _ (.head _))) fun p hp => hs2 _ (hs p (.tail _ (.tail _ (.tail _ hp))))⟩
    refine JX.cons (JR.ofJ (J.setN I hne S h1 (set_ref w _ (by kernel_rfl)) ⟨by kernel_rfl, by kernel_rfl⟩ rfl rfl (fun _ _ => Nat.le_of_ble_eq_true rfl) (fun _ _ => rfl) ?_))
    repeat' walk_at "jb"
    refine ⟨fun _ h => h, fun u1 tl S => ⟨rfl, ?_⟩⟩
    refine JX.cons (JR.ofJ (J.setN I hne S h1 (set_ref w _ (by kernel_rfl)) ⟨by kernel_rfl, by kernel_rfl⟩ rfl rfl (fun _ _ => Nat.le_of_ble_eq_true rfl) (fun _ _ => rfl) ?_))
    repeat' walk_at "jb"
    refine ⟨fun _ h => h, fun u2 tl S => ⟨rfl, ?_⟩⟩
    refine JX.cons (JR.ofJ (J.setN I hne S h1 (set_ref w _ (by kernel_rfl)) ⟨by kernel_rfl, by kernel_rfl⟩ rfl rfl (fun _ _ => Nat.le_of_ble_eq_true rfl) (fun _ _ => rfl) ?_))
    repeat' walk_at "jb"
    exact ⟨fun _ h => h, fun u3 tl S => ⟨rfl, h _ _ _ _ S⟩⟩))
variable {news₁ news₀ : Led} {cv iv dv : Value} {kv : List (PySem.Str × Value)} {cc : List (PySem.Str × Int)}
theorem ref_s7 (I : InitAt c refLit.2 news₁ a d) (hne : ∀ p ∈ (D, o) :: news₀, p.1 ≠ d) (S : Inv 261 a d (refE w cv iv dv u1 u2 u3) 3 ((D, o) :: news₀) tl) (h1 : c.m (Str.ofString "self") = some (.ref a)) (h6 : c.m (Str.ofString "kwargs") = some (.ref D))
    (h : ∀ tl' u4, Inv 261 a d (refE4 w cv iv dv D u1 u2 u3 u4) 4 ((D, o) :: news₀) tl' → K tl' .next) : JX c (execs (refLit.1.drop 6) c.env) tl K P := Mine.into (by exact Mine.thru : Mine.Thru _ (by
    have ok := I.ok
    refine JX.cons (JR.ofJ (J.setN I hne S h1 (set_ref w _ (by kernel_rfl)) ⟨by kernel_rfl, by kernel_rfl⟩ rfl rfl (fun _ _ => Nat.le_of_ble_eq_true rfl) (fun _ _ => rfl) ?_))
    repeat' walk_at "jb"
    exact ⟨fun _ h => h, fun u4 tl S => ⟨rfl, JX.nil (h _ _ S)⟩⟩))
theorem inv_upd {es : List DictEntry} {n : Nat} {tl tl' : Led} {o' : Obj} (S : Inv 261 a d es n ((D, o) :: news₀) tl) (ha : D ≠ a) (hd : D ≠ d) (h0 : ∀ p ∈ news₀, p.1 ≠ D) (hs : ∀ p ∈ tl, p.1 ≠ D → p ∈ tl') (hm : (D, o') ∈ tl') : Inv 261 a d es n ((D, o') :: news₀) tl' := ⟨hs _ S.hi ha.symm, hs _ S.hd hd.symm, all_cons hm fun p hp => hs p (S.hn p (.tail _ hp)) (h0 p hp)⟩
def RefEnd (w : World) (c : Cx w) (a d D : Addr) (es : List DictEntry) (news₀ : Led) (cc : List (PySem.Str × Int)) (K : Led → Flow → Prop) (P : Value → Heap → Prop) : Prop := ∀ tl' o' kv', Inv 261 a d es 3 ((D, o') :: news₀) tl' → o'.IsDictOf (strK w) kv' → FlatPairs PyData.str kv' (kdpD cc) → JX c (execs (refLit.1.drop 6) c.env) tl' K P
theorem ref_s6_none (I : InitAt c refLit.2 news₁ a d) (lo : (D == sysModules) = false) (hd : o.IsDictOf (strK w) kv) (hf : FlatPairs PyData.str kv (kdpD cc)) (hl : cc.length ≤ 64) (S : Inv 261 a d (refE w cv iv dv u1 u2 u3) 3 ((D, o) :: news₀) tl) (h5 : c.m (Str.ofString "_extra") = some .none) (h6 : c.m (Str.ofString "kwargs") = some (.ref D)) (ha : D ≠ a) (hd' : D ≠ d) (h0 : ∀ p ∈ news₀, p.1 ≠ D)
    (h : RefEnd w c a d D (refE w cv iv dv u1 u2 u3) news₀ cc K P) : JX c (execs (refLit.1.drop 5) c.env) tl K P := Mine.into (by exact Mine.thru : Mine.Thru _ (by
    have ok := I.ok
    refine JX.cons (JR.expr (JR.ofJ (J.update ?_ rfl ⟨rfl, rfl⟩)) (inter_no ok) rfl)
    repeat' walk_at "jb"
    refine ⟨D, o, kv, cc, rfl, ⟨S.hn _ (.head _), lo, hd, hf⟩, J.cons (J.orF1 ?_) rfl⟩
    repeat' (first | walk_at "jb" | with_reducible refine J.tnone ?_)
    refine ⟨rfl, J.dict0 ok fun tl2 d2 o2 kv2 hs hm hlt lo2 hd2 hf2 => ?_⟩
    refine J.nil ⟨_, rfl, hs _ (S.hn _ (.head _)), d2, o2, kv2, [], rfl, ⟨hm, lo2, hd2, hf2⟩, Nat.ne_of_lt (hlt _ (S.hn _ (.head _))), hl, Nat.zero_le _, fun o' kv' tl' hs' H' => ⟨rfl, ?_⟩⟩
    exact h tl' o' kv' (inv_upd (S.sub hs) ha hd' h0 hs' H'.m) H'.hd H'.hf))
theorem ref_s6_d {d0 : Addr} {o0 : Obj} {kv0 : List (PySem.Str × Value)} {c0 : List (PySem.Str × Int)} (I : InitAt c refLit.2 news₁ a d) (lo : (D == sysModules) = false) (hd : o.IsDictOf (strK w) kv) (hf : FlatPairs PyData.str kv (kdpD cc)) (hl : cc.length ≤ 64) (S : Inv 261 a d (refE w cv iv dv u1 u2 u3) 3 ((D, o) :: news₀) tl) (H0 : HasDict w tl d0 o0 kv0 c0) (hne : @Ne Nat D d0) (z0 : c0.length ≤ 16) (n0 : 1 ≤ c0.length) (h5 : c.m (Str.ofString "_extra") = some (.ref d0)) (h6 : c.m (Str.ofString "kwargs") = some (.ref D)) (ha : D ≠ a) (hd' : D ≠ d) (h0 : ∀ p ∈ news₀, p.1 ≠ D)
    (h : RefEnd w c a d D (refE w cv iv dv u1 u2 u3) news₀ (putAll cc c0) K P) : JX c (execs (refLit.1.drop 5) c.env) tl K P := Mine.into (by exact Mine.thru : Mine.Thru _ (by
    have ok := I.ok
    refine JX.cons (JR.expr (JR.ofJ (J.update ?_ rfl ⟨rfl, rfl⟩)) (inter_no ok) rfl)
    repeat' walk_at "jb"
    refine ⟨D, o, kv, cc, rfl, ⟨S.hn _ (.head _), lo, hd, hf⟩, J.cons (J.orT ?_) rfl⟩
    repeat' walk_at "jb"
    refine J.truthyD H0 (by omega) ⟨?_, ?_⟩
    · cases c0 with
      | nil => exact absurd n0 (by decide)
      | cons => rfl
    · exact J.nil ⟨_, rfl, S.hn _ (.head _), d0, o0, kv0, c0, rfl, H0, hne, hl, by omega, fun o' kv' tl' hs' H' => ⟨rfl, h tl' o' kv' (inv_upd S ha hd' h0 hs' H'.m) H'.hd H'.hf⟩⟩))
end
end Mine

end
-- DJ2
section
open PySem PySem.Calls PySem.W PyProof.Rows PyProof.V PySem.Spec
namespace Mine
set_option maxRecDepth 100000
theorem CallL.ofC {w : World} {f : Addr} {pos : List Value} {kw : List (PySem.Str × Value)} {news : Led} {Ret : (Led → Value → Prop) → Prop} (H : CallC w f pos kw news Ret) : CallL w f pos kw news Ret :=
  fun mean mg mb dp un gd cn cs a ccd cl A₀ h₀ L m s Q E B F X N T hk hd hu hret => H mean mg mb dp un gd cn cs a ccd cl [] A₀ h₀ h₀ L m s Q E B F X N T hk (by omega) (by omega) hret
section
variable {w : World} {c : Cx w} {a d D : Addr} {news : Led}
theorem d_lt {sc : Scope} (I : InitAt c sc news a d) (hD : @LT.lt Nat _ a D) : @LT.lt Nat _ d D := Nat.lt_trans I.hdx hD
theorem ne_news {sc : Scope} (I : InitAt c sc news a d) (hD : @LT.lt Nat _ a D) : ∀ p ∈ news, p.1 ≠ D := fun p hp => Nat.ne_of_lt (Nat.lt_trans (I.hd p hp) (d_lt I hD))
theorem ne_both {sc : Scope} {o : Obj} (I : InitAt c sc news a d) (hD : @LT.lt Nat _ a D) : ∀ p ∈ (D, o) :: news, p.1 ≠ d := all_cons (Nat.ne_of_gt (d_lt I hD)) fun p hp => Nat.ne_of_lt (I.hd p hp)
end
theorem new_dbref_d (w : World) (news : Led) (d0 : Addr) (o0 : Obj) (kv0 : List (PySem.Str × Value)) (c0 : List (PySem.Str × Int)) (lo0 : (d0 == sysModules) = false) (hd0 : o0.IsDictOf (strK w) kv0) (hf0 : FlatPairs PyData.str kv0 (kdpD c0)) (hl0 : c0.length ≤ 16) (hn0 : 1 ≤ c0.length) (z : PySem.Str) (k : Int) (ob : Option PySem.Str) (t t1 t2 : Tok) :
    CallL w 261 [.str z t, .int k t1, baseV ob t2, .ref d0] [] ((d0, o0) :: news) (fun K => ∀ x d kd okd kvd u1 u2 u3 u4 u5 u6 u7, (∀ p ∈ (d0, o0) :: news, p.1 < d) → @LT.lt Nat _ d x → @LT.lt Nat _ x kd → (kd == sysModules) = false → okd.IsDictOf (strK w) kvd → FlatPairs PyData.str kvd (kdpD (putAll [] c0)) → K ((kd, okd) :: (x, instObj 261 d) :: (d, dictOf [⟨PyData.keyHash w.params (Str.ofString "_collection"), .str (Str.ofString "_collection") u2, .str z u1⟩, ⟨PyData.keyHash w.params (Str.ofString "_id"), .str (Str.ofString "_id") u4, .int k u3⟩, ⟨PyData.keyHash w.params (Str.ofString "_database"), .str (Str.ofString "_database") u6, baseV ob u5⟩, ⟨PyData.keyHash w.params (Str.ofString "_kwargs"), .str (Str.ofString "_kwargs") u7, .ref kd⟩] 4) :: (d0, o0) :: news) (.ref x)) := by
  refine .ofC (.ofX (ref_run4 fun c a d D o I hD h1 h2 h3 h4 h5 h6 K hK => ref_pre I ob hD.hx h1 h2 h3 h4 fun tl u1 u2 u3 S => ?_))
  refine ref_s6_d I hD.lo hD.hd hD.hf (Nat.le_of_ble_eq_true rfl) S ⟨S.hn _ (.tail _ (.head _)), lo0, hd0, hf0⟩ (Nat.ne_of_gt (Nat.lt_trans (I.hd _ (.head _)) (d_lt I hD.hx))) hl0 hn0 h5 h6 (Nat.ne_of_gt hD.hx) (Nat.ne_of_gt (d_lt I hD.hx)) (ne_news I hD.hx) ?_
  exact fun tl' o' kv' S hd' hf' => ref_s7 I (ne_both I hD.hx) S h1 h6 fun tl u4 S => ⟨rfl, _, all_cons (S.hn _ (.head _)) (all_cons S.hi (all_cons S.hd fun p hp => S.hn p (.tail _ hp))), hK a d D o' kv' _ u1 _ u2 _ u3 u4 I.hd I.hdx hD.hx hD.lo hd' hf'⟩
theorem new_dbref_s (w : World) (news : Led) (d0 : Addr) (o0 : Obj) (kv0 : List (PySem.Str × Value)) (c0 : List (PySem.Str × Int)) (lo0 : (d0 == sysModules) = false) (hd0 : o0.IsDictOf (strK w) kv0) (hf0 : FlatPairs PyData.str kv0 (kdpD c0)) (hl0 : c0.length ≤ 16) (hn0 : 1 ≤ c0.length) (z : PySem.Str) (k : Int) (y : PySem.Str) (t t1 t2 : Tok) :
    CallL w 261 [.str z t, .int k t1, .str y t2, .ref d0] [] ((d0, o0) :: news) (fun K => ∀ x d kd okd kvd u1 u2 u3 u4 u5 u6 u7, (∀ p ∈ (d0, o0) :: news, p.1 < d) → @LT.lt Nat _ d x → @LT.lt Nat _ x kd → (kd == sysModules) = false → okd.IsDictOf (strK w) kvd → FlatPairs PyData.str kvd (kdpD (putAll [] c0)) → K ((kd, okd) :: (x, instObj 261 d) :: (d, dictOf [⟨PyData.keyHash w.params (Str.ofString "_collection"), .str (Str.ofString "_collection") u2, .str z u1⟩, ⟨PyData.keyHash w.params (Str.ofString "_id"), .str (Str.ofString "_id") u4, .int k u3⟩, ⟨PyData.keyHash w.params (Str.ofString "_database"), .str (Str.ofString "_database") u6, .str y u5⟩, ⟨PyData.keyHash w.params (Str.ofString "_kwargs"), .str (Str.ofString "_kwargs") u7, .ref kd⟩] 4) :: (d0, o0) :: news) (.ref x)) := new_dbref_d w news d0 o0 kv0 c0 lo0 hd0 hf0 hl0 hn0 z k (some y) t t1 t2
theorem new_dbref_k (w : World) (news : Led) (d0 : Addr) (o0 : Obj) (kv0 : List (PySem.Str × Value)) (c0 : List (PySem.Str × Int)) (lo0 : (d0 == sysModules) = false) (hd0 : o0.IsDictOf (strK w) kv0) (hf0 : FlatPairs PyData.str kv0 (kdpD c0)) (hl0 : c0.length ≤ 16) (hn0 : 1 ≤ c0.length) (z : PySem.Str) (k : Int) (ob : Option PySem.Str) (t t1 t2 : Tok) (tz : Tok) :
    CallL w 261 [.str z t, .int k t1, baseV ob t2, .ref d0] [(Str.ofString "b", .int 2 tz)] ((d0, o0) :: news) (fun K => ∀ x d kd okd kvd u1 u2 u3 u4 u5 u6 u7, (∀ p ∈ (d0, o0) :: news, p.1 < d) → @LT.lt Nat _ d x → @LT.lt Nat _ x kd → (kd == sysModules) = false → okd.IsDictOf (strK w) kvd → FlatPairs PyData.str kvd (kdpD (putAll [(Str.ofString "b", 2)] c0)) → K ((kd, okd) :: (x, instObj 261 d) :: (d, dictOf [⟨PyData.keyHash w.params (Str.ofString "_collection"), .str (Str.ofString "_collection") u2, .str z u1⟩, ⟨PyData.keyHash w.params (Str.ofString "_id"), .str (Str.ofString "_id") u4, .int k u3⟩, ⟨PyData.keyHash w.params (Str.ofString "_database"), .str (Str.ofString "_database") u6, baseV ob u5⟩, ⟨PyData.keyHash w.params (Str.ofString "_kwargs"), .str (Str.ofString "_kwargs") u7, .ref kd⟩] 4) :: (d0, o0) :: news) (.ref x)) := by
  refine .ofC (.ofX (ref_run4b fun c a d D o I hD h1 h2 h3 h4 h5 h6 K hK => ref_pre I ob hD.hx h1 h2 h3 h4 fun tl u1 u2 u3 S => ?_))
  refine ref_s6_d I hD.lo hD.hd hD.hf (Nat.le_of_ble_eq_true rfl) S ⟨S.hn _ (.tail _ (.head _)), lo0, hd0, hf0⟩ (Nat.ne_of_gt (Nat.lt_trans (I.hd _ (.head _)) (d_lt I hD.hx))) hl0 hn0 h5 h6 (Nat.ne_of_gt hD.hx) (Nat.ne_of_gt (d_lt I hD.hx)) (ne_news I hD.hx) ?_
  exact fun tl' o' kv' S hd' hf' => ref_s7 I (ne_both I hD.hx) S h1 h6 fun tl u4 S => ⟨rfl, _, all_cons (S.hn _ (.head _)) (all_cons S.hi (all_cons S.hd fun p hp => S.hn p (.tail _ hp))), hK a d D o' kv' _ u1 _ u2 _ u3 u4 I.hd I.hdx hD.hx hD.lo hd' hf'⟩
theorem new_dbref_z (w : World) (news : Led)  (z : PySem.Str) (k : Int) (ob : Option PySem.Str) (t t1 t2 : Tok) (tz : Tok) :
    CallL w 261 [.str z t, .int k t1, baseV ob t2, .none] [(Str.ofString "z", .int 1 tz)] (news) (fun K => ∀ x d kd okd kvd u1 u2 u3 u4 u5 u6 u7, (∀ p ∈ news, p.1 < d) → @LT.lt Nat _ d x → @LT.lt Nat _ x kd → (kd == sysModules) = false → okd.IsDictOf (strK w) kvd → FlatPairs PyData.str kvd (kdpD ([(Str.ofString "z", 1)])) → K ((kd, okd) :: (x, instObj 261 d) :: (d, dictOf [⟨PyData.keyHash w.params (Str.ofString "_collection"), .str (Str.ofString "_collection") u2, .str z u1⟩, ⟨PyData.keyHash w.params (Str.ofString "_id"), .str (Str.ofString "_id") u4, .int k u3⟩, ⟨PyData.keyHash w.params (Str.ofString "_database"), .str (Str.ofString "_database") u6, baseV ob u5⟩, ⟨PyData.keyHash w.params (Str.ofString "_kwargs"), .str (Str.ofString "_kwargs") u7, .ref kd⟩] 4) :: news) (.ref x)) := by
  refine .ofC (.ofX (ref_run4z fun c a d D o I hD h1 h2 h3 h4 h5 h6 K hK => ref_pre I ob hD.hx h1 h2 h3 h4 fun tl u1 u2 u3 S => ?_))
  refine ref_s6_none I hD.lo hD.hd hD.hf (Nat.le_of_ble_eq_true rfl) S h5 h6 (Nat.ne_of_gt hD.hx) (Nat.ne_of_gt (d_lt I hD.hx)) (ne_news I hD.hx) ?_
  exact fun tl' o' kv' S hd' hf' => ref_s7 I (ne_both I hD.hx) S h1 h6 fun tl u4 S => ⟨rfl, _, all_cons (S.hn _ (.head _)) (all_cons S.hi (all_cons S.hd fun p hp => S.hn p (.tail _ hp))), hK a d D o' kv' _ u1 _ u2 _ u3 u4 I.hd I.hdx hD.hx hD.lo hd' hf'⟩
theorem new_dbref_3 (w : World) (news : Led) (z : PySem.Str) (k : Int) (ob : Option PySem.Str) (t t1 t2 : Tok) :
    CallC w 261 [.str z t, .int k t1, baseV ob t2] [] news (fun K => ∀ x d kd okd u2 u4 u6 u7, (∀ p ∈ news, p.1 < d) → @LT.lt Nat _ d x → K ((kd, okd) :: (x, instObj 261 d) :: (d, dictOf (refE4 w (.str z t) (.int k t1) (baseV ob t2) kd u2 u4 u6 u7) 4) :: news) (.ref x)) := by
  refine .ofX (ref_run fun c a d D o I hD h1 h2 h3 h4 h5 h6 K hK => ref_pre I ob hD.hx h1 h2 h3 h4 fun tl u1 u2 u3 S => ?_)
  refine ref_s6_none I hD.lo hD.hd hD.hf (Nat.le_of_ble_eq_true rfl) S h5 h6 (Nat.ne_of_gt hD.hx) (Nat.ne_of_gt (d_lt I hD.hx)) (ne_news I hD.hx) ?_
  exact fun tl' o' kv' S hd' hf' => ref_s7 I (ne_both I hD.hx) S h1 h6 fun tl u4 S => ⟨rfl, _, all_cons (S.hn _ (.head _)) (all_cons S.hi (all_cons S.hd fun p hp => S.hn p (.tail _ hp))), hK a d D o' u1 u2 u3 u4 I.hd I.hdx⟩
end Mine

end
-- DR
section
open PySem PySem.Calls PySem.W PyProof.Rows PyProof.V PySem.Spec PySem.SeqAt
namespace Mine
set_option maxRecDepth 100000
def CallR (w : World) (r u : Nat) (f : Addr) (pos : List Value) (kw : List (PySem.Str × Value)) (news : Led) (Ret : (Led → Value → Prop) → Prop) : Prop :=
  ∀ (mean : ExcName → Option Value) (mg mb : PySem.Str → Option Value) (dp un : Nat) (gd : Option (List Code)) (cn : PySem.Str) (cs : Scope) (a : Addr) (ccd : Value) (cl : List (PySem.Str × Addr)) (outer : List Env) (A₀ : Around) (base h₀ : Heap) (L : Addr) (m : PySem.Str → Option Value) (s : Shared) (Q E : Value → Shared → Prop),
    Below A₀ base outer h₀ → Fr h₀ L s.heap m → (hd.heap_1 w.params).In h₀ → News h₀ L s.heap news → Top hd.view_1 (looseW hd.view_1 looseN) mean mg mb h₀ → cs.kind = .function → dp + r < recursionLimit → un + u < cLine →
    Ret (fun tl r => ∀ h' tk', Fr h₀ L h' m → News h₀ L h' tl → Q r { s with heap := h', toks := tk' }) →
    wpAny (model PySem.Challenge.rw_jh0019_01.row.prog w) (ktrTop dp un gd cn cs L a ccd cl outer) (call (.ref f) pos kw) Q E s
def retEnd (K : Led → Value → Prop) (tl : Led) (fl : Flow) : Prop := ∃ v tl', fl = .ret v ∧ (∀ p ∈ tl', p ∈ tl) ∧ K tl' v
theorem def_run {w : World} {r u : Nat} {f : Addr} {name qual : PySem.Str} {params : Arguments} {body : List Stmt} {scope : Scope} {dV kV doc pm cdv ct oc : Value} {an od : Option Addr} {osl : Array (Option Value)} {pos : List Value} {news : Led} {Ret : (Led → Value → Prop) → Prop} {binds : List (PySem.Str × Value)}
    (ho : (hd.heap_1 w.params).lookup f = some ⟨oc, od, .func (fnOf name qual params body scope dV kV doc pm an cdv ct), osl⟩) (hcd : codeIn (hd.heap_1 w.params) cdv qual = true)
    (hbind : ∀ s : Shared, (hd.heap_1 w.params).In s.heap → BindsTo s (fnOf name qual params body scope dV kV doc pm an cdv ct) ⟨pos, []⟩ binds)
    (hloc : ∀ y ∈ binds, scope.names.lookup y.1 = some .local)
    (hsc : scope.isCoroutine = false ∧ scope.isGenerator = false ∧ scope.kind = .function) (hcell : ∀ x ∈ scope.names, x.2 ≠ .cell)
    (h : ∀ c : Cx w, c.OkR (some scope) r u → (∀ y v, binds.reverse.lookup y = some v → c.m y = some v) → ∀ K, Ret K → JX c (execs body c.env) news (retEnd K) (fun _ _ => False)) :
    CallR w (r + 1) (u + 4) f pos [] news Ret := by
  intro mean mg mb dp un gd cn cs a ccd cl outer A₀ base h₀ L m s Q E B F X N T hk hd hu hret
  refine wpAny_call ?_
  refine code_def (A₀ := A₀) (base := base) (env := envX cn cs L a ccd cl) (outer := outer) B F X N T rfl rfl hk ho hcd ?room (hbind _ (X.keeps F.keep)) hloc ?_ hsc.1 hsc.2.1 hsc.2.2 hcell
  case room => exact (by omega : dp < recursionLimit)
  intro g L' h2 FG F2 N2 B2 X2 T2
  refine h (frameCx w qual (body, scope) f cdv mean mg mb _ base g L' _ _) ⟨B2, X2, T2, hsc.2.2, ?k1, ?k2, rfl⟩ (fun _ _ e => e) _ hret _ _ _ F2 N2 ?ok ?bad
  case k1 => exact (by omega : dp + 1 + r < recursionLimit)
  case k2 => exact (by have hcL9 := cLine_is; omega : un + 3 + u < cLine)
  case ok =>
    intro tl fl h3 tk3 m3 hv F3 N3
    obtain ⟨v, tl', rfl, hs, hK⟩ := hv
    exact leaveK_ F3 (fun p hp => N3 p (hs p hp)) fun F4 N4 => hK _ _ F4 N4
  case bad => exact fun _ _ _ hx => hx.elim
theorem CallC.ofR {w : World} {f : Addr} {pos : List Value} {kw : List (PySem.Str × Value)} {news : Led} {Ret : (Led → Value → Prop) → Prop} (H : CallR w (7 + 1) (60 + 4) f pos kw news Ret) : CallC w f pos kw news Ret :=
  fun mean mg mb dp un gd cn cs a ccd cl outer A₀ base h₀ L m s Q E B F X N T hk hd hu hret => H mean mg mb dp un gd cn cs a ccd cl outer A₀ base h₀ L m s Q E B F X N T hk hd hu hret
theorem Cx.set_ne {w : World} {c : Cx w} {x y : PySem.Str} {v v' : Value} (hne : y ≠ x) (h : c.m y = some v') : (c.set x v).m y = some v' := by
  show (if y = x then some v else c.m y) = some v'
  rw [if_neg hne]
  exact h
theorem OkMono {w : World} {c : Cx w} {fs : Option Scope} {r u r' u' : Nat} (ok : c.OkR fs r u) (hr : r' ≤ r) (hu : u' ≤ u) : c.OkR fs r' u' := ⟨ok.B, ok.X, ok.T, ok.hk, Nat.lt_of_le_of_lt (Nat.add_le_add_left hr _) ok.hd, Nat.lt_of_le_of_lt (Nat.add_le_add_left hu _) ok.hu, ok.hs⟩
section
variable {w : World} {c : Cx w} {news : Led} {fs : Option Scope} {r u k : Nat} {P : Value → Heap → Prop}

theorem JX.ifF {test : Expr} {body orelse : List Stmt} {pos : Pos} {K : Led → Flow → Prop} (h : J c (isTrue test c.env (eval test c.env)) news fun tl b => b = false ∧ JX c (execs orelse c.env) tl K P) : JX c (exec (.If test body orelse pos) c.env) news K P :=
  fun s Q E F N k x => wpAny_If (h s _ E F N fun tl b h' tk' hj F' N' => by rw [if_neg (by rw [hj.1]; exact Bool.false_ne_true)]; exact hj.2 { s with heap := h', toks := tk' } Q E F' N' (fun tl' v h'' tk'' => k tl' v h'' tk'') fun e h'' tk'' => x e h'' tk'')
theorem J.useR (ok : c.OkR fs r u) {f : Addr} {pos : List Value} {kw : List (PySem.Str × Value)} {Ret : (Led → Value → Prop) → Prop} {K : Led → Value → Prop} (H : CallR w r u f pos kw news Ret) (h : ∀ K' : Led → Value → Prop, (∀ tl r, K tl r → K' tl r) → Ret K') : J c (call (.ref f) pos kw) news K :=
  fun s Q E F N k => H c.mean c.mg c.mb c.dp c.un c.gd c.cn c.cs c.a c.ccd c.cl c.outer c.A₀ c.base c.h₀ c.L c.m s Q E ok.B F ok.X N ok.T ok.hk ok.hd ok.hu (h _ fun tl r hk h' tk' F' N' => k tl r h' tk' hk F' N')
theorem J.andT {e e2 : Expr} {rest : List Expr} {pos : Pos} {K : Led → Value → Prop} (h : J c (eval e c.env) news fun tl v => J c (truthy v) tl fun tl' b => b = true ∧ J c (eval (.BoolOp .And (e2 :: rest) pos) c.env) tl' K) : J c (eval (.BoolOp .And (e :: e2 :: rest) pos) c.env) news K :=
  fun s Q E F N q => BoolOp_and (h s _ E F N fun tl v h' tk' hj F' N' => hj { s with heap := h', toks := tk' } _ E F' N' fun tl' b h2 tk2 hb F2 N2 => by
    rw [if_pos hb.1]
    exact hb.2 { s with heap := h2, toks := tk2 } Q E F2 N2 fun tl3 v3 h3 tk3 hk F3 N3 => q tl3 v3 h3 tk3 hk F3 N3)
theorem J.andF {e e2 : Expr} {rest : List Expr} {pos : Pos} {K : Led → Value → Prop} (h : J c (eval e c.env) news fun tl v => J c (truthy v) tl fun tl' b => b = false ∧ K tl' v) : J c (eval (.BoolOp .And (e :: e2 :: rest) pos) c.env) news K :=
  fun s Q E F N q => BoolOp_and (h s _ E F N fun tl v h' tk' hj F' N' => hj { s with heap := h', toks := tk' } _ E F' N' fun tl' b h2 tk2 hb F2 N2 => by
    rw [if_neg (by rw [hb.1]; exact Bool.false_ne_true)]
    exact q _ _ h2 tk2 hb.2 F2 N2)
theorem J.andB {e e2 : Expr} {pos : Pos} {b : Bool} {K : Led → Value → Prop} (h : J c (eval e c.env) news fun tl v => v = .bool b ∧ (b = true → J c (eval e2 c.env) tl K) ∧ (b = false → K tl (.bool false))) : J c (eval (.BoolOp .And [e, e2] pos) c.env) news K :=
  fun s Q E F N q => BoolOp_and (h s _ E F N fun tl v h' tk' hj F' N' => by
    obtain ⟨rfl, h1, h2⟩ := hj
    refine wpAny_truthy_bool ?_
    cases b with
    | true => rw [if_pos rfl]; exact BoolOp_one (h1 rfl { s with heap := h', toks := tk' } Q E F' N' fun tl3 v3 h3 tk3 hk F3 N3 => q tl3 v3 h3 tk3 hk F3 N3)
    | false => rw [if_neg Bool.false_ne_true]; exact q _ _ h' tk' (h2 rfl) F' N')
theorem J.and1 {e : Expr} {pos : Pos} {K : Led → Value → Prop} (h : J c (eval e c.env) news K) : J c (eval (.BoolOp .And [e] pos) c.env) news K := fun s Q E F N q => BoolOp_one (h s Q E F N q)
theorem J.notB {b : Bool} {K : Led → Value → Prop} (h : K news (.bool (!b))) : J c (unaryOp .Not (.bool b)) news K := fun s _ _ F N q => wpAny_bind (wpAny_truthy_bool (wpAny_pure (q _ _ s.heap s.toks h F N)))
theorem J.isiNo (ok : c.OkR fs r u) {v : Value} {C : Addr} {tl : Led} {K : Led → Value → Prop} (H : IsiNo w v C news) (hs : ∀ p ∈ news, p ∈ tl) (h : K tl (.bool false)) : J c (call (.builtin "isinstance") [v, .ref C]) tl K :=
  fun s Q E F N q => H c.A c.h₀ c.L c.m s Q E (ok.X.keeps F.keep) F (fun p hp => N p (hs p hp)) fun tk' => q _ _ s.heap tk' h F N
theorem kitOwn (w : World) {C x : Addr} {ox od : Obj} (hC : C ∈ cls10) : KitX (hd.heap_1 w.params) (.ref x) (.ref C) (fun h => InstAt h x ox C (some od)) := by
  have h := (chk_cls w hC).1
  have h2 := chk_ok w
  unfold okCls at h
  unfold okAll at h2
  simp only [Bool.and_eq_true, beq_iff_eq] at h h2
  exact kitx_own h.1.1.1 h.1.1.2 h.1.2 h2.1 h2.2 h.2
theorem kit_self {K : Frag} {C : Addr} : kitOne K (.ref C) (.ref C) = some true := by
  unfold kitOne
  rw [if_pos (beq_self_eq_true _)]
theorem J.isiSelf (ok : c.OkR fs r u) {C x d : Addr} {od : Obj} {K : Led → Value → Prop} (hC : C ∈ cls10) (mx : (x, instObj C d) ∈ news) (md : (d, od) ∈ news) (h : K news (.bool true)) : J c (call (.builtin "isinstance") [.ref x, .ref C]) news K :=
  J.isi1N ok (kitOwn w hC) (fun _ N => InstAt.of_news N mx md) kit_self (fun q => nomatch q) h
theorem J.eqStr {x y : PySem.Str} {t t' : Tok} {K : Led → Value → Prop} (h : K news (.bool (x == y))) : J c (compareOp .Eq (.str x t) (.str y t')) news K := fun s _ _ F N q => eq_str (q _ _ s.heap s.toks h F N)
theorem J.neOwn (ok : c.OkR fs r u) {x C d f : Addr} {od : Obj} {v tv : Value} {b : Bool} {K : Led → Value → Prop} (H : CallR w r u f [.ref x, v] [] news (fun K => K news (.bool b))) (h1 : (x, instObj C d) ∈ news) (h2 : (d, od) ∈ news) (kd : Kd news v tv) (hn : notFirst (KP w) C tv = true) (hs : findIn (KP w) (.ref C) "__ne__" = some (some (.ref f))) (hf : isFn (KP w) (.ref f) = true) (h : K news (.bool b)) : J c (compareOp .NotEq (.ref x) v) news K :=
  fun s Q E F N q => cmp_ofNotEq (cmp_K (by have := ok.hu; show c.un < cLine; omega) F ok.X (InstAt.of_news N h1 h2) (kd.looks N) hn hs hf (H c.mean c.mg c.mb c.dp c.un c.gd c.cn c.cs c.a c.ccd c.cl c.outer c.A₀ c.base c.h₀ c.L c.m s _ E ok.B F ok.X N ok.T ok.hk ok.hd ok.hu fun h' tk' F' N' => q _ _ h' tk' h F' N'))
theorem cmpC_of {x C d f : Addr} {od : Obj} {v tv : Value} {b : Bool} (H : CallC w f [.ref x, v] [] news (fun K => K news (.bool b))) (h1 : (x, instObj C d) ∈ news) (h2 : (d, od) ∈ news) (k : Kd news v tv) (hn : notFirst (KP w) C tv = true) (hs : findIn (KP w) (.ref C) "__eq__" = some (some (.ref f))) (hf : isFn (KP w) (.ref f) = true) : CmpC w (.ref x) v news b := by
  intro mean mg mb dp un gd cn cs a ccd cl outer A₀ base h₀ L m s Q E B F X N T hk hd hu hret
  exact cmp_ofEq (cmp_K (by show un < cLine; omega) F X (InstAt.of_news N h1 h2) (k.looks N) hn hs hf (H mean mg mb dp un gd cn cs a ccd cl outer A₀ base h₀ L m s _ E B F X N T hk hd hu hret))
theorem neC_of {x C d f : Addr} {od : Obj} {v tv : Value} {b : Bool} (H : CallR w 30 300 f [.ref x, v] [] news (fun K => K news (.bool b))) (h1 : (x, instObj C d) ∈ news) (h2 : (d, od) ∈ news) (k : Kd news v tv) (hn : notFirst (KP w) C tv = true) (hs : findIn (KP w) (.ref C) "__ne__" = some (some (.ref f))) (hf : isFn (KP w) (.ref f) = true) : NeC w (.ref x) v news b := by
  intro mean mg mb dp un gd cn cs a ccd cl outer A₀ base h₀ L m s Q E B F X N T hk hd hu hret
  exact cmp_ofNotEq (cmp_K (by show un < cLine; omega) F X (InstAt.of_news N h1 h2) (k.looks N) hn hs hf (H mean mg mb dp un gd cn cs a ccd cl outer A₀ base h₀ L m s _ E B F X N T hk hd hu hret))
end
end Mine

end
-- NJ0
section
open PySem PySem.Calls PySem.W PyProof.Rows PyProof.V PySem.Spec PySem.SeqAt
namespace Mine
set_option maxRecDepth 100000
theorem filled9 (w : World) : Filled PySem.Challenge.rw_jh0019_01.row.prog (hd.heap_1 w.params) := by
  k_fill
  exact trivial
noncomputable def eqbinaryLit : List Stmt × Scope := by
  refine' litOf (f := 134) fun w => ?ho
  case ho => k_is
theorem eqbinary_run {w : World} {r u : Nat} {news : Led} {v1 v2 : Value} {Ret : (Led → Value → Prop) → Prop}
    (h : ∀ c : Cx w, c.OkR (some eqbinaryLit.2) r u → c.m (Str.ofString "self") = some v1 → c.m (Str.ofString "other") = some v2 → ∀ K, Ret K → JX c (execs eqbinaryLit.1 c.env) news (retEnd K) (fun _ _ => False)) : CallR w (r + 1) (u + 4) 134 [v1, v2] [] news Ret := by
  refine' def_run (f := 134) ?ho ?hcd ?hb ?hl ?sc ?hc ?h
  case ho | hcd => k_is
  case hb => exact fun s _ => BindsTo.of_eq rfl
  case hl => exact locs rfl
  case sc => exact ⟨rfl, rfl, rfl⟩
  case hc => decide
  case h => exact fun c ok hm K hK => h c ok (hm _ _ rfl) (hm _ _ rfl) K hK
noncomputable def eqcodeLit : List Stmt × Scope := by
  refine' litOf (f := 51) fun w => ?ho
  case ho => k_is
theorem eqcode_run {w : World} {r u : Nat} {news : Led} {v1 v2 : Value} {Ret : (Led → Value → Prop) → Prop}
    (h : ∀ c : Cx w, c.OkR (some eqcodeLit.2) r u → c.m (Str.ofString "self") = some v1 → c.m (Str.ofString "other") = some v2 → ∀ K, Ret K → JX c (execs eqcodeLit.1 c.env) news (retEnd K) (fun _ _ => False)) : CallR w (r + 1) (u + 4) 51 [v1, v2] [] news Ret := by
  refine' def_run (f := 51) ?ho ?hcd ?hb ?hl ?sc ?hc ?h
  case ho | hcd => k_is
  case hb => exact fun s _ => BindsTo.of_eq rfl
  case hl => exact locs rfl
  case sc => exact ⟨rfl, rfl, rfl⟩
  case hc => decide
  case h => exact fun c ok hm K hK => h c ok (hm _ _ rfl) (hm _ _ rfl) K hK
noncomputable def eqregexLit : List Stmt × Scope := by
  refine' litOf (f := 616) fun w => ?ho
  case ho => k_is
theorem eqregex_run {w : World} {r u : Nat} {news : Led} {v1 v2 : Value} {Ret : (Led → Value → Prop) → Prop}
    (h : ∀ c : Cx w, c.OkR (some eqregexLit.2) r u → c.m (Str.ofString "self") = some v1 → c.m (Str.ofString "other") = some v2 → ∀ K, Ret K → JX c (execs eqregexLit.1 c.env) news (retEnd K) (fun _ _ => False)) : CallR w (r + 1) (u + 4) 616 [v1, v2] [] news Ret := by
  refine' def_run (f := 616) ?ho ?hcd ?hb ?hl ?sc ?hc ?h
  case ho | hcd => k_is
  case hb => exact fun s _ => BindsTo.of_eq rfl
  case hl => exact locs rfl
  case sc => exact ⟨rfl, rfl, rfl⟩
  case hc => decide
  case h => exact fun c ok hm K hK => h c ok (hm _ _ rfl) (hm _ _ rfl) K hK
noncomputable def eqdbrefLit : List Stmt × Scope := by
  refine' litOf (f := 251) fun w => ?ho
  case ho => k_is
theorem eqdbref_run {w : World} {r u : Nat} {news : Led} {v1 v2 : Value} {Ret : (Led → Value → Prop) → Prop}
    (h : ∀ c : Cx w, c.OkR (some eqdbrefLit.2) r u → c.m (Str.ofString "self") = some v1 → c.m (Str.ofString "other") = some v2 → ∀ K, Ret K → JX c (execs eqdbrefLit.1 c.env) news (retEnd K) (fun _ _ => False)) : CallR w (r + 1) (u + 4) 251 [v1, v2] [] news Ret := by
  refine' def_run (f := 251) ?ho ?hcd ?hb ?hl ?sc ?hc ?h
  case ho | hcd => k_is
  case hb => exact fun s _ => BindsTo.of_eq rfl
  case hl => exact locs rfl
  case sc => exact ⟨rfl, rfl, rfl⟩
  case hc => decide
  case h => exact fun c ok hm K hK => h c ok (hm _ _ rfl) (hm _ _ rfl) K hK
noncomputable def eqdateLit : List Stmt × Scope := by
  refine' litOf (f := 191) fun w => ?ho
  case ho => k_is
theorem eqdate_run {w : World} {r u : Nat} {news : Led} {v1 v2 : Value} {Ret : (Led → Value → Prop) → Prop}
    (h : ∀ c : Cx w, c.OkR (some eqdateLit.2) r u → c.m (Str.ofString "self") = some v1 → c.m (Str.ofString "other") = some v2 → ∀ K, Ret K → JX c (execs eqdateLit.1 c.env) news (retEnd K) (fun _ _ => False)) : CallR w (r + 1) (u + 4) 191 [v1, v2] [] news Ret := by
  refine' def_run (f := 191) ?ho ?hcd ?hb ?hl ?sc ?hc ?h
  case ho | hcd => k_is
  case hb => exact fun s _ => BindsTo.of_eq rfl
  case hl => exact locs rfl
  case sc => exact ⟨rfl, rfl, rfl⟩
  case hc => decide
  case h => exact fun c ok hm K hK => h c ok (hm _ _ rfl) (hm _ _ rfl) K hK
noncomputable def eqint64Lit : List Stmt × Scope := by
  refine' litOf (f := 341) fun w => ?ho
  case ho => k_is
theorem eqint64_run {w : World} {r u : Nat} {news : Led} {v1 v2 : Value} {Ret : (Led → Value → Prop) → Prop}
    (h : ∀ c : Cx w, c.OkR (some eqint64Lit.2) r u → c.m (Str.ofString "self") = some v1 → c.m (Str.ofString "other") = some v2 → ∀ K, Ret K → JX c (execs eqint64Lit.1 c.env) news (retEnd K) (fun _ _ => False)) : CallR w (r + 1) (u + 4) 341 [v1, v2] [] news Ret := by
  refine' def_run (f := 341) ?ho ?hcd ?hb ?hl ?sc ?hc ?h
  case ho | hcd => k_is
  case hb => exact fun s _ => BindsTo.of_eq rfl
  case hl => exact locs rfl
  case sc => exact ⟨rfl, rfl, rfl⟩
  case hc => decide
  case h => exact fun c ok hm K hK => h c ok (hm _ _ rfl) (hm _ _ rfl) K hK
noncomputable def eqminkeyLit : List Stmt × Scope := by
  refine' litOf (f := 425) fun w => ?ho
  case ho => k_is
theorem eqminkey_run {w : World} {r u : Nat} {news : Led} {v1 v2 : Value} {Ret : (Led → Value → Prop) → Prop}
    (h : ∀ c : Cx w, c.OkR (some eqminkeyLit.2) r u → c.m (Str.ofString "self") = some v1 → c.m (Str.ofString "other") = some v2 → ∀ K, Ret K → JX c (execs eqminkeyLit.1 c.env) news (retEnd K) (fun _ _ => False)) : CallR w (r + 1) (u + 4) 425 [v1, v2] [] news Ret := by
  refine' def_run (f := 425) ?ho ?hcd ?hb ?hl ?sc ?hc ?h
  case ho | hcd => k_is
  case hb => exact fun s _ => BindsTo.of_eq rfl
  case hl => exact locs rfl
  case sc => exact ⟨rfl, rfl, rfl⟩
  case hc => decide
  case h => exact fun c ok hm K hK => h c ok (hm _ _ rfl) (hm _ _ rfl) K hK
noncomputable def eqmaxkeyLit : List Stmt × Scope := by
  refine' litOf (f := 362) fun w => ?ho
  case ho => k_is
theorem eqmaxkey_run {w : World} {r u : Nat} {news : Led} {v1 v2 : Value} {Ret : (Led → Value → Prop) → Prop}
    (h : ∀ c : Cx w, c.OkR (some eqmaxkeyLit.2) r u → c.m (Str.ofString "self") = some v1 → c.m (Str.ofString "other") = some v2 → ∀ K, Ret K → JX c (execs eqmaxkeyLit.1 c.env) news (retEnd K) (fun _ _ => False)) : CallR w (r + 1) (u + 4) 362 [v1, v2] [] news Ret := by
  refine' def_run (f := 362) ?ho ?hcd ?hb ?hl ?sc ?hc ?h
  case ho | hcd => k_is
  case hb => exact fun s _ => BindsTo.of_eq rfl
  case hl => exact locs rfl
  case sc => exact ⟨rfl, rfl, rfl⟩
  case hc => decide
  case h => exact fun c ok hm K hK => h c ok (hm _ _ rfl) (hm _ _ rfl) K hK
noncomputable def eqobjidLit : List Stmt × Scope := by
  refine' litOf (f := 545) fun w => ?ho
  case ho => k_is
theorem eqobjid_run {w : World} {r u : Nat} {news : Led} {v1 v2 : Value} {Ret : (Led → Value → Prop) → Prop}
    (h : ∀ c : Cx w, c.OkR (some eqobjidLit.2) r u → c.m (Str.ofString "self") = some v1 → c.m (Str.ofString "other") = some v2 → ∀ K, Ret K → JX c (execs eqobjidLit.1 c.env) news (retEnd K) (fun _ _ => False)) : CallR w (r + 1) (u + 4) 545 [v1, v2] [] news Ret := by
  refine' def_run (f := 545) ?ho ?hcd ?hb ?hl ?sc ?hc ?h
  case ho | hcd => k_is
  case hb => exact fun s _ => BindsTo.of_eq rfl
  case hl => exact locs rfl
  case sc => exact ⟨rfl, rfl, rfl⟩
  case hc => decide
  case h => exact fun c ok hm K hK => h c ok (hm _ _ rfl) (hm _ _ rfl) K hK
noncomputable def eqstampLit : List Stmt × Scope := by
  refine' litOf (f := 667) fun w => ?ho
  case ho => k_is
theorem eqstamp_run {w : World} {r u : Nat} {news : Led} {v1 v2 : Value} {Ret : (Led → Value → Prop) → Prop}
    (h : ∀ c : Cx w, c.OkR (some eqstampLit.2) r u → c.m (Str.ofString "self") = some v1 → c.m (Str.ofString "other") = some v2 → ∀ K, Ret K → JX c (execs eqstampLit.1 c.env) news (retEnd K) (fun _ _ => False)) : CallR w (r + 1) (u + 4) 667 [v1, v2] [] news Ret := by
  refine' def_run (f := 667) ?ho ?hcd ?hb ?hl ?sc ?hc ?h
  case ho | hcd => k_is
  case hb => exact fun s _ => BindsTo.of_eq rfl
  case hl => exact locs rfl
  case sc => exact ⟨rfl, rfl, rfl⟩
  case hc => decide
  case h => exact fun c ok hm K hK => h c ok (hm _ _ rfl) (hm _ _ rfl) K hK
noncomputable def nebinaryLit : List Stmt × Scope := by
  refine' litOf (f := 141) fun w => ?ho
  case ho => k_is
theorem nebinary_run {w : World} {r u : Nat} {news : Led} {v1 v2 : Value} {Ret : (Led → Value → Prop) → Prop}
    (h : ∀ c : Cx w, c.OkR (some nebinaryLit.2) r u → c.m (Str.ofString "self") = some v1 → c.m (Str.ofString "other") = some v2 → ∀ K, Ret K → JX c (execs nebinaryLit.1 c.env) news (retEnd K) (fun _ _ => False)) : CallR w (r + 1) (u + 4) 141 [v1, v2] [] news Ret := by
  refine' def_run (f := 141) ?ho ?hcd ?hb ?hl ?sc ?hc ?h
  case ho | hcd => k_is
  case hb => exact fun s _ => BindsTo.of_eq rfl
  case hl => exact locs rfl
  case sc => exact ⟨rfl, rfl, rfl⟩
  case hc => decide
  case h => exact fun c ok hm K hK => h c ok (hm _ _ rfl) (hm _ _ rfl) K hK
noncomputable def necodeLit : List Stmt × Scope := by
  refine' litOf (f := 58) fun w => ?ho
  case ho => k_is
theorem necode_run {w : World} {r u : Nat} {news : Led} {v1 v2 : Value} {Ret : (Led → Value → Prop) → Prop}
    (h : ∀ c : Cx w, c.OkR (some necodeLit.2) r u → c.m (Str.ofString "self") = some v1 → c.m (Str.ofString "other") = some v2 → ∀ K, Ret K → JX c (execs necodeLit.1 c.env) news (retEnd K) (fun _ _ => False)) : CallR w (r + 1) (u + 4) 58 [v1, v2] [] news Ret := by
  refine' def_run (f := 58) ?ho ?hcd ?hb ?hl ?sc ?hc ?h
  case ho | hcd => k_is
  case hb => exact fun s _ => BindsTo.of_eq rfl
  case hl => exact locs rfl
  case sc => exact ⟨rfl, rfl, rfl⟩
  case hc => decide
  case h => exact fun c ok hm K hK => h c ok (hm _ _ rfl) (hm _ _ rfl) K hK
noncomputable def neregexLit : List Stmt × Scope := by
  refine' litOf (f := 623) fun w => ?ho
  case ho => k_is
theorem neregex_run {w : World} {r u : Nat} {news : Led} {v1 v2 : Value} {Ret : (Led → Value → Prop) → Prop}
    (h : ∀ c : Cx w, c.OkR (some neregexLit.2) r u → c.m (Str.ofString "self") = some v1 → c.m (Str.ofString "other") = some v2 → ∀ K, Ret K → JX c (execs neregexLit.1 c.env) news (retEnd K) (fun _ _ => False)) : CallR w (r + 1) (u + 4) 623 [v1, v2] [] news Ret := by
  refine' def_run (f := 623) ?ho ?hcd ?hb ?hl ?sc ?hc ?h
  case ho | hcd => k_is
  case hb => exact fun s _ => BindsTo.of_eq rfl
  case hl => exact locs rfl
  case sc => exact ⟨rfl, rfl, rfl⟩
  case hc => decide
  case h => exact fun c ok hm K hK => h c ok (hm _ _ rfl) (hm _ _ rfl) K hK
noncomputable def nedbrefLit : List Stmt × Scope := by
  refine' litOf (f := 258) fun w => ?ho
  case ho => k_is
theorem nedbref_run {w : World} {r u : Nat} {news : Led} {v1 v2 : Value} {Ret : (Led → Value → Prop) → Prop}
    (h : ∀ c : Cx w, c.OkR (some nedbrefLit.2) r u → c.m (Str.ofString "self") = some v1 → c.m (Str.ofString "other") = some v2 → ∀ K, Ret K → JX c (execs nedbrefLit.1 c.env) news (retEnd K) (fun _ _ => False)) : CallR w (r + 1) (u + 4) 258 [v1, v2] [] news Ret := by
  refine' def_run (f := 258) ?ho ?hcd ?hb ?hl ?sc ?hc ?h
  case ho | hcd => k_is
  case hb => exact fun s _ => BindsTo.of_eq rfl
  case hl => exact locs rfl
  case sc => exact ⟨rfl, rfl, rfl⟩
  case hc => decide
  case h => exact fun c ok hm K hK => h c ok (hm _ _ rfl) (hm _ _ rfl) K hK
noncomputable def nedateLit : List Stmt × Scope := by
  refine' litOf (f := 198) fun w => ?ho
  case ho => k_is
theorem nedate_run {w : World} {r u : Nat} {news : Led} {v1 v2 : Value} {Ret : (Led → Value → Prop) → Prop}
    (h : ∀ c : Cx w, c.OkR (some nedateLit.2) r u → c.m (Str.ofString "self") = some v1 → c.m (Str.ofString "other") = some v2 → ∀ K, Ret K → JX c (execs nedateLit.1 c.env) news (retEnd K) (fun _ _ => False)) : CallR w (r + 1) (u + 4) 198 [v1, v2] [] news Ret := by
  refine' def_run (f := 198) ?ho ?hcd ?hb ?hl ?sc ?hc ?h
  case ho | hcd => k_is
  case hb => exact fun s _ => BindsTo.of_eq rfl
  case hl => exact locs rfl
  case sc => exact ⟨rfl, rfl, rfl⟩
  case hc => decide
  case h => exact fun c ok hm K hK => h c ok (hm _ _ rfl) (hm _ _ rfl) K hK
theorem lb_NotImpl (w : World) : LB w (Str.ofString "NotImplemented") .notImplemented := ⟨by kernel_rfl, by kernel_rfl, by decide +kernel⟩
end Mine

end
-- NJ1
section
open PySem PySem.Calls PySem.W PyProof.Rows PyProof.V PySem.Spec PySem.SeqAt
namespace Mine
set_option maxRecDepth 100000
theorem filled10 (w : World) : Filled PySem.Challenge.rw_jh0019_01.row.prog (hd.heap_1 w.params) := by
  k_fill
  exact trivial
theorem eqa_binary (w : World) (news : Led) (x d : Addr) (u : Value) (hI : IsiNo w u 144 news) :
    CallC w 134 [.ref x, u] [] ((x, instObj 144 d) :: news) (fun K => K ((x, instObj 144 d) :: news) (.bool false)) := Mine.into (by exact Mine.thru : Mine.Thru _ (by
    refine .ofR (eqbinary_run fun c ok h1 h2 K hK => ?_)
    refine JX.cons (JR.ifF ?_)
    repeat' (first | walk_at "jb" | ((with_reducible refine J.g ok (x := Str.ofString "Binary") ?hx (lg_Binary w) ?_); (case hx => exact ⟨by kernel_rfl, by kernel_rfl⟩)) | ((with_reducible refine J.tplain ?_ ?he); (case he => exact rfl)))
    refine J.isiNo ok hI (fun p hp => by first | exact .tail _ hp | exact (by with_reducible assumption : ∀ p ∈ _ :: news, p ∈ _) p (.tail _ hp)) ?_
    repeat' walk_at "jb"
    refine ⟨rfl, JR.nil ⟨rfl, JX.last (JX.ret ?_)⟩⟩
    repeat' (with_reducible refine J.bool ?_)
    exact ⟨Flow.noConfusion, _, _, rfl, fun _ p => p, hK⟩))
theorem eqa_code (w : World) (news : Led) (x d : Addr) (u : Value) (hI : IsiNo w u 61 news) :
    CallC w 51 [.ref x, u] [] ((x, instObj 61 d) :: news) (fun K => K ((x, instObj 61 d) :: news) (.bool false)) := Mine.into (by exact Mine.thru : Mine.Thru _ (by
    refine .ofR (eqcode_run fun c ok h1 h2 K hK => ?_)
    refine JX.cons (JR.ifF ?_)
    repeat' (first | walk_at "jb" | ((with_reducible refine J.g ok (x := Str.ofString "Code") ?hx (lg_Code w) ?_); (case hx => exact ⟨by kernel_rfl, by kernel_rfl⟩)) | ((with_reducible refine J.tplain ?_ ?he); (case he => exact rfl)))
    refine J.isiNo ok hI (fun p hp => by first | exact .tail _ hp | exact (by with_reducible assumption : ∀ p ∈ _ :: news, p ∈ _) p (.tail _ hp)) ?_
    repeat' walk_at "jb"
    refine ⟨rfl, JR.nil ⟨rfl, JX.last (JX.ret ?_)⟩⟩
    repeat' (with_reducible refine J.bool ?_)
    exact ⟨Flow.noConfusion, _, _, rfl, fun _ p => p, hK⟩))
theorem eqa_regex (w : World) (news : Led) (x d : Addr) (u : Value) (hI : IsiNo w u 626 news) :
    CallC w 616 [.ref x, u] [] ((x, instObj 626 d) :: news) (fun K => K ((x, instObj 626 d) :: news) (.notImplemented)) := Mine.into (by exact Mine.thru : Mine.Thru _ (by
    refine .ofR (eqregex_run fun c ok h1 h2 K hK => ?_)
    refine JX.last (JX.ifF ?_)
    repeat' (first | walk_at "jb" | ((with_reducible refine J.g ok (x := Str.ofString "Regex") ?hx (lg_Regex w) ?_); (case hx => exact ⟨by kernel_rfl, by kernel_rfl⟩)) | ((with_reducible refine J.tplain ?_ ?he); (case he => exact rfl)))
    refine J.isiNo ok hI (fun p hp => by first | exact .tail _ hp | exact (by with_reducible assumption : ∀ p ∈ _ :: news, p ∈ _) p (.tail _ hp)) ?_
    repeat' walk_at "jb"
    refine ⟨rfl, JX.last (JX.ret ?_)⟩
    repeat' ((with_reducible refine J.b ok (x := Str.ofString "NotImplemented") ?hx (lb_NotImpl w) ?_); (case hx => exact ⟨by kernel_rfl, by kernel_rfl⟩))
    exact ⟨Flow.noConfusion, Flow.noConfusion, _, _, rfl, fun _ p => p, hK⟩))
theorem eqa_dbref (w : World) (news : Led) (x d : Addr) (u : Value) (hI : IsiNo w u 261 news) :
    CallC w 251 [.ref x, u] [] ((x, instObj 261 d) :: news) (fun K => K ((x, instObj 261 d) :: news) (.notImplemented)) := Mine.into (by exact Mine.thru : Mine.Thru _ (by
    refine .ofR (eqdbref_run fun c ok h1 h2 K hK => ?_)
    refine JX.cons (JR.ifF ?_)
    repeat' (first | walk_at "jb" | ((with_reducible refine J.g ok (x := Str.ofString "DBRef") ?hx (lg_DBRef w) ?_); (case hx => exact ⟨by kernel_rfl, by kernel_rfl⟩)) | ((with_reducible refine J.tplain ?_ ?he); (case he => exact rfl)))
    refine J.isiNo ok hI (fun p hp => by first | exact .tail _ hp | exact (by with_reducible assumption : ∀ p ∈ _ :: news, p ∈ _) p (.tail _ hp)) ?_
    repeat' walk_at "jb"
    refine ⟨rfl, JR.nil ⟨rfl, JX.last (JX.ret ?_)⟩⟩
    repeat' ((with_reducible refine J.b ok (x := Str.ofString "NotImplemented") ?hx (lb_NotImpl w) ?_); (case hx => exact ⟨by kernel_rfl, by kernel_rfl⟩))
    exact ⟨Flow.noConfusion, _, _, rfl, fun _ p => p, hK⟩))
theorem eqa_date (w : World) (news : Led) (x d : Addr) (u : Value) (hI : IsiNo w u 201 news) :
    CallC w 191 [.ref x, u] [] ((x, instObj 201 d) :: news) (fun K => K ((x, instObj 201 d) :: news) (.bool false)) := Mine.into (by exact Mine.thru : Mine.Thru _ (by
    refine .ofR (eqdate_run fun c ok h1 h2 K hK => ?_)
    refine JX.cons (JR.ifF ?_)
    repeat' (first | walk_at "jb" | ((with_reducible refine J.g ok (x := Str.ofString "DatetimeMS") ?hx (lg_DatetimeMS w) ?_); (case hx => exact ⟨by kernel_rfl, by kernel_rfl⟩)) | ((with_reducible refine J.tplain ?_ ?he); (case he => exact rfl)))
    refine J.isiNo ok hI (fun p hp => by first | exact .tail _ hp | exact (by with_reducible assumption : ∀ p ∈ _ :: news, p ∈ _) p (.tail _ hp)) ?_
    repeat' walk_at "jb"
    refine ⟨rfl, JR.nil ⟨rfl, JX.last (JX.ret ?_)⟩⟩
    repeat' (with_reducible refine J.bool ?_)
    exact ⟨Flow.noConfusion, _, _, rfl, fun _ p => p, hK⟩))
theorem eqa_int64 (w : World) (news : Led) (x d : Addr) (u : Value) (hI : IsiNo w u 344 news) :
    CallC w 341 [.ref x, u] [] ((x, instObj 344 d) :: news) (fun K => K ((x, instObj 344 d) :: news) (.bool false)) := Mine.into (by exact Mine.thru : Mine.Thru _ (by
    refine .ofR (eqint64_run fun c ok h1 h2 K hK => ?_)
    refine JX.last (JX.ret (J.andF ?_))
    repeat' (first | walk_at "jb" | ((with_reducible refine J.g ok (x := Str.ofString "Int64") ?hx (lg_Int64 w) ?_); (case hx => exact ⟨by kernel_rfl, by kernel_rfl⟩)))
    refine J.isiNo ok hI (fun p hp => by first | exact .tail _ hp | exact (by with_reducible assumption : ∀ p ∈ _ :: news, p ∈ _) p (.tail _ hp)) ?_
    repeat' walk_at "jb"
    exact ⟨rfl, Flow.noConfusion, _, _, rfl, fun _ p => p, hK⟩))
theorem eqa_minkey (w : World) (news : Led) (x d : Addr) (u : Value) (hI : IsiNo w u 470 news) :
    CallC w 425 [.ref x, u] [] ((x, instObj 470 d) :: news) (fun K => K ((x, instObj 470 d) :: news) (.bool false)) := Mine.into (by exact Mine.thru : Mine.Thru _ (by
    refine .ofR (eqminkey_run fun c ok h1 h2 K hK => ?_)
    refine JX.last (JX.ret ?_)
    repeat' (first | walk_at "jb" | ((with_reducible refine J.g ok (x := Str.ofString "MinKey") ?hx (lg_MinKey w) ?_); (case hx => exact ⟨by kernel_rfl, by kernel_rfl⟩)))
    refine J.isiNo ok hI (fun p hp => by first | exact .tail _ hp | exact (by with_reducible assumption : ∀ p ∈ _ :: news, p ∈ _) p (.tail _ hp)) ?_
    exact ⟨Flow.noConfusion, _, _, rfl, fun _ p => p, hK⟩))
theorem eqa_maxkey (w : World) (news : Led) (x d : Addr) (u : Value) (hI : IsiNo w u 407 news) :
    CallC w 362 [.ref x, u] [] ((x, instObj 407 d) :: news) (fun K => K ((x, instObj 407 d) :: news) (.bool false)) := Mine.into (by exact Mine.thru : Mine.Thru _ (by
    refine .ofR (eqmaxkey_run fun c ok h1 h2 K hK => ?_)
    refine JX.last (JX.ret ?_)
    repeat' (first | walk_at "jb" | ((with_reducible refine J.g ok (x := Str.ofString "MaxKey") ?hx (lg_MaxKey w) ?_); (case hx => exact ⟨by kernel_rfl, by kernel_rfl⟩)))
    refine J.isiNo ok hI (fun p hp => by first | exact .tail _ hp | exact (by with_reducible assumption : ∀ p ∈ _ :: news, p ∈ _) p (.tail _ hp)) ?_
    exact ⟨Flow.noConfusion, _, _, rfl, fun _ p => p, hK⟩))
theorem eqa_objid (w : World) (news : Led) (x d : Addr) (u : Value) (hI : IsiNo w u 583 news) :
    CallC w 545 [.ref x, u] [] ((x, instObj 583 d) :: news) (fun K => K ((x, instObj 583 d) :: news) (.notImplemented)) := Mine.into (by exact Mine.thru : Mine.Thru _ (by
    refine .ofR (eqobjid_run fun c ok h1 h2 K hK => ?_)
    refine JX.cons (JR.ifF ?_)
    repeat' (first | walk_at "jb" | ((with_reducible refine J.g ok (x := Str.ofString "ObjectId") ?hx (lg_ObjectId w) ?_); (case hx => exact ⟨by kernel_rfl, by kernel_rfl⟩)) | ((with_reducible refine J.tplain ?_ ?he); (case he => exact rfl)))
    refine J.isiNo ok hI (fun p hp => by first | exact .tail _ hp | exact (by with_reducible assumption : ∀ p ∈ _ :: news, p ∈ _) p (.tail _ hp)) ?_
    repeat' walk_at "jb"
    refine ⟨rfl, JR.nil ⟨rfl, JX.last (JX.ret ?_)⟩⟩
    repeat' ((with_reducible refine J.b ok (x := Str.ofString "NotImplemented") ?hx (lb_NotImpl w) ?_); (case hx => exact ⟨by kernel_rfl, by kernel_rfl⟩))
    exact ⟨Flow.noConfusion, _, _, rfl, fun _ p => p, hK⟩))
theorem eqa_stamp (w : World) (news : Led) (x d : Addr) (u : Value) (hI : IsiNo w u 705 news) :
    CallC w 667 [.ref x, u] [] ((x, instObj 705 d) :: news) (fun K => K ((x, instObj 705 d) :: news) (.notImplemented)) := Mine.into (by exact Mine.thru : Mine.Thru _ (by
    refine .ofR (eqstamp_run fun c ok h1 h2 K hK => ?_)
    refine JX.last (JX.ifF ?_)
    repeat' (first | walk_at "jb" | ((with_reducible refine J.g ok (x := Str.ofString "Timestamp") ?hx (lg_Timestamp w) ?_); (case hx => exact ⟨by kernel_rfl, by kernel_rfl⟩)) | ((with_reducible refine J.tplain ?_ ?he); (case he => exact rfl)))
    refine J.isiNo ok hI (fun p hp => by first | exact .tail _ hp | exact (by with_reducible assumption : ∀ p ∈ _ :: news, p ∈ _) p (.tail _ hp)) ?_
    repeat' walk_at "jb"
    refine ⟨rfl, JX.last (JX.ret ?_)⟩
    repeat' ((with_reducible refine J.b ok (x := Str.ofString "NotImplemented") ?hx (lb_NotImpl w) ?_); (case hx => exact ⟨by kernel_rfl, by kernel_rfl⟩))
    exact ⟨Flow.noConfusion, Flow.noConfusion, _, _, rfl, fun _ p => p, hK⟩))
end Mine

end
-- NJ2
section
open PySem PySem.Calls PySem.W PyProof.Rows PyProof.V PySem.Spec PySem.SeqAt
namespace Mine
set_option maxRecDepth 100000
theorem filled11 (w : World) : Filled PySem.Challenge.rw_jh0019_01.row.prog (hd.heap_1 w.params) := by
  k_fill
  exact trivial
theorem EqJ.same {w : World} {c : Cx w} {k : Nat} {news : Led} {v : Value} : EqJ c k news v v true := fun _ _ _ _ => EqW.of (EqAt.same v)
theorem EqJ.baseStr {w : World} {c : Cx w} {k : Nat} {news : Led} {ob : Option PySem.Str} {y : PySem.Str} {t u : Tok} : EqJ c k news (baseV ob t) (.str y u) (ob == some y) := fun _ _ _ _ => eqW_base_str _ _ _ _
section
variable {w : World} {news : Led} {x1 d1 x2 d2 : Addr} {es1 es2 : List DictEntry} {n1 n2 : Nat}
theorem ga144data (w : World) : GA w 144 (Str.ofString "data") := ⟨by kernel_rfl, by kernel_rfl, by kernel_rfl⟩
theorem ga144_subtype (w : World) : GA w 144 (Str.ofString "_subtype") := ⟨by kernel_rfl, by kernel_rfl, by kernel_rfl⟩
theorem ga626pattern (w : World) : GA w 626 (Str.ofString "pattern") := ⟨by kernel_rfl, by kernel_rfl, by kernel_rfl⟩
theorem ga261_collection (w : World) : GA w 261 (Str.ofString "_collection") := ⟨by kernel_rfl, by kernel_rfl, by kernel_rfl⟩
theorem ga261_id (w : World) : GA w 261 (Str.ofString "_id") := ⟨by kernel_rfl, by kernel_rfl, by kernel_rfl⟩
theorem ga261_database (w : World) : GA w 261 (Str.ofString "_database") := ⟨by kernel_rfl, by kernel_rfl, by kernel_rfl⟩
theorem ga261_kwargs (w : World) : GA w 261 (Str.ofString "_kwargs") := ⟨by kernel_rfl, by kernel_rfl, by kernel_rfl⟩
theorem ga201_value (w : World) : GA w 201 (Str.ofString "_value") := ⟨by kernel_rfl, by kernel_rfl, by kernel_rfl⟩
theorem ga344value (w : World) : GA w 344 (Str.ofString "value") := ⟨by kernel_rfl, by kernel_rfl, by kernel_rfl⟩
theorem ga583_id (w : World) : GA w 583 (Str.ofString "_id") := ⟨by kernel_rfl, by kernel_rfl, by kernel_rfl⟩
theorem ga705_time (w : World) : GA w 705 (Str.ofString "_time") := ⟨by kernel_rfl, by kernel_rfl, by kernel_rfl⟩
theorem ga705_inc (w : World) : GA w 705 (Str.ofString "_inc") := ⟨by kernel_rfl, by kernel_rfl, by kernel_rfl⟩
theorem J.binSub {c : Cx w} {fs : Option Scope} {r u : Nat} (ok : c.OkR fs (r + 1) (u + 4)) {x d : Addr} {es : List DictEntry} {n : Nat} {v : Value} {K : Led → Value → Prop} (mx : (x, instObj 144 d) ∈ news) (md : (d, dictOf es n) ∈ news) (hg : getL (Str.ofString "_subtype") es = some (some v)) (hv : handedIn v = true) (h : K news v) : J c (getAttr (.ref x) (Str.ofString "subtype") true) news K := by
  refine' J.field ok (PropField.mk ?hg ?hh ?ha ?hn ?ht ?hp ?ho ?hcd ?hb ?hl ?sc ?hc (ga144_subtype w)) mx md hg hv h
  case ha | hg | hh | hn | ht | hp | ho | hcd => k_is
  case hb => exact fun x s => BindsTo.of_eq rfl
  case hl => rfl
  case sc => exact ⟨rfl, rfl, rfl⟩
  case hc => decide
theorem J.refCol {c : Cx w} {fs : Option Scope} {r u : Nat} (ok : c.OkR fs (r + 1) (u + 4)) {x d : Addr} {es : List DictEntry} {n : Nat} {v : Value} {K : Led → Value → Prop} (mx : (x, instObj 261 d) ∈ news) (md : (d, dictOf es n) ∈ news) (hg : getL (Str.ofString "_collection") es = some (some v)) (hv : handedIn v = true) (h : K news v) : J c (getAttr (.ref x) (Str.ofString "collection") true) news K := by
  refine' J.field ok (PropField.mk ?hg ?hh ?ha ?hn ?ht ?hp ?ho ?hcd ?hb ?hl ?sc ?hc (ga261_collection w)) mx md hg hv h
  case ha | hg | hh | hn | ht | hp | ho | hcd => k_is
  case hb => exact fun x s => BindsTo.of_eq rfl
  case hl => rfl
  case sc => exact ⟨rfl, rfl, rfl⟩
  case hc => decide
theorem J.refId {c : Cx w} {fs : Option Scope} {r u : Nat} (ok : c.OkR fs (r + 1) (u + 4)) {x d : Addr} {es : List DictEntry} {n : Nat} {v : Value} {K : Led → Value → Prop} (mx : (x, instObj 261 d) ∈ news) (md : (d, dictOf es n) ∈ news) (hg : getL (Str.ofString "_id") es = some (some v)) (hv : handedIn v = true) (h : K news v) : J c (getAttr (.ref x) (Str.ofString "id") true) news K := by
  refine' J.field ok (PropField.mk ?hg ?hh ?ha ?hn ?ht ?hp ?ho ?hcd ?hb ?hl ?sc ?hc (ga261_id w)) mx md hg hv h
  case ha | hg | hh | hn | ht | hp | ho | hcd => k_is
  case hb => exact fun x s => BindsTo.of_eq rfl
  case hl => rfl
  case sc => exact ⟨rfl, rfl, rfl⟩
  case hc => decide
theorem J.refDb {c : Cx w} {fs : Option Scope} {r u : Nat} (ok : c.OkR fs (r + 1) (u + 4)) {x d : Addr} {es : List DictEntry} {n : Nat} {v : Value} {K : Led → Value → Prop} (mx : (x, instObj 261 d) ∈ news) (md : (d, dictOf es n) ∈ news) (hg : getL (Str.ofString "_database") es = some (some v)) (hv : handedIn v = true) (h : K news v) : J c (getAttr (.ref x) (Str.ofString "database") true) news K := by
  refine' J.field ok (PropField.mk ?hg ?hh ?ha ?hn ?ht ?hp ?ho ?hcd ?hb ?hl ?sc ?hc (ga261_database w)) mx md hg hv h
  case ha | hg | hh | hn | ht | hp | ho | hcd => k_is
  case hb => exact fun x s => BindsTo.of_eq rfl
  case hl => rfl
  case sc => exact ⟨rfl, rfl, rfl⟩
  case hc => decide
theorem J.oidBin {c : Cx w} {fs : Option Scope} {r u : Nat} (ok : c.OkR fs (r + 1) (u + 4)) {x d : Addr} {es : List DictEntry} {n : Nat} {v : Value} {K : Led → Value → Prop} (mx : (x, instObj 583 d) ∈ news) (md : (d, dictOf es n) ∈ news) (hg : getL (Str.ofString "_id") es = some (some v)) (hv : handedIn v = true) (h : K news v) : J c (getAttr (.ref x) (Str.ofString "binary") true) news K := by
  refine' J.field ok (PropField.mk ?hg ?hh ?ha ?hn ?ht ?hp ?ho ?hcd ?hb ?hl ?sc ?hc (ga583_id w)) mx md hg hv h
  case ha | hg | hh | hn | ht | hp | ho | hcd => k_is
  case hb => exact fun x s => BindsTo.of_eq rfl
  case hl => rfl
  case sc => exact ⟨rfl, rfl, rfl⟩
  case hc => decide
theorem J.tsTime {c : Cx w} {fs : Option Scope} {r u : Nat} (ok : c.OkR fs (r + 1) (u + 4)) {x d : Addr} {es : List DictEntry} {n : Nat} {v : Value} {K : Led → Value → Prop} (mx : (x, instObj 705 d) ∈ news) (md : (d, dictOf es n) ∈ news) (hg : getL (Str.ofString "_time") es = some (some v)) (hv : handedIn v = true) (h : K news v) : J c (getAttr (.ref x) (Str.ofString "time") true) news K := by
  refine' J.field ok (PropField.mk ?hg ?hh ?ha ?hn ?ht ?hp ?ho ?hcd ?hb ?hl ?sc ?hc (ga705_time w)) mx md hg hv h
  case ha | hg | hh | hn | ht | hp | ho | hcd => k_is
  case hb => exact fun x s => BindsTo.of_eq rfl
  case hl => rfl
  case sc => exact ⟨rfl, rfl, rfl⟩
  case hc => decide
theorem J.tsInc {c : Cx w} {fs : Option Scope} {r u : Nat} (ok : c.OkR fs (r + 1) (u + 4)) {x d : Addr} {es : List DictEntry} {n : Nat} {v : Value} {K : Led → Value → Prop} (mx : (x, instObj 705 d) ∈ news) (md : (d, dictOf es n) ∈ news) (hg : getL (Str.ofString "_inc") es = some (some v)) (hv : handedIn v = true) (h : K news v) : J c (getAttr (.ref x) (Str.ofString "inc") true) news K := by
  refine' J.field ok (PropField.mk ?hg ?hh ?ha ?hn ?ht ?hp ?ho ?hcd ?hb ?hl ?sc ?hc (ga705_inc w)) mx md hg hv h
  case ha | hg | hh | hn | ht | hp | ho | hcd => k_is
  case hb => exact fun x s => BindsTo.of_eq rfl
  case hl => rfl
  case sc => exact ⟨rfl, rfl, rfl⟩
  case hc => decide
theorem eqJ_code (h1 : (x1, instObj 61 d1) ∈ news) (h2 : (d1, dictOf es1 n1) ∈ news) (h3 : (x2, instObj 61 d2) ∈ news) (h4 : (d2, dictOf es2 n2) ∈ news) {p1 q1 p2 q2 : Value} {b : Bool} (g1 : getL (Str.ofString "_scope") es1 = some (some p1)) (g2 : getL (Str.ofString "text") es1 = some (some q1)) (g3 : getL (Str.ofString "_scope") es2 = some (some p2)) (g4 : getL (Str.ofString "text") es2 = some (some q2)) (v1 : handedIn p1 = true) (v2 : handedIn q1 = true) (v3 : handedIn p2 = true) (v4 : handedIn q2 = true)
    (hE : ∀ (c : Cx w) (fs : Option Scope), c.OkR fs 7 60 → ∀ tl, (∀ p ∈ news, p ∈ tl) → EqJs c 1 tl [p1, q1] [p2, q2] b) : CmpC w (.ref x1) (.ref x2) news b := Mine.into (by exact Mine.thru : Mine.Thru _ (by
    refine cmpC_of (tv := .ref 61) (.ofR (eqcode_run fun c ok e1 e2 K hK => ?_)) h1 h2 (.inst h3 h4) (by kernel_rfl) (by kernel_rfl) (by kernel_rfl)
    refine JX.last (JX.ifT ?_)
    repeat' (first | walk_at "jb" | ((with_reducible refine J.g ok (x := Str.ofString "Code") ?hx (lg_Code w) ?_); (case hx => exact ⟨by kernel_rfl, by kernel_rfl⟩)) | ((with_reducible refine J.tplain ?_ ?he); (case he => exact rfl)))
    refine J.isiSelf ok (by decide) h3 h4 ?_
    repeat' walk_at "jb"
    refine ⟨rfl, JX.last (JX.ret (J.cmp ?_ rfl))⟩
    repeat' (first | walk_at "jb" | with_reducible refine J.tuple ?_ | with_reducible refine J.Attr ?_)
    refine J.ownR ok h1 h2 (ga_scope w) g1 v1 ?_
    repeat' (first | walk_at "jb" | with_reducible refine J.Attr ?_)
    refine J.ownR ok h1 h2 (ga_text w) g2 v2 ?_
    repeat' (first | walk_at "jb" | with_reducible refine J.tuple ?_ | ((with_reducible refine NewK.intro ?hz ?_); (case hz => exact Nat.le_of_ble_eq_true rfl); intros) | with_reducible refine J.Attr ?_)
    refine J.ownR ok ((by with_reducible assumption : ∀ p ∈ news, p ∈ _) _ h3) ((by with_reducible assumption : ∀ p ∈ news, p ∈ _) _ h4) (ga_scope w) g3 v3 ?_
    repeat' (first | walk_at "jb" | with_reducible refine J.Attr ?_)
    refine J.ownR ok ((by with_reducible assumption : ∀ p ∈ news, p ∈ _) _ h3) ((by with_reducible assumption : ∀ p ∈ news, p ∈ _) _ h4) (ga_text w) g4 v4 ?_
    repeat' (first | walk_at "jb" | ((with_reducible refine NewK.intro ?hz ?_); (case hz => exact Nat.le_of_ble_eq_true rfl); intros))
    rename_i l1 t1 s1 m1 o1 l2 t2 s2 m2 o2
    exact J.eqT ok (s2 _ m1) m2 (hE c _ ok _ fun p hp => s2 _ (s1 _ hp)) ⟨Flow.noConfusion, Flow.noConfusion, _, _, rfl, fun p hp => s2 _ (s1 _ hp), hK⟩))
theorem eqJ_binary (h1 : (x1, instObj 144 d1) ∈ news) (h2 : (d1, dictOf es1 n1) ∈ news) (h3 : (x2, instObj 144 d2) ∈ news) (h4 : (d2, dictOf es2 n2) ∈ news) {p1 q1 p2 q2 : Value} {b : Bool} (g1 : getL (Str.ofString "_subtype") es1 = some (some p1)) (g2 : getL (Str.ofString "data") es1 = some (some q1)) (g3 : getL (Str.ofString "_subtype") es2 = some (some p2)) (g4 : getL (Str.ofString "data") es2 = some (some q2)) (v1 : handedIn p1 = true) (v2 : handedIn q1 = true) (v3 : handedIn p2 = true) (v4 : handedIn q2 = true)
    (hE : ∀ (c : Cx w) (fs : Option Scope), c.OkR fs 7 60 → ∀ tl, (∀ p ∈ news, p ∈ tl) → EqJs c 1 tl [p1, q1] [p2, q2] b) : CmpC w (.ref x1) (.ref x2) news b := Mine.into (by exact Mine.thru : Mine.Thru _ (by
    refine cmpC_of (tv := .ref 144) (.ofR (eqbinary_run fun c ok e1 e2 K hK => ?_)) h1 h2 (.inst h3 h4) (by kernel_rfl) (by kernel_rfl) (by kernel_rfl)
    refine JX.last (JX.ifT ?_)
    repeat' (first | walk_at "jb" | ((with_reducible refine J.g ok (x := Str.ofString "Binary") ?hx (lg_Binary w) ?_); (case hx => exact ⟨by kernel_rfl, by kernel_rfl⟩)) | ((with_reducible refine J.tplain ?_ ?he); (case he => exact rfl)))
    refine J.isiSelf ok (by decide) h3 h4 ?_
    repeat' walk_at "jb"
    refine ⟨rfl, JX.last (JX.ret (J.cmp ?_ rfl))⟩
    repeat' (first | walk_at "jb" | with_reducible refine J.tuple ?_ | with_reducible refine J.Attr ?_)
    refine J.ownR ok h1 h2 (ga144_subtype w) g1 v1 ?_
    repeat' (first | walk_at "jb" | with_reducible refine J.Attr ?_)
    refine J.ownR ok h1 h2 (ga144data w) g2 v2 ?_
    repeat' (first | walk_at "jb" | with_reducible refine J.tuple ?_ | ((with_reducible refine NewK.intro ?hz ?_); (case hz => exact Nat.le_of_ble_eq_true rfl); intros) | with_reducible refine J.Attr ?_)
    refine J.binSub (r := 6) (u := 56) ok ((by with_reducible assumption : ∀ p ∈ news, p ∈ _) _ h3) ((by with_reducible assumption : ∀ p ∈ news, p ∈ _) _ h4)  g3 v3 ?_
    repeat' (first | walk_at "jb" | with_reducible refine J.Attr ?_)
    refine J.ownR ok ((by with_reducible assumption : ∀ p ∈ news, p ∈ _) _ h3) ((by with_reducible assumption : ∀ p ∈ news, p ∈ _) _ h4) (ga144data w) g4 v4 ?_
    repeat' (first | walk_at "jb" | ((with_reducible refine NewK.intro ?hz ?_); (case hz => exact Nat.le_of_ble_eq_true rfl); intros))
    rename_i l1 t1 s1 m1 o1 l2 t2 s2 m2 o2
    exact J.eqT ok (s2 _ m1) m2 (hE c _ ok _ fun p hp => s2 _ (s1 _ hp)) ⟨Flow.noConfusion, Flow.noConfusion, _, _, rfl, fun p hp => s2 _ (s1 _ hp), hK⟩))
theorem eqJ_regex (h1 : (x1, instObj 626 d1) ∈ news) (h2 : (d1, dictOf es1 n1) ∈ news) (h3 : (x2, instObj 626 d2) ∈ news) (h4 : (d2, dictOf es2 n2) ∈ news) {z1 z2 : PySem.Str} {f1 f2 : Int} {t1 t2 u1 u2 : Tok} (g1 : getL (Str.ofString "pattern") es1 = some (some (.str z1 t1))) (g2 : getL (Str.ofString "flags") es1 = some (some (.int f1 t2))) (g3 : getL (Str.ofString "pattern") es2 = some (some (.str z2 u1))) (g4 : getL (Str.ofString "flags") es2 = some (some (.int f2 u2))) : CmpC w (.ref x1) (.ref x2) news (z1 == z2 && f1 == f2) := Mine.into (by exact Mine.thru : Mine.Thru _ (by
    refine cmpC_of (tv := .ref 626) (.ofR (eqregex_run fun c ok e1 e2 K hK => ?_)) h1 h2 (.inst h3 h4) (by kernel_rfl) (by kernel_rfl) (by kernel_rfl)
    refine JX.last (JX.ifT ?_)
    repeat' (first | walk_at "jb" | ((with_reducible refine J.g ok (x := Str.ofString "Regex") ?hx (lg_Regex w) ?_); (case hx => exact ⟨by kernel_rfl, by kernel_rfl⟩)) | ((with_reducible refine J.tplain ?_ ?he); (case he => exact rfl)))
    refine J.isiSelf ok (by decide) h3 h4 ?_
    repeat' walk_at "jb"
    refine ⟨rfl, JX.last (JX.ret (J.andB (b := z1 == z2) (J.cmp ?_ rfl)))⟩
    repeat' (first | walk_at "jb" | with_reducible refine J.Attr ?_)
    refine J.ownR ok h1 h2 (ga626pattern w) g1 rfl ?_
    repeat' (first | walk_at "jb" | with_reducible refine J.Attr ?_)
    refine J.ownR ok h3 h4 (ga626pattern w) g3 rfl ?_
    refine J.eqStr ⟨rfl, fun hb => J.cmp ?_ rfl, fun hb => ?_⟩
    · repeat' (first | walk_at "jb" | with_reducible refine J.Attr ?_)
      refine J.ownR ok h1 h2 (ga_flags w) g2 rfl ?_
      repeat' (first | walk_at "jb" | with_reducible refine J.Attr ?_)
      refine J.ownR ok h3 h4 (ga_flags w) g4 rfl ?_
      refine J.eqInt ⟨Flow.noConfusion, Flow.noConfusion, _, _, rfl, fun _ p => p, ?_⟩
      rw [hb] at hK
      exact hK
    · refine ⟨Flow.noConfusion, Flow.noConfusion, _, _, rfl, fun _ p => p, ?_⟩
      rw [hb] at hK
      exact hK))
theorem eqJ_stamp (h1 : (x1, instObj 705 d1) ∈ news) (h2 : (d1, dictOf es1 n1) ∈ news) (h3 : (x2, instObj 705 d2) ∈ news) (h4 : (d2, dictOf es2 n2) ∈ news) {z1 z2 : Int} {f1 f2 : Int} {t1 t2 u1 u2 : Tok} (g1 : getL (Str.ofString "_time") es1 = some (some (.int z1 t1))) (g2 : getL (Str.ofString "_inc") es1 = some (some (.int f1 t2))) (g3 : getL (Str.ofString "_time") es2 = some (some (.int z2 u1))) (g4 : getL (Str.ofString "_inc") es2 = some (some (.int f2 u2))) : CmpC w (.ref x1) (.ref x2) news (z1 == z2 && f1 == f2) := Mine.into (by exact Mine.thru : Mine.Thru _ (by
    refine cmpC_of (tv := .ref 705) (.ofR (eqstamp_run fun c ok e1 e2 K hK => ?_)) h1 h2 (.inst h3 h4) (by kernel_rfl) (by kernel_rfl) (by kernel_rfl)
    refine JX.last (JX.ifT ?_)
    repeat' (first | walk_at "jb" | ((with_reducible refine J.g ok (x := Str.ofString "Timestamp") ?hx (lg_Timestamp w) ?_); (case hx => exact ⟨by kernel_rfl, by kernel_rfl⟩)) | ((with_reducible refine J.tplain ?_ ?he); (case he => exact rfl)))
    refine J.isiSelf ok (by decide) h3 h4 ?_
    repeat' walk_at "jb"
    refine ⟨rfl, JX.last (JX.ret (J.andB (b := z1 == z2) (J.cmp ?_ rfl)))⟩
    repeat' (first | walk_at "jb" | with_reducible refine J.Attr ?_)
    refine J.ownR ok h1 h2 (ga705_time w) g1 rfl ?_
    repeat' (first | walk_at "jb" | with_reducible refine J.Attr ?_)
    refine J.tsTime (r := 6) (u := 56) ok h3 h4 g3 rfl ?_
    refine J.eqInt ⟨rfl, fun hb => J.cmp ?_ rfl, fun hb => ?_⟩
    · repeat' (first | walk_at "jb" | with_reducible refine J.Attr ?_)
      refine J.ownR ok h1 h2 (ga705_inc w) g2 rfl ?_
      repeat' (first | walk_at "jb" | with_reducible refine J.Attr ?_)
      refine J.tsInc (r := 6) (u := 56) ok h3 h4 g4 rfl ?_
      refine J.eqInt ⟨Flow.noConfusion, Flow.noConfusion, _, _, rfl, fun _ p => p, ?_⟩
      rw [hb] at hK
      exact hK
    · refine ⟨Flow.noConfusion, Flow.noConfusion, _, _, rfl, fun _ p => p, ?_⟩
      rw [hb] at hK
      exact hK))
theorem eqJ_int64 (h1 : (x1, instObj 344 d1) ∈ news) (h2 : (d1, dictOf es1 n1) ∈ news) (h3 : (x2, instObj 344 d2) ∈ news) (h4 : (d2, dictOf es2 n2) ∈ news) {z1 z2 : Int} {t1 u1 : Tok} (g1 : getL (Str.ofString "value") es1 = some (some (.int z1 t1))) (g3 : getL (Str.ofString "value") es2 = some (some (.int z2 u1))) : CmpC w (.ref x1) (.ref x2) news (z1 == z2) := Mine.into (by exact Mine.thru : Mine.Thru _ (by
    refine cmpC_of (tv := .ref 344) (.ofR (eqint64_run fun c ok e1 e2 K hK => ?_)) h1 h2 (.inst h3 h4) (by kernel_rfl) (by kernel_rfl) (by kernel_rfl)
    refine JX.last (JX.ret (J.andT ?_))
    repeat' (first | walk_at "jb" | ((with_reducible refine J.g ok (x := Str.ofString "Int64") ?hx (lg_Int64 w) ?_); (case hx => exact ⟨by kernel_rfl, by kernel_rfl⟩)))
    refine J.isiSelf ok (by decide) h3 h4 ?_
    repeat' walk_at "jb"
    refine ⟨rfl, J.and1 (J.cmp ?_ rfl)⟩
    repeat' (first | walk_at "jb" | with_reducible refine J.Attr ?_)
    refine J.ownR ok h1 h2 (ga344value w) g1 rfl ?_
    repeat' (first | walk_at "jb" | with_reducible refine J.Attr ?_)
    refine J.ownR ok h3 h4 (ga344value w) g3 rfl ?_
    exact J.eqInt ⟨Flow.noConfusion, _, _, rfl, fun _ p => p, hK⟩))
theorem eqJ_date (h1 : (x1, instObj 201 d1) ∈ news) (h2 : (d1, dictOf es1 n1) ∈ news) (h3 : (x2, instObj 201 d2) ∈ news) (h4 : (d2, dictOf es2 n2) ∈ news) {z1 z2 : Int} {t1 u1 : Tok} (g1 : getL (Str.ofString "_value") es1 = some (some (.int z1 t1))) (g3 : getL (Str.ofString "_value") es2 = some (some (.int z2 u1))) : CmpC w (.ref x1) (.ref x2) news (z1 == z2) := Mine.into (by exact Mine.thru : Mine.Thru _ (by
    refine cmpC_of (tv := .ref 201) (.ofR (eqdate_run fun c ok e1 e2 K hK => ?_)) h1 h2 (.inst h3 h4) (by kernel_rfl) (by kernel_rfl) (by kernel_rfl)
    refine JX.last (JX.ifT ?_)
    repeat' (first | walk_at "jb" | ((with_reducible refine J.g ok (x := Str.ofString "DatetimeMS") ?hx (lg_DatetimeMS w) ?_); (case hx => exact ⟨by kernel_rfl, by kernel_rfl⟩)) | ((with_reducible refine J.tplain ?_ ?he); (case he => exact rfl)))
    refine J.isiSelf ok (by decide) h3 h4 ?_
    repeat' walk_at "jb"
    refine ⟨rfl, JX.last (JX.ret (J.cmp ?_ rfl))⟩
    repeat' (first | walk_at "jb" | with_reducible refine J.Attr ?_)
    refine J.ownR ok h1 h2 (ga201_value w) g1 rfl ?_
    repeat' (first | walk_at "jb" | with_reducible refine J.Attr ?_)
    refine J.ownR ok h3 h4 (ga201_value w) g3 rfl ?_
    exact J.eqInt ⟨Flow.noConfusion, Flow.noConfusion, _, _, rfl, fun _ p => p, hK⟩))
theorem J.eqBytes {c : Cx w} {x y : Array UInt8} {t u : Tok} {K : Led → Value → Prop} (h : K news (.bool (x.toList == y.toList))) : J c (compareOp .Eq (.bytes x t) (.bytes y u)) news K := fun s _ _ F N q => eq_bytes (q _ _ s.heap s.toks h F N)
theorem eqJ_objid (h1 : (x1, instObj 583 d1) ∈ news) (h2 : (d1, dictOf es1 n1) ∈ news) (h3 : (x2, instObj 583 d2) ∈ news) (h4 : (d2, dictOf es2 n2) ∈ news) {z1 z2 : Array UInt8} {t1 u1 : Tok} (g1 : getL (Str.ofString "_id") es1 = some (some (.bytes z1 t1))) (g3 : getL (Str.ofString "_id") es2 = some (some (.bytes z2 u1))) : CmpC w (.ref x1) (.ref x2) news (z1.toList == z2.toList) := Mine.into (by exact Mine.thru : Mine.Thru _ (by
    refine cmpC_of (tv := .ref 583) (.ofR (eqobjid_run fun c ok e1 e2 K hK => ?_)) h1 h2 (.inst h3 h4) (by kernel_rfl) (by kernel_rfl) (by kernel_rfl)
    refine JX.last (JX.ifT ?_)
    repeat' (first | walk_at "jb" | ((with_reducible refine J.g ok (x := Str.ofString "ObjectId") ?hx (lg_ObjectId w) ?_); (case hx => exact ⟨by kernel_rfl, by kernel_rfl⟩)) | ((with_reducible refine J.tplain ?_ ?he); (case he => exact rfl)))
    refine J.isiSelf ok (by decide) h3 h4 ?_
    repeat' walk_at "jb"
    refine ⟨rfl, JX.last (JX.ret (J.cmp ?_ rfl))⟩
    repeat' (first | walk_at "jb" | with_reducible refine J.Attr ?_)
    refine J.ownR ok h1 h2 (ga583_id w) g1 rfl ?_
    repeat' (first | walk_at "jb" | with_reducible refine J.Attr ?_)
    refine J.oidBin (r := 6) (u := 56) ok h3 h4 g3 rfl ?_
    exact J.eqBytes ⟨Flow.noConfusion, Flow.noConfusion, _, _, rfl, fun _ p => p, hK⟩))
theorem eqJ_minkey (h1 : (x1, instObj 470 d1) ∈ news) (h2 : (d1, dictOf es1 n1) ∈ news) (h3 : (x2, instObj 470 d2) ∈ news) (h4 : (d2, dictOf es2 n2) ∈ news) : CmpC w (.ref x1) (.ref x2) news true := Mine.into (by exact Mine.thru : Mine.Thru _ (by
    refine cmpC_of (tv := .ref 470) (.ofR (eqminkey_run fun c ok e1 e2 K hK => ?_)) h1 h2 (.inst h3 h4) (by kernel_rfl) (by kernel_rfl) (by kernel_rfl)
    refine JX.last (JX.ret ?_)
    repeat' (first | walk_at "jb" | ((with_reducible refine J.g ok (x := Str.ofString "MinKey") ?hx (lg_MinKey w) ?_); (case hx => exact ⟨by kernel_rfl, by kernel_rfl⟩)))
    exact J.isiSelf ok (by decide) h3 h4 ⟨Flow.noConfusion, _, _, rfl, fun _ p => p, hK⟩))
theorem eqJ_maxkey (h1 : (x1, instObj 407 d1) ∈ news) (h2 : (d1, dictOf es1 n1) ∈ news) (h3 : (x2, instObj 407 d2) ∈ news) (h4 : (d2, dictOf es2 n2) ∈ news) : CmpC w (.ref x1) (.ref x2) news true := Mine.into (by exact Mine.thru : Mine.Thru _ (by
    refine cmpC_of (tv := .ref 407) (.ofR (eqmaxkey_run fun c ok e1 e2 K hK => ?_)) h1 h2 (.inst h3 h4) (by kernel_rfl) (by kernel_rfl) (by kernel_rfl)
    refine JX.last (JX.ret ?_)
    repeat' (first | walk_at "jb" | ((with_reducible refine J.g ok (x := Str.ofString "MaxKey") ?hx (lg_MaxKey w) ?_); (case hx => exact ⟨by kernel_rfl, by kernel_rfl⟩)))
    exact J.isiSelf ok (by decide) h3 h4 ⟨Flow.noConfusion, _, _, rfl, fun _ p => p, hK⟩))
theorem eqJ_dbref (h1 : (x1, instObj 261 d1) ∈ news) (h2 : (d1, dictOf es1 n1) ∈ news) (h3 : (x2, instObj 261 d2) ∈ news) (h4 : (d2, dictOf es2 n2) ∈ news) {a1 b1 c1 e1 a2 b2 c2 e2 : Value} {b : Bool} (g01 : getL (Str.ofString "_database") es1 = some (some a1)) (v01 : handedIn a1 = true) (g11 : getL (Str.ofString "_collection") es1 = some (some b1)) (v11 : handedIn b1 = true) (g21 : getL (Str.ofString "_id") es1 = some (some c1)) (v21 : handedIn c1 = true) (g31 : getL (Str.ofString "_kwargs") es1 = some (some e1)) (v31 : handedIn e1 = true) (g02 : getL (Str.ofString "_database") es2 = some (some a2)) (v02 : handedIn a2 = true) (g12 : getL (Str.ofString "_collection") es2 = some (some b2)) (v12 : handedIn b2 = true) (g22 : getL (Str.ofString "_id") es2 = some (some c2)) (v22 : handedIn c2 = true) (g32 : getL (Str.ofString "_kwargs") es2 = some (some e2)) (v32 : handedIn e2 = true)
    (hE : ∀ (c : Cx w) (fs : Option Scope), c.OkR fs 7 60 → ∀ tl, (∀ p ∈ news, p ∈ tl) → EqJs c 1 tl [a1, b1, c1, e1] [a2, b2, c2, e2] b) : CmpC w (.ref x1) (.ref x2) news b := Mine.into (by exact Mine.thru : Mine.Thru _ (by
    refine cmpC_of (tv := .ref 261) (.ofR (eqdbref_run fun c ok m1 m2 K hK => ?_)) h1 h2 (.inst h3 h4) (by kernel_rfl) (by kernel_rfl) (by kernel_rfl)
    refine JX.last (JX.ifT ?_)
    repeat' (first | walk_at "jb" | ((with_reducible refine J.g ok (x := Str.ofString "DBRef") ?hx (lg_DBRef w) ?_); (case hx => exact ⟨by kernel_rfl, by kernel_rfl⟩)) | ((with_reducible refine J.tplain ?_ ?he); (case he => exact rfl)))
    refine J.isiSelf ok (by decide) h3 h4 ?_
    repeat' walk_at "jb"
    refine ⟨rfl, JX.set ok ⟨by kernel_rfl, by kernel_rfl⟩ rfl (JR.ofJ ?_)⟩
    repeat' (first | walk_at "jb" | with_reducible refine J.tuple ?_ | with_reducible refine J.Attr ?_)
    refine J.ownR ok h1 h2 (ga261_database w) g01 v01 ?_
    repeat' (first | walk_at "jb" | with_reducible refine J.Attr ?_)
    refine J.ownR ok h1 h2 (ga261_collection w) g11 v11 ?_
    repeat' (first | walk_at "jb" | with_reducible refine J.Attr ?_)
    refine J.ownR ok h1 h2 (ga261_id w) g21 v21 ?_
    repeat' (first | walk_at "jb" | with_reducible refine J.Attr ?_)
    refine J.ownR ok h1 h2 (ga261_kwargs w) g31 v31 ?_
    repeat' (first | walk_at "jb" | ((with_reducible refine NewK.intro ?hz ?_); (case hz => exact Nat.le_of_ble_eq_true rfl); intros))
    rename_i l1 t1 s1 n1 o1
    have m2 := Cx.set_ne (x := Str.ofString "us") (v := .ref l1) (by decide) m2
    have m3 : (c.set (Str.ofString "us") (.ref l1)).m (Str.ofString "us") = some (.ref l1) := Cx.set_self
    have ok := ok.set (x := Str.ofString "us") (v := .ref l1)
    refine JX.set ok ⟨by kernel_rfl, by kernel_rfl⟩ rfl (JR.ofJ ?_)
    repeat' (first | walk_at "jb" | with_reducible refine J.tuple ?_ | with_reducible refine J.Attr ?_)
    refine J.ownR ok (s1 _ h3) (s1 _ h4) (ga261_database w) g02 v02 ?_
    repeat' (first | walk_at "jb" | with_reducible refine J.Attr ?_)
    refine J.ownR ok (s1 _ h3) (s1 _ h4) (ga261_collection w) g12 v12 ?_
    repeat' (first | walk_at "jb" | with_reducible refine J.Attr ?_)
    refine J.ownR ok (s1 _ h3) (s1 _ h4) (ga261_id w) g22 v22 ?_
    repeat' (first | walk_at "jb" | with_reducible refine J.Attr ?_)
    refine J.ownR ok (s1 _ h3) (s1 _ h4) (ga261_kwargs w) g32 v32 ?_
    repeat' (first | walk_at "jb" | ((with_reducible refine NewK.intro ?hz ?_); (case hz => exact Nat.le_of_ble_eq_true rfl); intros))
    rename_i l2 t2 s2 n2 o2
    have m4 : ((c.set (Str.ofString "us") (.ref l1)).set (Str.ofString "them") (.ref l2)).m (Str.ofString "them") = some (.ref l2) := Cx.set_self
    have m3 := Cx.set_ne (x := Str.ofString "them") (v := .ref l2) (by decide) m3
    have ok := ok.set (x := Str.ofString "them") (v := .ref l2)
    refine JX.last (JX.ret (J.cmp ?_ rfl))
    repeat' walk_at "jb"
    exact J.eqT ok (s2 _ n1) n2 (hE _ _ ok _ fun p hp => s2 _ (s1 _ hp)) ⟨Flow.noConfusion, Flow.noConfusion, _, _, rfl, fun p hp => s2 _ (s1 _ hp), hK⟩))
theorem ne_binary_in {oa ob : Obj} {b : Bool} (h1 : (x1, instObj 144 d1) ∈ news) (h2 : (d1, oa) ∈ news) (h3 : (x2, instObj 144 d2) ∈ news) (h4 : (d2, ob) ∈ news) (H : CmpC w (.ref x1) (.ref x2) news b) : NeC w (.ref x1) (.ref x2) news (!b) := Mine.into (by exact Mine.thru : Mine.Thru _ (by
    refine neC_of (tv := .ref 144) (nebinary_run (r := 29) (u := 296) fun c ok e1 e2 K hK => ?_) h1 h2 (.inst h3 h4) (by kernel_rfl) (by kernel_rfl) (by kernel_rfl)
    refine JX.last (JX.ret (J.un (J.cmp ?_ rfl)))
    repeat' walk_at "jb"
    exact J.cmpC (OkMono ok (by decide) (by decide)) H (J.notB ⟨Flow.noConfusion, _, _, rfl, fun _ p => p, hK⟩)))
theorem ne_code_in {oa ob : Obj} {b : Bool} (h1 : (x1, instObj 61 d1) ∈ news) (h2 : (d1, oa) ∈ news) (h3 : (x2, instObj 61 d2) ∈ news) (h4 : (d2, ob) ∈ news) (H : CmpC w (.ref x1) (.ref x2) news b) : NeC w (.ref x1) (.ref x2) news (!b) := Mine.into (by exact Mine.thru : Mine.Thru _ (by
    refine neC_of (tv := .ref 61) (necode_run (r := 29) (u := 296) fun c ok e1 e2 K hK => ?_) h1 h2 (.inst h3 h4) (by kernel_rfl) (by kernel_rfl) (by kernel_rfl)
    refine JX.last (JX.ret (J.un (J.cmp ?_ rfl)))
    repeat' walk_at "jb"
    exact J.cmpC (OkMono ok (by decide) (by decide)) H (J.notB ⟨Flow.noConfusion, _, _, rfl, fun _ p => p, hK⟩)))
theorem ne_regex_in {oa ob : Obj} {b : Bool} (h1 : (x1, instObj 626 d1) ∈ news) (h2 : (d1, oa) ∈ news) (h3 : (x2, instObj 626 d2) ∈ news) (h4 : (d2, ob) ∈ news) (H : CmpC w (.ref x1) (.ref x2) news b) : NeC w (.ref x1) (.ref x2) news (!b) := Mine.into (by exact Mine.thru : Mine.Thru _ (by
    refine neC_of (tv := .ref 626) (neregex_run (r := 29) (u := 296) fun c ok e1 e2 K hK => ?_) h1 h2 (.inst h3 h4) (by kernel_rfl) (by kernel_rfl) (by kernel_rfl)
    refine JX.last (JX.ret (J.un (J.cmp ?_ rfl)))
    repeat' walk_at "jb"
    exact J.cmpC (OkMono ok (by decide) (by decide)) H (J.notB ⟨Flow.noConfusion, _, _, rfl, fun _ p => p, hK⟩)))
theorem ne_dbref_in {oa ob : Obj} {b : Bool} (h1 : (x1, instObj 261 d1) ∈ news) (h2 : (d1, oa) ∈ news) (h3 : (x2, instObj 261 d2) ∈ news) (h4 : (d2, ob) ∈ news) (H : CmpC w (.ref x1) (.ref x2) news b) : NeC w (.ref x1) (.ref x2) news (!b) := Mine.into (by exact Mine.thru : Mine.Thru _ (by
    refine neC_of (tv := .ref 261) (nedbref_run (r := 29) (u := 296) fun c ok e1 e2 K hK => ?_) h1 h2 (.inst h3 h4) (by kernel_rfl) (by kernel_rfl) (by kernel_rfl)
    refine JX.last (JX.ret (J.un (J.cmp ?_ rfl)))
    repeat' walk_at "jb"
    exact J.cmpC (OkMono ok (by decide) (by decide)) H (J.notB ⟨Flow.noConfusion, _, _, rfl, fun _ p => p, hK⟩)))
theorem J.neDate {c : Cx w} {fs : Option Scope} {r u : Nat} (ok : c.OkR fs (r + 1) (u + 4)) (h1 : (x1, instObj 201 d1) ∈ news) (h2 : (d1, dictOf es1 n1) ∈ news) (h3 : (x2, instObj 201 d2) ∈ news) (h4 : (d2, dictOf es2 n2) ∈ news) {z1 z2 : Int} {t1 u1 : Tok} (g1 : getL (Str.ofString "_value") es1 = some (some (.int z1 t1))) (g3 : getL (Str.ofString "_value") es2 = some (some (.int z2 u1))) {K : Led → Value → Prop} (h : K news (.bool (z1 != z2))) : J c (compareOp .NotEq (.ref x1) (.ref x2)) news K := Mine.into (by exact Mine.thru : Mine.Thru _ (by
    refine J.neOwn (tv := .ref 201) ok (nedate_run fun c ok e1 e2 K hK => ?_) h1 h2 (.inst h3 h4) (by kernel_rfl) (by kernel_rfl) (by kernel_rfl) h
    refine JX.last (JX.ifT ?_)
    repeat' (first | walk_at "jb" | ((with_reducible refine J.g ok (x := Str.ofString "DatetimeMS") ?hx (lg_DatetimeMS w) ?_); (case hx => exact ⟨by kernel_rfl, by kernel_rfl⟩)) | ((with_reducible refine J.tplain ?_ ?he); (case he => exact rfl)))
    refine J.isiSelf ok (by decide) h3 h4 ?_
    repeat' walk_at "jb"
    refine ⟨rfl, JX.last (JX.ret (J.cmp ?_ rfl))⟩
    repeat' (first | walk_at "jb" | with_reducible refine J.Attr ?_)
    refine J.ownR ok h1 h2 (ga201_value w) g1 rfl ?_
    repeat' (first | walk_at "jb" | with_reducible refine J.Attr ?_)
    refine J.ownR ok h3 h4 (ga201_value w) g3 rfl ?_
    exact J.neInt ⟨Flow.noConfusion, Flow.noConfusion, _, _, rfl, fun _ p => p, hK⟩))
theorem J.neDateStr {c : Cx w} {fs : Option Scope} {r u : Nat} (ok : c.OkR fs (r + 1) (u + 4)) {oa : Obj} {z : PySem.Str} {t : Tok} (h1 : (x1, instObj 201 d1) ∈ news) (h2 : (d1, oa) ∈ news) {K : Led → Value → Prop} (h : K news (.bool true)) : J c (compareOp .NotEq (.ref x1) (.str z t)) news K := Mine.into (by exact Mine.thru : Mine.Thru _ (by
    refine J.neOwn (tv := .type "str") ok (nedate_run fun c ok e1 e2 K hK => ?_) h1 h2 (.str z t) (by kernel_rfl) (by kernel_rfl) (by kernel_rfl) h
    refine JX.cons (JR.ifF ?_)
    repeat' (first | walk_at "jb" | ((with_reducible refine' J.isi1 ok kitx_str ?e ?n ?_); (case e => kit_is); (case n => exact fun q => nomatch q)) | ((with_reducible refine J.g ok (x := Str.ofString "DatetimeMS") ?hx (lg_DatetimeMS w) ?_); (case hx => exact ⟨by kernel_rfl, by kernel_rfl⟩)) | ((with_reducible refine J.tplain ?_ ?he); (case he => exact rfl)))
    refine ⟨rfl, JR.nil ⟨rfl, JX.last (JX.ret ?_)⟩⟩
    repeat' (with_reducible refine J.bool ?_)
    exact ⟨Flow.noConfusion, _, _, rfl, fun _ p => p, hK⟩))
end
end Mine

end
-- N3
section
open PySem PySem.Calls PySem.W PyProof.Rows PyProof.V PySem.Spec
set_option maxRecDepth 100000
namespace Mine
theorem al_binary {w : World} {news : Led} {x d : Addr} {od : Obj} (h1 : (x, instObj 144 d) ∈ news) (h2 : (d, od) ∈ news) : Al w news (.ref x) (.ref 144) :=
  ⟨.inst h1 h2, fun u tu k ht hne => try_inst (callC_pick (eqa_binary w news x d u (isi_any k ht (by decide) hne)) h1) (.inl rfl) h1 h2 (by kernel_rfl) (by kernel_rfl)⟩
theorem al_code {w : World} {news : Led} {x d : Addr} {od : Obj} (h1 : (x, instObj 61 d) ∈ news) (h2 : (d, od) ∈ news) : Al w news (.ref x) (.ref 61) :=
  ⟨.inst h1 h2, fun u tu k ht hne => try_inst (callC_pick (eqa_code w news x d u (isi_any k ht (by decide) hne)) h1) (.inl rfl) h1 h2 (by kernel_rfl) (by kernel_rfl)⟩
theorem al_regex {w : World} {news : Led} {x d : Addr} {od : Obj} (h1 : (x, instObj 626 d) ∈ news) (h2 : (d, od) ∈ news) : Al w news (.ref x) (.ref 626) :=
  ⟨.inst h1 h2, fun u tu k ht hne => try_inst (callC_pick (eqa_regex w news x d u (isi_any k ht (by decide) hne)) h1) (.inr rfl) h1 h2 (by kernel_rfl) (by kernel_rfl)⟩
theorem al_dbref {w : World} {news : Led} {x d : Addr} {od : Obj} (h1 : (x, instObj 261 d) ∈ news) (h2 : (d, od) ∈ news) : Al w news (.ref x) (.ref 261) :=
  ⟨.inst h1 h2, fun u tu k ht hne => try_inst (callC_pick (eqa_dbref w news x d u (isi_any k ht (by decide) hne)) h1) (.inr rfl) h1 h2 (by kernel_rfl) (by kernel_rfl)⟩
theorem al_date {w : World} {news : Led} {x d : Addr} {od : Obj} (h1 : (x, instObj 201 d) ∈ news) (h2 : (d, od) ∈ news) : Al w news (.ref x) (.ref 201) :=
  ⟨.inst h1 h2, fun u tu k ht hne => try_inst (callC_pick (eqa_date w news x d u (isi_any k ht (by decide) hne)) h1) (.inl rfl) h1 h2 (by kernel_rfl) (by kernel_rfl)⟩
theorem al_int64 {w : World} {news : Led} {x d : Addr} {od : Obj} (h1 : (x, instObj 344 d) ∈ news) (h2 : (d, od) ∈ news) : Al w news (.ref x) (.ref 344) :=
  ⟨.inst h1 h2, fun u tu k ht hne => try_inst (callC_pick (eqa_int64 w news x d u (isi_any k ht (by decide) hne)) h1) (.inl rfl) h1 h2 (by kernel_rfl) (by kernel_rfl)⟩
theorem al_minkey {w : World} {news : Led} {x d : Addr} {od : Obj} (h1 : (x, instObj 470 d) ∈ news) (h2 : (d, od) ∈ news) : Al w news (.ref x) (.ref 470) :=
  ⟨.inst h1 h2, fun u tu k ht hne => try_inst (callC_pick (eqa_minkey w news x d u (isi_any k ht (by decide) hne)) h1) (.inl rfl) h1 h2 (by kernel_rfl) (by kernel_rfl)⟩
theorem al_maxkey {w : World} {news : Led} {x d : Addr} {od : Obj} (h1 : (x, instObj 407 d) ∈ news) (h2 : (d, od) ∈ news) : Al w news (.ref x) (.ref 407) :=
  ⟨.inst h1 h2, fun u tu k ht hne => try_inst (callC_pick (eqa_maxkey w news x d u (isi_any k ht (by decide) hne)) h1) (.inl rfl) h1 h2 (by kernel_rfl) (by kernel_rfl)⟩
theorem al_objid {w : World} {news : Led} {x d : Addr} {od : Obj} (h1 : (x, instObj 583 d) ∈ news) (h2 : (d, od) ∈ news) : Al w news (.ref x) (.ref 583) :=
  ⟨.inst h1 h2, fun u tu k ht hne => try_inst (callC_pick (eqa_objid w news x d u (isi_any k ht (by decide) hne)) h1) (.inr rfl) h1 h2 (by kernel_rfl) (by kernel_rfl)⟩
theorem al_stamp {w : World} {news : Led} {x d : Addr} {od : Obj} (h1 : (x, instObj 705 d) ∈ news) (h2 : (d, od) ∈ news) : Al w news (.ref x) (.ref 705) :=
  ⟨.inst h1 h2, fun u tu k ht hne => try_inst (callC_pick (eqa_stamp w news x d u (isi_any k ht (by decide) hne)) h1) (.inr rfl) h1 h2 (by kernel_rfl) (by kernel_rfl)⟩
theorem al_bytes {w : World} {news : Led} (b : Array UInt8) (t : Tok) : Al w news (.bytes b t) (.type "bytes") := ⟨.bytes b t, fun _ _ k ht hne => try_bytes b t k (chk_sub w ht (by decide) hne)⟩
theorem al_str {w : World} {news : Led} (z : PySem.Str) (t : Tok) : Al w news (.str z t) (.type "str") := ⟨.str z t, fun _ _ k _ hne => try_str z t k hne⟩
theorem al_none {w : World} {news : Led} : Al w news .none (.type "NoneType") := ⟨.none, fun _ _ k _ hne => try_none k hne⟩
theorem al_cmp {w : World} {news : Led} {v tv u tu : Value} (a : Al w news v tv) (b : Al w news u tu) (hv : tv ∈ types13) (hu : tu ∈ types13) (hne : tv ≠ tu) : CmpC w v u news false :=
  cmp_alien (a.2 u tu b.1 hu (Ne.symm hne)) (b.2 v tv a.1 hv hne) a.1 b.1 hne (chk_sub w hu hv (Ne.symm hne))
end Mine

end
-- NJ3
section
open PySem PySem.Calls PySem.W PyProof.Rows PyProof.V PySem.Spec PySem.SeqAt
namespace Mine
set_option maxRecDepth 100000
theorem eqs_binary (w : World) (news : Led) (xb yb : Addr) (row : Array UInt8) (bk0 bk1 bk8 bk9 : Tok) : CmpC w (.ref xb) (.ref xb) ((xb, instObj 144 yb) :: (yb, dictOf [⟨PyData.keyHash w.params (Str.ofString "data"), .str (Str.ofString "data") bk0, .bytes row bk9⟩, ⟨PyData.keyHash w.params (Str.ofString "_subtype"), .str (Str.ofString "_subtype") bk1, .int 0 bk8⟩] 2) :: news) true := eqJ_binary (.head _) (.tail _ (.head _)) (.head _) (.tail _ (.head _)) rfl rfl rfl rfl rfl rfl rfl rfl fun _ _ _ _ _ => .cons .same (.cons .same .nil)
theorem eqs_code (w : World) (news : Led) (xc yc : Addr) (tx : PySem.Str) (ck0 ck1 ck9 : Tok) : CmpC w (.ref xc) (.ref xc) ((xc, instObj 61 yc) :: (yc, dictOf [⟨PyData.keyHash w.params (Str.ofString "text"), .str (Str.ofString "text") ck0, .str tx ck9⟩, ⟨PyData.keyHash w.params (Str.ofString "_scope"), .str (Str.ofString "_scope") ck1, .none⟩] 2) :: news) true := eqJ_code (.head _) (.tail _ (.head _)) (.head _) (.tail _ (.head _)) rfl rfl rfl rfl rfl rfl rfl rfl fun _ _ _ _ _ => .cons .same (.cons .same .nil)
theorem cmpC_true {w : World} {v u : Value} {news : Led} {b : Bool} (H : CmpC w v u news b) (e : b = true) : CmpC w v u news true := e ▸ H
theorem eqs_regex (w : World) (news : Led) (xg yg : Addr) (tx : PySem.Str) (gk0 gk1 gk8 gk9 : Tok) : CmpC w (.ref xg) (.ref xg) ((xg, instObj 626 yg) :: (yg, dictOf [⟨PyData.keyHash w.params (Str.ofString "pattern"), .str (Str.ofString "pattern") gk0, .str tx gk9⟩, ⟨PyData.keyHash w.params (Str.ofString "flags"), .str (Str.ofString "flags") gk1, .int 0 gk8⟩] 2) :: news) true := cmpC_true (eqJ_regex (.head _) (.tail _ (.head _)) (.head _) (.tail _ (.head _)) rfl rfl rfl rfl) (by simp)
theorem eqs_date (w : World) (news : Led) (xa ya : Addr) (ak0 ak9 : Tok) : CmpC w (.ref xa) (.ref xa) ((xa, instObj 201 ya) :: (ya, dictOf [⟨PyData.keyHash w.params (Str.ofString "_value"), .str (Str.ofString "_value") ak0, .int 5 ak9⟩] 1) :: news) true := cmpC_true (eqJ_date (.head _) (.tail _ (.head _)) (.head _) (.tail _ (.head _)) rfl rfl) rfl
theorem eqs_int64 (w : World) (news : Led) (xi yi : Addr) (ik0 ik9 : Tok) : CmpC w (.ref xi) (.ref xi) ((xi, instObj 344 yi) :: (yi, dictOf [⟨PyData.keyHash w.params (Str.ofString "value"), .str (Str.ofString "value") ik0, .int 5 ik9⟩] 1) :: news) true := cmpC_true (eqJ_int64 (.head _) (.tail _ (.head _)) (.head _) (.tail _ (.head _)) rfl rfl) rfl
theorem eqs_minkey (w : World) (news : Led) (xn yn : Addr) : CmpC w (.ref xn) (.ref xn) ((xn, instObj 470 yn) :: (yn, dictOf [] 0) :: news) true := eqJ_minkey (.head _) (.tail _ (.head _)) (.head _) (.tail _ (.head _))
theorem eqs_maxkey (w : World) (news : Led) (xw yw : Addr) : CmpC w (.ref xw) (.ref xw) ((xw, instObj 407 yw) :: (yw, dictOf [] 0) :: news) true := eqJ_maxkey (.head _) (.tail _ (.head _)) (.head _) (.tail _ (.head _))
theorem eqs_objid (w : World) (news : Led) (xo yo : Addr) (ok0 ok9 : Tok) : CmpC w (.ref xo) (.ref xo) ((xo, instObj 583 yo) :: (yo, dictOf [⟨PyData.keyHash w.params (Str.ofString "_id"), .str (Str.ofString "_id") ok0, .bytes (Array.replicate 12 0) ok9⟩] 1) :: news) true := cmpC_true (eqJ_objid (.head _) (.tail _ (.head _)) (.head _) (.tail _ (.head _)) rfl rfl) (by simp)
theorem eqs_stamp (w : World) (news : Led) (xs ys : Addr) (sk0 sk1 sk8 sk9 : Tok) : CmpC w (.ref xs) (.ref xs) ((xs, instObj 705 ys) :: (ys, dictOf [⟨PyData.keyHash w.params (Str.ofString "_time"), .str (Str.ofString "_time") sk0, .int 5 sk9⟩, ⟨PyData.keyHash w.params (Str.ofString "_inc"), .str (Str.ofString "_inc") sk1, .int 5 sk8⟩] 2) :: news) true := cmpC_true (eqJ_stamp (.head _) (.tail _ (.head _)) (.head _) (.tail _ (.head _)) rfl rfl rfl rfl) rfl
theorem handed_base (ob : Option PySem.Str) (t : Tok) : handedIn (baseV ob t) = true := by cases ob <;> rfl
theorem eqs_dbref (w : World) (news : Led) (rx rd rk : Addr) (tx : PySem.Str) (n_ : Int) (ob : Option PySem.Str) (rt1 rt2 rt3 rt4 rt5 rt6 rt7 : Tok) : CmpC w (.ref rx) (.ref rx) ((rx, instObj 261 rd) :: (rd, dictOf [⟨PyData.keyHash w.params (Str.ofString "_collection"), .str (Str.ofString "_collection") rt2, .str tx rt1⟩, ⟨PyData.keyHash w.params (Str.ofString "_id"), .str (Str.ofString "_id") rt4, .int n_ rt3⟩, ⟨PyData.keyHash w.params (Str.ofString "_database"), .str (Str.ofString "_database") rt6, baseV ob rt5⟩, ⟨PyData.keyHash w.params (Str.ofString "_kwargs"), .str (Str.ofString "_kwargs") rt7, .ref rk⟩] 4) :: news) true := eqJ_dbref (.head _) (.tail _ (.head _)) (.head _) (.tail _ (.head _)) rfl (handed_base _ _) rfl rfl rfl rfl rfl rfl rfl (handed_base _ _) rfl rfl rfl rfl rfl rfl fun _ _ _ _ _ => .cons .same (.cons .same (.cons .same (.cons .same .nil)))
def EqVB (w : World) (va vb : Value) (b : Bool) : Prop := ∀ A s, EqW PySem.Challenge.rw_jh0019_01.row.prog w A s va vb b
theorem eq_dbrefs_in {w : World} {news : Led} {x1 d1 k1 x2 d2 k2 : Addr} {ok1 ok2 : Obj} {kw1 kw2 : List (PySem.Str × Value)} {c1 c2 : List (PySem.Str × Int)} {tx1 tx2 : PySem.Str} {n1 n2 : Int} {va vb : Value} {t1 t2 t3 t4 t5 t6 u1 u2 u3 u4 u5 u6 : Tok} {rb r : Bool}
    (h1 : (x1, instObj 261 d1) ∈ news) (h2 : (d1, dictOf [⟨PyData.keyHash w.params (Str.ofString "_collection"), .str (Str.ofString "_collection") t2, .str tx1 t1⟩, ⟨PyData.keyHash w.params (Str.ofString "_id"), .str (Str.ofString "_id") t4, .int n1 t3⟩, ⟨PyData.keyHash w.params (Str.ofString "_database"), .str (Str.ofString "_database") t5, va⟩, ⟨PyData.keyHash w.params (Str.ofString "_kwargs"), .str (Str.ofString "_kwargs") t6, .ref k1⟩] 4) ∈ news) (h3 : (x2, instObj 261 d2) ∈ news) (h4 : (d2, dictOf [⟨PyData.keyHash w.params (Str.ofString "_collection"), .str (Str.ofString "_collection") u2, .str tx2 u1⟩, ⟨PyData.keyHash w.params (Str.ofString "_id"), .str (Str.ofString "_id") u4, .int n2 u3⟩, ⟨PyData.keyHash w.params (Str.ofString "_database"), .str (Str.ofString "_database") u5, vb⟩, ⟨PyData.keyHash w.params (Str.ofString "_kwargs"), .str (Str.ofString "_kwargs") u6, .ref k2⟩] 4) ∈ news) (h5 : (k1, ok1) ∈ news) (h6 : (k2, ok2) ∈ news)
    (hva : handedIn va = true) (hvb : handedIn vb = true) (hv : EqVB w va vb rb) (hne : k1 ≠ k2) (lo1 : (k1 == sysModules) = false) (lo2 : (k2 == sysModules) = false) (hd1 : ok1.IsDictOf (strK w) kw1) (hd2 : ok2.IsDictOf (strK w) kw2) (hf1 : FlatPairs PyData.str kw1 (kdpD c1)) (hf2 : FlatPairs PyData.str kw2 (kdpD c2))
    (hr : (rb && ((tx1 == tx2) && ((n1 == n2) && (dEq c1 c2 && true)))) = r) :
    CmpC w (.ref x1) (.ref x2) news r :=
  hr ▸ eqJ_dbref h1 h2 h3 h4 rfl hva rfl rfl rfl rfl rfl rfl rfl hvb rfl rfl rfl rfl rfl rfl fun _ _ ok _ hs => .cons (fun _ _ _ _ => hv _ _) (.cons .str (.cons .int (.cons (.dicts ok (by decide) hne (hs _ h5) (hs _ h6) lo1 lo2 hd1 hd2 hf1 hf2) .nil)))
theorem vb_base {w : World} (ob : Option PySem.Str) (t u : Tok) : EqVB w (baseV ob t) (baseV ob u) true := fun _ _ => eqW_base _ _ _
theorem vb_base_str {w : World} (ob : Option PySem.Str) (y : PySem.Str) (t u : Tok) : EqVB w (baseV ob t) (.str y u) (ob == some y) := fun _ _ => eqW_base_str _ _ _ _
theorem eq_binaries (w : World) (news : Led) (x1 d1 x2 d2 : Addr) (r1 r2 : Array UInt8) (k1 k2 : Int) (t1 t2 t3 t4 u1 u2 u3 u4 : Tok) :
    CmpC w (.ref x1) (.ref x2) ((x2, instObj 144 d2) :: (d2, dictOf [⟨PyData.keyHash w.params (Str.ofString "data"), .str (Str.ofString "data") u2, .bytes r2 u1⟩, ⟨PyData.keyHash w.params (Str.ofString "_subtype"), .str (Str.ofString "_subtype") u4, .int k2 u3⟩] 2) :: (x1, instObj 144 d1) :: (d1, dictOf [⟨PyData.keyHash w.params (Str.ofString "data"), .str (Str.ofString "data") t2, .bytes r1 t1⟩, ⟨PyData.keyHash w.params (Str.ofString "_subtype"), .str (Str.ofString "_subtype") t4, .int k1 t3⟩] 2) :: news) ((k1 == k2) && (r1.toList == r2.toList)) :=
  eqJ_binary (.tail _ (.tail _ (.head _))) (.tail _ (.tail _ (.tail _ (.head _)))) (.head _) (.tail _ (.head _)) rfl rfl rfl rfl rfl rfl rfl rfl fun _ _ _ _ _ => (by
    have e : ((k1 == k2) && (r1.toList == r2.toList)) = ((k1 == k2) && ((r1.toList == r2.toList) && true)) := by simp
    rw [e]
    exact .cons .int (.cons .bytes .nil))
theorem eq_int64s (w : World) (news : Led) (x1 d1 x2 d2 : Addr) (k1 k2 : Int) (t1 t2 u1 u2 : Tok) :
    CmpC w (.ref x1) (.ref x2) ((x2, instObj 344 d2) :: (d2, dictOf [⟨PyData.keyHash w.params (Str.ofString "value"), .str (Str.ofString "value") u2, .int k2 u1⟩] 1) :: (x1, instObj 344 d1) :: (d1, dictOf [⟨PyData.keyHash w.params (Str.ofString "value"), .str (Str.ofString "value") t2, .int k1 t1⟩] 1) :: news) (k1 == k2) :=
  eqJ_int64 (.tail _ (.tail _ (.head _))) (.tail _ (.tail _ (.tail _ (.head _)))) (.head _) (.tail _ (.head _)) rfl rfl
theorem eq_codes_in {w : World} {news : Led} {x1 d1 k1 x2 d2 k2 : Addr} {ok1 ok2 : Obj} {kw1 kw2 : List (PySem.Str × Value)} {c1 c2 : List (PySem.Str × Int)} {z1 z2 : PySem.Str} {t1 t2 t4 u1 u2 u4 : Tok}
    (h1 : (x1, instObj 61 d1) ∈ news) (h2 : (d1, dictOf [⟨PyData.keyHash w.params (Str.ofString "text"), .str (Str.ofString "text") t2, .str z1 t1⟩, ⟨PyData.keyHash w.params (Str.ofString "_scope"), .str (Str.ofString "_scope") t4, .ref k1⟩] 2) ∈ news) (h3 : (x2, instObj 61 d2) ∈ news) (h4 : (d2, dictOf [⟨PyData.keyHash w.params (Str.ofString "text"), .str (Str.ofString "text") u2, .str z2 u1⟩, ⟨PyData.keyHash w.params (Str.ofString "_scope"), .str (Str.ofString "_scope") u4, .ref k2⟩] 2) ∈ news) (h5 : (k1, ok1) ∈ news) (h6 : (k2, ok2) ∈ news) (hne : k1 ≠ k2) (lo1 : (k1 == sysModules) = false) (lo2 : (k2 == sysModules) = false) (hd1 : ok1.IsDictOf (strK w) kw1) (hd2 : ok2.IsDictOf (strK w) kw2) (hf1 : FlatPairs PyData.str kw1 (kdpD c1)) (hf2 : FlatPairs PyData.str kw2 (kdpD c2)) : CmpC w (.ref x1) (.ref x2) news (dEq c1 c2 && (z1 == z2)) :=
  eqJ_code h1 h2 h3 h4 rfl rfl rfl rfl rfl rfl rfl rfl fun _ _ ok _ hs => (by
    have e : (dEq c1 c2 && (z1 == z2)) = (dEq c1 c2 && ((z1 == z2) && true)) := by simp
    rw [e]
    exact .cons (.dicts ok (by decide) hne (hs _ h5) (hs _ h6) lo1 lo2 hd1 hd2 hf1 hf2) (.cons .str .nil))
section
variable {w : World} {news : Led}
theorem eq_code_nd_in {x1 d1 x2 d2 k2 : Addr} {ok2 : Obj} {kw2 : List (PySem.Str × Value)} {c2 : List (PySem.Str × Int)} {z1 z2 : PySem.Str} {t1 t2 t4 u1 u2 u4 : Tok}
    (h1 : (x1, instObj 61 d1) ∈ news) (h2 : (d1, dictOf [⟨PyData.keyHash w.params (Str.ofString "text"), .str (Str.ofString "text") t2, .str z1 t1⟩, ⟨PyData.keyHash w.params (Str.ofString "_scope"), .str (Str.ofString "_scope") t4, .none⟩] 2) ∈ news) (h3 : (x2, instObj 61 d2) ∈ news) (h4 : (d2, dictOf [⟨PyData.keyHash w.params (Str.ofString "text"), .str (Str.ofString "text") u2, .str z2 u1⟩, ⟨PyData.keyHash w.params (Str.ofString "_scope"), .str (Str.ofString "_scope") u4, .ref k2⟩] 2) ∈ news) (h5 : (k2, ok2) ∈ news) (lo2 : (k2 == sysModules) = false) (hd2 : ok2.IsDictOf (strK w) kw2) (hf2 : FlatPairs PyData.str kw2 (kdpD c2)) : CmpC w (.ref x1) (.ref x2) news false :=
  eqJ_code h1 h2 h3 h4 rfl rfl rfl rfl rfl rfl rfl rfl fun _ _ ok _ hs => .cons (.noneDict ok (by decide) (hs _ h5) hd2) (.cons .str .nil)
theorem eq_regexes_in {x1 d1 x2 d2 : Addr} {z1 z2 : PySem.Str} {f1 f2 : Int} {t1 t2 t3 t4 u1 u2 u3 u4 : Tok}
    (h1 : (x1, instObj 626 d1) ∈ news) (h2 : (d1, dictOf [⟨PyData.keyHash w.params (Str.ofString "pattern"), .str (Str.ofString "pattern") t2, .str z1 t1⟩, ⟨PyData.keyHash w.params (Str.ofString "flags"), .str (Str.ofString "flags") t4, .int f1 t3⟩] 2) ∈ news) (h3 : (x2, instObj 626 d2) ∈ news) (h4 : (d2, dictOf [⟨PyData.keyHash w.params (Str.ofString "pattern"), .str (Str.ofString "pattern") u2, .str z2 u1⟩, ⟨PyData.keyHash w.params (Str.ofString "flags"), .str (Str.ofString "flags") u4, .int f2 u3⟩] 2) ∈ news) : CmpC w (.ref x1) (.ref x2) news (z1 == z2 && f1 == f2) := eqJ_regex h1 h2 h3 h4 rfl rfl rfl rfl
end
end Mine

end
-- N5
section
open PySem PySem.Calls PySem.W PyProof.Rows PyProof.V PySem.Spec PySem.SeqAt
set_option maxRecDepth 100000
namespace Mine
theorem off1_mem {D : Addr} : ∀ {l : Led}, LCg.Off1 D l → ∀ p ∈ l, p.1 ≠ D
  | [], _, _, h => nomatch h
  | _ :: _, x, p, h => by
    rcases List.mem_cons.mp h with rfl | h
    · exact x.1
    · exact off1_mem x.2 p h
set_option maxRecDepth 100000 in
set_option maxHeartbeats 8000000 in
theorem eqs_bytes (w : World) (news : Led) (b : Array UInt8) (t : Tok) : CmpC w (.bytes b t) (.bytes b t) news true := by
  unfold CmpC KP MD looseN
  k_fill
  intro mean mg mb dp un gd cn cs a ccd cl outer A₀ base h₀ L m s Q E B F X N T hk hd hu hret
  refine eq_bytes ?_
  rw [beq_self_eq_true]
  exact hret _ _ F N
set_option maxRecDepth 100000 in
set_option maxHeartbeats 8000000 in
theorem eqs_str (w : World) (news : Led) (z : PySem.Str) (t : Tok) : CmpC w (.str z t) (.str z t) news true := by
  intro mean mg mb dp un gd cn cs a ccd cl outer A₀ base h₀ L m s Q E B F X N T hk hd hu hret
  refine compareOp_gives (op := .Eq) (typeIs_str s z t) (typeIs_str s z t) PySem.F.slot_str_eq PySem.F.entry_str_eq (PySem.F.args_str_eq_2 _ _) (gives_str_eq z z t t) (fun e => nomatch e) ?_
  rw [show (z.cps.toList == z.cps.toList) = true from beq_self_eq_true _]
  exact hret _ _ F N
set_option maxRecDepth 100000 in
set_option maxHeartbeats 8000000 in
theorem eqs_none (w : World) (news : Led) : CmpC w .none .none news true := Mine.into (by exact Mine.thru : Mine.Thru _ (by
    unfold CmpC KP MD looseN
    k_fill
    intro mean mg mb dp un gd cn cs a ccd cl outer A₀ base h₀ L m s Q E B F X N T hk hd hu hret
    k_steps
    all_goals exact hret _ _ F N))
theorem nodup13 : types13.Nodup := by decide
section
variable {w : World} {news : Led} {row : Array UInt8} {tx : PySem.Str} {n_ : Int} {ob : Option PySem.Str} {vt1 vt2 : Tok} {rx rd rk : Addr} {rt1 rt2 rt3 rt4 rt5 rt6 rt7 : Tok} {xb yb : Addr} {bk0 bk1 bk8 bk9 : Tok} {xc yc : Addr} {ck0 ck1 ck9 : Tok} {xg yg : Addr} {gk0 gk1 gk8 gk9 : Tok} {xa ya : Addr} {ak0 ak9 : Tok} {xi yi : Addr} {ik0 ik9 : Tok} {xn yn : Addr} {xw yw : Addr} {xo yo : Addr} {ok0 ok9 : Tok} {xs ys : Addr} {sk0 sk1 sk8 sk9 : Tok}
theorem vals_al (hs : ∀ p ∈ ([(xb, instObj 144 yb), (yb, dictOf [⟨PyData.keyHash w.params (Str.ofString "data"), .str (Str.ofString "data") bk0, .bytes row bk9⟩, ⟨PyData.keyHash w.params (Str.ofString "_subtype"), .str (Str.ofString "_subtype") bk1, .int 0 bk8⟩] 2), (xc, instObj 61 yc), (yc, dictOf [⟨PyData.keyHash w.params (Str.ofString "text"), .str (Str.ofString "text") ck0, .str tx ck9⟩, ⟨PyData.keyHash w.params (Str.ofString "_scope"), .str (Str.ofString "_scope") ck1, .none⟩] 2), (xg, instObj 626 yg), (yg, dictOf [⟨PyData.keyHash w.params (Str.ofString "pattern"), .str (Str.ofString "pattern") gk0, .str tx gk9⟩, ⟨PyData.keyHash w.params (Str.ofString "flags"), .str (Str.ofString "flags") gk1, .int 0 gk8⟩] 2), (rx, instObj 261 rd), (rd, dictOf [⟨PyData.keyHash w.params (Str.ofString "_collection"), .str (Str.ofString "_collection") rt2, .str tx rt1⟩, ⟨PyData.keyHash w.params (Str.ofString "_id"), .str (Str.ofString "_id") rt4, .int n_ rt3⟩, ⟨PyData.keyHash w.params (Str.ofString "_database"), .str (Str.ofString "_database") rt6, baseV ob rt5⟩, ⟨PyData.keyHash w.params (Str.ofString "_kwargs"), .str (Str.ofString "_kwargs") rt7, .ref rk⟩] 4), (xa, instObj 201 ya), (ya, dictOf [⟨PyData.keyHash w.params (Str.ofString "_value"), .str (Str.ofString "_value") ak0, .int 5 ak9⟩] 1), (xi, instObj 344 yi), (yi, dictOf [⟨PyData.keyHash w.params (Str.ofString "value"), .str (Str.ofString "value") ik0, .int 5 ik9⟩] 1), (xn, instObj 470 yn), (yn, dictOf [] 0), (xw, instObj 407 yw), (yw, dictOf [] 0), (xo, instObj 583 yo), (yo, dictOf [⟨PyData.keyHash w.params (Str.ofString "_id"), .str (Str.ofString "_id") ok0, .bytes (Array.replicate 12 0) ok9⟩] 1), (xs, instObj 705 ys), (ys, dictOf [⟨PyData.keyHash w.params (Str.ofString "_time"), .str (Str.ofString "_time") sk0, .int 5 sk9⟩, ⟨PyData.keyHash w.params (Str.ofString "_inc"), .str (Str.ofString "_inc") sk1, .int 5 sk8⟩] 2)] : Led), p ∈ news) : ∀ (j : Nat) (v : Value), ([.ref xb, .ref xc, .ref xg, .ref rx, .ref xa, .ref xi, .ref xn, .ref xw, .ref xo, .ref xs, .bytes row vt1, .str tx vt2, .none] : List Value)[j]? = some v → ∃ tv, types13[j]? = some tv ∧ Al w news v tv := by
  intro j v h
  match j, h with
  | 0, h => cases h; exact ⟨_, rfl, al_binary (hs _ (by k_mem)) (hs _ (by k_mem))⟩
  | 1, h => cases h; exact ⟨_, rfl, al_code (hs _ (by k_mem)) (hs _ (by k_mem))⟩
  | 2, h => cases h; exact ⟨_, rfl, al_regex (hs _ (by k_mem)) (hs _ (by k_mem))⟩
  | 3, h => cases h; exact ⟨_, rfl, al_dbref (hs _ (by k_mem)) (hs _ (by k_mem))⟩
  | 4, h => cases h; exact ⟨_, rfl, al_date (hs _ (by k_mem)) (hs _ (by k_mem))⟩
  | 5, h => cases h; exact ⟨_, rfl, al_int64 (hs _ (by k_mem)) (hs _ (by k_mem))⟩
  | 6, h => cases h; exact ⟨_, rfl, al_minkey (hs _ (by k_mem)) (hs _ (by k_mem))⟩
  | 7, h => cases h; exact ⟨_, rfl, al_maxkey (hs _ (by k_mem)) (hs _ (by k_mem))⟩
  | 8, h => cases h; exact ⟨_, rfl, al_objid (hs _ (by k_mem)) (hs _ (by k_mem))⟩
  | 9, h => cases h; exact ⟨_, rfl, al_stamp (hs _ (by k_mem)) (hs _ (by k_mem))⟩
  | 10, h => cases h; exact ⟨_, rfl, al_bytes _ _⟩
  | 11, h => cases h; exact ⟨_, rfl, al_str _ _⟩
  | 12, h => cases h; exact ⟨_, rfl, al_none⟩
  | n + 13, h => exact nomatch h
theorem vals_self (hs : ∀ p ∈ ([(xb, instObj 144 yb), (yb, dictOf [⟨PyData.keyHash w.params (Str.ofString "data"), .str (Str.ofString "data") bk0, .bytes row bk9⟩, ⟨PyData.keyHash w.params (Str.ofString "_subtype"), .str (Str.ofString "_subtype") bk1, .int 0 bk8⟩] 2), (xc, instObj 61 yc), (yc, dictOf [⟨PyData.keyHash w.params (Str.ofString "text"), .str (Str.ofString "text") ck0, .str tx ck9⟩, ⟨PyData.keyHash w.params (Str.ofString "_scope"), .str (Str.ofString "_scope") ck1, .none⟩] 2), (xg, instObj 626 yg), (yg, dictOf [⟨PyData.keyHash w.params (Str.ofString "pattern"), .str (Str.ofString "pattern") gk0, .str tx gk9⟩, ⟨PyData.keyHash w.params (Str.ofString "flags"), .str (Str.ofString "flags") gk1, .int 0 gk8⟩] 2), (rx, instObj 261 rd), (rd, dictOf [⟨PyData.keyHash w.params (Str.ofString "_collection"), .str (Str.ofString "_collection") rt2, .str tx rt1⟩, ⟨PyData.keyHash w.params (Str.ofString "_id"), .str (Str.ofString "_id") rt4, .int n_ rt3⟩, ⟨PyData.keyHash w.params (Str.ofString "_database"), .str (Str.ofString "_database") rt6, baseV ob rt5⟩, ⟨PyData.keyHash w.params (Str.ofString "_kwargs"), .str (Str.ofString "_kwargs") rt7, .ref rk⟩] 4), (xa, instObj 201 ya), (ya, dictOf [⟨PyData.keyHash w.params (Str.ofString "_value"), .str (Str.ofString "_value") ak0, .int 5 ak9⟩] 1), (xi, instObj 344 yi), (yi, dictOf [⟨PyData.keyHash w.params (Str.ofString "value"), .str (Str.ofString "value") ik0, .int 5 ik9⟩] 1), (xn, instObj 470 yn), (yn, dictOf [] 0), (xw, instObj 407 yw), (yw, dictOf [] 0), (xo, instObj 583 yo), (yo, dictOf [⟨PyData.keyHash w.params (Str.ofString "_id"), .str (Str.ofString "_id") ok0, .bytes (Array.replicate 12 0) ok9⟩] 1), (xs, instObj 705 ys), (ys, dictOf [⟨PyData.keyHash w.params (Str.ofString "_time"), .str (Str.ofString "_time") sk0, .int 5 sk9⟩, ⟨PyData.keyHash w.params (Str.ofString "_inc"), .str (Str.ofString "_inc") sk1, .int 5 sk8⟩] 2)] : Led), p ∈ news) : ∀ (j : Nat) (v : Value), ([.ref xb, .ref xc, .ref xg, .ref rx, .ref xa, .ref xi, .ref xn, .ref xw, .ref xo, .ref xs, .bytes row vt1, .str tx vt2, .none] : List Value)[j]? = some v → CmpC w v v news true := by
  intro j v h
  match j, h with
  | 0, h => cases h; exact cmpC_pick2 (eqs_binary w news xb yb row bk0 bk1 bk8 bk9) (hs _ (by k_mem)) (hs _ (by k_mem))
  | 1, h => cases h; exact cmpC_pick2 (eqs_code w news xc yc tx ck0 ck1 ck9) (hs _ (by k_mem)) (hs _ (by k_mem))
  | 2, h => cases h; exact cmpC_pick2 (eqs_regex w news xg yg tx gk0 gk1 gk8 gk9) (hs _ (by k_mem)) (hs _ (by k_mem))
  | 3, h => cases h; exact cmpC_pick2 (eqs_dbref w news rx rd rk tx n_ ob rt1 rt2 rt3 rt4 rt5 rt6 rt7) (hs _ (by k_mem)) (hs _ (by k_mem))
  | 4, h => cases h; exact cmpC_pick2 (eqs_date w news xa ya ak0 ak9) (hs _ (by k_mem)) (hs _ (by k_mem))
  | 5, h => cases h; exact cmpC_pick2 (eqs_int64 w news xi yi ik0 ik9) (hs _ (by k_mem)) (hs _ (by k_mem))
  | 6, h => cases h; exact cmpC_pick2 (eqs_minkey w news xn yn) (hs _ (by k_mem)) (hs _ (by k_mem))
  | 7, h => cases h; exact cmpC_pick2 (eqs_maxkey w news xw yw) (hs _ (by k_mem)) (hs _ (by k_mem))
  | 8, h => cases h; exact cmpC_pick2 (eqs_objid w news xo yo ok0 ok9) (hs _ (by k_mem)) (hs _ (by k_mem))
  | 9, h => cases h; exact cmpC_pick2 (eqs_stamp w news xs ys sk0 sk1 sk8 sk9) (hs _ (by k_mem)) (hs _ (by k_mem))
  | 10, h => cases h; exact eqs_bytes _ _ _ _
  | 11, h => cases h; exact eqs_str _ _ _ _
  | 12, h => cases h; exact eqs_none _ _
  | n + 13, h => exact nomatch h
theorem vals_cmp (hs : ∀ p ∈ ([(xb, instObj 144 yb), (yb, dictOf [⟨PyData.keyHash w.params (Str.ofString "data"), .str (Str.ofString "data") bk0, .bytes row bk9⟩, ⟨PyData.keyHash w.params (Str.ofString "_subtype"), .str (Str.ofString "_subtype") bk1, .int 0 bk8⟩] 2), (xc, instObj 61 yc), (yc, dictOf [⟨PyData.keyHash w.params (Str.ofString "text"), .str (Str.ofString "text") ck0, .str tx ck9⟩, ⟨PyData.keyHash w.params (Str.ofString "_scope"), .str (Str.ofString "_scope") ck1, .none⟩] 2), (xg, instObj 626 yg), (yg, dictOf [⟨PyData.keyHash w.params (Str.ofString "pattern"), .str (Str.ofString "pattern") gk0, .str tx gk9⟩, ⟨PyData.keyHash w.params (Str.ofString "flags"), .str (Str.ofString "flags") gk1, .int 0 gk8⟩] 2), (rx, instObj 261 rd), (rd, dictOf [⟨PyData.keyHash w.params (Str.ofString "_collection"), .str (Str.ofString "_collection") rt2, .str tx rt1⟩, ⟨PyData.keyHash w.params (Str.ofString "_id"), .str (Str.ofString "_id") rt4, .int n_ rt3⟩, ⟨PyData.keyHash w.params (Str.ofString "_database"), .str (Str.ofString "_database") rt6, baseV ob rt5⟩, ⟨PyData.keyHash w.params (Str.ofString "_kwargs"), .str (Str.ofString "_kwargs") rt7, .ref rk⟩] 4), (xa, instObj 201 ya), (ya, dictOf [⟨PyData.keyHash w.params (Str.ofString "_value"), .str (Str.ofString "_value") ak0, .int 5 ak9⟩] 1), (xi, instObj 344 yi), (yi, dictOf [⟨PyData.keyHash w.params (Str.ofString "value"), .str (Str.ofString "value") ik0, .int 5 ik9⟩] 1), (xn, instObj 470 yn), (yn, dictOf [] 0), (xw, instObj 407 yw), (yw, dictOf [] 0), (xo, instObj 583 yo), (yo, dictOf [⟨PyData.keyHash w.params (Str.ofString "_id"), .str (Str.ofString "_id") ok0, .bytes (Array.replicate 12 0) ok9⟩] 1), (xs, instObj 705 ys), (ys, dictOf [⟨PyData.keyHash w.params (Str.ofString "_time"), .str (Str.ofString "_time") sk0, .int 5 sk9⟩, ⟨PyData.keyHash w.params (Str.ofString "_inc"), .str (Str.ofString "_inc") sk1, .int 5 sk8⟩] 2)] : Led), p ∈ news) (j i : Nat) (v u : Value) (hj : ([.ref xb, .ref xc, .ref xg, .ref rx, .ref xa, .ref xi, .ref xn, .ref xw, .ref xo, .ref xs, .bytes row vt1, .str tx vt2, .none] : List Value)[j]? = some v) (hi : ([.ref xb, .ref xc, .ref xg, .ref rx, .ref xa, .ref xi, .ref xn, .ref xw, .ref xo, .ref xs, .bytes row vt1, .str tx vt2, .none] : List Value)[i]? = some u) : CmpC w v u news (decide (j = i)) := by
  by_cases e : j = i
  · subst e
    rw [hj] at hi
    cases hi
    rw [decide_eq_true rfl]
    exact vals_self hs j v hj
  · rw [decide_eq_false e]
    obtain ⟨tv, ht, a⟩ := vals_al hs j v hj
    obtain ⟨tu, ht2, b⟩ := vals_al hs i u hi
    refine al_cmp a b (List.mem_of_getElem? ht) (List.mem_of_getElem? ht2) fun q => e ?_
    subst q
    exact (List.getElem?_inj (List.getElem?_eq_some_iff.mp ht).1 nodup13).mp (ht.trans ht2.symm)
end
end Mine

end
-- N6
section
open PySem PySem.Calls PySem.W PyProof.Rows PyProof.V PySem.Spec PySem.SeqAt
namespace Mine
inductive Rows : Nat → List Value → Led → Prop
  | nil : Rows 0 [] []
  | snoc {i : Nat} {ys : List Value} {rows : Led} (a : Addr) (t : Tok) (c : Nat) : Rows i ys rows → Rows (i + 1) (ys ++ [.ref a]) ((a, W.listOf [Value.int (0 + (i : Int)) t].toArray c) :: rows)
theorem EqAll.snoc {prog : Program} {w : World} {A : Around} {s : Shared} {x y : Value} : ∀ {xs ys : List Value} {r : Bool}, EqAll prog w A s xs ys r → EqW prog w A s x y true → EqAll prog w A s (xs ++ [x]) (ys ++ [y]) r
  | _, _, _, .nil, h => .cons h .nil
  | _, _, _, .cons h t, h2 => .cons h (t.snoc h2)
theorem rows_eq {prog : Program} {w : World} {A : Around} {s : Shared} {h₀ : Heap} {L : Addr} {news : Led} (N : News h₀ L s.heap news) (hu : A.units < cLine) : ∀ {n : Nat} {ys ys2 : List Value} {rows rows2 : Led}, Rows n ys rows → Rows n ys2 rows2 → (∀ p ∈ rows, p ∈ news) → (∀ p ∈ rows2, p ∈ news) → EqAll prog w A s ys ys2 true
  | 0, _, _, _, _, .nil, .nil, _, _ => .nil
  | n + 1, _, _, _, _, .snoc a t c r1, .snoc b t2 c2 r2, h1, h2 => by
    refine (rows_eq N hu r1 r2 (fun p hp => h1 p (.tail _ hp)) (fun p hp => h2 p (.tail _ hp))).snoc ?_
    by_cases e : a = b
    · subst e; exact EqW.of (EqAt.same _)
    · have h := eqW_lists (prog := prog) (w := w) (A := A) (xs := [Value.int (0 + (n : Int)) t]) (ys := [Value.int (0 + (n : Int)) t2]) e N (h1 _ (.head _)) rfl rfl (h2 _ (.head _)) rfl rfl hu (.cons (EqW.of (EqAt.int_int _ _ _ _)) .nil)
      simpa using h
section
variable {prog : Program} {w : World} {A : Around} {s : Shared} {h₀ : Heap} {L : Addr} {m : Map} {env : Env} {elt ct : PySem.Expr} {x : PySem.Str} {scope : Scope} {cl : List (PySem.Str × Addr)} {news : Led}
theorem rest_rows {Fin : List Value → Led → Prop} {n : Nat}
    (turn : ∀ i t rows I oI C oC D ys m₂ h tk (E' : Value → Shared → Prop), i < n → LCg.NsObj oC m₂ → m₂ x = some (.int (0 + (i : Int)) t) → Fr h₀ L h m → News h₀ L h ((I, oI) :: (C, oC) :: (D, LCg.lst ys) :: (rows ++ news)) → 
      wpAny (model prog w) A (eval elt (compEnvC scope cl C env)) (fun y s' => ∃ a t' c h' tk', y = .ref a ∧ s' = { s with heap := h', toks := tk' } ∧ Fr h₀ L h' m ∧ News h₀ L h' ((a, W.listOf [Value.int (0 + (i : Int)) t'].toArray c) :: (I, oI) :: (C, oC) :: (D, LCg.lst ys) :: (rows ++ news)) ∧ (∀ p ∈ (I, oI) :: (C, oC) :: (D, LCg.lst ys) :: (rows ++ news), p.1 ≠ a)) E' { s with heap := h, toks := tk })
    (fin : ∀ ys rows, Rows n ys rows → Fin ys (rows ++ news)) :
    LCg.CompRest prog w A h₀ L m env elt x scope cl s (fun _ => True) (fun i v => ∃ t, v = .int (0 + (i : Int)) t) Fin n 0 [] news := by
  have key : ∀ (k i : Nat) (ys : List Value) (rows : Led), i + k = n → Rows i ys rows → LCg.CompRest prog w A h₀ L m env elt x scope cl s (fun _ => True) (fun i v => ∃ t, v = .int (0 + (i : Int)) t) Fin k i ys (rows ++ news) := by
    intro k
    induction k with
    | zero =>
      intro i ys rows e R
      have e' : i = n := by omega
      subst e'
      exact LCg.CompRest.zero (fin ys rows R)
    | succ k ih =>
      intro i ys rows e R
      refine LCg.CompRest.succ ?_
      intro v I oI C oC D m₂ h tk E' hv hC hx F N off ne
      obtain ⟨t, rfl⟩ := hv
      refine wpAny_mono (turn i t rows I oI C oC D ys m₂ h tk E' (by omega) hC hx F N) (fun y s₂ hq => ?_) fun _ _ e => e
      obtain ⟨a, t', c, h', tk', rfl, rfl, F', N', hne⟩ := hq
      refine comp_end F' (news' := (a, W.listOf [Value.int (0 + (i : Int)) t'].toArray c) :: (rows ++ news)) (fun p hp => ?_) ?_ trivial (ih (i + 1) _ _ (by omega) (.snoc a t' c R))
      · rcases List.mem_cons.mp hp with rfl | hp
        · exact N' _ (.tail _ (.head _))
        rcases List.mem_cons.mp hp with rfl | hp
        · exact N' _ (.tail _ (.tail _ (.head _)))
        rcases List.mem_cons.mp hp with rfl | hp
        · exact N' _ (.tail _ (.tail _ (.tail _ (.head _))))
        rcases List.mem_cons.mp hp with rfl | hp
        · exact N' _ (.head _)
        · exact N' _ (.tail _ (.tail _ (.tail _ (.tail _ hp))))
      · exact ⟨⟨Ne.symm (hne _ (.head _)), Ne.symm (hne _ (.tail _ (.head _))), Ne.symm (hne _ (.tail _ (.tail _ (.head _))))⟩, off⟩
  exact key n 0 [] [] (by omega) .nil
theorem restT_one {Fin : List Value → Led → Prop} {n j : Nat} (hj : j < n)
    (helt : ∀ C (s' : Shared) m₂ v (Q E : Value → Shared → Prop), s'.heap.Ns C m₂ → m₂ x = some v → Q v s' → wpAny (model prog w) A (eval elt (compEnvC scope cl C env)) Q E s')
    (turn : ∀ i t I oI C oC D ys m₂ h tk (E' : Value → Shared → Prop), i < n → LCg.NsObj oC m₂ → m₂ x = some (.int (0 + (i : Int)) t) → Fr h₀ L h m → News h₀ L h ((I, oI) :: (C, oC) :: (D, LCg.lst ys) :: news) → 
      wpAny (model prog w) A (isTrue ct (compEnvC scope cl C env) (eval ct (compEnvC scope cl C env))) (fun ok s' => ok = decide (j = i) ∧ ∃ h' tk', s' = { s with heap := h', toks := tk' } ∧ Fr h₀ L h' m ∧ News h₀ L h' ((I, oI) :: (C, oC) :: (D, LCg.lst ys) :: news)) E' { s with heap := h, toks := tk })
    (fin : ∀ t, Fin [.int (0 + (j : Int)) t] news) :
    LCt.CompRestT prog w A h₀ L m env ct elt x scope cl s (fun _ => True) (fun i v => ∃ t, v = .int (0 + (i : Int)) t) Fin n 0 [] news := by
  have key : ∀ (k i : Nat) (ys : List Value), i + k = n → (i ≤ j ∧ ys = [] ∨ j < i ∧ ∃ t, ys = [.int (0 + (j : Int)) t]) → LCt.CompRestT prog w A h₀ L m env ct elt x scope cl s (fun _ => True) (fun i v => ∃ t, v = .int (0 + (i : Int)) t) Fin k i ys news := by
    intro k
    induction k with
    | zero =>
      intro i ys e R
      rcases R with ⟨h1, _⟩ | ⟨_, t, rfl⟩
      · omega
      · exact LCt.CompRestT.zero (fin t)
    | succ k ih =>
      intro i ys e R
      refine LCt.CompRestT.succ ?_
      intro v I oI C oC D m₂ h tk E' hv hC hx F N off ne
      obtain ⟨t, rfl⟩ := hv
      refine wpAny_mono (turn i t I oI C oC D ys m₂ h tk E' (by omega) hC hx F N) (fun ok s₂ hq => ?_) fun _ _ e => e
      obtain ⟨rfl, h', tk', rfl, F', N'⟩ := hq
      by_cases hji : j = i
      · rw [decide_eq_true hji, if_pos rfl]
        refine helt C _ m₂ _ _ _ (hC.ns (N' _ (.tail _ (.head _))).1) hx ?_
        refine comp_end F' N' off trivial (ih (i + 1) _ (by omega) (.inr ⟨by omega, t, ?_⟩))
        rcases R with ⟨_, rfl⟩ | ⟨h1, _⟩
        · rw [hji]; rfl
        · omega
      · rw [decide_eq_false hji, if_neg Bool.false_ne_true]
        refine comp_end F' N' off trivial (ih (i + 1) _ (by omega) ?_)
        rcases R with ⟨h1, h2⟩ | ⟨h1, h2⟩
        · exact .inl ⟨by omega, h2⟩
        · exact .inr ⟨by omega, h2⟩
  exact key n 0 [] (by omega) (.inl ⟨Nat.zero_le _, rfl⟩)
end
end Mine

end
-- N7
section
open PySem PySem.Calls PySem.W PyProof.Rows PyProof.V PySem.Spec PySem.SeqAt
set_option maxHeartbeats 1000000
namespace Mine
section
variable {prog : Program} {w : World} {A : Around} {E : Value → Shared → Prop} {s : Shared} {h₀ : Heap} {L : Addr} {m : Map} {env : Env} {elt iter : PySem.Expr} {x : PySem.Str} {px pos : Pos} {scope : Scope} {cl : List (PySem.Str × Addr)} {news : Led} {Q : Value → Shared → Prop}
def NestSrc (prog : Program) (w : World) (A : Around) (h₀ : Heap) (L : Addr) (m : Map) (env : Env) (elt : PySem.Expr) (x : PySem.Str) (scope : Scope) (cl : List (PySem.Str × Addr)) (Q : Value → Shared → Prop) (xv : Value) (s₁ : Shared) : Prop :=
  ∃ r b t u v n news, xv = .ref r ∧ A.handled = none ∧ Fr h₀ L s₁.heap m ∧ News h₀ L s₁.heap news ∧ IsRange s₁.heap r 0 b 1 t u v ∧ Builtin.Range.small 0 b 1 = true ∧ Builtin.Range.rangeSize 0 b 1 = ((n : Nat) : Int) ∧ n ≤ sizeLine ∧
    (∀ i t rows c oc C h tk (E' : Value → Shared → Prop) oth, i < n → oc.data = .cell (some (.int (0 + (i : Int)) t)) → Fr h₀ L h m → News h₀ L h ((c, oc) :: (oth ++ (rows ++ news))) →
      wpAny (model prog w) A (eval elt (compEnvC scope ((x, c) :: cl) C env)) (fun y s' => ∃ a t' k h' tk', y = .ref a ∧ s' = { s₁ with heap := h', toks := tk' } ∧ Fr h₀ L h' m ∧ News h₀ L h' ((a, W.listOf [Value.int (0 + (i : Int)) t'].toArray k) :: (c, oc) :: (oth ++ (rows ++ news))) ∧ (∀ p ∈ (c, oc) :: (oth ++ (rows ++ news)), p.1 ≠ a)) E' { s₁ with heap := h, toks := tk }) ∧
    (∀ D ys rows h tk, Rows n ys rows → Fr h₀ L h m → News h₀ L h ((D, W.listOf ys.toArray ys.length) :: (rows ++ news)) → Q (.ref D) { s₁ with heap := h, toks := tk })
theorem nest_comp (_F₀ : Fr h₀ L s.heap m) (hclos : closureFor scope env = pure cl) (hcells : ∀ n, cellsFrom n scope.names cl = (x, n) :: cl) (hpush : ∀ h : Heap, pushCells h scope.names = h.push { cls := .type "cell", data := .cell none })
    (hkind : scope.kind = .function) (hnames : ∀ y ∈ scope.names, y.2 = .local → scope.names.lookup y.1 = some .local)
    (hx : ∀ c C, (compEnvC scope ((x, c) :: cl) C env).kindOf x = some .cell)
    (h : wpAny (model prog w) A (eval iter env) (NestSrc prog w A h₀ L m env elt x scope cl Q) E s)
    (hs : ∀ x, foldedSetIterable iter env x = pure x) :
    wpAny (model prog w) A (eval (.ListComp elt [⟨.Name x px, iter, [], 0⟩] scope pos) env) Q E s := by
  rw [eval_ListComp]
  refine wpAny_comprehension_free (use := none) rfl hs hclos hkind hnames (wpAny_mono h (fun xv s₁ h₁ => ?_) fun _ _ e => e)
  obtain ⟨r, b, t, u, v, n, news, rfl, hh, F, N, hr, hsm, hn, hsz, turn, fin⟩ := h₁
  refine wpAny_pyIter_range hr hsm ?_
  refine wpAny_newObj_type ?_
  unfold newFunctionEnv
  simp only [Option.isSome_some, if_true]
  refine wpAny_bind (wpAny_alloc ?_)
  refine wpAny_bind (wpAny_layCells _ (fun name kind cells => by cases hkc : kind == NameKind.cell <;> simp [hkc]) _ _ _ _ ?_)
  rw [hcells, hpush]
  refine wpAny_bind ?_
  rw [List.forIn_nil]
  refine wpAny_pure (wpAny_pure ?_)
  dsimp only
  generalize hit : ({ cls := .type "range_iterator", data := .fields #[rawInt 0, rawInt (Builtin.Range.rangeSize 0 b 1), rawInt 1] } : Obj) = oI0
  generalize hH1 : s₁.heap.push oI0 = H1
  generalize hH2 : H1.push { cls := .type "list", data := .seq ([] : List Value).toArray } = H2
  generalize hH3 : H2.push { cls := .type "dict", data := .dict #[] } = H3
  generalize hH4 : H3.push { cls := .type "cell", data := .cell none } = H4
  generalize hI : s₁.heap.objs.size = I
  generalize hD : H1.objs.size = D
  generalize hC : H2.objs.size = C
  generalize hc : H3.objs.size = c
  have sD : D = I + 1 := by rw [← hD, ← hH1, Heap.size_push, hI]
  have sC : C = I + 2 := by rw [← hC, ← hH2, Heap.size_push, hD, sD]
  have sc : c = I + 3 := by rw [← hc, ← hH3, Heap.size_push, hC, sC]
  have k1 : ∀ b o, s₁.heap.get? b = some o → H1.get? b = some o := fun b o e => hH1 ▸ Heap.get?_push_of_some _ e
  have k2 : ∀ b o, H1.get? b = some o → H2.get? b = some o := fun b o e => hH2 ▸ Heap.get?_push_of_some _ e
  have k3 : ∀ b o, H2.get? b = some o → H3.get? b = some o := fun b o e => hH3 ▸ Heap.get?_push_of_some _ e
  have k4 : ∀ b o, H3.get? b = some o → H4.get? b = some o := fun b o e => hH4 ▸ Heap.get?_push_of_some _ e
  have old : ∀ b o, s₁.heap.get? b = some o → H4.get? b = some o := fun b o e => k4 _ _ (k3 _ _ (k2 _ _ (k1 _ _ e)))
  have gI : H4.get? I = some oI0 := k4 _ _ (k3 _ _ (k2 _ _ (by rw [← hH1, ← hI]; exact Heap.get?_push_size _ (by rw [← hit]; rfl))))
  have gD : H4.get? D = some (LCg.lst []) := k4 _ _ (k3 _ _ (by rw [← hH2, ← hD]; exact Heap.get?_push_size _ rfl))
  have gC : H4.get? C = some { cls := .type "dict", data := .dict #[] } := k4 _ _ (by rw [← hH3, ← hC]; exact Heap.get?_push_size _ rfl)
  have gc : H4.get? c = some { cls := .type "cell", data := .cell none } := by rw [← hH4, ← hc]; exact Heap.get?_push_size _ rfl
  have nC : H4.Ns C (fun _ => none) := by
    have := Heap.Ns.new H2 (.type "dict")
    rw [hC] at this
    exact this.at' fun o e => k4 _ _ (by rw [← hH3]; exact e)
  have lt1 : ∀ {b o}, s₁.heap.get? b = some o → @LT.lt Nat _ b I := fun e => hI ▸ Heap.lt_size e
  have hLI : @LT.lt Nat _ L I := hI ▸ F.ns.lt
  have fresh : ∀ a, @LE.le Nat _ I a → h₀.get? a = none := fun a ha => by
    cases e : h₀.get? a with
    | none => rfl
    | some o => exact absurd (lt1 (F.keep _ _ e)) (Nat.not_lt.mpr ha)
  have fI : h₀.get? I = none := fresh _ (Nat.le_refl _)
  have fD : h₀.get? D = none := fresh _ (by omega)
  have fC : h₀.get? C = none := fresh _ (by omega)
  have fc : h₀.get? c = none := fresh _ (by omega)
  have LI : L ≠ I := Nat.ne_of_lt hLI
  have LD : L ≠ D := Nat.ne_of_lt (by omega)
  have LC : L ≠ C := Nat.ne_of_lt (by omega)
  have Lc : L ≠ c := Nat.ne_of_lt (by omega)
  have ID : I ≠ D := Nat.ne_of_lt (by omega)
  have IC : I ≠ C := Nat.ne_of_lt (by omega)
  have Ic : I ≠ c := Nat.ne_of_lt (by omega)
  have DC : D ≠ C := Nat.ne_of_lt (by omega)
  have Dc : D ≠ c := Nat.ne_of_lt (by omega)
  have Cc : C ≠ c := Nat.ne_of_lt (by omega)
  have off0 : ∀ p ∈ news, p.1 ≠ I ∧ p.1 ≠ c ∧ p.1 ≠ D ∧ p.1 ≠ C := fun p hp => by
    have := lt1 (N p hp).1
    exact ⟨Nat.ne_of_lt this, Nat.ne_of_lt (by omega), Nat.ne_of_lt (by omega), Nat.ne_of_lt (by omega)⟩
  have W := LCg.range_walks (prog := prog) (w := w) (I := I) hh 0 n
  have st0 : IsRangeIter H4 I (0 + ((0 : Nat) : Int) * 1) ((n : Int) - ((0 : Nat) : Int)) 1 := by
    show H4.get? I = some _
    rw [gI, ← hit, hn]
    simp
  have loop : codeAny (model prog w) A (.compLoop (.ListComp elt [⟨.Name x px, iter, [], 0⟩] scope pos) 0 (.ref I) (.ref D) (compEnvC scope ((x, c) :: cl) C env)) (compPost (model prog w) A E none Q (.ref D) C) { s₁ with heap := H4 } := by
    refine codeAny_compLoop_tests
      (fun k s' => ∃ h' tk i ys rows oI oc v0, s' = { s₁ with heap := h', toks := tk } ∧ i ≤ n ∧ k = n + 1 - i ∧ ys.length = i ∧ IsRangeIter h' I (0 + (i : Int) * 1) ((n : Int) - (i : Int)) 1 ∧ Fr h₀ L h' m ∧ h'.Ns C (fun _ => none) ∧
        News h₀ L h' ((c, oc) :: ((I, oI) :: [(D, LCg.lst ys)] ++ (rows ++ news))) ∧ oc.data = .cell v0 ∧ Rows i ys rows ∧ (∀ p ∈ rows ++ news, p.1 ≠ I ∧ p.1 ≠ c ∧ p.1 ≠ D ∧ p.1 ≠ C)) ?_ (n + 1)
      ⟨H4, _, 0, [], [], oI0, { cls := .type "cell", data := .cell none }, none, rfl, Nat.zero_le _, rfl, rfl, st0, F.keeps old, nC, fun p hp => ?_, rfl, .nil, off0⟩
    · rintro k s' ⟨h', tk, i, ys, rows, oI, oc, v0, rfl, hi, rfl, hyl, hst', F', nC', N', hcd, R', off'⟩
      by_cases hlt : i < n
      · refine W.item i _ _ _ hlt hst' fun v h₂ tk₂ hPv hst₂ hk₂ => ?_
        obtain ⟨t', rfl⟩ := hPv
        have kp : ∀ b o, b ≠ I → h'.get? b = some o → h₂.get? b = some o := fun b o hb e => hk₂ b o (by simpa using hb) e
        have hcN : h'.get? c = some oc := (N' _ (.head _)).1
        refine wpAny_assign_Name (wpAny_storeName_cell (c := c) (v₀ := v0) (by exact hkind) (hx c C) (by simp [compEnvC]) ⟨oc, kp _ _ (Ne.symm Ic) hcN, hcd⟩ fun h₃ hcell hsb => ?_)
        obtain ⟨oc', hoc', hcd'⟩ := hcell
        refine wpAny_tests_nil ?_
        simp only [if_true]
        have F₃ : Fr h₀ L h₃ m := (LCg.fr_but F' hk₂ LI fI).change hsb (Ne.symm Lc) fc
        have nC₃ : h₃.Ns C (fun _ => none) := nC'.at' fun o e => hsb.extBut _ _ Cc (kp _ _ (Ne.symm IC) e)
        obtain ⟨oI', hoI'⟩ : ∃ o, h₂.get? I = some o := ⟨_, hst₂⟩
        have N₃ : News h₀ L h₃ ((c, oc') :: ((I, oI') :: [(D, LCg.lst ys)] ++ (rows ++ news))) := fun p hp => by
          rcases List.mem_cons.mp hp with rfl | hp
          · exact ⟨hoc', Ne.symm Lc, fc⟩
          rcases List.mem_append.mp hp with hp | hp
          · rcases List.mem_cons.mp hp with rfl | hp
            · exact ⟨hsb.extBut _ _ Ic hoI', Ne.symm LI, fI⟩
            · rw [List.mem_singleton.mp hp]
              exact ⟨hsb.extBut _ _ Dc (kp _ _ (Ne.symm ID) (N' _ (.tail _ (List.mem_append_left _ (.tail _ (.head _))))).1), Ne.symm LD, fD⟩
          · have z := N' p (.tail _ (List.mem_append_right _ hp))
            exact ⟨hsb.extBut _ _ (off' p hp).2.1 (kp _ _ (off' p hp).1 z.1), z.2⟩
        have hCold := nC₃
        obtain ⟨oC, hoC, hCns⟩ := LCg.ns_obj nC₃
        refine wpAny_mono (turn i t' rows c oc' C h₃ tk₂ _ ((C, oC) :: (I, oI') :: [(D, LCg.lst ys)]) hlt hcd' F₃ (fun p hp => ?_)) (fun y s₄ h₄ => ?_) fun _ _ e => e
        · rcases List.mem_cons.mp hp with rfl | hp
          · exact N₃ _ (.head _)
          rcases List.mem_cons.mp hp with rfl | hp
          · exact ⟨hoC, Ne.symm LC, fC⟩
          · exact N₃ _ (.tail _ hp)
        obtain ⟨a, t'', ck, h₄, tk₄, rfl, rfl, F₄, N₄, hne⟩ := h₄
        have zc := (N₄ (c, oc') (.tail _ (.head _))).1
        have zC := (N₄ (C, oC) (.tail _ (.tail _ (.head _)))).1
        have zI := (N₄ (I, oI') (.tail _ (.tail _ (.tail _ (.head _))))).1
        have zD := (N₄ (D, LCg.lst ys) (.tail _ (.tail _ (.tail _ (.tail _ (.head _)))))).1
        have ac := hne (c, oc') (.head _)
        have aC := hne (C, oC) (.tail _ (.head _))
        have aI := hne (I, oI') (.tail _ (.tail _ (.head _)))
        have aD := hne (D, LCg.lst ys) (.tail _ (.tail _ (.tail _ (.head _))))
        have hst₄ : IsRangeIter h₄ I (0 + ((i + 1 : Nat) : Int) * 1) ((n : Int) - ((i + 1 : Nat) : Int)) 1 := LCg.range_st (h₀ := h₀) (L := L) (i + 1) h₂ h₄ oI' [] hst₂ hoI' zI F₄.keep News.nil trivial
        refine append_at (hsz := by show ys.toArray.size ≤ sizeLine; rw [List.size_toArray, hyl]; exact Nat.le_trans hi hsz) zD fun h₅ hs₅ hD₅ => ?_
        have hst₅ : IsRangeIter h₅ I (0 + ((i + 1 : Nat) : Int) * 1) ((n : Int) - ((i + 1 : Nat) : Int)) 1 := LCg.range_st (h₀ := h₀) (L := L) (i + 1) h₄ h₅ oI' [] hst₄ zI (hs₅.extBut _ _ ID zI) (F₄.change hs₅ (Ne.symm LD) fD).keep News.nil trivial
        refine ⟨n + 1 - (i + 1), by omega, h₅, tk₄, i + 1, ys ++ [.ref a], _, oI', oc', _, rfl, hlt, rfl, by rw [List.length_append, List.length_singleton, hyl], hst₅, F₄.change hs₅ (Ne.symm LD) fD,
          (hCns.ns zC).at' fun o e => hs₅.extBut _ _ (Ne.symm DC) e, fun p hp => ?_, hcd', .snoc a t'' ck R', fun p hp => ?_⟩
        · rcases List.mem_cons.mp hp with rfl | hp
          · exact ⟨hs₅.extBut _ _ (Ne.symm Dc) zc, Ne.symm Lc, fc⟩
          rcases List.mem_append.mp hp with hp | hp
          · rcases List.mem_cons.mp hp with rfl | hp
            · exact ⟨hs₅.extBut _ _ ID zI, Ne.symm LI, fI⟩
            · rw [List.mem_singleton.mp hp]
              exact ⟨hD₅.trans (congrArg some (LCg.lst_snoc ys _)), Ne.symm LD, fD⟩
          · rcases List.mem_cons.mp hp with rfl | hp
            · have z := N₄ _ (.head _)
              exact ⟨hs₅.extBut _ _ (Ne.symm aD) z.1, z.2⟩
            · have z := N₄ p (.tail _ (.tail _ (.tail _ (.tail _ (.tail _ hp)))))
              exact ⟨hs₅.extBut _ _ (off' p hp).2.2.1 z.1, z.2⟩
        · rcases List.mem_cons.mp hp with rfl | hp
          · exact ⟨Ne.symm aI, Ne.symm ac, Ne.symm aD, Ne.symm aC⟩
          · exact off' p hp
      · obtain rfl : i = n := Nat.le_antisymm hi (Nat.not_lt.mp hlt)
        refine W.done _ _ _ hst' fun h₂ tk₂ hk₂ => ?_
        have kp : ∀ b o, b ≠ I → h'.get? b = some o → h₂.get? b = some o := fun b o hb e => hk₂ b o (by simpa using hb) e
        refine ⟨_, nC'.at' fun o e => kp _ _ (Ne.symm IC) e, fun h'' hs'' => ?_⟩
        refine fin D ys rows h'' tk₂ R' ((LCg.fr_but F' hk₂ LI fI).change hs'' (Ne.symm LC) fC) fun p hp => ?_
        rcases List.mem_cons.mp hp with rfl | hp
        · exact ⟨hs''.extBut _ _ DC (kp _ _ (Ne.symm ID) (N' _ (.tail _ (List.mem_append_left _ (.tail _ (.head _))))).1), Ne.symm LD, fD⟩
        · have z := N' p (.tail _ (List.mem_append_right _ hp))
          exact ⟨hs''.extBut _ _ (off' p hp).2.2.2 (kp _ _ (off' p hp).1 z.1), z.2⟩
    · rcases List.mem_cons.mp hp with rfl | hp
      · exact ⟨gc, Ne.symm Lc, fc⟩
      rcases List.mem_append.mp hp with hp | hp
      · rcases List.mem_cons.mp hp with rfl | hp
        · exact ⟨gI, Ne.symm LI, fI⟩
        · rw [List.mem_singleton.mp hp]
          exact ⟨gD, Ne.symm LD, fD⟩
      · have z := N p hp
        exact ⟨old _ _ z.1, z.2⟩
  exact codeAny_compStart_list loop (W.self 0 _ _ _ st0 loop)
theorem nest_src {r : Addr} {b : Int} {t u v : Tok} {n : Nat} {s₁ : Shared} (hh : A.handled = none) (F : Fr h₀ L s₁.heap m) (N : News h₀ L s₁.heap news) (hr : IsRange s₁.heap r 0 b 1 t u v) (hsm : Builtin.Range.small 0 b 1 = true) (hn : Builtin.Range.rangeSize 0 b 1 = ((n : Nat) : Int)) (hsz : n ≤ sizeLine)
    (turn : ∀ i t R c oc C h tk (E' : Value → Shared → Prop), i < n → oc.data = .cell (some (.int (0 + (i : Int)) t)) → Fr h₀ L h m → (∀ p ∈ news, p ∈ R) → News h₀ L h ((c, oc) :: R) →
      wpAny (model prog w) A (eval elt (compEnvC scope ((x, c) :: cl) C env)) (fun y s' => ∃ a t' k h' tk', y = .ref a ∧ s' = { s₁ with heap := h', toks := tk' } ∧ Fr h₀ L h' m ∧ News h₀ L h' ((a, W.listOf [Value.int (0 + (i : Int)) t'].toArray k) :: (c, oc) :: R) ∧ (∀ p ∈ (c, oc) :: R, p.1 ≠ a)) E' { s₁ with heap := h, toks := tk })
    (fin : ∀ D ys rows R h tk, Rows n ys rows → Fr h₀ L h m → (∀ p ∈ rows, p ∈ R) → (∀ p ∈ news, p ∈ R) → News h₀ L h ((D, W.listOf ys.toArray ys.length) :: R) → Q (.ref D) { s₁ with heap := h, toks := tk }) : NestSrc prog w A h₀ L m env elt x scope cl Q (.ref r) s₁ :=
  ⟨r, b, t, u, v, n, news, rfl, hh, F, N, hr, hsm, hn, hsz, fun i t rows c oc C h tk E' oth hi hd F' N' => turn i t (oth ++ (rows ++ news)) c oc C h tk E' hi hd F' (fun p hp => List.mem_append_right _ (List.mem_append_right _ hp)) N',
    fun D ys rows h tk R F' N' => fin D ys rows (rows ++ news) h tk R F' (fun p hp => List.mem_append_left _ hp) (fun p hp => List.mem_append_right _ hp) N'⟩
theorem rows_src {r : Addr} {b : Int} {t u v : Tok} {n : Nat} {s₁ : Shared} (hh : A.handled = none) (F : Fr h₀ L s₁.heap m) (N : News h₀ L s₁.heap news) (hr : IsRange s₁.heap r 0 b 1 t u v) (hsm : Builtin.Range.small 0 b 1 = true) (hn : Builtin.Range.rangeSize 0 b 1 = ((n : Nat) : Int)) (hsz : n ≤ sizeLine)
    (turn : ∀ i t R I oI C oC D ys m₂ h tk (E' : Value → Shared → Prop), i < n → LCg.NsObj oC m₂ → m₂ x = some (.int (0 + (i : Int)) t) → Fr h₀ L h m → News h₀ L h ((I, oI) :: (C, oC) :: (D, LCg.lst ys) :: R) → 
      wpAny (model prog w) A (eval elt (compEnvC scope cl C env)) (fun y s' => ∃ a t' c h' tk', y = .ref a ∧ s' = { s₁ with heap := h', toks := tk' } ∧ Fr h₀ L h' m ∧ News h₀ L h' ((a, W.listOf [Value.int (0 + (i : Int)) t'].toArray c) :: (I, oI) :: (C, oC) :: (D, LCg.lst ys) :: R) ∧ (∀ p ∈ (I, oI) :: (C, oC) :: (D, LCg.lst ys) :: R, p.1 ≠ a)) E' { s₁ with heap := h, toks := tk })
    (fin : ∀ D ys rows R h tk, Rows n ys rows → Fr h₀ L h m → (∀ p ∈ rows, p ∈ R) → (∀ p ∈ news, p ∈ R) → News h₀ L h ((D, LCg.lst ys) :: R) → Q (.ref D) { s₁ with heap := h, toks := tk }) : LCg.CompSrc prog w A h₀ L m env elt x scope cl (fun s₂ => LCg.FinE h₀ L m s₂ Q) (.ref r) s₁ :=
  LCg.CompSrc.range hh F N hr hsm hn hsz fun g => rest_rows (fun i t rows I oI C oC D ys m₂ h tk E' hi hC hx F N => turn i t (rows ++ news) I oI C oC D ys m₂ h tk E' hi hC hx F N) fun ys rows R D h tk F N _ => fin D ys rows (rows ++ news) h tk R F (fun p hp => List.mem_append_left _ hp) (fun p hp => List.mem_append_right _ hp) N
theorem item_at {value slice : PySem.Expr} {l : Addr} {vs : List Value} {i : Nat} {u : Tok} {y : Value} {k : Nat} (F : Fr h₀ L s.heap m) (N : News h₀ L s.heap news) (hm : (l, W.listOf vs.toArray k) ∈ news) (hi : i < 1000) (hx : vs[i]? = some y) (h : Q y s)
    (hs : subscripted slice false (.ref l) (.int (0 + (i : Int)) u) = operate [.ref l, .int (0 + (i : Int)) u] (getItem (.ref l) (.int (0 + (i : Int)) u)) := by with_unfolding_all rfl) :
    wpAny (model prog w) A (subscriptTail value slice (.ref l) (.int (0 + (i : Int)) u)) Q E s := by
  have hl : s.heap.IsList l vs.toArray := News.isList N hm
  have e : (0 + (i : Int)).toNat = i := by omega
  exact tail_any hl.typeIs slot_list_getitem.lookup (wpAny_getItem_list hl (by omega) (by omega) (by rw [e]; simpa using hx) h) hs
end
end Mine

end
-- MK0
section
open PySem PySem.Calls PySem.W PyProof.Rows PyProof.V PySem.Spec
namespace Mine
set_option maxRecDepth 100000
def NX (K : Led → Flow → Prop) (tl : Led) (fl : Flow) : Prop := fl ≠ .next ∧ K tl fl
noncomputable def madeBody (n : Nat) : List Stmt := match madeTry[n]? with | some (.If _ b _ _) => b | _ => []
section
variable {w : World} {c : Cx w} {news : Led} {one two : Value} {t : Tok} {K : Led → Flow → Prop} {P : Value → Heap → Prop}
theorem br_binary (M : MadeAt c (.str (Str.ofString "binary") t) one two) (h : JX c (execs (madeBody 0) c.env) news (NX K) P) : JX c (execs madeTry c.env) news K P := Mine.into (by exact Mine.thru : Mine.Thru _ (by
    have ok := M.ok
    have h2 := M.kind
    refine JX.last (JX.ifT ?_)
    repeat' (first | walk_at "jb" | ((with_reducible refine J.str ?_); intro _) | with_reducible refine J.eqS ?_)
    exact ⟨by decide +kernel, h⟩))
theorem br_date (M : MadeAt c (.str (Str.ofString "date") t) one two) (h : JX c (execs (madeBody 1) c.env) news (NX K) P) : JX c (execs madeTry c.env) news K P := Mine.into (by exact Mine.thru : Mine.Thru _ (by
    have ok := M.ok
    have h2 := M.kind
    refine JX.cons (JR.ifF ?_)
    repeat' (first | walk_at "jb" | ((with_reducible refine J.str ?_); intro _) | with_reducible refine J.eqS ?_)
    refine ⟨by decide +kernel, JR.nil ⟨rfl, ?_⟩⟩
    refine JX.last (JX.ifT ?_)
    repeat' (first | walk_at "jb" | ((with_reducible refine J.str ?_); intro _) | with_reducible refine J.eqS ?_)
    exact ⟨by decide +kernel, h⟩))
theorem br_code (M : MadeAt c (.str (Str.ofString "code") t) one two) (h : JX c (execs (madeBody 2) c.env) news (NX K) P) : JX c (execs madeTry c.env) news K P := Mine.into (by exact Mine.thru : Mine.Thru _ (by
    have ok := M.ok
    have h2 := M.kind
    refine JX.cons (JR.ifF ?_)
    repeat' (first | walk_at "jb" | ((with_reducible refine J.str ?_); intro _) | with_reducible refine J.eqS ?_)
    refine ⟨by decide +kernel, JR.nil ⟨rfl, ?_⟩⟩
    refine JX.cons (JR.ifF ?_)
    repeat' (first | walk_at "jb" | ((with_reducible refine J.str ?_); intro _) | with_reducible refine J.eqS ?_)
    refine ⟨by decide +kernel, JR.nil ⟨rfl, ?_⟩⟩
    refine JX.last (JX.ifT ?_)
    repeat' (first | walk_at "jb" | ((with_reducible refine J.str ?_); intro _) | with_reducible refine J.eqS ?_)
    exact ⟨by decide +kernel, h⟩))
theorem br_regex (M : MadeAt c (.str (Str.ofString "regex") t) one two) (h : JX c (execs (madeBody 3) c.env) news (NX K) P) : JX c (execs madeTry c.env) news K P := Mine.into (by exact Mine.thru : Mine.Thru _ (by
    have ok := M.ok
    have h2 := M.kind
    refine JX.cons (JR.ifF ?_)
    repeat' (first | walk_at "jb" | ((with_reducible refine J.str ?_); intro _) | with_reducible refine J.eqS ?_)
    refine ⟨by decide +kernel, JR.nil ⟨rfl, ?_⟩⟩
    refine JX.cons (JR.ifF ?_)
    repeat' (first | walk_at "jb" | ((with_reducible refine J.str ?_); intro _) | with_reducible refine J.eqS ?_)
    refine ⟨by decide +kernel, JR.nil ⟨rfl, ?_⟩⟩
    refine JX.cons (JR.ifF ?_)
    repeat' (first | walk_at "jb" | ((with_reducible refine J.str ?_); intro _) | with_reducible refine J.eqS ?_)
    refine ⟨by decide +kernel, JR.nil ⟨rfl, ?_⟩⟩
    refine JX.last (JX.ifT ?_)
    repeat' (first | walk_at "jb" | ((with_reducible refine J.str ?_); intro _) | with_reducible refine J.eqS ?_)
    exact ⟨by decide +kernel, h⟩))
theorem br_reference (M : MadeAt c (.str (Str.ofString "reference") t) one two) (h : JX c (execs (madeBody 4) c.env) news (NX K) P) : JX c (execs madeTry c.env) news K P := Mine.into (by exact Mine.thru : Mine.Thru _ (by
    have ok := M.ok
    have h2 := M.kind
    refine JX.cons (JR.ifF ?_)
    repeat' (first | walk_at "jb" | ((with_reducible refine J.str ?_); intro _) | with_reducible refine J.eqS ?_)
    refine ⟨by decide +kernel, JR.nil ⟨rfl, ?_⟩⟩
    refine JX.cons (JR.ifF ?_)
    repeat' (first | walk_at "jb" | ((with_reducible refine J.str ?_); intro _) | with_reducible refine J.eqS ?_)
    refine ⟨by decide +kernel, JR.nil ⟨rfl, ?_⟩⟩
    refine JX.cons (JR.ifF ?_)
    repeat' (first | walk_at "jb" | ((with_reducible refine J.str ?_); intro _) | with_reducible refine J.eqS ?_)
    refine ⟨by decide +kernel, JR.nil ⟨rfl, ?_⟩⟩
    refine JX.cons (JR.ifF ?_)
    repeat' (first | walk_at "jb" | ((with_reducible refine J.str ?_); intro _) | with_reducible refine J.eqS ?_)
    refine ⟨by decide +kernel, JR.nil ⟨rfl, ?_⟩⟩
    refine JX.last (JX.ifT ?_)
    repeat' (first | walk_at "jb" | ((with_reducible refine J.str ?_); intro _) | with_reducible refine J.eqS ?_)
    exact ⟨by decide +kernel, h⟩))
end
end Mine

end
-- MK
section
open PySem PySem.Calls PySem.W PyProof.Rows PyProof.V PySem.Spec
namespace Mine
set_option maxRecDepth 100000
theorem MadeAt.r {w : World} {c : Cx w} {x one two : Value} (M : MadeAt c x one two) : c.dp + 8 < recursionLimit := by have := M.hd; omega
theorem MadeAt.u {w : World} {c : Cx w} {x one two : Value} (M : MadeAt c x one two) : c.un + 64 < cLine := by have := M.hu; omega
theorem made_binary_of {w : World} {news : Led} {one two : Value} {t : Tok} {X : String} {Ret : (Led → Value → Prop) → Prop} (H : CallX w 144 [one, two] [] news (fun _ => True) (· = X)) (hX : ∀ K, Ret K → madeBad K X news) : CallL w 716 [.str (Str.ofString "binary") t, one, two] [] news Ret := Mine.into (by exact Mine.thru : Mine.Thru _ (by
    refine made_run w news _ _ _ _ fun c M K hK => br_binary M ?_
    have ok := M.ok
    have h3 := M.one
    have h4 := M.two
    refine JX.set ok ⟨by kernel_rfl, by kernel_rfl⟩ rfl (JR.own ok ⟨by kernel_rfl, by kernel_rfl⟩ (lg_Binary w) (kp_Binary w) ?_ ⟨rfl, rfl⟩)
    repeat' walk_at "jb"
    exact JR.useX ok M.r M.u M.kd H (fun _ _ => trivial) fun cls e => e ▸ hX K hK))
theorem made_code_of {w : World} {news : Led} {one two : Value} {t : Tok} {X : String} {Ret : (Led → Value → Prop) → Prop} (H : CallX w 61 [one, two] [] news (fun _ => True) (· = X)) (hX : ∀ K, Ret K → madeBad K X news) : CallL w 716 [.str (Str.ofString "code") t, one, two] [] news Ret := Mine.into (by exact Mine.thru : Mine.Thru _ (by
    refine made_run w news _ _ _ _ fun c M K hK => br_code M ?_
    have ok := M.ok
    have h3 := M.one
    have h4 := M.two
    refine JX.set ok ⟨by kernel_rfl, by kernel_rfl⟩ rfl (JR.own ok ⟨by kernel_rfl, by kernel_rfl⟩ (lg_Code w) (kp_Code w) ?_ ⟨rfl, rfl⟩)
    repeat' walk_at "jb"
    exact JR.useX ok M.r M.u M.kd H (fun _ _ => trivial) fun cls e => e ▸ hX K hK))
theorem made_regex_of {w : World} {news : Led} {one two : Value} {t : Tok} {X : String} {Ret : (Led → Value → Prop) → Prop} (H : CallX w 626 [one, two] [] news (fun _ => True) (· = X)) (hX : ∀ K, Ret K → madeBad K X news) : CallL w 716 [.str (Str.ofString "regex") t, one, two] [] news Ret := Mine.into (by exact Mine.thru : Mine.Thru _ (by
    refine made_run w news _ _ _ _ fun c M K hK => br_regex M ?_
    have ok := M.ok
    have h3 := M.one
    have h4 := M.two
    refine JX.set ok ⟨by kernel_rfl, by kernel_rfl⟩ rfl (JR.own ok ⟨by kernel_rfl, by kernel_rfl⟩ (lg_Regex w) (kp_Regex w) ?_ ⟨rfl, rfl⟩)
    repeat' walk_at "jb"
    exact JR.useX ok M.r M.u M.kd H (fun _ _ => trivial) fun cls e => e ▸ hX K hK))
theorem made_ref_of {w : World} {news : Led} {one two : Value} {t : Tok} {X : String} {Ret : (Led → Value → Prop) → Prop} (H : ∀ t1, CallX w 261 [one, .int 1 t1, two] [] news (fun _ => True) (· = X)) (hX : ∀ K, Ret K → madeBad K X news) : CallL w 716 [.str (Str.ofString "reference") t, one, two] [] news Ret := Mine.into (by exact Mine.thru : Mine.Thru _ (by
    refine made_run w news _ _ _ _ fun c M K hK => br_reference M ?_
    have ok := M.ok
    have h3 := M.one
    have h4 := M.two
    refine JX.set ok ⟨by kernel_rfl, by kernel_rfl⟩ rfl (JR.own ok ⟨by kernel_rfl, by kernel_rfl⟩ (lg_DBRef w) (kp_DBRef w) ?_ ⟨rfl, rfl⟩)
    repeat' (first | walk_at "jb" | ((with_reducible refine J.int ?_); intro _))
    exact JR.useX ok M.r M.u M.kd (H _) (fun _ _ => trivial) fun cls e => e ▸ hX K hK))
theorem made_date_of {w : World} {news : Led} {one two : Value} {t : Tok} {X : String} {Ret : (Led → Value → Prop) → Prop} (H : CallX w 201 [one] [] news (fun _ => True) (· = X)) (hX : ∀ K, Ret K → madeBad K X news) : CallL w 716 [.str (Str.ofString "date") t, one, two] [] news Ret := Mine.into (by exact Mine.thru : Mine.Thru _ (by
    refine made_run w news _ _ _ _ fun c M K hK => br_date M ?_
    have ok := M.ok
    have h3 := M.one
    refine JX.last (JX.retE (JR.cmpE (JR.listE (JR.consE (JR.cmpE (JR.own ok ⟨by kernel_rfl, by kernel_rfl⟩ (lg_DatetimeMS w) (kp_DatetimeMS w) ?_ ⟨rfl, rfl⟩) rfl) rfl)) rfl))
    repeat' walk_at "jb"
    exact JR.useX ok M.r M.u M.kd H (fun _ _ => trivial) fun cls e => e ▸ hX K hK))
theorem made_binary_lo (w : World) (news : Led) (row : Array UInt8) (t t1 t2 : Tok) (k : Int) (h1 : k < 0) :
    CallL w 716 [.str (Str.ofString "binary") t, .bytes row t1, .int k t2] [] news (fun K => ∀ t, K news (.str (Str.ofString "value") t)) := made_binary_of (bin_lo w news row t1 t2 k h1) fun _ h => .inl ⟨rfl, _, fun _ p => p, h⟩
theorem made_binary_hi (w : World) (news : Led) (row : Array UInt8) (t t1 t2 : Tok) (k : Int) (h1 : 256 ≤ k) :
    CallL w 716 [.str (Str.ofString "binary") t, .bytes row t1, .int k t2] [] news (fun K => ∀ t, K news (.str (Str.ofString "value") t)) := made_binary_of (bin_hi w news row t1 t2 k h1) fun _ h => .inl ⟨rfl, _, fun _ p => p, h⟩
theorem made_binary_kind (w : World) (news : Led) (row : Array UInt8) (t t1 t2 : Tok) :
    CallL w 716 [.str (Str.ofString "binary") t, .bytes row t1, .str (Str.ofString "1") t2] [] news (fun K => ∀ t, K news (.str (Str.ofString "kind") t)) := made_binary_of (bin_kind w news _ _ _) fun _ h => .inr (.inr ⟨rfl, _, fun _ p => p, h⟩)
theorem made_date_over (w : World) (news : Led) (t t1 t2 : Tok) (k j : Int) (_h0 : -9223372036854775808 ≤ k) (h1 : ¬ k ≤ 9223372036854775808 - 1) :
    CallL w 716 [.str (Str.ofString "date") t, .int k t1, .int j t2] [] news (fun K => ∀ t, K news (.str (Str.ofString "overflow") t)) := made_date_of (date_over w news _ _ fun q => h1 q.2) fun _ h => .inr (.inl ⟨rfl, _, fun _ p => p, h⟩)
theorem made_date_under (w : World) (news : Led) (t t1 t2 : Tok) (k j : Int) (h0 : ¬ -9223372036854775808 ≤ k) :
    CallL w 716 [.str (Str.ofString "date") t, .int k t1, .int j t2] [] news (fun K => ∀ t, K news (.str (Str.ofString "overflow") t)) := made_date_of (date_over w news _ _ fun q => h0 q.1) fun _ h => .inr (.inl ⟨rfl, _, fun _ p => p, h⟩)
theorem made_date_kind (w : World) (news : Led) (t t1 t2 : Tok) (j : Int) :
    CallL w 716 [.str (Str.ofString "date") t, .str (Str.ofString "1") t1, .int j t2] [] news (fun K => ∀ t, K news (.str (Str.ofString "kind") t)) := made_date_of (date_kind w news _ _) fun _ h => .inr (.inr ⟨rfl, _, fun _ p => p, h⟩)
theorem made_code_int (w : World) (news : Led) (t t1 : Tok) :
    CallL w 716 [.str (Str.ofString "code") t, .int 5 t1, .none] [] news (fun K => ∀ t, K news (.str (Str.ofString "kind") t)) := made_code_of (code_bad_i w news _ _ _) fun _ h => .inr (.inr ⟨rfl, _, fun _ p => p, h⟩)
theorem made_code_bytes (w : World) (news : Led) (row : Array UInt8) (t t1 : Tok) :
    CallL w 716 [.str (Str.ofString "code") t, .bytes row t1, .none] [] news (fun K => ∀ t, K news (.str (Str.ofString "kind") t)) := made_code_of (code_bad_b w news _ _ _) fun _ h => .inr (.inr ⟨rfl, _, fun _ p => p, h⟩)
theorem made_code_scope (w : World) (news : Led) (x : PySem.Str) (t t1 t2 : Tok) :
    CallL w 716 [.str (Str.ofString "code") t, .str x t1, .int 5 t2] [] news (fun K => ∀ t, K news (.str (Str.ofString "kind") t)) := made_code_of (code_bad_s w news _ _ _ _) fun _ h => .inr (.inr ⟨rfl, _, fun _ p => p, h⟩)
theorem made_regex_kind (w : World) (news : Led) (t t1 t2 : Tok) :
    CallL w 716 [.str (Str.ofString "regex") t, .int 5 t1, .int 0 t2] [] news (fun K => ∀ t, K news (.str (Str.ofString "kind") t)) := made_regex_of (regex_bad_i w news _ _ _) fun _ h => .inr (.inr ⟨rfl, _, fun _ p => p, h⟩)
theorem made_regex_none (w : World) (news : Led) (x : PySem.Str) (t t1 : Tok) :
    CallL w 716 [.str (Str.ofString "regex") t, .str x t1, .none] [] news (fun K => ∀ t, K news (.str (Str.ofString "kind") t)) := made_regex_of (regex_bad_n w news _ _) fun _ h => .inr (.inr ⟨rfl, _, fun _ p => p, h⟩)
theorem made_ref_int (w : World) (news : Led) (x : PySem.Str) (t t1 t2 : Tok) :
    CallL w 716 [.str (Str.ofString "reference") t, .str x t1, .int 5 t2] [] news (fun K => ∀ t, K news (.str (Str.ofString "kind") t)) := made_ref_of (fun _ => ref_bad_db w news _ _ _ _ _) fun _ h => .inr (.inr ⟨rfl, _, fun _ p => p, h⟩)
theorem made_ref_kind_i (w : World) (news : Led) (y : Value) (t t1 : Tok) :
    CallL w 716 [.str (Str.ofString "reference") t, .int 5 t1, y] [] news (fun K => ∀ t, K news (.str (Str.ofString "kind") t)) := made_ref_of (fun _ => ref_bad_i w news _ _ _ _) fun _ h => .inr (.inr ⟨rfl, _, fun _ p => p, h⟩)
theorem made_ref_kind_n' (w : World) (news : Led) (y : Value) (t : Tok) :
    CallL w 716 [.str (Str.ofString "reference") t, .none, y] [] news (fun K => ∀ t, K news (.str (Str.ofString "kind") t)) := made_ref_of (fun _ => ref_bad_n w news _ _) fun _ h => .inr (.inr ⟨rfl, _, fun _ p => p, h⟩)
end Mine

end
-- MK3
section
open PySem PySem.Calls PySem.W PyProof.Rows PyProof.V PySem.Spec PySem.SeqAt
namespace Mine
set_option maxRecDepth 100000
theorem filled12 (w : World) : Filled PySem.Challenge.rw_jh0019_01.row.prog (hd.heap_1 w.params) := by
  k_fill
  exact trivial
theorem made_code_list (w : World) (news : Led) (x : PySem.Str) (t t1 : Tok) (l : Addr) (its : Array Value) (n : Nat) :
    CallL w 716 [.str (Str.ofString "code") t, .str x t1, .ref l] [] ((l, W.listOf its n) :: news) (fun K => ∀ t, K news (.str (Str.ofString "kind") t)) := made_code_of (code_bad_l w news _ _ _ _ _) fun _ h => .inr (.inr ⟨rfl, news, fun _ hp => .tail _ hp, h⟩)
theorem made_binary (w : World) (news : Led) (row : Array UInt8) (t t1 t2 : Tok) (k : Int) (h0 : 0 ≤ k) (h1 : k < 256) :
    CallL w 716 [.str (Str.ofString "binary") t, .bytes row t1, .int k t2] [] news (fun K => ∀ a t3 t4, (∀ p ∈ news, p.1 < a) → K ((a, tupO [.bytes row t3, .int k t4]) :: news) (.ref a)) := Mine.into (by exact Mine.thru : Mine.Thru _ (by
    refine made_run w news _ _ _ _ fun c M K hK => br_binary M ?_
    have ok := M.ok
    have h3 := M.one
    have h4 := M.two
    refine JX.set ok ⟨by kernel_rfl, by kernel_rfl⟩ rfl (JR.ofJ (J.own ok ⟨by kernel_rfl, by kernel_rfl⟩ (lg_Binary w) (kp_Binary w) ?_ ⟨rfl, rfl⟩))
    repeat' walk_at "jb"
    refine J.useC ok (new_binary w news row t1 t2 k h0 h1) fun K' hm x d u1 u2 u3 u4 l1 l2 => hm _ _ ?_
    have ok := ok.set (x := Str.ofString "made") (v := .ref x)
    have hv : (c.set (Str.ofString "made") (.ref x)).m (Str.ofString "made") = some (.ref x) := Cx.set_self
    refine JX.last (JX.ret ?_)
    repeat' (first | walk_at "jb" | with_reducible refine J.tuple ?_ | with_reducible refine J.Attr ?_)
    refine J.ownR ok (.head _) (.tail _ (.head _)) (ga144data w) rfl rfl ?_
    repeat' (first | walk_at "jb" | with_reducible refine J.Attr ?_)
    refine J.binSub (r := 7) (u := 60) ok (.head _) (.tail _ (.head _)) rfl rfl ?_
    repeat' (first | walk_at "jb" | ((with_reducible refine NewK.intro ?hz ?_); (case hz => exact Nat.le_of_ble_eq_true rfl); intros))
    rename_i l tl hsub hl hlt
    exact ⟨Flow.noConfusion, Flow.noConfusion, _, _, rfl, all_cons hl (fun p hp => hsub _ (.tail _ (.tail _ hp))), hK _ _ _ fun p hp => hlt _ (.tail _ (.tail _ hp))⟩))
theorem made_regex_row (w : World) (news : Led) (row : Array UInt8) (t t1 t2 : Tok) (k : Int) :
    CallL w 716 [.str (Str.ofString "regex") t, .bytes row t1, .int k t2] [] news (fun K => ∀ a t3 t4, (∀ p ∈ news, p.1 < a) → K ((a, tupO [.bytes row t3, .int k t4]) :: news) (.ref a)) := Mine.into (by exact Mine.thru : Mine.Thru _ (by
    refine made_run w news _ _ _ _ fun c M K hK => br_regex M ?_
    have ok := M.ok
    have h3 := M.one
    have h4 := M.two
    refine JX.set ok ⟨by kernel_rfl, by kernel_rfl⟩ rfl (JR.ofJ (J.own ok ⟨by kernel_rfl, by kernel_rfl⟩ (lg_Regex w) (kp_Regex w) ?_ ⟨rfl, rfl⟩))
    repeat' walk_at "jb"
    refine J.useC ok (new_regex_b w news row t1 t2 k) fun K' hm x d u1 u2 u3 u4 l1 l2 => hm _ _ ?_
    have ok := ok.set (x := Str.ofString "made") (v := .ref x)
    have hv : (c.set (Str.ofString "made") (.ref x)).m (Str.ofString "made") = some (.ref x) := Cx.set_self
    refine JX.last (JX.ret ?_)
    repeat' (first | walk_at "jb" | with_reducible refine J.tuple ?_ | with_reducible refine J.Attr ?_)
    refine J.ownR ok (.head _) (.tail _ (.head _)) (ga626pattern w) rfl rfl ?_
    repeat' (first | walk_at "jb" | with_reducible refine J.Attr ?_)
    refine J.ownR ok (.head _) (.tail _ (.head _)) (ga_flags w) rfl rfl ?_
    repeat' (first | walk_at "jb" | ((with_reducible refine NewK.intro ?hz ?_); (case hz => exact Nat.le_of_ble_eq_true rfl); intros))
    rename_i l tl hsub hl hlt
    exact ⟨Flow.noConfusion, Flow.noConfusion, _, _, rfl, all_cons hl (fun p hp => hsub _ (.tail _ (.tail _ hp))), hK _ _ _ fun p hp => hlt _ (.tail _ (.tail _ hp))⟩))
theorem made_ref_b (w : World) (news : Led) (x : PySem.Str) (ob : Option PySem.Str) (t t1 t2 : Tok) :
    CallL w 716 [.str (Str.ofString "reference") t, .str x t1, baseV ob t2] [] news (fun K => ∀ a t3 t4 t5, (∀ p ∈ news, p.1 < a) → K ((a, tupO [.str x t3, .int 1 t4, baseV ob t5]) :: news) (.ref a)) := Mine.into (by exact Mine.thru : Mine.Thru _ (by
    refine made_run w news _ _ _ _ fun c M K hK => br_reference M ?_
    have ok := M.ok
    have h3 := M.one
    have h4 := M.two
    refine JX.set ok ⟨by kernel_rfl, by kernel_rfl⟩ rfl (JR.ofJ (J.own ok ⟨by kernel_rfl, by kernel_rfl⟩ (lg_DBRef w) (kp_DBRef w) ?_ ⟨rfl, rfl⟩))
    repeat' (first | walk_at "jb" | ((with_reducible refine J.int ?_); intro _))
    refine J.useC ok (new_dbref_3 w news x 1 ob t1 _ t2) fun K' hm x d kd okd u2 u4 u6 u7 l1 l2 => hm _ _ ?_
    have ok := ok.set (x := Str.ofString "made") (v := .ref x)
    have hv : (c.set (Str.ofString "made") (.ref x)).m (Str.ofString "made") = some (.ref x) := Cx.set_self
    refine JX.last (JX.ret ?_)
    repeat' (first | walk_at "jb" | with_reducible refine J.tuple ?_ | with_reducible refine J.Attr ?_)
    refine J.refCol (r := 7) (u := 60) ok (.tail _ (.head _)) (.tail _ (.tail _ (.head _))) rfl rfl ?_
    repeat' (first | walk_at "jb" | with_reducible refine J.Attr ?_)
    refine J.refId (r := 7) (u := 60) ok (.tail _ (.head _)) (.tail _ (.tail _ (.head _))) rfl rfl ?_
    repeat' (first | walk_at "jb" | with_reducible refine J.Attr ?_)
    refine J.refDb (r := 7) (u := 60) ok (.tail _ (.head _)) (.tail _ (.tail _ (.head _))) rfl (handed_base _ _) ?_
    repeat' (first | walk_at "jb" | ((with_reducible refine NewK.intro ?hz ?_); (case hz => exact Nat.le_of_ble_eq_true rfl); intros))
    rename_i l tl hsub hl hlt
    exact ⟨Flow.noConfusion, Flow.noConfusion, _, _, rfl, all_cons hl (fun p hp => hsub _ (.tail _ (.tail _ (.tail _ hp)))), hK _ _ _ _ fun p hp => hlt _ (.tail _ (.tail _ (.tail _ hp)))⟩))
theorem made_ref_kind_b (w : World) (news : Led) (ob : Option PySem.Str) (t t1 t2 : Tok) :
    CallL w 716 [.str (Str.ofString "reference") t, .int 5 t1, baseV ob t2] [] news (fun K => ∀ t, K news (.str (Str.ofString "kind") t)) := made_ref_kind_i w news _ _ _
theorem made_ref_kind_nb (w : World) (news : Led) (ob : Option PySem.Str) (t t2 : Tok) :
    CallL w 716 [.str (Str.ofString "reference") t, .none, baseV ob t2] [] news (fun K => ∀ t, K news (.str (Str.ofString "kind") t)) := made_ref_kind_n' w news _ _
theorem made_date_ok (w : World) (news : Led) (t t1 t2 : Tok) (k j : Int) (h0 : -9223372036854775808 ≤ k) (h1 : k ≤ 9223372036854775808 - 1) (h2 : -9223372036854775808 ≤ j) (h3 : j ≤ 9223372036854775808 - 1) (h4 : k ≠ j) :
    CallL w 716 [.str (Str.ofString "date") t, .int k t1, .int j t2] [] news (fun K => K news (.bool true)) := Mine.into (by exact Mine.thru : Mine.Thru _ (by
    refine made_run w news _ _ _ _ fun c M K hK => br_date M ?_
    have ok := M.ok
    have e3 := M.one
    have e4 := M.two
    refine JX.last (JX.ret (J.cmp ?_ rfl))
    repeat' (first | walk_at "jb" | ((with_reducible refine J.str ?_); intro _) | ((with_reducible refine NewK.intro ?hz ?_); (case hz => exact Nat.le_of_ble_eq_true rfl); intros) | ((with_reducible refine J.cmp ?_ ?he); (case he => exact rfl)) | with_reducible refine J.list ?_ | with_reducible refine J.bool ?_ | ((with_reducible refine J.g ok (x := Str.ofString "DatetimeMS") ?hx (lg_DatetimeMS w) ?_); (case hx => exact ⟨by kernel_rfl, by kernel_rfl⟩)) | ((with_reducible refine J.callK ok (kp_DatetimeMS w) ?_ ?he ?hr); (case he | hr => exact rfl)) | ((with_reducible refine' J.new_date ok ?h0 ?h1 ?_); (case h0 | h1 => with_reducible assumption); intros) | ((with_reducible refine' J.cmpC ok (eqJ_date ?a ?b ?c ?d ?g ?g') ?_); (case a | b | c | d => walk_at "mem"); (case g => exact rfl); (case g' => exact rfl)) | ((with_reducible refine' J.neDate (r := 7) (u := 60) ok ?a ?b ?c ?d ?g ?g' ?_); (case a | b | c | d => walk_at "mem"); (case g => exact rfl); (case g' => exact rfl)) | ((with_reducible refine' J.neDateStr (r := 7) (u := 60) ok ?a ?b ?_); (case a | b => walk_at "mem")) | ((with_reducible refine' J.eqL ok ?ma ?mb ?he ?_); (case ma | mb => walk_at "mem"); (case he => exact .cons .bool (.cons .bool (.cons .bool (.cons .bool (.cons .bool .nil)))))))
    refine ⟨Flow.noConfusion, Flow.noConfusion, _, news, rfl, fun p hp => ?_, ?_⟩
    · walk_at "mem"
    · rw [show ((k == k) == true && ((k == j) == false && ((k != k) == false && ((k != j) == true && (true == true && true))))) = true from by simp [h4]]
      exact hK))
end Mine

end
-- MF
section
open PySem PySem.Calls PySem.W PyProof.Rows PyProof.V PySem.Spec PySem.SeqAt
namespace Mine
set_option maxRecDepth 100000
theorem filled13 (w : World) : Filled PySem.Challenge.rw_jh0019_01.row.prog (hd.heap_1 w.params) := by
  k_fill
  exact trivial
def orTo (x : PySem.Str) (i : Nat) : Int := (bitsL.take i).foldl (fun g p => if hasL x p.1 then Builtin.bitOr g p.2 else g) 0
theorem or_flags (x : PySem.Str) : orTo x 6 = flagsTo x 6 := by
  unfold orTo flagsTo bitsL
  simp only [List.take, List.foldl]
  generalize hasL x "i" = b1
  generalize hasL x "l" = b2
  generalize hasL x "m" = b3
  generalize hasL x "s" = b4
  generalize hasL x "u" = b5
  generalize hasL x "x" = b6
  cases b1 <;> cases b2 <;> cases b3 <;> cases b4 <;> cases b5 <;> cases b6 <;> decide +kernel
noncomputable def flagsLit : List Stmt × Scope := by
  refine' litOf (f := 594) fun w => ?ho
  case ho => k_is
section
variable {w : World} {c : Cx w} {news : Led} {fs : Option Scope} {r u : Nat} {K : Led → Flow → Prop} {P : Value → Heap → Prop}
theorem flag_step {x : PySem.Str} {t : Tok} {g b : Int} {l : String} {nm : PySem.Str} {n : Nat} {p1 p2 p3 p4 p5 p6 p7 : Pos} {rest : List Stmt} (ok : c.OkR fs r u) (hs : LN fs (Str.ofString "str_flags") .local) (hf : LN fs (Str.ofString "flags") .local) (hn : LN fs nm .globalImplicit) (hg : ∃ tk, LG w nm (.int b tk))
    (h1 : c.m (Str.ofString "str_flags") = some (.str x t)) (h2 : ∃ tk, c.m (Str.ofString "flags") = some (.int g tk))
    (h : ∀ c' : Cx w, c'.OkR fs r u → c'.m (Str.ofString "str_flags") = some (.str x t) → (∃ tk, c'.m (Str.ofString "flags") = some (.int (if hasL x l then Builtin.bitOr g b else g) tk)) → JX c' (execs rest c'.env) news K P) :
    JX c (execs (.If (.Compare (.Constant (.str (Str.ofString l)) n p1) [.In] [.Name (Str.ofString "str_flags") p2] p3) [.AugAssign (.Name (Str.ofString "flags") p4) .BitOr (.Name nm p5) p6] [] p7 :: rest) c.env) news K P := by
  obtain ⟨t2, h2⟩ := h2
  obtain ⟨tg, hg⟩ := hg
  intro s Q E F N k ex
  have test : J c (isTrue (.Compare (.Constant (.str (Str.ofString l)) n p1) [.In] [.Name (Str.ofString "str_flags") p2] p3) c.env (eval (.Compare (.Constant (.str (Str.ofString l)) n p1) [.In] [.Name (Str.ofString "str_flags") p2] p3) c.env)) news fun tl v => tl = news ∧ v = hasL x l :=
    J.tcmp (J.str fun _ => J.l ok hs h1 fun s _ _ F N q => in_str (q _ _ s.heap s.toks (J.tb ⟨rfl, rfl⟩) F N)) rfl
  refine wpAny_execs_cons (wpAny_If (test s _ _ F N fun tl v h' tk' hv F' N' => ?_))
  obtain ⟨rfl, rfl⟩ := hv
  cases hb : hasL x l with
  | false =>
    rw [if_neg Bool.false_ne_true]
    refine wpAny_execs_nil ?_
    exact h c ok h1 ⟨t2, by rw [hb, if_neg Bool.false_ne_true]; exact h2⟩ { s with heap := h', toks := tk' } Q E F' N' (fun tl' v h3 tk3 => k tl' v h3 tk3) fun e h3 tk3 => ex e h3 tk3
  | true =>
    rw [if_pos rfl]
    refine wpAny_execs_cons (wpAny_AugAssign_Name (loadName_L F' h2 ?_ ok.hk (kindL ok hf)))
    refine nameX_K F' ok.X (topRead_of ok.T) hg ?_ ok.hk (kindL ok hn) hn.2
    refine ior_int (storeX_L (cn := c.cn) (cs := c.cs) F' N' (fun h'' F'' N'' => wpAny_execs_nil ?_) ok.hk (kindL ok hf))
    refine h (c.set (Str.ofString "flags") (.int (Builtin.bitOr g b) tk')) ok.set (Cx.set_ne (by decide) h1) ⟨_, by rw [hb, if_pos rfl]; exact Cx.set_self⟩ { s with heap := h'', toks := _ } Q E F'' N'' (fun tl' v h3 tk3 => k tl' v h3 tk3) fun e h3 tk3 => ex e h3 tk3
end
theorem flags_run {w : World} {r u : Nat} {news : Led} {v1 : Value} {Ret : (Led → Value → Prop) → Prop}
    (h : ∀ c : Cx w, c.OkR (some flagsLit.2) r u → c.m (Str.ofString "str_flags") = some v1 → ∀ K, Ret K → JX c (execs flagsLit.1 c.env) news (retEnd K) (fun _ _ => False)) : CallR w (r + 1) (u + 4) 594 [v1] [] news Ret := by
  refine' def_run (f := 594) ?ho ?hcd ?hb ?hl ?sc ?hc ?h
  case ho | hcd => k_is
  case hb => exact fun s _ => BindsTo.of_eq rfl
  case hl => exact locs rfl
  case sc => exact ⟨rfl, rfl, rfl⟩
  case hc => decide
  case h => exact fun c ok hm K hK => h c ok (hm _ _ rfl) K hK
theorem flags_of (w : World) (r u : Nat) (news : Led) (x : PySem.Str) (t : Tok) :
    CallR w (r + 1) (u + 4) 594 [.str x t] [] news (fun K => ∀ u, K news (.int (flagsTo x 6) u)) := by
  refine flags_run fun c ok h1 K hK => ?_
  have ls : LN (some flagsLit.2) (Str.ofString "str_flags") .local := ⟨by kernel_rfl, by kernel_rfl⟩
  have lf : LN (some flagsLit.2) (Str.ofString "flags") .local := ⟨by kernel_rfl, by kernel_rfl⟩
  refine JX.set ok lf rfl (JR.ofJ (J.int fun t0 => ?_))
  have h1 := Cx.set_ne (x := Str.ofString "flags") (v := .int 0 t0) (by decide) h1
  have h2 : ∃ tk, (c.set (Str.ofString "flags") (.int 0 t0)).m (Str.ofString "flags") = some (.int (orTo x 0) tk) := ⟨_, Cx.set_self⟩
  refine flag_step ok.set ls lf ⟨by kernel_rfl, by kernel_rfl⟩ (nm := Str.ofString "_IGNORECASE") ⟨_, (by k_is : nsIn (hd.heap_1 w.params) mainGlobals (Str.ofString "_IGNORECASE") = some (some _))⟩ h1 h2 fun c1 ok1 h1 h2 => ?_
  refine flag_step ok1 ls lf ⟨by kernel_rfl, by kernel_rfl⟩ (nm := Str.ofString "_LOCALE") ⟨_, (by k_is : nsIn (hd.heap_1 w.params) mainGlobals (Str.ofString "_LOCALE") = some (some _))⟩ h1 h2 fun c2 ok2 h1 h2 => ?_
  refine flag_step ok2 ls lf ⟨by kernel_rfl, by kernel_rfl⟩ (nm := Str.ofString "_MULTILINE") ⟨_, (by k_is : nsIn (hd.heap_1 w.params) mainGlobals (Str.ofString "_MULTILINE") = some (some _))⟩ h1 h2 fun c3 ok3 h1 h2 => ?_
  refine flag_step ok3 ls lf ⟨by kernel_rfl, by kernel_rfl⟩ (nm := Str.ofString "_DOTALL") ⟨_, (by k_is : nsIn (hd.heap_1 w.params) mainGlobals (Str.ofString "_DOTALL") = some (some _))⟩ h1 h2 fun c4 ok4 h1 h2 => ?_
  refine flag_step ok4 ls lf ⟨by kernel_rfl, by kernel_rfl⟩ (nm := Str.ofString "_UNICODE") ⟨_, (by k_is : nsIn (hd.heap_1 w.params) mainGlobals (Str.ofString "_UNICODE") = some (some _))⟩ h1 h2 fun c5 ok5 h1 h2 => ?_
  refine flag_step ok5 ls lf ⟨by kernel_rfl, by kernel_rfl⟩ (nm := Str.ofString "_VERBOSE") ⟨_, (by k_is : nsIn (hd.heap_1 w.params) mainGlobals (Str.ofString "_VERBOSE") = some (some _))⟩ h1 h2 fun c6 ok6 h1 h2 => ?_
  obtain ⟨tk, h2⟩ := h2
  refine JX.last (JX.ret (J.l ok6 lf h2 ⟨Flow.noConfusion, _, _, rfl, fun _ p => p, ?_⟩))
  have e : orTo x 6 = flagsTo x 6 := or_flags x
  have := hK tk
  rw [← e] at this
  exact this
theorem lg_s2i (w : World) : LG w (Str.ofString "str_flags_to_int") (.ref 594) := by unfold LG; k_is
theorem kp_s2i (w : World) : keepIn (hd.heap_1 w.params) (.ref 594) = true := by k_is
theorem new_regex_sC (w : World) (news : Led) (t t1 : Tok) (z l : PySem.Str) :
    CallC w 626 [.str z t, .str l t1] [] news (fun K => ∀ x d u1 u2 u3 u4, (∀ p ∈ news, p.1 < d) → d < x → K ((x, instObj 626 d) :: (d, dictOf [⟨PyData.keyHash w.params (Str.ofString "pattern"), .str (Str.ofString "pattern") u2, .str z u1⟩, ⟨PyData.keyHash w.params (Str.ofString "flags"), .str (Str.ofString "flags") u4, .int (flagsTo l 6) u3⟩] 2) :: news) (.ref x)) := Mine.into (by exact Mine.thru : Mine.Thru _ (by
    refine (.ofX (regex_run fun c a d I h1 h3 h4 K hK => ?_))
    have ok := I.ok
    refine JX.cons (JR.ifF ?_)
    repeat' (first | walk_at "jb" | ((with_reducible refine J.b ok (x := Str.ofString "str") ?hx (lb_str w) ?_); (case hx => exact ⟨by kernel_rfl, by kernel_rfl⟩)) | ((with_reducible refine J.b ok (x := Str.ofString "bytes") ?hx (lb_bytes w) ?_); (case hx => exact ⟨by kernel_rfl, by kernel_rfl⟩)) | with_reducible refine J.tuple ?_ | ((with_reducible refine NewK.intro ?hz ?_); (case hz => exact Nat.le_of_ble_eq_true rfl); intros) | with_reducible refine J.tnot ?_ | ((with_reducible refine' J.isiT ok kitx_str ?mq ?e ?n ?_); (case mq => with_reducible assumption); (case e => kit_is); (case n => exact fun q => nomatch q)) | ((with_reducible refine J.tplain ?_ ?he); (case he => exact rfl)))
    refine ⟨rfl, JR.nil ⟨rfl, ?_⟩⟩
    have S := (inv0 (C := 626) (o := a) (d := d) (es := []) (n := 0) (news := news)).sub (by with_reducible assumption : ∀ p ∈ (a, _) :: _, p ∈ _)
    refine JX.cons (JR.ofJ (J.setI I S h1 (set_regex w _ (by kernel_rfl)) ⟨by kernel_rfl, by kernel_rfl⟩ rfl rfl (fun _ _ => Nat.le_of_ble_eq_true rfl) (fun _ _ => rfl) ?_))
    repeat' walk_at "jb"
    refine ⟨fun _ h => h, fun u2 tl S => ⟨rfl, ?_⟩⟩
    refine JX.cons (JR.ifT ?_)
    repeat' (first | walk_at "jb" | ((with_reducible refine J.b ok (x := Str.ofString "str") ?hx (lb_str w) ?_); (case hx => exact ⟨by kernel_rfl, by kernel_rfl⟩)) | ((with_reducible refine' J.isi1 ok kitx_str ?e ?n ?_); (case e => kit_is); (case n => exact fun q => nomatch q)) | ((with_reducible refine J.tplain ?_ ?he); (case he => exact rfl)))
    refine ⟨rfl, JR.cons (JR.ofJ (J.setI I S h1 (set_regex w _ (by kernel_rfl)) ⟨by kernel_rfl, by kernel_rfl⟩ rfl rfl (fun _ _ => Nat.le_of_ble_eq_true rfl) (fun _ _ => rfl) ?_))⟩
    refine J.own ok ⟨by kernel_rfl, by kernel_rfl⟩ (lg_s2i w) (kp_s2i w) ?_ ⟨rfl, rfl⟩
    repeat' walk_at "jb"
    refine J.useR ok (flags_of w 4 6 _ _ _) fun K' hm u3 => hm _ _ ?_
    exact ⟨fun _ h => h, fun u4 tl S => ⟨rfl, JR.nil ⟨rfl, JX.nil ⟨rfl, _, all_cons S.hi (all_cons S.hd S.hn), hK a d _ u2 _ u4 I.hd I.hdx⟩⟩⟩⟩))
theorem new_regex_s (w : World) (news : Led) (t t1 : Tok) (z l : PySem.Str) :
    CallL w 626 [.str z t, .str l t1] [] news (fun K => ∀ x d u1 u2 u3 u4, (∀ p ∈ news, p.1 < d) → d < x → K ((x, instObj 626 d) :: (d, dictOf [⟨PyData.keyHash w.params (Str.ofString "pattern"), .str (Str.ofString "pattern") u2, .str z u1⟩, ⟨PyData.keyHash w.params (Str.ofString "flags"), .str (Str.ofString "flags") u4, .int (flagsTo l 6) u3⟩] 2) :: news) (.ref x)) := .ofC (new_regex_sC w news t t1 z l)
theorem made_regex_str (w : World) (news : Led) (x z : PySem.Str) (t t1 t2 : Tok) :
    CallL w 716 [.str (Str.ofString "regex") t, .str x t1, .str z t2] [] news (fun K => ∀ a t3 t4, (∀ p ∈ news, p.1 < a) → K ((a, tupO [.str x t3, .int (flagsTo z 6) t4]) :: news) (.ref a)) := Mine.into (by exact Mine.thru : Mine.Thru _ (by
    refine made_run w news _ _ _ _ fun c M K hK => br_regex M ?_
    have ok := M.ok
    have h3 := M.one
    have h4 := M.two
    refine JX.set ok ⟨by kernel_rfl, by kernel_rfl⟩ rfl (JR.ofJ (J.own ok ⟨by kernel_rfl, by kernel_rfl⟩ (lg_Regex w) (kp_Regex w) ?_ ⟨rfl, rfl⟩))
    repeat' walk_at "jb"
    refine J.useC ok (new_regex_sC w news t1 t2 x z) fun K' hm x d u1 u2 u3 u4 l1 l2 => hm _ _ ?_
    have ok := ok.set (x := Str.ofString "made") (v := .ref x)
    have hv : (c.set (Str.ofString "made") (.ref x)).m (Str.ofString "made") = some (.ref x) := Cx.set_self
    refine JX.last (JX.ret ?_)
    repeat' (first | walk_at "jb" | with_reducible refine J.tuple ?_ | with_reducible refine J.Attr ?_)
    refine J.ownR ok (.head _) (.tail _ (.head _)) (ga626pattern w) rfl rfl ?_
    repeat' (first | walk_at "jb" | with_reducible refine J.Attr ?_)
    refine J.ownR ok (.head _) (.tail _ (.head _)) (ga_flags w) rfl rfl ?_
    repeat' (first | walk_at "jb" | ((with_reducible refine NewK.intro ?hz ?_); (case hz => exact Nat.le_of_ble_eq_true rfl); intros))
    rename_i l tl hsub hl hlt
    exact ⟨Flow.noConfusion, Flow.noConfusion, _, _, rfl, all_cons hl (fun p hp => hsub _ (.tail _ (.tail _ hp))), hK _ _ _ fun p hp => hlt _ (.tail _ (.tail _ hp))⟩))
end Mine

end
-- MO
section
open PySem PySem.Calls PySem.W PyProof.Rows PyProof.V PySem.Spec PySem.SeqAt
namespace Mine
set_option maxRecDepth 100000
theorem filled14 (w : World) : Filled PySem.Challenge.rw_jh0019_01.row.prog (hd.heap_1 w.params) := by
  k_fill
  exact trivial
theorem lg_Opts (w : World) : LG w (Str.ofString "CodecOptions") (.ref 166) := by unfold LG; k_is
theorem kp_Opts (w : World) : keepIn (hd.heap_1 w.params) (.ref 166) = true := by k_is
theorem lg_All (w : World) : LG w (Str.ofString "ALL_UUID_REPRESENTATIONS") (.ref 66) := by unfold LG; k_is
theorem set_opts (w : World) (x : PySem.Str) (hx : takerIn (hd.heap_1 w.params) 166 x = some none) : SetOk w 166 x := ⟨by kernel_rfl, by kernel_rfl, hx, by kernel_rfl⟩
noncomputable def optsLit : List Stmt × Scope := by
  refine' litOf (f := 163) fun w => ?ho
  case ho => k_is
section
variable {w : World} {c : Cx w} {news : Led} {fs : Option Scope} {r u : Nat} {P : Value → Heap → Prop}
theorem JR.callKW0 (ok : c.OkR fs r u) {x : PySem.Str} {f : Value} {p pos q : Pos} {e1 : Expr} {name : PySem.Str} {K : Led → Value → Prop} (hn : LN fs x .globalImplicit) (hx : LG w x f) (hf : keepIn (hd.heap_1 w.params) f = true)
    (h : J c (eval e1 c.env) news fun tl v => JR c (call f [] [(name, v)]) tl K P) : JR c (eval (.Call (.Name x p) [] [⟨some name, e1, q⟩] pos) c.env) news K P :=
  fun s Q E F N k ex => wpAny_Call_Name_kw (J.g (K := fun tl v => tl = news ∧ v = f) ok hn hx ⟨rfl, rfl⟩ s _ E F N fun tl v h' tk' hv F' N' => by
    obtain ⟨rfl, rfl⟩ := hv
    exact callWith_KW0 ok.X hf rfl (J.kw1 (K := fun tl ks => JR c (call v ([] ++ []) (((backToKw pos (keywordEach [⟨some name, e1, q⟩] c.env)).filterMap fun x => x.1).zip ks)) tl K P) h { s with heap := h', toks := tk' } _ E F' N' fun tl3 ks h3 tk3 hi F3 N3 => ⟨ok.X.keeps F3.keep, hi { s with heap := h3, toks := tk3 } _ E F3 N3 (fun tl4 u h4 tk4 hk F4 N4 => k tl4 u h4 tk4 hk F4 N4) fun e h4 tk4 => ex e h4 tk4⟩) rfl)
theorem J.notinA (ok : c.OkR fs r u) {k : Int} {t : Tok} {K : Led → Value → Prop} (h : K news (.bool (!([0, 4, 3, 5, 6].any fun x => x == k)))) : J c (compareOp .NotIn (.int k t) (.ref 66)) news K := by
  intro s Q E F N q
  refine' notin_tuple_ints (ns := [0, 4, 3, 5, 6]) (tupK (K := hd.heap_1 w.params) (ok.X.keeps F.keep) ?l) ?i (q _ _ s.heap s.toks h F N)
  case l => k_is
  case i => exact .cons _ _ (.cons _ _ (.cons _ _ (.cons _ _ (.cons _ _ .nil))))
theorem br_options {one two : Value} {t : Tok} {K : Led → Flow → Prop} (M : MadeAt c (.str (Str.ofString "options") t) one two) (h : JX c (execs (madeTry.drop 5) c.env) news K P) : JX c (execs madeTry c.env) news K P := Mine.into (by exact Mine.thru : Mine.Thru _ (by
    have ok := M.ok
    have h2 := M.kind
    refine JX.cons (JR.ifF ?_)
    repeat' (first | walk_at "jb" | ((with_reducible refine J.str ?_); intro _) | with_reducible refine J.eqS ?_)
    refine ⟨by decide +kernel, JR.nil ⟨rfl, ?_⟩⟩
    refine JX.cons (JR.ifF ?_)
    repeat' (first | walk_at "jb" | ((with_reducible refine J.str ?_); intro _) | with_reducible refine J.eqS ?_)
    refine ⟨by decide +kernel, JR.nil ⟨rfl, ?_⟩⟩
    refine JX.cons (JR.ifF ?_)
    repeat' (first | walk_at "jb" | ((with_reducible refine J.str ?_); intro _) | with_reducible refine J.eqS ?_)
    refine ⟨by decide +kernel, JR.nil ⟨rfl, ?_⟩⟩
    refine JX.cons (JR.ifF ?_)
    repeat' (first | walk_at "jb" | ((with_reducible refine J.str ?_); intro _) | with_reducible refine J.eqS ?_)
    refine ⟨by decide +kernel, JR.nil ⟨rfl, ?_⟩⟩
    refine JX.cons (JR.ifF ?_)
    repeat' (first | walk_at "jb" | ((with_reducible refine J.str ?_); intro _) | with_reducible refine J.eqS ?_)
    refine ⟨by decide +kernel, JR.nil ⟨rfl, ?_⟩⟩
    exact h))
end
theorem opts_run {w : World} {news : Led} {v1 : Value} {Ret : (Led → Value → Prop) → Prop} {Bad : String → Prop}
    (h : ∀ (c : Cx w) (a d : Addr), InitAt c optsLit.2 news a d → c.m (Str.ofString "self") = some (.ref a) → c.m (Str.ofString "uuid_representation") = some v1 → (∃ x t, c.m (Str.ofString "unicode_decode_error_handler") = some (.str x t)) → ∀ K, Ret K → JX c (execs optsLit.1 c.env) ((a, instObj 166 d) :: (d, dictOf [] 0) :: news) (initEnd a K) (Thrown c (initBad news Bad))) : CallX w 166 [] [(Str.ofString "uuid_representation", v1)] news Ret Bad := by
  refine' ctor_run (fI := 163) ?hm ?hi ?hf ?ho ?hcd ?hb ?hl ?sc ?hc ?hu ?h
  case ho | hm | hi | hf | hcd => k_is
  case hb => exact fun s a X => binds_K X rfl (by k_is) rfl rfl rfl
  case hl => exact fun a => locs rfl
  case sc => exact ⟨rfl, rfl, rfl⟩
  case hc => decide
  case hu => exact Nat.le_of_ble_eq_true rfl
  case h => exact fun c a d I hm K hK => h c a d I (hm _ _ rfl) (hm _ _ rfl) ⟨_, _, hm _ _ rfl⟩ K hK
theorem opts_ok (w : World) (news : Led) (k : Int) (t : Tok) (h : ([0, 4, 3, 5, 6].any fun x => x == k) = true) : CallX w 166 [] [(Str.ofString "uuid_representation", .int k t)] news (fun K => ∀ x tl, (∀ p ∈ news, p ∈ tl) → K tl (.ref x)) (fun _ => False) := Mine.into (by exact Mine.thru : Mine.Thru _ (by
    refine opts_run fun c a d I h1 h2 h3 K hK => ?_
    have ok := I.ok
    obtain ⟨hx, ht, h3⟩ := h3
    refine JX.cons (JR.ifF ?_)
    repeat' (first | walk_at "jb" | ((with_reducible refine J.g ok (x := Str.ofString "ALL_UUID_REPRESENTATIONS") ?hx (lg_All w) ?_); (case hx => exact ⟨by kernel_rfl, by kernel_rfl⟩)) | with_reducible refine J.notinA ok ?_)
    refine ⟨by rw [h]; rfl, JR.nil ⟨rfl, ?_⟩⟩
    refine JX.cons (JR.ofJ (J.setI I inv0 h1 (set_opts w _ (by kernel_rfl)) ⟨by kernel_rfl, by kernel_rfl⟩ rfl rfl (fun _ _ => Nat.le_of_ble_eq_true rfl) (fun _ _ => rfl) ?_))
    repeat' walk_at "jb"
    refine ⟨fun _ h => h, fun u2 tl S => ⟨rfl, ?_⟩⟩
    refine JX.cons (JR.ofJ (J.setI I S h1 (set_opts w _ (by kernel_rfl)) ⟨by kernel_rfl, by kernel_rfl⟩ rfl rfl (fun _ _ => Nat.le_of_ble_eq_true rfl) (fun _ _ => rfl) ?_))
    repeat' walk_at "jb"
    exact ⟨fun _ h => h, fun u4 tl S => ⟨rfl, JX.nil ⟨rfl, tl, fun _ p => p, hK a tl S.hn⟩⟩⟩))
theorem opts_bad (w : World) (news : Led) (k : Int) (t : Tok) (h : ([0, 4, 3, 5, 6].any fun x => x == k) = false) : CallX w 166 [] [(Str.ofString "uuid_representation", .int k t)] news (fun _ => True) (· = "ValueError") := Mine.into (by exact Mine.thru : Mine.Thru _ (by
    refine opts_run fun c a d I h1 h2 h3 K _ => ?_
    have ok := I.ok
    refine JX.cons (JR.ifT ?_)
    repeat' (first | walk_at "jb" | ((with_reducible refine J.g ok (x := Str.ofString "ALL_UUID_REPRESENTATIONS") ?hx (lg_All w) ?_); (case hx => exact ⟨by kernel_rfl, by kernel_rfl⟩)) | with_reducible refine J.notinA ok ?_)
    refine ⟨by rw [h]; rfl, ?_⟩
    refine JR.cons (JR.raise ok PySem.F.excCall_ValueError PySem.F.excRaise_ValueError ⟨by kernel_rfl, by kernel_rfl⟩ (lb_ValueError w) ?_ rfl)
    repeat' (first | walk_at "jb" | ((with_reducible refine J.str ?_); intro _))
    exact ⟨Nat.le_of_ble_eq_true rfl, rfl, fun p hp => .tail _ (.tail _ hp)⟩))
theorem made_options_in (w : World) (news : Led) (k : Int) (t t1 t2 : Tok) (h : ([0, 4, 3, 5, 6].any fun x => x == k) = true) :
    CallL w 716 [.str (Str.ofString "options") t, .int k t1, .int 0 t2] [] news (fun K => ∀ t, K news (.int k t)) := by
  refine made_run w news _ _ _ _ fun c M K hK => br_options M ?_
  have ok := M.ok
  have h3 := M.one
  refine JX.cons (JR.expr (JR.callKW0 ok ⟨by kernel_rfl, by kernel_rfl⟩ (lg_Opts w) (kp_Opts w) (J.lo ok h3 ⟨by kernel_rfl, by kernel_rfl⟩ (JR.useX ok M.r M.u M.kd (opts_ok w news k t1 h) (fun K' hm x tl hs => hm _ _ ⟨rfl, ?_⟩) fun _ hf => hf.elim))) (inter_no ok) rfl)
  exact JX.last (JX.ret (J.lo ok h3 ⟨by kernel_rfl, by kernel_rfl⟩ ⟨Flow.noConfusion, _, news, rfl, hs, hK _⟩))
theorem made_options_out (w : World) (news : Led) (k : Int) (t t1 t2 : Tok) (h : ([0, 4, 3, 5, 6].any fun x => x == k) = false) :
    CallL w 716 [.str (Str.ofString "options") t, .int k t1, .int 0 t2] [] news (fun K => ∀ t, K news (.str (Str.ofString "value") t)) := by
  refine made_run w news _ _ _ _ fun c M K hK => br_options M ?_
  have ok := M.ok
  have h3 := M.one
  exact JX.cons (JR.expr (JR.callKW0 ok ⟨by kernel_rfl, by kernel_rfl⟩ (lg_Opts w) (kp_Opts w) (J.lo ok h3 ⟨by kernel_rfl, by kernel_rfl⟩ (JR.useX ok M.r M.u M.kd (opts_bad w news k t1 h) (fun _ _ => trivial) fun cls e => e ▸ .inl ⟨rfl, _, fun _ p => p, hK⟩))) (inter_no ok) rfl)
end Mine

end
-- FJ
section
open PySem PySem.Calls PySem.W PyProof.Rows PyProof.V PySem.Spec PySem.SeqAt
namespace Mine
set_option maxRecDepth 100000
theorem filled16 (w : World) : Filled PySem.Challenge.rw_jh0019_01.row.prog (hd.heap_1 w.params) := by
  k_fill
  exact trivial
def FieldsRet (w : World) (l : Addr) (ol : Obj) (n : Nat) (news : Led) (K : Led → Value → Prop) : Prop :=
  ∀ d o kvs cc, (∀ p ∈ (l, ol) :: news, p.1 < d) → (d == sysModules) = false → o.IsDictOf (strK w) kvs → FlatPairs PyData.str kvs (kdpD cc) → cc.length ≤ 4 → (1 ≤ n → 1 ≤ cc.length) → kdpHas cc (Str.ofString "z") = false → K ((d, o) :: (l, ol) :: news) (.ref d)
theorem abc_z {a : Int} : ¬ (Str.ofString "z" = PySem.Txt.item (Str.ofString "abc") (a.fmod 3)) := by
  have h0 := Int.fmod_nonneg_of_pos a (show (0 : Int) < 3 by decide)
  have h1 := Int.fmod_lt_of_pos a (show (0 : Int) < 3 by decide)
  have : a.fmod 3 = 0 ∨ a.fmod 3 = 1 ∨ a.fmod 3 = 2 := by omega
  rcases this with h | h | h <;> rw [h] <;> decide +kernel
theorem abc_zd {a : Int} : decide (Str.ofString "z" = PySem.Txt.item (Str.ofString "abc") (a.fmod 3)) = false := decide_eq_false abc_z
theorem put_le {c : List (PySem.Str × Int)} {k : PySem.Str} {v : Int} {n : Nat} (h : c.length ≤ n) : (kdpPut c k v).length ≤ n + 1 := Nat.le_trans (kdpPut_len _ _ _) (Nat.succ_le_succ h)
theorem put_pos {c : List (PySem.Str × Int)} {k : PySem.Str} {v : Int} : 1 ≤ (kdpPut c k v).length := by
  unfold kdpPut
  split
  · rename_i h
    obtain ⟨p, hp, _⟩ := List.any_eq_true.mp h
    rw [List.length_map]
    exact List.length_pos_of_mem hp
  · rw [List.length_append]; simp
noncomputable def fieldsLit : List Stmt × Scope := by
  refine' litOf (f := 730) fun w => ?ho
  case ho => k_is
theorem fields_run {w : World} {r u : Nat} {news : Led} {v1 : Value} {Ret : (Led → Value → Prop) → Prop}
    (h : ∀ c : Cx w, c.OkR (some fieldsLit.2) r u → c.m (Str.ofString "numbers") = some v1 → ∀ K, Ret K → JX c (execs fieldsLit.1 c.env) news (retEnd K) (fun _ _ => False)) : CallR w (r + 1) (u + 4) 730 [v1] [] news Ret := by
  refine' def_run (f := 730) ?ho ?hcd ?hb ?hl ?sc ?hc ?h
  case ho | hcd => k_is
  case hb => exact fun s _ => BindsTo.of_eq rfl
  case hl => exact locs rfl
  case sc => exact ⟨rfl, rfl, rfl⟩
  case hc => decide
  case h => exact fun c ok hm K hK => h c ok (hm _ _ rfl) K hK
theorem lb_range (w : World) : LB w (Str.ofString "range") (.type "range") := ⟨by kernel_rfl, by kernel_rfl, by decide +kernel⟩
def Cx.atM {w : World} (c : Cx w) (m : Map) : Cx w := { c with m := m }
theorem Cx.OkR.atM {w : World} {c : Cx w} {fs : Option Scope} {r u : Nat} (ok : c.OkR fs r u) (m : Map) : (c.atM m).OkR fs r u := ⟨ok.B, ok.X, ok.T, ok.hk, ok.hd, ok.hu, ok.hs⟩
theorem rangeRest_ind {prog : Program} {w : World} {A : Around} {E : Value → Shared → Prop} {h₀ : Heap} {env : Env} {x : PySem.Str} {body : List Stmt} {Q : Flow → Shared → Prop} {s : Shared} {I : Addr} {a : Int} {n : Nat} (V : Nat → Map → Led → Prop)
    (zero : ∀ m1 tl1, V n m1 tl1 → ∀ h tk, Fr h₀ env.locals h m1 → News h₀ env.locals h tl1 → Q .next { s with heap := h, toks := tk })
    (succ : ∀ i m1 tl1, i < n → V i m1 tl1 → ∀ t h tk, Fr h₀ env.locals h (fun y => if y = x then some (.int (a + (i : Int)) t) else m1 y) → News h₀ env.locals h ((I, itR (a + ((i + 1 : Nat) : Int)) ((n : Int) - ((i + 1 : Nat) : Int))) :: tl1) →
      wpAny (model prog w) A (execs body env) (fun f s₂ => f = .next ∧ UnrEnd h₀ env.locals { s with heap := h, toks := tk } I (itR (a + ((i + 1 : Nat) : Int)) ((n : Int) - ((i + 1 : Nat) : Int))) (fun m' tl' => V (i + 1) m' tl') s₂) E { s with heap := h, toks := tk }) :
    ∀ (k i : Nat) (m1 : Map) (tl1 : Led), i + k = n → V i m1 tl1 → RangeRest prog w A E h₀ env x body Q s I a n k i m1 tl1 := by
  intro k
  induction k with
  | zero =>
    intro i m1 tl1 hi v
    have hi' : i = n := by omega
    subst hi'
    exact RangeRest.zero fun h tk F N => zero m1 tl1 v h tk F N
  | succ k ih =>
    intro i m1 tl1 hi v
    refine RangeRest.succ fun t h tk F N => ?_
    refine wpAny_mono (succ i m1 tl1 (by omega) v t h tk F N) (fun f s₂ hu => ?_) fun _ _ h => h
    obtain ⟨rfl, h', tk', m', tl', e, F', N', off, r⟩ := hu
    exact ⟨h', tk', m', tl', e, F', N', off, ih (i + 1) m' tl' (by omega) r⟩
section
variable {w : World} {c : Cx w} {news tl : Led} {fs : Option Scope} {r u : Nat} {K : Led → Flow → Prop} {P : Value → Heap → Prop}
theorem J.out {α : Type} {t : Sem α} {K : Led → α → Prop} {s : Shared} {Q : α → Shared → Prop} {E : Value → Shared → Prop} (h : J c t news K) (F : Fr c.h₀ c.L s.heap c.m) (N : News c.h₀ c.L s.heap news) (k : ∀ tl v h' tk', K tl v → Fr c.h₀ c.L h' c.m → News c.h₀ c.L h' tl → Q v { s with heap := h', toks := tk' }) : wpAny (Wm w) c.A t Q E s := h s Q E F N k
theorem J.floordiv {a b : Int} {t t' : Tok} {K : Led → Value → Prop} (hb : b ≠ 0) (hp : Builtin.divisionGoesByPylong a b = false) (h : ∀ t, K news (.int (a.fdiv b) t)) : J c (binaryOp .FloorDiv (.int a t) (.int b t')) news K := fun s _ _ F N q => floordiv_int hb (q _ _ s.heap _ (h _) F N) (.inl hp)
theorem J.lenL {l : Addr} {vs : List Value} {n : Nat} {K : Led → Value → Prop} (m : (l, W.listOf vs.toArray n) ∈ news) (hz : vs.length ≤ 1000) (h : ∀ t, K news (.int vs.length t)) : J c (call (.builtin "len") [.ref l]) news K :=
  fun s _ _ F N q => PySem.Calls.call_len_list (N.isList m) (by simp; omega) (by simpa using q _ _ s.heap _ (h _) F N)
theorem J.itemI (ok : c.OkR fs r u) {x y : PySem.Str} {p p2 pos : Pos} {l : Addr} {vs : List Value} {ns : List Int} {n : Nat} {k : Int} {t : Tok} {K : Led → Value → Prop} (hx : LN fs x .local) (hy : LN fs y .local) (hv : c.m x = some (.ref l)) (hk : c.m y = some (.int k t)) (m : (l, W.listOf vs.toArray n) ∈ news) (hi : IntsAre vs ns) (h0 : 0 ≤ k) (h1 : k < ns.length) (h2 : ns.length ≤ 1000)
    (h : ∀ t, K news (.int (ns.getD k.toNat 0) t)) : J c (eval (.Subscript (.Name x p) (.Name y p2) pos) c.env) news K :=
  fun s _ _ F N q => Subscript_ (nameX_L F hv (nameX_L F hk (item_list_ints (N.isList m) hi h0 h1 (by omega) (fun t => q _ _ s.heap s.toks (h t) F N) rfl fun _ => rfl) ok.hk (kindL ok hy) hy.2) ok.hk (kindL ok hx) hx.2)
theorem J.itemS {abc : String} {a b : Int} {e : Expr} {k1 : Nat} {p1 p2 p3 pos : Pos} {k2 : Nat} {K : Led → Value → Prop} (hb0 : 0 < b) (hb : b ≤ ((Str.ofString abc).length : Int)) (hx' : ((Str.ofString abc).length : Int) < 9223372036854775808)
    (h : J c (eval e c.env) news fun tl v => (∃ t, v = .int a t) ∧ ∀ t, K tl (.str (Txt.item (Str.ofString abc) (a.fmod b)) t))
    (hs : ∀ t k t2, subscripted (.BinOp e .Mod (.Constant (.int b) k2 p3) p2) false (.str (Str.ofString abc) t) (.int k t2) = operate [.str (Str.ofString abc) t, .int k t2] (getItem (.str (Str.ofString abc) t) (.int k t2))) : J c (eval (.Subscript (.Constant (.str (Str.ofString abc)) k1 p1) (.BinOp e .Mod (.Constant (.int b) k2 p3) p2) pos) c.env) news K :=
  fun s Q E F N q => Subscript_ (Constant_str (wpAny_BinOp (h { s with toks := s.toks + 1 } _ E F N fun tl v h' tk' hj F' N' => by
    obtain ⟨⟨t, rfl⟩, hj⟩ := hj
    exact wpAny_Constant_int (mod_int' (Int.ne_of_gt hb0) (item_str_fmod hb0 hb hx' (fun _ => q _ _ h' _ (hj _) F' N') (hs _ _ _) fun _ => rfl)))))
def FInv (w : World) (tl : Led) (l d : Addr) (I : Addr) (i : Nat) (m1 : Map) (tl1 : Led) : Prop :=
  m1 (Str.ofString "numbers") = some (.ref l) ∧ m1 (Str.ofString "fields") = some (.ref d) ∧ (∀ p ∈ tl, p.1 ≠ d → p ∈ tl1) ∧ (∀ p ∈ tl1, @LT.lt Nat _ p.1 I) ∧ ∃ o kv cc, (d, o) ∈ tl1 ∧ o.IsDictOf (strK w) kv ∧ FlatPairs PyData.str kv (kdpD cc) ∧ cc.length ≤ i ∧ (1 ≤ i → 1 ≤ cc.length) ∧ kdpHas cc (Str.ofString "z") = false
set_option maxHeartbeats 4000000 in
theorem fields_loop {l d : Addr} {o : Obj} {kv : List (PySem.Str × Value)} {vs : List Value} {ns : List Int} {n : Nat} (ok : c.OkR (some fieldsLit.2) r u) (hn : c.m (Str.ofString "numbers") = some (.ref l)) (hf : c.m (Str.ofString "fields") = some (.ref d)) (ml : (l, W.listOf vs.toArray n) ∈ tl) (md : (d, o) ∈ tl) (hne : l ≠ d)
    (hd : o.IsDictOf (strK w) kv) (hfl : FlatPairs PyData.str kv (kdpD [])) (hI : IntsAre vs ns) (hl : ns.length ≤ 4)
    (h : ∀ tl' o' kv' cc, (∀ p ∈ tl, p.1 ≠ d → p ∈ tl') → (d, o') ∈ tl' → o'.IsDictOf (strK w) kv' → FlatPairs PyData.str kv' (kdpD cc) → cc.length ≤ 4 → (1 ≤ ns.length → 1 ≤ cc.length) → kdpHas cc (Str.ofString "z") = false → K tl' (.ret (.ref d))) : JX c (execs (fieldsLit.1.drop 1) c.env) tl K P := Mine.into (by exact Mine.thru : Mine.Thru _ (by
    intro s Q E F N k ex
    refine wpAny_mono (Q := Q) (E := fun _ _ => False) ?_ (fun _ _ h => h) (fun _ _ h => h.elim)
    have lk : LN (some fieldsLit.2) (Str.ofString "k") .local := ⟨by kernel_rfl, by kernel_rfl⟩
    have ln : LN (some fieldsLit.2) (Str.ofString "numbers") .local := ⟨by kernel_rfl, by kernel_rfl⟩
    have lf : LN (some fieldsLit.2) (Str.ofString "fields") .local := ⟨by kernel_rfl, by kernel_rfl⟩
    have lr : LN (some fieldsLit.2) (Str.ofString "range") .globalImplicit := ⟨by kernel_rfl, by kernel_rfl⟩
    have ll : LN (some fieldsLit.2) (Str.ofString "len") .globalImplicit := ⟨by kernel_rfl, by kernel_rfl⟩
    have hlen : vs.length = ns.length := hI.length
    have hkind : c.env.scope.kind = .function := ok.hk
    refine wpAny_execs_cons (For_invVF (env := c.env) F (kindL ok lk) (by rw [hkind]; rfl) ?_ (fun _ => rfl) PassesOwn.never)
    refine Call_ (nameX_B F ok.X (topRead_of ok.T) (lb_range w).1 (lb_range w).2.1 (lb_range w).2.2 ?_ ok.hk (kindL ok lr) lr.2) rfl
    refine PyProof.Rows.callWith_type1 ?_ rfl rfl
    refine J.out (K := fun tl' vs' => tl' = tl ∧ ∃ t, vs' = [.int vs.length t]) (J.cons (J.Call (J.b ok ll (lb_len w) (J.callB (J.cons (J.l ok ln hn (J.nil (J.lenL ml (by omega) fun t => J.nil ⟨rfl, t, rfl⟩))) rfl) rfl rfl)) rfl) rfl) F N fun tl' vs' h' tk' hv F' N' => ?_
    obtain ⟨etl, t, rfl⟩ := hv
    rw [etl] at N'
    clear etl
    rw [hlen]
    refine range1_rows F' N' fun h2 tk2 t1 u1 v1 hR F2 N2 _ => ?_
    refine iter_rangeUnr (n := ns.length) rfl hR (small_one (by decide) (by decide) (by omega) (by omega)) (by rw [rangeSize_nat]; simp) F2 N2 fun I hlt => ?_
    have fin : ∀ (m1 : Map) (tl1 : Led), FInv w tl l d I ns.length m1 tl1 → ∀ h3 tk3, Fr c.h₀ c.env.locals h3 m1 → News c.h₀ c.env.locals h3 tl1 → wpAny (Wm w) c.A (execs (fieldsLit.1.drop 2) c.env) Q (fun _ _ => False) { s with heap := h3, toks := tk3 } := by
      intro m1 tl1 V h3 tk3 F3 N3
      obtain ⟨e1, e2, e3, e4, o1, kv1, cc1, e5, e6, e7, e8, e9, e10⟩ := V
      have z : JX (c.atM m1) (execs (fieldsLit.1.drop 2) (c.atM m1).env) tl1 K (fun _ _ => False) := JX.last (JX.ret (J.l (c := c.atM m1) (news := tl1) (ok.atM m1) lf e2 ⟨Flow.noConfusion, h tl1 o1 kv1 cc1 e3 e5 e6 e7 (by omega) e9 e10⟩))
      exact z { s with heap := h3, toks := tk3 } Q (fun _ _ => False) F3 N3 (fun tl' v h4 tk4 m4 hv F4 N4 => k tl' v h4 tk4 m4 hv F4 N4) fun _ _ _ hx => hx.elim
    refine rangeRest_ind (FInv w tl l d I) (fun m1 tl1 V h3 tk3 F3 N3 => fin m1 tl1 V h3 tk3 F3 N3) (fun i m1 tl1 hi V tt h3 tk3 F3 N3 => ?_) ns.length 0 c.m tl (by omega) ⟨hn, hf, fun _ hp _ => hp, fun p hp => hlt p hp, o, kv, [], md, hd, hfl, Nat.le_refl _, fun h => by omega, rfl⟩
    obtain ⟨e1, e2, e3, e4, o1, kv1, cc1, e5, e6, e7, e8, e9, e10⟩ := V
    let m2 : Map := fun y => if y = Str.ofString "k" then some (.int (0 + (i : Int)) tt) else m1 y
    have ok2 : (c.atM m2).OkR (some fieldsLit.2) r u := ok.atM m2
    have n1 : (c.atM m2).m (Str.ofString "numbers") = some (.ref l) := (if_neg (by decide) : m2 (Str.ofString "numbers") = m1 _).trans e1
    have n2 : (c.atM m2).m (Str.ofString "fields") = some (.ref d) := (if_neg (by decide) : m2 (Str.ofString "fields") = m1 _).trans e2
    have n3 : (c.atM m2).m (Str.ofString "k") = some (.int (0 + (i : Int)) tt) := (if_pos rfl : m2 (Str.ofString "k") = _)
    have ml1 : (l, W.listOf vs.toArray n) ∈ tl1 := e3 _ ml hne
    refine wpAny_execs_cons (wpAny_Assign_Subscript ?_ rfl)
    have ok := ok2
    have hI3 : 0 ≤ (0 : Int) + (i : Int) := by omega
    have hI4 : (0 : Int) + (i : Int) < ns.length := by omega
    have hI5 : ns.length ≤ 1000 := by omega
    have ml2 := List.Mem.tail (I, itR (0 + ((i + 1 : Nat) : Int)) ((ns.length : Int) - ((i + 1 : Nat) : Int))) ml1
    refine J.out (c := c.atM m2) (K := fun tl' v => tl' = (I, itR (0 + ((i + 1 : Nat) : Int)) ((ns.length : Int) - ((i + 1 : Nat) : Int))) :: tl1 ∧ ∃ x t, v = .int x t) ?val F3 N3 fun tl' v h4 tk4 hv F4 N4 => ?_
    case val =>
      show J (c.atM m2) (eval _ (c.atM m2).env) _ _
      repeat' (first | walk_at "jb" | ((with_reducible refine J.int ?_); intro _) | with_reducible refine J.bin ?_ | ((with_reducible refine J.itemI ok ln lk n1 n3 ml2 hI hI3 hI4 hI5 ?_); intro _) | ((with_reducible refine J.floordiv (by decide) (PyProof.noPylong_small (by decide)) ?_); intro _) | ((with_reducible refine J.mod (by decide) ?_); intro _) | ((with_reducible refine J.add ?_); intro _))
      exact ⟨rfl, _, _, rfl⟩
    obtain ⟨etl, xv, tv, rfl⟩ := hv
    rw [etl] at N4
    refine nameX_L F4 n2 ?_ ok.hk (kindL ok lf) lf.2
    refine J.out (c := c.atM m2) (K := fun tl' v => tl' = (I, itR (0 + ((i + 1 : Nat) : Int)) ((ns.length : Int) - ((i + 1 : Nat) : Int))) :: tl1 ∧ ∃ a t, v = .str (Txt.item (Str.ofString "abc") (Int.fmod a 3)) t) ?idx F4 N4 fun tl' v h5 tk5 hv F5 N5 => ?_
    case idx =>
      show J (c.atM m2) (eval _ (c.atM m2).env) _ _
      refine J.itemS (a := ns.getD (0 + (i : Int)).toNat 0) (by decide) (by decide +kernel) (by decide +kernel) ?_ fun _ _ _ => rfl
      repeat' ((with_reducible refine J.itemI ok ln lk n1 n3 ml2 hI hI3 hI4 hI5 ?_); intro _)
      exact ⟨⟨_, rfl⟩, fun t => ⟨rfl, _, t, rfl⟩⟩
    obtain ⟨etl, a, ta, rfl⟩ := hv
    rw [etl] at N5
    have hId : I ≠ d := Nat.ne_of_gt (e4 _ e5)
    refine kdp_setItem (news := (d, o1) :: ((I, itR (0 + ((i + 1 : Nat) : Int)) ((ns.length : Int) - ((i + 1 : Nat) : Int))) :: tl1).filter fun p => p.1 != d) (u := fun o' => (d, o') :: ((I, itR (0 + ((i + 1 : Nat) : Int)) ((ns.length : Int) - ((i + 1 : Nat) : Int))) :: tl1).filter fun p => p.1 != d) F5 (fun p hp => (List.mem_cons.mp hp).elim (fun e => e ▸ N5 _ (.tail _ e5)) fun hp => N5 p (List.mem_filter.mp hp).1) (UpdF.head fun p hp => ?_) e6 e7 (by omega) fun h6 o2 kv2 F6 N6 hd6 hf6 => ?_
    · have := (List.mem_filter.mp hp).2
      exact fun e => by rw [e] at this; simp at this
    have N7 : News c.h₀ c.env.locals h6 ((I, itR (0 + ((i + 1 : Nat) : Int)) ((ns.length : Int) - ((i + 1 : Nat) : Int))) :: (d, o2) :: tl1.filter fun p => p.1 != d) := fun p hp => by
      rcases List.mem_cons.mp hp with rfl | hp
      · exact N6 _ (.tail _ (List.mem_filter.mpr ⟨.head _, by simpa using hId⟩))
      · rcases List.mem_cons.mp hp with rfl | hp
        · exact N6 _ (.head _)
        · exact N6 p (.tail _ (List.mem_filter.mpr ⟨.tail _ (List.mem_filter.mp hp).1, (List.mem_filter.mp hp).2⟩))
    refine wpAny_execs_nil ?_
    refine ⟨rfl, UnrEnd.intro F6 N7 ((d, o2) :: tl1.filter fun p => p.1 != d) (fun _ h => h) ?_ ⟨n1, n2, fun p hp hpd => .tail _ (List.mem_filter.mpr ⟨e3 p hp hpd, by simpa using hpd⟩), ?_, o2, kv2, _, .head _, hd6, hf6, put_le e8, fun _ => put_pos, ?_⟩⟩
    · exact all_cons (Nat.ne_of_lt (show @LT.lt Nat _ d I from e4 (d, o1) e5)) fun p hp => Nat.ne_of_lt (e4 p (List.mem_filter.mp hp).1)
    · exact all_cons (show @LT.lt Nat _ d I from e4 (d, o1) e5) fun p hp => e4 p (List.mem_filter.mp hp).1
    · rw [kdpHas_put, abc_zd, e10]
      rfl))
end
theorem fields (w : World) (news : Led) (l : Addr) (vs : List Value) (ns : List Int) (c : Nat) (hI : IntsAre vs ns) (hl : ns.length ≤ 4) : CallC w 730 [.ref l] [] ((l, W.listOf vs.toArray c) :: news) (FieldsRet w l (W.listOf vs.toArray c) ns.length news) := by
  refine .ofR (fields_run fun c' ok hn K hK => ?_)
  have lf : LN (some fieldsLit.2) (Str.ofString "fields") .local := ⟨by kernel_rfl, by kernel_rfl⟩
  refine JX.set ok lf rfl (JR.ofJ (J.dict0 ok fun tl d o kvs hs hm hlt lo hd hf => ?_))
  refine fields_loop ok.set (Cx.set_ne (by decide) hn) Cx.set_self (hs _ (.head _)) hm (Nat.ne_of_lt (hlt _ (.head _))) hd hf hI hl fun tl' o' kv' cc hs' hm' hd' hf' h4 h1 hz => ⟨_, _, rfl, all_cons hm' fun p hp => hs' p (hs p hp) (Nat.ne_of_lt (hlt p hp)), hK d o' kv' cc hlt lo hd' hf' h4 h1 hz⟩
end Mine

end
-- JJ
section
open PySem PySem.Calls PySem.W PyProof.Rows PyProof.V PySem.Spec PySem.SeqAt
namespace Mine
set_option maxRecDepth 100000
theorem filled18 (w : World) : Filled PySem.Challenge.rw_jh0019_01.row.prog (hd.heap_1 w.params) := by
  k_fill
  exact trivial
def JPost (w : World) (h₀ : Heap) (L : Addr) (s : Shared) (dj d1 d2 : Addr) (o1 o2 : Obj) (news : Led) (I : Addr) (oI : Obj) (b : List (PySem.Str × Int)) (f : Flow) (s₂ : Shared) : Prop :=
  f = .next ∧ ∃ (h' : Heap) (tk' : Nat) (m₂ : Map) (oj' : Obj) (kj' : List (PySem.Str × Value)), s₂ = { s with heap := h', toks := tk' } ∧ Fr h₀ L h' m₂ ∧ News h₀ L h' ((I, oI) :: (dj, oj') :: (d1, o1) :: (d2, o2) :: news) ∧ oj'.IsDictOf (strK w) kj' ∧ FlatPairs PyData.str kj' (kdpD b) ∧ m₂ (Str.ofString "joined") = some (.ref dj) ∧ m₂ (Str.ofString "one") = some (.ref d1) ∧ m₂ (Str.ofString "two") = some (.ref d2)
section
variable {w : World} {A : Around} {E : Value → Shared → Prop} {s : Shared} {env : Env} {h₀ : Heap} {x : PySem.Str} {body : List Stmt} {Q : Flow → Shared → Prop}
theorem joinLoop {ds dj d1 d2 : Addr} {o1 o2 o oj : Obj} {kvs kj : List (PySem.Str × Value)} {a c : List (PySem.Str × Int)} {m₀ : Map} {news : Led}
    (hh : A.handled = none) (lo : (ds == sysModules) = false) (hd : o.IsDictOf (strK w) kvs) (hf : FlatPairs PyData.str kvs (kdpD c)) (hc : c.length ≤ 64) (ha : a.length ≤ 64) (hm : (ds, o) ∈ (d1, o1) :: (d2, o2) :: news)
    (F : Fr h₀ env.locals s.heap m₀) (N : News h₀ env.locals s.heap ((dj, oj) :: (d1, o1) :: (d2, o2) :: news)) (hj : oj.IsDictOf (strK w) kj) (fj : FlatPairs PyData.str kj (kdpD a))
    (mj : m₀ (Str.ofString "joined") = some (.ref dj)) (mo : m₀ (Str.ofString "one") = some (.ref d1)) (mt : m₀ (Str.ofString "two") = some (.ref d2))
    (turn : ∀ (b : List (PySem.Str × Int)) (k : PySem.Str) (t : Tok) (m₁ : Map) oj kj h tk I oI, kdpHas c k = true → b.length ≤ 1000 → oj.IsDictOf (strK w) kj → FlatPairs PyData.str kj (kdpD b) → m₁ (Str.ofString "joined") = some (.ref dj) → m₁ (Str.ofString "one") = some (.ref d1) → m₁ (Str.ofString "two") = some (.ref d2) →
      @Ne Nat dj I → @Ne Nat d1 I → @Ne Nat d2 I → (∀ p ∈ news, p.1 ≠ I) →
      Fr h₀ env.locals h (fun y => if y = x then some (.str k t) else m₁ y) → News h₀ env.locals h ((I, oI) :: (dj, oj) :: (d1, o1) :: (d2, o2) :: news) →
      wpAny (model PySem.Challenge.rw_jh0019_01.row.prog w) A (execs body env) (JPost w h₀ env.locals s dj d1 d2 o1 o2 news I oI (kdpPut b k (kdpLook c k 0))) E { s with heap := h, toks := tk })
    (done : ∀ (m₁ : Map) oj kj h tk, oj.IsDictOf (strK w) kj → FlatPairs PyData.str kj (kdpD (putAll a c)) → m₁ (Str.ofString "joined") = some (.ref dj) → m₁ (Str.ofString "one") = some (.ref d1) → m₁ (Str.ofString "two") = some (.ref d2) → Fr h₀ env.locals h m₁ → News h₀ env.locals h ((dj, oj) :: (d1, o1) :: (d2, o2) :: news) → Q .next { s with heap := h, toks := tk }) :
    wpAny (model PySem.Challenge.rw_jh0019_01.row.prog w) A (pyIter (.ref ds)) (fun it s₂ => LoopAtV PySem.Challenge.rw_jh0019_01.row.prog w A h₀ env x body Q E it s₂) E s := by
  refine iter_keys (fun i m n => ∃ oj kj, n = (dj, oj) :: (d1, o1) :: (d2, o2) :: news ∧ oj.IsDictOf (strK w) kj ∧ FlatPairs PyData.str kj (kdpD (putAll a (c.take i))) ∧ m (Str.ofString "joined") = some (.ref dj) ∧ m (Str.ofString "one") = some (.ref d1) ∧ m (Str.ofString "two") = some (.ref d2))
    hh lo hd hf F N ?_ ⟨oj, kj, rfl, hj, fj, mj, mo, mt⟩ ?_ ?_
  · rintro i m n ⟨oj, kj, rfl, _⟩
    exact .tail _ hm
  · rintro i k v t m₁ n₁ h tk I oI hci ⟨oj, kj, rfl, hj, fj, mj, mo, mt⟩ hne F₁ N₁
    obtain ⟨hk, hv⟩ := look_of (nodup_of hd hf) hci
    have hlen : (putAll a (c.take i)).length ≤ 1000 := by
      have h1 := putAll_len (c.take i) a
      have h2 := List.length_take_le i c
      have h3 : (List.take i c).length ≤ c.length := by rw [List.length_take]; omega
      omega
    refine wpAny_mono (turn (putAll a (c.take i)) k t m₁ oj kj h tk I oI hk hlen hj fj mj mo mt (hne _ (.head _)) (hne _ (.tail _ (.head _))) (hne _ (.tail _ (.tail _ (.head _)))) (fun p hp => hne p (.tail _ (.tail _ (.tail _ hp)))) F₁ N₁) (fun f s₂ hq => ?_) fun _ _ e => e
    obtain ⟨rfl, h', tk', m₂, oj', kj', rfl, F₂, N₂, hj2, fj2, mj2, mo2, mt2⟩ := hq
    refine ⟨rfl, h', tk', m₂, _, rfl, F₂, N₂, fun p hp => ?_, oj', kj', rfl, hj2, ?_, mj2, mo2, mt2⟩
    · rcases List.mem_cons.mp hp with rfl | hp
      · exact hne (dj, oj) (.head _)
      · exact hne p (.tail _ hp)
    · rw [putAll_snoc hci, ← hv]; exact fj2
  · rintro m₁ n₁ h tk ⟨oj, kj, rfl, hj, fj, mj, mo, mt⟩ F₁ N₁
    rw [List.take_length] at fj
    exact done m₁ oj kj h tk hj fj mj mo mt F₁ N₁
end

noncomputable def joinLit : List Stmt × Scope := by
  refine' litOf (f := 723) fun w => ?ho
  case ho => k_is
theorem joined_run {w : World} {r u : Nat} {news : Led} {v1 v2 : Value} {Ret : (Led → Value → Prop) → Prop}
    (h : ∀ c : Cx w, c.OkR (some joinLit.2) r u → c.m (Str.ofString "one") = some v1 → c.m (Str.ofString "two") = some v2 → ∀ K, Ret K → JX c (execs joinLit.1 c.env) news (retEnd K) (fun _ _ => False)) : CallR w (r + 1) (u + 4) 723 [v1, v2] [] news Ret := by
  refine' def_run (f := 723) ?ho ?hcd ?hb ?hl ?sc ?hc ?h
  case ho | hcd => k_is
  case hb => exact fun s _ => BindsTo.of_eq rfl
  case hl => exact locs rfl
  case sc => exact ⟨rfl, rfl, rfl⟩
  case hc => decide
  case h => exact fun c ok hm K hK => h c ok (hm _ _ rfl) (hm _ _ rfl) K hK
theorem join_turn {w : World} {c : Cx w} {fs : Option Scope} {r u : Nat} (ok : c.OkR fs r u) (lj : LN fs (Str.ofString "joined") .local) (lnm : LN fs (Str.ofString "name") .local) {y : PySem.Str} (ly : LN fs y .local) (hy : y ≠ Str.ofString "name") {ds dj d1 d2 : Addr} {o1 o2 os : Obj} {kvs : List (PySem.Str × Value)} {cs : List (PySem.Str × Int)} {news : Led}
    (lo : (ds == sysModules) = false) (hds : os.IsDictOf (strK w) kvs) (hfs : FlatPairs PyData.str kvs (kdpD cs)) (ms : (ds, os) ∈ (d1, o1) :: (d2, o2) :: news) {p1 p2 p3 p4 p5 p6 pos : Pos}
    {s : Shared} {b : List (PySem.Str × Int)} {k : PySem.Str} {t : Tok} {m₁ : Map} {oj : Obj} {kj : List (PySem.Str × Value)} {h : Heap} {tk : Nat} {I : Addr} {oI : Obj} (hk : kdpHas cs k = true) (hlen : b.length ≤ 1000) (hj : oj.IsDictOf (strK w) kj) (fj : FlatPairs PyData.str kj (kdpD b)) (mj : m₁ (Str.ofString "joined") = some (.ref dj)) (mo : m₁ (Str.ofString "one") = some (.ref d1)) (mt : m₁ (Str.ofString "two") = some (.ref d2)) (my : m₁ y = some (.ref ds))
    (n1 : @Ne Nat dj I) (nd : ∀ p ∈ (d1, o1) :: (d2, o2) :: news, p.1 ≠ dj) (F : Fr c.h₀ c.env.locals h (fun y => if y = Str.ofString "name" then some (.str k t) else m₁ y)) (N : News c.h₀ c.env.locals h ((I, oI) :: (dj, oj) :: (d1, o1) :: (d2, o2) :: news)) :
    wpAny (Wm w) c.A (execs [.Assign [.Subscript (.Name (Str.ofString "joined") p1) (.Name (Str.ofString "name") p2) p3] (.Subscript (.Name y p4) (.Name (Str.ofString "name") p5) p6) pos] c.env) (JPost w c.h₀ c.env.locals s dj d1 d2 o1 o2 news I oI (kdpPut b k (kdpLook cs k 0))) (fun _ _ => False) { s with heap := h, toks := tk } := by
  have e1 : (fun z => if z = Str.ofString "name" then some (.str k t) else m₁ z) y = some (.ref ds) := (if_neg hy).trans my
  have e2 : (fun z => if z = Str.ofString "name" then some (Value.str k t) else m₁ z) (Str.ofString "name") = some (.str k t) := if_pos rfl
  have e3 : (fun z => if z = Str.ofString "name" then some (Value.str k t) else m₁ z) (Str.ofString "joined") = some (.ref dj) := (if_neg (by decide)).trans mj
  refine wpAny_execs_cons (wpAny_Assign_Subscript (Subscript_ (nameX_L F e1 (nameX_L F e2 ?_ ok.hk (kindL ok lnm) lnm.2) ok.hk (kindL ok ly) ly.2)) rfl)
  refine kdp_item (TabAt.ofNews N (.tail _ (.tail _ ms)) lo hds hfs) hk (fun t2 => ?_) rfl fun _ => rfl
  refine nameX_L F e3 (nameX_L F e2 ?_ ok.hk (kindL ok lnm) lnm.2) ok.hk (kindL ok lj) lj.2
  refine kdp_setItem (news := (dj, oj) :: (I, oI) :: (d1, o1) :: (d2, o2) :: news) (u := fun o' => (dj, o') :: (I, oI) :: (d1, o1) :: (d2, o2) :: news) F (fun p hp => ?_) (UpdF.head (all_cons n1.symm nd)) hj fj (by omega) fun h6 o6 kv6 F6 N6 hd6 hf6 => ?_
  · rcases List.mem_cons.mp hp with rfl | hp
    · exact N _ (.tail _ (.head _))
    · rcases List.mem_cons.mp hp with rfl | hp
      · exact N _ (.head _)
      · exact N _ (.tail _ (.tail _ hp))
  · refine wpAny_execs_nil ⟨rfl, h6, _, _, o6, kv6, rfl, F6, fun p hp => ?_, hd6, hf6, (if_neg (by decide)).trans mj, (if_neg (by decide)).trans mo, (if_neg (by decide)).trans mt⟩
    rcases List.mem_cons.mp hp with rfl | hp
    · exact N6 _ (.tail _ (.head _))
    · rcases List.mem_cons.mp hp with rfl | hp
      · exact N6 _ (.head _)
      · exact N6 _ (.tail _ (.tail _ hp))
theorem joined (w : World) (news : Led) (d1 d2 : Addr) (o1 o2 : Obj) (kv1 kv2 : List (PySem.Str × Value)) (c1 c2 : List (PySem.Str × Int)) (lo1 : (d1 == sysModules) = false) (lo2 : (d2 == sysModules) = false) (hd1 : o1.IsDictOf (strK w) kv1) (hd2 : o2.IsDictOf (strK w) kv2) (hf1 : FlatPairs PyData.str kv1 (kdpD c1)) (hf2 : FlatPairs PyData.str kv2 (kdpD c2)) (hl1 : c1.length ≤ 8) (hl2 : c2.length ≤ 8) :
    CallC w 723 [.ref d1, .ref d2] [] ((d1, o1) :: (d2, o2) :: news) (fun K => ∀ d o kvs, (∀ p ∈ (d1, o1) :: (d2, o2) :: news, p.1 < d) → (d == sysModules) = false → o.IsDictOf (strK w) kvs → FlatPairs PyData.str kvs (kdpD (putAll c1 c2)) → K ((d, o) :: (d1, o1) :: (d2, o2) :: news) (.ref d)) := by
  refine .ofR (joined_run fun c ok g1 g2 K hK => ?_)
  have lj : LN (some joinLit.2) (Str.ofString "joined") .local := ⟨by kernel_rfl, by kernel_rfl⟩
  have lnm : LN (some joinLit.2) (Str.ofString "name") .local := ⟨by kernel_rfl, by kernel_rfl⟩
  have l1 : LN (some joinLit.2) (Str.ofString "one") .local := ⟨by kernel_rfl, by kernel_rfl⟩
  have l2 : LN (some joinLit.2) (Str.ofString "two") .local := ⟨by kernel_rfl, by kernel_rfl⟩
  refine JX.set ok lj rfl (JR.ofJ (J.dict0 ok fun tl dj oj kj hs hm hlt lo hd hf => ?_))
  have ok := ok.set (x := Str.ofString "joined") (v := .ref dj)
  have g1 := Cx.set_ne (x := Str.ofString "joined") (v := .ref dj) (by decide) g1
  have g2 := Cx.set_ne (x := Str.ofString "joined") (v := .ref dj) (by decide) g2
  have g3 : (c.set (Str.ofString "joined") (.ref dj)).m (Str.ofString "joined") = some (.ref dj) := Cx.set_self
  revert ok g1 g2 g3
  generalize c.set (Str.ofString "joined") (.ref dj) = c'
  intro ok g1 g2 g3
  have hkind : c'.env.scope.kind = .function := ok.hk
  intro s Q E F N k ex
  refine wpAny_mono (Q := Q) (E := fun _ _ => False) ?_ (fun _ _ h => h) (fun _ _ h => h.elim)
  have nd : ∀ p ∈ (d1, o1) :: (d2, o2) :: news, p.1 ≠ dj := fun p hp => Nat.ne_of_lt (hlt p hp)
  refine wpAny_execs_cons (For_invVF (env := c'.env) F (kindL ok lnm) (by rw [hkind]; rfl) (nameX_L F g1 ?_ ok.hk (kindL ok l1) l1.2) (fun _ => rfl) PassesOwn.never)
  refine joinLoop (a := []) (c := c1) rfl lo1 hd1 hf1 (by omega) (by decide) (.head _) F (fun p hp => N p (all_cons hm (fun p hp => hs p hp) p hp)) hd hf g3 g1 g2 (fun b k t m₁ oj kj h tk I oI hk hlen hj fj mj mo mt n1 n2 n3 n4 F N => join_turn (c := c') ok lj lnm l1 (by decide) lo1 hd1 hf1 (.head _) hk hlen hj fj mj mo mt mo n1 nd F N) ?_
  intro m₁ oj kj h tk hj fj mj mo mt F N
  rw [putAll_nil (nodup_of hd1 hf1)] at fj
  refine wpAny_execs_cons (For_invVF (env := c'.env) F (kindL ok lnm) (by rw [hkind]; rfl) (nameX_L (cs := c'.cs) F mt ?_ ok.hk (kindL ok l2) l2.2) (fun _ => rfl) PassesOwn.never)
  refine joinLoop (a := c1) (c := c2) rfl lo2 hd2 hf2 (by omega) (by omega) (.tail _ (.head _)) F N hj fj mj mo mt (fun b k t m₁ oj kj h tk I oI hk hlen hj fj mj mo mt n1 n2 n3 n4 F N => join_turn (c := c') ok lj lnm l2 (by decide) lo2 hd2 hf2 (.tail _ (.head _)) hk hlen hj fj mj mo mt mt n1 nd F N) ?_
  intro m₁ oj kj h tk hj fj mj mo mt F N
  refine wpAny_execs_cons (wpAny_Return_some (nameX_L (cs := c'.cs) F mj ?_ ok.hk (kindL ok lj) lj.2))
  exact k _ _ h _ m₁ ⟨_, _, rfl, fun _ p => p, hK dj oj kj hlt lo hj fj⟩ F N
end Mine

end
-- E1
section
open PySem PySem.Calls PySem.W PyProof.Rows PyProof.V PySem.Spec
set_option maxRecDepth 100000
namespace Mine
abbrev exObj (t : Addr) : Obj := { cls := .ref 306, data := .fields #[.ref t, .none, .none, .none, .bool false, .none] }
abbrev bmX : List Value := [.type "Exception", .type "BaseException", .type "object"]
abbrev invCls : Obj := excClassObj (Str.ofString "InvalidDocument") (Str.ofString "InvalidDocument") 306 305 [.ref 275] [.ref 275, .type "Exception", .type "BaseException", .type "object"] true [] [] false none none (some (.ref 279)) none (some (.str (Str.ofString "InvalidDocument") 573)) (some (.str (Str.ofString "InvalidDocument") 581)) (some (.bool true)) "Exception.__new__"
section
variable {w : World} {A : Around} {R : Result → Shared → Prop} {h : Heap} {g : Array GenState} {d : Drawn} {t : Nat} {os : OsState}
theorem inv_look (w : World) : (hd.heap_1 w.params).lookup 306 = some invCls := by kernel_rfl
theorem inv_tail (X : (hd.heap_1 w.params).In h) : OwnTail h bmX [.ref 275, .type "Exception", .type "BaseException", .type "object"] := tail_of_in X (by kernel_rfl)
set_option maxHeartbeats 4000000 in
theorem exc_make {rest : List Value} (X : (hd.heap_1 w.params).In h) (hrest : rest.length ≤ sizeLine)
    (hq : codeAny (model PySem.Challenge.rw_jh0019_01.row.prog w) (A.under (.builtin "type.__call__" ⟨.ref 306 :: rest, []⟩)) (.call (.ref 295) ⟨.ref (h.objs.size + 1) :: rest, []⟩) (InitBack (h.objs.size + 1) R) ⟨(h.push { cls := .type "tuple", data := .seq rest.toArray }).push (exObj h.objs.size), g, d, t, os⟩) :
    codeAny (model PySem.Challenge.rw_jh0019_01.row.prog w) A (.call (.ref 306) ⟨rest, []⟩) R ⟨h, g, d, t, os⟩ := by
  have FB := PySem.F.excBase_Exception
  have T := inv_tail X
  have hC : h.get? 306 = some invCls := X _ _ (inv_look w)
  have call : Looks (model PySem.Challenge.rw_jh0019_01.row.prog w) h (specialOf (.ref 306) "__call__") (some (.builtin "type.__call__")) := looks_specialIn X (by kernel_rfl)
  have typ : Looks (model PySem.Challenge.rw_jh0019_01.row.prog w) h (isInstance (.ref 306) (.type "type")) true := looks_instIn X (by kernel_rfl)
  have self : Looks (model PySem.Challenge.rw_jh0019_01.row.prog w) h (isSubtype (.ref 306) (.ref 306)) true := looks_mroIn X (by kernel_rfl)
  have hi : Looks (model PySem.Challenge.rw_jh0019_01.row.prog w) h (typeLookup (.ref 306) "__init__") (some (.ref 295)) := looks_findIn X (by kernel_rfl)
  have made : Looks (model PySem.Challenge.rw_jh0019_01.row.prog w) h (Bind.madeBy (.ref 306)) (some "Exception.__new__") := fun A Q E s k q => by
    obtain ⟨hh, g, d, t, os⟩ := s
    exact wpAny_madeBy_exc (k _ _ hC) q
  have hm : Looks (model PySem.Challenge.rw_jh0019_01.row.prog w) h (mroOf (.ref 306)) [.ref 306, .ref 275, .type "Exception", .type "BaseException", .type "object"] := fun A Q E s k q => by
    obtain ⟨hh, g, d, t, os⟩ := s
    exact wpAny_mroOf_exc (k _ _ hC) q
  refine codeAny_of_tree ?_
  show wpAny _ _ (callAny (.ref 306) _) _ _ _
  refine nd_load hC ?_
  show wpAny _ _ (callAny.viaDunder (.ref 306) _) _ _ _
  unfold callAny.viaDunder
  refine wpAny_bind (call.at ?_)
  dsimp only
  rw [tc_bind]
  refine wpAny_bind (wpAny_pure (wpAny_bind (wpAny_pure ?_)))
  refine wpAny_pure (a := Fin.again (.call (.builtin "type.__call__") ⟨.ref 306 :: rest, []⟩)) (And.intro rfl ?_)
  refine codeAny_call_builtin_at (Code.quiet_builtin _ (by decide +kernel)) entry_typeCall (check_slot tc_kind tc_split typ (tc_args _ _ _) ?_)
  unfold Builtin.«type.__call__»
  repeat (first | simp only [List.isEmpty_cons, Bool.false_eq_true, if_false] | with_reducible refine wpAny_call ?_ | lk)
  refine codeAny_call_builtin_code (Code.quiet_builtin _ FB.quiet) (wpAny_check_new_subT FB T hC ?_)
  refine codeAny_exc_new_subT FB T hC ?_ hrest
  have k : ∀ b o, h.get? b = some o → ((h.push { cls := .type "tuple", data := .seq rest.toArray }).push (exObj h.objs.size)).get? b = some o := fun b o e => Heap.get?_push_of_some _ (Heap.get?_push_of_some _ e)
  have hx : ((h.push { cls := .type "tuple", data := .seq rest.toArray }).push (exObj h.objs.size)).get? (h.objs.size + 1) = some (exObj h.objs.size) := by heap_get
  have t1 : Looks (model PySem.Challenge.rw_jh0019_01.row.prog w) ((h.push { cls := .type "tuple", data := .seq rest.toArray }).push (exObj h.objs.size)) (typeOf (.ref (h.objs.size + 1))) (.ref 306) := (Looks.ld hx).andThen .now
  have s1 := self.keeps k
  have i1 := hi.keeps k
  have b1 : Looks (model PySem.Challenge.rw_jh0019_01.row.prog w) ((h.push { cls := .type "tuple", data := .seq rest.toArray }).push (exObj h.objs.size)) (bindSpecial (.ref 295) (.ref (h.objs.size + 1))) (.ref 295, [.ref (h.objs.size + 1)]) := (bind_fn X _ (by kernel_rfl)).keeps k
  unfold isInstance callSpecial? specialOf
  repeat (first | with_reducible refine wpAny_call ?_ | lk)
  refine codeAny_mono hq fun r s' z => ?_
  rcases r with e | (v | _ | _ | _) <;> first | exact z | exact z.elim | skip
  obtain ⟨rfl, z⟩ := z
  exact wpAny_pure (wpAny_pure z)
end
end Mine

end
-- E2
section
open PySem PySem.Calls PySem.W PyProof.Rows PyProof.V PySem.Spec
set_option maxRecDepth 100000
namespace Mine
theorem slot_wd_get : Slot "wrapper_descriptor" "__get__" "wrapper_descriptor.__get__" := .of (owner := "wrapper_descriptor") (n := "__get__") (by rw [typeLookup_type, builtinLookup_eq_fast]; kernel_rfl) (by decide +kernel) (by decide +kernel) (by decide +kernel) (by first | exact .inl (by decide +kernel) | exact .inr (by decide +kernel)) (by rw [isSubtype_type]; kernel_rfl)
theorem entry_wd_get : entryFor table "wrapper_descriptor.__get__" = some Builtin.«wrapper_descriptor.__get__» := entryFor_of_tree (by kernel_rfl)
theorem args_wd_get (a b c : Value) : argsOk "wrapper_descriptor.__get__" ⟨[a, b, c], []⟩ := by unfold argsOk; kernel_rfl
theorem typeOf_xi : typeOf (.builtin "Exception.__init__") = pure (.type "wrapper_descriptor") := by kernel_rfl
theorem owner_xi : (".".intercalate ("Exception.__init__".cutAt '.').dropLast) = "Exception" := by
  have e0 : "Exception.__init__".cutAt '.' = ["Exception", "__init__"] := by first | rfl | decide +kernel
  rw [e0]; decide +kernel
abbrev mwObj (x : Addr) : Obj := { cls := .type "method-wrapper", data := .fields #[.builtin "Exception.__init__", .ref x] }
section
variable {w : World} {A : Around} {E : Value → Shared → Prop} {h : Heap} {g : Array GenState} {d : Drawn} {t : Nat} {os : OsState}
set_option maxHeartbeats 4000000 in
theorem sup_ga {so x : Addr} {ox : Obj} {tk : Tok} {Q : Fin → Shared → Prop} (hso : h.get? so = some (ks_superObj 306 x 306)) (X : (hd.heap_1 w.params).In h) (hx : h.get? x = some ox) (hc : ox.cls = .ref 306) (hno : Looks (model PySem.Challenge.rw_jh0019_01.row.prog w) h (opaqueClassAbove (.ref 306)) none) (hxC : x ≠ 306)
    (hq : Q (.done (.ret (.ref h.objs.size))) ⟨h.push (mwObj x), g, d, t, os⟩) :
    wpAny (model PySem.Challenge.rw_jh0019_01.row.prog w) A (Builtin.«super.__getattribute__» ⟨[.ref so, .str (Str.ofString "__init__") tk], []⟩) Q E ⟨h, g, d, t, os⟩ := by
  have hlk := slot_wd_get.lookup
  have hn : (Str.ofString "__init__" == ("__class__" : PySem.Str)) = false := by decide +kernel
  have hne : (Value.ref x == Value.ref 306) = false := by simp [hxC]
  have hdt : (ks_superObj 306 x 306).data = .fields #[.ref 306, .ref x, .ref 306] := rfl
  have f0 : (#[.ref 306, .ref x, .ref 306] : Array Value)[0]? = some (.ref 306) := rfl
  have f1 : (#[.ref 306, .ref x, .ref 306] : Array Value)[1]? = some (.ref x) := rfl
  have f2 : (#[.ref 306, .ref x, .ref 306] : Array Value)[2]? = some (.ref 306) := rfl
  have hC : h.get? 306 = some invCls := X _ _ (inv_look w)
  have hm : Looks (model PySem.Challenge.rw_jh0019_01.row.prog w) h (mroOf (.ref 306)) [.ref 306, .ref 275, .type "Exception", .type "BaseException", .type "object"] := fun A Q E s k q => by
    obtain ⟨hh, g, d, t, os⟩ := s
    exact wpAny_mroOf_exc (k _ _ hC) q
  have hl : (([.ref 306, .ref 275, .type "Exception", .type "BaseException", .type "object"] : List Value).dropWhile (· != .ref 306)).drop 1 = [.ref 275, .type "Exception", .type "BaseException", .type "object"] := by decide +kernel
  have hf : alongIn (hd.heap_1 w.params) (Str.ofString "__init__") [.ref 275, .type "Exception", .type "BaseException", .type "object"] = some (some (.builtin "Exception.__init__")) := by kernel_rfl
  have hT : (⟨h, g, d, t, os⟩ : Shared).TypeIs (.builtin "Exception.__init__") "wrapper_descriptor" := typeOf_xi
  have hty : Looks (model PySem.Challenge.rw_jh0019_01.row.prog w) h (typeOf (.ref x)) (.ref 306) := hc ▸ (Looks.ld hx).andThen .now
  have hsub : Looks (model PySem.Challenge.rw_jh0019_01.row.prog w) h (isSubtype (.ref 306) (.type "Exception")) true := looks_mroIn X (by kernel_rfl)
  have hin : Looks (model PySem.Challenge.rw_jh0019_01.row.prog w) h (isInstance (.ref x) (.type "Exception")) true := hty.andThen hsub
  unfold Builtin.«super.__getattribute__»
  repeat (first
    | (with_reducible refine wpAny_field hso hdt f0 ?_) | (with_reducible refine wpAny_field hso hdt f1 ?_) | (with_reducible refine wpAny_field hso hdt f2 ?_)
    | (with_reducible refine PySem.F.ks_wpAny_notOpaque hno ?_)
    | (with_reducible refine ks_wpAny_notOpaque hno ?_)
    | (with_reducible refine Looks.at hm ?_; rw [hl])
    | (refine ks_forIn_along X (fun _ _ => rfl) rfl ?_ hf)
    | (with_reducible refine wpAny_typeOf hT ?_)
    | (with_reducible refine wpAny_call_entry slot_wd_get hT entry_wd_get ?_ (args_wd_get _ _ _))
    | (with_reducible refine Looks.at hin ?_)
    | (with_reducible refine ⟨_, rfl, ?_⟩)
    | (simp only [hn, hne, Bool.or_false, Bool.false_eq_true, if_false])
    | wp_step
    | dsimp only)
  rw [hc, owner_xi]
  refine hsub.at ?_
  repeat (first
    | (with_reducible refine ⟨_, rfl, ?_⟩)
    | (simp only [Bool.not_true, Bool.false_eq_true, if_false])
    | wp_step
    | dsimp only)
  all_goals exact hq
theorem sup_get {so x : Addr} {ox : Obj} {pl : Sem Bool} {Q : Value × List Value → Shared → Prop} (hso : h.get? so = some (ks_superObj 306 x 306)) (X : (hd.heap_1 w.params).In h) (hx : h.get? x = some ox) (hc : ox.cls = .ref 306) (hxC : x ≠ 306)
    (hq : Q (.ref h.objs.size, []) ⟨h.push (mwObj x), g, d, t + 1, os⟩) :
    wpAny (model PySem.Challenge.rw_jh0019_01.row.prog w) A (getMethod (.ref so) (Str.ofString "__init__") pl) Q E ⟨h, g, d, t, os⟩ := by
  have hno : Looks (model PySem.Challenge.rw_jh0019_01.row.prog w) h (opaqueClassAbove (.ref 306)) none := looks_opaque X (by kernel_rfl)
  have hlk := PySem.F.ks_slot_super_ga.lookup
  have hcan := PySem.F.ks_canon_super_ga
  have hT : ∀ t', (⟨h, g, d, t', os⟩ : Shared).TypeIs (.ref so) "super" := fun _ => ⟨_, hso, rfl⟩
  unfold getMethod
  refine wpAny_bind (wpAny_specialOf (hT _) hlk ?_)
  show wpAny _ _ (if (Manifest.canonical "super.__getattribute__" != "object.__getattribute__") = true then _ else _) _ _ _
  rw [if_pos hcan]
  unfold getAttr getAttrBy
  refine wpAny_bind (wpAny_bind (wpAny_mkText (wpAny_holding (wpAny_bind (wpAny_typeOf (hT _) (wpAny_bind (wpAny_of_eq hlk ?_)))))))
  show wpAny _ _ (getAttrByItsOwn (.ref so) (.str (Str.ofString "__init__") t) (.type "super") (.builtin "super.__getattribute__") true false) _ _ _
  unfold getAttrByItsOwn hookBefore callGetattribute boundAndCalled
  refine wpAny_bind (wpAny_of_eq (show (if onTheHeap (.type "super") then typeLookup (.type "super") "__getattr__" else pure none) = pure none from rfl) ?_)
  refine wpAny_bind (wpAny_attempt (wpAny_holding ?_))
  show wpAny _ _ (bindSpecial (.builtin "super.__getattribute__") (.ref so) >>= _) _ _ _
  refine wpAny_bind (wpAny_of_eq (PySem.F.ks_slot_super_ga.bind _) ?_)
  refine wpAny_mono (Q := fun v s' => v = .ref h.objs.size ∧ s' = ⟨h.push (mwObj x), g, d, t + 1, os⟩) (E := fun _ _ => False)
    (wpAny_call_entry PySem.F.ks_slot_super_ga (hT _) PySem.F.ks_entry_super_ga (sup_ga hso X hx hc hno hxC ⟨_, rfl, rfl, rfl⟩) (PySem.F.ks_gaArgs_super _ _)) (fun v s' hv => ?_) fun _ _ z => z.elim
  obtain ⟨rfl, rfl⟩ := hv
  exact wpAny_pure (wpAny_pure hq)
end
end Mine

end
-- E3
section
open PySem PySem.Calls PySem.W PyProof.Rows PyProof.V PySem.Spec
open PySem.Builtin PySem.Builtin.ObjectAttr
set_option maxRecDepth 100000
namespace Mine
abbrev exObjD (t dx : Addr) : Obj := { cls := .ref 306, dict := some dx, data := .fields #[.ref t, .none, .none, .none, .bool false, .none] }
theorem inst_ex {h₀ h : Heap} {L x t : Addr} {news : Led} (N : News h₀ L h news) (h1 : (x, exObj t) ∈ news) : InstAt h x (exObj t) 306 none := ⟨(N _ h1).1, rfl, rfl, trivial⟩
theorem inst_exD {h₀ h : Heap} {L x t dx : Addr} {od : Obj} {news : Led} (N : News h₀ L h news) (h1 : (x, exObjD t dx) ∈ news) (h2 : (dx, od) ∈ news) : InstAt h x (exObjD t dx) 306 (some od) := ⟨(N _ h1).1, rfl, rfl, (N _ h2).1⟩
def MwAt (v : Value) (x : Addr) (h : Heap) : Prop := ∃ q, v = .ref q ∧ h.get? q = some (mwObj x)
section
variable {w : World} {A : Around} {E : Value → Shared → Prop} {s : Shared} {h₀ : Heap} {L : Addr} {m : Map} {news : Led}
theorem inv_method {so x t : Addr} {pl : Sem Bool} {Q : Value × List Value → Shared → Prop} (F : Fr h₀ L s.heap m) (X₀ : (hd.heap_1 w.params).In h₀) (N : News h₀ L s.heap news) (hso : (so, ks_superObj 306 x 306) ∈ news) (hx : (x, exObj t) ∈ news)
    (h : ∀ q h' tk', Fr h₀ L h' m → News h₀ L h' ((q, mwObj x) :: news) → (∀ p ∈ news, p.1 < q) → Q (.ref q, []) { s with heap := h', toks := tk' }) :
    wpAny (model PySem.Challenge.rw_jh0019_01.row.prog w) A (getMethod (.ref so) (Str.ofString "__init__") pl) Q E s := by
  have X := X₀.keeps F.keep
  obtain ⟨hh, g, d, t, os⟩ := s
  have hxC : x ≠ 306 := fun e => by
    have e1 := (N _ hx).2.2
    have e2 := X₀ 306 _ (inv_look w)
    simp only [e] at e1
    rw [e1] at e2; cases e2
  refine sup_get (N _ hso).1 X (N _ hx).1 rfl hxC ?_
  obtain ⟨F', N', l'⟩ := ks_newsPush (s := ⟨hh, g, d, t, os⟩) (o := mwObj x) F N rfl (Heap.get?_push_at rfl rfl) (fun b o e => Heap.get?_push_of_some _ e)
  exact h _ _ _ F' N' l'
theorem callWith_W {env : Env} {pos : Pos} {q x : Addr} {first : List Value} {e : PySem.Expr} {rest : List PySem.Expr} {Q : Value → Shared → Prop} (_N : News h₀ L s.heap news) (_q : (q, mwObj x) ∈ news)
    (h : wpAny (model PySem.Challenge.rw_jh0019_01.row.prog w) A (spliced (backTo pos (starEach (e :: rest) env))) (fun vs s₁ => MwAt (.ref q) x s₁.heap ∧ wpAny (model PySem.Challenge.rw_jh0019_01.row.prog w) A (call (.ref q) (first ++ vs)) Q E s₁) E s)
    (he : starEach (e :: rest) env = (false, eval e env) :: starEach rest env := by rfl) (hplain : (backTo pos (starEach rest env)).any (·.1) = false := by rfl) :
    wpAny (model PySem.Challenge.rw_jh0019_01.row.prog w) A (callWith pos (.ref q) first (backTo pos (starEach (e :: rest) env)) []) Q E s := by
  rw [he] at h ⊢
  refine callWith_of (P := MwAt (.ref q) x) (by show ((false || (backTo pos (starEach rest env)).any (·.1)) || false) = false; rw [hplain]; rfl) (fun h' hP => ?_) (evalArgs_plain h)
  obtain ⟨q', e, hP⟩ := hP
  cases e
  exact ⟨.machine, .inr (.inl rfl), (Looks.ld (part := none) hP).andThen .now⟩
theorem xi_check {M : Model} {x : Addr} {msg : Value} {oe : Obj} {h : Heap} {g : Array GenState} {d : Drawn} {t : Nat} {os : OsState} {Q : Unit → Shared → Prop} (hC : h.get? 306 = some invCls) (he : h.get? x = some oe) (hcls : oe.cls = .ref 306) (hq : Q () ⟨h, g, d, t, os⟩) :
    wpAny M A (checkBoundCall "Exception.__init__" ⟨[.ref x, msg], []⟩) Q E ⟨h, g, d, t, os⟩ := by
  have F := PySem.F.excBase_Exception
  have hshort := F.noStar
  simp only [checkBoundCall, F.initKind, F.initRow]
  repeat (first | (with_reducible refine wpAny_loadPart_at he ?_; rw [hcls]) | with_reducible refine wpAny_loadPart_at hC ?_ | wp_step)
  exact hq
theorem xinit_body {x t : Addr} {msg : Value} {Q : PySem.Fin → Shared → Prop} {s : Shared} (hx : s.heap.get? x = some (exObj t))
    (h : Q (.done (.ret .none)) { s with heap := (s.heap.push { cls := .type "tuple", data := .seq #[msg] }).update x (Obj.mapFields (·.setIfInBounds 0 (.ref s.heap.objs.size))) }) :
    wpAny (model PySem.Challenge.rw_jh0019_01.row.prog w) A (Builtin.«BaseException.__init__» ⟨[.ref x, msg], []⟩) Q E s := by
  unfold Builtin.«BaseException.__init__»
  dsimp only
  rw [if_neg (by simp)]
  unfold newTuple Builtin.BaseException.bexcPut
  have hx₁ := Heap.get?_push_of_some (h := s.heap) { cls := .type "tuple", data := .seq #[msg] } hx
  refine wpAny_bind (wpAny_newObj_type (wpAny_bind (wpAny_bind (wpAny_field hx₁ rfl rfl (wpAny_bind (wpAny_setField hx₁ rfl (by show 0 < 6; decide) ?_))))) (by size_fits))
  exact wpAny_letGo (wpAny_pure h)
theorem xinit_call {q x t : Addr} {msg : Value} {g : Obj → Led} {Q : Value → Shared → Prop} (F : Fr h₀ L s.heap m) (N : News h₀ L s.heap news) (X₀ : (hd.heap_1 w.params).In h₀) (hq : (q, mwObj x) ∈ news) (U : UpdF x (exObj t) news g)
    (h : ∀ h' t1, Fr h₀ L h' m → News h₀ L h' (g (exObj t1)) → Q .none { s with heap := h' }) :
    wpAny (model PySem.Challenge.rw_jh0019_01.row.prog w) A (call (.ref q) [msg]) Q E s := by
  obtain ⟨pre, post, rfl, hg, h1, h2⟩ := U.split
  have hx := (N (x, exObj t) (List.mem_append_right _ (.head _))).1
  refine wpAny_call ?_
  refine codeAny_of_tree ?_
  show wpAny _ A.in1 (callAny (.ref q) _) _ _ _
  unfold callAny
  refine wpAny_bind (wpAny_load (N _ hq).1 ?_)
  dsimp only
  rw [if_pos (by decide)]
  have hC : s.heap.get? 306 = some invCls := (X₀.keeps F.keep) _ _ (inv_look w)
  obtain ⟨hh, gg, d, tk, os⟩ := s
  refine wpAny_bind (xi_check hC hx rfl ?_)
  refine wpAny_pure ⟨Code.quiet_builtin _ (by decide +kernel), codeAny_builtin PySem.F.excBase_Exception.initEntry (xinit_body hx ?_)⟩
  have k : ∀ b o, hh.get? b = some o → (hh.push { cls := .type "tuple", data := .seq #[msg] }).get? b = some o := fun b o e => Heap.get?_push_of_some _ e
  obtain ⟨F', N'⟩ := news_upd (f := Obj.mapFields (·.setIfInBounds 0 (.ref hh.objs.size))) (o' := exObj hh.objs.size) (F.keeps k) (fun p hp => ⟨k _ _ (N p hp).1, (N p hp).2⟩) h1 h2 rfl rfl
  exact h _ _ F' (hg _ ▸ N')
end
end Mine

end
-- E4
section
open PySem PySem.Calls PySem.W PyProof.Rows PyProof.V PySem.Spec
open PySem.Builtin PySem.Builtin.ObjectAttr
set_option maxRecDepth 100000
namespace Mine
theorem refuse_ex (self : Value) : refuseLoop self "__setattr__" [.ref 306, .ref 275, .type "Exception", .type "BaseException", .type "object"] = pure () := by
  rw [refuseLoop_ref, refuseLoop_ref]
  kernel_rfl
def invData : ClassData := { name := Str.ofString "InvalidDocument", bases := [Value.ref 275], mro := [.ref 306, .ref 275, .type "Exception", .type "BaseException", .type "object"], ns := 305, qualname := Str.ofString "InvalidDocument" }
theorem inv_cls (w : World) : clsIn (hd.heap_1 w.params) 306 = some invData := by kernel_rfl
section
variable {w : World} {A : Around} {E : Value → Shared → Prop} {s : Shared} {h₀ : Heap} {L : Addr} {m : Map} {news : Led} {R : Result → Shared → Prop}
set_option maxHeartbeats 1000000 in
theorem osa_ex {x t : Addr} {name : PySem.Str} {tk : Tok} {v : Value} {g : Obj → Led} (F : Fr h₀ L s.heap m) (N : News h₀ L s.heap news) (X₀ : (hd.heap_1 w.params).In h₀) (U : UpdF x (exObj t) news g)
    (ha : findIn (hd.heap_1 w.params) (.ref 306) name = some none)
    (h : ∀ h' dx tk', Fr h₀ L h' m → News h₀ L h' ((dx, dictOf [⟨PyData.keyHash w.params name, .str name s.toks, v⟩] 1) :: g (exObjD t dx)) → (∀ p ∈ news, p.1 < dx) → R (.ok (.ret .none)) { s with heap := h', toks := tk' }) :
    codeAny (model PySem.Challenge.rw_jh0019_01.row.prog w) A (.call (.builtin "object.__setattr__") ⟨[.ref x, .str name tk, v], []⟩) R s := by
  obtain ⟨pre, post, rfl, hg, h1, h2⟩ := U.split
  have X := X₀.keeps F.keep
  have hm : (x, exObj t) ∈ pre ++ (x, exObj t) :: post := List.mem_append_right _ (.head _)
  have I := inst_ex N hm
  have SF := PySem.F.store_object
  have sub : Looks (model PySem.Challenge.rw_jh0019_01.row.prog w) s.heap (isInstance (.ref x) (.type "object")) true := I.type.andThen (looks_mroIn X (by kernel_rfl))
  refine codeAny_call_builtin SF.slot.plain SF.entry (@check_slot (model PySem.Challenge.rw_jh0019_01.row.prog w) _ _ s "object.__setattr__" "object" "__setattr__" (.ref x) [.str name tk, v] [] _ SF.kind SF.split sub (SF.args (.ref x) (.str name tk) v) ?_)
  have hmro : Looks (model PySem.Challenge.rw_jh0019_01.row.prog w) s.heap (mroOf (.ref 306)) invData.mro := (looks_clsIn X (inv_cls w)).andThen .now
  rw [osa_eq, refuse_eq]
  refine wpAny_bind (wpAny_bind (I.type.here (wpAny_bind (hmro.here ?_))))
  rw [show invData.mro = [.ref 306, .ref 275, .type "Exception", .type "BaseException", .type "object"] from rfl, refuse_ex]
  refine wpAny_pure (wpAny_bind (I.type.here (wpAny_bind ((looks_findIn X ha).here (wpAny_bind (wpAny_pure ?_))))))
  show wpAny _ _ (storeInOwnDict (.ref x) (.ref 306) (.str name tk) name v false) _ _ _
  have hx := I.at_
  refine wpAny_bind (wpAny_pure (wpAny_bind (wpAny_bind (wpAny_loadPart hx (wpAny_bind ((looks_clsIn X (inv_cls w)).here ?_))))))
  rw [if_neg (by decide)]
  rw [if_neg (show ¬ ((!true || !typeHasDict (exObj t).cls) = true) from Bool.false_ne_true)]
  refine wpAny_bind (wpAny_alloc ?_)
  have F1 : Fr h₀ L (s.heap.push { cls := .type "dict", data := .dict #[] }) m := F.push _
  have N1 := N.push F { cls := .type "dict", data := .dict #[] }
  have hx1 := (N1 _ (.tail _ hm)).1
  refine wpAny_bind (wpAny_update hx1 (wpAny_pure ?_))
  have hlt : ∀ p ∈ pre ++ (x, exObj t) :: post, p.1 < s.heap.objs.size := fun p hp => Heap.lt_size (N p hp).1
  obtain ⟨F2, N2⟩ := news_upd (pre := (s.heap.objs.size, { cls := .type "dict", data := .dict #[] }) :: pre) (post := post) (f := fun o => { o with dict := some s.heap.objs.size }) (o' := exObjD t s.heap.objs.size) F1 N1 (fun p hp => by
    rcases List.mem_cons.mp hp with rfl | hp
    · exact Ne.symm (Nat.ne_of_lt (hlt _ hm))
    · exact h1 p hp) h2 rfl rfl
  dsimp only
  unfold storeInDict newKeyGuard
  refine wpAny_bind (wpAny_pure (wpAny_bind ?_))
  unfold nsSet
  have D := (N2 _ (.head _)).1
  refine wpAny_bind (wpAny_bind (wpAny_askSetting (wpAny_pure (wpAny_bind (wpAny_mkText (wpAny_bind (wpAny_loadPart D ?_)))))))
  dsimp only
  rw [aRefKeyMayBeTheName_at, if_neg (by simp)]
  refine wpAny_updatePart D ?_
  obtain ⟨F3, N3⟩ := news_upd (pre := []) (post := pre ++ (x, exObjD t s.heap.objs.size) :: post) (f := Obj.putName name (PyData.keyHash w.params name) (.str name s.toks) v) (o' := dictOf [⟨PyData.keyHash w.params name, .str name s.toks, v⟩] 1) F2 N2 (fun p hp => nomatch hp) (fun p hp => by
    rcases List.mem_append.mp hp with hp | hp
    · exact Nat.ne_of_lt (hlt p (List.mem_append_left _ hp))
    · rcases List.mem_cons.mp hp with rfl | hp
      · exact Nat.ne_of_lt (hlt (x, exObj t) hm)
      · exact Nat.ne_of_lt (hlt p (List.mem_append_right _ (.tail _ hp)))) (by
        show Obj.putName name _ _ v (dictOf [] 0) = _
        rw [putName_dict]; rfl) rfl
  refine wpAny_bind (wpAny_lookBehind (N3 _ (.head _)).1 (pastItsLine_dict (by rw [List.size_toArray, sizeLine_eq]; simp)) ?_)
  exact wpAny_pure (h _ _ _ F3 (hg _ ▸ N3) hlt)
theorem set_ex {x t : Addr} {name : PySem.Str} {v : Value} {g : Obj → Led} {Q : Unit → Shared → Prop} (F : Fr h₀ L s.heap m) (X₀ : (hd.heap_1 w.params).In h₀) (N : News h₀ L s.heap news) (U : UpdF x (exObj t) news g)
    (ha : findIn (hd.heap_1 w.params) (.ref 306) name = some none)
    (h : ∀ h' dx u tk', Fr h₀ L h' m → News h₀ L h' ((dx, dictOf [⟨PyData.keyHash w.params name, .str name u, v⟩] 1) :: g (exObjD t dx)) → (∀ p ∈ news, p.1 < dx) → Q () { s with heap := h', toks := tk' }) :
    wpAny (model PySem.Challenge.rw_jh0019_01.row.prog w) A (setAttr (.ref x) name v) Q E s := by
  have hm : (x, exObj t) ∈ news := by
    obtain ⟨pre, post, rfl, _⟩ := U.split
    exact List.mem_append_right _ (.head _)
  exact set_plain (X₀.keeps F.keep) (inst_ex N hm) (by kernel_rfl) (osa_ex (s := { s with toks := s.toks + 1 }) F N X₀ U ha fun h' dx tk' F' N' l => h h' dx _ tk' F' N' l)
end
end Mine

end
-- E5
section
open PySem PySem.Calls PySem.W PyProof.Rows PyProof.V PySem.Spec
namespace Mine
local macro_rules | `(tactic| k_inst) => `(tactic| first | exact inst_ex (by k_asm) (by k_mem) | exact inst_exD (by k_asm) (by k_mem) (by k_mem))
local macro_rules | `(tactic| walk_at "getMethod ref") => `(tactic| (k_here; k_dflt (refine' inv_method ?F ?X ?N ?a ?b ?_; (case F | X | N => k_asm); (case a | b => k_mem); k_whole); intro q' h' tk' F' N' l1'; (try k_lt l1')))
local macro_rules | `(tactic| walk_at "callWith ref") => `(tactic| (k_here; k_dflt (refine' callWith_W ?N ?a ?_; (case N => k_asm); (case a => k_mem); k_whole); (try dsimp only [List.nil_append, List.cons_append])))
local macro_rules | `(tactic| walk_at "MwAt ref") => `(tactic| exact ⟨_, rfl, News.get (by k_asm) (by k_mem)⟩)
local macro_rules | `(tactic| walk_at "call ref") => `(tactic| (k_here; (with_reducible show wpAny _ _ (call (Value.ref _) [_] _) _ _ _); k_dflt (refine' xinit_call ?F ?N ?X ?a ?U ?_; (case F | N | X => k_asm); (case a => k_mem); (case U => k_updF); k_whole); intro h' t1' F' N'; (try dsimp only at N')))
local macro_rules | `(tactic| walk_at "setAttr ref") => `(tactic| (k_here; k_dflt (refine' set_ex ?F ?X ?N ?U ?a ?_; (case F | X | N => k_asm); (case U => k_updF); (case a => k_is); k_whole); intro h' dx' u' tk' F' N' l1'; (try dsimp only at N'); (try k_lt l1')))
set_option maxRecDepth 100000 in
set_option maxHeartbeats 8000000 in
theorem new_inv (w : World) (news : Led) (v : Value) (t : Tok) :
    CallL w 306 [.str (Str.ofString "a text") t, v] [] news (fun K => ∀ x tt dx u, (∀ p ∈ news, p.1 < x) → @LT.lt Nat _ x dx → K ((dx, dictOf [⟨PyData.keyHash w.params (Str.ofString "_document"), .str (Str.ofString "_document") u, v⟩] 1) :: (x, exObjD tt dx) :: news) (.ref x)) := Mine.into (by exact Mine.thru : Mine.Thru _ (by
    w_top off
    unfold CallL
    k_fill
    intro mean mg mb dp un gd cn cs a ccd cl A₀ h₀ L m s Q E B F X N T hk hd hu hret
    obtain ⟨hh, gg, dd, tk, os⟩ := s
    refine wpAny_call (exc_make (X.keeps F.keep) (by size_fits) ?_)
    have F1 : Fr h₀ L (hh.push { cls := .type "tuple", data := .seq [Value.str (Str.ofString "a text") t, v].toArray }) m := F.push _
    have N1 := N.push F { cls := .type "tuple", data := .seq [Value.str (Str.ofString "a text") t, v].toArray }
    have l1 : ∀ p ∈ news, p.1 < hh.objs.size := fun p hp => Heap.lt_size (N p hp).1
    have F2 := F1.push (exObj hh.objs.size)
    have N2 := N1.push F1 (exObj hh.objs.size)
    rw [Heap.size_push] at N2
    clear F1 N1
    generalize hh.objs.size = t0 at F2 N2 l1 ⊢
    generalize hX : t0 + 1 = x0 at F2 N2 ⊢
    have l2 : @LT.lt Nat _ t0 x0 := hX ▸ Nat.lt_succ_self t0
    have l3 : ∀ p ∈ news, p.1 < x0 := fun p hp => Nat.lt_trans (l1 p hp) l2
    replace l3 := allLt_of l3
    clear F N
    replace l1 := allLt_of l1
    (refine' ks_code_super ?k1 ?k2 ?k3 ?k4 ?k5 ?kA ?kF ?kK ?k6 ?k7 ?k8 ?k9 ?kB ?_ ?c1 ?c2 ?c3 ?c4; (case kA | kF => exact rfl); (case kK => assumption); (case k1 | k2 | k3 | k4 | k5 => k_asm); (case k6 | k7 => k_is); (case k8 => ktr_room); (case k9 => first | exact binds_K (by k_in) rfl (by k_is) rfl rfl rfl | exact BindsTo.of_eq rfl); (case kB => exact locs rfl); (case c1 => decide); (case c2 | c3 | c4 => exact rfl); intro g' L' h' FG' F' N' B' X' T' l1; (try k_lt l1); (try dsimp only); (try k_lift B'); (try k_fold))
    k_steps
    all_goals (refine' hret _ _ _ _ ?a ?b _ _ ?F ?N; (case F => k_asm); (case N => exact cb_drop (by k_asm) (by kcj_all)); (case a => exact ktn_ltOf (by assumption)); (case b => first | omega | exact ltN (by omega)))))
set_option maxRecDepth 100000 in
set_option maxHeartbeats 8000000 in
theorem new_inv0 (w : World) (news : Led) (t : Tok) :
    CallL w 306 [.str (Str.ofString "a text") t] [] news (fun K => ∀ x tt dx u, (∀ p ∈ news, p.1 < x) → @LT.lt Nat _ x dx → K ((dx, dictOf [⟨PyData.keyHash w.params (Str.ofString "_document"), .str (Str.ofString "_document") u, .none⟩] 1) :: (x, exObjD tt dx) :: news) (.ref x)) := Mine.into (by exact Mine.thru : Mine.Thru _ (by
    w_top off
    unfold CallL
    k_fill
    intro mean mg mb dp un gd cn cs a ccd cl A₀ h₀ L m s Q E B F X N T hk hd hu hret
    obtain ⟨hh, gg, dd, tk, os⟩ := s
    refine wpAny_call (exc_make (X.keeps F.keep) (by size_fits) ?_)
    have F1 : Fr h₀ L (hh.push { cls := .type "tuple", data := .seq [Value.str (Str.ofString "a text") t].toArray }) m := F.push _
    have N1 := N.push F { cls := .type "tuple", data := .seq [Value.str (Str.ofString "a text") t].toArray }
    have l1 : ∀ p ∈ news, p.1 < hh.objs.size := fun p hp => Heap.lt_size (N p hp).1
    have F2 := F1.push (exObj hh.objs.size)
    have N2 := N1.push F1 (exObj hh.objs.size)
    rw [Heap.size_push] at N2
    clear F1 N1
    generalize hh.objs.size = t0 at F2 N2 l1 ⊢
    generalize hX : t0 + 1 = x0 at F2 N2 ⊢
    have l2 : @LT.lt Nat _ t0 x0 := hX ▸ Nat.lt_succ_self t0
    have l3 : ∀ p ∈ news, p.1 < x0 := fun p hp => Nat.lt_trans (l1 p hp) l2
    replace l3 := allLt_of l3
    clear F N
    replace l1 := allLt_of l1
    (refine' ks_code_super ?k1 ?k2 ?k3 ?k4 ?k5 ?kA ?kF ?kK ?k6 ?k7 ?k8 ?k9 ?kB ?_ ?c1 ?c2 ?c3 ?c4; (case kA | kF => exact rfl); (case kK => assumption); (case k1 | k2 | k3 | k4 | k5 => k_asm); (case k6 | k7 => k_is); (case k8 => ktr_room); (case k9 => first | exact binds_K (by k_in) rfl (by k_is) rfl rfl rfl | exact BindsTo.of_eq rfl); (case kB => exact locs rfl); (case c1 => decide); (case c2 | c3 | c4 => exact rfl); intro g' L' h' FG' F' N' B' X' T' l1; (try k_lt l1); (try dsimp only); (try k_lift B'); (try k_fold))
    k_steps
    all_goals (refine' hret _ _ _ _ ?a ?b _ _ ?F ?N; (case F => k_asm); (case N => exact cb_drop (by k_asm) (by kcj_all)); (case a => exact ktn_ltOf (by assumption)); (case b => first | omega | exact ltN (by omega)))))
end Mine

end
-- E6
section
open PySem PySem.Calls PySem.W PyProof.Rows PyProof.V PySem.Spec
open PySem.Builtin PySem.Builtin.ObjectAttr
set_option maxRecDepth 100000
set_option maxHeartbeats 1000000
namespace Mine
section
variable {w : World} {A : Around} {E : Value → Shared → Prop} {s : Shared}
theorem ex_open {x : Addr} {ox : Obj} {od : Option Obj} {name : PySem.Str} {expr : Bool} {Q : Value → Shared → Prop} (X : (hd.heap_1 w.params).In s.heap) (I : InstAt s.heap x ox 306 od)
    (h : wpAny (model PySem.Challenge.rw_jh0019_01.row.prog w) A.in1 (Builtin.«object.__getattribute__» ⟨[.ref x, .str name s.toks], []⟩) (fun fin s' => ∃ v, fin = .done (.ret v) ∧ wpAny (model PySem.Challenge.rw_jh0019_01.row.prog w) A (handedOut v) Q E s') (fun _ _ => False) { s with toks := s.toks + 1 }) :
    wpAny (model PySem.Challenge.rw_jh0019_01.row.prog w) A (getAttr (.ref x) name expr) Q E s := by
  have FB := PySem.F.attrBase_Exception
  obtain ⟨hh, g, d, t, os⟩ := s
  have L0 := I.type (M := model PySem.Challenge.rw_jh0019_01.row.prog w)
  have L1 : Looks (model PySem.Challenge.rw_jh0019_01.row.prog w) hh (typeLookup (.ref 306) "__getattribute__") (some (.builtin "BaseException.__getattribute__")) := looks_findIn X (by kernel_rfl)
  have L2 : Looks (model PySem.Challenge.rw_jh0019_01.row.prog w) hh (typeLookup (.ref 306) "__getattr__") none := looks_findIn X (by kernel_rfl)
  have hx2 : (Value.builtin "BaseException.__getattribute__" == Value.builtin "object.__getattribute__") = false := by decide +kernel
  have hx0 : (expr && onTheHeap (Value.builtin "BaseException.__getattribute__")) = false := by cases expr <;> rfl
  have sub : Looks (model PySem.Challenge.rw_jh0019_01.row.prog w) hh (isInstance (.ref x) (.type "BaseException")) true := L0.andThen (looks_mroIn X (by kernel_rfl))
  unfold getAttr getAttrBy
  refine wpAny_bind (wpAny_mkText (wpAny_holding (wpAny_bind (L0.at (wpAny_bind (L1.at ?_))))))
  dsimp only
  rw [hx2, Bool.and_false, if_neg Bool.false_ne_true]
  unfold getAttrByItsOwn hookBefore callGetattribute boundAndCalled
  rw [show onTheHeap (Value.ref 306) = true from rfl, if_pos rfl, hx0, if_neg Bool.false_ne_true]
  refine wpAny_bind (L2.at (wpAny_bind (wpAny_attempt (wpAny_holding ?_))))
  refine wpAny_bind (wpAny_of_eq (FB.ga.bind _) ?_)
  refine wpAny_mono (Q := fun v s' => wpAny (model PySem.Challenge.rw_jh0019_01.row.prog w) A (handedOut v) Q E s') (E := fun _ _ => False) (wpAny_call ?_) (fun v s' z => z) fun _ _ z => z.elim
  show codeAny _ _ (.call (.builtin "BaseException.__getattribute__") ⟨[.ref x, .str name t], []⟩) _ _
  refine codeAny_call_builtin FB.ga.plain PySem.F.entry_bexc_ga ?_
  have hk : builtinKind "BaseException.__getattribute__" = some .slot := by decide +kernel
  have hsp : splitId "BaseException.__getattribute__" = some ("BaseException", "__getattribute__") := by decide +kernel
  refine @check_slot (model PySem.Challenge.rw_jh0019_01.row.prog w) _ _ ⟨hh, g, d, t + 1, os⟩ "BaseException.__getattribute__" "BaseException" "__getattribute__" (.ref x) [.str name t] [] _ hk hsp sub (PySem.F.args_bexc_ga (.ref x) (.str name t)) ?_
  refine wpAny_mono h (fun fin s' z => ?_) fun _ _ z => z
  obtain ⟨v, rfl, z⟩ := z
  exact z
theorem ex_value {x : Addr} {ox : Obj} {od : Option Obj} {name : PySem.Str} {v : Value} {expr : Bool} {Q : Value → Shared → Prop} (X : (hd.heap_1 w.params).In s.heap) (I : InstAt s.heap x ox 306 od)
    (hf : findObj (hd.heap_1 w.params) 306 od name = some (.value v)) (hh : handedIn v = true) (h : ∀ tk', Q v { s with toks := tk' }) :
    wpAny (model PySem.Challenge.rw_jh0019_01.row.prog w) A (getAttr (.ref x) name expr) Q E s := by
  refine ex_open X I ?_
  obtain ⟨hp, g, d, t, os⟩ := s
  have L0 := I.type (M := model PySem.Challenge.rw_jh0019_01.row.prog w)
  have L1 := looks_find (M := model PySem.Challenge.rw_jh0019_01.row.prog w) X I hf
  refine wpAny_bind (wpAny_pure (wpAny_bind (wpAny_pure (wpAny_bind (L0.at (wpAny_bind (L1.at ?_)))))))
  refine wpAny_pure ⟨v, rfl, ?_⟩
  rw [handedOut_of hh]
  exact wpAny_pure (h _)
theorem ex_prop {x p fget : Addr} {ox : Obj} {od : Option Obj} {name : PySem.Str} {rest : List Value} {expr : Bool} {Q : Value → Shared → Prop} (X : (hd.heap_1 w.params).In s.heap) (I : InstAt s.heap x ox 306 od)
    (hf : findObj (hd.heap_1 w.params) 306 od name = some (.bind (.builtin "property.__get__") (.ref p))) (hp : recIn (hd.heap_1 w.params) p "property" = some (.ref fget :: rest))
    (h : codeAny (model PySem.Challenge.rw_jh0019_01.row.prog w) A.in1 (.call (.ref fget) ⟨[.ref x], []⟩) (fun r s' => match r with | .ok (.ret v) => wpAny (model PySem.Challenge.rw_jh0019_01.row.prog w) A (handedOut v) Q E s' | _ => False) { s with toks := s.toks + 1 }) :
    wpAny (model PySem.Challenge.rw_jh0019_01.row.prog w) A (getAttr (.ref x) name expr) Q E s := by
  refine ex_open X I ?_
  obtain ⟨hh, g, d, t, os⟩ := s
  have L0 := I.type (M := model PySem.Challenge.rw_jh0019_01.row.prog w)
  have L1 := looks_find (M := model PySem.Challenge.rw_jh0019_01.row.prog w) X I hf
  refine wpAny_bind (wpAny_pure (wpAny_bind (wpAny_pure (wpAny_bind (L0.at (wpAny_bind (L1.at ?_)))))))
  show wpAny _ _ (holding [.ref p] (call (.builtin "property.__get__") [.ref p, .ref x, .ref 306]) >>= ret) _ _ _
  refine wpAny_bind (wpAny_holding (wpAny_call (prop_get (s := ⟨hh, g, d, t + 1, os⟩) X hp (codeAny_mono h fun r s' z => ?_))))
  rcases r with e | (v | _ | _ | _)
  all_goals (dsimp only at z ⊢)
  all_goals first | exact False.elim z | exact wpAny_pure ⟨_, rfl, z⟩
end
end Mine

end
-- E7
section
open PySem PySem.Calls PySem.W PyProof.Rows PyProof.V PySem.Spec
set_option maxRecDepth 100000
namespace Mine
section
variable {w : World} {A : Around} {E : Value → Shared → Prop} {s : Shared} {h₀ : Heap} {L : Addr} {m : Map} {news : Led}
theorem doc_get {x tt dx : Addr} {u : Tok} {v : Value} {expr : Bool} {Q : Value → Shared → Prop} (F : Fr h₀ L s.heap m) (X₀ : (hd.heap_1 w.params).In h₀) (N : News h₀ L s.heap news) (h1 : (x, exObjD tt dx) ∈ news) (h2 : (dx, dictOf [⟨PyData.keyHash w.params (Str.ofString "_document"), .str (Str.ofString "_document") u, v⟩] 1) ∈ news) (hv : handedIn v = true)
    (h : ∀ tk', Q v { s with toks := tk' }) : wpAny (model PySem.Challenge.rw_jh0019_01.row.prog w) A (getAttr (.ref x) (Str.ofString "_document") expr) Q E s :=
  ex_value (X₀.keeps F.keep) (inst_exD N h1 h2) (findObj_own (attr := none) (by kernel_rfl) (by kernel_rfl) rfl (by rw [lookIn_dict]; rfl)) hv h
theorem doc_prop {x tt dx : Addr} {od : Obj} {expr : Bool} {Q : Value → Shared → Prop} (F : Fr h₀ L s.heap m) (X₀ : (hd.heap_1 w.params).In h₀) (N : News h₀ L s.heap news) (h1 : (x, exObjD tt dx) ∈ news) (h2 : (dx, od) ∈ news)
    (h : codeAny (model PySem.Challenge.rw_jh0019_01.row.prog w) A.in1 (.call (.ref 302) ⟨[.ref x], []⟩) (fun r s' => match r with | .ok (.ret v) => wpAny (model PySem.Challenge.rw_jh0019_01.row.prog w) A (handedOut v) Q E s' | .ok _ => False | .error _ => False) { s with toks := s.toks + 1 }) :
    wpAny (model PySem.Challenge.rw_jh0019_01.row.prog w) A (getAttr (.ref x) (Str.ofString "document") expr) Q E s :=
  by
  have hp0 : ((recIn (hd.heap_1 w.params) 303 "property").bind fun l => l[0]?) = some (.ref 302) := by kernel_rfl
  obtain ⟨rest, hp⟩ : ∃ rest, recIn (hd.heap_1 w.params) 303 "property" = some (.ref 302 :: rest) := by
    generalize recIn (hd.heap_1 w.params) 303 "property" = q at hp0
    rcases q with _ | (_ | ⟨a, rest⟩)
    · cases hp0
    · cases hp0
    · cases hp0; exact ⟨rest, rfl⟩
  exact ex_prop (p := 303) (X₀.keeps F.keep) (inst_exD N h1 h2) (findObj_data (by kernel_rfl) (by kernel_rfl) (by kernel_rfl) (by kernel_rfl)) hp (codeAny_mono h fun r s' z => by
    rcases r with e | (v | _ | _ | _) <;> exact z)
end
end Mine

end
-- JD2
section
open PySem PySem.Calls PySem.W PyProof.Rows PyProof.V PySem.Spec PySem.SeqAt
namespace Mine
set_option maxRecDepth 100000
section
variable {w : World} {c : Cx w} {news : Led} {fs : Option Scope}
theorem J.joined (ok : c.Ok fs) {d1 d2 : Addr} {o1 o2 : Obj} {kv1 kv2 : List (PySem.Str × Value)} {c1 c2 : List (PySem.Str × Int)} {K : Led → Value → Prop} (m1 : (d1, o1) ∈ news) (m2 : (d2, o2) ∈ news) (lo1 : (d1 == sysModules) = false) (lo2 : (d2 == sysModules) = false) (hd1 : o1.IsDictOf (strK w) kv1) (hd2 : o2.IsDictOf (strK w) kv2) (hf1 : FlatPairs PyData.str kv1 (kdpD c1)) (hf2 : FlatPairs PyData.str kv2 (kdpD c2)) (hl1 : c1.length ≤ 8) (hl2 : c2.length ≤ 8)
    (h : ∀ tl d o kvs, (∀ p ∈ news, p ∈ tl) → (d, o) ∈ tl → (∀ p ∈ news, p.1 < d) → (d == sysModules) = false → o.IsDictOf (strK w) kvs → FlatPairs PyData.str kvs (kdpD (putAll c1 c2)) → K tl (.ref d)) : J c (call (.ref 723) [.ref d1, .ref d2] []) news K := by
  intro s Q E F N q
  refine use_C (Mine.joined w news d1 d2 o1 o2 kv1 kv2 c1 c2 lo1 lo2 hd1 hd2 hf1 hf2 hl1 hl2) ok.B F ok.X (news_pick2 N m1 m2) ok.T ok.hk ok.hd ok.hu ?_
  intro d o kvs l1 lo hd hf h' tk' F' N'
  exact q _ _ h' tk' (h ((d, o) :: news) d o kvs (fun _ hp => .tail _ hp) (.head _) (fun p hp => l1 p (.tail _ (.tail _ hp))) lo hd hf) F' (fun p hp => (List.mem_cons.mp hp).elim (fun e => e ▸ N' _ (.head _)) fun hp => N' p (.tail _ (.tail _ (.tail _ hp))))
theorem J.new_code_sd (ok : c.Ok fs) {d0 : Addr} {o0 : Obj} {kv0 : List (PySem.Str × Value)} {c0 : List (PySem.Str × Int)} {z : PySem.Str} {t : Tok} {K : Led → Value → Prop} (m1 : (d0, o0) ∈ news) (lo1 : (d0 == sysModules) = false) (hd1 : o0.IsDictOf (strK w) kv0) (hf1 : FlatPairs PyData.str kv0 (kdpD c0))
    (h : ∀ tl x d u1 u2 u4, (∀ p ∈ news, p ∈ tl) → (x, instObj 61 d) ∈ tl → (d, dictOf [⟨PyData.keyHash w.params (Str.ofString "text"), .str (Str.ofString "text") u2, .str z u1⟩, ⟨PyData.keyHash w.params (Str.ofString "_scope"), .str (Str.ofString "_scope") u4, .ref d0⟩] 2) ∈ tl → (∀ p ∈ news, p.1 < d) → @LT.lt Nat _ d x → K tl (.ref x)) : J c (call (.ref 61) [.str z t, .ref d0] []) news K := by
  intro s Q E F N q
  refine use_C (Mine.new_code_sd w news d0 o0 kv0 c0 lo1 hd1 hf1 t z) ok.B F ok.X (news_pick1 N m1) ok.T ok.hk ok.hd ok.hu ?_
  intro x d u1 u2 u4 l1 l2 h' tk' F' N'
  exact q _ _ h' tk' (h _ x d u1 u2 u4 (fun _ hp => .tail _ (.tail _ (.tail _ hp))) (.head _) (.tail _ (.head _)) (fun p hp => l1 p (.tail _ hp)) l2) F' N'
theorem J.scope_r (ok : c.Ok fs) {x d kk : Addr} {z : PySem.Str} {t1 t2 t4 : Tok} {K : Led → Value → Prop} (mx : (x, instObj 61 d) ∈ news) (md : (d, dictOf [⟨PyData.keyHash w.params (Str.ofString "text"), .str (Str.ofString "text") t2, .str z t1⟩, ⟨PyData.keyHash w.params (Str.ofString "_scope"), .str (Str.ofString "_scope") t4, .ref kk⟩] 2) ∈ news) (h : K news (.ref kk)) : J c (getAttr (.ref x) (Str.ofString "scope") true) news K := J.codeScope (r := 7) (u := 60) ok mx md rfl rfl h
theorem J.scope_n (ok : c.Ok fs) {x d : Addr} {z : PySem.Str} {t1 t2 t4 : Tok} {K : Led → Value → Prop} (mx : (x, instObj 61 d) ∈ news) (md : (d, dictOf [⟨PyData.keyHash w.params (Str.ofString "text"), .str (Str.ofString "text") t2, .str z t1⟩, ⟨PyData.keyHash w.params (Str.ofString "_scope"), .str (Str.ofString "_scope") t4, .none⟩] 2) ∈ news) (h : K news .none) : J c (getAttr (.ref x) (Str.ofString "scope") true) news K := J.codeScope (r := 7) (u := 60) ok mx md rfl rfl h
theorem J.new_regex_s (ok : c.OkL) {t t1 : Tok} {z l : PySem.Str} {K : Led → Value → Prop} (h : ∀ tl x d u1 u2 u3 u4, (∀ p ∈ news, p ∈ tl) → (x, instObj 626 d) ∈ tl → (d, dictOf [⟨PyData.keyHash w.params (Str.ofString "pattern"), .str (Str.ofString "pattern") u2, .str z u1⟩, ⟨PyData.keyHash w.params (Str.ofString "flags"), .str (Str.ofString "flags") u4, .int (flagsTo l 6) u3⟩] 2) ∈ tl → (∀ p ∈ news, p.1 < d) → @LT.lt Nat _ d x → K tl (.ref x)) : J c (call (.ref 626) [.str z t, .str l t1] []) news K :=
  J.useL ok (Mine.new_regex_s w news t t1 z l) fun _ kk x d u1 u2 u3 u4 l1 l2 => kk _ _ (h _ x d u1 u2 u3 u4 (fun _ hp => .tail _ (.tail _ hp)) (.head _) (.tail _ (.head _)) l1 l2)
theorem J.made_code_list (ok : c.OkL) {l : Addr} {x : PySem.Str} {its : Array Value} {n : Nat} {t t1 : Tok} {K : Led → Value → Prop} (m : (l, W.listOf its n) ∈ news) (h : ∀ t, K news (.str (Str.ofString "kind") t)) : J c (call (.ref 716) [.str (Str.ofString "code") t, .str x t1, .ref l] []) news K := by
  intro s Q E F N k
  obtain ⟨ok, ho, hb, hd, hu⟩ := ok
  have B := ok.B
  rw [ho, hb] at B
  unfold Cx.A
  rw [ho]
  exact use_L (Mine.made_code_list w news x t t1 l its n) B F ok.X (news_pick1 N m) ok.T ok.hk hd hu fun t h' tk' F' N' => k _ _ h' tk' (h t) F' N'
theorem J.new_dbref_d (ok : c.OkL) {d0 : Addr} {o0 : Obj} {kv0 : List (PySem.Str × Value)} {c0 : List (PySem.Str × Int)} {z : PySem.Str} {k : Int} {ob : Option PySem.Str} {t t1 t2 : Tok}  {K : Led → Value → Prop} (m0 : (d0, o0) ∈ news) (lo0 : (d0 == sysModules) = false) (hd0 : o0.IsDictOf (strK w) kv0) (hf0 : FlatPairs PyData.str kv0 (kdpD c0)) (hl0 : c0.length ≤ 16) (hn0 : 1 ≤ c0.length)
    (h : ∀ tl x d kd okd kvd u1 u2 u3 u4 u5 u6 u7, (∀ p ∈ news, p ∈ tl) → (x, instObj 261 d) ∈ tl → (d, dictOf [⟨PyData.keyHash w.params (Str.ofString "_collection"), .str (Str.ofString "_collection") u2, .str z u1⟩, ⟨PyData.keyHash w.params (Str.ofString "_id"), .str (Str.ofString "_id") u4, .int k u3⟩, ⟨PyData.keyHash w.params (Str.ofString "_database"), .str (Str.ofString "_database") u6, baseV ob u5⟩, ⟨PyData.keyHash w.params (Str.ofString "_kwargs"), .str (Str.ofString "_kwargs") u7, .ref kd⟩] 4) ∈ tl → (kd, okd) ∈ tl → (∀ p ∈ news, p.1 < d) → @LT.lt Nat _ d x → @LT.lt Nat _ x kd → (kd == sysModules) = false → okd.IsDictOf (strK w) kvd → FlatPairs PyData.str kvd (kdpD (putAll [] c0)) → K tl (.ref x)) : J c (call (.ref 261) [.str z t, .int k t1, baseV ob t2, .ref d0] []) news K := by
  intro s Q E F N q
  obtain ⟨ok, ho, hb, hd, hu⟩ := ok
  have B := ok.B
  rw [ho, hb] at B
  unfold Cx.A
  rw [ho]
  refine use_L (Mine.new_dbref_d w news d0 o0 kv0 c0 lo0 hd0 hf0 hl0 hn0 z k ob t t1 t2) B F ok.X (news_pick1 N m0) ok.T ok.hk hd hu ?_
  intro x d kd okd kvd u1 u2 u3 u4 u5 u6 u7 l1 l2 l3 lo hdd hf h' tk' F' N'
  exact q _ _ h' tk' (h ((kd, okd) :: (x, instObj 261 d) :: (d, _) :: news) x d kd okd kvd u1 u2 u3 u4 u5 u6 u7 (fun _ hp => .tail _ (.tail _ (.tail _ hp))) (.tail _ (.head _)) (.tail _ (.tail _ (.head _))) (.head _) (fun p hp => l1 p (.tail _ hp)) l2 l3 lo hdd hf) F' (news_unpick13 N')
theorem J.new_dbref_s (ok : c.OkL) {d0 : Addr} {o0 : Obj} {kv0 : List (PySem.Str × Value)} {c0 : List (PySem.Str × Int)} {z : PySem.Str} {k : Int} {y : PySem.Str} {t t1 t2 : Tok}  {K : Led → Value → Prop} (m0 : (d0, o0) ∈ news) (lo0 : (d0 == sysModules) = false) (hd0 : o0.IsDictOf (strK w) kv0) (hf0 : FlatPairs PyData.str kv0 (kdpD c0)) (hl0 : c0.length ≤ 16) (hn0 : 1 ≤ c0.length)
    (h : ∀ tl x d kd okd kvd u1 u2 u3 u4 u5 u6 u7, (∀ p ∈ news, p ∈ tl) → (x, instObj 261 d) ∈ tl → (d, dictOf [⟨PyData.keyHash w.params (Str.ofString "_collection"), .str (Str.ofString "_collection") u2, .str z u1⟩, ⟨PyData.keyHash w.params (Str.ofString "_id"), .str (Str.ofString "_id") u4, .int k u3⟩, ⟨PyData.keyHash w.params (Str.ofString "_database"), .str (Str.ofString "_database") u6, .str y u5⟩, ⟨PyData.keyHash w.params (Str.ofString "_kwargs"), .str (Str.ofString "_kwargs") u7, .ref kd⟩] 4) ∈ tl → (kd, okd) ∈ tl → (∀ p ∈ news, p.1 < d) → @LT.lt Nat _ d x → @LT.lt Nat _ x kd → (kd == sysModules) = false → okd.IsDictOf (strK w) kvd → FlatPairs PyData.str kvd (kdpD (putAll [] c0)) → K tl (.ref x)) : J c (call (.ref 261) [.str z t, .int k t1, .str y t2, .ref d0] []) news K := by
  intro s Q E F N q
  obtain ⟨ok, ho, hb, hd, hu⟩ := ok
  have B := ok.B
  rw [ho, hb] at B
  unfold Cx.A
  rw [ho]
  refine use_L (Mine.new_dbref_s w news d0 o0 kv0 c0 lo0 hd0 hf0 hl0 hn0 z k y t t1 t2) B F ok.X (news_pick1 N m0) ok.T ok.hk hd hu ?_
  intro x d kd okd kvd u1 u2 u3 u4 u5 u6 u7 l1 l2 l3 lo hdd hf h' tk' F' N'
  exact q _ _ h' tk' (h ((kd, okd) :: (x, instObj 261 d) :: (d, _) :: news) x d kd okd kvd u1 u2 u3 u4 u5 u6 u7 (fun _ hp => .tail _ (.tail _ (.tail _ hp))) (.tail _ (.head _)) (.tail _ (.tail _ (.head _))) (.head _) (fun p hp => l1 p (.tail _ hp)) l2 l3 lo hdd hf) F' (news_unpick13 N')
theorem J.new_dbref_k (ok : c.OkL) {d0 : Addr} {o0 : Obj} {kv0 : List (PySem.Str × Value)} {c0 : List (PySem.Str × Int)} {z : PySem.Str} {k : Int} {ob : Option PySem.Str} {t t1 t2 : Tok} {tz : Tok} {K : Led → Value → Prop} (m0 : (d0, o0) ∈ news) (lo0 : (d0 == sysModules) = false) (hd0 : o0.IsDictOf (strK w) kv0) (hf0 : FlatPairs PyData.str kv0 (kdpD c0)) (hl0 : c0.length ≤ 16) (hn0 : 1 ≤ c0.length)
    (h : ∀ tl x d kd okd kvd u1 u2 u3 u4 u5 u6 u7, (∀ p ∈ news, p ∈ tl) → (x, instObj 261 d) ∈ tl → (d, dictOf [⟨PyData.keyHash w.params (Str.ofString "_collection"), .str (Str.ofString "_collection") u2, .str z u1⟩, ⟨PyData.keyHash w.params (Str.ofString "_id"), .str (Str.ofString "_id") u4, .int k u3⟩, ⟨PyData.keyHash w.params (Str.ofString "_database"), .str (Str.ofString "_database") u6, baseV ob u5⟩, ⟨PyData.keyHash w.params (Str.ofString "_kwargs"), .str (Str.ofString "_kwargs") u7, .ref kd⟩] 4) ∈ tl → (kd, okd) ∈ tl → (∀ p ∈ news, p.1 < d) → @LT.lt Nat _ d x → @LT.lt Nat _ x kd → (kd == sysModules) = false → okd.IsDictOf (strK w) kvd → FlatPairs PyData.str kvd (kdpD (putAll [(Str.ofString "b", 2)] c0)) → K tl (.ref x)) : J c (call (.ref 261) [.str z t, .int k t1, baseV ob t2, .ref d0] [(Str.ofString "b", .int 2 tz)]) news K := by
  intro s Q E F N q
  obtain ⟨ok, ho, hb, hd, hu⟩ := ok
  have B := ok.B
  rw [ho, hb] at B
  unfold Cx.A
  rw [ho]
  refine use_L (Mine.new_dbref_k w news d0 o0 kv0 c0 lo0 hd0 hf0 hl0 hn0 z k ob t t1 t2 tz) B F ok.X (news_pick1 N m0) ok.T ok.hk hd hu ?_
  intro x d kd okd kvd u1 u2 u3 u4 u5 u6 u7 l1 l2 l3 lo hdd hf h' tk' F' N'
  exact q _ _ h' tk' (h ((kd, okd) :: (x, instObj 261 d) :: (d, _) :: news) x d kd okd kvd u1 u2 u3 u4 u5 u6 u7 (fun _ hp => .tail _ (.tail _ (.tail _ hp))) (.tail _ (.head _)) (.tail _ (.tail _ (.head _))) (.head _) (fun p hp => l1 p (.tail _ hp)) l2 l3 lo hdd hf) F' (news_unpick13 N')
theorem J.new_dbref_z (ok : c.OkL) {z : PySem.Str} {k : Int} {ob : Option PySem.Str} {t t1 t2 tz : Tok} {K : Led → Value → Prop}
    (h : ∀ tl x d kd okd kvd u1 u2 u3 u4 u5 u6 u7, (∀ p ∈ news, p ∈ tl) → (x, instObj 261 d) ∈ tl → (d, dictOf [⟨PyData.keyHash w.params (Str.ofString "_collection"), .str (Str.ofString "_collection") u2, .str z u1⟩, ⟨PyData.keyHash w.params (Str.ofString "_id"), .str (Str.ofString "_id") u4, .int k u3⟩, ⟨PyData.keyHash w.params (Str.ofString "_database"), .str (Str.ofString "_database") u6, baseV ob u5⟩, ⟨PyData.keyHash w.params (Str.ofString "_kwargs"), .str (Str.ofString "_kwargs") u7, .ref kd⟩] 4) ∈ tl → (kd, okd) ∈ tl → (∀ p ∈ news, p.1 < d) → @LT.lt Nat _ d x → @LT.lt Nat _ x kd → (kd == sysModules) = false → okd.IsDictOf (strK w) kvd → FlatPairs PyData.str kvd (kdpD [(Str.ofString "z", 1)]) → K tl (.ref x)) : J c (call (.ref 261) [.str z t, .int k t1, baseV ob t2, .none] [(Str.ofString "z", .int 1 tz)]) news K :=
  J.useL ok (Mine.new_dbref_z w news z k ob t t1 t2 tz) fun _ kk x d kd okd kvd u1 u2 u3 u4 u5 u6 u7 l1 l2 l3 lo hdd hf => kk _ _ (h _ x d kd okd kvd u1 u2 u3 u4 u5 u6 u7 (fun _ hp => .tail _ (.tail _ (.tail _ hp))) (.tail _ (.head _)) (.tail _ (.tail _ (.head _))) (.head _) l1 l2 l3 lo hdd hf)
theorem J.new_code_kw (ok : c.Ok fs) {z : PySem.Str} {k : Int} {t t1 : Tok} {K : Led → Value → Prop}
    (h : ∀ tl x d kd okd kvd u1 u2 u4, (∀ p ∈ news, p ∈ tl) → (x, instObj 61 d) ∈ tl → (d, dictOf [⟨PyData.keyHash w.params (Str.ofString "text"), .str (Str.ofString "text") u2, .str z u1⟩, ⟨PyData.keyHash w.params (Str.ofString "_scope"), .str (Str.ofString "_scope") u4, .ref kd⟩] 2) ∈ tl → (kd, okd) ∈ tl → (∀ p ∈ news, p.1 < d) → @LT.lt Nat _ d x → @LT.lt Nat _ x kd → (kd == sysModules) = false → okd.IsDictOf (strK w) kvd → FlatPairs PyData.str kvd (kdpD [(Str.ofString "a", k)]) → K tl (.ref x)) : J c (call (.ref 61) [.str z t] [(Str.ofString "a", .int k t1)]) news K :=
  J.useC ok (Mine.new_code_kw w news z k t t1) fun _ kk x d kd okd kvd u1 u2 u4 l1 l2 l3 lo hd hf => kk _ _ (h _ x d kd okd kvd u1 u2 u4 (fun _ hp => .tail _ (.tail _ (.tail _ hp))) (.head _) (.tail _ (.head _)) (.tail _ (.tail _ (.head _))) l1 l2 l3 lo hd hf)
theorem J.new_code_c (ok : c.Ok fs) {x0 e0 : Addr} {z : PySem.Str} {s1 s2 s3 : Tok} {K : Led → Value → Prop} (m1 : (x0, instObj 61 e0) ∈ news) (m2 : (e0, dictOf [⟨PyData.keyHash w.params (Str.ofString "text"), .str (Str.ofString "text") s2, .str z s1⟩, ⟨PyData.keyHash w.params (Str.ofString "_scope"), .str (Str.ofString "_scope") s3, .none⟩] 2) ∈ news)
    (h : ∀ tl x d u1 u2 u4, (∀ p ∈ news, p ∈ tl) → (x, instObj 61 d) ∈ tl → (d, dictOf [⟨PyData.keyHash w.params (Str.ofString "text"), .str (Str.ofString "text") u2, .str z u1⟩, ⟨PyData.keyHash w.params (Str.ofString "_scope"), .str (Str.ofString "_scope") u4, .none⟩] 2) ∈ tl → (∀ p ∈ news, p.1 < d) → @LT.lt Nat _ d x → K tl (.ref x)) : J c (call (.ref 61) [.ref x0] []) news K := by
  intro s Q E F N q
  refine use_C (Mine.new_code_c w news x0 e0 z s1 s2 s3) ok.B F ok.X (news_pick2 N m1 m2) ok.T ok.hk ok.hd ok.hu ?_
  intro x d u1 u2 u4 l1 l2 h' tk' F' N'
  exact q _ _ h' tk' (h _ x d u1 u2 u4 (fun _ hp => .tail _ (.tail _ hp)) (.head _) (.tail _ (.head _)) l1 l2) F' N'
theorem J.new_code_ck (ok : c.Ok fs) {x0 e0 : Addr} {z : PySem.Str} {k : Int} {t1 s1 s2 s3 : Tok} {K : Led → Value → Prop} (m1 : (x0, instObj 61 e0) ∈ news) (m2 : (e0, dictOf [⟨PyData.keyHash w.params (Str.ofString "text"), .str (Str.ofString "text") s2, .str z s1⟩, ⟨PyData.keyHash w.params (Str.ofString "_scope"), .str (Str.ofString "_scope") s3, .none⟩] 2) ∈ news)
    (h : ∀ tl x d kd okd kvd u1 u2 u4, (∀ p ∈ news, p ∈ tl) → (x, instObj 61 d) ∈ tl → (d, dictOf [⟨PyData.keyHash w.params (Str.ofString "text"), .str (Str.ofString "text") u2, .str z u1⟩, ⟨PyData.keyHash w.params (Str.ofString "_scope"), .str (Str.ofString "_scope") u4, .ref kd⟩] 2) ∈ tl → (kd, okd) ∈ tl → (∀ p ∈ news, p.1 < d) → @LT.lt Nat _ d x → @LT.lt Nat _ x kd → (kd == sysModules) = false → okd.IsDictOf (strK w) kvd → FlatPairs PyData.str kvd (kdpD [(Str.ofString "a", k)]) → K tl (.ref x)) : J c (call (.ref 61) [.ref x0] [(Str.ofString "a", .int k t1)]) news K := by
  intro s Q E F N q
  refine use_C (Mine.new_code_ck w news x0 e0 z k t1 s1 s2 s3) ok.B F ok.X (news_pick2 N m1 m2) ok.T ok.hk ok.hd ok.hu ?_
  intro x d kd okd kvd u1 u2 u4 l1 l2 l3 lo hd hf h' tk' F' N'
  exact q _ _ h' tk' (h _ x d kd okd kvd u1 u2 u4 (fun _ hp => .tail _ (.tail _ (.tail _ hp))) (.head _) (.tail _ (.head _)) (.tail _ (.tail _ (.head _))) l1 l2 l3 lo hd hf) F' N'
theorem J.new_code_cdk (ok : c.Ok fs) {x0 e0 k0 k2 : Addr} {o0 o2 : Obj} {kv0 kv2 : List (PySem.Str × Value)} {c0 c2 : List (PySem.Str × Int)} {z : PySem.Str} {k : Int} {t1 s1 s2 s3 : Tok} {K : Led → Value → Prop} (m1 : (x0, instObj 61 e0) ∈ news) (m2 : (e0, dictOf [⟨PyData.keyHash w.params (Str.ofString "text"), .str (Str.ofString "text") s2, .str z s1⟩, ⟨PyData.keyHash w.params (Str.ofString "_scope"), .str (Str.ofString "_scope") s3, .ref k0⟩] 2) ∈ news) (m3 : (k2, o2) ∈ news) (m4 : (k0, o0) ∈ news) (hxk : @LT.lt Nat _ k0 e0 ∧ @LT.lt Nat _ e0 x0 ∧ @LT.lt Nat _ x0 k2) (lo0 : (k0 == sysModules) = false) (lo2 : (k2 == sysModules) = false) (hd0 : o0.IsDictOf (strK w) kv0) (hd2 : o2.IsDictOf (strK w) kv2) (hf0 : FlatPairs PyData.str kv0 (kdpD c0)) (hf2 : FlatPairs PyData.str kv2 (kdpD c2)) (hl0 : c0.length ≤ 4) (hl2 : c2.length ≤ 4)
    (h : ∀ tl x d o' kv' u1 u2 u4, (∀ p ∈ news, @LT.lt Nat _ p.1 k0 → p ∈ tl) → (x, instObj 61 d) ∈ tl → (d, dictOf [⟨PyData.keyHash w.params (Str.ofString "text"), .str (Str.ofString "text") u2, .str z u1⟩, ⟨PyData.keyHash w.params (Str.ofString "_scope"), .str (Str.ofString "_scope") u4, .ref k0⟩] 2) ∈ tl → (k0, o') ∈ tl → @LT.lt Nat _ k0 d → @LT.lt Nat _ d x → o'.IsDictOf (strK w) kv' → FlatPairs PyData.str kv' (kdpD (putAll (putAll c0 c2) [(Str.ofString "b", k)])) → K tl (.ref x)) : J c (call (.ref 61) [.ref x0, .ref k2] [(Str.ofString "b", .int k t1)]) news K := by
  intro s Q E F N q
  refine use_C (Mine.new_code_cdk w (news.filter fun p => decide (@LT.lt Nat _ p.1 k0)) x0 e0 k0 k2 o0 o2 kv0 kv2 c0 c2 z k t1 s1 s2 s3 (Nat.lt_trans hxk.1 (Nat.lt_trans hxk.2.1 hxk.2.2)) hxk lo0 lo2 hd0 hd2 hf0 hf2 hl0 hl2 (allLt_of fun p hp => of_decide_eq_true (List.mem_filter.mp hp).2)) ok.B F ok.X (fun p hp => N p (all_cons m1 (all_cons m2 (all_cons m3 (all_cons m4 fun _ hp => (List.mem_filter.mp hp).1))) p hp)) ok.T ok.hk ok.hd ok.hu ?_
  intro x d o' kv' u1 u2 u4 l1 l2 hd hf h' tk' F' N'
  exact q _ _ h' tk' (h _ x d o' kv' u1 u2 u4 (fun p hp hlt => .tail _ (.tail _ (.tail _ (List.mem_filter.mpr ⟨hp, decide_eq_true hlt⟩)))) (.head _) (.tail _ (.head _)) (.tail _ (.tail _ (.head _))) (l1 _ (.tail _ (.tail _ (.tail _ (.head _))))) l2 hd hf) F' N'
theorem J.new_inv (ok : c.OkL) {t : Tok} {v : Value} {K : Led → Value → Prop} (h : ∀ tl x tt dx u, (∀ p ∈ news, p ∈ tl) → (x, exObjD tt dx) ∈ tl → (dx, dictOf [⟨PyData.keyHash w.params (Str.ofString "_document"), .str (Str.ofString "_document") u, v⟩] 1) ∈ tl → (∀ p ∈ news, p.1 < x) → @LT.lt Nat _ x dx → K tl (.ref x)) : J c (call (.ref 306) [.str (Str.ofString "a text") t, v] []) news K :=
  J.useL ok (Mine.new_inv w news v t) fun _ kk x tt dx u l1 l2 => kk _ _ (h _ x tt dx u (fun _ hp => .tail _ (.tail _ hp)) (.tail _ (.head _)) (.head _) l1 l2)
end
end Mine

end
-- L4b
section
open PySem PySem.Calls PySem.W PyProof.Rows PyProof.V PySem.Spec
namespace Mine
set_option maxRecDepth 100000
theorem filledL4 (w : World) : Filled PySem.Challenge.rw_jh0019_01.row.prog (hd.heap_1 w.params) := by
  k_fill
  exact trivial
abbrev baObj (b : Array UInt8) : Obj := { cls := .type "bytearray", data := .bytearray b }
theorem J.bytesA {w : World} {c : Cx w} {news : Led} {a : Addr} {b : Array UInt8} {K : Led → Value → Prop} (m : (a, baObj b) ∈ news) (hz : b.size ≤ sizeLine) (h : ∀ t, K news (.bytes b t)) : J c (call (.type "bytes") [.ref a]) news K := fun s _ _ F N q => Mine.call_bytes_ba (N.get m) hz fun t' k => q _ _ s.heap k (h t') F N
theorem new_binary_1 (w : World) (news : Led) (row : Array UInt8) (t : Tok) :
    CallC w 144 [.bytes row t] [] news (fun K => ∀ x d u1 u2 u3 u4, (∀ p ∈ news, p.1 < d) → d < x → K ((x, instObj 144 d) :: (d, dictOf [⟨PyData.keyHash w.params (Str.ofString "data"), .str (Str.ofString "data") u2, .bytes row u1⟩, ⟨PyData.keyHash w.params (Str.ofString "_subtype"), .str (Str.ofString "_subtype") u4, .int 0 u3⟩] 2) :: news) (.ref x)) := Mine.into (by exact Mine.thru : Mine.Thru _ (by
    refine .ofX (bin_run1 fun c a d I h1 h3 h4 K hK => ?_)
    have ok := I.ok
    obtain ⟨t0, h4⟩ := h4
    refine JX.cons (JR.ifF ?_)
    repeat' (first | walk_at "jb" | ((with_reducible refine J.b ok (x := Str.ofString "int") ?hx (lb_int w) ?_); (case hx => exact ⟨by kernel_rfl, by kernel_rfl⟩)) | with_reducible refine J.tnot ?_ | ((with_reducible refine' J.isi1 ok kitx_int ?e ?n ?_); (case e => kit_is); (case n => exact fun q => nomatch q)) | ((with_reducible refine J.tplain ?_ ?he); (case he => exact rfl)))
    refine ⟨rfl, JR.nil ⟨rfl, ?_⟩⟩
    refine JX.cons (JR.ifF (J.tor ?_))
    repeat' (first | walk_at "jb" | ((with_reducible refine J.int ?_); intro _) | with_reducible refine J.ge ?_)
    refine ⟨by simp, J.tor ?_⟩
    repeat' (first | walk_at "jb" | ((with_reducible refine J.int ?_); intro _) | with_reducible refine J.ltI ?_)
    refine ⟨by simp, ?_⟩
    repeat' (with_reducible refine J.tornil ?_)
    refine ⟨rfl, JR.nil ⟨rfl, ?_⟩⟩
    refine JX.cons (JR.ofJ (J.setI I inv0 h1 (set_bin w _ (by kernel_rfl)) ⟨by kernel_rfl, by kernel_rfl⟩ rfl rfl (fun _ _ => Nat.le_of_ble_eq_true rfl) (fun _ _ => rfl) ?_))
    repeat' (first | walk_at "jb" | ((with_reducible refine J.b ok (x := Str.ofString "bytes") ?hx (lb_bytes w) ?_); (case hx => exact ⟨by kernel_rfl, by kernel_rfl⟩)) | ((with_reducible refine J.callT ?_ ?he ?hr); (case he | hr => exact rfl)) | with_reducible refine J.bytesB ?_)
    refine ⟨fun _ h => h, fun u2 tl S => ⟨rfl, ?_⟩⟩
    refine JX.cons (JR.ofJ (J.setI I S h1 (set_bin w _ (by kernel_rfl)) ⟨by kernel_rfl, by kernel_rfl⟩ rfl rfl (fun _ _ => Nat.le_of_ble_eq_true rfl) (fun _ _ => rfl) ?_))
    repeat' walk_at "jb"
    exact ⟨fun _ h => h, fun u4 tl S => ⟨rfl, JX.nil ⟨rfl, _, all_cons S.hi (all_cons S.hd S.hn), hK a d _ u2 _ u4 I.hd I.hdx⟩⟩⟩))
theorem new_binary_ba (w : World) (news : Led) (b : Addr) (row : Array UInt8) (t1 : Tok) (k : Int) (h0 : 0 ≤ k) (h1 : k < 256) (hz : row.size ≤ sizeLine) (mb : (b, baObj row) ∈ news) :
    CallC w 144 [.ref b, .int k t1] [] news (fun K => ∀ x d u1 u2 u3 u4, (∀ p ∈ news, p.1 < d) → d < x → K ((x, instObj 144 d) :: (d, dictOf [⟨PyData.keyHash w.params (Str.ofString "data"), .str (Str.ofString "data") u2, .bytes row u1⟩, ⟨PyData.keyHash w.params (Str.ofString "_subtype"), .str (Str.ofString "_subtype") u4, .int k u3⟩] 2) :: news) (.ref x)) := Mine.into (by exact Mine.thru : Mine.Thru _ (by
    refine .ofX (bin_run fun c a d I h1 h3 h4 K hK => ?_)
    have ok := I.ok
    refine JX.cons (JR.ifF ?_)
    repeat' (first | walk_at "jb" | ((with_reducible refine J.b ok (x := Str.ofString "int") ?hx (lb_int w) ?_); (case hx => exact ⟨by kernel_rfl, by kernel_rfl⟩)) | with_reducible refine J.tnot ?_ | ((with_reducible refine' J.isi1 ok kitx_int ?e ?n ?_); (case e => kit_is); (case n => exact fun q => nomatch q)) | ((with_reducible refine J.tplain ?_ ?he); (case he => exact rfl)))
    refine ⟨rfl, JR.nil ⟨rfl, ?_⟩⟩
    refine JX.cons (JR.ifF (J.tor ?_))
    repeat' (first | walk_at "jb" | ((with_reducible refine J.int ?_); intro _) | with_reducible refine J.ge ?_)
    refine ⟨by simp; omega, J.tor ?_⟩
    repeat' (first | walk_at "jb" | ((with_reducible refine J.int ?_); intro _) | with_reducible refine J.ltI ?_)
    refine ⟨by simp; omega, ?_⟩
    repeat' (with_reducible refine J.tornil ?_)
    refine ⟨rfl, JR.nil ⟨rfl, ?_⟩⟩
    refine JX.cons (JR.ofJ (J.setI I inv0 h1 (set_bin w _ (by kernel_rfl)) ⟨by kernel_rfl, by kernel_rfl⟩ rfl rfl (fun _ _ => Nat.le_of_ble_eq_true rfl) (fun _ _ => rfl) ?_))
    repeat' (first | walk_at "jb" | ((with_reducible refine J.b ok (x := Str.ofString "bytes") ?hx (lb_bytes w) ?_); (case hx => exact ⟨by kernel_rfl, by kernel_rfl⟩)) | ((with_reducible refine J.callT ?_ ?he ?hr); (case he | hr => exact rfl)) | ((with_reducible refine' J.bytesA ?m hz ?_); (case m => exact .tail _ (.tail _ mb)); intro t5))
    refine ⟨fun _ h => h, fun u2 tl S => ⟨rfl, ?_⟩⟩
    refine JX.cons (JR.ofJ (J.setI I S h1 (set_bin w _ (by kernel_rfl)) ⟨by kernel_rfl, by kernel_rfl⟩ rfl rfl (fun _ _ => Nat.le_of_ble_eq_true rfl) (fun _ _ => rfl) ?_))
    repeat' walk_at "jb"
    exact ⟨fun _ h => h, fun u4 tl S => ⟨rfl, JX.nil ⟨rfl, _, all_cons S.hi (all_cons S.hd S.hn), hK a d _ u2 _ u4 I.hd I.hdx⟩⟩⟩))
end Mine

end
-- L0
section
open PySem PySem.Calls PySem.W PyProof.Rows PyProof.V PySem.Spec
namespace Mine
def Pre0 (w : World) : Prop := ∀ (h₀ : Heap) (L : Addr) (o1 o2 : Obj) (m : Map) (sa : Addr) (vs : List Value) (ns0 : List Int), o1.data = Data.cell none → o2.data = Data.cell none → h₀.IsList sa vs.toArray → IntsAre vs ns0 → ns0.length ≤ 63 → m (Str.ofString "script") = some (.ref sa) → LRestP w 0 h₀ L m [(L + 1 + 1, o1), (L + 1, o2)]
set_option maxRecDepth 100000 in
set_option maxHeartbeats 8000000 in
theorem step0 (w : World) (H : Pre1 w) : Pre0 w := Mine.into (by exact Mine.thru : Mine.Thru _ (by
    unfold Pre0
    intro h₀ L o1 o2 m sa vs ns0 co1 co2 hl0 hi0 hlen me0
    refine LStepP.rest (st := ?st) (sc := ?sc) ?ea ?eb ?_
    case ea | eb => exact rfl
    unfold LStepP
    k_fill
    intro mean mg mb a cd s K B F X N T hK
    refine wpP_of ?_
    k_steps
    · (refine' hK _ _ _ _ ?F ?N (H h₀ L o1 o2 _ _ _ (List.map (fun k' => k') (List.take 16 ns0)) _ co1 co2 ?i ?l1 ?l2 ?d ?e); (case F => k_asm); (case e => exact rfl); (case N => first | exact cb_drop (by k_asm) (by kcj_all) | (refine cb_drop (by k_asm) ?_; exact List.forall_mem_cons.mpr ⟨.head _, List.forall_mem_cons.mpr ⟨.tail _ (.tail _ (.head _)), List.forall_mem_cons.mpr ⟨.tail _ (.tail _ (.tail _ (.head _))), List.forall_mem_nil _⟩⟩⟩)); (case i => assumption); (case l1 | l2 => simp only [List.length_map, List.length_take]; omega); (case d => first | omega | exact ⟨neN (by omega), neN (by omega)⟩))
    · (refine' hK _ _ _ _ ?F ?N (H h₀ L o1 o2 _ _ _ [5] _ co1 co2 ?i ?l1 ?l2 ?d ?e); (case F => k_asm); (case e => exact rfl); (case N => first | exact cb_drop (by k_asm) (by kcj_all) | (refine cb_drop (by k_asm) ?_; exact List.forall_mem_cons.mpr ⟨.head _, List.forall_mem_cons.mpr ⟨.tail _ (.tail _ (.head _)), List.forall_mem_cons.mpr ⟨.tail _ (.tail _ (.tail _ (.head _))), List.forall_mem_nil _⟩⟩⟩)); (case i => exact .cons _ _ .nil); (case l1 | l2 => decide); (case d => first | omega | exact ⟨neN (by omega), neN (by omega)⟩))))
end Mine

end
-- L1
section
open PySem PySem.Calls PySem.W PyProof.Rows PyProof.V PySem.Spec
namespace Mine
set_option maxRecDepth 100000 in
set_option maxHeartbeats 8000000 in
theorem step1 (w : World) (H : Pre2 w) : Pre1 w := Mine.into (by exact Mine.thru : Mine.Thru _ (by
    unfold Pre1
    intro h₀ L o1 o2 m Dn yn nn cc co1 co2 hf0 hf1 hf2 hf3 me0
    refine LStepP.rest (st := ?st) (sc := ?sc) ?ea ?eb ?_
    case ea | eb => exact rfl
    unfold LStepP
    k_fill
    intro mean mg mb a cd s K B F X N T hK
    refine wpP_of ?_
    k_steps
    all_goals (refine' hK _ _ _ _ ?F ?N (H h₀ L o1 o2 _ Dn yn nn cc _ _ _ _ ?f0 ?f1 ?f2 ?f3 ?f4 ?f5 ?e0 ?e1 ?e2); (case F => k_asm); (case e0 | e1 | e2 => first | exact rfl | assumption); (case N => exact cb_drop (by k_asm) (by kcj_all)); (case f0 | f1 | f2 | f3 | f4 | f5 => first | assumption | omega | exact ltN (by omega) | omega))))
end Mine

end
-- L2
section
open PySem PySem.Calls PySem.W PyProof.Rows PyProof.V PySem.Spec
namespace Mine
set_option maxRecDepth 100000 in
set_option maxHeartbeats 8000000 in
theorem step2 (w : World) (H : Pre3 w) : Pre2 w := Mine.into (by exact Mine.thru : Mine.Thru _ (by
    unfold Pre2
    intro h₀ L o1 o2 m Dn yn nn cc n_ m_ tn tm co1 co2 hf0 hf1 hf2 hf3 me0 me1 me2
    refine LStepP.rest (st := ?st) (sc := ?sc) ?ea ?eb ?_
    case ea | eb => exact rfl
    unfold LStepP
    k_fill
    intro mean mg mb a cd s K B F X N T hK
    refine wpP_of ?_
    k_steps
    all_goals (refine' hK _ _ _ _ ?F ?N (H h₀ L o1 o2 _ Dn yn nn cc n_ m_ tn tm _ _ ?f0 ?f1 ?f2 ?f3 ?f4 ?f5 ?f6 ?e0 ?e1 ?e2 ?e3); (case F => k_asm); (case e0 | e1 | e2 | e3 => first | exact rfl | assumption); (case N => exact cb_drop (by k_asm) (by kcj_all)); (case f0 | f1 | f2 | f3 | f4 | f5 | f6 => first | assumption | omega | exact ltN (by omega) | omega | (simp [byteArr]; omega)))))
end Mine

end
-- L3
section
open PySem PySem.Calls PySem.W PyProof.Rows PyProof.V PySem.Spec
namespace Mine
set_option maxRecDepth 100000 in
set_option maxHeartbeats 8000000 in
theorem step3 (w : World) (H : Pre4 w) : Pre3 w := Mine.into (by exact Mine.thru : Mine.Thru _ (by
    unfold Pre3
    intro h₀ L o1 o2 m Dn yn nn cc n_ m_ tn tm row tr co1 co2 hf0 hf1 hf2 hf3 hf4 me0 me1 me2 me3
    refine LStepP.rest (st := ?st) (sc := ?sc) ?ea ?eb ?_
    case ea | eb => exact rfl
    unfold LStepP
    k_fill
    intro mean mg mb a cd s K B F X N T hK
    refine wpP_of ?_
    k_steps
    all_goals (refine' hK _ _ _ _ ?F ?N (H h₀ L o1 o2 _ Dn yn nn cc n_ m_ tn tm row tr _ _ ?f0 ?f1 ?f2 ?f3 ?f4 ?f5 ?f6 ?e0 ?e1 ?e2 ?e3 ?e4); (case F => k_asm); (case e0 | e1 | e2 | e3 | e4 => first | exact rfl | assumption); (case N => exact cb_drop (by k_asm) (by kcj_all)); (case f0 | f1 | f2 | f3 | f4 | f5 | f6 => first | assumption | omega | exact ltN (by omega) | omega))))
end Mine

end
-- L4j
section
open PySem PySem.Calls PySem.W PyProof.Rows PyProof.V PySem.Spec PySem.SeqAt
namespace Mine
def LTestP (w : World) (h₀ : Heap) (L : Addr) (m : Map) (news : Led) (x : Expr) (sc : Scope) : Prop :=
  ∀ (whole : Sem Value) (mean : ExcName → Option Value) (mg mb : PySem.Str → Option Value) (a : Addr) (cd : Value) (s : Shared) (K : Bool → Shared → Prop),
    Below callerA h₀ [] h₀ → Fr h₀ L s.heap m → (hd.heap_1 w.params).In h₀ → News h₀ L s.heap news → Top hd.view_1 (looseW hd.view_1 [Str.ofString "Code", Str.ofString "Binary", Str.ofString "DatetimeMS", Str.ofString "DBRef", Str.ofString "InvalidDocument", Str.ofString "Int64", Str.ofString "MaxKey", Str.ofString "MinKey", Str.ofString "ObjectId", Str.ofString "Regex", Str.ofString "Timestamp"]) mean mg mb h₀ →
    (∀ h' tk', Fr h₀ L h' m → News h₀ L h' news → K false { s with heap := h', toks := tk' }) →
    wpP (model PySem.Challenge.rw_jh0019_01.row.prog w) (callerA.deeper (envOfC (Str.ofString "law") sc L a cd)) (isTrue x (envOfC (Str.ofString "law") sc L a cd) whole) K (fun _ _ => False) s
theorem LStepP.ofIf {w : World} {n : Nat} {h₀ : Heap} {L : Addr} {m : Map} {news : Led} {test : Expr} {body : List Stmt} {pos : Pos} {sc : Scope} (h : LTestP w h₀ L m news test sc) (r : LRestP w (n + 1) h₀ L m news) : LStepP w n h₀ L m news (.If test body [] pos) sc := by
  unfold LStepP
  intro mean mg mb a cd s K B F X N T hK
  refine if_P (h _ mean mg mb a cd s _ B F X N T fun h' tk' F' N' => ?_)
  rw [if_neg Bool.false_ne_true]
  exact wpAny_execs_nil (hK h' tk' m news F' N' r)
theorem LTestP.or {w : World} {h₀ : Heap} {L : Addr} {m : Map} {news : Led} {x : Expr} {rest : List Expr} {pos : Pos} {sc : Scope} (es : lawScope = some sc ∧ sc.kind = .function)
    (h : ∀ c : Cx w, c.OkL → (∀ x v, m x = some v → c.m x = some v) → J c (isTrue x c.env (eval x c.env)) news fun tl b => b = false ∧ ∀ p ∈ news, p ∈ tl) (k : LTestP w h₀ L m news (.BoolOp .Or rest pos) sc) : LTestP w h₀ L m news (.BoolOp .Or (x :: rest) pos) sc := by
  intro whole mean mg mb a cd s K B F X N T hK
  refine or_cut (fun K => ∀ h' tk', Fr h₀ L h' m → News h₀ L h' news → K { s with heap := h', toks := tk' }) (fun K' hK' => ?_) fun h' tk' F' N' => k whole mean mg mb a cd _ K B F' X N' T fun h2 tk2 F2 N2 => hK h2 tk2 F2 N2
  exact h (lawCx w mean mg mb sc a cd h₀ L m) (lawOk es B X T) (fun _ _ e => e) s _ _ F N fun tl b h' tk' hj F' N' => hj.1 ▸ hK' h' tk' F' fun p hp => N' p (hj.2 p hp)
theorem lb_bytearray (w : World) : LB w (Str.ofString "bytearray") (.type "bytearray") := ⟨by kernel_rfl, Mine.boot_ba, by decide +kernel⟩
theorem ga_data (w : World) : GA w 144 (Str.ofString "data") := ⟨by kernel_rfl, by kernel_rfl, by kernel_rfl⟩
theorem J.neB {w : World} {c : Cx w} {news : Led} {x y : Array UInt8} {t u : Tok} {K : Led → Value → Prop} (h : K news (.bool (x.toList != y.toList))) : J c (compareOp .NotEq (.bytes x t) (.bytes y u)) news K := fun s _ _ F N q => ne_bytes (q _ _ s.heap s.toks h F N)
theorem LTestP.ba {w : World} {h₀ : Heap} {L : Addr} {m : Map} {news : Led} {row : Array UInt8} {tr : Tok} {p1 p2 p3 p4 p5 p6 p7 p8 p9 p10 : Pos} {k : Nat} {sc : Scope} (es : lawScope = some sc ∧ sc.kind = .function) (hr : row.size ≤ 16) (me3 : m (Str.ofString "row") = some (.bytes row tr)) :
    LTestP w h₀ L m news (.BoolOp .Or [.Compare (.Attribute (.Call (.Name (Str.ofString "Binary") p1) [.Call (.Name (Str.ofString "bytearray") p2) [.Name (Str.ofString "row") p3] [] p4, .Constant (.int 7) k p5] [] p6) (Str.ofString "data") p7) [.NotEq] [.Name (Str.ofString "row") p8] p9] p10) sc := by
  intro whole mean mg mb a cd s K B F X N T hK
  have okL := lawOk (m := m) (a := a) (cd := cd) (L := L) es B X T
  have ok := okL.ok
  refine orLast_P (cmp_P (attr_P (call_P ?_)))
  refine J.out (c := lawCx w mean mg mb sc a cd h₀ L m) (K := fun tl v => v = .ref 144 ∧ tl = _) (J.g ok ln_Binary (lg_Binary w) ⟨rfl, rfl⟩) F N fun tl v h1 tk1 e F1 N1 => ?_
  obtain ⟨rfl, rfl⟩ := e
  refine callK_P (K := hd.heap_1 w.params) (kp_Binary w) ?_
  refine call_P ?_
  refine J.out (c := lawCx w mean mg mb sc a cd h₀ L m) (K := fun tl v => v = .type "bytearray" ∧ tl = _) (J.b ok ⟨by kernel_rfl, by kernel_rfl⟩ (lb_bytearray w) ⟨rfl, rfl⟩) F1 N1 fun tl v h2 tk2 e F2 N2 => ?_
  obtain ⟨rfl, rfl⟩ := e
  refine callT_P ?_
  refine J.out (c := lawCx w mean mg mb sc a cd h₀ L m) (K := fun tl v => v = [.bytes row tr] ∧ tl = _) (J.lastL ok ln_row me3 ⟨rfl, rfl⟩) F2 N2 fun tl v h3 tk3 e F3 N3 => ?_
  obtain ⟨rfl, rfl⟩ := e
  have hz : row.size ≤ sizeLine := by rw [sizeLine_eq]; omega
  refine call_ba_P rfl hz fun hB hkeep hget => ?_
  have F4 := F3.keeps hkeep
  have N4 := news_pushed F3 N3 hkeep hget rfl
  refine J.out (c := lawCx w mean mg mb sc a cd h₀ L m) (K := fun tl v => (∃ t, v = [.int 7 t]) ∧ tl = _) (J.lastI fun t => ⟨⟨t, rfl⟩, rfl⟩) F4 N4 fun tl v h5 tk5 e F5 N5 => ?_
  obtain ⟨⟨t5, rfl⟩, rfl⟩ := e
  refine ⟨Frag.In.keeps X (Fr.keep F5), ?_⟩
  refine J.out (c := lawCx w mean mg mb sc a cd h₀ L m) (K := fun tl v => ∃ x d u1 u2 u3 u4, v = .ref x ∧ tl = (x, instObj 144 d) :: (d, dictOf [⟨PyData.keyHash w.params (Str.ofString "data"), .str (Str.ofString "data") u2, .bytes row u1⟩, ⟨PyData.keyHash w.params (Str.ofString "_subtype"), .str (Str.ofString "_subtype") u4, .int 7 u3⟩] 2) :: _) (J.useC ok (new_binary_ba w _ _ row _ 7 (by decide) (by decide) hz (.head _)) fun K' hm x d u1 u2 u3 u4 _ _ => hm _ _ ⟨x, d, u1, u2, u3, u4, rfl, rfl⟩) F5 N5 fun tl v h6 tk6 e F6 N6 => ?_
  obtain ⟨x, d, u1, u2, u3, u4, rfl, rfl⟩ := e
  refine J.out (c := lawCx w mean mg mb sc a cd h₀ L m) (K := fun tl v => v = .bytes row u1 ∧ tl = _) (J.own_attr ok (.head _) (.tail _ (.head _)) (ga_data w) (by k_get) rfl ⟨rfl, rfl⟩) F6 N6 fun tl v h7 tk7 e F7 N7 => ?_
  obtain ⟨rfl, rfl⟩ := e
  refine J.out (c := lawCx w mean mg mb sc a cd h₀ L m) (K := fun tl v => v = .bytes row tr ∧ tl = _) (J.l ok ln_row me3 ⟨rfl, rfl⟩) F7 N7 fun tl v h8 tk8 e F8 N8 => ?_
  obtain ⟨rfl, rfl⟩ := e
  refine J.out (c := lawCx w mean mg mb sc a cd h₀ L m) (K := fun tl v => v = .bool false ∧ tl = _) (J.neB ⟨by rw [bne_self_eq_false], rfl⟩) F8 N8 fun tl v h9 tk9 e F9 N9 => ?_
  obtain ⟨rfl, rfl⟩ := e
  refine wpAny_truthy_bool ?_
  exact hK h9 tk9 F9 fun p hp => N9 p (.tail _ (.tail _ (.tail _ hp)))
set_option maxRecDepth 100000 in
set_option maxHeartbeats 8000000 in
theorem step4 (w : World) (H : Pre5 w) : Pre4 w := Mine.into (by exact Mine.thru : Mine.Thru _ (by
    unfold Pre4
    intro h₀ L o1 o2 m Dn yn nn cc n_ m_ tn tm row tr kk tkk co1 co2 hf0 hf1 hf2 hf3 hf4 me0 me1 me2 me3 me4
    refine LStepP.rest (st := ?st) (sc := ?sc) ?ea ?eb ?_
    case ea | eb => exact rfl
    refine LStepP.ofIf (.or ⟨rfl, rfl⟩ ?_ (.or ⟨rfl, rfl⟩ ?_ (.or ⟨rfl, rfl⟩ ?_ ?_))) (LRest.toP (H h₀ L o1 o2 _ Dn yn nn cc n_ m_ tn tm row tr co1 co2 hf0 hf1 hf2 hf3 hf4 me0 me1 me2 me3))
    · intro c okL hm
      have ok := okL.ok
      have q3 := hm _ _ me3
      have q4 := hm _ _ me4
      rcases Int.lt_or_le kk 0 with hk0 | hk0
      · repeat' (first | ((with_reducible refine' J.lastL ok ?hx ?hv ?_); (case hx => walk_at "loc"); (case hv => first | with_reducible assumption | exact rfl)) | ((with_reducible refine' J.consL ok ?hx ?hv ?_); (case hx => walk_at "loc"); (case hv => first | with_reducible assumption | exact rfl)) | ((with_reducible refine J.consS ?_); intro _) | ((with_reducible refine' J.l ok ?hx ?hv ?_); (case hx => walk_at "loc"); (case hv => first | with_reducible assumption | exact rfl)) | ((with_reducible refine J.own ok ln_law_made (lg_law_made w) (kp_law_made w) ?_ ?he); (case he => exact ⟨rfl, rfl⟩)) | ((with_reducible refine J.int ?_); intro _) | ((with_reducible refine J.str ?_); intro _) | ((with_reducible refine J.tcmp ?_ ?he); (case he => exact rfl)) | with_reducible refine J.tb ?_ | ((with_reducible refine' J.callStr okL (made_binary_lo w _ _ _ _ _ _ hk0) ?_); intro _) | with_reducible refine J.ifF ?_ | ((with_reducible refine J.chain2F ?_ ?hm); (case hm => exact rfl)) | with_reducible refine J.le ?_ | with_reducible refine J.neStr ?_ | ((with_reducible refine And.intro (?hb : _ = false) ?_); (case hb => first | rfl | exact decide_eq_false (by omega) | exact bne_self_eq_false _)))
        exact fun p hp => hp
      · rcases Int.lt_or_le kk 256 with hk1 | hk1
        · repeat' (first | ((with_reducible refine' J.lastL ok ?hx ?hv ?_); (case hx => walk_at "loc"); (case hv => first | with_reducible assumption | exact rfl)) | ((with_reducible refine' J.consL ok ?hx ?hv ?_); (case hx => walk_at "loc"); (case hv => first | with_reducible assumption | exact rfl)) | ((with_reducible refine J.consS ?_); intro _) | ((with_reducible refine' J.l ok ?hx ?hv ?_); (case hx => walk_at "loc"); (case hv => first | with_reducible assumption | exact rfl)) | ((with_reducible refine J.own ok ln_law_made (lg_law_made w) (kp_law_made w) ?_ ?he); (case he => exact ⟨rfl, rfl⟩)) | ((with_reducible refine J.int ?_); intro _) | with_reducible refine J.tuple ?_ | ((with_reducible refine NewK.intro ?hz ?_); (case hz => exact Nat.le_of_ble_eq_true rfl); intros) | ((with_reducible refine J.tcmp ?_ ?he); (case he => exact rfl)) | with_reducible refine J.tb ?_ | ((with_reducible refine' J.callT2 okL (O := fun t3 t4 => [.bytes row t3, .int kk t4]) (made_binary w _ _ _ _ _ _ hk0 hk1) ?_); intro tl1 b1 u1 u2 s1 b1m b1l) | with_reducible refine J.ifT ?_ | ((with_reducible refine J.chain2T ?_ ?hm); (case hm => exact rfl)) | with_reducible refine J.le ?_ | with_reducible refine J.lt ?_ | ((with_reducible refine' J.neT ok ?ma ?mb ?he ?hr ?_); (case ma | mb => walk_at "mem"); (case he => repeat' (first | exact EqJs.nil | with_reducible refine' EqJs.cons ?_ ?_ | with_reducible exact EqJ.int | with_reducible exact EqJ.bytes)); (case hr => simp)) | ((with_reducible refine And.intro (?hb : _ = false) ?_); (case hb => first | rfl | exact decide_eq_false (by omega) | exact bne_self_eq_false _)) | ((with_reducible refine And.intro (?hb : _ = true) ?_); (case hb => first | rfl | exact decide_eq_true (by omega))))
          intro p hp
          walk_at "mem"
        · repeat' (first | ((with_reducible refine' J.lastL ok ?hx ?hv ?_); (case hx => walk_at "loc"); (case hv => first | with_reducible assumption | exact rfl)) | ((with_reducible refine' J.consL ok ?hx ?hv ?_); (case hx => walk_at "loc"); (case hv => first | with_reducible assumption | exact rfl)) | ((with_reducible refine J.consS ?_); intro _) | ((with_reducible refine' J.l ok ?hx ?hv ?_); (case hx => walk_at "loc"); (case hv => first | with_reducible assumption | exact rfl)) | ((with_reducible refine J.own ok ln_law_made (lg_law_made w) (kp_law_made w) ?_ ?he); (case he => exact ⟨rfl, rfl⟩)) | ((with_reducible refine J.int ?_); intro _) | ((with_reducible refine J.str ?_); intro _) | ((with_reducible refine J.tcmp ?_ ?he); (case he => exact rfl)) | with_reducible refine J.tb ?_ | ((with_reducible refine' J.callStr okL (made_binary_hi w _ _ _ _ _ _ hk1) ?_); intro _) | with_reducible refine J.ifF ?_ | ((with_reducible refine J.chain2T ?_ ?hm); (case hm => exact rfl)) | with_reducible refine J.le ?_ | with_reducible refine J.lt ?_ | with_reducible refine J.neStr ?_ | ((with_reducible refine And.intro (?hb : _ = false) ?_); (case hb => first | rfl | exact decide_eq_false (by omega) | exact bne_self_eq_false _)) | ((with_reducible refine And.intro (?hb : _ = true) ?_); (case hb => first | rfl | exact decide_eq_true (by omega))))
          exact fun p hp => hp
    · intro c okL hm
      have ok := okL.ok
      have q3 := hm _ _ me3
      repeat' (first | with_reducible refine J.nil ?_ | ((with_reducible refine' J.consL ok ?hx ?hv ?_); (case hx => walk_at "loc"); (case hv => first | with_reducible assumption | exact rfl)) | ((with_reducible refine J.consS ?_); intro _) | ((with_reducible refine J.own ok ln_law_made (lg_law_made w) (kp_law_made w) ?_ ?he); (case he => exact ⟨rfl, rfl⟩)) | ((with_reducible refine J.str ?_); intro _) | ((with_reducible refine J.tcmp ?_ ?he); (case he => exact rfl)) | with_reducible refine J.tb ?_ | ((with_reducible refine' J.callStr okL (made_binary_kind w _ _ _ _ _) ?_); intro _) | with_reducible refine J.neStr ?_ | ((with_reducible refine And.intro (?hb : _ = false) ?_); (case hb => first | rfl | exact bne_self_eq_false _)))
      exact fun p hp => hp
    · intro c okL hm
      have ok := okL.ok
      have q3 := hm _ _ me3
      repeat' (first | ((with_reducible refine' J.lastL ok ?hx ?hv ?_); (case hx => walk_at "loc"); (case hv => first | with_reducible assumption | exact rfl)) | ((with_reducible refine J.own ok ln_Binary (lg_Binary w) (kp_Binary w) ?_ ?he); (case he => exact ⟨rfl, rfl⟩)) | ((with_reducible refine J.int ?_); intro _) | ((with_reducible refine J.tcmp ?_ ?he); (case he => exact rfl)) | with_reducible refine J.tb ?_ | ((with_reducible refine' J.useC ok (new_binary_1 w _ row _) ?_); (refine fun K' hm x d u1 u2 u3 u4 l1 l2 => hm _ _ ?_)) | ((with_reducible refine J.AttrA ?_ ?he); (case he => with_unfolding_all rfl)) | ((with_reducible refine' J.binSub ok ?mx ?md ?hg ?hv ?_); (case mx | md => walk_at "mem"); (case hg => k_get); (case hv => rfl)) | with_reducible refine J.neInt ?_ | ((with_reducible refine And.intro (?hb : _ = false) ?_); (case hb => first | rfl | exact bne_self_eq_false _)))
      exact fun p hp => .tail _ (.tail _ hp)
    · exact .ba ⟨rfl, rfl⟩ hf4 me3))
end Mine

end
-- L5j
section
open PySem PySem.Calls PySem.W PyProof.Rows PyProof.V PySem.Spec PySem.SeqAt
namespace Mine
set_option maxRecDepth 100000 in
set_option maxHeartbeats 8000000 in
theorem step5 (w : World) (H : Pre6 w) : Pre5 w := Mine.into (by exact Mine.thru : Mine.Thru _ (by
    unfold Pre5
    intro h₀ L o1 o2 m Dn yn nn cc n_ m_ tn tm row tr co1 co2 hf0 hf1 hf2 hf3 hf4 me0 me1 me2 me3
    refine LStep.rest (st := ?st) (sc := ?sc) ?ea ?eb ?_
    case ea | eb => exact rfl
    refine LStep.ofIf ⟨rfl, rfl⟩ ?_
    intro c okL hm hc
    have ok := okL.ok
    have q0 := hm _ _ me0
    have q1 := hm _ _ me1
    have q2 := hm _ _ me2
    have q3 := hm _ _ me3
    repeat' (first | with_reducible refine J.nil ?_ | ((with_reducible refine' J.lastL ok ?hx ?hv ?_); (case hx => walk_at "loc"); (case hv => first | with_reducible assumption | exact rfl)) | ((with_reducible refine J.lastI ?_); intro _) | ((with_reducible refine' J.consL ok ?hx ?hv ?_); (case hx => walk_at "loc"); (case hv => first | with_reducible assumption | exact rfl)) | ((with_reducible refine J.cons ?_ ?he); (case he => exact rfl)) | ((with_reducible refine' J.l ok ?hx ?hv ?_); (case hx => walk_at "loc"); (case hv => first | with_reducible assumption | exact rfl)) | ((with_reducible refine J.own ok ln_Binary (lg_Binary w) (kp_Binary w) ?_ ?he); (case he => exact ⟨rfl, rfl⟩)) | ((with_reducible refine J.own ok ln_Int64 (lg_Int64 w) (kp_Int64 w) ?_ ?he); (case he => exact ⟨rfl, rfl⟩)) | ((with_reducible refine J.int ?_); intro _) | ((with_reducible refine J.bconst ?_); intro _) | with_reducible refine J.bool ?_ | with_reducible refine J.list ?_ | ((with_reducible refine NewK.intro ?hz ?_); (case hz => exact Nat.le_of_ble_eq_true rfl); intros) | ((with_reducible refine J.cmp ?_ ?he); (case he => exact rfl)) | with_reducible refine J.bin ?_ | ((with_reducible refine J.tcmp ?_ ?he); (case he => exact rfl)) | with_reducible refine J.tb ?_ | ((with_reducible refine' J.new_binary ok ?h0 ?h1 ?_); (case h0 | h1 => first | assumption | decide | omega); intros) | ((with_reducible refine' J.new_int64 ok ?_); intros) | ((with_reducible refine J.add ?_); intro _) | ((with_reducible refine J.addB ?hz ?_); (case hz => simp only [List.size_toArray, List.length_cons, List.length_nil]; omega); intro _) | ((with_reducible refine' J.cmpC ok (cmpC_pick4 (eq_binaries _ _ _ _ _ _ _ _ _ _ _ _ _ _ _ _ _ _) ?a ?b ?c ?d) ?_); (case a | c | b | d => walk_at "mem")) | ((with_reducible refine' J.cmpC ok (cmpC_pick4 (eq_int64s _ _ _ _ _ _ _ _ _ _ _ _) ?a ?b ?c ?d) ?_); (case a | c | b | d => walk_at "mem")) | ((with_reducible refine' J.neC okL (ne_binary_in ?e ?f ?g ?h (cmpC_pick4 (eq_binaries _ _ _ _ _ _ _ _ _ _ _ _ _ _ _ _ _ _) ?a ?b ?c ?d)) ?_); (case a | c | b | d | e | f | g | h => walk_at "mem")) | ((with_reducible refine' J.neL ok ?ma ?mb ?he ?hr ?_); (case ma | mb => walk_at "mem"); (case he => repeat' (first | exact EqJs.nil | with_reducible refine' EqJs.cons ?_ ?_ | with_reducible exact EqJ.str | with_reducible exact EqJ.int | with_reducible exact EqJ.bool | with_reducible exact EqJ.none | with_reducible exact EqJ.bytes | with_reducible exact EqJ.base )); (case hr => simp [snoc_ne, int_succ])))
    all_goals refine' And.intro ?hb (Exists.intro _ (And.intro ?hs (H h₀ L o1 o2 _ Dn yn nn cc n_ m_ tn tm row tr ?f0 ?f1 ?f2 ?f3 ?f4 ?f5 ?f6 ?e0 ?e1 ?e2 ?e3)))
    case hb => rfl
    case e0 | e1 | e2 | e3 => first | with_reducible assumption | exact rfl | assumption
    case hs =>
      repeat' (first | with_reducible refine all_cons ?_ ?_ | exact all_nil)
      all_goals walk_at "mem"
    case f0 | f1 | f2 | f3 | f4 | f5 => walk_at "fact"
    case f6 => walk_at "fact"))
end Mine

end
-- L6
section
open PySem PySem.Calls PySem.W PyProof.Rows PyProof.V PySem.Spec
namespace Mine
set_option maxRecDepth 100000 in
set_option maxHeartbeats 8000000 in
theorem step6 (w : World) (H : Pre7 w) : Pre6 w := Mine.into (by exact Mine.thru : Mine.Thru _ (by
    unfold Pre6
    intro h₀ L o1 o2 m Dn yn nn cc n_ m_ tn tm row tr co1 co2 hf0 hf1 hf2 hf3 hf4 me0 me1 me2 me3
    refine LStep.rest (st := ?st) (sc := ?sc) ?ea ?eb ?_
    case ea | eb => exact rfl
    unfold LStep
    k_fill
    intro mean mg mb a cd s K B F X N T hK
    k_steps
    all_goals (refine' hK _ _ _ _ ?F ?N (H h₀ L o1 o2 _ Dn yn nn cc n_ m_ tn tm row tr _ _ ?f0 ?f1 ?f2 ?f3 ?f4 ?f5 ?f6 ?e0 ?e1 ?e2 ?e3 ?e4); (case F => k_asm); (case e0 | e1 | e2 | e3 | e4 => first | exact rfl | assumption); (case N => exact cb_drop (by k_asm) (by kcj_all)); (case f0 | f1 | f2 | f3 | f4 | f5 | f6 => first | assumption | omega | exact ltN (by omega) | omega))))
end Mine

end
-- L7j
section
open PySem PySem.Calls PySem.W PyProof.Rows PyProof.V PySem.Spec PySem.SeqAt
namespace Mine
set_option maxRecDepth 100000 in
set_option maxHeartbeats 8000000 in
theorem step7 (w : World) (H : Pre8 w) : Pre7 w := Mine.into (by exact Mine.thru : Mine.Thru _ (by
    unfold Pre7
    intro h₀ L o1 o2 m Dn yn nn cc n_ m_ tn tm row tr vv tv co1 co2 hf0 hf1 hf2 hf3 hf4 me0 me1 me2 me3 me4
    refine LStep.rest (st := ?st) (sc := ?sc) ?ea ?eb ?_
    case ea | eb => exact rfl
    refine LStep.ofIf ⟨rfl, rfl⟩ ?_
    intro c okL hm hc
    have ok := okL.ok
    have q0 := hm _ _ me0
    have q1 := hm _ _ me1
    have q2 := hm _ _ me2
    have q3 := hm _ _ me3
    have q4 := hm _ _ me4
    have hcases : vv < -9223372036854775808 ∨ (-9223372036854775808 ≤ vv ∧ vv ≤ 9223372036854775808 - 1) ∨ (-9223372036854775808 ≤ vv ∧ ¬ vv ≤ 9223372036854775808 - 1) := by omega
    rcases hcases with hv | ⟨hv, hv2⟩ | ⟨hv, hv2⟩
    ·
      repeat' (first | with_reducible refine J.nil ?_ | ((with_reducible refine J.lastI ?_); intro _) | ((with_reducible refine' J.consL ok ?hx ?hv ?_); (case hx => walk_at "loc"); (case hv => first | with_reducible assumption | exact rfl)) | ((with_reducible refine J.consS ?_); intro _) | ((with_reducible refine J.cons ?_ ?he); (case he => exact rfl)) | ((with_reducible refine' J.l ok ?hx ?hv ?_); (case hx => walk_at "loc"); (case hv => first | with_reducible assumption | exact rfl)) | ((with_reducible refine J.own ok ln_law_made (lg_law_made w) (kp_law_made w) ?_ ?he); (case he => exact ⟨rfl, rfl⟩)) | ((with_reducible refine J.int ?_); intro _) | ((with_reducible refine J.str ?_); intro _) | with_reducible refine J.bin ?_ | ((with_reducible refine J.tcmp ?_ ?he); (case he => exact rfl)) | with_reducible refine J.tor ?_ | with_reducible refine J.tornil ?_ | with_reducible refine J.tb ?_ | with_reducible refine J.ifInt ?_ | ((with_reducible refine IfI.intro ?_); intro _) | with_reducible refine J.ifF ?_ | ((with_reducible refine J.chain2F ?_ ?hm); (case hm => exact rfl)) | ((with_reducible refine And.intro (?hb : _ = false) ?_); (case hb => first | rfl | exact decide_eq_false (by omega) | exact decide_eq_true (by omega) | exact bne_self_eq_false _)) | with_reducible refine J.neInt ?_ | with_reducible refine J.neStr ?_ | with_reducible refine J.un ?_ | ((with_reducible refine J.neg ?_); intro _) | ((with_reducible refine J.pow63 ?_); intro _) | with_reducible refine J.le ?_ | ((with_reducible refine' J.callStr okL (made_date_under w _ _ _ _ _ _ ?g0) ?_); (case g0 => omega); intro _) | ((with_reducible refine' J.callStr okL ?H ?_); (case H => with_reducible first | exact made_code_int w _ _ _ | exact made_code_bytes w _ _ _ _ | exact made_code_scope w _ _ _ _ _ | exact made_regex_kind w _ _ _ _ | exact made_regex_none w _ _ _ _ | exact made_ref_int w _ _ _ _ _ | exact made_ref_kind_b w _ _ _ _ _ | exact made_ref_kind_nb w _ _ _ _ | exact made_date_kind w _ _ _ _ _); intro _))
      all_goals refine' And.intro ?hb (Exists.intro _ (And.intro ?hs (H h₀ L o1 o2 _ Dn yn nn cc n_ m_ tn tm row tr ?f0 ?f1 ?f2 ?f3 ?f4 ?f5 ?f6 ?e0 ?e1 ?e2 ?e3)))
      case hb => rfl
      case e0 | e1 | e2 | e3 => first | with_reducible assumption | exact rfl | assumption
      case hs =>
        repeat' (first | with_reducible refine all_cons ?_ ?_ | exact all_nil)
        all_goals walk_at "mem"
      case f0 | f1 | f2 | f3 | f4 | f5 | f6 => walk_at "fact"
    ·
      repeat' (first | with_reducible refine J.nil ?_ | ((with_reducible refine J.lastI ?_); intro _) | ((with_reducible refine' J.consL ok ?hx ?hv ?_); (case hx => walk_at "loc"); (case hv => first | with_reducible assumption | exact rfl)) | ((with_reducible refine J.consS ?_); intro _) | ((with_reducible refine J.cons ?_ ?he); (case he => exact rfl)) | ((with_reducible refine' J.l ok ?hx ?hv ?_); (case hx => walk_at "loc"); (case hv => first | with_reducible assumption | exact rfl)) | ((with_reducible refine J.own ok ln_law_made (lg_law_made w) (kp_law_made w) ?_ ?he); (case he => exact ⟨rfl, rfl⟩)) | ((with_reducible refine J.int ?_); intro _) | ((with_reducible refine J.str ?_); intro _) | with_reducible refine J.bool ?_ | with_reducible refine J.bin ?_ | ((with_reducible refine J.tcmp ?_ ?he); (case he => exact rfl)) | with_reducible refine J.tor ?_ | with_reducible refine J.tornil ?_ | with_reducible refine J.tb ?_ | with_reducible refine J.ifInt ?_ | ((with_reducible refine IfI.intro ?_); intro _) | with_reducible refine J.ifT ?_ | ((with_reducible refine J.chain2T ?_ ?hm); (case hm => exact rfl)) | ((with_reducible refine And.intro (?hb : _ = false) ?_); (case hb => first | rfl | exact decide_eq_false (by omega) | exact decide_eq_true (by omega) | exact bne_self_eq_false _)) | ((with_reducible refine And.intro (?hb : _ = true) ?_); (case hb => first | rfl | exact decide_eq_false (by omega) | exact decide_eq_true (by omega) | exact bne_self_eq_false _)) | with_reducible refine J.neInt ?_ | with_reducible refine J.neStr ?_ | with_reducible refine J.neBool ?_ | with_reducible refine J.un ?_ | ((with_reducible refine J.neg ?_); intro _) | ((with_reducible refine J.pow63 ?_); intro _) | with_reducible refine J.le ?_ | with_reducible refine J.lt ?_ | ((with_reducible refine' J.callV okL (made_date_ok w _ _ _ _ _ _ ?g0 ?g1 ?g2 ?g3 ?g4) ?_); (case g0 | g1 => omega); (case g2 | g3 => split <;> omega); (case g4 => split <;> simp_all)) | ((with_reducible refine' J.callStr okL ?H ?_); (case H => with_reducible first | exact made_code_int w _ _ _ | exact made_code_bytes w _ _ _ _ | exact made_code_scope w _ _ _ _ _ | exact made_regex_kind w _ _ _ _ | exact made_regex_none w _ _ _ _ | exact made_ref_int w _ _ _ _ _ | exact made_ref_kind_b w _ _ _ _ _ | exact made_ref_kind_nb w _ _ _ _ | exact made_date_kind w _ _ _ _ _); intro _))
      all_goals refine' And.intro ?hb (Exists.intro _ (And.intro ?hs (H h₀ L o1 o2 _ Dn yn nn cc n_ m_ tn tm row tr ?f0 ?f1 ?f2 ?f3 ?f4 ?f5 ?f6 ?e0 ?e1 ?e2 ?e3)))
      case hb => rfl
      case e0 | e1 | e2 | e3 => first | with_reducible assumption | exact rfl | assumption
      case hs =>
        repeat' (first | with_reducible refine all_cons ?_ ?_ | exact all_nil)
        all_goals walk_at "mem"
      case f0 | f1 | f2 | f3 | f4 | f5 | f6 => walk_at "fact"
    ·
      repeat' (first | with_reducible refine J.nil ?_ | ((with_reducible refine J.lastI ?_); intro _) | ((with_reducible refine' J.consL ok ?hx ?hv ?_); (case hx => walk_at "loc"); (case hv => first | with_reducible assumption | exact rfl)) | ((with_reducible refine J.consS ?_); intro _) | ((with_reducible refine J.cons ?_ ?he); (case he => exact rfl)) | ((with_reducible refine' J.l ok ?hx ?hv ?_); (case hx => walk_at "loc"); (case hv => first | with_reducible assumption | exact rfl)) | ((with_reducible refine J.own ok ln_law_made (lg_law_made w) (kp_law_made w) ?_ ?he); (case he => exact ⟨rfl, rfl⟩)) | ((with_reducible refine J.int ?_); intro _) | ((with_reducible refine J.str ?_); intro _) | with_reducible refine J.bin ?_ | ((with_reducible refine J.tcmp ?_ ?he); (case he => exact rfl)) | with_reducible refine J.tor ?_ | with_reducible refine J.tornil ?_ | with_reducible refine J.tb ?_ | with_reducible refine J.ifInt ?_ | ((with_reducible refine IfI.intro ?_); intro _) | with_reducible refine J.ifF ?_ | ((with_reducible refine J.chain2T ?_ ?hm); (case hm => exact rfl)) | ((with_reducible refine And.intro (?hb : _ = false) ?_); (case hb => first | rfl | exact decide_eq_false (by omega) | exact decide_eq_true (by omega) | exact bne_self_eq_false _)) | ((with_reducible refine And.intro (?hb : _ = true) ?_); (case hb => first | rfl | exact decide_eq_false (by omega) | exact decide_eq_true (by omega) | exact bne_self_eq_false _)) | with_reducible refine J.neInt ?_ | with_reducible refine J.neStr ?_ | with_reducible refine J.un ?_ | ((with_reducible refine J.neg ?_); intro _) | ((with_reducible refine J.pow63 ?_); intro _) | with_reducible refine J.le ?_ | with_reducible refine J.lt ?_ | ((with_reducible refine' J.callStr okL (made_date_over w _ _ _ _ _ _ ?g0 ?g1) ?_); (case g0 | g1 => omega); intro _) | ((with_reducible refine' J.callStr okL ?H ?_); (case H => with_reducible first | exact made_code_int w _ _ _ | exact made_code_bytes w _ _ _ _ | exact made_code_scope w _ _ _ _ _ | exact made_regex_kind w _ _ _ _ | exact made_regex_none w _ _ _ _ | exact made_ref_int w _ _ _ _ _ | exact made_ref_kind_b w _ _ _ _ _ | exact made_ref_kind_nb w _ _ _ _ | exact made_date_kind w _ _ _ _ _); intro _))
      all_goals refine' And.intro ?hb (Exists.intro _ (And.intro ?hs (H h₀ L o1 o2 _ Dn yn nn cc n_ m_ tn tm row tr ?f0 ?f1 ?f2 ?f3 ?f4 ?f5 ?f6 ?e0 ?e1 ?e2 ?e3)))
      case hb => rfl
      case e0 | e1 | e2 | e3 => first | with_reducible assumption | exact rfl | assumption
      case hs =>
        repeat' (first | with_reducible refine all_cons ?_ ?_ | exact all_nil)
        all_goals walk_at "mem"
      case f0 | f1 | f2 | f3 | f4 | f5 => walk_at "fact"
      case f6 => walk_at "fact"))
end Mine

end
-- L8j
section
open PySem PySem.Calls PySem.W PyProof.Rows PyProof.V PySem.Spec PySem.SeqAt
namespace Mine
section
variable {w : World} {c : Cx w} {news : Led} {fs : Option Scope} {r u : Nat}
theorem J.sliceTo (ok : c.OkR fs r u) {x : PySem.Str} {p pc ps pos : Pos} {n : Nat} {b : Int} {l : Addr} {vs : List Value} {ns ms : List Int} {cc k : Nat} {K : Led → Value → Prop} (hx : LN fs x .local) (hv : c.m x = some (.ref l)) (m : (l, W.listOf vs.toArray cc) ∈ news) (hi : IntsAre vs ns)
    (hm : IntsAre (slicePick vs.toArray Option.none (some b) Option.none).toList ms) (hc : ms.length = k) (hz : vs.length ≤ 1000)
    (h : ∀ tl D ws, (∀ p ∈ news, p ∈ tl) → (D, W.listOf ws.toArray 0) ∈ tl → (∀ p ∈ news, p.1 < D) → IntsAre ws ms → K tl (.ref D))
    (hs : ∀ (s : Shared), subscripted (.Slice Option.none (some (.Constant (.int b) n pc)) Option.none ps) false (.ref l) (.ref s.heap.objs.size) = operate [.ref s.heap.objs.size, .ref l] (getItem (.ref l) (.ref s.heap.objs.size))) (ht : ∀ r, letTemporaryGo (.Name x p) (.ref l) r = pure ()) :
    J c (eval (.Subscript (.Name x p) (.Slice Option.none (some (.Constant (.int b) n pc)) Option.none ps) pos) c.env) news K :=
  fun s Q E F N q => Subscript_ (nameX_L F hv (wpAny_Slice (evalPart_none_step (evalPart_some_step (wpAny_Constant_int (evalPart_none_step
    (kmk_slice_ints (s := { s with toks := s.toks + 1 }) F N (N.isList m) .none (.int _ _) hi hm hc (fun D ws h' F' N' l1 hI _ _ => q _ _ h' _ (h _ D ws (fun _ hp => .tail _ hp) (.head _) l1 hI) F' N') (hs { s with toks := s.toks + 1 }) ht (small_size (by simpa using hz)))))))) ok.hk (kindL ok hx) hx.2)
theorem J.sliceFT (ok : c.OkR fs r u) {x : PySem.Str} {p pa pc ps pos : Pos} {n n2 : Nat} {a b : Int} {l : Addr} {vs : List Value} {ns ms : List Int} {cc k : Nat} {K : Led → Value → Prop} (hx : LN fs x .local) (hv : c.m x = some (.ref l)) (m : (l, W.listOf vs.toArray cc) ∈ news) (hi : IntsAre vs ns)
    (hm : IntsAre (slicePick vs.toArray (some a) (some b) Option.none).toList ms) (hc : ms.length = k) (hz : vs.length ≤ 1000)
    (h : ∀ tl D ws, (∀ p ∈ news, p ∈ tl) → (D, W.listOf ws.toArray 0) ∈ tl → (∀ p ∈ news, p.1 < D) → IntsAre ws ms → K tl (.ref D))
    (hs : ∀ (s : Shared), subscripted (.Slice (some (.Constant (.int a) n2 pa)) (some (.Constant (.int b) n pc)) Option.none ps) false (.ref l) (.ref s.heap.objs.size) = operate [.ref s.heap.objs.size, .ref l] (getItem (.ref l) (.ref s.heap.objs.size))) (ht : ∀ r, letTemporaryGo (.Name x p) (.ref l) r = pure ()) :
    J c (eval (.Subscript (.Name x p) (.Slice (some (.Constant (.int a) n2 pa)) (some (.Constant (.int b) n pc)) Option.none ps) pos) c.env) news K :=
  fun s Q E F N q => Subscript_ (nameX_L F hv (wpAny_Slice (evalPart_some_step (wpAny_Constant_int (evalPart_some_step (wpAny_Constant_int (evalPart_none_step
    (kmk_slice_ints (s := { s with toks := s.toks + 1 + 1 }) F N (N.isList m) (.int _ _) (.int _ _) hi hm hc (fun D ws h' F' N' l1 hI _ _ => q _ _ h' _ (h _ D ws (fun _ hp => .tail _ hp) (.head _) l1 hI) F' N') (hs { s with toks := s.toks + 1 + 1 }) ht (small_size (by simpa using hz))))))))) ok.hk (kindL ok hx) hx.2)
theorem J.fields (ok : c.Ok fs) {l : Addr} {vs : List Value} {ns : List Int} {n : Nat} {K : Led → Value → Prop} (m : (l, W.listOf vs.toArray n) ∈ news) (hI : IntsAre vs ns) (hl : ns.length ≤ 4)
    (h : ∀ tl d o kvs cc, (∀ p ∈ news, p ∈ tl) → (d, o) ∈ tl → (∀ p ∈ news, p.1 < d) → (d == sysModules) = false → o.IsDictOf (strK w) kvs → FlatPairs PyData.str kvs (kdpD cc) → cc.length ≤ 4 → (1 ≤ ns.length → 1 ≤ cc.length) → kdpHas cc (Str.ofString "z") = false → K tl (.ref d)) : J c (call (.ref 730) [.ref l] []) news K := by
  intro s Q E F N q
  refine use_C (Mine.fields w news l vs ns n hI hl) ok.B F ok.X (news_pick1 N m) ok.T ok.hk ok.hd ok.hu ?_
  intro d o kvs cc l1 lo hd hf hl4 h1 hz h' tk' F' N'
  exact q _ _ h' tk' (h ((d, o) :: news) d o kvs cc (fun _ hp => .tail _ hp) (.head _) (fun p hp => l1 p (.tail _ hp)) lo hd hf hl4 h1 hz) F' (fun p hp => (List.mem_cons.mp hp).elim (fun e => e ▸ N' _ (.head _)) fun hp => N' p (.tail _ (.tail _ hp)))
end
theorem LStep.ofTup {w : World} {n : Nat} {h₀ : Heap} {L : Addr} {m : Map} {news : Led} {x1 x2 : PySem.Str} {e : Expr} {k : Nat} {p1 p2 tp pos : Pos} {sc : Scope} (es : lawScope = some sc ∧ sc.kind = .function) (hx1 : LN lawScope x1 .local) (hx2 : LN lawScope x2 .local)
    (hs : ∀ env : Env, swapsWithSole [.Tuple [.Name x1 p1, .Name x2 p2] k tp] e pos.line env = pure false) (hw : ∀ (L a : Addr) (cd : Value), swappedStores [.Tuple [.Name x1 p1, .Name x2 p2] k tp] e (envOfC (Str.ofString "law") sc L a cd) = pure (some [x1, x2]))
    (h : ∀ c : Cx w, c.OkL → (∀ x v, m x = some v → c.m x = some v) → J c (eval e c.env) news fun tl v => ∃ t v1 v2, v = .ref t ∧ (t, tupO [v1, v2]) ∈ tl ∧ ∃ A, (∀ p ∈ A, p ∈ tl) ∧ LRest w (n + 1) h₀ L (fun y => if y = x1 then some v1 else if y = x2 then some v2 else m y) A) : LStep w n h₀ L m news (.Assign [.Tuple [.Name x1 p1, .Name x2 p2] k tp] e pos) sc := by
  unfold LStep
  intro mean mg mb a cd s K B F X N T hK
  refine Assign_Tuple_swapped (names := [x1, x2]) (h (lawCx w mean mg mb sc a cd h₀ L m) (lawOk es B X T) (fun _ _ e => e) s _ _ F N fun tl v h' tk' hj F' N' => ?_) (hs _) (hw _ _ _)
  obtain ⟨t, v1, v2, rfl, hm, A, hA, hl⟩ := hj
  have k1 := hx1.1
  have k2 := hx2.1
  rw [es.1] at k1 k2
  refine unpackItemsN_ (items := #[v1, v2]) F' N' (N'.isTup hm) rfl rfl fun h2 F2 N2 => ?_
  refine assignInOrder_cons (bindName_ (storeX_L (cn := Str.ofString "law") (cs := sc) F2 N2 (fun h3 F3 N3 => ?_) es.2 k2))
  refine assignInOrder_cons (bindName_ (storeX_L (cn := Str.ofString "law") (cs := sc) F3 N3 (fun h4 F4 N4 => ?_) es.2 k1))
  exact assignInOrder_nil (hK h4 _ _ A F4 (fun p hp => N4 p (hA p hp)) hl)
set_option maxRecDepth 100000 in
set_option maxHeartbeats 8000000 in
theorem step8 (w : World) (H : Pre9 w) : Pre8 w := Mine.into (by exact Mine.thru : Mine.Thru _ (by
    unfold Pre8
    intro h₀ L o1 o2 m Dn yn nn cc n_ m_ tn tm row tr co1 co2 hf0 hf1 hf2 hf3 hf4 me0 me1 me2 me3
    refine LStep.rest (st := ?st) (sc := ?sc) ?ea ?eb ?_
    case ea | eb => exact rfl
    refine LStep.ofTup ⟨rfl, rfl⟩ ln_one ln_two (fun _ => rfl) (fun _ _ _ => rfl) ?_
    intro c okL hm
    have ok := okL.ok
    have q0 := hm _ _ me0
    have hz : yn.length ≤ 1000 := by rw [hf0.length]; omega
    repeat' (first | with_reducible refine J.nil ?_ | ((with_reducible refine J.cons ?_ ?he); (case he => exact rfl)) | ((with_reducible refine J.own ok ln_law_fields (lg_law_fields w) (kp_law_fields w) ?_ ?he); (case he => exact ⟨rfl, rfl⟩)) | with_reducible refine J.tuple ?_ | ((with_reducible refine NewK.intro ?hz ?_); (case hz => exact Nat.le_of_ble_eq_true rfl); intros) | ((with_reducible refine' J.sliceTo ok ln_numbers q0 ?m hf0 ?hm ?hc hz ?_ ?hs ?ht); (case m => walk_at "mem"); (case hm => kmk_nums); (case hc => kmk_len); (case hs | ht => exact fun _ => rfl); intros) | ((with_reducible refine' J.sliceFT ok ln_numbers q0 ?m hf0 ?hm ?hc hz ?_ ?hs ?ht); (case m => walk_at "mem"); (case hm => kmk_nums); (case hc => kmk_len); (case hs | ht => exact fun _ => rfl); intros) | ((with_reducible refine' J.fields ok ?m ?hI ?hl ?_); (case m => walk_at "mem"); (case hI => with_reducible assumption); (case hl => simp; omega); intros))
    refine' Exists.intro _ (Exists.intro _ (Exists.intro _ (And.intro rfl (And.intro ?tm (Exists.intro _ (And.intro ?hs (H h₀ L o1 o2 _ Dn yn nn cc n_ m_ tn tm row tr _ _ _ _ _ _ _ _ ?f0 ?f1 ?f2 ?f3 ?f4 ?f5 ?f6 ?f7 ?f8 ?f9 ?f10 ?f11 ?f12 ?f13 ?f14 ?f15 ?f16 ?f17 ?f18 ?e0 ?e1 ?e2 ?e3 ?e4 ?e5)))))))
    case tm => with_reducible assumption
    case e0 | e1 | e2 | e3 | e4 | e5 => first | with_reducible assumption | exact rfl | assumption
    case hs =>
      repeat' (first | with_reducible refine all_cons ?_ ?_ | exact all_nil)
      all_goals walk_at "mem"
    case f10 | f11 | f13 | f14 => with_reducible assumption
    case f0 | f1 | f2 | f3 | f4 | f5 | f6 | f7 | f8 | f9 | f12 | f15 | f16 | f17 => first | walk_at "fact" | exact ⟨by walk_at "lt", by walk_at "lt"⟩ | (refine (by assumption : 1 ≤ (List.take 4 nn).length → _) ?_; rw [List.length_take]; omega)
    case f18 => first | walk_at "fact" | exact ⟨by walk_at "lt", by walk_at "lt"⟩ | (refine (by assumption : 1 ≤ (List.take 4 nn).length → _) ?_; rw [List.length_take]; omega)))
end Mine

end
-- L9j
section
open PySem PySem.Calls PySem.W PyProof.Rows PyProof.V PySem.Spec PySem.SeqAt
namespace Mine
theorem letter9 (k : Int) : (Txt.item (Str.ofString "xyz") (k.fmod 3)).length = 1 := by
  have h0 := Int.fmod_nonneg_of_pos k (show (0 : Int) < 3 by decide)
  have h1 := Int.fmod_lt_of_pos k (show (0 : Int) < 3 by decide)
  have : k.fmod 3 = 0 ∨ k.fmod 3 = 1 ∨ k.fmod 3 = 2 := by omega
  rcases this with h | h | h <;> rw [h] <;> decide +kernel
set_option maxRecDepth 100000 in
set_option maxHeartbeats 8000000 in
theorem step9 (w : World) (H : Pre10 w) : Pre9 w := Mine.into (by exact Mine.thru : Mine.Thru _ (by
    unfold Pre9
    intro h₀ L o1 o2 m Dn yn nn cc n_ m_ tn tm row tr d1 od1 kv1 c1 d2 od2 kv2 c2 co1 co2 hf0 hf1 hf2 hf3 hf4 hf5 hf6 hf7 hf8 hf9 hf10 hf11 hf12 hf13 hf14 hf15 hf16 me0 me1 me2 me3 me4 me5
    refine LStep.rest (st := ?st) (sc := ?sc) ?ea ?eb ?_
    case ea | eb => exact rfl
    refine LStep.ofAssign ⟨rfl, rfl⟩ ln_text (fun _ => rfl) ?_
    intro c okL hm hc
    have ok := okL.ok
    have q0 := hm _ _ me0
    have hI9 : IntsAre yn nn := by assumption
    have hn9 : nn.length ≤ 16 := by assumption
    have hz : yn.length ≤ 100 := by rw [hI9.length]; omega
    have hlen : (PySem.Txt.join (Str.ofString "") (nn.map fun k => Txt.item (Str.ofString "xyz") (k.fmod 3))).length = nn.length := by
      have := KT.join_ones (nn.map fun k => Txt.item (Str.ofString "xyz") (k.fmod 3)) fun a ha => (by obtain ⟨b', hb', eb⟩ := List.mem_map.1 ha; rw [← eb]; exact letter9 b')
      rw [this, List.length_map]
    with_reducible refine' J.letters ok ln_numbers q0 ?m hI9 hz ?a1 ?a2 ?a3 letter9 ?c1 ?c2 ?c3 ?c4 ?c5 ?c6 ?c7 ?c8 ?s1 ?s2 ?s3 fun t => ?_
    case m => walk_at "mem"
    case a1 => decide
    case a2 | a3 => decide +kernel
    case c1 => with_unfolding_all rfl
    case c2 => decide
    case c3 => rfl
    case c4 => decide +kernel
    case c5 => rfl
    case c6 => decide +kernel
    case c7 => exact fun _ => ⟨rfl, rfl⟩
    case c8 => exact fun _ => rfl
    case s1 => exact fun _ _ _ => rfl
    case s2 => exact fun _ _ => rfl
    case s3 => rfl
    refine' Exists.intro _ (And.intro ?hs (H h₀ L o1 o2 _ Dn yn nn cc n_ m_ tn tm row tr d1 od1 kv1 c1 d2 od2 kv2 c2 _ _ ?f0 ?f1 ?f2 ?f3 ?f4 ?f5 ?f6 ?f7 ?f8 ?f9 ?f10 ?f11 ?f12 ?f13 ?f14 ?f15 ?f16 ?f17 ?f18 ?f19 ?e0 ?e1 ?e2 ?e3 ?e4 ?e5 ?e6))
    case e0 | e1 | e2 | e3 | e4 | e5 | e6 => first | with_reducible assumption | exact rfl | assumption
    case hs =>
      repeat' (first | with_reducible refine all_cons ?_ ?_ | exact all_nil)
      all_goals walk_at "mem"
    case f0 | f1 | f2 | f3 | f4 | f5 | f6 | f7 | f8 | f9 | f10 | f11 | f12 | f13 | f14 | f15 | f16 | f17 | f18 => first | walk_at "fact" | (rw [hlen]; assumption)
    case f19 => first | walk_at "fact" | (rw [hlen]; assumption)))
end Mine

end
-- L10j
section
open PySem PySem.Calls PySem.W PyProof.Rows PyProof.V PySem.Spec PySem.SeqAt
namespace Mine
set_option maxRecDepth 100000 in
set_option maxHeartbeats 8000000 in
theorem step10 (w : World) (H : Pre11 w) : Pre10 w := Mine.into (by exact Mine.thru : Mine.Thru _ (by
    unfold Pre10
    intro h₀ L o1 o2 m Dn yn nn cc n_ m_ tn tm row tr d1 od1 kv1 c1 d2 od2 kv2 c2 tx tt co1 co2 hf0 hf1 hf2 hf3 hf4 hf5 hf6 hf7 hf8 hf9 hf10 hf11 hf12 hf13 hf14 hf15 hf16 hf17 me0 me1 me2 me3 me4 me5 me6
    refine LStep.rest (st := ?st) (sc := ?sc) ?ea ?eb ?_
    case ea | eb => exact rfl
    refine LStep.ofAssign ⟨rfl, rfl⟩ ln_first (fun _ => rfl) ?_
    intro c okL hm hc
    have ok := okL.ok
    have q0 := hm _ _ me0
    have q1 := hm _ _ me1
    have q2 := hm _ _ me2
    have q3 := hm _ _ me3
    have q4 := hm _ _ me4
    have q5 := hm _ _ me5
    have q6 := hm _ _ me6
    repeat' (first | with_reducible refine J.nil ?_ | ((with_reducible refine' J.consL ok ?hx ?hv ?_); (case hx => walk_at "loc"); (case hv => first | with_reducible assumption | exact rfl)) | ((with_reducible refine J.cons ?_ ?he); (case he => exact rfl)) | ((with_reducible refine J.own ok ln_Code (lg_Code w) (kp_Code w) ?_ ?he); (case he => exact ⟨rfl, rfl⟩)) | ((with_reducible refine J.own ok ln_law_joined (lg_law_joined w) (kp_law_joined w) ?_ ?he); (case he => exact ⟨rfl, rfl⟩)) | ((with_reducible refine J.dict0 ok ?_); intros) | ((with_reducible refine' J.joined ok ?m1 ?m2 ?lo1 ?lo2 ?hd1 ?hd2 ?hf1 ?hf2 ?hl1 ?hl2 ?_); (case m1 | m2 => walk_at "mem"); (case lo1 | lo2 | hd1 | hd2 => assumption); (case hf1 | hf2 => walk_at "flat"); (case hl1 | hl2 => walk_at "len"); intros; (try simp only [putAll_nil_r] at *)) | ((with_reducible refine' J.new_code_sd ok ?m1 ?lo1 ?hd1 ?hf1 ?_); (case m1 => walk_at "mem"); (case lo1 | hd1 => assumption); (case hf1 => walk_at "flat"); intros))
    all_goals refine' Exists.intro _ (And.intro ?hs (H h₀ L o1 o2 _ Dn yn nn cc n_ m_ tn tm row tr d1 od1 kv1 c1 d2 od2 kv2 c2 tx tt _ _ _ _ _ _ _ _ ?f0 ?f1 ?f2 ?f3 ?f4 ?f5 ?f6 ?f7 ?f8 ?f9 ?f10 ?f11 ?f12 ?f13 ?f14 ?f15 ?f16 ?f17 ?f18 ?f19 ?f20 ?f21 ?f22 ?f23 ?f24 ?f25 ?e0 ?e1 ?e2 ?e3 ?e4 ?e5 ?e6 ?e7))
    case e0 | e1 | e2 | e3 | e4 | e5 | e6 | e7 => first | with_reducible assumption | exact rfl | assumption
    case hs =>
      repeat' (first | with_reducible refine all_cons ?_ ?_ | exact all_nil)
      all_goals walk_at "mem"
    case f0 | f1 | f2 | f3 | f4 | f5 | f6 | f7 | f8 | f9 | f10 | f11 | f12 | f13 | f14 | f15 | f16 | f17 | f18 | f19 | f20 | f21 | f22 | f23 | f24 => first | (rw [← putAll_nil_r]; assumption) | walk_at "fact"
    case f25 => first | (rw [← putAll_nil_r]; assumption) | walk_at "fact"))
end Mine

end
-- L11j
section
open PySem PySem.Calls PySem.W PyProof.Rows PyProof.V PySem.Spec PySem.SeqAt
namespace Mine
set_option maxRecDepth 100000 in
set_option maxHeartbeats 8000000 in
theorem step11 (w : World) (H : Pre12 w) : Pre11 w := Mine.into (by exact Mine.thru : Mine.Thru _ (by
    unfold Pre11
    intro h₀ L o1 o2 m Dn yn nn cc n_ m_ tn tm row tr d1 od1 kv1 c1 d2 od2 kv2 c2 tx tt fx fd ft1 ft2 ft3 d3 od3 kv3 co1 co2 hf0 hf1 hf2 hf3 hf4 hf5 hf6 hf7 hf8 hf9 hf10 hf11 hf12 hf13 hf14 hf15 hf16 hf17 hf18 hf19 hf20 hf21 hf22 hf23 me0 me1 me2 me3 me4 me5 me6 me7
    refine LStep.rest (st := ?st) (sc := ?sc) ?ea ?eb ?_
    case ea | eb => exact rfl
    refine LStep.ofIf ⟨rfl, rfl⟩ ?_
    intro c okL hm hc
    have ok := okL.ok
    have q0 := hm _ _ me0
    have q1 := hm _ _ me1
    have q2 := hm _ _ me2
    have q3 := hm _ _ me3
    have q4 := hm _ _ me4
    have q5 := hm _ _ me5
    have q6 := hm _ _ me6
    have q7 := hm _ _ me7
    have hq1 : dEq c1 c1 = true := dEq_self (nodup_of hf8 hf9)
    repeat' (first | with_reducible refine J.nil ?_ | ((with_reducible refine' J.lastL ok ?hx ?hv ?_); (case hx => walk_at "loc"); (case hv => first | with_reducible assumption | exact rfl)) | ((with_reducible refine' J.consL ok ?hx ?hv ?_); (case hx => walk_at "loc"); (case hv => first | with_reducible assumption | exact rfl)) | ((with_reducible refine J.cons ?_ ?he); (case he => exact rfl)) | ((with_reducible refine' J.l ok ?hx ?hv ?_); (case hx => walk_at "loc"); (case hv => first | with_reducible assumption | exact rfl)) | ((with_reducible refine J.own ok ln_Code (lg_Code w) (kp_Code w) ?_ ?he); (case he => exact ⟨rfl, rfl⟩)) | with_reducible refine J.none ?_ | with_reducible refine J.list ?_ | ((with_reducible refine NewK.intro ?hz ?_); (case hz => exact Nat.le_of_ble_eq_true rfl); intros) | ((with_reducible refine J.tcmp ?_ ?he); (case he => exact rfl)) | with_reducible refine J.tor ?_ | with_reducible refine J.tornil ?_ | with_reducible refine J.tb ?_ | ((with_reducible refine And.intro (?hb : _ = false) ?_); (case hb => rfl)) | ((with_reducible refine J.keys ?c1 ?c2 ?c3 ?c4 ?c5 ?c6 ?c8 ?_); (case c1 | c2 => decide); (case c3 => exact rfl); (case c4 => decide); (case c5 => exact rfl); (case c6 => decide); (case c8 => intro _; with_unfolding_all rfl)) | ((with_reducible refine' KeysK.intro ?m ?lo ?hd ?hf ?hl ?_); (case m => walk_at "mem"); (case lo | hd => assumption); (case hf => walk_at "flat"); (case hl => walk_at "len"); intros) | ((with_reducible refine' J.new_code_s ok ?_); intros) | with_reducible refine J.Attr ?_ | ((with_reducible refine J.AttrA ?_ ?he); (case he => rfl)) | ((with_reducible refine' J.own_attr ok ?mx ?md (ga_text w) ?hg ?hh ?_); (case mx | md => walk_at "mem"); (case hg => k_get); (case hh => rfl)) | ((with_reducible refine' J.scope_r ok ?mx ?md ?_); (case mx | md => walk_at "mem")) | ((with_reducible refine' J.scope_n ok ?mx ?md ?_); (case mx | md => walk_at "mem")) | ((with_reducible refine' J.neL ok ?ma ?mb ?he ?hr ?_); (case ma | mb => walk_at "mem"); (case he => repeat' (first | exact EqJs.nil | with_reducible refine' EqJs.cons ?_ ?_ | with_reducible exact EqJ.str | with_reducible exact EqJ.int | with_reducible exact EqJ.bool | with_reducible exact EqJ.none | with_reducible exact EqJ.bytes | with_reducible exact EqJ.base | exact EqJs.strs (by assumption) (by assumption) rfl | ((with_reducible refine' EqJ.dicts ok ?hk ?hne ?ma ?mb ?lo1 ?lo2 ?hd1 ?hd2 ?hf1 ?hf2); (case hk => exact Nat.le_of_ble_eq_true rfl); (case ma | mb => walk_at "mem"); (case hne => walk_at "ne"); (case lo1 | lo2 | hd1 | hd2 => assumption); (case hf1 | hf2 => walk_at "flat")) | with_reducible exact EqJ.none)); (case hr => first | exact beq_self_eq_true _ | simp [hq1])))
    all_goals refine' And.intro ?hb (Exists.intro _ (And.intro ?hs (H h₀ L o1 o2 _ Dn yn nn cc n_ m_ tn tm row tr d1 od1 kv1 c1 d2 od2 kv2 c2 tx tt fx fd ft1 ft2 ft3 d3 od3 kv3 ?f0 ?f1 ?f2 ?f3 ?f4 ?f5 ?f6 ?f7 ?f8 ?f9 ?f10 ?f11 ?f12 ?f13 ?f14 ?f15 ?f16 ?f17 ?f18 ?f19 ?f20 ?f21 ?f22 ?f23 ?f24 ?f25 ?e0 ?e1 ?e2 ?e3 ?e4 ?e5 ?e6 ?e7)))
    case hb => rfl
    case e0 | e1 | e2 | e3 | e4 | e5 | e6 | e7 => first | with_reducible assumption | exact rfl | assumption
    case hs =>
      repeat' (first | with_reducible refine all_cons ?_ ?_ | exact all_nil)
      all_goals walk_at "mem"
    case f0 | f1 | f2 | f3 | f4 | f5 | f6 | f7 | f8 | f9 | f10 | f11 | f12 | f13 | f14 | f15 | f16 | f17 | f18 | f19 | f20 | f21 | f22 | f23 | f24 => walk_at "fact"
    case f25 => walk_at "fact"))
end Mine

end
-- L12j
section
open PySem PySem.Calls PySem.W PyProof.Rows PyProof.V PySem.Spec PySem.SeqAt
namespace Mine
set_option maxRecDepth 100000 in
set_option maxHeartbeats 8000000 in
theorem step12 (w : World) (H : Pre13 w) : Pre12 w := Mine.into (by exact Mine.thru : Mine.Thru _ (by
    unfold Pre12
    intro h₀ L o1 o2 m Dn yn nn cc n_ m_ tn tm row tr d1 od1 kv1 c1 d2 od2 kv2 c2 tx tt fx fd ft1 ft2 ft3 d3 od3 kv3 co1 co2 hf0 hf1 hf2 hf3 hf4 hf5 hf6 hf7 hf8 hf9 hf10 hf11 hf12 hf13 hf14 hf15 hf16 hf17 hf18 hf19 hf20 hf21 hf22 hf23 me0 me1 me2 me3 me4 me5 me6 me7
    refine LStep.rest (st := ?st) (sc := ?sc) ?ea ?eb ?_
    case ea | eb => exact rfl
    refine LStep.ofAssign ⟨rfl, rfl⟩ ln_second (fun _ => rfl) ?_
    intro c okL hm hc
    have ok := okL.ok
    have q0 := hm _ _ me0
    have q1 := hm _ _ me1
    have q2 := hm _ _ me2
    have q3 := hm _ _ me3
    have q4 := hm _ _ me4
    have q5 := hm _ _ me5
    have q6 := hm _ _ me6
    have q7 := hm _ _ me7
    repeat' (first | with_reducible refine J.nil ?_ | ((with_reducible refine' J.consL ok ?hx ?hv ?_); (case hx => walk_at "loc"); (case hv => first | with_reducible assumption | exact rfl)) | ((with_reducible refine J.cons ?_ ?he); (case he => exact rfl)) | ((with_reducible refine' J.l ok ?hx ?hv ?_); (case hx => walk_at "loc"); (case hv => first | with_reducible assumption | exact rfl)) | ((with_reducible refine J.own ok ln_Code (lg_Code w) (kp_Code w) ?_ ?he); (case he => exact ⟨rfl, rfl⟩)) | ((with_reducible refine J.own ok ln_law_joined (lg_law_joined w) (kp_law_joined w) ?_ ?he); (case he => exact ⟨rfl, rfl⟩)) | ((with_reducible refine J.int ?_); intro _) | with_reducible refine J.bin ?_ | ((with_reducible refine J.dict0 ok ?_); intros) | ((with_reducible refine' J.joined ok ?m1 ?m2 ?lo1 ?lo2 ?hd1 ?hd2 ?hf1 ?hf2 ?hl1 ?hl2 ?_); (case m1 | m2 => walk_at "mem"); (case lo1 | lo2 | hd1 | hd2 => assumption); (case hf1 | hf2 => walk_at "flat"); (case hl1 | hl2 => walk_at "len"); intros; (try simp only [putAll_nil_r] at *)) | ((with_reducible refine' J.new_code_sd ok ?m1 ?lo1 ?hd1 ?hf1 ?_); (case m1 => walk_at "mem"); (case lo1 | hd1 => assumption); (case hf1 => walk_at "flat"); intros) | ((with_reducible refine' J.new_code_cdk ok ?m1 ?m2 ?m3 ?m4 ?hxk ?lo0 ?lo2 ?hd0 ?hd2 ?hf0 ?hf2 ?hl0 ?hl2 ?_); (case m1 | m2 | m3 | m4 => walk_at "mem"); (case hxk => exact And.intro (by walk_at "lt") (And.intro (by walk_at "lt") (by walk_at "lt"))); (case lo0 | lo2 | hd0 | hd2 => assumption); (case hf0 | hf2 => walk_at "flat"); (case hl0 | hl2 => walk_at "len"); intros) | ((with_reducible refine J.callKW1 ok ln_Code (lg_Code w) (kp_Code w) ?_ ?he); (case he => exact ⟨rfl, rfl⟩)) | ((with_reducible refine J.mod ?hb ?_); (case hb => decide); intro _))
    all_goals refine' Exists.intro _ (And.intro ?hs (H h₀ L o1 o2 _ Dn yn nn cc n_ m_ tn tm row tr d1 od1 kv1 c1 d2 od2 kv2 c2 tx tt fx fd ft1 ft2 ft3 d3 od3 kv3 _ _ _ _ _ _ _ _ ?f0 ?f1 ?f2 ?f3 ?f4 ?f5 ?f6 ?f7 ?f8 ?f9 ?f10 ?f11 ?f12 ?f13 ?f14 ?f15 ?f16 ?f17 ?f18 ?f19 ?f20 ?f21 ?f22 ?f23 ?f24 ?f25 ?f26 ?f27 ?f28 ?f29 ?f30 ?f31 ?e0 ?e1 ?e2 ?e3 ?e4 ?e5 ?e6 ?e7 ?e8))
    case e0 | e1 | e2 | e3 | e4 | e5 | e6 | e7 | e8 => first | with_reducible assumption | exact rfl | assumption
    case hs =>
      repeat' (first | with_reducible refine all_cons ?_ ?_ | exact all_nil)
      all_goals first | (walk_at "mem"; done) | exact (by with_reducible assumption : ∀ p ∈ _, @LT.lt Nat _ p.1 _ → p ∈ _) _ (by walk_at "mem") (lt_d (by assumption) (by walk_at "mem"))
    case f0 | f1 | f2 | f3 | f4 | f5 | f6 | f7 | f8 | f9 | f10 | f11 | f12 | f13 | f14 | f15 | f16 | f17 | f18 | f19 | f20 | f21 | f22 | f23 | f24 | f25 | f26 | f27 | f28 | f29 | f30 => first | (rw [← putAll_nil_r]; assumption) | walk_at "fact"
    case f31 => first | (rw [← putAll_nil_r]; assumption) | walk_at "fact"))
end Mine

end
-- L13j
section
open PySem PySem.Calls PySem.W PyProof.Rows PyProof.V PySem.Spec PySem.SeqAt
namespace Mine
set_option maxRecDepth 100000 in
set_option maxHeartbeats 8000000 in
theorem step13 (w : World) (H : Pre14 w) : Pre13 w := Mine.into (by exact Mine.thru : Mine.Thru _ (by
    unfold Pre13
    intro h₀ L o1 o2 m Dn yn nn cc n_ m_ tn tm row tr d1 od1 kv1 c1 d2 od2 kv2 c2 tx tt fx fd ft1 ft2 ft3 d3 od3 kv3 sx sd st1 st2 st3 d4 od4 kv4 co1 co2 hf0 hf1 hf2 hf3 hf4 hf5 hf6 hf7 hf8 hf9 hf10 hf11 hf12 hf13 hf14 hf15 hf16 hf17 hf18 hf19 hf20 hf21 hf22 hf23 hf24 hf25 hf26 hf27 hf28 hf29 me0 me1 me2 me3 me4 me5 me6 me7 me8
    refine LStep.rest (st := ?st) (sc := ?sc) ?ea ?eb ?_
    case ea | eb => exact rfl
    refine LStep.ofAssign ⟨rfl, rfl⟩ ln_due (fun _ => rfl) ?_
    intro c okL hm hc
    have ok := okL.ok
    have q0 := hm _ _ me0
    have q1 := hm _ _ me1
    have q2 := hm _ _ me2
    have q3 := hm _ _ me3
    have q4 := hm _ _ me4
    have q5 := hm _ _ me5
    have q6 := hm _ _ me6
    have q7 := hm _ _ me7
    have q8 := hm _ _ me8
    repeat' (first | with_reducible refine J.nil ?_ | ((with_reducible refine' J.lastL ok ?hx ?hv ?_); (case hx => walk_at "loc"); (case hv => first | with_reducible assumption | exact rfl)) | ((with_reducible refine' J.consL ok ?hx ?hv ?_); (case hx => walk_at "loc"); (case hv => first | with_reducible assumption | exact rfl)) | ((with_reducible refine J.cons ?_ ?he); (case he => exact rfl)) | ((with_reducible refine J.own ok ln_law_joined (lg_law_joined w) (kp_law_joined w) ?_ ?he); (case he => exact ⟨rfl, rfl⟩)) | ((with_reducible refine' J.joined ok ?m1 ?m2 ?lo1 ?lo2 ?hd1 ?hd2 ?hf1 ?hf2 ?hl1 ?hl2 ?_); (case m1 | m2 => walk_at "mem"); (case lo1 | lo2 | hd1 | hd2 => assumption); (case hf1 | hf2 => walk_at "flat"); (case hl1 | hl2 => walk_at "len"); intros; (try simp only [putAll_nil_r] at *)) | ((with_reducible refine' J.dict1 ok ?he ?_); (case he => first | with_reducible exact jint_c | exact jint_mod ok ln_m (by with_reducible assumption) (by decide) | exact jint_mod ok ln_n (by with_reducible assumption) (by decide)); intros))
    all_goals refine' Exists.intro _ (And.intro ?hs (H h₀ L o1 o2 _ Dn yn nn cc n_ m_ tn tm row tr d1 od1 kv1 c1 d2 od2 kv2 c2 tx tt fx fd ft1 ft2 ft3 d3 od3 kv3 sx sd st1 st2 st3 d4 od4 kv4 _ _ _ ?f0 ?f1 ?f2 ?f3 ?f4 ?f5 ?f6 ?f7 ?f8 ?f9 ?f10 ?f11 ?f12 ?f13 ?f14 ?f15 ?f16 ?f17 ?f18 ?f19 ?f20 ?f21 ?f22 ?f23 ?f24 ?f25 ?f26 ?f27 ?f28 ?f29 ?f30 ?f31 ?f32 ?f33 ?f34 ?f35 ?e0 ?e1 ?e2 ?e3 ?e4 ?e5 ?e6 ?e7 ?e8 ?e9))
    case e0 | e1 | e2 | e3 | e4 | e5 | e6 | e7 | e8 | e9 => first | with_reducible assumption | exact rfl | assumption
    case hs =>
      repeat' (first | with_reducible refine all_cons ?_ ?_ | exact all_nil)
      all_goals walk_at "mem"
    case f0 | f1 | f2 | f3 | f4 | f5 | f6 | f7 | f8 | f9 | f10 | f11 | f12 | f13 | f14 | f15 | f16 | f17 | f18 | f19 | f20 | f21 | f22 | f23 | f24 | f25 | f26 | f27 | f28 | f29 | f30 | f31 | f32 | f33 | f34 => walk_at "fact"
    case f35 => walk_at "fact"))
end Mine

end
-- L14j
section
open PySem PySem.Calls PySem.W PyProof.Rows PyProof.V PySem.Spec PySem.SeqAt
namespace Mine
set_option maxRecDepth 100000 in
set_option maxHeartbeats 8000000 in
theorem step14 (w : World) (H : Pre15 w) : Pre14 w := Mine.into (by exact Mine.thru : Mine.Thru _ (by
    unfold Pre14
    intro h₀ L o1 o2 m Dn yn nn cc n_ m_ tn tm row tr d1 od1 kv1 c1 d2 od2 kv2 c2 tx tt fx fd ft1 ft2 ft3 d3 od3 kv3 sx sd st1 st2 st3 d4 od4 kv4 d5 od5 kv5 co1 co2 hf0 hf1 hf2 hf3 hf4 hf5 hf6 hf7 hf8 hf9 hf10 hf11 hf12 hf13 hf14 hf15 hf16 hf17 hf18 hf19 hf20 hf21 hf22 hf23 hf24 hf25 hf26 hf27 hf28 hf29 hf30 hf31 hf32 hf33 me0 me1 me2 me3 me4 me5 me6 me7 me8 me9
    refine LStep.rest (st := ?st) (sc := ?sc) ?ea ?eb ?_
    case ea | eb => exact rfl
    refine LStep.ofIf ⟨rfl, rfl⟩ ?_
    intro c okL hm hc
    have ok := okL.ok
    have q0 := hm _ _ me0
    have q1 := hm _ _ me1
    have q2 := hm _ _ me2
    have q3 := hm _ _ me3
    have q4 := hm _ _ me4
    have q5 := hm _ _ me5
    have q6 := hm _ _ me6
    have q7 := hm _ _ me7
    have q8 := hm _ _ me8
    have q9 := hm _ _ me9
    have hlen8 : (putAll c1 c2).length ≤ 8 := Nat.le_trans (putAll_len c2 c1) (by omega)
    have hlen9 : (putAll (putAll c1 c2) [(Str.ofString "b", m_.fmod 9)]).length ≤ 9 := Nat.le_trans (putAll_len [(Str.ofString "b", m_.fmod 9)] (putAll c1 c2)) (by simp only [List.length_cons, List.length_nil]; omega)
    have hq1 : dEq (putAll (putAll c1 c2) [(Str.ofString "b", m_.fmod 9)]) (putAll (putAll c1 c2) [(Str.ofString "b", m_.fmod 9)]) = true := dEq_self (nodup_of (by assumption : od5.IsDictOf (strK w) kv5) (by assumption))
    repeat' (first | with_reducible refine J.nil ?_ | ((with_reducible refine' J.consL ok ?hx ?hv ?_); (case hx => walk_at "loc"); (case hv => first | with_reducible assumption | exact rfl)) | ((with_reducible refine J.cons ?_ ?he); (case he => exact rfl)) | ((with_reducible refine' J.l ok ?hx ?hv ?_); (case hx => walk_at "loc"); (case hv => first | with_reducible assumption | exact rfl)) | with_reducible refine J.list ?_ | ((with_reducible refine NewK.intro ?hz ?_); (case hz => exact Nat.le_of_ble_eq_true rfl); intros) | ((with_reducible refine J.tcmp ?_ ?he); (case he => exact rfl)) | with_reducible refine J.tb ?_ | ((with_reducible refine J.keys ?c1 ?c2 ?c3 ?c4 ?c5 ?c6 ?c8 ?_); (case c1 | c2 => decide); (case c3 => exact rfl); (case c4 => decide); (case c5 => exact rfl); (case c6 => decide); (case c8 => intro _; with_unfolding_all rfl)) | ((with_reducible refine' KeysK.intro ?m ?lo ?hd ?hf ?hl ?_); (case m => walk_at "mem"); (case lo | hd => assumption); (case hf => walk_at "flat"); (case hl => walk_at "len"); intros) | with_reducible refine J.Attr ?_ | ((with_reducible refine' J.own_attr ok ?mx ?md (ga_text w) ?hg ?hh ?_); (case mx | md => walk_at "mem"); (case hg => k_get); (case hh => rfl)) | ((with_reducible refine' J.scope_r ok ?mx ?md ?_); (case mx | md => walk_at "mem")) | ((with_reducible refine' J.neL ok ?ma ?mb ?he ?hr ?_); (case ma | mb => walk_at "mem"); (case he => repeat' (first | exact EqJs.nil | with_reducible refine' EqJs.cons ?_ ?_ | with_reducible exact EqJ.str | with_reducible exact EqJ.int | with_reducible exact EqJ.bool | with_reducible exact EqJ.none | with_reducible exact EqJ.bytes | with_reducible exact EqJ.base | exact EqJs.strs (by assumption) (by assumption) rfl | ((with_reducible refine' EqJ.lists ok ?hk ?hne ?ma ?mb ?_); (case hk => exact Nat.le_of_ble_eq_true rfl); (case ma | mb => walk_at "mem"); (case hne => exact ne_of_all (by assumption) (by walk_at "mem"))) | ((with_reducible refine' EqJ.dicts ok ?hk ?hne ?ma ?mb ?lo1 ?lo2 ?hd1 ?hd2 ?hf1 ?hf2); (case hk => exact Nat.le_of_ble_eq_true rfl); (case ma | mb => walk_at "mem"); (case hne => walk_at "ne"); (case lo1 | lo2 | hd1 | hd2 => assumption); (case hf1 | hf2 => walk_at "flat")) | with_reducible exact EqJ.none)); (case hr => first | exact beq_self_eq_true _ | simp [hq1])))
    all_goals refine' And.intro ?hb (Exists.intro _ (And.intro ?hs (H h₀ L o1 o2 _ Dn yn nn cc n_ m_ tn tm row tr d1 od1 kv1 c1 d2 od2 kv2 c2 tx tt fx fd ft1 ft2 ft3 d3 od3 kv3 sx sd st1 st2 st3 d4 od4 kv4 d5 od5 kv5 ?f0 ?f1 ?f2 ?f3 ?f4 ?f5 ?f6 ?f7 ?f8 ?f9 ?f10 ?f11 ?f12 ?f13 ?f14 ?f15 ?f16 ?f17 ?f18 ?f19 ?f20 ?f21 ?f22 ?f23 ?f24 ?f25 ?f26 ?f27 ?f28 ?f29 ?f30 ?f31 ?f32 ?f33 ?f34 ?f35 ?e0 ?e1 ?e2 ?e3 ?e4 ?e5 ?e6 ?e7 ?e8 ?e9)))
    case hb => rfl
    case e0 | e1 | e2 | e3 | e4 | e5 | e6 | e7 | e8 | e9 => first | with_reducible assumption | exact rfl | assumption
    case hs =>
      repeat' (first | with_reducible refine all_cons ?_ ?_ | exact all_nil)
      all_goals walk_at "mem"
    case f0 | f1 | f2 | f3 | f4 | f5 | f6 | f7 | f8 | f9 | f10 | f11 | f12 | f13 | f14 | f15 | f16 | f17 | f18 | f19 | f20 | f21 | f22 | f23 | f24 | f25 | f26 | f27 | f28 | f29 | f30 | f31 | f32 | f33 | f34 => walk_at "fact"
    case f35 => walk_at "fact"))
end Mine

end
-- L15j
section
open PySem PySem.Calls PySem.W PyProof.Rows PyProof.V PySem.Spec PySem.SeqAt
namespace Mine
set_option maxRecDepth 100000 in
set_option maxHeartbeats 8000000 in
theorem step15 (w : World) (H : Pre16 w) : Pre15 w := Mine.into (by exact Mine.thru : Mine.Thru _ (by
    unfold Pre15
    intro h₀ L o1 o2 m Dn yn nn cc n_ m_ tn tm row tr d1 od1 kv1 c1 d2 od2 kv2 c2 tx tt fx fd ft1 ft2 ft3 d3 od3 kv3 sx sd st1 st2 st3 d4 od4 kv4 d5 od5 kv5 co1 co2 hf0 hf1 hf2 hf3 hf4 hf5 hf6 hf7 hf8 hf9 hf10 hf11 hf12 hf13 hf14 hf15 hf16 hf17 hf18 hf19 hf20 hf21 hf22 hf23 hf24 hf25 hf26 hf27 hf28 hf29 hf30 hf31 hf32 hf33 me0 me1 me2 me3 me4 me5 me6 me7 me8 me9
    refine LStep.rest (st := ?st) (sc := ?sc) ?ea ?eb ?_
    case ea | eb => exact rfl
    refine LStep.ofAssign ⟨rfl, rfl⟩ ln_named (fun _ => rfl) ?_
    intro c okL hm hc
    have ok := okL.ok
    have q0 := hm _ _ me0
    have q1 := hm _ _ me1
    have q2 := hm _ _ me2
    have q3 := hm _ _ me3
    have q4 := hm _ _ me4
    have q5 := hm _ _ me5
    have q6 := hm _ _ me6
    have q7 := hm _ _ me7
    have q8 := hm _ _ me8
    have q9 := hm _ _ me9
    repeat' (first | with_reducible refine J.nil ?_ | ((with_reducible refine' J.lastL ok ?hx ?hv ?_); (case hx => walk_at "loc"); (case hv => first | with_reducible assumption | exact rfl)) | ((with_reducible refine J.cons ?_ ?he); (case he => exact rfl)) | ((with_reducible refine' J.l ok ?hx ?hv ?_); (case hx => walk_at "loc"); (case hv => first | with_reducible assumption | exact rfl)) | ((with_reducible refine J.own ok ln_Code (lg_Code w) (kp_Code w) ?_ ?he); (case he => exact ⟨rfl, rfl⟩)) | ((with_reducible refine J.int ?_); intro _) | with_reducible refine J.list ?_ | ((with_reducible refine NewK.intro ?hz ?_); (case hz => exact Nat.le_of_ble_eq_true rfl); intros) | with_reducible refine J.bin ?_ | ((with_reducible refine' J.new_code_kw ok ?_); intros) | ((with_reducible refine' J.new_code_c ok ?m1 ?m2 ?_); (case m1 | m2 => walk_at "mem"); intros) | ((with_reducible refine' J.new_code_ck ok ?m1 ?m2 ?_); (case m1 | m2 => walk_at "mem"); intros) | ((with_reducible refine' J.new_code_s ok ?_); intros) | ((with_reducible refine J.callKW1 ok ln_Code (lg_Code w) (kp_Code w) ?_ ?he); (case he => exact ⟨rfl, rfl⟩)) | ((with_reducible refine J.mod ?hb ?_); (case hb => decide); intro _))
    all_goals refine' Exists.intro _ (And.intro ?hs (H h₀ L o1 o2 _ Dn yn nn cc n_ m_ tn tm row tr d1 od1 kv1 c1 d2 od2 kv2 c2 tx tt fx fd ft1 ft2 ft3 d3 od3 kv3 sx sd st1 st2 st3 d4 od4 kv4 d5 od5 kv5 _ _ _ _ _ _ _ _ _ _ _ _ _ _ _ _ _ _ _ _ _ _ _ ?f0 ?f1 ?f2 ?f3 ?f4 ?f5 ?f6 ?f7 ?f8 ?f9 ?f10 ?f11 ?f12 ?f13 ?f14 ?f15 ?f16 ?f17 ?f18 ?f19 ?f20 ?f21 ?f22 ?f23 ?f24 ?f25 ?f26 ?f27 ?f28 ?f29 ?f30 ?f31 ?f32 ?f33 ?f34 ?f35 ?f36 ?f37 ?f38 ?f39 ?f40 ?f41 ?e0 ?e1 ?e2 ?e3 ?e4 ?e5 ?e6 ?e7 ?e8 ?e9 ?e10))
    case e0 | e1 | e2 | e3 | e4 | e5 | e6 | e7 | e8 | e9 | e10 => first | with_reducible assumption | exact rfl | assumption
    case hs =>
      repeat' (first | with_reducible refine all_cons ?_ ?_ | exact all_nil)
      all_goals walk_at "mem"
    case f0 | f1 | f2 | f3 | f4 | f5 | f6 | f7 | f8 | f9 | f10 | f11 | f12 | f13 | f14 | f15 | f16 | f17 | f18 | f19 | f20 | f21 | f22 | f23 | f24 | f25 | f26 | f27 | f28 | f29 | f30 | f31 | f32 | f33 | f34 | f35 | f36 | f37 | f38 | f39 | f40 => walk_at "fact"
    case f41 => walk_at "fact"))
end Mine

end
-- L16j
section
open PySem PySem.Calls PySem.W PyProof.Rows PyProof.V PySem.Spec PySem.SeqAt
namespace Mine
set_option maxRecDepth 100000 in
set_option maxHeartbeats 8000000 in
theorem step16 (w : World) (H : Pre17 w) : Pre16 w := Mine.into (by exact Mine.thru : Mine.Thru _ (by
    unfold Pre16
    intro h₀ L o1 o2 m Dn yn nn cc n_ m_ tn tm row tr d1 od1 kv1 c1 d2 od2 kv2 c2 tx tt fx fd ft1 ft2 ft3 d3 od3 kv3 sx sd st1 st2 st3 d4 od4 kv4 d5 od5 kv5 nD nk x1 e1 n1u1 n1u2 n1u3 x2 e2 n2u1 n2u2 n2u3 x3 e3 n3u1 n3u2 n3u3 k1 ok1 kw1 k3 ok3 kw3 co1 co2 hf0 hf1 hf2 hf3 hf4 hf5 hf6 hf7 hf8 hf9 hf10 hf11 hf12 hf13 hf14 hf15 hf16 hf17 hf18 hf19 hf20 hf21 hf22 hf23 hf24 hf25 hf26 hf27 hf28 hf29 hf30 hf31 hf32 hf33 hf34 hf35 hf36 hf37 hf38 hf39 me0 me1 me2 me3 me4 me5 me6 me7 me8 me9 me10
    refine LStep.rest (st := ?st) (sc := ?sc) ?ea ?eb ?_
    case ea | eb => exact rfl
    refine LStep.ofIf ⟨rfl, rfl⟩ ?_
    intro c okL hm hc
    have ok := okL.ok
    have q0 := hm _ _ me0
    have q1 := hm _ _ me1
    have q2 := hm _ _ me2
    have q3 := hm _ _ me3
    have q4 := hm _ _ me4
    have q5 := hm _ _ me5
    have q6 := hm _ _ me6
    have q7 := hm _ _ me7
    have q8 := hm _ _ me8
    have q9 := hm _ _ me9
    have q10 := hm _ _ me10
    repeat' (first | with_reducible refine J.nil ?_ | ((with_reducible refine' J.lastL ok ?hx ?hv ?_); (case hx => walk_at "loc"); (case hv => first | with_reducible assumption | exact rfl)) | ((with_reducible refine' J.consL ok ?hx ?hv ?_); (case hx => walk_at "loc"); (case hv => first | with_reducible assumption | exact rfl)) | ((with_reducible refine J.cons ?_ ?he); (case he => exact rfl)) | ((with_reducible refine' J.l ok ?hx ?hv ?_); (case hx => walk_at "loc"); (case hv => first | with_reducible assumption | exact rfl)) | with_reducible refine J.none ?_ | with_reducible refine J.list ?_ | ((with_reducible refine NewK.intro ?hz ?_); (case hz => exact Nat.le_of_ble_eq_true rfl); intros) | ((with_reducible refine J.tcmp ?_ ?he); (case he => exact rfl)) | with_reducible refine J.tor ?_ | with_reducible refine J.tornil ?_ | with_reducible refine J.tb ?_ | ((with_reducible refine And.intro (?hb : _ = false) ?_); (case hb => rfl)) | ((with_reducible show J c (eval (Expr.ListComp (Expr.Attribute (Expr.Name _ _) _ _) _ _ _) _) _ _); (refine J.comp (T := fun v => getAttr v (Str.ofString "scope") true) (cl := []) ?c1 ?c2 ?c3 ?c4 ?c5 ?c8 ?helt ?_); (case c1 => with_unfolding_all rfl); (case c2 => decide); (case c3 => exact rfl); (case c4 => decide); (case c5 => exact rfl); (case c8 => intro _; with_unfolding_all rfl); (case helt => intro C oC m₂ s Q E v tl nn _ _ N hC hns hx F hq; exact Attribute_Name_ (wpAny_Name (wpAny_loadName_local rfl rfl (hns.ns (N.get hC)) hx hq) (by decide)))) | ((with_reducible show J c (eval (Expr.ListComp (Expr.Attribute (Expr.Name _ _) _ _) _ _ _) _) _ _); (refine J.comp (T := fun v => getAttr v (Str.ofString "text") true) (cl := []) ?c1 ?c2 ?c3 ?c4 ?c5 ?c8 ?helt ?_); (case c1 => with_unfolding_all rfl); (case c2 => decide); (case c3 => exact rfl); (case c4 => decide); (case c5 => exact rfl); (case c8 => intro _; with_unfolding_all rfl); (case helt => intro C oC m₂ s Q E v tl nn _ _ N hC hns hx F hq; exact Attribute_Name_ (wpAny_Name (wpAny_loadName_local rfl rfl (hns.ns (N.get hC)) hx hq) (by decide)))) | ((with_reducible refine And.intro (fun _ hp => hp) ?_); (refine' CompK.intro ?m ?hz ?hp ?_); (case m => walk_at "mem"); (case hz => exact Nat.le_of_ble_eq_true rfl); (case hp => repeat' (first | exact Pures.nil | (refine' Pures.cons (fun nn hs => ?_) ?_) | ((with_reducible refine' J.scope_r ok ?mx ?md ?_); (case mx | md => walk_at "mem"); exact ⟨rfl, rfl⟩) | ((with_reducible refine' J.scope_n ok ?mx ?md ?_); (case mx | md => walk_at "mem"); exact ⟨rfl, rfl⟩) | ((with_reducible refine' J.own_attr ok ?mx ?md (ga_text w) ?hg ?hh ?_); (case mx | md => walk_at "mem"); (case hg => k_get); (case hh => rfl); exact ⟨rfl, rfl⟩))); intros) | ((with_reducible refine' J.dict1 ok ?he ?_); (case he => first | with_reducible exact jint_c | exact jint_mod ok ln_m (by with_reducible assumption) (by decide) | exact jint_mod ok ln_n (by with_reducible assumption) (by decide)); intros) | ((with_reducible refine' J.neL ok ?ma ?mb ?he ?hr ?_); (case ma | mb => walk_at "mem"); (case he => repeat' (first | exact EqJs.nil | with_reducible refine' EqJs.cons ?_ ?_ | with_reducible exact EqJ.str | with_reducible exact EqJ.int | with_reducible exact EqJ.bool | with_reducible exact EqJ.none | with_reducible exact EqJ.bytes | with_reducible exact EqJ.base | ((with_reducible refine' EqJ.dicts ok ?hk ?hne ?ma ?mb ?lo1 ?lo2 ?hd1 ?hd2 ?hf1 ?hf2); (case hk => exact Nat.le_of_ble_eq_true rfl); (case ma | mb => walk_at "mem"); (case hne => walk_at "ne"); (case lo1 | lo2 | hd1 | hd2 => assumption); (case hf1 | hf2 => walk_at "flat")) | with_reducible exact EqJ.none)); (case hr => first | (rw [dEq_self (c := [(Str.ofString "a", (1 : Int))]) (by simp), dEq_self (c := [(Str.ofString "a", n_.fmod 5)]) (by simp)]; rfl) | simp)))
    all_goals refine' And.intro ?hb (Exists.intro _ (And.intro ?hs (H h₀ L o1 o2 _ Dn yn nn cc n_ m_ tn tm row tr d1 od1 kv1 c1 d2 od2 kv2 c2 tx tt fx fd ft1 ft2 ft3 d3 od3 kv3 sx sd st1 st2 st3 d4 od4 kv4 d5 od5 kv5 ?f0 ?f1 ?f2 ?f3 ?f4 ?f5 ?f6 ?f7 ?f8 ?f9 ?f10 ?f11 ?f12 ?f13 ?f14 ?f15 ?f16 ?f17 ?f18 ?f19 ?f20 ?f21 ?f22 ?f23 ?f24 ?f25 ?f26 ?f27 ?f28 ?f29 ?f30 ?f31 ?f32 ?f33 ?f34 ?f35 ?e0 ?e1 ?e2 ?e3 ?e4 ?e5 ?e6 ?e7 ?e8 ?e9)))
    case hb => rfl
    case e0 | e1 | e2 | e3 | e4 | e5 | e6 | e7 | e8 | e9 => first | with_reducible assumption | exact rfl | assumption
    case hs =>
      repeat' (first | with_reducible refine all_cons ?_ ?_ | exact all_nil)
      all_goals walk_at "mem"
    case f0 | f1 | f2 | f3 | f4 | f5 | f6 | f7 | f8 | f9 | f10 | f11 | f12 | f13 | f14 | f15 | f16 | f17 | f18 | f19 | f20 | f21 | f22 | f23 | f24 | f25 | f26 | f27 | f28 | f29 | f30 | f31 | f32 | f33 | f34 => walk_at "fact"
    case f35 => walk_at "fact"))
end Mine

end
-- L17j
section
open PySem PySem.Calls PySem.W PyProof.Rows PyProof.V PySem.Spec PySem.SeqAt
namespace Mine
set_option maxRecDepth 100000 in
set_option maxHeartbeats 8000000 in
theorem step17 (w : World) (H : Pre18 w) : Pre17 w := Mine.into (by exact Mine.thru : Mine.Thru _ (by
    unfold Pre17
    intro h₀ L o1 o2 m Dn yn nn cc n_ m_ tn tm row tr d1 od1 kv1 c1 d2 od2 kv2 c2 tx tt fx fd ft1 ft2 ft3 d3 od3 kv3 sx sd st1 st2 st3 d4 od4 kv4 d5 od5 kv5 co1 co2 hf0 hf1 hf2 hf3 hf4 hf5 hf6 hf7 hf8 hf9 hf10 hf11 hf12 hf13 hf14 hf15 hf16 hf17 hf18 hf19 hf20 hf21 hf22 hf23 hf24 hf25 hf26 hf27 hf28 hf29 hf30 hf31 hf32 hf33 me0 me1 me2 me3 me4 me5 me6 me7 me8 me9
    refine LStep.rest (st := ?st) (sc := ?sc) ?ea ?eb ?_
    case ea | eb => exact rfl
    refine LStep.ofIf ⟨rfl, rfl⟩ ?_
    intro c okL hm hc
    have ok := okL.ok
    have q0 := hm _ _ me0
    have q1 := hm _ _ me1
    have q2 := hm _ _ me2
    have q3 := hm _ _ me3
    have q4 := hm _ _ me4
    have q5 := hm _ _ me5
    have q6 := hm _ _ me6
    have q7 := hm _ _ me7
    have q8 := hm _ _ me8
    have q9 := hm _ _ me9
    have hq1 : dEq c1 c1 = true := dEq_self (nodup_of hf8 hf9)
    have hlen8 : (putAll c1 c2).length ≤ 8 := Nat.le_trans (putAll_len c2 c1) (by omega)
    have hlen9 : (putAll (putAll c1 c2) [(Str.ofString "b", m_.fmod 9)]).length ≤ 9 := Nat.le_trans (putAll_len [(Str.ofString "b", m_.fmod 9)] (putAll c1 c2)) (by simp only [List.length_cons, List.length_nil]; omega)
    repeat' (first | with_reducible refine J.nil ?_ | ((with_reducible refine' J.lastL ok ?hx ?hv ?_); (case hx => walk_at "loc"); (case hv => first | with_reducible assumption | exact rfl)) | ((with_reducible refine' J.consL ok ?hx ?hv ?_); (case hx => walk_at "loc"); (case hv => first | with_reducible assumption | exact rfl)) | ((with_reducible refine J.cons ?_ ?he); (case he => exact rfl)) | ((with_reducible refine' J.l ok ?hx ?hv ?_); (case hx => walk_at "loc"); (case hv => first | with_reducible assumption | exact rfl)) | ((with_reducible refine J.own ok ln_Code (lg_Code w) (kp_Code w) ?_ ?he); (case he => exact ⟨rfl, rfl⟩)) | ((with_reducible refine J.own ok ln_law_joined (lg_law_joined w) (kp_law_joined w) ?_ ?he); (case he => exact ⟨rfl, rfl⟩)) | ((with_reducible refine J.str ?_); intro _) | with_reducible refine J.bool ?_ | with_reducible refine J.list ?_ | ((with_reducible refine NewK.intro ?hz ?_); (case hz => exact Nat.le_of_ble_eq_true rfl); intros) | ((with_reducible refine J.cmp ?_ ?he); (case he => exact rfl)) | with_reducible refine J.bin ?_ | ((with_reducible refine J.tcmp ?_ ?he); (case he => exact rfl)) | with_reducible refine J.tb ?_ | ((with_reducible refine J.dict0 ok ?_); intros) | ((with_reducible refine' J.joined ok ?m1 ?m2 ?lo1 ?lo2 ?hd1 ?hd2 ?hf1 ?hf2 ?hl1 ?hl2 ?_); (case m1 | m2 => walk_at "mem"); (case lo1 | lo2 | hd1 | hd2 => assumption); (case hf1 | hf2 => walk_at "flat"); (case hl1 | hl2 => walk_at "len"); intros; (try simp only [putAll_nil_r] at *)) | ((with_reducible refine' J.new_code_sd ok ?m1 ?lo1 ?hd1 ?hf1 ?_); (case m1 => walk_at "mem"); (case lo1 | hd1 => assumption); (case hf1 => walk_at "flat"); intros) | ((with_reducible refine' J.new_code_s ok ?_); intros) | ((with_reducible refine J.addS ?hz ?_); (case hz => first | omega | (rw [show PySem.Str.length (PySem.Str.ofString _) = 1 from by decide +kernel]; omega)); intro _) | ((with_reducible refine' J.neL ok ?ma ?mb ?he ?hr ?_); (case ma | mb => walk_at "mem"); (case he => repeat' (first | exact EqJs.nil | with_reducible refine' EqJs.cons ?_ ?_ | with_reducible exact EqJ.str | with_reducible exact EqJ.int | with_reducible exact EqJ.bool | with_reducible exact EqJ.none | with_reducible exact EqJ.bytes | with_reducible exact EqJ.base )); (case hr => simp [hq1, str_x])) | ((with_reducible refine' J.cmpC ok (eq_codes_in ?h1 ?h2 ?h3 ?h4 ?h5 ?h6 ?hne ?lo1 ?lo2 ?hd1 ?hd2 ?hf1 ?hf2) ?_); (case h1 | h2 | h3 | h4 | h5 | h6 => walk_at "mem"); (case hne => walk_at "ne"); (case lo1 | lo2 | hd1 | hd2 => assumption); (case hf1 | hf2 => walk_at "flat")) | ((with_reducible refine' J.neC okL (ne_code_in ?a ?b ?c ?d (eq_codes_in ?h1 ?h2 ?h3 ?h4 ?h5 ?h6 ?hne ?lo1 ?lo2 ?hd1 ?hd2 ?hf1 ?hf2)) ?_); (case h1 | h2 | h3 | h4 | h5 | h6 | a | b | c | d => walk_at "mem"); (case hne => walk_at "ne"); (case lo1 | lo2 | hd1 | hd2 => assumption); (case hf1 | hf2 => walk_at "flat")) | ((with_reducible refine' J.cmpC ok (eq_code_nd_in ?h1 ?h2 ?h3 ?h4 ?h5 ?lo2 ?hd2 ?hf2) ?_); (case h1 | h2 | h3 | h4 | h5 => walk_at "mem"); (case lo2 | hd2 => assumption); (case hf2 => walk_at "flat")) | ((with_reducible refine' J.cmpC ok (al_cmp (al_code ?h1 ?h2) (al_str _ _) (by decide) (by decide) (by decide)) ?_); (case h1 | h2 => walk_at "mem")) | ((with_reducible refine' J.eqD ok ?h1 ?h2 ?lo1 ?lo2 ?hd1 ?hd2 ?hf1 ?hf2 ?_); (case h1 | h2 => walk_at "mem"); (case lo1 | lo2 | hd1 | hd2 => assumption); (case hf1 | hf2 => walk_at "flat")) | ((with_reducible refine' J.neD ok ?h1 ?h2 ?lo1 ?lo2 ?hd1 ?hd2 ?hf1 ?hf2 ?_); (case h1 | h2 => walk_at "mem"); (case lo1 | lo2 | hd1 | hd2 => assumption); (case hf1 | hf2 => walk_at "flat")))
    all_goals refine' And.intro ?hb (Exists.intro _ (And.intro ?hs (H h₀ L o1 o2 _ Dn yn nn cc n_ tn row tr d1 od1 kv1 c1 tx tt ?f0 ?f1 ?f2 ?f3 ?f4 ?f5 ?f6 ?f7 ?f8 ?f9 ?f10 ?f11 ?f12 ?f13 ?f14 ?e0 ?e1 ?e2 ?e3 ?e4)))
    case hb => rfl
    case e0 | e1 | e2 | e3 | e4 => first | with_reducible assumption | exact rfl | assumption
    case hs =>
      repeat' (first | with_reducible refine all_cons ?_ ?_ | exact all_nil)
      all_goals walk_at "mem"
    case f0 | f1 | f2 | f3 | f4 | f5 | f6 | f7 | f8 | f9 | f10 | f11 | f12 | f13 => walk_at "fact"
    case f14 => walk_at "fact"))
end Mine

end
-- L18j
section
open PySem PySem.Calls PySem.W PyProof.Rows PyProof.V PySem.Spec PySem.SeqAt
namespace Mine
set_option maxRecDepth 100000 in
set_option maxHeartbeats 8000000 in
theorem step18 (w : World) (H : Pre19 w) : Pre18 w := Mine.into (by exact Mine.thru : Mine.Thru _ (by
    unfold Pre18
    intro h₀ L o1 o2 m Dn yn nn cc n_ tn row tr d1 od1 kv1 c1 tx tt co1 co2 hf0 hf1 hf2 hf3 hf4 hf5 hf6 hf7 hf8 hf9 hf10 hf11 hf12 me0 me1 me2 me3 me4
    refine LStep.rest (st := ?st) (sc := ?sc) ?ea ?eb ?_
    case ea | eb => exact rfl
    refine LStep.ofIf ⟨rfl, rfl⟩ ?_
    intro c okL hm hc
    have ok := okL.ok
    have q0 := hm _ _ me0
    have q1 := hm _ _ me1
    have q2 := hm _ _ me2
    have q3 := hm _ _ me3
    have q4 := hm _ _ me4
    repeat' (first | with_reducible refine J.nil ?_ | ((with_reducible refine J.lastI ?_); intro _) | ((with_reducible refine' J.consL ok ?hx ?hv ?_); (case hx => walk_at "loc"); (case hv => first | with_reducible assumption | exact rfl)) | ((with_reducible refine J.consI ?_); intro _) | ((with_reducible refine J.consS ?_); intro _) | ((with_reducible refine J.cons ?_ ?he); (case he => exact rfl)) | ((with_reducible refine J.own ok ln_law_made (lg_law_made w) (kp_law_made w) ?_ ?he); (case he => exact ⟨rfl, rfl⟩)) | ((with_reducible refine J.int ?_); intro _) | with_reducible refine J.none ?_ | with_reducible refine J.list ?_ | ((with_reducible refine NewK.intro ?hz ?_); (case hz => exact Nat.le_of_ble_eq_true rfl); intros) | with_reducible refine J.bin ?_ | ((with_reducible refine J.tcmp ?_ ?he); (case he => exact rfl)) | with_reducible refine J.tb ?_ | ((with_reducible refine' J.callStr okL ?H ?_); (case H => with_reducible first | exact made_code_int w _ _ _ | exact made_code_bytes w _ _ _ _ | exact made_code_scope w _ _ _ _ _ | exact made_regex_kind w _ _ _ _ | exact made_regex_none w _ _ _ _ | exact made_ref_int w _ _ _ _ _ | exact made_ref_kind_b w _ _ _ _ _ | exact made_ref_kind_nb w _ _ _ _ | exact made_date_kind w _ _ _ _ _); intro _) | ((with_reducible refine' J.made_code_list okL ?m ?_); (case m => walk_at "mem"); intro _) | ((with_reducible refine' J.mul4 ok ?m ?_); (case m => walk_at "mem"); intros) | ((with_reducible refine' J.neL ok ?ma ?mb ?he ?hr ?_); (case ma | mb => walk_at "mem"); (case he => repeat' (first | exact EqJs.nil | with_reducible refine' EqJs.cons ?_ ?_ | with_reducible exact EqJ.str | with_reducible exact EqJ.int | with_reducible exact EqJ.bool | with_reducible exact EqJ.none | with_reducible exact EqJ.bytes | with_reducible exact EqJ.base )); (case hr => simp)))
    all_goals refine' And.intro ?hb (Exists.intro _ (And.intro ?hs (H h₀ L o1 o2 _ Dn yn nn cc n_ tn row tr d1 od1 kv1 c1 tx tt ?f0 ?f1 ?f2 ?f3 ?f4 ?f5 ?f6 ?f7 ?f8 ?f9 ?f10 ?f11 ?f12 ?f13 ?f14 ?e0 ?e1 ?e2 ?e3 ?e4)))
    case hb => rfl
    case e0 | e1 | e2 | e3 | e4 => first | with_reducible assumption | exact rfl | assumption
    case hs =>
      repeat' (first | with_reducible refine all_cons ?_ ?_ | exact all_nil)
      all_goals walk_at "mem"
    case f0 | f1 | f2 | f3 | f4 | f5 | f6 | f7 | f8 | f9 | f10 | f11 | f12 | f13 => walk_at "fact"
    case f14 => walk_at "fact"))
end Mine

end
-- L19j
section
open PySem PySem.Calls PySem.W PyProof.Rows PyProof.V PySem.Spec PySem.SeqAt
namespace Mine
theorem letter19 (k : Int) : (Txt.item (Str.ofString "ilmsuxz") (k.fmod 7)).length = 1 := by
  have h0 := Int.fmod_nonneg_of_pos k (show (0 : Int) < 7 by decide)
  have h1 := Int.fmod_lt_of_pos k (show (0 : Int) < 7 by decide)
  have : k.fmod 7 = 0 ∨ k.fmod 7 = 1 ∨ k.fmod 7 = 2 ∨ k.fmod 7 = 3 ∨ k.fmod 7 = 4 ∨ k.fmod 7 = 5 ∨ k.fmod 7 = 6 := by omega
  rcases this with h | h | h | h | h | h | h <;> rw [h] <;> decide +kernel
set_option maxRecDepth 100000 in
set_option maxHeartbeats 8000000 in
theorem step19 (w : World) (H : Pre20 w) : Pre19 w := Mine.into (by exact Mine.thru : Mine.Thru _ (by
    unfold Pre19
    intro h₀ L o1 o2 m Dn yn nn cc n_ tn row tr d1 od1 kv1 c1 tx tt co1 co2 hf0 hf1 hf2 hf3 hf4 hf5 hf6 hf7 hf8 hf9 hf10 hf11 hf12 me0 me1 me2 me3 me4
    refine LStep.rest (st := ?st) (sc := ?sc) ?ea ?eb ?_
    case ea | eb => exact rfl
    refine LStep.ofAssign ⟨rfl, rfl⟩ ln_letters (fun _ => rfl) ?_
    intro c okL hm hc
    have ok := okL.ok
    have q0 := hm _ _ me0
    have hI9 : IntsAre yn nn := by assumption
    have hn9 : nn.length ≤ 16 := by assumption
    have hz : yn.length ≤ 100 := by rw [hI9.length]; omega
    have hlen : (PySem.Txt.join (Str.ofString "") (nn.map fun k => Txt.item (Str.ofString "ilmsuxz") (k.fmod 7))).length = nn.length := by
      have := KT.join_ones (nn.map fun k => Txt.item (Str.ofString "ilmsuxz") (k.fmod 7)) fun a ha => (by obtain ⟨b', hb', eb⟩ := List.mem_map.1 ha; rw [← eb]; exact letter19 b')
      rw [this, List.length_map]
    with_reducible refine' J.letters ok ln_numbers q0 ?m hI9 hz ?a1 ?a2 ?a3 letter19 ?c1 ?c2 ?c3 ?c4 ?c5 ?c6 ?c7 ?c8 ?s1 ?s2 ?s3 fun t => ?_
    case m => walk_at "mem"
    case a1 => decide
    case a2 | a3 => decide +kernel
    case c1 => with_unfolding_all rfl
    case c2 => decide
    case c3 => rfl
    case c4 => decide +kernel
    case c5 => rfl
    case c6 => decide +kernel
    case c7 => exact fun _ => ⟨rfl, rfl⟩
    case c8 => exact fun _ => rfl
    case s1 => exact fun _ _ _ => rfl
    case s2 => exact fun _ _ => rfl
    case s3 => rfl
    refine' Exists.intro _ (And.intro ?hs (H h₀ L o1 o2 _ Dn yn nn cc n_ tn row tr d1 od1 kv1 c1 tx tt _ _ ?f0 ?f1 ?f2 ?f3 ?f4 ?f5 ?f6 ?f7 ?f8 ?f9 ?f10 ?f11 ?f12 ?f13 ?f14 ?f15 ?e0 ?e1 ?e2 ?e3 ?e4 ?e5))
    case e0 | e1 | e2 | e3 | e4 | e5 => first | with_reducible assumption | exact rfl | assumption
    case hs =>
      repeat' (first | with_reducible refine all_cons ?_ ?_ | exact all_nil)
      all_goals walk_at "mem"
    case f0 | f1 | f2 | f3 | f4 | f5 | f6 | f7 | f8 | f9 | f10 | f11 | f12 | f13 | f14 => first | walk_at "fact" | (rw [hlen]; assumption)
    case f15 => first | walk_at "fact" | (rw [hlen]; assumption)))
end Mine

end
-- L20
section
open PySem PySem.Calls PySem.W PyProof.Rows PyProof.V PySem.Spec
namespace Mine
set_option maxRecDepth 100000 in
set_option maxHeartbeats 8000000 in
theorem step20 (w : World) (H : Pre21 w) : Pre20 w := Mine.into (by exact Mine.thru : Mine.Thru _ (by
    unfold Pre20
    intro h₀ L o1 o2 m Dn yn nn cc n_ tn row tr d1 od1 kv1 c1 tx tt lx lt co1 co2 hf0 hf1 hf2 hf3 hf4 hf5 hf6 hf7 hf8 hf9 hf10 hf11 hf12 hf13 me0 me1 me2 me3 me4 me5
    refine LStep.rest (st := ?st) (sc := ?sc) ?ea ?eb ?_
    case ea | eb => exact rfl
    unfold LStep
    k_fill
    intro mean mg mb a cd s K B F X N T hK
    k_steps
    all_goals (refine' hK _ _ _ _ ?F ?N (H h₀ L o1 o2 _ Dn yn nn cc n_ tn row tr d1 od1 kv1 c1 tx tt lx lt _ ?f0 ?f1 ?f2 ?f3 ?f4 ?f5 ?f6 ?f7 ?f8 ?f9 ?f10 ?f11 ?f12 ?f13 ?f14 ?f15 ?e0 ?e1 ?e2 ?e3 ?e4 ?e5 ?e6); (case F => k_asm); (case e0 | e1 | e2 | e3 | e4 | e5 | e6 => first | exact rfl | assumption); (case N => exact cb_drop (by k_asm) (by kcj_all)); (case f0 | f1 | f2 | f3 | f4 | f5 | f6 | f7 | f8 | f9 | f10 | f11 | f12 | f13 | f14 | f15 => first | assumption | omega | exact ltN (by omega) | omega))))
end Mine

end
-- L21
section
open PySem PySem.Calls PySem.W PyProof.Rows PyProof.V PySem.Spec
namespace Mine
local macro_rules | `(tactic| walk_at "pyIter ref") => `(tactic| (k_here; refine Mine.stop_of ?_))
local macro_rules | `(tactic| walk_at "loadName") => `(tactic| (k_here; k_dflt (refine' loadName_L ?F ?v ?_ ?a ?b; (case F => k_asm); (case v => first | with_reducible assumption | exact rfl | assumption); (case a => exact rfl); (case b => kernel_rfl); k_whole)))
set_option maxRecDepth 100000 in
set_option maxHeartbeats 8000000 in
theorem step21 (w : World) (H : Pre22 w) : Pre21 w := Mine.into (by exact Mine.thru : Mine.Thru _ (by
    unfold Pre21
    intro h₀ L o1 o2 m Dn yn nn cc n_ tn row tr d1 od1 kv1 c1 tx tt lx lt gt co1 co2 hf0 hf1 hf2 hf3 hf4 hf5 hf6 hf7 hf8 hf9 hf10 hf11 hf12 hf13 me0 me1 me2 me3 me4 me5 me6
    refine LStep.rest (st := ?st) (sc := ?sc) ?ea ?eb ?_
    case ea | eb => exact rfl
    unfold LStep
    k_fill
    intro mean mg mb a cd s K B F X N T hK
    with_reducible refine For_unr h₀ ?_ ?hs ?hE
    case hs => intro _; exact rfl
    case hE => intro e s' h; exact h.elim
    k_steps
    unfold Stop
    refine Iter_tuple_unr (by rfl) (News.isTup (by k_asm) (by k_mem)) (by k_asm) (by k_asm) (Mine.News.ne_locals (by k_asm) (by k_mem)) ?_
    refine unr_inv (LJ _ Dn n_ tn row tr d1 tx lx tt lt) ?_ ?_ _ _ _ _ (by rfl) ⟨rfl, me0, me1, me2, me3, me4, me5, _, me6⟩
    · intro i v m₁ n₁ h tk own hv hJ F N hown
      obtain ⟨rfl, j0, j1, j2, j3, j4, j5, gt2, j6⟩ := hJ
      match i, hv with
      | 0, hv =>
        cases hv
        k_steps
        · exact ⟨rfl, by first | exact rfl | assumption, by first | exact rfl | assumption, by first | exact rfl | assumption, by first | exact rfl | assumption, by first | exact rfl | assumption, by first | exact rfl | assumption, _, (by first | exact rfl | assumption : _ = some (.int (flagsTo lx 0) _)).trans (congrArg (fun z => some (Value.int z _)) (flag_no (by assumption)).symm)⟩
        · exact ⟨rfl, by first | exact rfl | assumption, by first | exact rfl | assumption, by first | exact rfl | assumption, by first | exact rfl | assumption, by first | exact rfl | assumption, by first | exact rfl | assumption, _, (rfl : _ = some (Value.int (flagsTo lx 0 + _) _)).trans (congrArg (fun z => some (Value.int z _)) (flag_yes (by assumption)).symm)⟩
      | 1, hv =>
        cases hv
        k_steps
        · exact ⟨rfl, by first | exact rfl | assumption, by first | exact rfl | assumption, by first | exact rfl | assumption, by first | exact rfl | assumption, by first | exact rfl | assumption, by first | exact rfl | assumption, _, (by first | exact rfl | assumption : _ = some (.int (flagsTo lx 1) _)).trans (congrArg (fun z => some (Value.int z _)) (flag_no (by assumption)).symm)⟩
        · exact ⟨rfl, by first | exact rfl | assumption, by first | exact rfl | assumption, by first | exact rfl | assumption, by first | exact rfl | assumption, by first | exact rfl | assumption, by first | exact rfl | assumption, _, (rfl : _ = some (Value.int (flagsTo lx 1 + _) _)).trans (congrArg (fun z => some (Value.int z _)) (flag_yes (by assumption)).symm)⟩
      | 2, hv =>
        cases hv
        k_steps
        · exact ⟨rfl, by first | exact rfl | assumption, by first | exact rfl | assumption, by first | exact rfl | assumption, by first | exact rfl | assumption, by first | exact rfl | assumption, by first | exact rfl | assumption, _, (by first | exact rfl | assumption : _ = some (.int (flagsTo lx 2) _)).trans (congrArg (fun z => some (Value.int z _)) (flag_no (by assumption)).symm)⟩
        · exact ⟨rfl, by first | exact rfl | assumption, by first | exact rfl | assumption, by first | exact rfl | assumption, by first | exact rfl | assumption, by first | exact rfl | assumption, by first | exact rfl | assumption, _, (rfl : _ = some (Value.int (flagsTo lx 2 + _) _)).trans (congrArg (fun z => some (Value.int z _)) (flag_yes (by assumption)).symm)⟩
      | 3, hv =>
        cases hv
        k_steps
        · exact ⟨rfl, by first | exact rfl | assumption, by first | exact rfl | assumption, by first | exact rfl | assumption, by first | exact rfl | assumption, by first | exact rfl | assumption, by first | exact rfl | assumption, _, (by first | exact rfl | assumption : _ = some (.int (flagsTo lx 3) _)).trans (congrArg (fun z => some (Value.int z _)) (flag_no (by assumption)).symm)⟩
        · exact ⟨rfl, by first | exact rfl | assumption, by first | exact rfl | assumption, by first | exact rfl | assumption, by first | exact rfl | assumption, by first | exact rfl | assumption, by first | exact rfl | assumption, _, (rfl : _ = some (Value.int (flagsTo lx 3 + _) _)).trans (congrArg (fun z => some (Value.int z _)) (flag_yes (by assumption)).symm)⟩
      | 4, hv =>
        cases hv
        k_steps
        · exact ⟨rfl, by first | exact rfl | assumption, by first | exact rfl | assumption, by first | exact rfl | assumption, by first | exact rfl | assumption, by first | exact rfl | assumption, by first | exact rfl | assumption, _, (by first | exact rfl | assumption : _ = some (.int (flagsTo lx 4) _)).trans (congrArg (fun z => some (Value.int z _)) (flag_no (by assumption)).symm)⟩
        · exact ⟨rfl, by first | exact rfl | assumption, by first | exact rfl | assumption, by first | exact rfl | assumption, by first | exact rfl | assumption, by first | exact rfl | assumption, by first | exact rfl | assumption, _, (rfl : _ = some (Value.int (flagsTo lx 4 + _) _)).trans (congrArg (fun z => some (Value.int z _)) (flag_yes (by assumption)).symm)⟩
      | 5, hv =>
        cases hv
        k_steps
        · exact ⟨rfl, by first | exact rfl | assumption, by first | exact rfl | assumption, by first | exact rfl | assumption, by first | exact rfl | assumption, by first | exact rfl | assumption, by first | exact rfl | assumption, _, (by first | exact rfl | assumption : _ = some (.int (flagsTo lx 5) _)).trans (congrArg (fun z => some (Value.int z _)) (flag_no (by assumption)).symm)⟩
        · exact ⟨rfl, by first | exact rfl | assumption, by first | exact rfl | assumption, by first | exact rfl | assumption, by first | exact rfl | assumption, by first | exact rfl | assumption, by first | exact rfl | assumption, _, (rfl : _ = some (Value.int (flagsTo lx 5 + _) _)).trans (congrArg (fun z => some (Value.int z _)) (flag_yes (by assumption)).symm)⟩
      | i + 6, hv => exact nomatch hv
    · intro m₁ n₁ h tk hJ F N
      obtain ⟨rfl, j0, j1, j2, j3, j4, j5, gt2, j6⟩ := hJ
      refine' hK _ _ _ _ ?F ?N (H h₀ L o1 o2 _ Dn yn nn cc n_ tn row tr d1 od1 kv1 c1 tx tt lx lt gt2 ?f0 ?f1 ?f2 ?f3 ?f4 ?f5 ?f6 ?f7 ?f8 ?f9 ?f10 ?f11 ?f12 ?f13 ?f14 ?f15 ?e0 ?e1 ?e2 ?e3 ?e4 ?e5 ?e6); (case F => k_asm); (case e0 | e1 | e2 | e3 | e4 | e5 | e6 => first | exact rfl | assumption); (case N => exact cb_drop (by k_asm) (by kcj_all)); (case f0 | f1 | f2 | f3 | f4 | f5 | f6 | f7 | f8 | f9 | f10 | f11 | f12 | f13 | f14 | f15 => first | assumption | omega | exact ltN (by omega) | omega)))
end Mine

end
-- L22j
section
open PySem PySem.Calls PySem.W PyProof.Rows PyProof.V PySem.Spec PySem.SeqAt
namespace Mine
set_option maxRecDepth 100000 in
set_option maxHeartbeats 8000000 in
theorem step22 (w : World) (H : Pre23 w) : Pre22 w := Mine.into (by exact Mine.thru : Mine.Thru _ (by
    unfold Pre22
    intro h₀ L o1 o2 m Dn yn nn cc n_ tn row tr d1 od1 kv1 c1 tx tt lx lt gt co1 co2 hf0 hf1 hf2 hf3 hf4 hf5 hf6 hf7 hf8 hf9 hf10 hf11 hf12 hf13 me0 me1 me2 me3 me4 me5 me6
    refine LStep.rest (st := ?st) (sc := ?sc) ?ea ?eb ?_
    case ea | eb => exact rfl
    refine LStep.ofIf ⟨rfl, rfl⟩ ?_
    intro c okL hm hc
    have ok := okL.ok
    have q0 := hm _ _ me0
    have q1 := hm _ _ me1
    have q2 := hm _ _ me2
    have q3 := hm _ _ me3
    have q4 := hm _ _ me4
    have q5 := hm _ _ me5
    have q6 := hm _ _ me6
    repeat' (first | with_reducible refine J.nil ?_ | ((with_reducible refine' J.lastL ok ?hx ?hv ?_); (case hx => walk_at "loc"); (case hv => first | with_reducible assumption | exact rfl)) | ((with_reducible refine J.lastI ?_); intro _) | ((with_reducible refine' J.consL ok ?hx ?hv ?_); (case hx => walk_at "loc"); (case hv => first | with_reducible assumption | exact rfl)) | ((with_reducible refine J.consI ?_); intro _) | ((with_reducible refine J.consS ?_); intro _) | ((with_reducible refine J.cons ?_ ?he); (case he => exact rfl)) | ((with_reducible refine' J.l ok ?hx ?hv ?_); (case hx => walk_at "loc"); (case hv => first | with_reducible assumption | exact rfl)) | ((with_reducible refine J.own ok ln_Regex (lg_Regex w) (kp_Regex w) ?_ ?he); (case he => exact ⟨rfl, rfl⟩)) | ((with_reducible refine J.own ok ln_law_made (lg_law_made w) (kp_law_made w) ?_ ?he); (case he => exact ⟨rfl, rfl⟩)) | ((with_reducible refine J.int ?_); intro _) | with_reducible refine J.none ?_ | with_reducible refine J.list ?_ | with_reducible refine J.tuple ?_ | ((with_reducible refine NewK.intro ?hz ?_); (case hz => exact Nat.le_of_ble_eq_true rfl); intros) | with_reducible refine J.bin ?_ | ((with_reducible refine J.tcmp ?_ ?he); (case he => exact rfl)) | with_reducible refine J.tb ?_ | ((with_reducible refine' J.callStr okL ?H ?_); (case H => with_reducible first | exact made_code_int w _ _ _ | exact made_code_bytes w _ _ _ _ | exact made_code_scope w _ _ _ _ _ | exact made_regex_kind w _ _ _ _ | exact made_regex_none w _ _ _ _ | exact made_ref_int w _ _ _ _ _ | exact made_ref_kind_b w _ _ _ _ _ | exact made_ref_kind_nb w _ _ _ _ | exact made_date_kind w _ _ _ _ _); intro _) | ((with_reducible refine' J.callT2 okL ?H ?_); (case H => with_reducible first | exact made_regex_str w _ _ _ _ _ _ | exact made_regex_row w _ _ _ _ _ _); intros) | ((with_reducible refine' J.new_regex_0 ok ?_); intros) | ((with_reducible refine' J.own_attr ok ?mx ?md (ga_flags w) ?hg ?hh ?_); (case mx | md => walk_at "mem"); (case hg => k_get); (case hh => rfl)) | ((with_reducible refine J.AttrA ?_ ?he); (case he => rfl)) | ((with_reducible refine J.mod ?hb ?_); (case hb => decide); intro _) | ((with_reducible refine' J.neL ok ?ma ?mb ?he ?hr ?_); (case ma | mb => walk_at "mem"); (case he => repeat' (first | exact EqJs.nil | with_reducible refine' EqJs.cons ?_ ?_ | with_reducible exact EqJ.str | with_reducible exact EqJ.int | with_reducible exact EqJ.bool | with_reducible exact EqJ.none | with_reducible exact EqJ.bytes | with_reducible exact EqJ.base | ((with_reducible refine' EqJ.tups ok ?hk ?hne ?ma ?mb ?_); (case hk => exact Nat.le_of_ble_eq_true rfl); (case ma | mb => walk_at "mem"); (case hne => walk_at "ne")))); (case hr => simp)))
    all_goals refine' And.intro ?hb (Exists.intro _ (And.intro ?hs (H h₀ L o1 o2 _ Dn yn nn cc n_ tn row tr d1 od1 kv1 c1 tx tt lx lt gt ?f0 ?f1 ?f2 ?f3 ?f4 ?f5 ?f6 ?f7 ?f8 ?f9 ?f10 ?f11 ?f12 ?f13 ?f14 ?f15 ?e0 ?e1 ?e2 ?e3 ?e4 ?e5 ?e6)))
    case hb => rfl
    case e0 | e1 | e2 | e3 | e4 | e5 | e6 => first | with_reducible assumption | exact rfl | assumption
    case hs =>
      repeat' (first | with_reducible refine all_cons ?_ ?_ | exact all_nil)
      all_goals walk_at "mem"
    case f0 | f1 | f2 | f3 | f4 | f5 | f6 | f7 | f8 | f9 | f10 | f11 | f12 | f13 | f14 => walk_at "fact"
    case f15 => walk_at "fact"))
end Mine

end
-- L23j
section
open PySem PySem.Calls PySem.W PyProof.Rows PyProof.V PySem.Spec PySem.SeqAt
namespace Mine
set_option maxRecDepth 100000 in
set_option maxHeartbeats 8000000 in
theorem step23 (w : World) (H : Pre24 w) : Pre23 w := Mine.into (by exact Mine.thru : Mine.Thru _ (by
    unfold Pre23
    intro h₀ L o1 o2 m Dn yn nn cc n_ tn row tr d1 od1 kv1 c1 tx tt lx lt gt co1 co2 hf0 hf1 hf2 hf3 hf4 hf5 hf6 hf7 hf8 hf9 hf10 hf11 hf12 hf13 me0 me1 me2 me3 me4 me5 me6
    refine LStep.rest (st := ?st) (sc := ?sc) ?ea ?eb ?_
    case ea | eb => exact rfl
    refine LStep.ofIf ⟨rfl, rfl⟩ ?_
    intro c okL hm hc
    have ok := okL.ok
    have q0 := hm _ _ me0
    have q1 := hm _ _ me1
    have q2 := hm _ _ me2
    have q3 := hm _ _ me3
    have q4 := hm _ _ me4
    have q5 := hm _ _ me5
    have q6 := hm _ _ me6
    repeat' (first | with_reducible refine J.nil ?_ | ((with_reducible refine' J.lastL ok ?hx ?hv ?_); (case hx => walk_at "loc"); (case hv => first | with_reducible assumption | exact rfl)) | ((with_reducible refine' J.consL ok ?hx ?hv ?_); (case hx => walk_at "loc"); (case hv => first | with_reducible assumption | exact rfl)) | ((with_reducible refine J.cons ?_ ?he); (case he => exact rfl)) | ((with_reducible refine' J.l ok ?hx ?hv ?_); (case hx => walk_at "loc"); (case hv => first | with_reducible assumption | exact rfl)) | ((with_reducible refine J.own ok ln_Regex (lg_Regex w) (kp_Regex w) ?_ ?he); (case he => exact ⟨rfl, rfl⟩)) | ((with_reducible refine J.int ?_); intro _) | ((with_reducible refine J.str ?_); intro _) | with_reducible refine J.bool ?_ | with_reducible refine J.list ?_ | ((with_reducible refine NewK.intro ?hz ?_); (case hz => exact Nat.le_of_ble_eq_true rfl); intros) | ((with_reducible refine J.cmp ?_ ?he); (case he => exact rfl)) | with_reducible refine J.bin ?_ | ((with_reducible refine J.tcmp ?_ ?he); (case he => exact rfl)) | with_reducible refine J.tb ?_ | ((with_reducible refine' J.new_regex_i ok ?_); intros) | ((with_reducible refine' J.new_regex_s okL ?_); intros) | ((with_reducible refine J.add ?_); intro _) | ((with_reducible refine J.addS ?hz ?_); (case hz => first | omega | (rw [show PySem.Str.length (PySem.Str.ofString _) = 1 from by decide +kernel]; omega)); intro _) | ((with_reducible refine' J.cmpC ok (eq_regexes_in ?h1 ?h2 ?h3 ?h4) ?_); (case h1 | h2 | h3 | h4 => walk_at "mem")) | ((with_reducible refine' J.neC okL (ne_regex_in ?a ?b ?c ?d (eq_regexes_in ?h1 ?h2 ?h3 ?h4)) ?_); (case h1 | h2 | h3 | h4 | a | b | c | d => walk_at "mem")) | ((with_reducible refine' J.neL ok ?ma ?mb ?he ?hr ?_); (case ma | mb => walk_at "mem"); (case he => repeat' (first | exact EqJs.nil | with_reducible refine' EqJs.cons ?_ ?_ | with_reducible exact EqJ.str | with_reducible exact EqJ.int | with_reducible exact EqJ.bool | with_reducible exact EqJ.none | with_reducible exact EqJ.bytes | with_reducible exact EqJ.base )); (case hr => simp [str_x', int_succ])))
    all_goals refine' And.intro ?hb (Exists.intro _ (And.intro ?hs (H h₀ L o1 o2 _ Dn yn nn cc n_ tn row tr d1 od1 kv1 c1 tx tt ?f0 ?f1 ?f2 ?f3 ?f4 ?f5 ?f6 ?f7 ?f8 ?f9 ?f10 ?f11 ?f12 ?f13 ?f14 ?e0 ?e1 ?e2 ?e3 ?e4)))
    case hb => rfl
    case e0 | e1 | e2 | e3 | e4 => first | with_reducible assumption | exact rfl | assumption
    case hs =>
      repeat' (first | with_reducible refine all_cons ?_ ?_ | exact all_nil)
      all_goals walk_at "mem"
    case f0 | f1 | f2 | f3 | f4 | f5 | f6 | f7 | f8 | f9 | f10 | f11 | f12 | f13 => walk_at "fact"
    case f14 => walk_at "fact"))
end Mine

end
-- L24
section
open PySem PySem.Calls PySem.W PyProof.Rows PyProof.V PySem.Spec
namespace Mine
set_option maxRecDepth 100000 in
set_option maxHeartbeats 8000000 in
theorem step24 (w : World) (H : Pre25 w) : Pre24 w := Mine.into (by exact Mine.thru : Mine.Thru _ (by
    unfold Pre24
    intro h₀ L o1 o2 m Dn yn nn cc n_ tn row tr d1 od1 kv1 c1 tx tt co1 co2 hf0 hf1 hf2 hf3 hf4 hf5 hf6 hf7 hf8 hf9 hf10 hf11 hf12 me0 me1 me2 me3 me4
    refine LStep.rest (st := ?st) (sc := ?sc) ?ea ?eb ?_
    case ea | eb => exact rfl
    unfold LStep
    k_fill
    intro mean mg mb a cd s K B F X N T hK
    k_steps
    · refine' hK _ _ _ _ ?F ?N (H h₀ L o1 o2 _ Dn yn nn cc n_ tn row tr d1 od1 kv1 c1 tx tt none 0 ?f0 ?f1 ?f2 ?f3 ?f4 ?f5 ?f6 ?f7 ?f8 ?f9 ?f10 ?f11 ?f12 ?f13 ?f14 ?f15 ?e0 ?e1 ?e2 ?e3 ?e4 ?e5); (case F => k_asm); (case e0 | e1 | e2 | e3 | e4 | e5 => first | exact rfl | assumption); (case N => exact cb_drop (by k_asm) (by kcj_all)); (case f0 | f1 | f2 | f3 | f4 | f5 | f6 | f7 | f8 | f9 | f10 | f11 | f12 | f13 | f14 | f15 => first | assumption | omega | exact ltN (by omega) | (first | exact .inl rfl | exact .inr rfl))
    · refine' hK _ _ _ _ ?F ?N (H h₀ L o1 o2 _ Dn yn nn cc n_ tn row tr d1 od1 kv1 c1 tx tt (some tx) tt ?f0 ?f1 ?f2 ?f3 ?f4 ?f5 ?f6 ?f7 ?f8 ?f9 ?f10 ?f11 ?f12 ?f13 ?f14 ?f15 ?e0 ?e1 ?e2 ?e3 ?e4 ?e5); (case F => k_asm); (case e0 | e1 | e2 | e3 | e4 | e5 => first | exact rfl | assumption); (case N => exact cb_drop (by k_asm) (by kcj_all)); (case f0 | f1 | f2 | f3 | f4 | f5 | f6 | f7 | f8 | f9 | f10 | f11 | f12 | f13 | f14 | f15 => first | assumption | omega | exact ltN (by omega) | (first | exact .inl rfl | exact .inr rfl))))
end Mine

end
-- L25j
section
open PySem PySem.Calls PySem.W PyProof.Rows PyProof.V PySem.Spec PySem.SeqAt
namespace Mine
set_option maxRecDepth 100000 in
set_option maxHeartbeats 8000000 in
theorem step25 (w : World) (H : Pre26 w) : Pre25 w := Mine.into (by exact Mine.thru : Mine.Thru _ (by
    unfold Pre25
    intro h₀ L o1 o2 m Dn yn nn cc n_ tn row tr d1 od1 kv1 c1 tx tt ob tb co1 co2 hf0 hf1 hf2 hf3 hf4 hf5 hf6 hf7 hf8 hf9 hf10 hf11 hf12 hf13 me0 me1 me2 me3 me4 me5
    refine LStep.rest (st := ?st) (sc := ?sc) ?ea ?eb ?_
    case ea | eb => exact rfl
    refine LStep.ofIf ⟨rfl, rfl⟩ ?_
    intro c okL hm hc
    have ok := okL.ok
    have q0 := hm _ _ me0
    have q1 := hm _ _ me1
    have q2 := hm _ _ me2
    have q3 := hm _ _ me3
    have q4 := hm _ _ me4
    have q5 := hm _ _ me5
    repeat' (first | with_reducible refine J.nil ?_ | ((with_reducible refine' J.lastL ok ?hx ?hv ?_); (case hx => walk_at "loc"); (case hv => first | with_reducible assumption | exact rfl)) | ((with_reducible refine J.lastI ?_); intro _) | ((with_reducible refine' J.consL ok ?hx ?hv ?_); (case hx => walk_at "loc"); (case hv => first | with_reducible assumption | exact rfl)) | ((with_reducible refine J.consI ?_); intro _) | ((with_reducible refine J.consS ?_); intro _) | ((with_reducible refine J.cons ?_ ?he); (case he => exact rfl)) | ((with_reducible refine J.own ok ln_law_made (lg_law_made w) (kp_law_made w) ?_ ?he); (case he => exact ⟨rfl, rfl⟩)) | with_reducible refine J.none ?_ | with_reducible refine J.list ?_ | with_reducible refine J.tuple ?_ | ((with_reducible refine NewK.intro ?hz ?_); (case hz => exact Nat.le_of_ble_eq_true rfl); intros) | ((with_reducible refine J.tcmp ?_ ?he); (case he => exact rfl)) | with_reducible refine J.tb ?_ | ((with_reducible refine' J.callStr okL ?H ?_); (case H => with_reducible first | exact made_code_int w _ _ _ | exact made_code_bytes w _ _ _ _ | exact made_code_scope w _ _ _ _ _ | exact made_regex_kind w _ _ _ _ | exact made_regex_none w _ _ _ _ | exact made_ref_int w _ _ _ _ _ | exact made_ref_kind_b w _ _ _ _ _ | exact made_ref_kind_nb w _ _ _ _ | exact made_date_kind w _ _ _ _ _); intro _) | ((with_reducible refine' J.callT3 okL ?H ?_); (case H => with_reducible first | exact made_ref_b w _ _ _ _ _ _); intros) | ((with_reducible refine' J.neL ok ?ma ?mb ?he ?hr ?_); (case ma | mb => walk_at "mem"); (case he => repeat' (first | exact EqJs.nil | with_reducible refine' EqJs.cons ?_ ?_ | with_reducible exact EqJ.str | with_reducible exact EqJ.int | with_reducible exact EqJ.bool | with_reducible exact EqJ.none | with_reducible exact EqJ.bytes | with_reducible exact EqJ.base | ((with_reducible refine' EqJ.tups ok ?hk ?hne ?ma ?mb ?_); (case hk => exact Nat.le_of_ble_eq_true rfl); (case ma | mb => walk_at "mem"); (case hne => walk_at "ne")))); (case hr => simp)))
    all_goals refine' And.intro ?hb (Exists.intro _ (And.intro ?hs (H h₀ L o1 o2 _ Dn yn nn cc n_ tn row tr d1 od1 kv1 c1 tx tt ob tb ?f0 ?f1 ?f2 ?f3 ?f4 ?f5 ?f6 ?f7 ?f8 ?f9 ?f10 ?f11 ?f12 ?f13 ?f14 ?f15 ?e0 ?e1 ?e2 ?e3 ?e4 ?e5)))
    case hb => rfl
    case e0 | e1 | e2 | e3 | e4 | e5 => first | with_reducible assumption | exact rfl | assumption
    case hs =>
      repeat' (first | with_reducible refine all_cons ?_ ?_ | exact all_nil)
      all_goals walk_at "mem"
    case f0 | f1 | f2 | f3 | f4 | f5 | f6 | f7 | f8 | f9 | f10 | f11 | f12 | f13 | f14 => walk_at "fact"
    case f15 => walk_at "fact"))
end Mine

end
-- L26j
section
open PySem PySem.Calls PySem.W PyProof.Rows PyProof.V PySem.Spec PySem.SeqAt
namespace Mine
set_option maxRecDepth 100000 in
set_option maxHeartbeats 8000000 in
theorem step26 (w : World) (H : Pre27 w) : Pre26 w := Mine.into (by exact Mine.thru : Mine.Thru _ (by
    unfold Pre26
    intro h₀ L o1 o2 m Dn yn nn cc n_ tn row tr d1 od1 kv1 c1 tx tt ob tb co1 co2 hf0 hf1 hf2 hf3 hf4 hf5 hf6 hf7 hf8 hf9 hf10 hf11 hf12 hf13 me0 me1 me2 me3 me4 me5
    refine LStep.rest (st := ?st) (sc := ?sc) ?ea ?eb ?_
    case ea | eb => exact rfl
    refine LStep.ofAssignCell (ca := L + 1) ⟨rfl, rfl⟩ ln_reference rfl (fun _ => rfl) ?_
    intro c okL hm hc
    have ok := okL.ok
    have q0 := hm _ _ me0
    have q1 := hm _ _ me1
    have q2 := hm _ _ me2
    have q3 := hm _ _ me3
    have q4 := hm _ _ me4
    have q5 := hm _ _ me5
    have hpn : putAll [] c1 = c1 := putAll_nil (nodup_of hf7 hf8)
    repeat' (first | with_reducible refine J.nil ?_ | ((with_reducible refine' J.consL ok ?hx ?hv ?_); (case hx => walk_at "loc"); (case hv => first | with_reducible assumption | exact rfl)) | ((with_reducible refine J.cons ?_ ?he); (case he => exact rfl)) | ((with_reducible refine J.own ok ln_DBRef (lg_DBRef w) (kp_DBRef w) ?_ ?he); (case he => exact ⟨rfl, rfl⟩)) | ((with_reducible refine J.own ok ln_law_joined (lg_law_joined w) (kp_law_joined w) ?_ ?he); (case he => exact ⟨rfl, rfl⟩)) | ((with_reducible refine J.dict0 ok ?_); intros) | ((with_reducible refine' J.joined ok ?m1 ?m2 ?lo1 ?lo2 ?hd1 ?hd2 ?hf1 ?hf2 ?hl1 ?hl2 ?_); (case m1 | m2 => walk_at "mem"); (case lo1 | lo2 | hd1 | hd2 => assumption); (case hf1 | hf2 => walk_at "flat"); (case hl1 | hl2 => walk_at "len"); intros; (try simp only [putAll_nil_r] at *)) | ((with_reducible refine' J.new_dbref_d okL ?m0 ?lo0 ?hd0 ?hf0 ?hl0 ?hn0 ?_); (case m0 => walk_at "mem"); (case lo0 | hd0 => assumption); (case hf0 => walk_at "flat"); (case hl0 => walk_at "len"); (case hn0 => first | omega | exact Nat.le_of_ble_eq_true rfl | exact Nat.le_trans (by first | omega | assumption) (putAll_ge _ _)); intros))
    all_goals refine' ⟨o2, none, ?hm, co2, ?_⟩
    case hm => walk_at "mem"
    intro o' ho'
    refine' ⟨_, ?hs, H h₀ L o1 o' _ Dn yn nn cc n_ tn row tr d1 od1 kv1 c1 tx tt ob tb _ _ _ _ _ _ _ _ _ _ _ _ ?f0 ?f1 ?f2 ?f3 ?f4 ?f5 ?f6 ?f7 ?f8 ?f9 ?f10 ?f11 ?f12 ?f13 ?f14 ?f15 ?f16 ?f17 ?f18 ?f19 ?f20 ?f21 ?e0 ?e1 ?e2 ?e3 ?e4 ?e5⟩
    case e0 | e1 | e2 | e3 | e4 | e5 => first | with_reducible assumption | exact rfl | assumption
    case hs =>
      repeat' (first | exact .inl rfl | with_reducible refine all_cons ?_ ?_ | exact all_nil)
      all_goals refine' .inr (And.intro ?_ ?_)
      all_goals first | (show _ ∈ _; walk_at "mem"; done) | (show _ ≠ _; first | exact ne_d (by assumption) (by walk_at "mem") | exact ne_x (by assumption) (by assumption) (by walk_at "mem") | exact ne_k (by assumption) (by assumption) (by assumption) (by walk_at "mem") | exact (by assumption : _ ∧ _).1 | exact (by assumption : _ ∧ _).2 | exact hf3.2 | exact hf3.1 | exact Nat.ne_of_gt (by omega) | exact Nat.ne_of_lt (by omega))
    case f0 | f1 | f2 | f3 | f4 | f5 | f6 | f7 | f8 | f9 | f10 | f11 | f12 | f13 | f14 | f15 | f16 | f17 | f18 | f19 | f20 => first | (rw [← hpn]; assumption) | walk_at "fact"
    case f21 => first | (rw [← hpn]; assumption) | walk_at "fact"))
end Mine

end
-- L27j
section
open PySem PySem.Calls PySem.W PyProof.Rows PyProof.V PySem.Spec PySem.SeqAt
namespace Mine
set_option maxRecDepth 100000 in
set_option maxHeartbeats 8000000 in
theorem step27 (w : World) (H : Pre28 w) : Pre27 w := Mine.into (by exact Mine.thru : Mine.Thru _ (by
    unfold Pre27
    intro h₀ L o1 o2 m Dn yn nn cc n_ tn row tr d1 od1 kv1 c1 tx tt ob tb rx rd rk rt1 rt2 rt3 rt4 rt5 rt6 rt7 ork kvr co1 hf0 hf1 hf2 hf3 hf4 hf5 hf6 hf7 hf8 hf9 hf10 hf11 hf12 hf13 hf14 hf15 hf16 hf17 hf18 hf19 hf20 me0 me1 me2 me3 me4 me5
    refine LStep.rest (st := ?st) (sc := ?sc) ?ea ?eb ?_
    case ea | eb => exact rfl
    refine LStep.ofAssign ⟨rfl, rfl⟩ ln_others (fun _ => rfl) ?_
    intro c okL hm hc
    have ok := okL.ok
    have q0 := hm _ _ me0
    have q1 := hm _ _ me1
    have q2 := hm _ _ me2
    have q3 := hm _ _ me3
    have q4 := hm _ _ me4
    have q5 := hm _ _ me5
    have hpn : putAll [] c1 = c1 := putAll_nil (nodup_of hf7 hf8)
    have hz5 : putAll [] (putAll c1 [(Str.ofString "z", (1 : Int))]) = c1 ++ [(Str.ofString "z", 1)] := put_z (nodup_of hf7 hf8) (by assumption)
    repeat' (first | with_reducible refine J.nil ?_ | ((with_reducible refine' J.lastL ok ?hx ?hv ?_); (case hx => walk_at "loc"); (case hv => first | with_reducible assumption | exact rfl)) | ((with_reducible refine' J.consL ok ?hx ?hv ?_); (case hx => walk_at "loc"); (case hv => first | with_reducible assumption | exact rfl)) | ((with_reducible refine J.cons ?_ ?he); (case he => exact rfl)) | ((with_reducible refine' J.l ok ?hx ?hv ?_); (case hx => walk_at "loc"); (case hv => first | with_reducible assumption | exact rfl)) | ((with_reducible refine J.own ok ln_DBRef (lg_DBRef w) (kp_DBRef w) ?_ ?he); (case he => exact ⟨rfl, rfl⟩)) | ((with_reducible refine J.own ok ln_law_joined (lg_law_joined w) (kp_law_joined w) ?_ ?he); (case he => exact ⟨rfl, rfl⟩)) | ((with_reducible refine J.int ?_); intro _) | ((with_reducible refine J.str ?_); intro _) | with_reducible refine J.none ?_ | with_reducible refine J.list ?_ | ((with_reducible refine NewK.intro ?hz ?_); (case hz => exact Nat.le_of_ble_eq_true rfl); intros) | with_reducible refine J.bin ?_ | ((with_reducible refine J.dict0 ok ?_); intros) | ((with_reducible refine' J.dict1 ok ?he ?_); (case he => first | with_reducible exact jint_c | exact jint_mod ok ln_m (by with_reducible assumption) (by decide) | exact jint_mod ok ln_n (by with_reducible assumption) (by decide)); intros) | ((with_reducible refine' J.joined ok ?m1 ?m2 ?lo1 ?lo2 ?hd1 ?hd2 ?hf1 ?hf2 ?hl1 ?hl2 ?_); (case m1 | m2 => walk_at "mem"); (case lo1 | lo2 | hd1 | hd2 => assumption); (case hf1 | hf2 => walk_at "flat"); (case hl1 | hl2 => walk_at "len"); intros; (try simp only [putAll_nil_r] at *)) | ((with_reducible refine' J.new_dbref_d okL ?m0 ?lo0 ?hd0 ?hf0 ?hl0 ?hn0 ?_); (case m0 => walk_at "mem"); (case lo0 | hd0 => assumption); (case hf0 => walk_at "flat"); (case hl0 => walk_at "len"); (case hn0 => first | omega | exact Nat.le_of_ble_eq_true rfl | exact Nat.le_trans (by first | omega | assumption) (putAll_ge _ _)); intros) | ((with_reducible refine' J.new_dbref_s okL ?m0 ?lo0 ?hd0 ?hf0 ?hl0 ?hn0 ?_); (case m0 => walk_at "mem"); (case lo0 | hd0 => assumption); (case hf0 => walk_at "flat"); (case hl0 => walk_at "len"); (case hn0 => first | omega | exact Nat.le_of_ble_eq_true rfl | exact Nat.le_trans (by first | omega | assumption) (putAll_ge _ _)); intros) | ((with_reducible refine' J.new_dbref_z okL ?_); intros) | ((with_reducible refine J.callKW1 ok ln_DBRef (lg_DBRef w) (kp_DBRef w) ?_ ?he); (case he => exact ⟨rfl, rfl⟩)) | ((with_reducible refine J.add ?_); intro _) | ((with_reducible refine J.addS ?hz ?_); (case hz => first | omega | (rw [show PySem.Str.length (PySem.Str.ofString _) = 1 from by decide +kernel]; omega)); intro _))
    all_goals refine' Exists.intro _ (And.intro ?hs (H h₀ L o1 o2 _ Dn yn nn cc n_ tn row tr d1 od1 kv1 c1 tx tt ob tb rx rd rk rt1 rt2 rt3 rt4 rt5 rt6 rt7 ork kvr _ _ _ _ _ _ _ _ _ _ _ _ _ _ _ _ _ _ _ _ _ _ _ _ _ _ _ _ _ _ _ _ _ _ _ _ _ _ _ _ _ _ _ _ _ _ _ _ _ _ _ _ _ _ _ _ _ _ _ _ _ _ _ _ _ _ _ _ _ _ _ _ _ _ ?f0 ?f1 ?f2 ?f3 ?f4 ?f5 ?f6 ?f7 ?f8 ?f9 ?f10 ?f11 ?f12 ?f13 ?f14 ?f15 ?f16 ?f17 ?f18 ?f19 ?f20 ?f21 ?f22 ?f23 ?f24 ?f25 ?f26 ?f27 ?f28 ?f29 ?f30 ?f31 ?f32 ?f33 ?f34 ?f35 ?f36 ?f37 ?f38 ?f39 ?f40 ?f41 ?f42 ?f43 ?f44 ?f45 ?e0 ?e1 ?e2 ?e3 ?e4 ?e5 ?e6))
    case e0 | e1 | e2 | e3 | e4 | e5 | e6 => first | with_reducible assumption | exact rfl | assumption
    case hs =>
      repeat' (first | with_reducible refine all_cons ?_ ?_ | exact all_nil)
      all_goals walk_at "mem"
    case f0 | f1 | f2 | f3 | f4 | f5 | f6 | f7 | f8 | f9 | f10 | f11 | f12 | f13 | f14 | f15 | f16 | f17 | f18 | f19 | f20 | f21 | f22 | f23 | f24 | f25 | f26 | f27 | f28 | f29 | f30 | f31 | f32 | f33 | f34 | f35 | f36 | f37 | f38 | f39 | f40 | f41 | f42 | f43 | f44 => first | (first | (rw [← hpn]; assumption) | (rw [← hz5]; assumption) | (rw [hpn]; assumption)) | walk_at "fact"
    case f45 => first | (first | (rw [← hpn]; assumption) | (rw [← hz5]; assumption) | (rw [hpn]; assumption)) | walk_at "fact"))
end Mine

end
-- L28j
section
open PySem PySem.Calls PySem.W PyProof.Rows PyProof.V PySem.Spec PySem.SeqAt
namespace Mine
set_option maxRecDepth 100000 in
set_option maxHeartbeats 8000000 in
theorem step28 (w : World) (H : Pre29 w) : Pre28 w := Mine.into (by exact Mine.thru : Mine.Thru _ (by
    unfold Pre28
    intro h₀ L o1 o2 m Dn yn nn cc n_ tn row tr d1 od1 kv1 c1 tx tt ob tb rx rd rk rt1 rt2 rt3 rt4 rt5 rt6 rt7 ork kvr oD on x1 e1 k1 q1t1 q1t2 q1t3 q1t4 q1t5 q1t6 q1t7 ok1 kw1 x2 e2 k2 q2t1 q2t2 q2t3 q2t4 q2t5 q2t6 q2t7 ok2 kw2 x3 e3 k3 q3t1 q3t2 q3t3 q3t4 q3t5 q3t6 q3t7 ok3 kw3 x4 e4 k4 q4t1 q4t2 q4t3 q4t4 q4t5 q4t6 q4t7 ok4 kw4 x5 e5 k5 q5t1 q5t2 q5t3 q5t4 q5t5 q5t6 q5t7 ok5 kw5 x6 e6 k6 q6t1 q6t2 q6t3 q6t4 q6t5 q6t6 q6t7 ok6 kw6 co1 hf0 hf1 hf2 hf3 hf4 hf5 hf6 hf7 hf8 hf9 hf10 hf11 hf12 hf13 hf14 hf15 hf16 hf17 hf18 hf19 hf20 hf21 hf22 hf23 hf24 hf25 hf26 hf27 hf28 hf29 hf30 hf31 hf32 hf33 hf34 hf35 hf36 hf37 hf38 hf39 hf40 hf41 hf42 hf43 hf44 me0 me1 me2 me3 me4 me5 me6
    refine LStep.rest (st := ?st) (sc := ?sc) ?ea ?eb ?_
    case ea | eb => exact rfl
    refine LStep.ofIf ⟨rfl, rfl⟩ ?_
    intro c okL hm hc
    have ok := okL.ok
    have q0 := hm _ _ me0
    have q1 := hm _ _ me1
    have q2 := hm _ _ me2
    have q3 := hm _ _ me3
    have q4 := hm _ _ me4
    have q5 := hm _ _ me5
    have q6 := hm _ _ me6
    have hq1 : dEq c1 c1 = true := dEq_self (nodup_of hf7 hf8)
    have hq5 : dEq c1 (c1 ++ [(Str.ofString "z", (1 : Int))]) = false := dEq_snoc _ _
    have hq6 : dEq c1 [(Str.ofString "z", (1 : Int))] = false := dEq_one (by assumption) (by assumption)
    have hby : (ob == some (tx ++ Str.ofString "y")) = false := base_y (by assumption)
    repeat' (first | with_reducible refine J.nil ?_ | ((with_reducible refine J.cons ?_ ?he); (case he => exact rfl)) | ((with_reducible refine' J.l ok ?hx ?hv ?_); (case hx => walk_at "loc"); (case hv => first | with_reducible assumption | exact rfl)) | with_reducible refine J.bool ?_ | with_reducible refine J.list ?_ | ((with_reducible refine NewK.intro ?hz ?_); (case hz => exact Nat.le_of_ble_eq_true rfl); intros) | ((with_reducible refine J.tcmp ?_ ?he); (case he => exact rfl)) | with_reducible refine J.tor ?_ | with_reducible refine J.tornil ?_ | with_reducible refine J.tb ?_ | ((with_reducible refine And.intro (?hb : _ = false) ?_); (case hb => rfl)) | ((with_reducible show J c (eval (Expr.ListComp (Expr.Compare _ [CmpOp.Eq] [_] _) _ _ _) _) _ _); (refine J.comp (T := fun v => compareOp .Eq (.ref rx) v) (cl := [(Str.ofString "reference", L + 1)]) ?c1 ?c2 ?c3 ?c4 ?c5 ?c8 ?helt ?_); (case c1 => simp [closureFor, cellOf, hc.1]); (case c2 => decide); (case c3 => exact rfl); (case c4 => decide); (case c5 => exact rfl); (case c8 => intro _; with_unfolding_all rfl); (case helt => have hkr := kindL ok ln_reference; intro C oC m₂ s Q E v tl nn h1 h2 N hC hns hx F hq; exact wpAny_Compare1 (kcf_cell N rfl (h1 _ (h2 _ (by walk_at "mem"))) (by assumption) (wpAny_Name (wpAny_loadName_local rfl rfl (hns.ns (N.get hC)) hx hq) (by decide)) rfl (by simp only [compEnvC, relabel, Env.kindOf] at hkr ⊢; simp only [hkr, ok.hk, List.map, List.lookup]; kernel_rfl)) rfl)) | ((with_reducible show J c (eval (Expr.ListComp (Expr.Compare _ [CmpOp.NotEq] [_] _) _ _ _) _) _ _); (refine J.comp (T := fun v => compareOp .NotEq (.ref rx) v) (cl := [(Str.ofString "reference", L + 1)]) ?c1 ?c2 ?c3 ?c4 ?c5 ?c8 ?helt ?_); (case c1 => simp [closureFor, cellOf, hc.1]); (case c2 => decide); (case c3 => exact rfl); (case c4 => decide); (case c5 => exact rfl); (case c8 => intro _; with_unfolding_all rfl); (case helt => have hkr := kindL ok ln_reference; intro C oC m₂ s Q E v tl nn h1 h2 N hC hns hx F hq; exact wpAny_Compare1 (kcf_cell N rfl (h1 _ (h2 _ (by walk_at "mem"))) (by assumption) (wpAny_Name (wpAny_loadName_local rfl rfl (hns.ns (N.get hC)) hx hq) (by decide)) rfl (by simp only [compEnvC, relabel, Env.kindOf] at hkr ⊢; simp only [hkr, ok.hk, List.map, List.lookup]; kernel_rfl)) rfl)) | ((with_reducible refine And.intro (fun _ hp => hp) ?_); (refine' CompK.intro ?m ?hz ?hp ?_); (case m => walk_at "mem"); (case hz => exact Nat.le_of_ble_eq_true rfl); (case hp => repeat' (first | exact Pures.nil | (refine' Pures.cons (fun nn hs => ?_) ?_) | ((with_reducible refine' J.cmpC ok (eq_dbrefs_in ?h1 ?h2 ?h3 ?h4 ?h5 ?h6 ?hva ?hvb ?hv ?hne ?lo1 ?lo2 ?hd1 ?hd2 ?hf1 ?hf2 ?hr) ?_); (case h1 | h2 | h3 | h4 | h5 | h6 => walk_at "mem"); (case hva | hvb => first | exact handed_base _ _ | rfl); (case hv => first | with_reducible exact vb_base _ _ _ | exact vb_base_str _ _ _ _); (case hne => walk_at "ne"); (case lo1 | lo2 | hd1 | hd2 => assumption); (case hf1 | hf2 => walk_at "flat"); (case hr => first | with_reducible exact dbr1 (by with_reducible assumption) | with_reducible exact dbr2 | with_reducible exact dbr3 | with_reducible exact dbr4 (by with_reducible assumption)); exact ⟨rfl, rfl⟩) | ((with_reducible refine' J.neC okL (ne_dbref_in ?a ?b ?c ?d (eq_dbrefs_in ?h1 ?h2 ?h3 ?h4 ?h5 ?h6 ?hva ?hvb ?hv ?hne ?lo1 ?lo2 ?hd1 ?hd2 ?hf1 ?hf2 ?hr)) ?_); (case h1 | h2 | h3 | h4 | h5 | h6 => walk_at "mem"); (case hva | hvb => first | exact handed_base _ _ | rfl); (case hv => first | with_reducible exact vb_base _ _ _ | exact vb_base_str _ _ _ _); (case hne => walk_at "ne"); (case lo1 | lo2 | hd1 | hd2 => assumption); (case hf1 | hf2 => walk_at "flat"); (case hr => first | with_reducible exact dbr1 (by with_reducible assumption) | with_reducible exact dbr2 | with_reducible exact dbr3 | with_reducible exact dbr4 (by with_reducible assumption)); (case a | b | c | d => walk_at "mem"); exact ⟨rfl, rfl⟩))); intros) | ((with_reducible refine' J.neL ok ?ma ?mb ?he ?hr ?_); (case ma | mb => walk_at "mem"); (case he => repeat' (first | exact EqJs.nil | with_reducible refine' EqJs.cons ?_ ?_ | with_reducible exact EqJ.str | with_reducible exact EqJ.int | with_reducible exact EqJ.bool | with_reducible exact EqJ.none | with_reducible exact EqJ.bytes | with_reducible exact EqJ.base )); (case hr => rfl)))
    all_goals refine' And.intro ?hb (Exists.intro _ (And.intro ?hs (H h₀ L o1 o2 _ Dn yn nn cc n_ tn row tr d1 od1 kv1 c1 tx tt ob tb rx rd rk rt1 rt2 rt3 rt4 rt5 rt6 rt7 ork kvr ?f0 ?f1 ?f2 ?f3 ?f4 ?f5 ?f6 ?f7 ?f8 ?f9 ?f10 ?f11 ?f12 ?f13 ?f14 ?f15 ?f16 ?f17 ?f18 ?f19 ?f20 ?f21 ?e0 ?e1 ?e2 ?e3 ?e4 ?e5)))
    case hb => rfl
    case e0 | e1 | e2 | e3 | e4 | e5 => first | with_reducible assumption | exact rfl | assumption
    case hs =>
      repeat' (first | with_reducible refine all_cons ?_ ?_ | exact all_nil)
      all_goals walk_at "mem"
    case f0 | f1 | f2 | f3 | f4 | f5 | f6 | f7 | f8 | f9 | f10 | f11 | f12 | f13 | f14 | f15 | f16 | f17 | f18 | f19 | f20 => walk_at "fact"
    case f21 => walk_at "fact"))
end Mine

end
-- L29j
section
open PySem PySem.Calls PySem.W PyProof.Rows PyProof.V PySem.Spec PySem.SeqAt
namespace Mine
set_option maxRecDepth 100000 in
set_option maxHeartbeats 8000000 in
theorem step29 (w : World) (H : Pre30 w) : Pre29 w := Mine.into (by exact Mine.thru : Mine.Thru _ (by
    unfold Pre29
    intro h₀ L o1 o2 m Dn yn nn cc n_ tn row tr d1 od1 kv1 c1 tx tt ob tb rx rd rk rt1 rt2 rt3 rt4 rt5 rt6 rt7 ork kvr co1 hf0 hf1 hf2 hf3 hf4 hf5 hf6 hf7 hf8 hf9 hf10 hf11 hf12 hf13 hf14 hf15 hf16 hf17 hf18 hf19 hf20 me0 me1 me2 me3 me4 me5
    refine LStep.rest (st := ?st) (sc := ?sc) ?ea ?eb ?_
    case ea | eb => exact rfl
    refine LStep.ofIf ⟨rfl, rfl⟩ ?_
    intro c okL hm hc
    have ok := okL.ok
    have q0 := hm _ _ me0
    have q1 := hm _ _ me1
    have q2 := hm _ _ me2
    have q3 := hm _ _ me3
    have q4 := hm _ _ me4
    have q5 := hm _ _ me5
    have hqa : dEq (putAll [(Str.ofString "b", (2 : Int))] [(Str.ofString "a", 1)]) (putAll [] [(Str.ofString "b", 2), (Str.ofString "a", 1)]) = true := by decide +kernel
    cases hin : ([0, 4, 3, 5, 6].any fun x => x == n_.fmod 12) with
    | true =>
      have hin2 := (any_swap fun x => x == n_.fmod 12).trans hin
      repeat' (first | with_reducible refine J.nil ?_ | ((with_reducible refine J.lastI ?_); intro _) | ((with_reducible refine' J.consL ok ?hx ?hv ?_); (case hx => walk_at "loc"); (case hv => first | with_reducible assumption | exact rfl)) | ((with_reducible refine J.consI ?_); intro _) | ((with_reducible refine J.consS ?_); intro _) | ((with_reducible refine J.cons ?_ ?he); (case he => exact rfl)) | ((with_reducible refine' J.l ok ?hx ?hv ?_); (case hx => walk_at "loc"); (case hv => first | with_reducible assumption | exact rfl)) | ((with_reducible refine J.own ok ln_DBRef (lg_DBRef w) (kp_DBRef w) ?_ ?he); (case he => exact ⟨rfl, rfl⟩)) | ((with_reducible refine J.own ok ln_law_made (lg_law_made w) (kp_law_made w) ?_ ?he); (case he => exact ⟨rfl, rfl⟩)) | ((with_reducible refine J.int ?_); intro _) | with_reducible refine J.tuple ?_ | ((with_reducible refine NewK.intro ?hz ?_); (case hz => exact Nat.le_of_ble_eq_true rfl); intros) | with_reducible refine J.bin ?_ | ((with_reducible refine J.tcmp ?_ ?he); (case he => exact rfl)) | with_reducible refine J.tor ?_ | with_reducible refine J.tornil ?_ | with_reducible refine J.tb ?_ | ((with_reducible refine And.intro (?hb : _ = false) ?_); (case hb => simp [hqa])) | ((with_reducible refine And.intro (?hb : _ = true) ?_); (case hb => exact hin2)) | ((with_reducible refine' J.dict1 ok ?he ?_); (case he => first | with_reducible exact jint_c | exact jint_mod ok ln_m (by with_reducible assumption) (by decide) | exact jint_mod ok ln_n (by with_reducible assumption) (by decide)); intros) | ((with_reducible refine' J.dict2 ok ?hn ?he ?he2 ?_); (case hn => decide +kernel); (case he | he2 => first | with_reducible exact jint_c | exact jint_mod ok ln_m (by with_reducible assumption) (by decide) | exact jint_mod ok ln_n (by with_reducible assumption) (by decide)); intros) | ((with_reducible refine' J.new_dbref_k okL ?m0 ?lo0 ?hd0 ?hf0 ?hl0 ?hn0 ?_); (case m0 => walk_at "mem"); (case lo0 | hd0 => assumption); (case hf0 => walk_at "flat"); (case hl0 => walk_at "len"); (case hn0 => first | omega | exact Nat.le_of_ble_eq_true rfl | exact Nat.le_trans (by first | omega | assumption) (putAll_ge _ _)); intros) | ((with_reducible refine' J.new_dbref_d okL ?m0 ?lo0 ?hd0 ?hf0 ?hl0 ?hn0 ?_); (case m0 => walk_at "mem"); (case lo0 | hd0 => assumption); (case hf0 => walk_at "flat"); (case hl0 => walk_at "len"); (case hn0 => first | omega | exact Nat.le_of_ble_eq_true rfl | exact Nat.le_trans (by first | omega | assumption) (putAll_ge _ _)); intros) | ((with_reducible refine J.callKW1 ok ln_DBRef (lg_DBRef w) (kp_DBRef w) ?_ ?he); (case he => exact ⟨rfl, rfl⟩)) | ((with_reducible refine' J.neC okL (ne_dbref_in ?a ?b ?c ?d (eq_dbrefs_in ?h1 ?h2 ?h3 ?h4 ?h5 ?h6 ?hva ?hvb ?hv ?hne ?lo1 ?lo2 ?hd1 ?hd2 ?hf1 ?hf2 rfl)) ?_); (case h1 | h2 | h3 | h4 | h5 | h6 => walk_at "mem"); (case hva | hvb => exact handed_base _ _); (case hv => exact vb_base _ _ _); (case hne => walk_at "ne"); (case lo1 | lo2 | hd1 | hd2 => assumption); (case hf1 | hf2 => walk_at "flat"); (case a | b | c | d => walk_at "mem")) | ((with_reducible refine J.mod ?hb ?_); (case hb => decide); intro _) | ((with_reducible refine' J.callInt okL (made_options_in w _ _ _ _ _ hin) ?_); intro _) | with_reducible refine J.ifT ?_ | ((with_reducible refine' J.inT ?m ?hI ?_); (case m => walk_at "mem"); (case hI => l_ints)) | with_reducible refine J.neInt ?_)
      all_goals refine' And.intro ?hb (Exists.intro _ (And.intro ?hs (H h₀ L o1 o2 _ Dn yn nn cc n_ tn row tr d1 od1 kv1 c1 tx tt ob tb rx rd rk rt1 rt2 rt3 rt4 rt5 rt6 rt7 ork kvr ?f0 ?f1 ?f2 ?f3 ?f4 ?f5 ?f6 ?f7 ?f8 ?f9 ?f10 ?f11 ?f12 ?f13 ?f14 ?f15 ?f16 ?f17 ?f18 ?f19 ?f20 ?f21 ?e0 ?e1 ?e2 ?e3 ?e4 ?e5)))
      case hb => rfl
      case e0 | e1 | e2 | e3 | e4 | e5 => first | with_reducible assumption | exact rfl | assumption
      case hs =>
        repeat' (first | with_reducible refine all_cons ?_ ?_ | exact all_nil)
        all_goals walk_at "mem"
      case f0 | f1 | f2 | f3 | f4 | f5 | f6 | f7 | f8 | f9 | f10 | f11 | f12 | f13 | f14 | f15 | f16 | f17 | f18 | f19 | f20 | f21 => walk_at "fact"
    | false =>
      have hin2 := (any_swap fun x => x == n_.fmod 12).trans hin
      repeat' (first | with_reducible refine J.nil ?_ | ((with_reducible refine J.lastI ?_); intro _) | ((with_reducible refine' J.consL ok ?hx ?hv ?_); (case hx => walk_at "loc"); (case hv => first | with_reducible assumption | exact rfl)) | ((with_reducible refine J.consI ?_); intro _) | ((with_reducible refine J.consS ?_); intro _) | ((with_reducible refine J.cons ?_ ?he); (case he => exact rfl)) | ((with_reducible refine' J.l ok ?hx ?hv ?_); (case hx => walk_at "loc"); (case hv => first | with_reducible assumption | exact rfl)) | ((with_reducible refine J.own ok ln_DBRef (lg_DBRef w) (kp_DBRef w) ?_ ?he); (case he => exact ⟨rfl, rfl⟩)) | ((with_reducible refine J.own ok ln_law_made (lg_law_made w) (kp_law_made w) ?_ ?he); (case he => exact ⟨rfl, rfl⟩)) | ((with_reducible refine J.int ?_); intro _) | ((with_reducible refine J.str ?_); intro _) | with_reducible refine J.tuple ?_ | ((with_reducible refine NewK.intro ?hz ?_); (case hz => exact Nat.le_of_ble_eq_true rfl); intros) | with_reducible refine J.bin ?_ | ((with_reducible refine J.tcmp ?_ ?he); (case he => exact rfl)) | with_reducible refine J.tor ?_ | with_reducible refine J.tornil ?_ | with_reducible refine J.tb ?_ | ((with_reducible refine And.intro (?hb : _ = false) ?_); (case hb => simp [hqa])) | ((with_reducible refine And.intro (?hb : _ = false) ?_); (case hb => exact hin2)) | ((with_reducible refine' J.dict1 ok ?he ?_); (case he => first | with_reducible exact jint_c | exact jint_mod ok ln_m (by with_reducible assumption) (by decide) | exact jint_mod ok ln_n (by with_reducible assumption) (by decide)); intros) | ((with_reducible refine' J.dict2 ok ?hn ?he ?he2 ?_); (case hn => decide +kernel); (case he | he2 => first | with_reducible exact jint_c | exact jint_mod ok ln_m (by with_reducible assumption) (by decide) | exact jint_mod ok ln_n (by with_reducible assumption) (by decide)); intros) | ((with_reducible refine' J.new_dbref_k okL ?m0 ?lo0 ?hd0 ?hf0 ?hl0 ?hn0 ?_); (case m0 => walk_at "mem"); (case lo0 | hd0 => assumption); (case hf0 => walk_at "flat"); (case hl0 => walk_at "len"); (case hn0 => first | omega | exact Nat.le_of_ble_eq_true rfl | exact Nat.le_trans (by first | omega | assumption) (putAll_ge _ _)); intros) | ((with_reducible refine' J.new_dbref_d okL ?m0 ?lo0 ?hd0 ?hf0 ?hl0 ?hn0 ?_); (case m0 => walk_at "mem"); (case lo0 | hd0 => assumption); (case hf0 => walk_at "flat"); (case hl0 => walk_at "len"); (case hn0 => first | omega | exact Nat.le_of_ble_eq_true rfl | exact Nat.le_trans (by first | omega | assumption) (putAll_ge _ _)); intros) | ((with_reducible refine J.callKW1 ok ln_DBRef (lg_DBRef w) (kp_DBRef w) ?_ ?he); (case he => exact ⟨rfl, rfl⟩)) | ((with_reducible refine' J.neC okL (ne_dbref_in ?a ?b ?c ?d (eq_dbrefs_in ?h1 ?h2 ?h3 ?h4 ?h5 ?h6 ?hva ?hvb ?hv ?hne ?lo1 ?lo2 ?hd1 ?hd2 ?hf1 ?hf2 rfl)) ?_); (case h1 | h2 | h3 | h4 | h5 | h6 => walk_at "mem"); (case hva | hvb => exact handed_base _ _); (case hv => exact vb_base _ _ _); (case hne => walk_at "ne"); (case lo1 | lo2 | hd1 | hd2 => assumption); (case hf1 | hf2 => walk_at "flat"); (case a | b | c | d => walk_at "mem")) | ((with_reducible refine J.mod ?hb ?_); (case hb => decide); intro _) | ((with_reducible refine' J.callStr okL (made_options_out w _ _ _ _ _ hin) ?_); intro _) | with_reducible refine J.ifF ?_ | ((with_reducible refine' J.inT ?m ?hI ?_); (case m => walk_at "mem"); (case hI => l_ints)) | with_reducible refine J.neStr ?_)
      all_goals refine' And.intro ?hb (Exists.intro _ (And.intro ?hs (H h₀ L o1 o2 _ Dn yn nn cc n_ tn row tr d1 od1 kv1 c1 tx tt ob tb rx rd rk rt1 rt2 rt3 rt4 rt5 rt6 rt7 ork kvr ?f0 ?f1 ?f2 ?f3 ?f4 ?f5 ?f6 ?f7 ?f8 ?f9 ?f10 ?f11 ?f12 ?f13 ?f14 ?f15 ?f16 ?f17 ?f18 ?f19 ?f20 ?f21 ?e0 ?e1 ?e2 ?e3 ?e4 ?e5)))
      case hb => rfl
      case e0 | e1 | e2 | e3 | e4 | e5 => first | with_reducible assumption | exact rfl | assumption
      case hs =>
        repeat' (first | with_reducible refine all_cons ?_ ?_ | exact all_nil)
        all_goals walk_at "mem"
      case f0 | f1 | f2 | f3 | f4 | f5 | f6 | f7 | f8 | f9 | f10 | f11 | f12 | f13 | f14 | f15 | f16 | f17 | f18 | f19 | f20 => walk_at "fact"
      case f21 => walk_at "fact"))
end Mine

end
-- L30j
section
open PySem PySem.Calls PySem.W PyProof.Rows PyProof.V PySem.Spec PySem.SeqAt
namespace Mine
set_option maxRecDepth 100000 in
set_option maxHeartbeats 8000000 in
theorem step30 (w : World) (H : Pre31 w) : Pre30 w := Mine.into (by exact Mine.thru : Mine.Thru _ (by
    unfold Pre30
    intro h₀ L o1 o2 m Dn yn nn cc n_ tn row tr d1 od1 kv1 c1 tx tt ob tb rx rd rk rt1 rt2 rt3 rt4 rt5 rt6 rt7 ork kvr co1 hf0 hf1 hf2 hf3 hf4 hf5 hf6 hf7 hf8 hf9 hf10 hf11 hf12 hf13 hf14 hf15 hf16 hf17 hf18 hf19 hf20 me0 me1 me2 me3 me4 me5
    refine LStep.rest (st := ?st) (sc := ?sc) ?ea ?eb ?_
    case ea | eb => exact rfl
    refine LStep.ofAssignCell (ca := L + 1 + 1) ⟨rfl, rfl⟩ ln_values rfl (fun _ => rfl) ?_
    intro c okL hm hc
    have ok := okL.ok
    have q0 := hm _ _ me0
    have q1 := hm _ _ me1
    have q2 := hm _ _ me2
    have q3 := hm _ _ me3
    have q4 := hm _ _ me4
    have q5 := hm _ _ me5
    repeat' (first | with_reducible refine J.nil ?_ | ((with_reducible refine' J.lastL ok ?hx ?hv ?_); (case hx => walk_at "loc"); (case hv => first | with_reducible assumption | exact rfl)) | ((with_reducible refine J.lastI ?_); intro _) | ((with_reducible refine' J.consL ok ?hx ?hv ?_); (case hx => walk_at "loc"); (case hv => first | with_reducible assumption | exact rfl)) | ((with_reducible refine J.consI ?_); intro _) | ((with_reducible refine J.cons ?_ ?he); (case he => exact rfl)) | ((with_reducible refine J.own ok ln_Binary (lg_Binary w) (kp_Binary w) ?_ ?he); (case he => exact ⟨rfl, rfl⟩)) | ((with_reducible refine J.own ok ln_Code (lg_Code w) (kp_Code w) ?_ ?he); (case he => exact ⟨rfl, rfl⟩)) | ((with_reducible refine J.own ok ln_Regex (lg_Regex w) (kp_Regex w) ?_ ?he); (case he => exact ⟨rfl, rfl⟩)) | ((with_reducible refine J.own ok ln_DatetimeMS (lg_DatetimeMS w) (kp_DatetimeMS w) ?_ ?he); (case he => exact ⟨rfl, rfl⟩)) | ((with_reducible refine J.own ok ln_Int64 (lg_Int64 w) (kp_Int64 w) ?_ ?he); (case he => exact ⟨rfl, rfl⟩)) | ((with_reducible refine J.own ok ln_ObjectId (lg_ObjectId w) (kp_ObjectId w) ?_ ?he); (case he => exact ⟨rfl, rfl⟩)) | ((with_reducible refine J.own ok ln_Timestamp (lg_Timestamp w) (kp_Timestamp w) ?_ ?he); (case he => exact ⟨rfl, rfl⟩)) | with_reducible refine J.own0 ok ln_MinKey (lg_MinKey w) (kp_MinKey w) ?_ | with_reducible refine J.own0 ok ln_MaxKey (lg_MaxKey w) (kp_MaxKey w) ?_ | with_reducible refine J.b ok ln_bytes (lb_bytes w) ?_ | ((with_reducible refine J.Call ?_ ?he); (case he => exact rfl)) | with_reducible refine J.none ?_ | ((with_reducible refine J.callT ?_ ?he ?hr); (case he | hr => exact rfl)) | with_reducible refine J.list ?_ | ((with_reducible refine NewK.intro ?hz ?_); (case hz => exact Nat.le_of_ble_eq_true rfl); intros) | ((with_reducible refine' J.new_binary ok ?h0 ?h1 ?_); (case h0 | h1 => first | assumption | decide | omega); intros) | ((with_reducible refine' J.new_code_s ok ?_); intros) | ((with_reducible refine' J.new_regex_0 ok ?_); intros) | ((with_reducible refine' J.new_date ok ?h0 ?h1 ?_); (case h0 | h1 => first | assumption | decide); intros) | ((with_reducible refine' J.new_int64 ok ?_); intros) | ((with_reducible refine' J.new_minkey ok ?_); intros) | ((with_reducible refine' J.new_maxkey ok ?_); intros) | ((with_reducible refine' J.new_objid ok ?_); intros) | ((with_reducible refine' J.new_stamp ok ?_); intros) | ((with_reducible refine J.bytes12 ?_); intros) | ((with_reducible refine' J.cell ok ln_reference hc.1 ?hm ?hd ?_); (case hm => walk_at "mem"); (case hd => assumption)))
    all_goals refine' ⟨o1, none, ?hm, co1, ?_⟩
    case hm => walk_at "mem"
    intro o' ho'
    refine' ⟨_, ?hs, H h₀ L o' o2 _ d1 od1 kv1 c1 row tx n_ ob _ _ rx rd rk rt1 rt2 rt3 rt4 rt5 rt6 rt7 _ _ _ _ _ _ _ _ _ _ _ _ _ _ _ _ _ _ _ _ _ _ _ _ _ _ _ _ _ _ _ _ _ _ _ _ _ _ _ _ _ ?f0 ?f1 ?f2 ?f3 ?f4 ?f5 ?f6 ?f7 ?e0⟩
    case e0 => first | with_reducible assumption | exact rfl | assumption
    case hs =>
      repeat' (first | exact .inl rfl | with_reducible refine all_cons ?_ ?_ | exact all_nil)
      all_goals refine' .inr (And.intro ?_ ?_)
      all_goals first | (show _ ∈ _; walk_at "mem"; done) | (show _ ≠ _; first | exact ne_d (by assumption) (by walk_at "mem") | exact ne_x (by assumption) (by assumption) (by walk_at "mem") | exact ne_k (by assumption) (by assumption) (by assumption) (by walk_at "mem") | exact (by assumption : _ ∧ _).1 | exact (by assumption : _ ∧ _).2 | exact hf3.2 | exact hf3.1 | exact Nat.ne_of_gt (by omega) | exact Nat.ne_of_lt (by omega))
    case f0 | f1 | f2 | f3 | f4 | f5 | f6 => walk_at "fact"
    case f7 => walk_at "fact"))
end Mine

end
-- L31a
section
local macro_rules | `(tactic| walk_at "pad") => `(tactic| skip)
open PySem PySem.Calls PySem.W PyProof.Rows PyProof.V PySem.Spec
namespace Mine
local macro_rules | `(tactic| walk_at "eval ListComp") => `(tactic| (k_here; (with_reducible show wpAny _ _ (eval (Expr.ListComp (Expr.ListComp _ _ _ _) [⟨_, _, [], _⟩] _ _) _) _ _ _); k_dflt (refine' nest_comp (by k_asm) ?q1 ?q2 ?q3 ?q4 ?q5 ?q6 ?_ ?q7; (case q1 => with_unfolding_all rfl); (case q2 | q3 => exact fun _ => rfl); (case q4 => rfl); (case q5 => decide); (case q6 => exact fun _ _ => rfl); (case q7 => exact fun _ => rfl))))
local macro_rules | `(tactic| walk_at "eval ListComp") => `(tactic| (k_here; (with_reducible show wpAny _ _ (eval (Expr.ListComp _ [⟨_, _, [_], _⟩] _ _) _) _ _ _); k_dflt (refine LCt.ListComp_T (F₀ := by k_asm) (by with_unfolding_all rfl) (by decide) (by rfl) (by decide) (by rfl) ?_)))
local macro_rules | `(tactic| walk_at "eval ListComp") => `(tactic| (k_here; (with_reducible show wpAny _ _ (eval (Expr.ListComp (Expr.List _ _) [⟨_, _, [], _⟩] _ _) _) _ _ _); k_dflt (refine LCg.ListComp_U (F₀ := by k_asm) (by with_unfolding_all rfl) (by decide) (by rfl) (by decide) (by rfl) ?_)))
local macro_rules | `(tactic| walk_at "CompSrc") => `(tactic| (k_here; refine Mine.stop_of ?_))
local macro_rules | `(tactic| walk_at "CompSrcT") => `(tactic| (k_here; refine Mine.stop_of ?_))
local macro_rules | `(tactic| walk_at "NestSrc") => `(tactic| (k_here; refine Mine.stop_of ?_))
set_option maxRecDepth 100000 in
set_option maxHeartbeats 8000000 in
theorem step31 (w : World) (H : Pre32 w) : Pre31 w := Mine.into (by exact Mine.thru : Mine.Thru _ (by
    unfold Pre31
    intro h₀ L o1 o2 m d1 od1 kv1 c1 row tx n_ ob vt1 vt2 rx rd rk rt1 rt2 rt3 rt4 rt5 rt6 rt7 vD vn xb yb bk0 bk1 bk8 bk9 xc yc ck0 ck1 ck9 xg yg gk0 gk1 gk8 gk9 xa ya ak0 ak9 xi yi ik0 ik9 xn yn xw yw xo yo ok0 ok9 xs ys sk0 sk1 sk8 sk9 hf0 hf1 hf2 hf3 hf4 hf5 hf6 hf7 me0
    refine LStep.rest (st := ?st) (sc := ?sc) ?ea ?eb ?_
    case ea | eb => exact rfl
    unfold LStep
    k_fill
    intro mean mg mb a cd s K B F X N T hK
    repeat' (first | ((with_reducible show wpAny _ _ (subscriptTail _ _ _ _) _ _ _); (k_here; k_dflt (refine' item_at ?F ?N ?m ?i ?x ?_ ?s; (case F | N => k_asm); (case m => k_mem); (case i => omega); (case x => with_reducible assumption); (case s => with_unfolding_all rfl)))) | ((with_reducible show wpAny _ _ (compareOp CmpOp.Eq _ _) _ _ _); (k_here; k_dflt (refine' use_Cmp ?H ?B ?F ?X ?N ?T ?k ?d ?u ?_; (case H => with_reducible assumption); (case B | F | X | T => k_asm); (case k => first | exact rfl | assumption); (case d => ktr_room); (case u => k_units); (case N => k_asm)); intro h' tk' F' N'; (try dsimp only))) | (k_unfold; (try dsimp only)) | (k_end; wrow_close) | walk1 | (dsimp only; walk1) | (leave1; walk_say "STEP leave1"; try dsimp only) | fail "no step")
    unfold Stop
    refine nest_src (n := 13) (by rfl) (by k_asm) (by k_asm) (by assumption) (by decide) (by rfl) (Mine.small_size (by decide)) ?turn ?fin
    case turn =>
      intro i t R c oc C h tk E' hi hcd F hsub N
      have hv : (L + 1 + 1, o1) ∈ R := hsub _ (by k_mem)
      have hl : (vD, W.listOf [.ref xb, .ref xc, .ref xg, .ref rx, .ref xa, .ref xi, .ref xn, .ref xw, .ref xo, .ref xs, .bytes row vt1, .str tx vt2, .none].toArray vn) ∈ R := hsub _ (by k_mem)
      have h20 : ∀ p ∈ ([(xb, instObj 144 yb), (yb, dictOf [⟨PyData.keyHash w.params (Str.ofString "data"), .str (Str.ofString "data") bk0, .bytes row bk9⟩, ⟨PyData.keyHash w.params (Str.ofString "_subtype"), .str (Str.ofString "_subtype") bk1, .int 0 bk8⟩] 2), (xc, instObj 61 yc), (yc, dictOf [⟨PyData.keyHash w.params (Str.ofString "text"), .str (Str.ofString "text") ck0, .str tx ck9⟩, ⟨PyData.keyHash w.params (Str.ofString "_scope"), .str (Str.ofString "_scope") ck1, .none⟩] 2), (xg, instObj 626 yg), (yg, dictOf [⟨PyData.keyHash w.params (Str.ofString "pattern"), .str (Str.ofString "pattern") gk0, .str tx gk9⟩, ⟨PyData.keyHash w.params (Str.ofString "flags"), .str (Str.ofString "flags") gk1, .int 0 gk8⟩] 2), (rx, instObj 261 rd), (rd, dictOf [⟨PyData.keyHash w.params (Str.ofString "_collection"), .str (Str.ofString "_collection") rt2, .str tx rt1⟩, ⟨PyData.keyHash w.params (Str.ofString "_id"), .str (Str.ofString "_id") rt4, .int n_ rt3⟩, ⟨PyData.keyHash w.params (Str.ofString "_database"), .str (Str.ofString "_database") rt6, baseV ob rt5⟩, ⟨PyData.keyHash w.params (Str.ofString "_kwargs"), .str (Str.ofString "_kwargs") rt7, .ref rk⟩] 4), (xa, instObj 201 ya), (ya, dictOf [⟨PyData.keyHash w.params (Str.ofString "_value"), .str (Str.ofString "_value") ak0, .int 5 ak9⟩] 1), (xi, instObj 344 yi), (yi, dictOf [⟨PyData.keyHash w.params (Str.ofString "value"), .str (Str.ofString "value") ik0, .int 5 ik9⟩] 1), (xn, instObj 470 yn), (yn, dictOf [] 0), (xw, instObj 407 yw), (yw, dictOf [] 0), (xo, instObj 583 yo), (yo, dictOf [⟨PyData.keyHash w.params (Str.ofString "_id"), .str (Str.ofString "_id") ok0, .bytes (Array.replicate 12 0) ok9⟩] 1), (xs, instObj 705 ys), (ys, dictOf [⟨PyData.keyHash w.params (Str.ofString "_time"), .str (Str.ofString "_time") sk0, .int 5 sk9⟩, ⟨PyData.keyHash w.params (Str.ofString "_inc"), .str (Str.ofString "_inc") sk1, .int 5 sk8⟩] 2)] : Led), p ∈ R := fun p hp => hsub p (by revert p; lcg_sub)
      clear hsub
      have N2 := news_pick1 (news_pick1 N (.tail _ hv)) (.tail _ (.tail _ hl))
      clear N
      repeat' (first | ((with_reducible show wpAny _ _ (subscriptTail _ _ _ _) _ _ _); (k_here; k_dflt (refine' item_at ?F ?N ?m ?i ?x ?_ ?s; (case F | N => k_asm); (case m => k_mem); (case i => omega); (case x => with_reducible assumption); (case s => with_unfolding_all rfl)))) | ((with_reducible show wpAny _ _ (compareOp CmpOp.Eq _ _) _ _ _); (k_here; k_dflt (refine' use_Cmp ?H ?B ?F ?X ?N ?T ?k ?d ?u ?_; (case H => with_reducible assumption); (case B | F | X | T => k_asm); (case k => first | exact rfl | assumption); (case d => ktr_room); (case u => k_units); (case N => k_asm)); intro h' tk' F' N'; (try dsimp only))) | (k_unfold; (try dsimp only)) | (k_end; wrow_close) | walk1 | (dsimp only; walk1) | (leave1; walk_say "STEP leave1"; try dsimp only) | fail "no step")
      unfold Stop
      refine LCt.CompSrcT.range (n := 13) (by rfl) (by k_asm) (by k_asm) (by assumption) (by decide) (by rfl) (Mine.small_size (by decide)) (fun g => restT_one (j := i) hi ?helt ?tn ?fn)
      case helt =>
        intro C2 s' m₂ v Q E'' hn hm hq
        exact wpAny_Name (wpAny_loadName_local rfl rfl hn hm hq) (by decide)
      case tn =>
        intro i2 t2 I oI C2 oC2 D2 ys m₂ h2 tk2 E'' hi2 hC2 hx2 F2 N3
        obtain ⟨vj, hvj⟩ : ∃ v, ([.ref xb, .ref xc, .ref xg, .ref rx, .ref xa, .ref xi, .ref xn, .ref xw, .ref xo, .ref xs, .bytes row vt1, .str tx vt2, .none] : List Value)[i]? = some v := ⟨_, List.getElem?_eq_getElem hi⟩
        obtain ⟨vi, hvi⟩ : ∃ v, ([.ref xb, .ref xc, .ref xg, .ref rx, .ref xa, .ref xi, .ref xn, .ref xw, .ref xo, .ref xs, .bytes row vt1, .str tx vt2, .none] : List Value)[i2]? = some v := ⟨_, List.getElem?_eq_getElem hi2⟩
        have hcmp := vals_cmp (w := w) (news := (I, oI) :: (C2, oC2) :: (D2, LCg.lst ys) :: (vD, W.listOf [.ref xb, .ref xc, .ref xg, .ref rx, .ref xa, .ref xi, .ref xn, .ref xw, .ref xo, .ref xs, .bytes row vt1, .str tx vt2, .none].toArray vn) :: (L + 1 + 1, o1) :: (c, oc) :: R) (fun p hp => .tail _ (.tail _ (.tail _ (.tail _ (.tail _ (.tail _ (h20 p hp))))))) i i2 vj vi hvj hvi
        repeat' (first | ((with_reducible show wpAny _ _ (subscriptTail _ _ _ _) _ _ _); (k_here; k_dflt (refine' item_at ?F ?N ?m ?i ?x ?_ ?s; (case F | N => k_asm); (case m => k_mem); (case i => omega); (case x => with_reducible assumption); (case s => with_unfolding_all rfl)))) | ((with_reducible show wpAny _ _ (compareOp CmpOp.Eq _ _) _ _ _); (k_here; k_dflt (refine' use_Cmp ?H ?B ?F ?X ?N ?T ?k ?d ?u ?_; (case H => with_reducible assumption); (case B | F | X | T => k_asm); (case k => first | exact rfl | assumption); (case d => ktr_room); (case u => k_units); (case N => k_asm)); intro h' tk' F' N'; (try dsimp only))) | (k_unfold; (try dsimp only)) | (k_end; wrow_close) | walk1 | (dsimp only; walk1) | (leave1; walk_say "STEP leave1"; try dsimp only) | fail "no step")
        all_goals k_asm
      case fn =>
        intro t3
        unfold LCg.FinE
        intro D3 h3 tk3 F3 N3 o1
        exact ⟨D3, t3, 1, h3, tk3, rfl, rfl, F3, fun p hp => (List.mem_cons.mp hp).elim (fun e => e ▸ N3 _ (.head _)) (fun hp => N3 p (.tail _ (.tail _ (.tail _ hp)))), fun p hp => off1_mem o1 p (.tail _ (.tail _ hp))⟩
    case fin =>
      intro D ys rows R h tk hR F hr hsub N
      have hv : (L + 1 + 1, o1) ∈ R := hsub _ (by k_mem)
      have hl : (vD, W.listOf [.ref xb, .ref xc, .ref xg, .ref rx, .ref xa, .ref xi, .ref xn, .ref xw, .ref xo, .ref xs, .bytes row vt1, .str tx vt2, .none].toArray vn) ∈ R := hsub _ (by k_mem)
      have hd1 : (d1, od1) ∈ R := hsub _ (by k_mem)
      have hc1 : (L + 1, o2) ∈ R := hsub _ (by k_mem)
      clear hsub
      have N2 := news_pick1 (news_pick1 N (.tail _ hv)) (.tail _ (.tail _ hl))
      clear N
      repeat' (first | ((with_reducible show wpAny _ _ (subscriptTail _ _ _ _) _ _ _); (k_here; k_dflt (refine' item_at ?F ?N ?m ?i ?x ?_ ?s; (case F | N => k_asm); (case m => k_mem); (case i => omega); (case x => with_reducible assumption); (case s => with_unfolding_all rfl)))) | ((with_reducible show wpAny _ _ (compareOp CmpOp.Eq _ _) _ _ _); (k_here; k_dflt (refine' use_Cmp ?H ?B ?F ?X ?N ?T ?k ?d ?u ?_; (case H => with_reducible assumption); (case B | F | X | T => k_asm); (case k => first | exact rfl | assumption); (case d => ktr_room); (case u => k_units); (case N => k_asm)); intro h' tk' F' N'; (try dsimp only))) | (k_unfold; (try dsimp only)) | (k_end; wrow_close) | walk1 | (dsimp only; walk1) | (leave1; walk_say "STEP leave1"; try dsimp only) | fail "no step")
      unfold Stop
      refine rows_src (n := 13) (by rfl) (by k_asm) (by k_asm) (by assumption) (by decide) (by rfl) (Mine.small_size (by decide)) ?t2 ?f2
      case t2 =>
        intro i t R2 I oI C2 oC2 D2 ys2 m₂ h2 tk2 E'' hi hC2 hx2 F2 N3
        repeat' (first | ((with_reducible show wpAny _ _ (subscriptTail _ _ _ _) _ _ _); (k_here; k_dflt (refine' item_at ?F ?N ?m ?i ?x ?_ ?s; (case F | N => k_asm); (case m => k_mem); (case i => omega); (case x => with_reducible assumption); (case s => with_unfolding_all rfl)))) | ((with_reducible show wpAny _ _ (compareOp CmpOp.Eq _ _) _ _ _); (k_here; k_dflt (refine' use_Cmp ?H ?B ?F ?X ?N ?T ?k ?d ?u ?_; (case H => with_reducible assumption); (case B | F | X | T => k_asm); (case k => first | exact rfl | assumption); (case d => ktr_room); (case u => k_units); (case N => k_asm)); intro h' tk' F' N'; (try dsimp only))) | (k_unfold; (try dsimp only)) | (k_end; wrow_close) | walk1 | (dsimp only; walk1) | (leave1; walk_say "STEP leave1"; try dsimp only) | fail "no step")
        all_goals first | k_asm | (refine Nat.ne_of_lt (ktn_ltOf ?h1 _ (by assumption)); assumption)
      case f2 =>
        intro D4 ys2 rows2 R2 h4 tk4 hR2 F4 hr2 hsub2 N4
        refine cmp_ofNotEq (ne_lists_t (xs := ys) (ys := ys2) N4 (.tail _ (hsub2 _ (.tail _ (.tail _ (.head _))))) rfl rfl (.head _) rfl rfl (by k_units) (rows_eq N4 (by k_units) hR hR2 (fun p hp => .tail _ (hsub2 p (.tail _ (.tail _ (.tail _ (hr p hp)))))) (fun p hp => .tail _ (hr2 p hp))) rfl ?_)
        have N5 : News h₀ L h4 [(d1, od1), (L + 1 + 1, o1), (L + 1, o2)] := fun p hp => N4 p (.tail _ (hsub2 p (.tail _ (.tail _ (.tail _ (by
          rcases List.mem_cons.mp hp with rfl | hp
          · exact hd1
          rcases List.mem_cons.mp hp with rfl | hp
          · exact hv
          · rw [List.mem_singleton.mp hp]; exact hc1))))))
        clear N4
        repeat' (first | ((with_reducible show wpAny _ _ (subscriptTail _ _ _ _) _ _ _); (k_here; k_dflt (refine' item_at ?F ?N ?m ?i ?x ?_ ?s; (case F | N => k_asm); (case m => k_mem); (case i => omega); (case x => with_reducible assumption); (case s => with_unfolding_all rfl)))) | ((with_reducible show wpAny _ _ (compareOp CmpOp.Eq _ _) _ _ _); (k_here; k_dflt (refine' use_Cmp ?H ?B ?F ?X ?N ?T ?k ?d ?u ?_; (case H => with_reducible assumption); (case B | F | X | T => k_asm); (case k => first | exact rfl | assumption); (case d => ktr_room); (case u => k_units); (case N => k_asm)); intro h' tk' F' N'; (try dsimp only))) | (k_unfold; (try dsimp only)) | (k_end; wrow_close) | walk1 | (dsimp only; walk1) | (leave1; walk_say "STEP leave1"; try dsimp only) | fail "no step")
        all_goals (refine' hK _ _ _ _ ?F ?N (H h₀ L o1 o2 _ d1 od1 kv1 c1 ?f0 ?f1 ?f2 ?f3 ?f4 ?e0); (case F => k_asm); (case e0 => first | exact rfl | assumption); (case N => exact cb_drop (by k_asm) (by kcj_all)); (case f0 | f1 | f2 | f3 | f4 => first | assumption | omega | exact ltN (by omega) | omega))))
end Mine

end
-- L32j
section
open PySem PySem.Calls PySem.W PyProof.Rows PyProof.V PySem.Spec PySem.SeqAt
namespace Mine
set_option maxRecDepth 100000 in
set_option maxHeartbeats 8000000 in
theorem step32 (w : World) (H : Pre33 w) : Pre32 w := Mine.into (by exact Mine.thru : Mine.Thru _ (by
    unfold Pre32
    intro h₀ L o1 o2 m d1 od1 kv1 c1 hf0 hf1 hf2 hf3 hf4 me0
    refine LStep.rest (st := ?st) (sc := ?sc) ?ea ?eb ?_
    case ea | eb => exact rfl
    refine LStep.ofAssign ⟨rfl, rfl⟩ ln_fault (fun _ => rfl) ?_
    intro c okL hm hc
    have ok := okL.ok
    have q0 := hm _ _ me0
    repeat' (first | ((with_reducible refine' J.lastL ok ?hx ?hv ?_); (case hx => walk_at "loc"); (case hv => first | with_reducible assumption | exact rfl)) | ((with_reducible refine J.consS ?_); intro _) | ((with_reducible refine J.own ok ln_InvalidDocument (lg_InvalidDocument w) (kp_InvalidDocument w) ?_ ?he); (case he => exact ⟨rfl, rfl⟩)) | ((with_reducible refine' J.new_inv okL ?_); intros))
    all_goals refine' Exists.intro _ (And.intro ?hs (H h₀ L o1 o2 _ d1 od1 kv1 c1 _ _ _ _ ?f0 ?f1 ?f2 ?f3 ?f4 ?f5 ?f6 ?e0 ?e1))
    case e0 | e1 => first | with_reducible assumption | exact rfl | assumption
    case hs =>
      repeat' (first | with_reducible refine all_cons ?_ ?_ | exact all_nil)
      all_goals walk_at "mem"
    case f0 | f1 | f2 | f3 | f4 | f5 => walk_at "fact"
    case f6 => walk_at "fact"))
end Mine

end
-- L33j
section
open PySem PySem.Calls PySem.W PyProof.Rows PyProof.V PySem.Spec PySem.SeqAt
namespace Mine
set_option maxRecDepth 100000
theorem filled15 (w : World) : Filled PySem.Challenge.rw_jh0019_01.row.prog (hd.heap_1 w.params) := by
  k_fill
  exact trivial
section
variable {w : World} {c : Cx w} {news : Led} {fs : Option Scope} {r u : Nat}
theorem J.docP (ok : c.OkR fs (r + 1) (u + 4)) {x tt dx : Addr} {od : Obj} {name qual : PySem.Str} {params : Arguments} {body : List Stmt} {scope : Scope} {dV kV doc pm cdv ct oc : Value} {an odd : Option Addr} {osl : Array (Option Value)} {binds : List (PySem.Str × Value)} {K : Led → Value → Prop}
    (mx : (x, exObjD tt dx) ∈ news) (md : (dx, od) ∈ news)
    (ho : (hd.heap_1 w.params).lookup 302 = some ⟨oc, odd, .func (fnOf name qual params body scope dV kV doc pm an cdv ct), osl⟩) (hcd : codeIn (hd.heap_1 w.params) cdv qual = true)
    (hbind : ∀ s : Shared, BindsTo s (fnOf name qual params body scope dV kV doc pm an cdv ct) ⟨[.ref x], []⟩ binds) (hloc : ∀ y ∈ binds, scope.names.lookup y.1 = some .local)
    (hsc : scope.isCoroutine = false ∧ scope.isGenerator = false ∧ scope.kind = .function) (hcell : ∀ x ∈ scope.names, x.2 ≠ .cell)
    (h : ∀ c' : Cx w, c'.OkR (some scope) r u → (∀ y v, binds.reverse.lookup y = some v → c'.m y = some v) → JX c' (execs body c'.env) news (fun tl fl => ∃ v, fl = .ret v ∧ handedIn v = true ∧ K tl v) (fun _ _ => False)) : J c (getAttr (.ref x) (Str.ofString "document") true) news K := by
  intro s Q E F N k
  refine doc_prop F ok.X N mx md ?_
  refine code_def (A₀ := c.A₀) (base := c.base) (env := c.env) (outer := c.outer) ok.B (s := { s with toks := s.toks + 1 }) F ok.X N ok.T rfl rfl ok.hk ho hcd ?room (hbind _) hloc ?_ hsc.1 hsc.2.1 hsc.2.2 hcell
  case room => exact (by have := ok.hd; omega : c.dp < recursionLimit)
  intro g L' h2 FG F2 N2 B2 X2 T2
  refine h (frameCx w qual (body, scope) 302 cdv c.mean c.mg c.mb _ c.base g L' _ _) ⟨B2, X2, T2, hsc.2.2, ?k1, ?k2, rfl⟩ (fun _ _ e => e) _ _ _ F2 N2 ?ok ?bad
  case k1 => exact (by have := ok.hd; omega : c.dp + 1 + r < recursionLimit)
  case k2 => exact (by have := ok.hu; omega : c.un + 1 + 3 + u < cLine)
  case ok =>
    intro tl fl h3 tk3 m3 hv F3 N3
    obtain ⟨v, rfl, hin, hK⟩ := hv
    exact leaveK_ F3 N3 fun F4 N4 => handed_on hin (k _ _ _ _ hK F4 N4)
  case bad => exact fun _ _ _ hx => hx.elim
theorem J.doc (ok : c.OkR fs (r + 1) (u + 4)) {x tt dx : Addr} {uu : Tok} {v : Value} {K : Led → Value → Prop} (mx : (x, exObjD tt dx) ∈ news) (md : (dx, dictOf [⟨PyData.keyHash w.params (Str.ofString "_document"), .str (Str.ofString "_document") uu, v⟩] 1) ∈ news) (hv : handedIn v = true) (h : K news v) : J c (getAttr (.ref x) (Str.ofString "document") true) news K := by
  refine' J.docP ok mx md ?ho ?hcd ?hb ?hl ?sc ?hc ?h
  case ho | hcd => k_is
  case hb => exact fun s => BindsTo.of_eq rfl
  case hl => exact locs rfl
  case sc => exact ⟨rfl, rfl, rfl⟩
  case hc => decide
  case h =>
    intro c' ok' hm
    exact JX.last (JX.ret (J.Attr (J.lo ok' (hm (Str.ofString "self") _ rfl) ⟨by kernel_rfl, by kernel_rfl⟩ fun s1 Q1 E1 F1 N1 k1 => doc_get F1 ok'.X N1 mx md hv fun tk => k1 _ _ s1.heap tk ⟨Flow.noConfusion, _, rfl, hv, h⟩ F1 N1)))
theorem J.isiEx (ok : c.OkR fs r u) {x tt dx : Addr} {od : Obj} {K : Led → Value → Prop} (mx : (x, exObjD tt dx) ∈ news) (md : (dx, od) ∈ news) (h : K news (.bool true)) : J c (call (.builtin "isinstance") [.ref x, .ref 275]) news K :=
  fun s _ _ F N k => isi_call (ok.X.keeps F.keep) (fun M => (inst_exD N mx md).type) (by k_is) (fun q => nomatch q) (k _ _ s.heap s.toks h F N)
theorem lg_BSON (w : World) : LG w (Str.ofString "BSONError") (.ref 275) := by unfold LG; k_is
theorem J.is_none {K : Led → Value → Prop} (h : K news (.bool true)) : J c (compareOp .Is .none .none) news K := fun s _ _ F N q => wpAny_pure (q _ _ s.heap s.toks h F N)
end
theorem LRest.ofRet {w : World} {n : Nat} {h₀ : Heap} {L : Addr} {m : Map} {news : Led} {e : Expr} {pos : Pos} {sc : Scope} (ea : lawAt n = some (.Return (some e) pos)) (es : lawScope = some sc ∧ sc.kind = .function)
    (h : ∀ c : Cx w, c.OkL → (∀ x v, m x = some v → c.m x = some v) → J c (eval e c.env) news fun _ v => v = .bool true) : LRest w n h₀ L m news := by
  refine LRest.last ea es.1 fun mean mg mb a cd s K B F X N T hK => ?_
  refine wpAny_Return_some (h (lawCx w mean mg mb sc a cd h₀ L m) (lawOk es B X T) (fun _ _ e => e) s _ _ F N fun tl v h' tk' hj F' N' => ?_)
  rw [hj]
  exact hK h' tk' m F'
theorem step33 (w : World) : Pre33 w := Mine.into (by exact Mine.thru : Mine.Thru _ (by
    unfold Pre33
    intro h₀ L o1 o2 m d1 od1 kv1 c1 fx tt dx u hf0 hf1 hf2 hf3 hf4 hf5 hf6 me0 me1
    refine' LRest.ofRet (e := ?e) (pos := ?pos) (sc := ?sc) ?ea ⟨?eb, ?ek⟩ fun c okL hm => ?_
    case ea | eb => exact rfl
    case ek => rfl
    have hq1 : dEq c1 c1 = true := dEq_self (nodup_of hf1 hf2)
    have ok := okL.ok
    have q0 := hm _ _ me0
    have q1 := hm _ _ me1
    refine J.andT ?_
    repeat' (first | with_reducible refine J.nil ?_ | ((with_reducible refine' J.consL ok ?hx ?hv ?_); (case hx => walk_at "loc"); (case hv => first | with_reducible assumption | exact rfl)) | ((with_reducible refine J.cons ?_ ?he); (case he => exact rfl)) | with_reducible refine J.b ok ln_isinstance (lb_isinstance w) ?_ | ((with_reducible refine J.Call ?_ ?he); (case he => exact rfl)) | ((with_reducible refine J.callB ?_ ?he ?hr); (case he | hr => exact rfl)) | ((with_reducible refine J.g ok (x := Str.ofString "BSONError") ?hx (lg_BSON w) ?_); (case hx => exact ⟨by kernel_rfl, by kernel_rfl⟩)))
    refine J.isiEx ok (.tail _ (.head _)) (.head _) ?_
    refine J.tb ⟨rfl, J.andT (J.cmp ?_ rfl)⟩
    repeat' (first | ((with_reducible refine' J.l ok ?hx ?hv ?_); (case hx => walk_at "loc"); (case hv => first | with_reducible assumption | exact rfl)) | with_reducible refine J.Attr ?_)
    refine J.doc (r := 7) (u := 60) ok (.tail _ (.head _)) (.head _) rfl ?_
    repeat' ((with_reducible refine' J.l ok ?hx ?hv ?_); (case hx => walk_at "loc"); (case hv => first | with_reducible assumption | exact rfl))
    refine J.eqD ok (.tail _ (.tail _ (.head _))) (.tail _ (.tail _ (.head _))) hf0 hf0 hf1 hf1 hf2 hf2 ?_
    refine J.tb ⟨hq1, J.and1 (J.cmp (J.AttrA ?_ rfl) rfl)⟩
    repeat' (first | with_reducible refine J.nil ?_ | ((with_reducible refine J.consS ?_); intro _) | ((with_reducible refine J.own ok ln_InvalidDocument (lg_InvalidDocument w) (kp_InvalidDocument w) ?_ ?he); (case he => exact ⟨rfl, rfl⟩)) | ((with_reducible refine J.useL okL (new_inv0 w _ _) fun K' hm' x tt dx u l1 l2 => hm' _ _ ?_)))
    refine J.doc (r := 7) (u := 60) ok (.tail _ (.head _)) (.head _) rfl ?_
    repeat' (with_reducible refine J.none ?_)
    exact J.is_none rfl))
end Mine

end
-- Top
section
open PySem PySem.Calls PySem.W PyProof.Rows
namespace Mine
theorem top_use {w : World} {h₀ : Heap} {L : Addr} {m : Map} {news : Led} {sc : Scope} {body : List Stmt} (R : LRestP w 0 h₀ L m news) (es : lawScope = some sc) (eb : lawFrom 0 = body) {mean : ExcName → Option Value} {mg mb : PySem.Str → Option Value} {a : Addr} {cd : Value} {s : Shared} {K : Flow → Shared → Prop} {E : Value → Shared → Prop}
    (B : Below callerA h₀ [] h₀) (F : Fr h₀ L s.heap m) (X : (hd.heap_1 w.params).In h₀) (N : News h₀ L s.heap news) (T : Top hd.view_1 (looseW hd.view_1 [Str.ofString "Code", Str.ofString "Binary", Str.ofString "DatetimeMS", Str.ofString "DBRef", Str.ofString "InvalidDocument", Str.ofString "Int64", Str.ofString "MaxKey", Str.ofString "MinKey", Str.ofString "ObjectId", Str.ofString "Regex", Str.ofString "Timestamp"]) mean mg mb h₀)
    (hK : ∀ h' tk' m', Fr h₀ L h' m' → K (.ret (.bool true)) { s with heap := h', toks := tk' }) :
    wpP (model PySem.Challenge.rw_jh0019_01.row.prog w) (callerA.deeper (envOfC (Str.ofString "law") sc L a cd)) (execs body (envOfC (Str.ofString "law") sc L a cd)) K E s := by
  subst eb
  unfold LRestP at R
  exact wpP_mono (R sc es mean mg mb a cd s K B F X N T hK) (fun _ _ h => h) fun _ _ h => h.elim
set_option maxRecDepth 100000 in
set_option maxHeartbeats 8000000 in
theorem top (H : ∀ w, Pre0 w) : PySem.Challenge.rw_jh0019_01.Holds := left ⟨by
  delta hd
  dsimp only
  k_fill
  intro w s₀ s₁ mg mb G Y fa o pm cd doc dV kV ho hd hcd hD hmg hg args vals as hpre hlay hrd hwl hlo
  have KX := kIn_of Y
  refine Ground.open G ?_
  intro T B D TE TW
  try (obtain ⟨_, _, he, B0⟩ := based_of_top T rfl hmg ho hd; have he' : cd = _ := he; subst he'; clear he)
  clear hmg
  wrow_args hpre hlay hrd hwl hlo
  have he := Dflts.none hD rfl; subst he; have he := Dflts.noKw hD; subst he
  refine wpP_call ?_
  · refine enter_P (by decide) ho (fd_plain hd) (Top.nolimit T) hcd rfl (kinds_of (by kinds_ok)) (by decide) fun h₁ tk₁ cells F N0 X0 => ?_
    rename List Int => ns0
    cells_open X0
    rename_i o1 o2 d1 d2
    have K0 := below_caller (Top.heap T)
    have hlen : ns0.length ≤ 63 := by omega
    refine top_use (H w _ _ o1 o2 _ _ _ ns0 d1 d2 (by assumption) (by assumption) hlen (by exact rfl)) (by exact rfl) (by exact rfl) K0 F KX N0 T (fun h' tk' m' F' => ?_)
    dsimp only
    refine GoodW.toG ?_
    wrow_close⟩
end Mine

end
theorem PySem.Challenge.cw_jh0019_01_holds : PySem.Challenge.rw_jh0019_01.Holds := by
  exact Mine.top fun w => Mine.step0 w (Mine.step1 w (Mine.step2 w (Mine.step3 w (Mine.step4 w (Mine.step5 w (Mine.step6 w (Mine.step7 w (Mine.step8 w (Mine.step9 w (Mine.step10 w (Mine.step11 w (Mine.step12 w (Mine.step13 w (Mine.step14 w (Mine.step15 w (Mine.step16 w (Mine.step17 w (Mine.step18 w (Mine.step19 w (Mine.step20 w (Mine.step21 w (Mine.step22 w (Mine.step23 w (Mine.step24 w (Mine.step25 w (Mine.step26 w (Mine.step27 w (Mine.step28 w (Mine.step29 w (Mine.step30 w (Mine.step31 w (Mine.step32 w (Mine.step33 w)))))))))))))))))))))))))))))))))
