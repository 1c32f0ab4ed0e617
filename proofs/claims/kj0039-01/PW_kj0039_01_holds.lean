import PyProof.Rows.All
import Wide.All
import OpenK.AllK
import Wide.FinOn
import Lean
import PySem.Challenge.RW_kj0039_01
/-! The 8.3 names law (kj0039-01). In order: the head over stacks on which no codec holds a buffer (wpC); rules for such stacks; loops; the law's own
functions on ints and texts, one contract each; own exception classes, their making, flight and catching; bytearray; the class's methods; the plain law on
lists; _law_set, _law_holds; law by an invariant over its loop. The small theorems zr_, zw_ (True) lay the walker's words for what follows them. -/
set_option Elab.async false
open PySem PySem.W PyProof.Rows
set_option maxRecDepth 100000
set_option linter.unusedVariables false
namespace Mine
open PySem.Calls
open Sem (wp)
noncomputable def holderC : Code → Bool
  | .builtin id _ => (["bytearray.__contains__", "bytearray.__mod__", "bytearray.__rmod__", "_struct.pack_into.held", "bytearray.find.held"] ++ Builtin.Bytes.decodersThatHold).contains id
  | _ => false
noncomputable def Cln (Γ : Ctx) : Prop := holderC Γ.code = false ∧ ∀ x ∈ Γ.below, holderC x.1 = false
noncomputable def wpC {α : Type} (M : Model) (A : Around) (t : Sem α) (Q : α → Shared → Prop) (E : Value → Shared → Prop) (s : Shared) : Prop :=
  ∀ Γ p, Γ.In A → Cln Γ → wp M Γ t (fun a _ s' => Q a s') (fun e _ s' => E e s') p s
/-- the goal by a name, while facts are opened. -/
theorem behind {P : Prop} (h : ∀ G : Prop, (P → G) → G) : P := h P id
theorem caller_cln : Cln ⟨.builtin "claim.caller" {}, none, none, [], none⟩ := ⟨by decide +kernel, fun _ h => nomatch h⟩
theorem wpC_any {α : Type} {M : Model} {A : Around} {E : Value → Shared → Prop} {s : Shared} {t : Sem α} {Q : α → Shared → Prop} (h : wpAny M A t Q E s) : wpC M A t Q E s := fun Γ p hΓ _ => h Γ p hΓ
theorem wpC_mono {α : Type} {M : Model} {A : Around} {E : Value → Shared → Prop} {s : Shared} {t : Sem α} {Q Q' : α → Shared → Prop} {E' : Value → Shared → Prop} (h : wpC M A t Q E s)
    (hQ : ∀ a s, Q a s → Q' a s) (hE : ∀ e s, E e s → E' e s) : wpC M A t Q' E' s :=
  fun Γ p hΓ hC => Sem.wp_mono M Γ t (fun a _ s => hQ a s) (fun e _ s => hE e s) p s (h Γ p hΓ hC)
theorem wpC_bind {α β : Type} {M : Model} {A : Around} {E : Value → Shared → Prop} {s : Shared} {m : Sem α} {f : α → Sem β} {Q : β → Shared → Prop} (h : wpC M A m (fun a s' => wpC M A (f a) Q E s') E s) :
    wpC M A (m >>= f) Q E s := fun Γ p hΓ hC => by
  rw [Sem.wp_bind']
  exact Sem.wp_mono M Γ m (fun a p' s' h' => h' Γ p' hΓ hC) (fun _ _ _ h' => h') p s (h Γ p hΓ hC)
theorem thread_endsC {prog : Program} {w : World} {t : Sem Fin} {s : Shared} {R : Result → Shared → Prop} (hreg : s.asleep)
    (h : wpC (model prog w) callerA t (fun fin s' => ∃ f, fin = .done f ∧ (R (.ok f) s' ∧ leftWithCleanup s'.gens = false)) (fun e s' => R (.error e) s' ∧ leftWithCleanup s'.gens = false) s) :
    ∃ n r s' s'', runN (denote table) prog w n s ⟨t, .builtin "claim.caller" {}, default, []⟩ = .halted (outcomeOf r) s' ∧
      schedN (denote table) prog w n (.single s ⟨t, .builtin "claim.caller" {}, default, []⟩) = .halted (outcomeOf r) s' ∧ s'.forget = s''.forget ∧ R r s'' := by
  have key := h ⟨.builtin "claim.caller" {}, none, none, [], none⟩ default caller_in caller_cln
  obtain ⟨n, r, s₁, s₂, hs, hn, hfo, hR⟩ := wp_halts_full (M := model prog w) (R := R) (c := .builtin "claim.caller" {}) (p := default) hreg
    (Sem.wp_mono _ _ t (fun fin p' s' h' => by obtain ⟨f, rfl, hf⟩ := h'; exact hf) (fun _ _ _ h' => h') default s key)
  exact ⟨n, r, s₂, s₁, hn, hs, hfo, hR⟩
theorem callFromC {c : ClaimW} {tree : List Value → Sem Fin} {w : World} {s : Shared} {free : Addr → Prop} {gens : Prop} {kept : Heap → Prop} (hz : s.asleep) (hgens : s.gens = #[])
    (hspec : ∀ args, c.pre args = true → WData.layableAll args = true → ∀ ord : List DictEntry → List DictEntry, (∀ l, (ord l).Perm l) →
      ∃ vs s₁, layAllW c.records (classAt s.heap) w.params ord args s = some (vs, s₁) ∧
        wpC (model c.prog w) callerA (tree vs) (fun fin s' => ∃ f, fin = .done f ∧ (c.Ends s args vs s₁ (.ok f) s' ∧ s'.os = s.os ∧ AllBare s'.gens ∧ kept s'.heap))
          (fun e s' => c.Ends s args vs s₁ (.error e) s' ∧ s'.os = s.os ∧ AllBare s'.gens ∧ kept s'.heap) s₁) :
    c.CallFrom (fun vs => ⟨tree vs, .builtin "claim.caller" {}, default, []⟩) w free gens kept s := fun args hpre hlay ord hord => by
  refine behind fun G hG => ?_
  obtain ⟨vs, s₁, hlaid, hcode⟩ := hspec args hpre hlay ord hord
  have rest := layAllW_rest _ _ _ hlaid
  have ended := thread_endsC (prog := c.prog) (w := w) (t := tree vs) (s := s₁) (R := fun r s' => c.Ends s args vs s₁ r s' ∧ s'.os = s.os ∧ kept s'.heap) (Shared.asleep_of_life rest.2.2.2 hz)
    (wpC_mono hcode (fun fin s' hq => by obtain ⟨f, e, a, b, d, k⟩ := hq; exact ⟨f, e, ⟨a, b, k⟩, leftWithCleanup_false_of_bare d⟩)
      fun e s' hq => by obtain ⟨a, b, d, k⟩ := hq; exact ⟨⟨a, b, k⟩, leftWithCleanup_false_of_bare d⟩)
  obtain ⟨k, r, s', s'', hrun, hsched, hfo, hends, hos, hk⟩ := ended
  obtain ⟨eh, _, _, eo, _⟩ := Shared.forget_eq hfo
  have hends' := hends.congr eh
  have hk' : kept s'.heap := eh ▸ hk
  have hos' : s'.os = s.os := eo.trans hos
  have hlife : s'.heap.life = s.heap.life := (runN_life _ _ _ hrun).trans rest.2.2.2
  refine hG ⟨vs, s₁, hlaid, k, _, s', hsched, ?_, (fun _ i x hx => by rw [hgens] at hx; simp at hx), hk', by rw [hlife], Shared.rest_eq hos'⟩
  refine behind fun G3 hG3 => ?_
  rcases hends' with ⟨v, rfl, d1, d2, d3, d4, d5⟩ | ⟨e, ob, cls, rfl, d1, d2, d3, d4, d5⟩
  · exact hG3 (.inl ⟨v, rfl, d1, d2, d3, fun b o y _ => d4 b o y, d5⟩)
  · exact hG3 (.inr ⟨e, ob, cls, rfl, d1, d2, d3, d4, fun b o y _ => d5 b o y⟩)
/-- the head's premise, over clean stacks. -/
noncomputable abbrev WalkC (q : Program) (loose : List Str) (XP : (Str → Option Value) → Heap → Prop) (YP : World → Heap → Prop) (r : RowW) (d : DefRec) (kwd : List (Str × Expr)) : Prop :=
  ∀ (w : World) (s₀ s₁ : Shared) (mg mb : Str → Option Value), Ground q loose r.records XP w s₀ mg mb s₁.heap → YP w s₁.heap → ∀ (a : Addr) (o : Obj) (pm cd doc dV kV : Value), s₁.heap.get? a = some o →
    o.data = .func { docDef d.name d.params d.body d.scope pm cd doc with defaults := dV, kwdefaults := kV } → s₁.heap.CodeRec cd d.name → Dflts mg s₁.heap d.params kwd dV kV → mg d.name = some (.ref a) → s₁.gens = #[] →
    ∀ (args : List WData) (vals : List Value) (as : List Addr), r.claim.pre args = true → WData.layableAll args = true → ReadsAllW r.records (classAt s₀.heap) s₁.heap vals args as → WellAll w.params s₁.heap vals args → (∀ a ∈ as, (a == sysModules) = false) →
      wpC (model r.prog w) callerA (call (.ref a) vals) (fun v s' => GoodWG r.claim (classAt s₀.heap) (ExcName.means s₀.heap) args s₁ (.ok (.ret v)) s')
        (fun e s' => GoodWG r.claim (classAt s₀.heap) (ExcName.means s₀.heap) args s₁ (.error e) s') s₁
namespace PySem.W
theorem holds_open {r : OpenRow} {q : Program} {loose : List Str} {Xt : Shared → Bool} {XP : (Str → Option Value) → Heap → Prop} {α : Type} {Yf : Shared → α} {Ya : World → α} {YP : World → Heap → Prop} {d : DefRec} {kwd : List (Str × Expr)} {N : Nat}
    (left : LeftO r.prog q loose Xt Yf Ya N) (hY : ∀ w s, Yf s = Ya w → YP w s.heap) (hYk : ∀ w h h', YP w h → (∀ b o, h.get? b = some o → h'.get? b = some o) → YP w h')
    (hX : ∀ s, Xt s = true → XP (s.heap.nsMap mainGlobals) s.heap) (hXk : ∀ mg h h', XP mg h → (∀ b o, h.get? b = some o → h'.get? b = some o) → XP mg h')
    (hdef : defOf q r.name = some (d, kwd)) (hp : r.prog.theDef r.name = some (d.params, d.body, d.scope)) (hk : kwWritten? d.params.kwonlyargs d.params.kw_defaults = some kwd) (hRf : ∀ s, Xt s = true → RecFacts r.records s.heap) (hwr : (!r.writes || r.records.isEmpty) = true)
    (k1 : r.wellSaid = true) (ok : (chainsOk q && opensWell r.prog && (frees r.toRowW && r.within.isEmpty)) = true) (hb : r.prog.bare) (hw : r.toRowW.promised)
    (_ : True) (walk : WalkC q loose XP YP r.toRowW d kwd := by assumption) : r.Holds := by
  obtain ⟨ok1, ok2⟩ := Bool.and_eq_true_iff.mp ok
  obtain ⟨hch, hopen⟩ := Bool.and_eq_true_iff.mp ok1
  obtain ⟨hfree, hwithin⟩ := Bool.and_eq_true_iff.mp ok2
  obtain ⟨hsame, hu, ha, hap, hm⟩ := frees_parts hfree
  have hwi : r.toRowW.claim.within = [] := List.isEmpty_iff.mp hwithin
  have hi := ident_freeW hu ha hap
  refine ⟨k1, hw, ⟨hb, hopen, by show r.makers.map _ = []; rw [hm]; rfl⟩, hw.witness, fun w => ⟨(left.behind hX hch w).1, fun s' hs' => ?_⟩⟩
  refine behind fun G1 hG1 => ?_
  obtain ⟨s₀, hf, hg0, s, hT, hz, hgens0, hg, G00, y⟩ := (left.behind (XP := fun mg h => XP mg h ∧ RecFacts r.records h) (fun s hs => ⟨hX s hs, hRf s hs⟩) hch w).2 s' hs'
  have G0 : Ground q loose [] XP w s (s.heap.nsMap mainGlobals) (s.heap.nsMap builtinsNs) s.heap := ⟨G00.T, G00.B, G00.D, G00.TE, G00.TD, G00.W, G00.X.1, G00.cls, G00.has, G00.apart, G00.once, G00.K⟩
  have RF := G00.X.2
  have hgens : s.gens = #[] := Array.eq_empty_of_size_eq_zero (beq_iff_eq.mp hgens0)
  have G : Ground q loose r.records XP w s _ _ s.heap := RF.ground G0
  refine hG1 ⟨s₀, hf, hg0, s, hT, fun n hn => ?_, RF.1, RF.2.1, ?_⟩
  · obtain rfl : n = r.name := by split at hn <;> simp_all
    exact pinned_of_view hg G0 hdef hp hk
  refine callFromC (c := r.toRowW.claim) hz hgens fun args hpre hlay ord hord => ?_
  refine behind fun G2 hG2 => ?_
  obtain ⟨⟨vs, s₁⟩, hlaid⟩ := Option.isSome_iff_exists.mp (layAllW_isSome (P := w.params) (ord := ord) G.has args r.args s (pre_splitW hpre).1)
  have keeps := layAllW_keeps _ _ _ hlaid
  have hal := layAllW_rest _ _ _ hlaid
  obtain ⟨as, hrd, hin, hold⟩ := reads_layAllW hord _ _ _ hlaid hlay s₁.heap (fun _ _ e => e)
  have L : Laid r.records w s s₁ args vs as := ⟨⟨ord, hord, hlaid⟩, hrd, hin, hold, keeps, hal.1.trans hgens, hal.2.2.1⟩
  have G₁ := G.keeps hXk keeps
  obtain ⟨a, o, pm, cd, doc, dV, kV, h1, h2, h3, h4, h5⟩ := G₁.fn hdef
  have nm := defOf_name hdef
  have run := walk w s s₁ _ _ G₁ (hYk _ _ _ (hY w s y) keeps) a o pm cd doc dV kV h2 h3 h4 h5 (nm ▸ h1) L.gens args vs as hpre hlay L.reads L.well (L.low G.low)
  refine hG2 ⟨vs, s₁, hlaid, ?_⟩
  refine wpC_bind (wpC_any (wpAny_nsGet G₁.T.g ?_))
  rw [h1]
  refine wpC_bind (wpC_mono run (fun v s' g => ?_) fun e s' g => ?_)
  · have z := g.laid (c := r.toRowW.claim) hsame hwi hi L
    exact wpC_any (wpAny_pure ⟨_, rfl, z.1, z.2.1, z.2.2, fun q => ⟨namesKept_of hT hg r.keeps keeps g.2.1.old, noTable hwr q⟩⟩)
  · have z := g.laid (c := r.toRowW.claim) hsame hwi hi L
    exact ⟨z.1, z.2.1, z.2.2, fun q => ⟨namesKept_of hT hg r.keeps keeps g.2.1.old, noTable hwr q⟩⟩
end PySem.W
/-! The head lays a quick twin of each definition it steps through. The names below are those of the twins that this proof does not want: they are
taken ahead, so the head goes on without them and the compiled file stays small. -/
theorem hh.tw16013035956490930176 : True := trivial
theorem hh.tw7145685242928665600 : True := trivial
theorem hh.tw4542365488908888064 : True := trivial
theorem hh.tw1282402263997190176 : True := trivial
theorem hh.tw768559258786801696 : True := trivial
theorem hh.tw9347695744072866912 : True := trivial
theorem hh.tw12788132452462359680 : True := trivial
theorem hh.tw3359144412035233920 : True := trivial
theorem hh.tw112886595292572864 : True := trivial
theorem hh.tw963107835418233056 : True := trivial
theorem hh.tw5288777103549039872 : True := trivial
theorem hh.tw18177232505735474496 : True := trivial
theorem hh.tw7077676881400023360 : True := trivial
theorem hh.tw3743470373550298432 : True := trivial
theorem hh.tw8669967123555983744 : True := trivial
theorem hh.tw6846610818115215776 : True := trivial
theorem hh.tw12786249114640296416 : True := trivial
theorem hh.tw9503436014632969952 : True := trivial
theorem hh.tw14357587427845784416 : True := trivial
theorem hh.tw1507405249103947648 : True := trivial
theorem hh.tw8758123268375241664 : True := trivial
theorem hh.tw12645242305140898784 : True := trivial
theorem hh.tw4845851593856808065 : True := trivial
theorem hh.tw6072235281210384641 : True := trivial
theorem hh.tw2329549304014832993 : True := trivial
theorem hh.tw5475872489966117249 : True := trivial
theorem hh.tw14857446859486731713 : True := trivial
theorem hh.tw1271581983732437537 : True := trivial
theorem hh.tw16426395967962290785 : True := trivial
theorem hh.tw16611302333577960065 : True := trivial
theorem hh.tw10302970929829265057 : True := trivial
theorem hh.tw10517046287654902497 : True := trivial
theorem hh.tw15474105122563719905 : True := trivial
theorem hh.tw12315785658217632609 : True := trivial
theorem hh.tw8343512212030446465 : True := trivial
theorem hh.tw14298519764458475425 : True := trivial
theorem hh.tw13474542004314929250 : True := trivial
theorem hh.tw7847422594648456386 : True := trivial
theorem hh.tw11414949401595782370 : True := trivial
theorem hh.tw2817216066628508898 : True := trivial
theorem hh.tw13218283811420299522 : True := trivial
theorem hh.tw5853354131299098050 : True := trivial
theorem hh.tw12209306157957156290 : True := trivial
theorem hh.tw2659290600718283202 : True := trivial
theorem hh.tw9909107503809938914 : True := trivial
theorem hh.tw9329913120777820642 : True := trivial
theorem hh.tw12252731963422841410 : True := trivial
theorem hh.tw3194027373920895554 : True := trivial
theorem hh.tw16177767365463445250 : True := trivial
theorem hh.tw4888439743362846498 : True := trivial
theorem hh.tw1823841455525036962 : True := trivial
theorem hh.tw18250170226246075523 : True := trivial
theorem hh.tw13317193092199051555 : True := trivial
theorem hh.tw10950965376972264867 : True := trivial
theorem hh.tw6049531663556748803 : True := trivial
theorem hh.tw15642711600123418115 : True := trivial
theorem hh.tw2259629268879369763 : True := trivial
theorem hh.tw15256650769460568771 : True := trivial
theorem hh.tw11725945515838764835 : True := trivial
theorem hh.tw11672715723349588771 : True := trivial
theorem hh.tw18412813604050293635 : True := trivial
theorem hh.tw4831031264847227875 : True := trivial
theorem hh.tw238282331962379268 : True := trivial
theorem hh.tw1770478720980864036 : True := trivial
theorem hh.tw8039071489617844260 : True := trivial
theorem hh.tw2836557538160770084 : True := trivial
theorem hh.tw7689604549890401412 : True := trivial
theorem hh.tw5211793062270249412 : True := trivial
theorem hh.tw16742815593175014852 : True := trivial
theorem hh.tw4722653919940653604 : True := trivial
theorem hh.tw7012615849005110884 : True := trivial
theorem hh.tw7230192196685208260 : True := trivial
theorem hh.tw11592440819594092324 : True := trivial
theorem hh.tw617718992568977220 : True := trivial
theorem hh.tw576321288800662404 : True := trivial
theorem hh.tw16989083283651534820 : True := trivial
theorem hh.tw4511085834223285349 : True := trivial
theorem hh.tw6693182139513931909 : True := trivial
theorem hh.tw527849725257311397 : True := trivial
theorem hh.tw7646030004805011653 : True := trivial
theorem hh.tw4318405155608919269 : True := trivial
theorem hh.tw5562852165855156453 : True := trivial
theorem hh.tw12579819052774793541 : True := trivial
theorem hh.tw11180295295262894469 : True := trivial
theorem hh.tw14523325018527176101 : True := trivial
theorem hh.tw16400063788825744805 : True := trivial
theorem hh.tw12726814364050954661 : True := trivial
theorem hh.tw16091287465734718885 : True := trivial
theorem hh.tw5747718024417660517 : True := trivial
theorem hh.tw3165633603168611941 : True := trivial
theorem hh.tw17929526999657792197 : True := trivial
theorem hh.tw6543892221945798373 : True := trivial
theorem hh.tw8983277673966907141 : True := trivial
theorem hh.tw17764331260202232613 : True := trivial
theorem hh.tw3485971116944152485 : True := trivial
theorem hh.tw14269532330087983142 : True := trivial
theorem hh.tw9593819381725935654 : True := trivial
theorem hh.tw244273418378961958 : True := trivial
theorem hh.tw15405139985278021702 : True := trivial
theorem hh.tw15742027020496361574 : True := trivial
theorem hh.tw9206063792755729606 : True := trivial
theorem hh.tw12926787872488070470 : True := trivial
theorem hh.tw2047049074695840134 : True := trivial
theorem hh.tw10301141347146020230 : True := trivial
theorem hh.tw13062556570006194630 : True := trivial
theorem hh.tw13772753544451191270 : True := trivial
theorem hh.tw17613106166793089542 : True := trivial
theorem hh.tw6647512039627933190 : True := trivial
theorem hh.tw17347142594581605926 : True := trivial
theorem hh.tw3676648765140714086 : True := trivial
theorem hh.tw6424433827382636166 : True := trivial
theorem hh.tw6965947031293188742 : True := trivial
theorem hh.tw16331598021013923494 : True := trivial
theorem hh.tw15879504759987815334 : True := trivial
theorem hh.tw2621969200325547942 : True := trivial
theorem hh.tw15175840751800480742 : True := trivial
theorem hh.tw2931839517123377159 : True := trivial
theorem hh.tw13431454465457447047 : True := trivial
theorem hh.tw9028317872116439207 : True := trivial
theorem hh.tw7022005111364522247 : True := trivial
theorem hh.tw10553892088520953159 : True := trivial
theorem hh.tw12871210263665043783 : True := trivial
theorem hh.tw17846314020045794695 : True := trivial
theorem hh.tw10909189704818047463 : True := trivial
theorem hh.tw12229207896082009607 : True := trivial
theorem hh.tw481501582073403975 : True := trivial
theorem hh.tw7211504493510545287 : True := trivial
theorem hh.tw353584242195532711 : True := trivial
theorem hh.tw12925098446171629511 : True := trivial
theorem hh.tw14652766469087233096 : True := trivial
theorem hh.tw6174621608718900296 : True := trivial
theorem hh.tw8885762356114383944 : True := trivial
theorem hh.tw10516428615239564360 : True := trivial
theorem hh.tw10391002617348739176 : True := trivial
theorem hh.tw10500403487779514504 : True := trivial
theorem hh.tw1017229829318846632 : True := trivial
theorem hh.tw17928187338540222696 : True := trivial
theorem hh.tw11535240397644645640 : True := trivial
theorem hh.tw3189675262725578024 : True := trivial
theorem hh.tw2623046620245017896 : True := trivial
theorem hh.tw15007184195502478792 : True := trivial
theorem hh.tw4475697191924314568 : True := trivial
theorem hh.tw3109685664842447368 : True := trivial
theorem hh.tw16002854772646242856 : True := trivial
theorem hh.tw8335783254804184616 : True := trivial
theorem hh.tw15010256038380404392 : True := trivial
theorem hh.tw18016116721543483112 : True := trivial
theorem hh.tw9306820774239039400 : True := trivial
theorem hh.tw4826811290145505321 : True := trivial
theorem hh.tw3738406723728455721 : True := trivial
theorem hh.tw15847188125327946825 : True := trivial
theorem hh.tw5129326858891280553 : True := trivial
theorem hh.tw9278693416362756265 : True := trivial
theorem hh.tw8121030667519249609 : True := trivial
theorem hh.tw12928031055745957065 : True := trivial
theorem hh.tw1698012914774525257 : True := trivial
theorem hh.tw4522650628999978345 : True := trivial
theorem hh.tw257823763457362345 : True := trivial
theorem hh.tw6763844825144812041 : True := trivial
theorem hh.tw1701143063259278857 : True := trivial
theorem hh.tw4742018359223924361 : True := trivial
theorem hh.tw8888776572046013097 : True := trivial
theorem hh.tw14806285170582219465 : True := trivial
theorem hh.tw16775607697312811817 : True := trivial
theorem hh.tw14065627380766170953 : True := trivial
theorem hh.tw17060780180532929481 : True := trivial
theorem hh.tw9643284145778418633 : True := trivial
theorem hh.tw9667511183750323306 : True := trivial
theorem hh.tw13457721459337767018 : True := trivial
theorem hh.tw12936444239755497578 : True := trivial
theorem hh.tw5006082239736080522 : True := trivial
theorem hh.tw13012195483943059626 : True := trivial
theorem hh.tw352184136414606602 : True := trivial
theorem hh.tw15718948945665413482 : True := trivial
theorem hh.tw5739981289166950890 : True := trivial
theorem hh.tw11352351234430424554 : True := trivial
theorem hh.tw14917936403874124426 : True := trivial
theorem hh.tw14261243589767383786 : True := trivial
theorem hh.tw7996771666173107050 : True := trivial
theorem hh.tw964237965268657098 : True := trivial
theorem hh.tw18413851411482138635 : True := trivial
theorem hh.tw7696971692383654059 : True := trivial
theorem hh.tw10502554310464952555 : True := trivial
theorem hh.tw8005363024917557515 : True := trivial
theorem hh.tw14474653073309609259 : True := trivial
theorem hh.tw7108479526159908555 : True := trivial
theorem hh.tw9995269102713502443 : True := trivial
theorem hh.tw6347161293280843659 : True := trivial
theorem hh.tw8000248894137274283 : True := trivial
theorem hh.tw791440122879194124 : True := trivial
theorem hh.tw1757899234621435148 : True := trivial
theorem hh.tw16221263307540210988 : True := trivial
theorem hh.tw7216415199083421068 : True := trivial
theorem hh.tw617945279492129196 : True := trivial
theorem hh.tw13420560128368887276 : True := trivial
theorem hh.tw14922936401420512812 : True := trivial
theorem hh.tw7165145799129957964 : True := trivial
theorem hh.tw3802251958963865164 : True := trivial
theorem hh.tw949533015894452844 : True := trivial
theorem hh.tw2282500604199002764 : True := trivial
theorem hh.tw48004666922647404 : True := trivial
theorem hh.tw11983937008014378988 : True := trivial
theorem hh.tw16215337474005877773 : True := trivial
theorem hh.tw4277664692246106125 : True := trivial
theorem hh.tw8671875054102447213 : True := trivial
theorem hh.tw16087808527409253517 : True := trivial
theorem hh.tw5127089797882688685 : True := trivial
theorem hh.tw15498473079470569645 : True := trivial
theorem hh.tw11007390488737159437 : True := trivial
theorem hh.tw17405232712930445581 : True := trivial
theorem hh.tw8169952245692225869 : True := trivial
theorem hh.tw5934060967941096109 : True := trivial
theorem hh.tw16994107624064292525 : True := trivial
theorem hh.tw4548023563480433357 : True := trivial
theorem hh.tw8935388539606449997 : True := trivial
theorem hh.tw11332424292923317101 : True := trivial
theorem hh.tw7095877549425739790 : True := trivial
theorem hh.tw4076543466965435470 : True := trivial
theorem hh.tw2130653738915403950 : True := trivial
theorem hh.tw3368034969526620334 : True := trivial
theorem hh.tw4390163948044492046 : True := trivial
theorem hh.tw8186342036336194830 : True := trivial
theorem hh.tw13206726077899511214 : True := trivial
theorem hh.tw17667978502820227598 : True := trivial
theorem hh.tw3999382236304521774 : True := trivial
theorem hh.tw13342032854723176142 : True := trivial
theorem hh.tw2171226662833514286 : True := trivial
theorem hh.tw3919029731781941070 : True := trivial
theorem hh.tw1162487561394078574 : True := trivial
theorem hh.tw5434969788465700943 : True := trivial
theorem hh.tw14216878357236447311 : True := trivial
theorem hh.tw7849097345646832751 : True := trivial
theorem hh.tw6568504210457234799 : True := trivial
theorem hh.tw2523926645344592303 : True := trivial
theorem hh.tw2009275474388501967 : True := trivial
theorem hh.tw15143561512518849039 : True := trivial
theorem hh.tw1735851123484192399 : True := trivial
theorem hh.tw11273317541455193967 : True := trivial
theorem hh.tw13861544478110225327 : True := trivial
theorem hh.tw15384931769470585839 : True := trivial
theorem hh.tw466804039377696784 : True := trivial
theorem hh.tw5655848156662845680 : True := trivial
theorem hh.tw11570680192007259440 : True := trivial
theorem hh.tw4983090157808020784 : True := trivial
theorem hh.tw3853818042504564080 : True := trivial
theorem hh.tw6513728141460676112 : True := trivial
theorem hh.tw6357269777131393552 : True := trivial
theorem hh.tw5653734207466896944 : True := trivial
theorem hh.tw1454712341612920752 : True := trivial
theorem hh.tw2058870750847806416 : True := trivial
theorem hh.tw15025953694237851632 : True := trivial
theorem hh.tw17816595985123921073 : True := trivial
theorem hh.tw17373946152206091537 : True := trivial
theorem hh.tw8552607789651305777 : True := trivial
theorem hh.tw1583198578721127121 : True := trivial
theorem hh.tw13502098933423262481 : True := trivial
theorem hh.tw10300975656936366961 : True := trivial
theorem hh.tw4458256277972588433 : True := trivial
theorem hh.tw6766015279145100338 : True := trivial
theorem hh.tw8267467106865475698 : True := trivial
theorem hh.tw2376296136047037586 : True := trivial
theorem hh.tw16327524419425845394 : True := trivial
theorem hh.tw10234867414818455730 : True := trivial
theorem hh.tw17979144980676882642 : True := trivial
theorem hh.tw13838387391445553426 : True := trivial
theorem hh.tw13247535905602448882 : True := trivial
theorem hh.tw17519440763982055986 : True := trivial
theorem hh.tw8167170954007429778 : True := trivial
theorem hh.tw7811750790079790770 : True := trivial
theorem hh.tw12288211770457218834 : True := trivial
theorem hh.tw11641973427225717554 : True := trivial
theorem hh.tw7679386872769923922 : True := trivial
theorem hh.tw1203434270234969139 : True := trivial
theorem hh.tw5912874943281040435 : True := trivial
theorem hh.tw8257500943222749491 : True := trivial
theorem hh.tw1731959658521507187 : True := trivial
theorem hh.tw11326489689991583123 : True := trivial
theorem hh.tw4319732354401219027 : True := trivial
theorem hh.tw477790126572875347 : True := trivial
theorem hh.tw17002262581324608115 : True := trivial
theorem hh.tw2204540986313665235 : True := trivial
theorem hh.tw9746614333514039059 : True := trivial
theorem hh.tw11378865577618698131 : True := trivial
theorem hh.tw11631903788959367123 : True := trivial
theorem hh.tw10461433995733824564 : True := trivial
theorem hh.tw4674003941114817684 : True := trivial
theorem hh.tw12167543119440138452 : True := trivial
theorem hh.tw10094028753078525172 : True := trivial
theorem hh.tw15773541848570781940 : True := trivial
theorem hh.tw15991927263600043284 : True := trivial
theorem hh.tw7694825773669126484 : True := trivial
theorem hh.tw11258834671724836180 : True := trivial
theorem hh.tw6228701476917223796 : True := trivial
theorem hh.tw10976075540782771604 : True := trivial
theorem hh.tw2370640551056877044 : True := trivial
theorem hh.tw10124690447254451828 : True := trivial
theorem hh.tw17723860776260619956 : True := trivial
theorem hh.tw2577530316877179572 : True := trivial
theorem hh.tw11998751138510606068 : True := trivial
theorem hh.tw17886640649390603028 : True := trivial
theorem hh.tw5688018640912991124 : True := trivial
theorem hh.tw11770063087502300213 : True := trivial
theorem hh.tw16085450171495119125 : True := trivial
theorem hh.tw9603876527985903061 : True := trivial
theorem hh.tw5796644137607536277 : True := trivial
theorem hh.tw4823918893018036917 : True := trivial
theorem hh.tw12939975372886881973 : True := trivial
theorem hh.tw1395823903252169493 : True := trivial
theorem hh.tw13974806444649870101 : True := trivial
theorem hh.tw7125174457207920437 : True := trivial
theorem hh.tw9321287389764934517 : True := trivial
theorem hh.tw17840553364956034997 : True := trivial
theorem hh.tw12602126253249276885 : True := trivial
theorem hh.tw3880611161200499701 : True := trivial
theorem hh.tw3535913324706502710 : True := trivial
theorem hh.tw526760800029963350 : True := trivial
theorem hh.tw11361426721065442454 : True := trivial
theorem hh.tw445144957227623670 : True := trivial
theorem hh.tw13561195823594235350 : True := trivial
theorem hh.tw13554542859240234454 : True := trivial
theorem hh.tw10911098050938444406 : True := trivial
theorem hh.tw449587791532935894 : True := trivial
theorem hh.tw17828278725807735574 : True := trivial
theorem hh.tw3238959177522175766 : True := trivial
theorem hh.tw13755725786720960342 : True := trivial
theorem hh.tw17645460740163396631 : True := trivial
theorem hh.tw9324071202356424951 : True := trivial
theorem hh.tw6839789862924156151 : True := trivial
theorem hh.tw14597645059949976887 : True := trivial
theorem hh.tw9852673220664509879 : True := trivial
theorem hh.tw473068946282228247 : True := trivial
theorem hh.tw5408827735128688215 : True := trivial
theorem hh.tw10773896135466593911 : True := trivial
theorem hh.tw4996155174831860407 : True := trivial
theorem hh.tw689009396329591479 : True := trivial
theorem hh.tw6626910915429359287 : True := trivial
theorem hh.tw7169537519523399383 : True := trivial
theorem hh.tw2001792062413262583 : True := trivial
theorem hh.tw4212238582512458583 : True := trivial
theorem hh.tw17846323154982745304 : True := trivial
theorem hh.tw12012429381128494360 : True := trivial
theorem hh.tw4440736456677610808 : True := trivial
theorem hh.tw17713091050854750680 : True := trivial
theorem hh.tw4103756263285686840 : True := trivial
theorem hh.tw2916021573299952504 : True := trivial
theorem hh.tw3625580834424130552 : True := trivial
theorem hh.tw9479766151786674201 : True := trivial
theorem hh.tw7943289562734918681 : True := trivial
theorem hh.tw8439507342228973689 : True := trivial
theorem hh.tw16046298058077285625 : True := trivial
theorem hh.tw10887841363175866649 : True := trivial
theorem hh.tw8185113053455550745 : True := trivial
theorem hh.tw17919709223812375833 : True := trivial
theorem hh.tw2658976548185465209 : True := trivial
theorem hh.tw1416441533500685785 : True := trivial
theorem hh.tw14331143573219074617 : True := trivial
theorem hh.tw10074376128390751833 : True := trivial
theorem hh.tw7845604329286503065 : True := trivial
theorem hh.tw4032272185049435129 : True := trivial
theorem hh.tw6537541839935184090 : True := trivial
theorem hh.tw1653019932052415706 : True := trivial
theorem hh.tw16294883211436691738 : True := trivial
theorem hh.tw5440704507381227994 : True := trivial
theorem hh.tw104697864587833818 : True := trivial
theorem hh.tw2094975570117944890 : True := trivial
theorem hh.tw4826033597673666106 : True := trivial
theorem hh.tw15479385183676940890 : True := trivial
theorem hh.tw1543354380275680858 : True := trivial
theorem hh.tw11046094785086785146 : True := trivial
theorem hh.tw15456029636562868922 : True := trivial
theorem hh.tw9065070003667395418 : True := trivial
theorem hh.tw7226245845310241722 : True := trivial
theorem hh.tw11174160446519944122 : True := trivial
theorem hh.tw5059013774621906906 : True := trivial
theorem hh.tw1128323713081136122 : True := trivial
theorem hh.tw7005831491926615034 : True := trivial
theorem hh.tw1913458944751855675 : True := trivial
theorem hh.tw16892545297379994715 : True := trivial
theorem hh.tw3291968594371744923 : True := trivial
theorem hh.tw2123999689836369147 : True := trivial
theorem hh.tw8987432773636011323 : True := trivial
theorem hh.tw8657845742689162587 : True := trivial
theorem hh.tw5252519847541232091 : True := trivial
theorem hh.tw17880595693485323835 : True := trivial
theorem hh.tw8447672592707719771 : True := trivial
theorem hh.tw16767196270620993115 : True := trivial
theorem hh.tw16467796505279308507 : True := trivial
theorem hh.tw6520993964964815611 : True := trivial
theorem hh.tw9803354234424007547 : True := trivial
theorem hh.tw8063559847575829403 : True := trivial
theorem hh.tw14756551054066203611 : True := trivial
theorem hh.tw5599887469669339131 : True := trivial
theorem hh.tw4140531005391115292 : True := trivial
theorem hh.tw17044891974272958524 : True := trivial
theorem hh.tw9259859022858830908 : True := trivial
theorem hh.tw13800018164621449340 : True := trivial
theorem hh.tw12122785607499739388 : True := trivial
theorem hh.tw9210140950617183740 : True := trivial
theorem hh.tw15442340635543416348 : True := trivial
theorem hh.tw437203501645655612 : True := trivial
theorem hh.tw11166578392700057276 : True := trivial
theorem hh.tw2439880095560054460 : True := trivial
theorem hh.tw3528670315742334780 : True := trivial
theorem hh.tw8753555472936262460 : True := trivial
theorem hh.tw5914522376038790012 : True := trivial
theorem hh.tw6208829689304858556 : True := trivial
theorem hh.tw4162261203684137948 : True := trivial
theorem hh.tw863864520361688093 : True := trivial
theorem hh.tw8378305461754162301 : True := trivial
theorem hh.tw11631114530152066237 : True := trivial
theorem hh.tw12478951231512741053 : True := trivial
theorem hh.tw10876381789015053565 : True := trivial
theorem hh.tw8241886615689977117 : True := trivial
theorem hh.tw14996542813961884989 : True := trivial
theorem hh.tw16348169127433858557 : True := trivial
theorem hh.tw2498494404288638557 : True := trivial
theorem hh.tw6091331957022990973 : True := trivial
theorem hh.tw12640716699950381917 : True := trivial
theorem hh.tw11137857098962389885 : True := trivial
theorem hh.tw15867413298626585533 : True := trivial
theorem hh.tw9044982093995581405 : True := trivial
theorem hh.tw2015793228981090301 : True := trivial
theorem hh.tw11333392045114326046 : True := trivial
theorem hh.tw17801122836952578174 : True := trivial
theorem hh.tw10543475443003722974 : True := trivial
theorem hh.tw10140985718593732830 : True := trivial
theorem hh.tw894245973117568446 : True := trivial
theorem hh.tw3291644451839008350 : True := trivial
theorem hh.tw11351935199155625566 : True := trivial
theorem hh.tw6020514627699830494 : True := trivial
theorem hh.tw18310537401993709278 : True := trivial
theorem hh.tw2428258432728476606 : True := trivial
theorem hh.tw4152381835148880862 : True := trivial
theorem hh.tw14089670480900870239 : True := trivial
theorem hh.tw17776274375581186175 : True := trivial
theorem hh.tw15578177600729131167 : True := trivial
theorem hh.tw351795472841511103 : True := trivial
theorem hh.tw13499638307668283615 : True := trivial
theorem hh.tw17405173698549576991 : True := trivial
theorem hh.tw15775006850799713631 : True := trivial
theorem hh.tw6906923952978972191 : True := trivial
theorem hh.tw9804520138307853887 : True := trivial
theorem hh.tw15755371590292533023 : True := trivial
theorem hh.tw12546130235975709503 : True := trivial
theorem hh.tw16144539858081032063 : True := trivial
theorem hh.tw6822318990872918015 : True := trivial
theorem hh.tw379362426116377599 : True := trivial
theorem hh.tw597883083924660151 : True := trivial
set_option Elab.async true in
set_option maxRecDepth 100000 in
set_option maxHeartbeats 8000000 in
theorem hh : ∃ T : Prop, (T → PySem.Challenge.rw_kj0039_01.Holds) :=
  let rec walked (walk : _) : PySem.Challenge.rw_kj0039_01.Holds := by
    w_on
    o_law
    k_head
    (case hw => w_witness2)
    (case hc => trivial)
  ⟨_, walked⟩
end Mine
namespace Mine
theorem zr_M0 : True := by
  w_top off
  k_with_none
  exact True.intro
open PySem.Calls
theorem enter {w : World} {mean : ExcName → Option Value} {mg mb : Str → Option Value} {A : Around} {R : Result → Shared → Prop} {s : Shared} {h₀ : Heap} {news : List (Addr × Obj)} {f : Addr}
    {name qual : Str} {params : Arguments} {body : List Stmt} {scope : Scope} {dV kV doc pm cdv ct oc : Value} {an od : Option Addr} {osl : Array (Option Value)} {args : Args} {binds : List (Str × Value)} {mm : Str → Option Value}
    (S : ∀ b o, h₀.get? b = some o → s.heap.get? b = some o) (X₀ : (Mine.hh.heap_1_39 w.params).In h₀) (T : Top Mine.hh.view_1_40 (looseW Mine.hh.view_1_40 [Str.ofString "PyFATException", Str.ofString "errno", Str.ofString "EightDotThree"]) mean mg mb h₀)
    (N : ∀ p ∈ news, s.heap.get? p.1 = some p.2 ∧ h₀.get? p.1 = none)
    (ho : (Mine.hh.heap_1_39 w.params).lookup f = some ⟨oc, od, .func (fnOf name qual params body scope dV kV doc pm an cdv ct), osl⟩) (hcd : codeIn (Mine.hh.heap_1_39 w.params) cdv qual = true) (hroom : A.depth < recursionLimit)
    (hbind : BindsTo s (fnOf name qual params body scope dV kV doc pm an cdv ct) args binds) (hmm : (fun y => binds.reverse.lookup y) = mm) (hloc : ∀ y ∈ binds, scope.names.lookup y.1 = some .local)
    (h : ∀ g L' h₁ tk, (∀ b o, s.heap.get? b = some o → b ∉ news.map (·.1) → g.get? b = some o) → (∀ b o, g.get? b = some o → s.heap.get? b = some o) → h₀.StaysIn g →
      Fr g L' h₁ mm → News g L' h₁ news → (Mine.hh.heap_1_39 w.params).In g → Top Mine.hh.view_1_40 (looseW Mine.hh.view_1_40 [Str.ofString "PyFATException", Str.ofString "errno", Str.ofString "EightDotThree"]) mean mg mb g → (∀ p ∈ news, p.1 < L') → L' = s.heap.objs.size →
      wpAny (model PySem.Challenge.rw_kj0039_01.row.prog w) (A.deeper (envOf qual scope L' f cdv)) (execs body (envOf qual scope L' f cdv))
        (fun fl s' => R (.ok (.ret (match fl with | .ret v => v | _ => .none))) s')
        (fun e s' => wpAny (model PySem.Challenge.rw_kj0039_01.row.prog w) (A.deeper (envOf qual scope L' f cdv)) (leaving (envOf qual scope L' f cdv) e) (fun _ s'' => R (.error e) s'') (fun e' s'' => R (.error e') s'') s')
        { s with heap := h₁, toks := tk })
    (hco : scope.isCoroutine = false) (hgen : scope.isGenerator = false) (hk : scope.kind = .function)
    (hcell : ∀ x ∈ scope.names, x.2 ≠ .cell) : codeAny (model PySem.Challenge.rw_kj0039_01.row.prog w) A (.call (.ref f) args) R s := by
  subst hmm
  have st : h₀.StaysIn (hideAll s.heap (news.map (·.1))) := fun b o e => hideAll_get _ (S b o e) fun hm => by
    obtain ⟨p, hp, rfl⟩ := List.mem_map.mp hm
    rw [(N p hp).2] at e; cases e
  have X : (Mine.hh.heap_1_39 w.params).In s.heap := X₀.keeps S
  refine codeAny_call_def (fd := fnOf name qual params body scope dV kV doc pm an cdv ct) (body := body) (binds := binds) hroom (X _ _ ho) rfl (T.nolimit.keeps S) (codeRec_of X hcd) rfl hbind hcell hloc (fun h₁ hns hk₁ => ?_) hco hgen hk
  exact h _ s.heap.objs.size h₁ _ (fun b o e n => hideAll_get _ e n) (fun b o e => of_hideAll _ e) st ⟨hns, fun b o e => hk₁ b o (of_hideAll _ e), Nat.le_of_eq (hideAll_size _ _)⟩
    (fun p hp => ⟨hk₁ _ _ (N p hp).1, Nat.ne_of_lt (Heap.lt_size (N p hp).1), hideAll_none _ (List.mem_map_of_mem hp)⟩) (X₀.keeps st) (T.keeps st) (fun p hp => Heap.lt_size (N p hp).1) rfl
/-! bounds by comparison of written numbers: short proofs in place of omega's. -/
theorem rmk {a b c d n : Nat} (h : a + b < n) (e : Nat.ble (d + c) b = true) : a + d + c < n := by
  have := Nat.le_of_ble_eq_true e
  omega
theorem rm0 {a b c n : Nat} (h : a + b < n) (e : Nat.ble c b = true) : a + c < n := by
  have := Nat.le_of_ble_eq_true e
  omega
theorem rmz {a b n : Nat} (h : a + b < n) : a < n := by omega
theorem lel {a b c : Nat} (h : a ≤ b) (e : Nat.ble b c = true) : a ≤ c := Nat.le_trans h (Nat.le_of_ble_eq_true e)
theorem llt {a b c : Nat} (h : a ≤ b) (e : Nat.ble (b + 1) c = true) : a < c := by
  have := Nat.le_of_ble_eq_true e
  omega
theorem ltt {a b c : Nat} (h : a < b) (e : Nat.ble b c = true) : a < c := by
  have := Nat.le_of_ble_eq_true e
  omega
theorem ltl {a b c : Nat} (h : a < b) (e : Nat.ble b (c + 1) = true) : a ≤ c := by
  have := Nat.le_of_ble_eq_true e
  omega
theorem ilt {a b c : Int} (h : a < b) (e : decide (b ≤ c) = true) : a < c := Int.lt_of_lt_of_le h (of_decide_eq_true e)
end Mine
namespace Mine
theorem zr_C0 : True := by
  w_top off
  k_with_none
  k_with "O" => first | decide | ((with_reducible refine rmk (by assumption) ?_); rfl) | ((with_reducible refine rm0 (by assumption) ?_); rfl) | ((with_reducible refine lel (by assumption) ?_); rfl) | ((with_reducible refine llt (by assumption) ?_); rfl) | ((with_reducible refine ltt (by assumption) ?_); rfl) | ((with_reducible refine ltl (by assumption) ?_); rfl) | ((with_reducible refine ilt (by assumption) ?_); rfl) | (with_reducible exact rmz (by assumption)) | (with_reducible assumption)
  exact True.intro
open PySem.Calls
open Sem (wp)
noncomputable def ClnB (Γ : Ctx) : Prop := ∀ x ∈ Γ.below, holderC x.1 = false
noncomputable def codeC (M : Model) (A : Around) (c : Code) (R : Result → Shared → Prop) (s : Shared) : Prop :=
  ∀ Γ p, Γ.code = c → Γ.Below A → ClnB Γ → wpCode M Γ R p s
section
variable {α β : Type} {M : Model} {A : Around} {E : Value → Shared → Prop} {s : Shared}
theorem codeC_any {c : Code} {R : Result → Shared → Prop} (h : codeAny M A c R s) : codeC M A c R s := fun Γ p hc hΓ _ => h Γ p hc hΓ
/-- a leaf by the library's rules, then the clean rest. -/
theorem wpC_leaf {m : Sem α} {f : α → Sem β} {Q : β → Shared → Prop} (h : wpAny M A m (fun a s' => wpC M A (f a) Q E s') E s) :
    wpC M A (m >>= f) Q E s := wpC_bind (wpC_any h)
theorem wpC_pure {a : α} {Q : α → Shared → Prop} (h : Q a s) : wpC M A (pure a) Q E s := wpC_any (wpAny_pure h)
theorem wpC_holding {vs : List Value} {m : Sem α} {Q : α → Shared → Prop} (h : wpC M A m Q E s) : wpC M A (holding vs m) Q E s :=
  fun Γ p hΓ hC => by rw [Sem.wp_holding]; exact h Γ p hΓ hC
theorem wpC_attempt {m : Sem α} {Q : Except Value α → Shared → Prop} (h : wpC M A m (fun a => Q (.ok a)) (fun e => Q (.error e)) s) :
    wpC M A m.attempt Q E s := fun Γ p hΓ hC => by rw [Sem.wp_attempt]; exact h Γ p hΓ hC
theorem wpC_onRaise {m : Sem α} {k : Value → Sem Unit} {Q : α → Shared → Prop}
    (h : wpC M A m Q (fun e s' => wpC M A (k e) (fun _ s'' => E e s'') E s') s) : wpC M A (m.onRaise k) Q E s := fun Γ p hΓ hC => by
  rw [Sem.wp_onRaise]
  exact Sem.wp_mono M Γ m (fun _ _ _ h' => h') (fun e p' s' h' => h' Γ p' hΓ hC) p s (h Γ p hΓ hC)
theorem wpC_ite {c : Prop} [Decidable c] {a b : Sem α} {Q : α → Shared → Prop} (h : if c then wpC M A a Q E s else wpC M A b Q E s) :
    wpC M A (if c then a else b) Q E s := by split <;> simp_all
theorem cln_enter {Γ : Ctx} {c : Code} {hd : Option Value} {p : Pos} (h : Cln Γ) : ClnB (Γ.enter c hd p) := by
  intro x hx
  have hx' : x ∈ (Γ.code, p) :: Γ.below := hx
  rcases List.mem_cons.mp hx' with rfl | hx'
  · exact h.1
  · exact h.2 x hx'
theorem wpC_run {c : Code} {h : Option Value} {Q : Flow → Shared → Prop}
    (hc : codeC M (A.mark h) c (fun r s' => match r with | .ok f => Q f s' | .error e => E e s') s) (hnb : h ≠ some byPass := by intro x; cases x) :
    wpC M A (run c h) Q E s :=
  fun Γ p hΓ hC => by rw [Sem.wp_run]; exact hc _ p rfl (hΓ.enter c h p hnb) (cln_enter hC)
theorem wpC_runValue {c : Code} {Q : Value → Shared → Prop}
    (hc : codeC M A c (fun r s' => match r with | .ok (.ret v) => Q v s' | .ok _ => False | .error e => E e s') s) :
    wpC M A (runValue c) Q E s := fun Γ p hΓ hC => by rw [Sem.wp_runValue]; exact hc _ p rfl (hΓ.enter c none p (by intro x; cases x)) (cln_enter hC)
theorem wpC_call {f : Value} {pos : List Value} {kw : List (Str × Value)} {Q : Value → Shared → Prop}
    (hc : codeC M A (.call f ⟨pos, kw⟩) (fun r s' => match r with | .ok (.ret v) => Q v s' | .ok _ => False | .error e => E e s') s) :
    wpC M A (call f pos kw) Q E s := wpC_runValue hc
theorem codeC_of_tree {c : Code} {R : Result → Shared → Prop} (hcl : holderC c = false)
    (h : wpC M (A.under c) (M.den c) (fun fin s' => match fin with | .done f => R (.ok f) s' | .again c' => c'.quiet = true ∧ codeC M A c' R s')
      (fun e s' => R (.error e) s') s) : codeC M A c R s := fun Γ p hc hΓ hB => by
  rw [wpCode_iff_wp, hc]
  refine Sem.wp_mono M Γ _ (fun fin p' s' h' => ?_) (fun _ _ _ h' => h') p s (h Γ p (hc ▸ hΓ.in) ⟨by rw [hc]; exact hcl, hB⟩)
  cases fin with
  | done f => exact h'
  | again c' => exact ⟨h'.1, h'.2 (Γ.goto c') p' rfl (hΓ.goto c') hB⟩
theorem codeC_mono {c : Code} {R R' : Result → Shared → Prop} (h : codeC M A c R s) (hR : ∀ r s, R r s → R' r s) : codeC M A c R' s :=
  fun Γ p hc hΓ hB => wpCode_mono hR (h Γ p hc hΓ hB)
theorem codeC_loop {c : Code} {R : Result → Shared → Prop} (hq : c.quiet = true) (hcl : holderC c = false) (I : Nat → Shared → Prop)
    (turn : ∀ n s, I n s → wpC M (A.under c) (M.den c)
      (fun fin s' => match fin with | .done f => R (.ok f) s' | .again c' => (c' = c ∧ ∃ m, m < n ∧ I m s') ∨ (c'.quiet = true ∧ codeC M A c' R s')) (fun e s' => R (.error e) s') s)
    (n : Nat) (h : I n s) : codeC M A c R s := by
  induction n using Nat.strongRecOn generalizing s with
  | ind n ih =>
    refine codeC_of_tree hcl (wpC_mono (turn n s h) (fun fin s' hf => ?_) fun _ _ h' => h')
    cases fin with
    | done f => exact hf
    | again c' =>
      rcases hf with ⟨rfl, m, hm, hI⟩ | hf
      · exact ⟨hq, ih m hm hI⟩
      · exact hf
/-- no code on a clean stack holds the buffer. -/
theorem wpC_exported {v : Value} {Q : Bool → Shared → Prop} (h : Q false s) : wpC M A (Builtin.Bytes.exported v) Q E s := fun Γ p hΓ hC => by
  have hall : ∀ x ∈ (Γ.code, p) :: Γ.below, holderC x.1 = false := fun x hx => by
    rcases List.mem_cons.mp hx with rfl | hx
    · exact hC.1
    · exact hC.2 x hx
  unfold Builtin.Bytes.exported
  show Q (((Γ.code, p) :: Γ.below).any _) s
  rw [show ((Γ.code, p) :: Γ.below).any _ = false from List.any_eq_false.mpr fun x hx hf => ?_]
  · exact h
  · have hh := hall x hx
    obtain ⟨c, q⟩ := x
    cases c with
    | builtin id args =>
      obtain ⟨pos, kw⟩ := args
      simp only [holderC] at hh
      have no : ∀ i : String, (["bytearray.__contains__", "bytearray.__mod__", "bytearray.__rmod__", "_struct.pack_into.held", "bytearray.find.held"] ++ Builtin.Bytes.decodersThatHold).contains i = true → id ≠ i := by
        rintro i hi rfl
        rw [hh] at hi; cases hi
      have n1 := no "bytearray.__contains__" (by decide +kernel)
      have n2 := no "bytearray.__mod__" (by decide +kernel)
      have n3 := no "bytearray.__rmod__" (by decide +kernel)
      have n4 := no "_struct.pack_into.held" (by decide +kernel)
      have n5 := no "bytearray.find.held" (by decide +kernel)
      have n6 : Builtin.Bytes.decodersThatHold.contains id = false := by
        cases hq : Builtin.Bytes.decodersThatHold.contains id with
        | false => rfl
        | true => exact absurd rfl (no id (by
            rw [List.contains_iff_mem] at hq ⊢
            exact List.mem_append_right _ hq))
      delta Builtin.Bytes.exported.match_1 at hf
      change dite (id = "bytearray.__contains__") _ _ = true at hf
      rw [dif_neg n1, dif_neg n2, dif_neg n3, dif_neg n4, dif_neg n5] at hf
      cases pos with
      | nil => exact Bool.noConfusion hf
      | cons a r =>
        change (_ && Builtin.Bytes.decodersThatHold.contains id) = true at hf
        rw [n6, Bool.and_false] at hf
        exact Bool.noConfusion hf
    | _ => exact Bool.noConfusion hf
end
end Mine
namespace Mine
theorem zr_M2 : True := by
  w_top off
  k_with_none
  k_with "O" => first | decide | ((with_reducible refine rmk (by assumption) ?_); rfl) | ((with_reducible refine rm0 (by assumption) ?_); rfl) | ((with_reducible refine lel (by assumption) ?_); rfl) | ((with_reducible refine llt (by assumption) ?_); rfl) | ((with_reducible refine ltt (by assumption) ?_); rfl) | ((with_reducible refine ltl (by assumption) ?_); rfl) | ((with_reducible refine ilt (by assumption) ?_); rfl) | (with_reducible exact rmz (by assumption)) | (with_reducible assumption)
  exact True.intro
open PySem.Calls
section
variable {w : World} {A : Around} {E : Value → Shared → Prop} {s : Shared} {env : Env} {mg mb : Str → Option Value}
/-- `f(x)` in a comprehension's frame, f a built-in name, x the comprehension's own name. -/
theorem elt_bi {C : Addr} {m : Str → Option Value} {scope : Scope} {x f : Str} {id : String} {v : Value} {p1 p2 p3 : Pos} {Q : Value → Shared → Prop}
    (hk : scope.kind = .function) (hx : scope.names.lookup x = some .local) (hf : scope.names.lookup f = some .globalImplicit)
    (hgl : env.globals = mainGlobals) (hbl : env.builtins = builtinsNs) (G : s.heap.Ns mainGlobals mg) (B : s.heap.Ns builtinsNs mb)
    (hmiss : mg f = none) (hb : mb f = some (.builtin id)) (hn : s.heap.Ns C m) (hv : m x = some v)
    (h : wpAny (model PySem.Challenge.rw_kj0039_01.row.prog w) A (call (.builtin id) [v]) Q E s)
    (hd : (f == ("__debug__" : Str)) = false) (hd2 : (x == ("__debug__" : Str)) = false) :
    wpAny (model PySem.Challenge.rw_kj0039_01.row.prog w) A (eval (.Call (.Name f p1) [.Name x p2] [] p3) (compEnv scope C env)) Q E s := by
  refine Call_ (wpAny_Name (ks_loadName_global hk hf (loadGlobal_builtin (env := compEnv scope C env) (hgl ▸ G) hmiss (hbl ▸ B) hb ?_)) hd) rfl
  refine callWith_builtin1 (args_cons (wpAny_Name (wpAny_loadName_local hk hx hn hv ?_) hd2) rfl) rfl rfl
  exact args_nil h
/-- What the walked source must bring for `[f(x) for x in ..]`, f a built-in. -/
noncomputable def BiSrc (w : World) (A : Around) (mg mb : Str → Option Value) (id : String) (F : Value → Value → Prop) (Q : Value → Shared → Prop) (it : Value) (s₂ : Shared) : Prop :=
  ∃ (I : Addr) (fp wr : List Addr) (n : Nat) (P : Nat → Value → Prop) (St : Nat → Heap → Prop), it = .ref I ∧ Walks PySem.Challenge.rw_kj0039_01.row.prog w A I fp wr n P St ∧ n ≤ sizeLine ∧ St 0 s₂.heap ∧ (∀ b ∈ fp, b < s₂.heap.objs.size) ∧
    s₂.heap.Ns mainGlobals mg ∧ s₂.heap.Ns builtinsNs mb ∧ mainGlobals ∉ wr ∧ builtinsNs ∉ wr ∧
    (∀ i v (s : Shared) (Q : Value → Shared → Prop) (E' : Value → Shared → Prop), P i v → (∀ r tk, F v r → Q r { s with toks := tk }) → wpAny (model PySem.Challenge.rw_kj0039_01.row.prog w) A (call (.builtin id) [v]) Q E' s) ∧
    (∀ (D : Addr) (h' : Heap) (tk : Nat) (ys : List Value), s₂.heap.get? D = none → h'.PlainList D ys.toArray → ys.length = n → (∀ (j : Nat) (r : Value), ys[j]? = some r → ∃ v, P j v ∧ F v r) →
      (∀ b o, b ∉ wr → s₂.heap.get? b = some o → h'.get? b = some o) → Q (.ref D) { s₂ with heap := h', toks := tk })
theorem paired_get {F : Value → Value → Prop} : ∀ {vs ys : List Value}, Paired F vs ys → vs.length = ys.length ∧ ∀ (j : Nat) (r : Value), ys[j]? = some r → ∃ v, vs[j]? = some v ∧ F v r
  | _, _, .nil => ⟨rfl, fun j r h => by simp at h⟩
  | _, _, .cons hf hp => by
    obtain ⟨h1, h2⟩ := paired_get hp
    refine ⟨by simp [h1], fun j r h => ?_⟩
    cases j with
    | zero => simp at h; subst h; exact ⟨_, rfl, hf⟩
    | succ j => simp at h; exact h2 j r h
theorem bi_comp {scope : Scope} {x f : Str} {id : String} {p1 p2 p3 px pos : Pos} {iter : Expr} {Q : Value → Shared → Prop} (F : Value → Value → Prop)
    (hfree : ∀ y ∈ scope.names, y.2 ≠ .free) (hcell : ∀ y ∈ scope.names, y.2 ≠ .cell) (hk : scope.kind = .function)
    (hnames : ∀ y ∈ scope.names, y.2 = .local → scope.names.lookup y.1 = some .local) (hx : scope.names.lookup x = some .local) (hf : scope.names.lookup f = some .globalImplicit)
    (hgl : env.globals = mainGlobals) (hbl : env.builtins = builtinsNs) (hmiss : mg f = none) (hb : mb f = some (.builtin id))
    (hd : (f == ("__debug__" : Str)) = false) (hd2 : (x == ("__debug__" : Str)) = false)
    (h : wpAny (model PySem.Challenge.rw_kj0039_01.row.prog w) A (eval iter env) (fun xv s₁ => wpAny (model PySem.Challenge.rw_kj0039_01.row.prog w) A (pyIter xv) (BiSrc w A mg mb id F Q) E s₁) E s)
    (hs : ∀ x, foldedSetIterable iter env x = pure x) :
    wpAny (model PySem.Challenge.rw_kj0039_01.row.prog w) A (eval (.ListComp (.Call (.Name f p1) [.Name x p2] [] p3) [⟨.Name x px, iter, [], 0⟩] scope pos) env) Q E s := by
  refine wpAny_ListComp_walk (fun _ => true) F hfree hcell hk hnames hx
    (wpAny_mono h (fun xv s₁ h₁ => wpAny_mono h₁ (fun it s₂ h₂ => ?_) fun _ _ e => e) fun _ _ e => e) hs
  obtain ⟨I, fp, wr, n, P, St, rfl, W, hsz, hst, hfp, G, B, w1, w2, hcall, hQ⟩ := h₂
  refine ⟨I, fp, wr, n, P, St, rfl, W, hsz, hst, hfp, ⟨?_, ?_⟩, ?_⟩
  · intro C i v s₃ m₃ E' hP hn hm hk htk
    exact wpAny_pure ⟨rfl, s₃.heap, s₃.toks, rfl, fun _ _ e => e⟩
  · intro C i v s₃ m₃ E' hP _ hn hm hk3 htk
    have G3 : s₃.heap.Ns mainGlobals mg := G.at' fun o e => hk3 _ o w1 e
    have B3 : s₃.heap.Ns builtinsNs mb := B.at' fun o e => hk3 _ o w2 e
    refine elt_bi hk hx hf hgl hbl G3 B3 hmiss hb hn hm ?_ hd hd2
    exact hcall i v s₃ _ _ hP fun r tk hr => ⟨hr, s₃.heap, tk, rfl, fun _ _ e => e⟩
  · intro D h' tk ys vs hD hl hpl hlen hP hF hk3
    have e : vs.filter (fun _ => true) = vs := List.filter_eq_self.mpr fun a _ => rfl
    rw [e] at hF
    obtain ⟨h1, h2⟩ := paired_get hF
    refine hQ D h' tk ys.toList hD (by simpa using hpl) (by rw [← h1]; exact hlen) (fun j r hj => ?_) hk3
    obtain ⟨v, hv, hf⟩ := h2 j r hj
    exact ⟨v, hP j v hv, hf⟩
end
end Mine
namespace Mine
theorem zr_M3 : True := by
  w_top off
  k_with_none
  k_with "O" => first | decide | ((with_reducible refine rmk (by assumption) ?_); rfl) | ((with_reducible refine rm0 (by assumption) ?_); rfl) | ((with_reducible refine lel (by assumption) ?_); rfl) | ((with_reducible refine llt (by assumption) ?_); rfl) | ((with_reducible refine ltt (by assumption) ?_); rfl) | ((with_reducible refine ltl (by assumption) ?_); rfl) | ((with_reducible refine ilt (by assumption) ?_); rfl) | (with_reducible exact rmz (by assumption)) | (with_reducible assumption)
  exact True.intro
open PySem.Calls
theorem ns_lt {h : Heap} {a : Addr} {m : Str → Option Value} (n : h.Ns a m) : a < h.objs.size := by
  obtain ⟨o, es, ep, ho, _⟩ := n
  exact Heap.lt_size ho
theorem fresh_K {h₀ h h' : Heap} {L D : Addr} {m : Str → Option Value} {news : List (Addr × Obj)} {o : Obj} (F : Fr h₀ L h m) (N : News h₀ L h news) (k : ∀ b o, h.get? b = some o → h'.get? b = some o)
    (hD : h.get? D = none) (ho : h'.get? D = some o) : Fr h₀ L h' m ∧ News h₀ L h' ((D, o) :: news) ∧ ∀ p ∈ news, p.1 ≠ D := by
  refine ⟨F.keptAll k, fun p hp => ?_, fun p hp e => ?_⟩
  · rcases List.mem_cons.mp hp with rfl | hp
    · refine ⟨ho, fun e => ?_, ?_⟩
      · obtain ⟨oL, _, _, hL, _⟩ := F.ns
        have e' : D = L := e
        subst e'
        rw [hD] at hL; cases hL
      · show h₀.get? D = none
        cases q : h₀.get? D with
        | none => rfl
        | some o' => have := F.keep _ _ q; rw [hD] at this; cases this
    · exact ⟨k _ _ (N p hp).1, (N p hp).2⟩
  · have := (N p hp).1; rw [e, hD] at this; cases this
section
variable {w : World} {A : Around} {E : Value → Shared → Prop} {s : Shared} {mg mb : Str → Option Value} {mean : ExcName → Option Value} {h₀ : Heap} {L : Addr} {m : Str → Option Value} {news : List (Addr × Obj)} {p : Program} {loose : List Str}
noncomputable abbrev OrdF : Value → Value → Prop := fun v r => ∃ (c : Nat) (t u : Tok), v = .str ⟨#[c]⟩ t ∧ r = .int (c : Int) u
noncomputable abbrev ChrF : Value → Value → Prop := fun v r => ∃ (k : Int) (t u : Tok), v = .int k t ∧ 0 ≤ k ∧ k ≤ 1114111 ∧ r = .str ⟨#[k.toNat]⟩ u
theorem ints_of {ys : List Value} : ∀ {cs : List Int}, ys.length = cs.length → (∀ (j : Nat) (r : Value), ys[j]? = some r → ∃ c u, cs[j]? = some c ∧ r = .int c u) → IntsAre ys cs := by
  induction ys with
  | nil => intro cs h _; cases cs with
    | nil => exact .nil
    | cons _ _ => simp at h
  | cons y ys ih => intro cs h g; cases cs with
    | nil => simp at h
    | cons c cs =>
      obtain ⟨c', u, h1, h2⟩ := g 0 y rfl
      simp at h1; subst h1; subst h2
      exact .cons _ _ (ih (by simpa using h) fun j r hj => by simpa using g (j + 1) r (by simpa using hj))
theorem strs_of {ys : List Value} : ∀ {cs : List Str}, ys.length = cs.length → (∀ (j : Nat) (r : Value), ys[j]? = some r → ∃ c u, cs[j]? = some c ∧ r = .str c u) → StrsAre ys cs := by
  induction ys with
  | nil => intro cs h _; cases cs with
    | nil => exact .nil
    | cons _ _ => simp at h
  | cons y ys ih => intro cs h g; cases cs with
    | nil => simp at h
    | cons c cs =>
      obtain ⟨c', u, h1, h2⟩ := g 0 y rfl
      simp at h1; subst h1; subst h2
      exact .cons _ _ (ih (by simpa using h) fun j r hj => by simpa using g (j + 1) r (by simpa using hj))
noncomputable def ords (y : Str) : List Int := y.cps.toList.map fun c => ((c : Nat) : Int)
theorem src_ord {y : Str} {t : Tok} {Q : Value → Shared → Prop} (hh : A.handled = none) (F : Fr h₀ L s.heap m) (N : News h₀ L s.heap news) (T : Top p loose mean mg mb h₀) (hsz : y.cps.size ≤ sizeLine)
    (h : ∀ D (vs : List Value) n h' tk, Fr h₀ L h' m → News h₀ L h' ((D, listOf vs.toArray n) :: news) → (∀ p ∈ news, p.1 ≠ D) → IntsAre vs (ords y) → Q (.ref D) { s with heap := h', toks := tk }) :
    wpAny (model PySem.Challenge.rw_kj0039_01.row.prog w) A (pyIter (.str y t)) (BiSrc w A mg mb "ord" OrdF Q) E s := by
  refine wpAny_pyIter_str fun o St W hst => ?_
  have up : ∀ b o', s.heap.get? b = some o' → (s.heap.push o).get? b = some o' := fun b o' e => Heap.get?_push_of_some _ e
  have G := (T.g.keeps F.keep).keeps up
  have B := (T.b.keeps F.keep).keeps up
  have nw : ∀ a, a < s.heap.objs.size → a ∉ [s.heap.objs.size] := fun a ha hm => Nat.lt_irrefl _ ((List.mem_singleton.mp hm) ▸ ha)
  refine ⟨s.heap.objs.size, [s.heap.objs.size], [s.heap.objs.size], y.cps.size, SignAt y, St, rfl, W A hh, hsz, hst, ?_, G, B, nw _ (ns_lt (T.g.keeps F.keep)), nw _ (ns_lt (T.b.keeps F.keep)), ?_, ?_⟩
  · intro b hb
    show b < (s.heap.push o).objs.size
    rw [Heap.size_push, List.mem_singleton.mp hb]
    exact Nat.lt_succ_self _
  · rintro i v s' Q' E' ⟨c, u, hc, rfl⟩ hq
    exact P.ord_of_char (hq _ _ ⟨c, u, _, rfl, rfl⟩)
  · intro D h' tk ys hD hpl hlen hP hk
    have k3 : ∀ b o', s.heap.get? b = some o' → h'.get? b = some o' := fun b o' e => hk b o' (nw _ (Heap.lt_size e)) (up b o' e)
    have hD' : s.heap.get? D = none := by
      cases q : s.heap.get? D with
      | none => rfl
      | some o' => rw [up _ _ q] at hD; cases hD
    obtain ⟨n, hn⟩ := hpl
    obtain ⟨F', N', ne⟩ := fresh_K F N k3 hD' hn
    refine h D ys n h' tk F' N' ne (ints_of (by simp [ords, hlen]) fun j r hj => ?_)
    obtain ⟨v, ⟨c, u, hc, rfl⟩, c', t', u', e1, e2⟩ := hP j r hj
    cases e1
    exact ⟨_, u', by simp [ords, hc], e2⟩
/-- the source of `[chr(x) for x in ns]`, ns a list of ints that stands anywhere. -/
theorem src_chr {l : Addr} {vs : List Value} {ns : List Int} {Q : Value → Shared → Prop} (hh : A.handled = none) (F : Fr h₀ L s.heap m) (N : News h₀ L s.heap news) (T : Top p loose mean mg mb h₀) (hl : s.heap.IsList l vs.toArray) (hi : IntsAre vs ns)
    (hr : ∀ n ∈ ns, 0 ≤ n ∧ n ≤ 1114111) (hsz : ns.length ≤ sizeLine)
    (h : ∀ D (ys : List Value) n h' tk, Fr h₀ L h' m → News h₀ L h' ((D, listOf ys.toArray n) :: news) → (∀ p ∈ news, p.1 ≠ D) → StrsAre ys (ns.map fun k => (⟨#[k.toNat]⟩ : Str)) → Q (.ref D) { s with heap := h', toks := tk }) :
    wpAny (model PySem.Challenge.rw_kj0039_01.row.prog w) A (pyIter (.ref l)) (BiSrc w A mg mb "chr" ChrF Q) E s := by
  obtain ⟨ol, hol, hrest⟩ := id hl
  have hne : l ≠ s.heap.objs.size := Nat.ne_of_lt (Heap.lt_size hol)
  refine wpAny_pyIter_list hl ?_
  have W := Walks.list (prog := PySem.Challenge.rw_kj0039_01.row.prog) (w := w) hh s.heap.objs.size l hne vs.toArray
  have up : ∀ {o : Obj} b o', s.heap.get? b = some o' → (s.heap.push o).get? b = some o' := fun b o' e => Heap.get?_push_of_some _ e
  have G := (T.g.keeps F.keep).keeps (up (o := { cls := .type "list_iterator", data := .fields #[.ref l, .int 0 0] }))
  have B := (T.b.keeps F.keep).keeps (up (o := { cls := .type "list_iterator", data := .fields #[.ref l, .int 0 0] }))
  have nw : ∀ a, a < s.heap.objs.size → a ∉ [s.heap.objs.size] := fun a ha hm => Nat.lt_irrefl _ ((List.mem_singleton.mp hm) ▸ ha)
  have hlen : vs.length = ns.length := hi.length
  refine ⟨s.heap.objs.size, _, [s.heap.objs.size], _, _, _, rfl, W, by simpa [hlen] using hsz, ⟨⟨_, Heap.get?_push_size _ rfl, rfl, rfl⟩, hl.at fun o e => Heap.get?_push_of_some _ e⟩, ?_, G, B, nw _ (ns_lt (T.g.keeps F.keep)), nw _ (ns_lt (T.b.keeps F.keep)), ?_, ?_⟩
  · intro b hb
    show b < (s.heap.push _).objs.size
    rw [Heap.size_push]
    rcases List.mem_cons.mp hb with rfl | hb
    · exact Nat.lt_succ_self _
    · rw [List.mem_singleton.mp hb]; exact Nat.lt_succ_of_lt (Heap.lt_size hol)
  · intro i v s' Q' E' hP hq
    obtain ⟨n, t, rfl, hn⟩ := IntsAre.at hi i v (by simpa using hP)
    obtain ⟨r1, r2⟩ := hr n (List.mem_of_getElem? hn)
    exact P.chr_of_int (by simp only [Bool.or_eq_false_iff, decide_eq_false_iff_not]; (first | k_extra "O" | omega)) (hq _ _ ⟨n, t, _, rfl, r1, r2, rfl⟩)
  · intro D h' tk ys hD hpl hlen' hP hk
    have k3 : ∀ b o', s.heap.get? b = some o' → h'.get? b = some o' := fun b o' e => hk b o' (nw _ (Heap.lt_size e)) (up b o' e)
    have hD' : s.heap.get? D = none := by
      cases q : s.heap.get? D with
      | none => rfl
      | some o' => rw [up _ _ q] at hD; cases hD
    obtain ⟨n, hn⟩ := hpl
    obtain ⟨F', N', ne⟩ := fresh_K F N k3 hD' hn
    refine h D ys n h' tk F' N' ne (strs_of (by simp [hlen', hlen]) fun j r hj => ?_)
    obtain ⟨v, hv, k, t, u, e1, _, _, e2⟩ := hP j r hj
    obtain ⟨n', t', e3, hn'⟩ := IntsAre.at hi j v (by simpa using hv)
    rw [e1] at e3; cases e3
    exact ⟨_, u, by simp [hn'], e2⟩
end
end Mine
namespace Mine
theorem zr_L0 : True := by
  w_top off
  k_with_none
  k_with "O" => first | decide | ((with_reducible refine rmk (by assumption) ?_); rfl) | ((with_reducible refine rm0 (by assumption) ?_); rfl) | ((with_reducible refine lel (by assumption) ?_); rfl) | ((with_reducible refine llt (by assumption) ?_); rfl) | ((with_reducible refine ltt (by assumption) ?_); rfl) | ((with_reducible refine ltl (by assumption) ?_); rfl) | ((with_reducible refine ilt (by assumption) ?_); rfl) | (with_reducible exact rmz (by assumption)) | (with_reducible assumption)
  exact True.intro
open PySem.Calls
section
variable {w : World} {A : Around} {E : Value → Shared → Prop} {s : Shared} {env : Env} {mg mb : Str → Option Value} {mean : ExcName → Option Value} {h₀ : Heap} {L : Addr} {m₀ : Str → Option Value} {x : Str} {body : List Stmt} {Q : Flow → Shared → Prop}
  {prog : Program}
/-- what a turn's end hands on; own: the iterator's objects, which stand as they stood. -/
noncomputable def TEnd (h₀ : Heap) (L : Addr) (J : (Str → Option Value) → List (Addr × Obj) → Prop) (own : List (Addr × Obj)) (s₁ s₂ : Shared) : Prop :=
  ∃ h' tk m' news' nx, s₂ = { s₁ with heap := h', toks := tk } ∧ Fr h₀ L h' m' ∧ News h₀ L h' news' ∧ (∀ p ∈ nx, p ∈ news') ∧ (∀ p ∈ own, p ∈ news') ∧ OwnOff own (nx.map (·.1)) ∧ J m' nx
noncomputable def TPost (h₀ : Heap) (L : Addr) (J : (Str → Option Value) → List (Addr × Obj) → Prop) (own : List (Addr × Obj)) (s₁ : Shared) (Q : Flow → Shared → Prop) (f : Flow) (s₂ : Shared) : Prop :=
  match f with
  | .ret v => Q (.ret v) s₂
  | .brk => Q .next s₂
  | _ => TEnd h₀ L J own s₁ s₂
theorem TEnd.intro {L : Addr} {J : (Str → Option Value) → List (Addr × Obj) → Prop} {m' : Str → Option Value} {own news' nx : List (Addr × Obj)} {s₁ : Shared} {h' : Heap} {tk : Nat} (F : Fr h₀ L h' m') (N : News h₀ L h' news')
    (hj : J m' nx) (hn : ∀ p ∈ nx, p ∈ news') (ho : ∀ p ∈ own, p ∈ news') (hf : OwnOff own (nx.map (·.1))) : TEnd h₀ L J own s₁ { s₁ with heap := h', toks := tk } := ⟨h', tk, m', news', nx, rfl, F, N, hn, ho, hf, hj⟩
theorem loop_own {I : Addr} {fp wr : List Addr} {n : Nat} {P : Nat → Value → Prop} {St : Nat → Heap → Prop} {led : List (Addr × Obj)} (J : Nat → (Str → Option Value) → List (Addr × Obj) → Prop)
    (W : Walks prog w A I fp wr n P St) (hex : ∀ i h, St i h → ∀ b ∈ fp, ∃ o, h.get? b = some o) (hLf : env.locals ∉ fp) (hwr : ∀ b ∈ wr, h₀.get? b = none) (hled : ∀ p ∈ led, p.1 ∉ fp) (hst : St 0 s.heap)
    (F : Fr h₀ env.locals s.heap m₀) (N : News h₀ env.locals s.heap led) (hj : J 0 m₀ led)
    (turn : ∀ i v m₁ nx h tk own, i < n → P i v → J i m₁ nx → OwnOff own (nx.map (·.1)) → Fr h₀ env.locals h (fun y => if y = x then some v else m₁ y) → News h₀ env.locals h (nx ++ own) →
      wpAny (model prog w) A (execs body env) (TPost h₀ env.locals (J (i + 1)) own { s with heap := h, toks := tk } Q) E { s with heap := h, toks := tk })
    (done : ∀ m₁ nx h tk, J n m₁ nx → Fr h₀ env.locals h m₁ → News h₀ env.locals h nx → Q .next { s with heap := h, toks := tk }) :
    LoopAtV prog w A h₀ env x body Q E (.ref I) s := by
  refine ⟨I, fp, wr, n, P, St, m₀, led, fun i m nx => J i m nx ∧ ∀ p ∈ nx, p.1 ∉ fp, rfl, W, hLf, hwr, fun p hp hw => hled p hp (W.sub _ hw), hst, F, N, ⟨hj, hled⟩, ?_, ?_⟩
  · rintro i v m₁ nx s₁ own ⟨h, tk, rfl⟩ hi hP ⟨hJ, hnf⟩ _ hown howng hownall hst₁ F₁ N₁
    have off : OwnOff own (nx.map (·.1)) := fun q hq b hb e => by
      obtain ⟨p, hp, rfl⟩ := List.mem_map.mp hb
      exact hnf p hp (e ▸ hown q hq)
    have N₂ : News h₀ env.locals h (nx ++ own) := fun p hp => N₁ p ((List.mem_append.mp hp).elim (fun z => List.mem_append.mpr (.inr z)) fun z => List.mem_append.mpr (.inl z))
    refine wpAny_mono (turn i v m₁ nx h tk own hi hP hJ off F₁ N₂) (fun f s₂ q => ?_) fun _ _ e => e
    have fin : TEnd h₀ env.locals (J (i + 1)) own { s with heap := h, toks := tk } s₂ → LoopStepU h₀ env.locals wr own (fun m nx => J (i + 1) m nx ∧ ∀ p ∈ nx, p.1 ∉ fp) { s with heap := h, toks := tk } .next s₂ := by
      rintro ⟨h', tk', m', news', nx', e, F', N', hn, ho, hf, hj'⟩
      have nfp : ∀ p ∈ nx', p.1 ∉ fp := fun p hp hb => by
        obtain ⟨o, hob⟩ := hex (i + 1) h hst₁ p.1 hb
        cases q : h₀.get? p.1 with
        | some o' => have := (N' p (hn p hp)).2.2; rw [q] at this; cases this
        | none => exact hf (p.1, o) (hownall p.1 hb q o hob) p.1 (List.mem_map_of_mem hp) rfl
      exact ⟨rfl, h', tk', m', nx', e, F', fun p hp => N' p ((List.mem_append.mp hp).elim (ho p) (hn p)), fun p hp hw => nfp p hp (W.sub _ hw), hj', nfp⟩
    cases f with
    | ret v => exact .ret q
    | brk => exact .brk q
    | next => exact .next (fin q)
    | cont => exact .cont (fin q)
  · rintro h' tk m' nx F' N' _ ⟨hJ, _⟩
    exact done m' nx h' tk hJ F' N'
theorem old_off {h₀ h : Heap} {L : Addr} {news : List (Addr × Obj)} (N : News h₀ L h news) : ∀ p ∈ news, p.1 ∉ [h.objs.size] := fun p hp hm =>
  absurd (Heap.lt_size (N p hp).1) ((List.mem_singleton.mp hm) ▸ Nat.lt_irrefl _)
theorem base_off {h₀ h : Heap} {L : Addr} {m : Str → Option Value} (F : Fr h₀ L h m) : ∀ b ∈ [h.objs.size], h₀.get? b = none := fun b hb => by
  rw [List.mem_singleton.mp hb]
  cases q : h₀.get? h.objs.size with
  | none => rfl
  | some o => exact absurd (Heap.lt_size (F.keep _ _ q)) (Nat.lt_irrefl _)
theorem local_off {h₀ h : Heap} {L : Addr} {m : Str → Option Value} (F : Fr h₀ L h m) : L ∉ [h.objs.size] := fun hm => absurd (ns_lt F.ns) ((List.mem_singleton.mp hm) ▸ Nat.lt_irrefl _)
/-- `for x in range(n)`, by an invariant over the turn, the frame's map and the ledger. -/
theorem for_range {r : Addr} {b₀ : Int} {t₀ u₀ v₀ : Tok} {n : Nat} {led : List (Addr × Obj)} (J : Nat → (Str → Option Value) → List (Addr × Obj) → Prop)
    (hh : A.handled = none) (hr : IsRange s.heap r 0 b₀ 1 t₀ u₀ v₀) (hb : b₀ = (n : Int)) (hb2 : n < 1000000) (F : Fr h₀ env.locals s.heap m₀) (N : News h₀ env.locals s.heap led) (hj : J 0 m₀ led)
    (turn : ∀ i t m₁ nx h tk own, i < n → J i m₁ nx → OwnOff own (nx.map (·.1)) → Fr h₀ env.locals h (fun y => if y = x then some (.int (i : Nat) t) else m₁ y) → News h₀ env.locals h (nx ++ own) →
      wpAny (model prog w) A (execs body env) (TPost h₀ env.locals (J (i + 1)) own { s with heap := h, toks := tk } Q) E { s with heap := h, toks := tk })
    (done : ∀ m₁ nx h tk, J n m₁ nx → Fr h₀ env.locals h m₁ → News h₀ env.locals h nx → Q .next { s with heap := h, toks := tk }) :
    wpAny (model prog w) A (pyIter (.ref r)) (fun it s₂ => LoopAtV prog w A h₀ env x body Q E it s₂) E s := by
  subst hb
  refine wpAny_pyIter_range hr (small_one (by (first | k_extra "O" | omega)) (by (first | k_extra "O" | omega)) (by (first | k_extra "O" | omega)) (by (first | k_extra "O" | omega))) ?_
  have hn : Builtin.Range.rangeSize 0 (n : Int) 1 = (n : Int) := by rw [rangeSize_nat]; (first | k_extra "O" | omega)
  have W : Walks prog w A s.heap.objs.size [s.heap.objs.size] [s.heap.objs.size] n (fun i v => ∃ t, v = .int (0 + i * 1) t)
      (fun i h => IsRangeIter h s.heap.objs.size (0 + (i : Nat) * 1) ((n : Int) - (i : Nat)) 1) := Walks.range hh _ 0 1 n
  refine loop_own J W (fun i h st b hb => ?_) (local_off F) (base_off F) (old_off N) (by show IsRangeIter _ _ _ _ _; rw [hn]; simpa using Heap.get?_push_size _ rfl) (F.push _) (fun p hp => ⟨Heap.get?_push_of_some _ (N p hp).1, (N p hp).2⟩) hj ?_ ?_
  · rw [List.mem_singleton.mp hb]; exact ⟨_, st⟩
  · rintro i v m₁ nx h tk own hi ⟨t, rfl⟩ hJ hoff F₁ N₁
    have e1 : (0 : Int) + (i : Int) * 1 = ((i : Nat) : Int) := by (first | k_extra "O" | omega)
    rw [e1] at F₁
    exact turn i t m₁ nx h tk own hi hJ hoff F₁ N₁
  · exact fun m₁ nx h tk hJ F₁ N₁ => done m₁ nx h tk hJ F₁ N₁
/-- `for x in text`, sign by sign. -/
theorem for_str {y : Str} {t₀ : Tok} {led : List (Addr × Obj)} (J : Nat → (Str → Option Value) → List (Addr × Obj) → Prop)
    (hh : A.handled = none) (F : Fr h₀ env.locals s.heap m₀) (N : News h₀ env.locals s.heap led) (hj : J 0 m₀ led)
    (turn : ∀ i c t m₁ nx h tk own, y.cps.toList[i]? = some c → J i m₁ nx → OwnOff own (nx.map (·.1)) → Fr h₀ env.locals h (fun z => if z = x then some (.str ⟨#[c]⟩ t) else m₁ z) → News h₀ env.locals h (nx ++ own) →
      wpAny (model prog w) A (execs body env) (TPost h₀ env.locals (J (i + 1)) own { s with heap := h, toks := tk } Q) E { s with heap := h, toks := tk })
    (done : ∀ m₁ nx h tk, J y.cps.toList.length m₁ nx → Fr h₀ env.locals h m₁ → News h₀ env.locals h nx → Q .next { s with heap := h, toks := tk }) :
    wpAny (model prog w) A (pyIter (.str y t₀)) (fun it s₂ => LoopAtV prog w A h₀ env x body Q E it s₂) E s := by
  have key : ∀ (o : Obj) (St : Nat → Heap → Prop), Walks prog w A s.heap.objs.size [s.heap.objs.size] [s.heap.objs.size] y.cps.size (SignAt y) St → (∀ i h, St i h → ∃ o, h.get? s.heap.objs.size = some o) → St 0 (s.heap.push o) →
      LoopAtV prog w A h₀ env x body Q E (.ref s.heap.objs.size) { s with heap := s.heap.push o } := by
    intro o St W hex hst
    refine loop_own J W (fun i h st b hb => by rw [List.mem_singleton.mp hb]; exact hex i h st) (local_off F) (base_off F) (old_off N) hst (F.push _) (fun p hp => ⟨Heap.get?_push_of_some _ (N p hp).1, (N p hp).2⟩) hj ?_ ?_
    · rintro i v m₁ nx h tk own hi ⟨c, t, hc, rfl⟩ hJ hoff F₁ N₁
      exact turn i c t m₁ nx h tk own (by simpa using hc) hJ hoff F₁ N₁
    · intro m₁ nx h tk hJ F₁ N₁
      exact done m₁ nx h tk (by simpa using hJ) F₁ N₁
  cases ha : y.cps.all (· < 128)
  · exact wpAny_pyIter_wide ha (key _ _ (Walks.strWide hh _ y t₀) (fun i h st => let ⟨o, ho, _⟩ := st; ⟨o, ho⟩) ⟨_, Heap.get?_push_size _ rfl, rfl, rfl⟩)
  · exact wpAny_pyIter_ascii ha (key _ _ (Walks.strAscii hh _ y t₀) (fun i h st => let ⟨o, ho, _⟩ := st; ⟨o, ho⟩) ⟨_, Heap.get?_push_size _ rfl, rfl, rfl⟩)
/-- `for x in l`, l a list that stands in the base or anywhere off the ledger that the loop turns. -/
theorem for_list {l : Addr} {vs : List Value} {led : List (Addr × Obj)} (J : Nat → (Str → Option Value) → List (Addr × Obj) → Prop)
    (hh : A.handled = none) (hl : s.heap.IsList l vs.toArray) (hlL : l ≠ env.locals) (hln : ∀ p ∈ led, p.1 ≠ l) (F : Fr h₀ env.locals s.heap m₀) (N : News h₀ env.locals s.heap led) (hj : J 0 m₀ led)
    (turn : ∀ i v m₁ nx h tk own, vs[i]? = some v → J i m₁ nx → OwnOff own (nx.map (·.1)) → Fr h₀ env.locals h (fun z => if z = x then some v else m₁ z) → News h₀ env.locals h (nx ++ own) →
      wpAny (model prog w) A (execs body env) (TPost h₀ env.locals (J (i + 1)) own { s with heap := h, toks := tk } Q) E { s with heap := h, toks := tk })
    (done : ∀ m₁ nx h tk, J vs.length m₁ nx → Fr h₀ env.locals h m₁ → News h₀ env.locals h nx → Q .next { s with heap := h, toks := tk }) :
    wpAny (model prog w) A (pyIter (.ref l)) (fun it s₂ => LoopAtV prog w A h₀ env x body Q E it s₂) E s := by
  obtain ⟨ol, hol, hrest⟩ := id hl
  have hne : l ≠ s.heap.objs.size := Nat.ne_of_lt (Heap.lt_size hol)
  refine wpAny_pyIter_list hl ?_
  have W := Walks.list (prog := prog) (w := w) hh s.heap.objs.size l hne vs.toArray
  refine loop_own J W (fun i h st b hb => ?_) ?_ (base_off F) (fun p hp hm => ?_) ⟨⟨_, Heap.get?_push_size _ rfl, rfl, rfl⟩, hl.at fun o e => Heap.get?_push_of_some _ e⟩ (F.push _) (fun p hp => ⟨Heap.get?_push_of_some _ (N p hp).1, (N p hp).2⟩) hj ?_ ?_
  · rcases List.mem_cons.mp hb with rfl | hb
    · obtain ⟨o, ho, _⟩ := st.1; exact ⟨o, ho⟩
    · rw [List.mem_singleton.mp hb]; obtain ⟨o, ho, _⟩ := st.2; exact ⟨o, ho⟩
  · intro hm
    rcases List.mem_cons.mp hm with e | hm
    · exact absurd (ns_lt F.ns) (e ▸ Nat.lt_irrefl _)
    · exact hlL (List.mem_singleton.mp hm).symm
  · rcases List.mem_cons.mp hm with e | hm
    · exact old_off N p hp (List.mem_singleton.mpr e)
    · exact hln p hp (List.mem_singleton.mp hm)
  · intro i v m₁ nx h tk own hi hP hJ hoff F₁ N₁
    exact turn i v m₁ nx h tk own (by simpa using hP) hJ hoff F₁ N₁
  · intro m₁ nx h tk hJ F₁ N₁
    exact done m₁ nx h tk (by simpa using hJ) F₁ N₁
theorem for_rangeM {r : Addr} {b₀ : Int} {t₀ u₀ v₀ : Tok} {n : Nat} {led : List (Addr × Obj)} (J : (Str → Option Value) → Nat → (Str → Option Value) → List (Addr × Obj) → Prop)
    (F : Fr h₀ env.locals s.heap m₀) (N : News h₀ env.locals s.heap led) (hr : IsRange s.heap r 0 b₀ 1 t₀ u₀ v₀) (hh : A.handled = none) (hb : b₀ = (n : Int)) (hb2 : n < 1000000) (hj : J m₀ 0 m₀ led)
    (turn : ∀ i t m₁ nx h tk own, i < n → J m₀ i m₁ nx → OwnOff own (nx.map (·.1)) → Fr h₀ env.locals h (fun y => if y = x then some (.int (i : Nat) t) else m₁ y) → News h₀ env.locals h (nx ++ own) →
      wpAny (model prog w) A (execs body env) (TPost h₀ env.locals (J m₀ (i + 1)) own { s with heap := h, toks := tk } Q) E { s with heap := h, toks := tk })
    (done : ∀ m₁ nx h tk, J m₀ n m₁ nx → Fr h₀ env.locals h m₁ → News h₀ env.locals h nx → Q .next { s with heap := h, toks := tk }) :
    wpAny (model prog w) A (pyIter (.ref r)) (fun it s₂ => LoopAtV prog w A h₀ env x body Q E it s₂) E s := for_range (J m₀) hh hr hb hb2 F N hj turn done
theorem for_strM {y : Str} {t₀ : Tok} {led : List (Addr × Obj)} (J : (Str → Option Value) → Nat → (Str → Option Value) → List (Addr × Obj) → Prop)
    (F : Fr h₀ env.locals s.heap m₀) (N : News h₀ env.locals s.heap led) (hh : A.handled = none) (hj : J m₀ 0 m₀ led)
    (turn : ∀ i c t m₁ nx h tk own, y.cps.toList[i]? = some c → J m₀ i m₁ nx → OwnOff own (nx.map (·.1)) → Fr h₀ env.locals h (fun z => if z = x then some (.str ⟨#[c]⟩ t) else m₁ z) → News h₀ env.locals h (nx ++ own) →
      wpAny (model prog w) A (execs body env) (TPost h₀ env.locals (J m₀ (i + 1)) own { s with heap := h, toks := tk } Q) E { s with heap := h, toks := tk })
    (done : ∀ m₁ nx h tk, J m₀ y.cps.toList.length m₁ nx → Fr h₀ env.locals h m₁ → News h₀ env.locals h nx → Q .next { s with heap := h, toks := tk }) :
    wpAny (model prog w) A (pyIter (.str y t₀)) (fun it s₂ => LoopAtV prog w A h₀ env x body Q E it s₂) E s := for_str (J m₀) hh F N hj turn done
theorem for_listM {l : Addr} {vs : List Value} {led : List (Addr × Obj)} (J : (Str → Option Value) → Nat → (Str → Option Value) → List (Addr × Obj) → Prop)
    (F : Fr h₀ env.locals s.heap m₀) (N : News h₀ env.locals s.heap led) (hl : s.heap.IsList l vs.toArray) (hh : A.handled = none) (hlL : l ≠ env.locals) (hln : ∀ p ∈ led, p.1 ≠ l) (hj : J m₀ 0 m₀ led)
    (turn : ∀ i v m₁ nx h tk own, vs[i]? = some v → J m₀ i m₁ nx → OwnOff own (nx.map (·.1)) → Fr h₀ env.locals h (fun z => if z = x then some v else m₁ z) → News h₀ env.locals h (nx ++ own) →
      wpAny (model prog w) A (execs body env) (TPost h₀ env.locals (J m₀ (i + 1)) own { s with heap := h, toks := tk } Q) E { s with heap := h, toks := tk })
    (done : ∀ m₁ nx h tk, J m₀ vs.length m₁ nx → Fr h₀ env.locals h m₁ → News h₀ env.locals h nx → Q .next { s with heap := h, toks := tk }) :
    wpAny (model prog w) A (pyIter (.ref l)) (fun it s₂ => LoopAtV prog w A h₀ env x body Q E it s₂) E s := for_list (J m₀) hh hl hlL hln F N hj turn done
/-- the ledger's addresses by their place. -/
noncomputable def ad0 : List (Addr × Obj) → Addr | p :: _ => p.1 | [] => 0
noncomputable def en1 : List (Addr × Obj) → (Addr × Obj) | _ :: p :: _ => p | _ => (0, default)
theorem for_rangeAB {r : Addr} {a₀ b₀ : Int} {t₀ u₀ v₀ : Tok} {n : Nat} {led : List (Addr × Obj)} (J : (Str → Option Value) → List (Addr × Obj) → Nat → (Str → Option Value) → List (Addr × Obj) → Prop)
    (F : Fr h₀ env.locals s.heap m₀) (N : News h₀ env.locals s.heap led) (hr : IsRange s.heap r a₀ b₀ 1 t₀ u₀ v₀) (hh : A.handled = none) (hn : n = (b₀ - a₀).toNat) (ha : -1000000 ≤ a₀ ∧ a₀ ≤ 1000000) (hb : -1000000 ≤ b₀ ∧ b₀ ≤ 1000000) (hj : J m₀ led 0 m₀ led)
    (turn : ∀ (i : Nat) t m₁ nx h tk own, i < n → J m₀ led i m₁ nx → OwnOff own (nx.map (·.1)) → Fr h₀ env.locals h (fun y => if y = x then some (.int (a₀ + (i : Int)) t) else m₁ y) → News h₀ env.locals h (nx ++ own) →
      wpAny (model prog w) A (execs body env) (TPost h₀ env.locals (J m₀ led (i + 1)) own { s with heap := h, toks := tk } Q) E { s with heap := h, toks := tk })
    (done : ∀ m₁ nx h tk, J m₀ led n m₁ nx → Fr h₀ env.locals h m₁ → News h₀ env.locals h nx → Q .next { s with heap := h, toks := tk }) :
    wpAny (model prog w) A (pyIter (.ref r)) (fun it s₂ => LoopAtV prog w A h₀ env x body Q E it s₂) E s := by
  refine wpAny_pyIter_range hr (small_one (by (first | k_extra "O" | omega)) (by (first | k_extra "O" | omega)) (by (first | k_extra "O" | omega)) (by (first | k_extra "O" | omega))) ?_
  have hsz : Builtin.Range.rangeSize a₀ b₀ 1 = (n : Int) := by rw [rangeSize_nat]; (first | k_extra "O" | omega)
  have W : Walks prog w A s.heap.objs.size [s.heap.objs.size] [s.heap.objs.size] n (fun i v => ∃ t, v = .int (a₀ + i * 1) t)
      (fun i h => IsRangeIter h s.heap.objs.size (a₀ + (i : Nat) * 1) ((n : Int) - (i : Nat)) 1) := Walks.range hh _ a₀ 1 n
  refine loop_own (J m₀ led) W (fun i h st b hb => ?_) (local_off F) (base_off F) (old_off N) (by show IsRangeIter _ _ _ _ _; rw [hsz]; simpa using Heap.get?_push_size _ rfl) (F.push _) (fun p hp => ⟨Heap.get?_push_of_some _ (N p hp).1, (N p hp).2⟩) hj ?_ ?_
  · rw [List.mem_singleton.mp hb]; exact ⟨_, st⟩
  · rintro i v m₁ nx h tk own hi ⟨t, rfl⟩ hJ hoff F₁ N₁
    have e1 : a₀ + (i : Int) * 1 = a₀ + ((i : Nat) : Int) := by (first | k_extra "O" | omega)
    rw [e1] at F₁
    exact turn i t m₁ nx h tk own hi hJ hoff F₁ N₁
  · exact fun m₁ nx h tk hJ F₁ N₁ => done m₁ nx h tk hJ F₁ N₁
theorem for_rangeL {r : Addr} {b₀ : Int} {t₀ u₀ v₀ : Tok} {n : Nat} {led : List (Addr × Obj)} (J : (Str → Option Value) → List (Addr × Obj) → Nat → (Str → Option Value) → List (Addr × Obj) → Prop)
    (F : Fr h₀ env.locals s.heap m₀) (N : News h₀ env.locals s.heap led) (hr : IsRange s.heap r 0 b₀ 1 t₀ u₀ v₀) (hh : A.handled = none) (hb : b₀ = (n : Int)) (hb2 : n < 1000000) (hj : J m₀ led 0 m₀ led)
    (turn : ∀ i t m₁ nx h tk own, i < n → J m₀ led i m₁ nx → OwnOff own (nx.map (·.1)) → Fr h₀ env.locals h (fun y => if y = x then some (.int (i : Nat) t) else m₁ y) → News h₀ env.locals h (nx ++ own) →
      wpAny (model prog w) A (execs body env) (TPost h₀ env.locals (J m₀ led (i + 1)) own { s with heap := h, toks := tk } Q) E { s with heap := h, toks := tk })
    (done : ∀ m₁ nx h tk, J m₀ led n m₁ nx → Fr h₀ env.locals h m₁ → News h₀ env.locals h nx → Q .next { s with heap := h, toks := tk }) :
    wpAny (model prog w) A (pyIter (.ref r)) (fun it s₂ => LoopAtV prog w A h₀ env x body Q E it s₂) E s := for_range (J m₀ led) hh hr hb hb2 F N hj turn done
end
end Mine
set_option rowWalk.seconds 0
namespace Mine
theorem zr_M4 : True := by
  w_top off
  k_with_none
  k_with "O" => first | decide | ((with_reducible refine rmk (by assumption) ?_); rfl) | ((with_reducible refine rm0 (by assumption) ?_); rfl) | ((with_reducible refine lel (by assumption) ?_); rfl) | ((with_reducible refine llt (by assumption) ?_); rfl) | ((with_reducible refine ltt (by assumption) ?_); rfl) | ((with_reducible refine ltl (by assumption) ?_); rfl) | ((with_reducible refine ilt (by assumption) ?_); rfl) | (with_reducible exact rmz (by assumption)) | (with_reducible assumption)
  exact True.intro
open PySem.Calls
theorem updF_K {h₀ h h' : Heap} {L b : Addr} {m : Str → Option Value} {news : List (Addr × Obj)} {newsF : Obj → List (Addr × Obj)} {o o' : Obj} (F : Fr h₀ L h m) (N : News h₀ L h news) (U : UpdF b o news newsF)
    (k : ∀ a x, a ≠ b → h.get? a = some x → h'.get? a = some x) (ho : h'.get? b = some o') : Fr h₀ L h' m ∧ News h₀ L h' (newsF o') := by
  obtain ⟨pre, post, rfl, hf, a, c⟩ := U.split
  have hb := N (b, o) (List.mem_append.mpr (.inr (.head _)))
  have hL : L ≠ b := fun e => hb.2.1 e.symm
  obtain ⟨oL, q1, q2, hoL, q3⟩ := F.ns
  refine ⟨⟨⟨oL, q1, q2, k _ _ hL hoL, q3⟩, fun x y e => k x y (fun z => by rw [z, hb.2.2] at e; cases e) (F.keep x y e), F.above⟩, ?_⟩
  rw [hf]
  intro p hp
  rcases List.mem_append.mp hp with hp | hp
  · have z := N p (List.mem_append.mpr (.inl hp))
    exact ⟨k _ _ (a p hp) z.1, z.2⟩
  · rcases List.mem_cons.mp hp with rfl | hp
    · exact ⟨ho, hb.2⟩
    · have z := N p (List.mem_append.mpr (.inr (.tail _ hp)))
      exact ⟨k _ _ (c p hp) z.1, z.2⟩
theorem zw_M4_0 : True := by
  k_with_none
  k_with "O" => first | decide | ((with_reducible refine rmk (by assumption) ?_); rfl) | ((with_reducible refine rm0 (by assumption) ?_); rfl) | ((with_reducible refine lel (by assumption) ?_); rfl) | ((with_reducible refine llt (by assumption) ?_); rfl) | ((with_reducible refine ltt (by assumption) ?_); rfl) | ((with_reducible refine ltl (by assumption) ?_); rfl) | ((with_reducible refine ilt (by assumption) ?_); rfl) | (with_reducible exact rmz (by assumption)) | (with_reducible assumption)
  k_with "H" => ((with_reducible show wpAny _ _ (binaryOp Operator.FloorDiv (Value.int _ _) (Value.int _ _)) _ _ _); (with_reducible refine floordiv_int ?kbe ?_ (Or.inl (PyProof.noPylong_of_log2 ?kbp)); (case kbe => (first | k_extra "O" | omega)); (case kbp => exact py_log (by (first | k_extra "O" | omega)) (by (first | k_extra "O" | omega)))))
  exact True.intro
set_option maxHeartbeats 4000000 in
theorem take_code {w : World} {mean : ExcName → Option Value} {mg mb : Str → Option Value} {dp un : Nat} {fr : Option (List Env)} {gd : Option (List Code)} {R : Result → Shared → Prop} {s : Shared} {h₀ : Heap} {b : Addr} {n d : Int} {t u : Tok} {k : Nat}
    (S : ∀ b o, h₀.get? b = some o → s.heap.get? b = some o) (X₀ : (Mine.hh.heap_1_39 w.params).In h₀) (T : Top Mine.hh.view_1_40 (looseW Mine.hh.view_1_40 [Str.ofString "PyFATException", Str.ofString "errno", Str.ofString "EightDotThree"]) mean mg mb h₀)
    (N : ∀ p ∈ ([(b, listOf #[.int n t] k)] : List (Addr × Obj)), s.heap.get? p.1 = some p.2 ∧ h₀.get? p.1 = none)
    (hroom : dp + 0 < recursionLimit) (hd : 0 < d) (hd2 : d < 1000) (hn : 0 ≤ n)
    (hR : ∀ h' t1 t2 tk (n' r : Int), 0 ≤ n' → 0 ≤ r → r < d → (∀ a o, a ≠ b → s.heap.get? a = some o → h'.get? a = some o) → h'.get? b = some (listOf #[.int n' t1] k) → R (.ok (.ret (.int r t2))) { s with heap := h', toks := tk }) :
    codeAny (model PySem.Challenge.rw_kj0039_01.row.prog w) { handled := none, depth := dp, frames := fr, guards := gd, units := un } (.call (.ref 234) ⟨[.ref b, .int d u], []⟩) R s := by
  revert X₀; k_fill; intro X₀
  refine' enter (f := 234) (mm := fun zq => List.lookup zq [(Str.ofString "many", .int d u), (Str.ofString "box", .ref b)]) S X₀ T N ?ho ?hcd ?hr ?hb ?hmm ?hloc ?_ ?c1 ?c2 ?c3 ?c4
  case ho => k_is
  case hcd => k_is
  case hr => show dp < recursionLimit; (first | k_extra "O" | omega)
  case hb => exact BindsTo.of_eq rfl
  case hmm => first | rfl | kernel_rfl | with_unfolding_all rfl
  case hloc => exact locs rfl
  case c1 => exact rfl
  case c2 => exact rfl
  case c3 => exact rfl
  case c4 => decide
  intro g L' h₁ tkA k1 k2 k3 F' N' X' T' k4 k5
  (try dsimp only)
  k_fold
  k_steps
  dsimp only
  k_unfold
  dsimp only
  (rename Fr _ _ _ _ => F9)
  (rename News _ _ _ _ => N9)
  have hb9 := (N9 _ (List.Mem.head _)).1
  refine hR _ _ _ _ _ _ ?_ ?_ ?_ (fun a o ne e => F9.keep _ _ (k1 a o e (by simpa using ne))) hb9
  · show 0 ≤ Int.fdiv n d
    rw [Int.fdiv_eq_ediv_of_nonneg _ (by (first | k_extra "O" | omega))]
    exact Int.ediv_nonneg hn (by (first | k_extra "O" | omega))
  · show 0 ≤ Int.fmod n d
    exact Int.fmod_nonneg hn (by (first | k_extra "O" | omega))
  · show Int.fmod n d < d
    exact Int.fmod_lt_of_pos _ hd
theorem take_K {w : World} {mean : ExcName → Option Value} {mg mb : Str → Option Value} {dp un : Nat} {fr : Option (List Env)} {gd : Option (List Code)} {E : Value → Shared → Prop} {s : Shared} {h₀ : Heap} {L : Addr} {m : Str → Option Value} {news : List (Addr × Obj)} {Q : Value → Shared → Prop} {b : Addr} {n d : Int} {t u : Tok} {k : Nat} {newsF : Obj → List (Addr × Obj)}
    (F : Fr h₀ L s.heap m) (X₀ : (Mine.hh.heap_1_39 w.params).In h₀) (N : News h₀ L s.heap news) (T : Top Mine.hh.view_1_40 (looseW Mine.hh.view_1_40 [Str.ofString "PyFATException", Str.ofString "errno", Str.ofString "EightDotThree"]) mean mg mb h₀) (hroom : dp < recursionLimit) (hd : 0 < d) (hd2 : d < 1000) (hn : 0 ≤ n) (U : UpdF b (listOf #[.int n t] k) news newsF)
    (h : ∀ h' t1 t2 tk (n' r : Int), 0 ≤ n' → 0 ≤ r → r < d → Fr h₀ L h' m → News h₀ L h' (newsF (listOf #[.int n' t1] k)) → Q (.int r t2) { s with heap := h', toks := tk }) :
    wpAny (model PySem.Challenge.rw_kj0039_01.row.prog w) { handled := none, depth := dp, frames := fr, guards := gd, units := un } (call (.ref 234) [.ref b, .int d u]) Q E s := by
  have hb : (b, listOf #[.int n t] k) ∈ news := by
    obtain ⟨pre, post, rfl, _, _, _⟩ := U.split
    exact List.mem_append.mpr (.inr (.head _))
  refine wpAny_call (take_code (t := t) (k := k) (u := u) F.keep X₀ T (fun p hp => ?_) (by (first | k_extra "O" | omega)) hd hd2 hn fun h' t1 t2 tk n' r h1 h2 h3 k1 k2 => ?_)
  · rw [List.mem_singleton.mp hp]
    exact ⟨(N _ hb).1, (N _ hb).2.2⟩
  · obtain ⟨F', N'⟩ := updF_K F N U k1 k2
    exact h h' t1 t2 tk n' r h1 h2 h3 F' N'
end Mine
namespace Mine
theorem zr_M5 : True := by
  w_top off
  k_with_none
  k_with "O" => first | decide | ((with_reducible refine rmk (by assumption) ?_); rfl) | ((with_reducible refine rm0 (by assumption) ?_); rfl) | ((with_reducible refine lel (by assumption) ?_); rfl) | ((with_reducible refine llt (by assumption) ?_); rfl) | ((with_reducible refine ltt (by assumption) ?_); rfl) | ((with_reducible refine ltl (by assumption) ?_); rfl) | ((with_reducible refine ilt (by assumption) ?_); rfl) | (with_reducible exact rmz (by assumption)) | (with_reducible assumption)
  exact True.intro
open PySem.Calls
theorem add_eq {w : World} {A : Around} {E : Value → Shared → Prop} {s : Shared} {x y z : Str} {t u : Tok} {Q : Value → Shared → Prop} (e : x ++ y = z) (hz : x.length + y.length ≤ sizeLine) (h : ∀ t' k, Q (.str z t') { s with toks := k }) :
    wpAny (model PySem.Challenge.rw_kj0039_01.row.prog w) A (binaryOp .Add (.str x t) (.str y u)) Q E s := by
  subst e
  exact SB.add h hz
theorem every1 : Str.ofString "AZBKMX019_-~!#$%&'()@^{}QRÉÖ±Þ" ++ Str.ofString "  .." = Str.ofString "AZBKMX019_-~!#$%&'()@^{}QRÉÖ±Þ  .." := by decide +kernel
theorem every2 : Str.ofString "AZBKMX019_-~!#$%&'()@^{}QRÉÖ±Þ  .." ++ Str.ofString "abz\"*+,./:;<=>?[]|\\éö€Ж😀" = Str.ofString "AZBKMX019_-~!#$%&'()@^{}QRÉÖ±Þ  ..abz\"*+,./:;<=>?[]|\\éö€Ж😀" := by decide +kernel
noncomputable def alph : List Nat := (Str.ofString "AZBKMX019_-~!#$%&'()@^{}QRÉÖ±Þ  ..abz\"*+,./:;<=>?[]|\\éö€Ж😀").cps.toList
theorem good_sub : ∀ c ∈ (Str.ofString "AZBKMX019_-~!#$%&'()@^{}QRÉÖ±Þ").cps.toList, c ∈ alph := by decide +kernel
theorem good_len : (Str.ofString "AZBKMX019_-~!#$%&'()@^{}QRÉÖ±Þ").length = 30 := by decide +kernel
theorem every_len : (Str.ofString "AZBKMX019_-~!#$%&'()@^{}QRÉÖ±Þ  ..abz\"*+,./:;<=>?[]|\\éö€Ж😀").length = 58 := by decide +kernel
theorem item_mem {x : Str} {i : Int} (h0 : 0 ≤ i) (h1 : i < (x.length : Int)) : ∃ c, c ∈ x.cps.toList ∧ Txt.item x i = ⟨#[c]⟩ := by
  have hl : i.toNat < x.cps.size := by
    have : x.length = x.cps.size := rfl
    (first | k_extra "O" | omega)
  refine ⟨x.cps[i.toNat], Array.getElem_mem_toList hl, ?_⟩
  unfold Txt.item Txt.charAt
  have e : seqIndex? i x.length = some i.toNat := by
    unfold seqIndex?
    have : x.length = x.cps.size := rfl
    simp only [] <;> (repeat' split) <;> simp_all <;> (first | k_extra "O" | omega)
  simp [e, hl]
theorem grow_mem {x L : Str} {i : Int} (h : ∀ c ∈ x.cps.toList, c ∈ alph) (hL : ∀ c ∈ L.cps.toList, c ∈ alph) (h0 : 0 ≤ i) (h1 : i < (L.length : Int)) : ∀ c ∈ (x ++ Txt.item L i).cps.toList, c ∈ alph := by
  obtain ⟨c', hc, e⟩ := item_mem h0 h1
  rw [e]
  intro c hm
  have : (x ++ (⟨#[c']⟩ : Str)).cps.toList = x.cps.toList ++ [c'] := by
    show (x.cps ++ #[c']).toList = _
    simp
  rw [this] at hm
  rcases List.mem_append.mp hm with hm | hm
  · exact h c hm
  · rw [List.mem_singleton.mp hm]; exact hL c' hc
section
theorem zw_M5_1 : True := by
  k_with_none
  k_with "O" => first | decide | ((with_reducible refine rmk (by assumption) ?_); rfl) | ((with_reducible refine rm0 (by assumption) ?_); rfl) | ((with_reducible refine lel (by assumption) ?_); rfl) | ((with_reducible refine llt (by assumption) ?_); rfl) | ((with_reducible refine ltt (by assumption) ?_); rfl) | ((with_reducible refine ltl (by assumption) ?_); rfl) | ((with_reducible refine ilt (by assumption) ?_); rfl) | (with_reducible exact rmz (by assumption)) | (with_reducible assumption)
  k_with "H" => ((with_reducible show wpAny _ _ (binaryOp Operator.Add (Value.str _ _) (Value.str _ _)) _ _ _); first | refine add_eq every1 (by decide +kernel) ?_ | refine add_eq every2 (by decide +kernel) ?_)
  k_with "ks" => repeat' (first | (k_unfold; (try dsimp only)) | (k_end; wrow_close) | ((fail_if_success (with_reducible show wpAny _ _ (pyIter _) (fun it s₂ => LoopAtV _ _ _ _ _ _ _ _ _ it s₂) _ _)); (first | k_extra "H" | walk1)) | ((fail_if_success (with_reducible show wpAny _ _ (pyIter _) (fun it s₂ => LoopAtV _ _ _ _ _ _ _ _ _ it s₂) _ _)); dsimp only; (first | k_extra "H" | walk1)) | fail "no step")
  k_with "forhere" => (with_reducible show wpAny _ _ (pyIter _) (fun it s₂ => LoopAtV _ _ _ _ _ _ _ _ _ it s₂) _ _)
  k_with "H" => (k_here; (with_reducible show wpAny _ _ (call (Value.ref 234) _) _ _ _); k_dflt (refine' take_K ?k1 ?k2 ?k3 ?k4 ?k5 ?k6 ?k7 ?k8 ?k9 ?_; (case k1 => k_asm); (case k2 => k_asm); (case k3 => k_asm); (case k4 => k_asm); (case k5 => (dsimp only [Around.deeper]; (first | k_extra "O" | omega))); (case k9 => k_updF); (case k6 => (first | k_extra "O" | omega)); (case k7 => (first | k_extra "O" | omega)); (case k8 => (first | k_extra "O" | omega)); k_whole); intro _ _ _ _ _ _ _ _ _ _ zzN; (try dsimp only at zzN); (try k_sweep))
  exact True.intro
set_option maxHeartbeats 4000000 in
theorem signs_code {w : World} {mean : ExcName → Option Value} {mg mb : Str → Option Value} {dp un : Nat} {fr : Option (List Env)} {gd : Option (List Code)} {R : Result → Shared → Prop} {s : Shared} {h₀ : Heap} {b : Addr} {n sz : Int} {t u : Tok} {k : Nat} {pl : Bool}
    (S : ∀ b o, h₀.get? b = some o → s.heap.get? b = some o) (X₀ : (Mine.hh.heap_1_39 w.params).In h₀) (T : Top Mine.hh.view_1_40 (looseW Mine.hh.view_1_40 [Str.ofString "PyFATException", Str.ofString "errno", Str.ofString "EightDotThree"]) mean mg mb h₀)
    (N : ∀ p ∈ ([(b, listOf #[.int n t] k)] : List (Addr × Obj)), s.heap.get? p.1 = some p.2 ∧ h₀.get? p.1 = none)
    (hroom : dp + 5 < recursionLimit) (hn : 0 ≤ n) (h1 : 0 ≤ sz) (h2 : sz ≤ 12)
    (hR : ∀ h' t1 t2 tk (n' : Int) (x : Str), 0 ≤ n' → x.length = sz.toNat → (∀ c ∈ x.cps.toList, c ∈ alph) → (∀ a o, a ≠ b → s.heap.get? a = some o → h'.get? a = some o) → h'.get? b = some (listOf #[.int n' t1] k) → R (.ok (.ret (.str x t2))) { s with heap := h', toks := tk }) :
    codeAny (model PySem.Challenge.rw_kj0039_01.row.prog w) { handled := none, depth := dp, frames := fr, guards := gd, units := un } (.call (.ref 241) ⟨[.ref b, .int sz u, .bool pl], []⟩) R s := by
  revert X₀; k_fill; intro X₀
  refine' enter (f := 241) (mm := (fun zq => List.lookup zq [(Str.ofString "plain", .bool pl), (Str.ofString "size", .int sz u), (Str.ofString "box", .ref b)])) S X₀ T N ?ho ?hcd ?hr ?hb ?hmm ?hloc ?_ ?c1 ?c2 ?c3 ?c4
  case ho => k_is
  case hcd => k_is
  case hr => show dp < recursionLimit; (first | k_extra "O" | omega)
  case hb => exact BindsTo.of_eq rfl
  case hmm => first | rfl | kernel_rfl | with_unfolding_all rfl
  case hloc => exact locs rfl
  case c1 => exact rfl
  case c2 => exact rfl
  case c3 => exact rfl
  case c4 => decide
  intro g L' h₁ tkA k1 k2 k3 F' N' X' T' k4 k5
  (try dsimp only)
  k_fold
  walk_at "ks"
  (rename Fr _ _ _ _ => lF')
  (rename News _ _ _ _ => lN')
  (rename IsRange _ _ _ _ _ _ _ _ => rgX)
  refine' for_rangeM (n := sz.toNat) (fun m₀ i m nx => ∃ (x : Str) (t : Tok) (kv : Option Value) (n' : Int) (t1 : Tok), m = (fun y => if y = Str.ofString "text" then some (.str x t) else if y = Str.ofString "k" then kv else m₀ y) ∧ nx = [(b, listOf #[.int n' t1] k)] ∧ x.length = i ∧ (∀ c ∈ x.cps.toList, c ∈ alph) ∧ 0 ≤ n') lF' lN' rgX ?k2 ?k3 ?k4 ?k5 ?_ ?_
  case k2 => exact rfl
  case k3 => (first | k_extra "O" | omega)
  case k4 => (first | k_extra "O" | omega)
  case k5 =>
    refine' ⟨Str.ofString "", ?tok, none, n, t, ?m, rfl, by decide +kernel, fun c hc => absurd hc (by rw [show (Str.ofString "").cps.toList = [] from by decide +kernel]; simp), hn⟩
    case m =>
      refine funext fun y => ?_
      by_cases hq0 : y = Str.ofString "text"
      · subst hq0; with_unfolding_all rfl
      by_cases hq1 : y = Str.ofString "k"
      · subst hq1; with_unfolding_all rfl
      simp only [if_neg hq0, if_neg hq1]
  · rintro i t' _ _ h tk own hi ⟨x, tx, kv, n', t1, rfl, rfl, hx, ha, hn'⟩ hoff F N
    k_fold
    walk_at "ks"
    all_goals (
      show TEnd _ _ _ _ _ _
      (rename Fr _ _ _ _ => F9)
      (rename News _ _ _ _ => N9)
      refine' TEnd.intro F9 N9 ⟨_, _, _, _, _, ?a1, rfl, ?a2, ?a3, ?a4⟩ ?b1 ?b2 ?b3
      case a1 =>
        refine funext fun y => ?_
        by_cases hq0 : y = Str.ofString "text"
        · subst hq0; with_unfolding_all rfl
        by_cases hq1 : y = Str.ofString "k"
        · subst hq1; with_unfolding_all rfl
        simp only [if_neg hq0, if_neg hq1]
      case b1 => intro p hp; rw [List.mem_singleton.mp hp]; exact List.Mem.head _
      case b2 => exact fun p hp => List.Mem.tail _ hp
      case b3 => exact hoff
      case a4 => assumption
      case a2 => (first | k_extra "O" | omega)
      case a3 => first
        | exact grow_mem ha good_sub (by assumption) (by rw [good_len]; assumption)
        | exact grow_mem ha (fun c h => h) (by assumption) (by rw [every_len]; assumption))
  · rintro _ _ h tk ⟨x, tx, kv, n', t1, rfl, rfl, hx, ha, hn'⟩ F N
    dsimp only
    (try k_fold)
    walk_at "ks"
    dsimp only
    k_unfold
    dsimp only
    (rename Fr _ _ _ _ => F9)
    (rename News _ _ _ _ => N9)
    exact hR _ _ _ _ _ _ hn' hx ha (fun a o ne e => F9.keep _ _ (k1 a o e (by simpa using ne))) (N9 _ (List.Mem.head _)).1
end
theorem zw_M5_2 : True := by
  k_with_none
  k_with "O" => first | decide | ((with_reducible refine rmk (by assumption) ?_); rfl) | ((with_reducible refine rm0 (by assumption) ?_); rfl) | ((with_reducible refine lel (by assumption) ?_); rfl) | ((with_reducible refine llt (by assumption) ?_); rfl) | ((with_reducible refine ltt (by assumption) ?_); rfl) | ((with_reducible refine ltl (by assumption) ?_); rfl) | ((with_reducible refine ilt (by assumption) ?_); rfl) | (with_reducible exact rmz (by assumption)) | (with_reducible assumption)
  exact True.intro
theorem signs_K {w : World} {mean : ExcName → Option Value} {mg mb : Str → Option Value} {dp un : Nat} {fr : Option (List Env)} {gd : Option (List Code)} {E : Value → Shared → Prop} {s : Shared} {h₀ : Heap} {L : Addr} {m : Str → Option Value} {news : List (Addr × Obj)} {Q : Value → Shared → Prop} {b : Addr} {n sz : Int} {t u : Tok} {k : Nat} {pl : Bool} {newsF : Obj → List (Addr × Obj)}
    (F : Fr h₀ L s.heap m) (X₀ : (Mine.hh.heap_1_39 w.params).In h₀) (N : News h₀ L s.heap news) (T : Top Mine.hh.view_1_40 (looseW Mine.hh.view_1_40 [Str.ofString "PyFATException", Str.ofString "errno", Str.ofString "EightDotThree"]) mean mg mb h₀) (hroom : dp + 5 < recursionLimit) (U : UpdF b (listOf #[.int n t] k) news newsF) (hn : 0 ≤ n) (h1 : 0 ≤ sz) (h2 : sz ≤ 12)
    (h : ∀ h' t1 t2 tk (n' : Int) (x : Str), 0 ≤ n' → x.length = sz.toNat → (∀ c ∈ x.cps.toList, c ∈ alph) → Fr h₀ L h' m → News h₀ L h' (newsF (listOf #[.int n' t1] k)) → Q (.str x t2) { s with heap := h', toks := tk }) :
    wpAny (model PySem.Challenge.rw_kj0039_01.row.prog w) { handled := none, depth := dp, frames := fr, guards := gd, units := un } (call (.ref 241) [.ref b, .int sz u, .bool pl]) Q E s := by
  have hb : (b, listOf #[.int n t] k) ∈ news := by
    obtain ⟨pre, post, rfl, _, _, _⟩ := U.split
    exact List.mem_append.mpr (.inr (.head _))
  refine wpAny_call (signs_code (t := t) (k := k) (u := u) F.keep X₀ T (fun p hp => ?_) hroom hn h1 h2 fun h' t1 t2 tk n' x a1 a2 a3 k1 k2 => ?_)
  · rw [List.mem_singleton.mp hp]
    exact ⟨(N _ hb).1, (N _ hb).2.2⟩
  · obtain ⟨F', N'⟩ := updF_K F N U k1 k2
    exact h h' t1 t2 tk n' x a1 a2 a3 F' N'
end Mine
namespace Mine
theorem zr_M6 : True := by
  w_top off
  k_with_none
  k_with "O" => first | decide | ((with_reducible refine rmk (by assumption) ?_); rfl) | ((with_reducible refine rm0 (by assumption) ?_); rfl) | ((with_reducible refine lel (by assumption) ?_); rfl) | ((with_reducible refine llt (by assumption) ?_); rfl) | ((with_reducible refine ltt (by assumption) ?_); rfl) | ((with_reducible refine ltl (by assumption) ?_); rfl) | ((with_reducible refine ilt (by assumption) ?_); rfl) | (with_reducible exact rmz (by assumption)) | (with_reducible assumption)
  exact True.intro
open PySem.Calls
theorem app_toList (x y : Str) : (x ++ y).cps.toList = x.cps.toList ++ y.cps.toList := by
  show (x.cps ++ y.cps).toList = _
  simp
theorem app_len (x y : Str) : (x ++ y).length = x.length + y.length := by
  show (x.cps ++ y.cps).size = x.cps.size + y.cps.size
  simp
theorem app_mem {x y : Str} (h : ∀ c ∈ x.cps.toList, c ∈ alph) (g : ∀ c ∈ y.cps.toList, c ∈ alph) : ∀ c ∈ (x ++ y).cps.toList, c ∈ alph := fun c hc => by
  rw [app_toList] at hc
  exact (List.mem_append.mp hc).elim (h c) (g c)
theorem dot_mem : ∀ c ∈ (Str.ofString ".").cps.toList, c ∈ alph := by decide +kernel
theorem dot_len : (Str.ofString ".").length = 1 := by decide +kernel
section
theorem zw_M6_3 : True := by
  k_with_none
  k_with "O" => first | decide | ((with_reducible refine rmk (by assumption) ?_); rfl) | ((with_reducible refine rm0 (by assumption) ?_); rfl) | ((with_reducible refine lel (by assumption) ?_); rfl) | ((with_reducible refine llt (by assumption) ?_); rfl) | ((with_reducible refine ltt (by assumption) ?_); rfl) | ((with_reducible refine ltl (by assumption) ?_); rfl) | ((with_reducible refine ilt (by assumption) ?_); rfl) | (with_reducible exact rmz (by assumption)) | (with_reducible assumption)
  k_with "ks" => repeat' (first | (k_unfold; (try dsimp only)) | (k_end; wrow_close) | ((fail_if_success (with_reducible show wpAny _ _ (pyIter _) (fun it s₂ => LoopAtV _ _ _ _ _ _ _ _ _ it s₂) _ _)); (first | k_extra "H" | walk1)) | ((fail_if_success (with_reducible show wpAny _ _ (pyIter _) (fun it s₂ => LoopAtV _ _ _ _ _ _ _ _ _ it s₂) _ _)); dsimp only; (first | k_extra "H" | walk1)) | fail "no step")
  k_with "forhere" => (with_reducible show wpAny _ _ (pyIter _) (fun it s₂ => LoopAtV _ _ _ _ _ _ _ _ _ it s₂) _ _)
  k_with "H" => (k_here; (with_reducible show wpAny _ _ (call (Value.ref 234) _) _ _ _); k_dflt (refine' take_K ?k1 ?k2 ?k3 ?k4 ?k5 ?k6 ?k7 ?k8 ?k9 ?_; (case k1 => k_asm); (case k2 => k_asm); (case k3 => k_asm); (case k4 => k_asm); (case k5 => (dsimp only [Around.deeper]; (first | k_extra "O" | omega))); (case k9 => k_updF); (case k6 => (first | k_extra "O" | omega)); (case k7 => (first | k_extra "O" | omega)); (case k8 => (first | k_extra "O" | omega)); k_whole); intro _ _ _ _ _ _ _ _ _ _ zzN; (try dsimp only at zzN); (try k_sweep))
  k_with "H" => (k_here; (with_reducible show wpAny _ _ (call (Value.ref 241) _) _ _ _); k_dflt (refine' signs_K ?k1 ?k2 ?k3 ?k4 ?k5 ?k9 ?k6 ?k7 ?k8 ?_; (case k1 => k_asm); (case k2 => k_asm); (case k3 => k_asm); (case k4 => k_asm); (case k5 => (dsimp only [Around.deeper]; (first | k_extra "O" | omega))); (case k9 => k_updF); (case k6 => (first | k_extra "O" | omega)); (case k7 => (first | k_extra "O" | omega)); (case k8 => (first | k_extra "O" | omega)); k_whole); intro _ _ _ _ _ _ _ _ _ _ zzN; (try dsimp only at zzN); (try k_sweep))
  exact True.intro
set_option maxHeartbeats 4000000 in
theorem text_code {w : World} {mean : ExcName → Option Value} {mg mb : Str → Option Value} {dp un : Nat} {fr : Option (List Env)} {gd : Option (List Code)} {R : Result → Shared → Prop} {s : Shared} {h₀ : Heap} {b : Addr} {n : Int} {t : Tok} {k : Nat}
    (S : ∀ b o, h₀.get? b = some o → s.heap.get? b = some o) (X₀ : (Mine.hh.heap_1_39 w.params).In h₀) (T : Top Mine.hh.view_1_40 (looseW Mine.hh.view_1_40 [Str.ofString "PyFATException", Str.ofString "errno", Str.ofString "EightDotThree"]) mean mg mb h₀)
    (N : ∀ p ∈ ([(b, listOf #[.int n t] k)] : List (Addr × Obj)), s.heap.get? p.1 = some p.2 ∧ h₀.get? p.1 = none)
    (hroom : dp + 10 < recursionLimit) (hn : 0 ≤ n)
    (hR : ∀ h' t1 t2 tk (n' : Int) (x : Str), 0 ≤ n' → x.length ≤ 14 → (∀ c ∈ x.cps.toList, c ∈ alph) → (∀ a o, a ≠ b → s.heap.get? a = some o → h'.get? a = some o) → h'.get? b = some (listOf #[.int n' t1] k) → R (.ok (.ret (.str x t2))) { s with heap := h', toks := tk }) :
    codeAny (model PySem.Challenge.rw_kj0039_01.row.prog w) { handled := none, depth := dp, frames := fr, guards := gd, units := un } (.call (.ref 248) ⟨[.ref b], []⟩) R s := by
  revert X₀; k_fill; intro X₀
  refine' enter (f := 248) (mm := (fun zq => List.lookup zq [(Str.ofString "box", .ref b)])) S X₀ T N ?ho ?hcd ?hr ?hb ?hmm ?hloc ?_ ?c1 ?c2 ?c3 ?c4
  case ho => k_is
  case hcd => k_is
  case hr => show dp < recursionLimit; (first | k_extra "O" | omega)
  case hb => exact BindsTo.of_eq rfl
  case hmm => first | rfl | kernel_rfl | with_unfolding_all rfl
  case hloc => exact locs rfl
  case c1 => exact rfl
  case c2 => exact rfl
  case c3 => exact rfl
  case c4 => decide
  intro g L' h₁ tkA k1 k2 k3 F' N' X' T' k4 k5
  (try dsimp only)
  k_fold
  walk_at "ks"
  all_goals (
    (try dsimp only)
    (try (k_unfold; dsimp only))
    (rename Fr _ _ _ _ => F9)
    (rename News _ _ _ _ => N9)
    refine hR _ _ _ _ _ _ (by assumption) ?_ ?_ (fun a o ne e => F9.keep _ _ (k1 a o e (by simpa using ne))) (N9 _ (List.Mem.head _)).1
    · first | (first | k_extra "O" | omega) | (rw [app_len, app_len, dot_len]; (first | k_extra "O" | omega))
    · first | assumption | exact app_mem (app_mem (by assumption) dot_mem) (by assumption))
end
theorem zw_M6_4 : True := by
  k_with_none
  k_with "O" => first | decide | ((with_reducible refine rmk (by assumption) ?_); rfl) | ((with_reducible refine rm0 (by assumption) ?_); rfl) | ((with_reducible refine lel (by assumption) ?_); rfl) | ((with_reducible refine llt (by assumption) ?_); rfl) | ((with_reducible refine ltt (by assumption) ?_); rfl) | ((with_reducible refine ltl (by assumption) ?_); rfl) | ((with_reducible refine ilt (by assumption) ?_); rfl) | (with_reducible exact rmz (by assumption)) | (with_reducible assumption)
  exact True.intro
theorem text_K {w : World} {mean : ExcName → Option Value} {mg mb : Str → Option Value} {dp un : Nat} {fr : Option (List Env)} {gd : Option (List Code)} {E : Value → Shared → Prop} {s : Shared} {h₀ : Heap} {L : Addr} {m : Str → Option Value} {news : List (Addr × Obj)} {Q : Value → Shared → Prop} {b : Addr} {n : Int} {t : Tok} {k : Nat} {newsF : Obj → List (Addr × Obj)}
    (F : Fr h₀ L s.heap m) (X₀ : (Mine.hh.heap_1_39 w.params).In h₀) (N : News h₀ L s.heap news) (T : Top Mine.hh.view_1_40 (looseW Mine.hh.view_1_40 [Str.ofString "PyFATException", Str.ofString "errno", Str.ofString "EightDotThree"]) mean mg mb h₀) (hroom : dp + 10 < recursionLimit) (U : UpdF b (listOf #[.int n t] k) news newsF) (hn : 0 ≤ n)
    (h : ∀ h' t1 t2 tk (n' : Int) (x : Str), 0 ≤ n' → x.length ≤ 14 → (∀ c ∈ x.cps.toList, c ∈ alph) → Fr h₀ L h' m → News h₀ L h' (newsF (listOf #[.int n' t1] k)) → Q (.str x t2) { s with heap := h', toks := tk }) :
    wpAny (model PySem.Challenge.rw_kj0039_01.row.prog w) { handled := none, depth := dp, frames := fr, guards := gd, units := un } (call (.ref 248) [.ref b]) Q E s := by
  have hb : (b, listOf #[.int n t] k) ∈ news := by
    obtain ⟨pre, post, rfl, _, _, _⟩ := U.split
    exact List.mem_append.mpr (.inr (.head _))
  refine wpAny_call (text_code (t := t) (k := k) F.keep X₀ T (fun p hp => ?_) hroom hn fun h' t1 t2 tk n' x a1 a2 a3 k1 k2 => ?_)
  · rw [List.mem_singleton.mp hp]
    exact ⟨(N _ hb).1, (N _ hb).2.2⟩
  · obtain ⟨F', N'⟩ := updF_K F N U k1 k2
    exact h h' t1 t2 tk n' x a1 a2 a3 F' N'
end Mine
namespace Mine
theorem zr_M7 : True := by
  w_top off
  k_with_none
  k_with "O" => first | decide | ((with_reducible refine rmk (by assumption) ?_); rfl) | ((with_reducible refine rm0 (by assumption) ?_); rfl) | ((with_reducible refine lel (by assumption) ?_); rfl) | ((with_reducible refine llt (by assumption) ?_); rfl) | ((with_reducible refine ltt (by assumption) ?_); rfl) | ((with_reducible refine ltl (by assumption) ?_); rfl) | ((with_reducible refine ilt (by assumption) ?_); rfl) | (with_reducible exact rmz (by assumption)) | (with_reducible assumption)
  exact True.intro
open PySem.Calls
noncomputable def OctOk (n : Int) : Prop := n = 32 ∨ (33 ≤ n ∧ n ≤ 126) ∨ (161 ≤ n ∧ n ≤ 255)
noncomputable def Oct1 (n : Int) : Prop := n = 0 ∨ (33 ≤ n ∧ n ≤ 126) ∨ (161 ≤ n ∧ n ≤ 255)
theorem ints_snoc {vs : List Value} {ns : List Int} {n : Int} {t : Tok} (h : IntsAre vs ns) : IntsAre (vs ++ [.int n t]) (ns ++ [n]) := h.append (.cons n t .nil)
theorem mk_tab0 : ∀ q < 2, [(0 : Int), 229].getD q 0 = 0 ∨ [(0 : Int), 229].getD q 0 = 229 := by decide +kernel
theorem mk_tab {r : Int} (h0 : 0 ≤ r) (h : r < 2) : Oct1 ([(0 : Int), 229].getD r.toNat 0) := by
  rcases mk_tab0 r.toNat (by (first | k_extra "O" | omega)) with e | e <;> rw [e] <;> unfold Oct1 <;> (first | k_extra "O" | omega)
theorem one65 {n0 : Int} {ns : List Int} (_ : (n0 :: ns).getD (Int.toNat 0) 0 = 32) : Oct1 65 := by unfold Oct1; (first | k_extra "O" | omega)
theorem one_of {n0 : Int} {ns : List Int} (h : OctOk n0) (ne : (n0 :: ns).getD (Int.toNat 0) 0 ≠ 32) : Oct1 n0 := by
  have : n0 ≠ 32 := ne
  unfold OctOk at h
  unfold Oct1
  (first | k_extra "O" | omega)
theorem in_of {n0 : Int} {ns : List Int} (h : Oct1 n0) (g : ∀ n ∈ ns, OctOk n) : KBa.In (n0 :: ns) := fun n hn => by
  rcases List.mem_cons.mp hn with rfl | hn
  · unfold Oct1 at h; (first | k_extra "O" | omega)
  · have := g n hn; unfold OctOk at this; (first | k_extra "O" | omega)
theorem size_tab0 : ∀ q < 8, [(11 : Int), 11, 11, 11, 10, 12, 9, 13].getD q 0 = (([(11 : Int), 11, 11, 11, 10, 12, 9, 13].getD q 0).toNat : Int) ∧ 9 ≤ ([(11 : Int), 11, 11, 11, 10, 12, 9, 13].getD q 0).toNat ∧ ([(11 : Int), 11, 11, 11, 10, 12, 9, 13].getD q 0).toNat ≤ 13 := by decide +kernel
theorem size_tab {r : Int} (h : r < 8) : ∃ sz : Nat, [(11 : Int), 11, 11, 11, 10, 12, 9, 13].getD r.toNat 0 = (sz : Int) ∧ 9 ≤ sz ∧ sz ≤ 13 := ⟨_, size_tab0 r.toNat (by (first | k_extra "O" | omega))⟩
theorem oct_snoc {ns : List Int} {n : Int} (h : ∀ n ∈ ns, OctOk n) (hn : OctOk n) : ∀ m ∈ ns ++ [n], OctOk m := fun m hm => by
  rcases List.mem_append.mp hm with hm | hm
  · exact h m hm
  · rw [List.mem_singleton.mp hm]; exact hn
theorem mem3a {α : Type} {a b c : α} {own : List α} : ∀ p ∈ [a, b, c], p ∈ a :: b :: c :: [].append own := fun p hp => List.mem_append_left own hp
theorem mem3b {α : Type} {a b c : α} {own : List α} : ∀ p ∈ own, p ∈ a :: b :: c :: [].append own := fun p hp => List.mem_append_right [a, b, c] hp
section
theorem zw_M7_5 : True := by
  k_with_none
  k_with "O" => first | decide | ((with_reducible refine rmk (by assumption) ?_); rfl) | ((with_reducible refine rm0 (by assumption) ?_); rfl) | ((with_reducible refine lel (by assumption) ?_); rfl) | ((with_reducible refine llt (by assumption) ?_); rfl) | ((with_reducible refine ltt (by assumption) ?_); rfl) | ((with_reducible refine ltl (by assumption) ?_); rfl) | ((with_reducible refine ilt (by assumption) ?_); rfl) | (with_reducible exact rmz (by assumption)) | (with_reducible assumption)
  k_with "ks" => repeat' (first | (k_unfold; (try dsimp only)) | (k_end; wrow_close) | ((fail_if_success (with_reducible show wpAny _ _ (pyIter _) (fun it s₂ => LoopAtV _ _ _ _ _ _ _ _ _ it s₂) _ _)); (first | k_extra "H" | walk1)) | ((fail_if_success (with_reducible show wpAny _ _ (pyIter _) (fun it s₂ => LoopAtV _ _ _ _ _ _ _ _ _ it s₂) _ _)); dsimp only; (first | k_extra "H" | walk1)) | fail "no step")
  k_with "forhere" => (with_reducible show wpAny _ _ (pyIter _) (fun it s₂ => LoopAtV _ _ _ _ _ _ _ _ _ it s₂) _ _)
  k_with "H" => (k_here; (with_reducible show wpAny _ _ (call (Value.ref 234) _) _ _ _); k_dflt (refine' take_K ?k1 ?k2 ?k3 ?k4 ?k5 ?k6 ?k7 ?k8 ?k9 ?_; (case k1 => k_asm); (case k2 => k_asm); (case k3 => k_asm); (case k4 => k_asm); (case k5 => (dsimp only [Around.deeper]; (first | k_extra "O" | omega))); (case k9 => k_updF); (case k6 => (first | k_extra "O" | omega)); (case k7 => (first | k_extra "O" | omega)); (case k8 => (first | k_extra "O" | omega)); k_whole); intro _ _ _ _ _ _ _ _ _ _ zzN; (try dsimp only at zzN); (try k_sweep))
  exact True.intro
set_option maxHeartbeats 4000000 in
theorem octets_code {w : World} {mean : ExcName → Option Value} {mg mb : Str → Option Value} {dp un : Nat} {fr : Option (List Env)} {gd : Option (List Code)} {R : Result → Shared → Prop} {s : Shared} {h₀ : Heap} {b : Addr} {n : Int} {t : Tok} {k : Nat}
    (S : ∀ b o, h₀.get? b = some o → s.heap.get? b = some o) (X₀ : (Mine.hh.heap_1_39 w.params).In h₀) (T : Top Mine.hh.view_1_40 (looseW Mine.hh.view_1_40 [Str.ofString "PyFATException", Str.ofString "errno", Str.ofString "EightDotThree"]) mean mg mb h₀)
    (N : ∀ p ∈ ([(b, listOf #[.int n t] k)] : List (Addr × Obj)), s.heap.get? p.1 = some p.2 ∧ h₀.get? p.1 = none)
    (hroom : dp + 10 < recursionLimit) (hn : 0 ≤ n)
    (hR : ∀ h' t1 t2 tk (n' n0 : Int) (ns : List Int), 0 ≤ n' → 8 ≤ ns.length → ns.length ≤ 12 → Oct1 n0 → (∀ n ∈ ns, OctOk n) → (∀ a o, a ≠ b → s.heap.get? a = some o → h'.get? a = some o) → h'.get? b = some (listOf #[.int n' t1] k) → R (.ok (.ret (.bytes (byteArr (n0 :: ns)) t2))) { s with heap := h', toks := tk }) :
    codeAny (model PySem.Challenge.rw_kj0039_01.row.prog w) { handled := none, depth := dp, frames := fr, guards := gd, units := un } (.call (.ref 255) ⟨[.ref b], []⟩) R s := by
  revert X₀; k_fill; intro X₀
  refine' enter (f := 255) (mm := (fun zq => List.lookup zq [(Str.ofString "box", .ref b)])) S X₀ T N ?ho ?hcd ?hr ?hb ?hmm ?hloc ?_ ?c1 ?c2 ?c3 ?c4
  case ho => k_is
  case hcd => k_is
  case hr => show dp < recursionLimit; (first | k_extra "O" | omega)
  case hb => exact BindsTo.of_eq rfl
  case hmm => first | rfl | kernel_rfl | with_unfolding_all rfl
  case hloc => exact locs rfl
  case c1 => exact rfl
  case c2 => exact rfl
  case c3 => exact rfl
  case c4 => decide
  intro g L' h₁ tkA k1 k2 k3 F' N' X' T' k4 k5
  (try dsimp only)
  k_fold
  walk_at "ks"
  (rename Fr _ _ _ _ => lF')
  (rename News _ _ _ _ => lN')
  (rename IsRange _ _ _ _ _ _ _ _ => rgX)
  (rename ((_ : Int) < 8) => a3X)
  obtain ⟨sz, hsz, hs1, hs2⟩ := size_tab a3X
  refine' for_rangeL (n := sz) (fun m₀ led i m nx => ∃ (kv nv : Option Value) (n' : Int) (t1 : Tok) (vs : List Value) (ns : List Int) (e : Nat), m = (fun y => if y = Str.ofString "k" then kv else if y = Str.ofString "n" then nv else m₀ y) ∧ nx = [(ad0 led, listOf vs.toArray e), en1 led, (b, listOf #[.int n' t1] k)] ∧ IntsAre vs ns ∧ ns.length = i ∧ (∀ n ∈ ns, OctOk n) ∧ 0 ≤ n') lF' lN' rgX ?k2 ?k3 ?k4 ?k5 ?_ ?_
  case k2 => exact rfl
  case k3 => exact hsz
  case k4 => (first | k_extra "O" | omega)
  case k5 =>
    refine' ⟨none, none, _, _, [], [], 0, ?m, rfl, .nil, rfl, (fun n h => by cases h), by assumption⟩
    case m =>
      refine funext fun y => ?_
      by_cases hq0 : y = Str.ofString "k"
      · subst hq0; with_unfolding_all rfl
      by_cases hq1 : y = Str.ofString "n"
      · subst hq1; with_unfolding_all rfl
      simp only [if_neg hq0, if_neg hq1]
  · rintro i t' _ _ h tk own hi ⟨kv, nv, n', t1, vs, ns, e, rfl, rfl, hI, hl, ha, hn'⟩ hoff F N
    dsimp only [ad0, en1] at N hoff
    k_fold
    walk_at "ks"
    all_goals (
      show TEnd _ _ _ _ _ _
      (rename Fr _ _ _ _ => F9)
      (rename News _ _ _ _ => N9)
      simp only [List.push_toArray] at N9
      refine' TEnd.intro F9 N9 ⟨_, _, _, _, _, _, _, ?a1, rfl, ?a2, ?a3, ?a4, ?a5⟩ ?b1 ?b2 ?b3
      case a1 =>
        refine funext fun y => ?_
        by_cases hq0 : y = Str.ofString "k"
        · subst hq0; with_unfolding_all rfl
        by_cases hq1 : y = Str.ofString "n"
        · subst hq1; with_unfolding_all rfl
        simp only [if_neg hq0, if_neg hq1]
      case b1 => exact mem3a
      case a2 => exact ints_snoc hI
      case a3 => rw [List.length_append, hl]; rfl
      case a4 => exact oct_snoc ha (by unfold OctOk; (first | k_extra "O" | omega))
      case a5 => assumption
      case b2 => exact mem3b
      case b3 => exact hoff)
  · rintro _ _ h tk ⟨kv, nv, n', t1, vs, ns, e, rfl, rfl, hI, hl, ha, hn'⟩ F N
    dsimp only [ad0, en1] at N
    dsimp only
    obtain ⟨n0, ns, rfl⟩ : ∃ n0 ns', ns = n0 :: ns' := by
      cases ns with
      | nil => simp at hl; (first | k_extra "O" | omega)
      | cons a b => exact ⟨a, b, rfl⟩
    obtain ⟨t0, vs, rfl, hI'⟩ := hI.cons_inv
    rw [List.length_cons] at hl
    have ha0 := ha n0 (.head _)
    have ha1 : ∀ n ∈ ns, OctOk n := fun n hn => ha n (.tail _ hn)
    (try k_fold)
    walk_at "ks"
    all_goals (
      first | ((rename ((_ : Int) < 2) => hr2); (have hone := mk_tab (by assumption) hr2)) | ((rename (List.getD _ _ _ = 32) => hr3); (have hone := one65 hr3)) | ((rename (List.getD _ _ _ ≠ 32) => hr3); (have hone := one_of ha0 hr3))
      (rename Fr _ _ _ _ => F9)
      (rename News _ _ _ _ => N9)
      refine' KBa.make_K F9 N9 (by rfl) (News.isList N9 (by k_mem)) (.cons _ _ hI') (in_of hone ha1) ?len ?_
      case len => rw [List.length_cons]; (first | k_extra "O" | omega)
      intro h8 t8 k8 F8 N8 _
      dsimp only
      k_unfold
      dsimp only
      have hb8 := News.get (a := b) N8 (by k_mem)
      refine hR _ _ _ _ _ _ _ ?_ (by (first | k_extra "O" | omega)) (by (first | k_extra "O" | omega)) hone ha1 (fun a o ne e => F8.keep _ _ (k1 a o e (by simpa using ne))) hb8
      assumption)
end
theorem zw_M7_6 : True := by
  k_with_none
  k_with "O" => first | decide | ((with_reducible refine rmk (by assumption) ?_); rfl) | ((with_reducible refine rm0 (by assumption) ?_); rfl) | ((with_reducible refine lel (by assumption) ?_); rfl) | ((with_reducible refine llt (by assumption) ?_); rfl) | ((with_reducible refine ltt (by assumption) ?_); rfl) | ((with_reducible refine ltl (by assumption) ?_); rfl) | ((with_reducible refine ilt (by assumption) ?_); rfl) | (with_reducible exact rmz (by assumption)) | (with_reducible assumption)
  exact True.intro
theorem octets_K {w : World} {mean : ExcName → Option Value} {mg mb : Str → Option Value} {dp un : Nat} {fr : Option (List Env)} {gd : Option (List Code)} {E : Value → Shared → Prop} {s : Shared} {h₀ : Heap} {L : Addr} {m : Str → Option Value} {news : List (Addr × Obj)} {Q : Value → Shared → Prop} {b : Addr} {n : Int} {t : Tok} {k : Nat} {newsF : Obj → List (Addr × Obj)}
    (F : Fr h₀ L s.heap m) (X₀ : (Mine.hh.heap_1_39 w.params).In h₀) (N : News h₀ L s.heap news) (T : Top Mine.hh.view_1_40 (looseW Mine.hh.view_1_40 [Str.ofString "PyFATException", Str.ofString "errno", Str.ofString "EightDotThree"]) mean mg mb h₀) (hroom : dp + 10 < recursionLimit) (U : UpdF b (listOf #[.int n t] k) news newsF) (hn : 0 ≤ n)
    (h : ∀ h' t1 t2 tk (n' n0 : Int) (ns : List Int), 0 ≤ n' → 8 ≤ ns.length → ns.length ≤ 12 → Oct1 n0 → (∀ n ∈ ns, OctOk n) → Fr h₀ L h' m → News h₀ L h' (newsF (listOf #[.int n' t1] k)) → Q (.bytes (byteArr (n0 :: ns)) t2) { s with heap := h', toks := tk }) :
    wpAny (model PySem.Challenge.rw_kj0039_01.row.prog w) { handled := none, depth := dp, frames := fr, guards := gd, units := un } (call (.ref 255) [.ref b]) Q E s := by
  have hb : (b, listOf #[.int n t] k) ∈ news := by
    obtain ⟨pre, post, rfl, _, _, _⟩ := U.split
    exact List.mem_append.mpr (.inr (.head _))
  refine wpAny_call (octets_code (t := t) (k := k) F.keep X₀ T (fun p hp => ?_) hroom hn fun h' t1 t2 tk n' n0 ns a1 a2 a3 a4 a5 k1 k2 => ?_)
  · rw [List.mem_singleton.mp hp]
    exact ⟨(N _ hb).1, (N _ hb).2.2⟩
  · obtain ⟨F', N'⟩ := updF_K F N U k1 k2
    exact h h' t1 t2 tk n' n0 ns a1 a2 a3 a4 a5 F' N'
end Mine
namespace Mine
theorem zr_X0 : True := by
  w_top off
  k_with_none
  k_with "O" => first | decide | ((with_reducible refine rmk (by assumption) ?_); rfl) | ((with_reducible refine rm0 (by assumption) ?_); rfl) | ((with_reducible refine lel (by assumption) ?_); rfl) | ((with_reducible refine llt (by assumption) ?_); rfl) | ((with_reducible refine ltt (by assumption) ?_); rfl) | ((with_reducible refine ltl (by assumption) ?_); rfl) | ((with_reducible refine ilt (by assumption) ?_); rfl) | (with_reducible exact rmz (by assumption)) | (with_reducible assumption)
  exact True.intro
noncomputable abbrev PG := PySem.Challenge.rw_kj0039_01.row.prog
noncomputable def strL (l : List Nat) : Str := ⟨l.toArray⟩
theorem strL_toList (l : List Nat) : (strL l).cps.toList = l := rfl
theorem strL_len (l : List Nat) : (strL l).length = l.length := by show l.toArray.size = _; simp
theorem strL_of (x : Str) : strL x.cps.toList = x := rfl
theorem len_toList (x : Str) : x.length = x.cps.toList.length := by show x.cps.size = _; simp
theorem str_ext {x y : Str} (h : x.cps.toList = y.cps.toList) : x = y := by
  have := congrArg strL h
  exact this
theorem strL_app (a b : List Nat) : strL a ++ strL b = strL (a ++ b) := str_ext (by rw [app_toList]; rfl)
theorem sl_to {x : Str} {j : Int} (h0 : 0 ≤ j) (h1 : j ≤ (x.length : Int)) : Txt.slice x none (some j) = strL (x.cps.toList.take j.toNat) := by
  have h := beq_iff_eq.mp (slice_closes_to (x := x) (j := j) ⟨h0, by rw [← len_toList]; exact h1⟩)
  rw [h]
  show strL _ = strL _
  congr 1
  simp
theorem sl_from {x : Str} {i : Int} (h0 : 0 ≤ i) : Txt.slice x (some i) none = strL (x.cps.toList.drop i.toNat) := by
  by_cases h : i ≤ (x.length : Int)
  · rw [slice_from_eq h0 h rfl]
    show strL _ = strL _
    congr 1
    rw [List.take_of_length_le]
    rw [List.length_drop, ← len_toList]
    (first | k_extra "O" | omega)
  · rw [slice_beyond (by (first | k_extra "O" | omega))]
    have e : x.cps.toList.drop i.toNat = [] := List.drop_eq_nil_of_le (by rw [← len_toList]; (first | k_extra "O" | omega))
    rw [e]; rfl
theorem rf_spec (x : Str) (c : Nat) : (Txt.rfind x (strL [c]) = -1 ∧ c ∉ x.cps.toList) ∨ ∃ n : Nat, Txt.rfind x (strL [c]) = (n : Int) ∧ x.cps.toList[n]? = some c ∧ ∀ j, n < j → x.cps.toList[j]? ≠ some c := by
  have one : ∀ i, StrLaws.At x (strL [c]) x.length i ↔ x.cps.toList[i]? = some c := fun i => StrLaws.subAt_one x c i
  rcases StrLaws.last_spec x (strL [c]) with ⟨h, hn⟩ | ⟨i, h, ha, hl⟩
  · left
    refine ⟨by unfold Txt.rfind; rw [h], fun hm => ?_⟩
    obtain ⟨i, hi⟩ := List.mem_iff_getElem?.mp hm
    exact hn i ((one i).mpr hi)
  · right
    exact ⟨i, by unfold Txt.rfind; rw [h], (one i).mp ha, fun j hj e => hl j hj ((one j).mpr e)⟩
/-- the last c of a list cuts it. -/
noncomputable def cut (c : Nat) : List Nat → Option (List Nat × List Nat)
  | [] => none
  | a :: r => match cut c r with
    | some (p, q) => some (a :: p, q)
    | none => if a = c then some ([], r) else none
theorem cut_none {c : Nat} : ∀ {l : List Nat}, cut c l = none ↔ c ∉ l
  | [] => by simp [cut]
  | a :: r => by
    unfold cut
    have ih := cut_none (c := c) (l := r)
    cases h : cut c r with
    | none =>
      have hn := ih.mp h
      by_cases e : a = c
      · simp [e]
      · simp [e, hn, Ne.symm e]
    | some pq =>
      have hn : ¬ c ∉ r := fun hc => by rw [ih.mpr hc] at h; cases h
      simp only [reduceCtorEq, List.mem_cons, not_or, false_iff, not_and]
      exact fun _ => hn
theorem cut_some {c : Nat} : ∀ {l p q : List Nat}, cut c l = some (p, q) → l = p ++ c :: q ∧ c ∉ q
  | [], _, _, h => by cases h
  | a :: r, p, q, h => by
    unfold cut at h
    cases h2 : cut c r with
    | none =>
      rw [h2] at h
      by_cases e : a = c
      · simp only [e, if_true, Option.some.injEq, Prod.mk.injEq] at h
        obtain ⟨rfl, rfl⟩ := h
        exact ⟨by rw [e]; rfl, cut_none.mp h2⟩
      · simp [e] at h
    | some pq =>
      obtain ⟨p', q'⟩ := pq
      rw [h2] at h
      simp only [Option.some.injEq, Prod.mk.injEq] at h
      obtain ⟨rfl, rfl⟩ := h
      obtain ⟨h3, h4⟩ := cut_some h2
      exact ⟨by rw [h3]; rfl, h4⟩
/-- the last place of c, as an int. -/
noncomputable def lastAt (c : Nat) (l : List Nat) : Int := match cut c l with
  | none => -1
  | some (p, _) => (p.length : Int)
theorem last_uniq {c : Nat} {l : List Nat} {n : Nat} (h : l[n]? = some c) (hl : ∀ j, n < j → l[j]? ≠ some c) : cut c l = some (l.take n, l.drop (n + 1)) := by
  cases e : cut c l with
  | none =>
    exact absurd (List.mem_of_getElem? h) (cut_none.mp e)
  | some pq =>
    obtain ⟨p, q⟩ := pq
    obtain ⟨h1, h2⟩ := cut_some e
    have hp : l[p.length]? = some c := by rw [h1]; simp
    have e1 : n = p.length := by
      rcases Nat.lt_trichotomy n p.length with g | g | g
      · exact absurd hp (hl _ g)
      · exact g
      · exfalso
        rw [h1, List.getElem?_append_right (by (first | k_extra "O" | omega))] at h
        obtain ⟨k, hk⟩ : ∃ k, n - p.length = k + 1 := ⟨n - p.length - 1, by (first | k_extra "O" | omega)⟩
        rw [hk, List.getElem?_cons_succ] at h
        exact h2 (List.mem_of_getElem? h)
    subst e1
    rw [h1]
    simp
theorem rf_last (x : Str) (c : Nat) : Txt.rfind x (strL [c]) = lastAt c x.cps.toList := by
  unfold lastAt
  rcases rf_spec x c with ⟨h, hn⟩ | ⟨n, h, h1, h2⟩
  · rw [h, cut_none.mpr hn]
  · rw [h, last_uniq h1 h2]
    obtain ⟨hlt, _⟩ := List.getElem?_eq_some_iff.mp h1
    simp only [List.length_take]
    (first | k_extra "O" | omega)
theorem last_lt (c : Nat) (l : List Nat) : lastAt c l < (l.length : Int) ∧ -1 ≤ lastAt c l := by
  unfold lastAt
  cases e : cut c l with
  | none => exact ⟨by simp only []; (first | k_extra "O" | omega), by simp⟩
  | some pq =>
    obtain ⟨h1, _⟩ := cut_some (p := pq.1) (q := pq.2) e
    simp only []
    rw [h1]
    simp only [List.length_append, List.length_cons]
    (first | k_extra "O" | omega)
theorem dot_strL : Str.ofString "." = strL [46] := by decide +kernel
theorem slash_strL : Str.ofString "/" = strL [47] := by decide +kernel
theorem nil_strL : Str.ofString "" = strL [] := by decide +kernel
theorem sign_inj {c d : Nat} (h : strL [c] = strL [d]) : c = d := by
  have := congrArg (fun x : Str => x.cps.toList) h
  simpa [strL] using this
section
variable {w : World} {A : Around} {E : Value → Shared → Prop} {s : Shared}
end
theorem item_eq {x : Str} {k : Int} (h0 : 0 ≤ k) (h1 : k < (x.length : Int)) : ∃ c, x.cps.toList[k.toNat]? = some c ∧ Txt.item x k = strL [c] := by
  have hlt : k.toNat < x.cps.size := by
    have : x.length = x.cps.size := rfl
    (first | k_extra "O" | omega)
  refine ⟨x.cps[k.toNat], by simp [hlt], ?_⟩
  unfold Txt.item Txt.charAt
  have e : seqIndex? k x.length = some k.toNat := by
    unfold seqIndex?
    have : x.length = x.cps.size := rfl
    simp only [] <;> (repeat' split) <;> simp_all <;> (first | k_extra "O" | omega)
  simp [e, hlt, strL]
theorem item_is {x : Str} {k : Int} {d : Nat} (h0 : 0 ≤ k) (h1 : k < (x.length : Int)) (h : (Txt.item x k == strL [d]) = true) : x.cps.toList[k.toNat]? = some d := by
  obtain ⟨c, hc, e⟩ := item_eq h0 h1
  rw [e] at h
  rw [hc, sign_inj (eq_of_beq h)]
theorem item_not {x : Str} {k : Int} {d : Nat} (h0 : 0 ≤ k) (h1 : k < (x.length : Int)) (h : (Txt.item x k == strL [d]) = false) : ∃ c, x.cps.toList[k.toNat]? = some c ∧ c ≠ d := by
  obtain ⟨c, hc, e⟩ := item_eq h0 h1
  refine ⟨c, hc, fun q => ?_⟩
  rw [e, q] at h
  simp at h
noncomputable def splitL (l : List Nat) : List Nat × List Nat := match cut 46 l with
  | none => (l, [])
  | some (p, q) => if (p.drop (lastAt 47 l + 1).toNat).any (· != 46) then (p, 46 :: q) else (l, [])
theorem cut_at {l p q : List Nat} {d : Int} (h : cut 46 l = some (p, q)) (hd : lastAt 46 l = d) : d = (p.length : Int) ∧ p = l.take d.toNat ∧ 46 :: q = l.drop d.toNat := by
  have e : d = (p.length : Int) := by rw [← hd]; unfold lastAt; rw [h]
  obtain ⟨h1, _⟩ := cut_some h
  subst e
  refine ⟨rfl, ?_, ?_⟩ <;> rw [h1] <;> simp
theorem spl_yes {l : List Nat} {d s0 : Int} {i : Nat} {c : Nat} (hd : lastAt 46 l = d) (hs : lastAt 47 l = s0) (h0 : -1 ≤ s0) (hi : s0 + 1 + (i : Int) < d) (hc : l[(s0 + 1 + (i : Int)).toNat]? = some c) (ne : c ≠ 46) : splitL l = (l.take d.toNat, l.drop d.toNat) := by
  unfold splitL
  cases h : cut 46 l with
  | none => unfold lastAt at hd; rw [h] at hd; simp at hd; (first | k_extra "O" | omega)
  | some pq =>
    obtain ⟨p, q⟩ := pq
    obtain ⟨e1, e2, e3⟩ := cut_at h hd
    simp only []
    rw [if_pos, ← e2, ← e3]
    rw [List.any_eq_true]
    refine ⟨c, ?_, by simpa using ne⟩
    rw [hs]
    refine List.mem_of_getElem? (i := i) ?_
    rw [List.getElem?_drop, e2, List.getElem?_take_of_lt (by (first | k_extra "O" | omega))]
    rw [← hc]
    congr 1
    (first | k_extra "O" | omega)
theorem spl_no {l : List Nat} {d s0 : Int} (hd : lastAt 46 l = d) (hs : lastAt 47 l = s0) (h0 : -1 ≤ s0) (ha : ∀ j < (d - (s0 + 1)).toNat, l[(s0 + 1).toNat + j]? = some 46) : splitL l = (l, []) := by
  unfold splitL
  cases h : cut 46 l with
  | none => rfl
  | some pq =>
    obtain ⟨p, q⟩ := pq
    obtain ⟨e1, e2, e3⟩ := cut_at h hd
    simp only []
    rw [if_neg]
    intro hany
    rw [List.any_eq_true] at hany
    obtain ⟨c, hc, ne⟩ := hany
    rw [hs] at hc
    obtain ⟨j, hj⟩ := List.mem_iff_getElem?.mp hc
    rw [List.getElem?_drop] at hj
    have hlt : (s0 + 1).toNat + j < p.length := (List.getElem?_eq_some_iff.mp hj).1
    have := ha j (by (first | k_extra "O" | omega))
    rw [e2, List.getElem?_take_of_lt (by (first | k_extra "O" | omega)), this] at hj
    cases hj
    simp at ne
end Mine
namespace Mine
theorem zr_X1 : True := by
  w_top off
  k_with_none
  k_with "O" => first | decide | ((with_reducible refine rmk (by assumption) ?_); rfl) | ((with_reducible refine rm0 (by assumption) ?_); rfl) | ((with_reducible refine lel (by assumption) ?_); rfl) | ((with_reducible refine llt (by assumption) ?_); rfl) | ((with_reducible refine ltt (by assumption) ?_); rfl) | ((with_reducible refine ltl (by assumption) ?_); rfl) | ((with_reducible refine ilt (by assumption) ?_); rfl) | (with_reducible exact rmz (by assumption)) | (with_reducible assumption)
  exact True.intro
open PySem.Calls
noncomputable abbrev tup2 (a b : Value) : Obj := { cls := .type "tuple", data := .seq #[a, b] 0 }
theorem splitL_len (l : List Nat) : (splitL l).1.length ≤ l.length ∧ (splitL l).2.length ≤ l.length := by
  unfold splitL
  cases h : cut 46 l with
  | none => exact ⟨Nat.le_refl _, Nat.zero_le _⟩
  | some pq =>
    obtain ⟨p, q⟩ := pq
    obtain ⟨e, _⟩ := cut_some h
    dsimp only
    split
    · rw [e]; simp only [List.length_append, List.length_cons]; (first | k_extra "O" | omega)
    · exact ⟨Nat.le_refl _, Nat.zero_le _⟩
theorem nil_none {h g : Heap} {D : Addr} (k1 : ∀ b o, h.get? b = some o → b ∉ (([] : List (Addr × Obj)).map (·.1)) → g.get? b = some o) (hD : g.get? D = none) : h.get? D = none := by
  cases q : h.get? D with
  | none => rfl
  | some o => rw [k1 _ _ q List.not_mem_nil] at hD; cases hD
section
theorem zw_X1_7 : True := by
  k_with_none
  k_with "O" => first | decide | ((with_reducible refine rmk (by assumption) ?_); rfl) | ((with_reducible refine rm0 (by assumption) ?_); rfl) | ((with_reducible refine lel (by assumption) ?_); rfl) | ((with_reducible refine llt (by assumption) ?_); rfl) | ((with_reducible refine ltt (by assumption) ?_); rfl) | ((with_reducible refine ltl (by assumption) ?_); rfl) | ((with_reducible refine ilt (by assumption) ?_); rfl) | (with_reducible exact rmz (by assumption)) | (with_reducible assumption)
  k_with "ks" => repeat' (first | (k_unfold; (try dsimp only)) | (k_end; wrow_close) | ((fail_if_success (with_reducible show wpAny _ _ (pyIter _) (fun it s₂ => LoopAtV _ _ _ _ _ _ _ _ _ it s₂) _ _)); (first | k_extra "H" | walk1)) | ((fail_if_success (with_reducible show wpAny _ _ (pyIter _) (fun it s₂ => LoopAtV _ _ _ _ _ _ _ _ _ it s₂) _ _)); dsimp only; (first | k_extra "H" | walk1)) | fail "no step")
  k_with "forhere" => (with_reducible show wpAny _ _ (pyIter _) (fun it s₂ => LoopAtV _ _ _ _ _ _ _ _ _ it s₂) _ _)
  exact True.intro
set_option maxHeartbeats 4000000 in
theorem splitext_code {w : World} {mean : ExcName → Option Value} {mg mb : Str → Option Value} {dp un : Nat} {fr : Option (List Env)} {gd : Option (List Code)} {R : Result → Shared → Prop} {s : Shared} {h₀ : Heap} {x : Str} {t : Tok}
    (S : ∀ b o, h₀.get? b = some o → s.heap.get? b = some o) (X₀ : (Mine.hh.heap_1_39 w.params).In h₀) (T : Top Mine.hh.view_1_40 (looseW Mine.hh.view_1_40 [Str.ofString "PyFATException", Str.ofString "errno", Str.ofString "EightDotThree"]) mean mg mb h₀)
    (N : ∀ p ∈ ([] : List (Addr × Obj)), s.heap.get? p.1 = some p.2 ∧ h₀.get? p.1 = none)
    (hroom : dp + 5 < recursionLimit) (hx : x.length ≤ 20)
    (hR : ∀ h' (D : Addr) t1 t2 tk, s.heap.get? D = none → (∀ a o, s.heap.get? a = some o → h'.get? a = some o) → h'.get? D = some (tup2 (.str (strL (splitL x.cps.toList).1) t1) (.str (strL (splitL x.cps.toList).2) t2)) → R (.ok (.ret (.ref D))) { s with heap := h', toks := tk }) :
    codeAny (model PySem.Challenge.rw_kj0039_01.row.prog w) { handled := none, depth := dp, frames := fr, guards := gd, units := un } (.call (.ref 97) ⟨[.str x t], []⟩) R s := by
  revert X₀; k_fill; intro X₀
  refine' enter (f := 97) (mm := (fun zq => List.lookup zq [(Str.ofString "path", .str x t)])) S X₀ T N ?ho ?hcd ?hr ?hb ?hmm ?hloc ?_ ?c1 ?c2 ?c3 ?c4
  case ho => k_is
  case hcd => k_is
  case hr => show dp < recursionLimit; (first | k_extra "O" | omega)
  case hb => exact BindsTo.of_eq rfl
  case hmm => first | rfl | kernel_rfl | with_unfolding_all rfl
  case hloc => exact locs rfl
  case c1 => exact rfl
  case c2 => exact rfl
  case c3 => exact rfl
  case c4 => decide
  intro g L' h₁ tkA k1 k2 k3 F' N' X' T' k4 k5
  (try dsimp only)
  k_fold
  walk_at "ks"
  (rename IsRange _ _ _ _ _ _ _ _ => rgX)
  (rename Fr _ _ _ _ => lF')
  (rename News _ _ _ _ => lN')
  have e46 : Txt.rfind x (Str.ofString ".") = lastAt 46 x.cps.toList := by rw [dot_strL]; exact rf_last x 46
  have e47 : Txt.rfind x (Str.ofString "/") = lastAt 47 x.cps.toList := by rw [slash_strL]; exact rf_last x 47
  have b46 := last_lt 46 x.cps.toList
  have b47 := last_lt 47 x.cps.toList
  rw [← len_toList] at b46 b47
  simp only [e46, e47] at rgX lF'
  generalize hd : lastAt 46 x.cps.toList = d at rgX lF' b46
  generalize hs0 : lastAt 47 x.cps.toList = s0 at rgX lF' b47
  refine' for_rangeAB (n := (d - (s0 + 1)).toNat) (fun m₀ led i m nx => ∃ (kv : Option Value), m = (fun y => if y = Str.ofString "k" then kv else m₀ y) ∧ nx = [] ∧ ∀ j < i, x.cps.toList[(s0 + 1).toNat + j]? = some 46) lF' lN' rgX ?k2 rfl ?k3 ?k4 ?k5 ?_ ?_
  case k2 => exact rfl
  case k3 => (first | k_extra "O" | omega)
  case k4 => (first | k_extra "O" | omega)
  case k5 =>
    refine' ⟨none, ?m, rfl, fun j hj => absurd hj (Nat.not_lt_zero _)⟩
    case m =>
      refine funext fun y => ?_
      by_cases hq0 : y = Str.ofString "k"
      · subst hq0; with_unfolding_all rfl
      simp only [if_neg hq0]
  · rintro i t' _ _ h tk own hi ⟨kv, rfl, rfl, ha⟩ hoff F N
    k_fold
    have hk0 : (0 : Int) ≤ s0 + 1 + (i : Int) := by (first | k_extra "O" | omega)
    have hk1 : s0 + 1 + (i : Int) < d := by (first | k_extra "O" | omega)
    have hk2 : s0 + 1 + (i : Int) < (x.length : Int) := by (first | k_extra "O" | omega)
    have hd0 : (0 : Int) ≤ d := by (first | k_extra "O" | omega)
    have hd1 : d ≤ (x.length : Int) := by (first | k_extra "O" | omega)
    walk_at "ks"
    · (rename ((Txt.item _ _ != _) = true) => hq)
      rw [dot_strL] at hq
      obtain ⟨c, hc, ne⟩ := item_not hk0 hk2 (by simpa using hq)
      dsimp only [TPost]
      k_unfold
      dsimp only
      (rename Fr _ _ _ _ => F9)
      (rename News _ _ _ _ => N9)
      rw [sl_to hd0 hd1, sl_from hd0] at N9
      rw [spl_yes hd hs0 b47.2 hk1 hc ne] at hR
      have hD := N9 _ (.head _)
      exact hR _ _ _ _ _ (nil_none k1 hD.2.2) (fun a o e => F9.keep _ _ (k1 a o e List.not_mem_nil)) hD.1
    · (rename ((Txt.item _ _ != _) = false) => hq)
      rw [dot_strL] at hq
      have hdot := item_is (d := 46) hk0 hk2 (by simpa using hq)
      show TEnd _ _ _ _ _ _
      (rename Fr _ _ _ _ => F9)
      (rename News _ _ _ _ => N9)
      refine' TEnd.intro F9 N9 ⟨_, ?a1, rfl, ?a2⟩ ?b1 ?b2 ?b3
      case a1 =>
        refine funext fun y => ?_
        by_cases hq0 : y = Str.ofString "k"
        · subst hq0; with_unfolding_all rfl
        simp only [if_neg hq0]
      case b1 => exact fun p hp => absurd hp List.not_mem_nil
      case b2 => exact fun p hp => hp
      case b3 => exact hoff
      case a2 =>
        intro j hj
        rcases Nat.lt_succ_iff_lt_or_eq.mp hj with hj | rfl
        · exact ha j hj
        · rw [← hdot]
          congr 1
          (first | k_extra "O" | omega)
  · rintro _ _ h tk ⟨kv, rfl, rfl, ha⟩ F N
    dsimp only
    (try k_fold)
    walk_at "ks"
    (rename Fr _ _ _ _ => F9)
    (rename News _ _ _ _ => N9)
    (try (k_unfold; dsimp only))
    rw [spl_no hd hs0 b47.2 ha] at hR
    rw [nil_strL] at N9
    have hD := N9 _ (.head _)
    exact hR _ _ _ _ _ (nil_none k1 hD.2.2) (fun a o e => F9.keep _ _ (k1 a o e List.not_mem_nil)) hD.1
end
theorem zw_X1_8 : True := by
  k_with_none
  k_with "O" => first | decide | ((with_reducible refine rmk (by assumption) ?_); rfl) | ((with_reducible refine rm0 (by assumption) ?_); rfl) | ((with_reducible refine lel (by assumption) ?_); rfl) | ((with_reducible refine llt (by assumption) ?_); rfl) | ((with_reducible refine ltt (by assumption) ?_); rfl) | ((with_reducible refine ltl (by assumption) ?_); rfl) | ((with_reducible refine ilt (by assumption) ?_); rfl) | (with_reducible exact rmz (by assumption)) | (with_reducible assumption)
  exact True.intro
theorem splitext_K {w : World} {mean : ExcName → Option Value} {mg mb : Str → Option Value} {dp un : Nat} {fr : Option (List Env)} {gd : Option (List Code)} {E : Value → Shared → Prop} {s : Shared} {h₀ : Heap} {L : Addr} {m : Str → Option Value} {news : List (Addr × Obj)} {Q : Value → Shared → Prop} {x : Str} {t : Tok}
    (F : Fr h₀ L s.heap m) (X₀ : (Mine.hh.heap_1_39 w.params).In h₀) (N : News h₀ L s.heap news) (T : Top Mine.hh.view_1_40 (looseW Mine.hh.view_1_40 [Str.ofString "PyFATException", Str.ofString "errno", Str.ofString "EightDotThree"]) mean mg mb h₀) (hroom : dp + 5 < recursionLimit) (hx : x.length ≤ 20)
    (h : ∀ h' (D : Addr) t1 t2 tk (r e : Str), splitL x.cps.toList = (r.cps.toList, e.cps.toList) → r.length ≤ x.length → e.length ≤ x.length → Fr h₀ L h' m → News h₀ L h' ((D, tup2 (.str r t1) (.str e t2)) :: news) → (∀ p ∈ news, p.1 ≠ D) → Q (.ref D) { s with heap := h', toks := tk }) :
    wpAny (model PySem.Challenge.rw_kj0039_01.row.prog w) { handled := none, depth := dp, frames := fr, guards := gd, units := un } (call (.ref 97) [.str x t]) Q E s := by
  refine wpAny_call (splitext_code (t := t) F.keep X₀ T (fun p hp => absurd hp List.not_mem_nil) hroom hx fun h' D t1 t2 tk a1 a2 a3 => ?_)
  obtain ⟨F', N', ne⟩ := fresh_K F N a2 a1 a3
  obtain ⟨b1, b2⟩ := splitL_len x.cps.toList
  rw [← len_toList] at b1 b2
  exact h h' D t1 t2 tk _ _ rfl (by rw [strL_len]; exact b1) (by rw [strL_len]; exact b2) F' N' ne
end Mine
namespace Mine
theorem zr_X2 : True := by
  w_top off
  k_with_none
  k_with "O" => first | decide | ((with_reducible refine rmk (by assumption) ?_); rfl) | ((with_reducible refine rm0 (by assumption) ?_); rfl) | ((with_reducible refine lel (by assumption) ?_); rfl) | ((with_reducible refine llt (by assumption) ?_); rfl) | ((with_reducible refine ltt (by assumption) ?_); rfl) | ((with_reducible refine ltl (by assumption) ?_); rfl) | ((with_reducible refine ilt (by assumption) ?_); rfl) | (with_reducible exact rmz (by assumption)) | (with_reducible assumption)
  exact True.intro
open PySem.Calls
section
variable {w : World} {A : Around} {E : Value → Shared → Prop} {s : Shared} {mg mb : Str → Option Value} {mean : ExcName → Option Value} {h₀ : Heap} {L : Addr} {m : Str → Option Value} {p : Program} {loose : List Str} {K : Frag} {env : Env}
theorem bi_comp_K {scope : Scope} {x f : Str} {id : String} {p1 p2 p3 px pos : Pos} {iter : Expr} {Q : Value → Shared → Prop} (F : Value → Value → Prop) (_F : Fr h₀ L s.heap m) (X₀ : K.In h₀) (T : Top p loose mean mg mb h₀)
    (e1 : nsIn K mainGlobals f = some none) (e2 : bootBuiltins f = some (.builtin id)) (e3 : f ≠ "__name__")
    (hfree : ∀ y ∈ scope.names, y.2 ≠ .free) (hcell : ∀ y ∈ scope.names, y.2 ≠ .cell) (hk : scope.kind = .function)
    (hnames : ∀ y ∈ scope.names, y.2 = .local → scope.names.lookup y.1 = some .local) (hx : scope.names.lookup x = some .local) (hf : scope.names.lookup f = some .globalImplicit)
    (hgl : env.globals = mainGlobals) (hbl : env.builtins = builtinsNs)
    (hd : (f == ("__debug__" : Str)) = false) (hd2 : (x == ("__debug__" : Str)) = false) (hs : ∀ x, foldedSetIterable iter env x = pure x)
    (h : wpAny (model PG w) A (eval iter env) (fun xv s₁ => wpAny (model PG w) A (pyIter xv) (BiSrc w A mg mb id F Q) E s₁) E s) :
    wpAny (model PG w) A (eval (.ListComp (.Call (.Name f p1) [.Name x p2] [] p3) [⟨.Name x px, iter, [], 0⟩] scope pos) env) Q E s :=
  bi_comp F hfree hcell hk hnames hx hf hgl hbl (mg_none_of X₀ T.g e1) ((T.builtins _ e3).trans e2) hd hd2 h hs
theorem src_ordL {y : Str} {t : Tok} {news : List (Addr × Obj)} {Q : Value → Shared → Prop} (hh : A.handled = none) (F : Fr h₀ L s.heap m) (N : News h₀ L s.heap news) (T : Top p loose mean mg mb h₀) (hsz : y.length ≤ 1000)
    (h : ∀ D (vs : List Value) n h' tk, Fr h₀ L h' m → News h₀ L h' ((D, listOf vs.toArray n) :: news) → (∀ p ∈ news, p.1 ≠ D) → IntsAre vs (ords y) → Q (.ref D) { s with heap := h', toks := tk }) :
    wpAny (model PG w) A (pyIter (.str y t)) (BiSrc w A mg mb "ord" OrdF Q) E s := src_ord hh F N T (by rw [sizeLine_eq]; have : y.length = y.cps.size := rfl; (first | k_extra "O" | omega)) h
end
section
theorem zw_X2_9 : True := by
  k_with_none
  k_with "O" => first | decide | ((with_reducible refine rmk (by assumption) ?_); rfl) | ((with_reducible refine rm0 (by assumption) ?_); rfl) | ((with_reducible refine lel (by assumption) ?_); rfl) | ((with_reducible refine llt (by assumption) ?_); rfl) | ((with_reducible refine ltt (by assumption) ?_); rfl) | ((with_reducible refine ltl (by assumption) ?_); rfl) | ((with_reducible refine ilt (by assumption) ?_); rfl) | (with_reducible exact rmz (by assumption)) | (with_reducible assumption)
  k_with "ks" => repeat' (first | (k_unfold; (try dsimp only)) | (k_end; wrow_close) | ((fail_if_success (with_reducible show wpAny _ _ (pyIter _) (fun it s₂ => LoopAtV _ _ _ _ _ _ _ _ _ it s₂) _ _)); (first | k_extra "H" | walk1)) | ((fail_if_success (with_reducible show wpAny _ _ (pyIter _) (fun it s₂ => LoopAtV _ _ _ _ _ _ _ _ _ it s₂) _ _)); dsimp only; (first | k_extra "H" | walk1)) | fail "no step")
  k_with "forhere" => (with_reducible show wpAny _ _ (pyIter _) (fun it s₂ => LoopAtV _ _ _ _ _ _ _ _ _ it s₂) _ _)
  k_with "H" => ((with_reducible show wpAny _ _ (exec (Stmt.Assign [Expr.Name _ _] (Expr.ListComp _ _ _ _) _) _) _ _ _); (refine wpAny_Assign_Name ?_ (by with_unfolding_all rfl)))
  k_with "H" => ((with_reducible show wpAny _ _ (eval (Expr.ListComp _ _ _ _) _) _ _ _); (k_here; k_dflt (refine' bi_comp_K (id := "ord") OrdF ?k1 ?k2 ?k3 ?k4 ?k5 ?k6 ?c1 ?c2 ?c3 ?c4 ?c5 ?c6 ?c7 ?c8 ?c9 ?d1 ?d2 ?_; (case k1 => k_asm); (case k2 => k_asm); (case k3 => k_asm); (case k4 => k_is); (case k5 => first | boot_by_name | rfl | kernel_rfl); (case k6 => decide +kernel); (case c1 => decide); (case c2 => decide); (case c3 => rfl); (case c4 => decide); (case c5 => rfl); (case c6 => rfl); (case c7 => rfl); (case c8 => rfl); (case c9 => decide); (case d1 => decide); (case d2 => intro _; rfl))))
  k_with "H" => (k_here; (with_reducible show wpAny _ _ (pyIter _) (BiSrc _ _ _ _ _ _ _) _ _); k_dflt (refine' src_ordL ?k0 ?k1 ?k2 ?k3 ?k4 ?_; (case k0 => rfl); (case k1 => k_asm); (case k2 => k_asm); (case k3 => k_asm); (case k4 => (first | k_extra "O" | omega)); intro _ _ _ _ _ _ _ _ _))
  exact True.intro
set_option maxHeartbeats 4000000 in
theorem encoded_code {w : World} {mean : ExcName → Option Value} {mg mb : Str → Option Value} {dp un : Nat} {fr : Option (List Env)} {gd : Option (List Code)} {R : Result → Shared → Prop} {s : Shared} {h₀ : Heap} {x : Str} {t : Tok}
    (S : ∀ b o, h₀.get? b = some o → s.heap.get? b = some o) (X₀ : (Mine.hh.heap_1_39 w.params).In h₀) (T : Top Mine.hh.view_1_40 (looseW Mine.hh.view_1_40 [Str.ofString "PyFATException", Str.ofString "errno", Str.ofString "EightDotThree"]) mean mg mb h₀)
    (N : ∀ p ∈ ([] : List (Addr × Obj)), s.heap.get? p.1 = some p.2 ∧ h₀.get? p.1 = none)
    (hroom : dp + 5 < recursionLimit) (hx : x.length ≤ 20) (hs : ∀ c ∈ x.cps.toList, c < 256)
    (hR : ∀ h' t1 tk, (∀ a o, s.heap.get? a = some o → h'.get? a = some o) → R (.ok (.ret (.bytes (byteArr (ords x)) t1))) { s with heap := h', toks := tk }) :
    codeAny (model PySem.Challenge.rw_kj0039_01.row.prog w) { handled := none, depth := dp, frames := fr, guards := gd, units := un } (.call (.ref 85) ⟨[.str x t], []⟩) R s := by
  revert X₀; k_fill; intro X₀
  refine' enter (f := 85) (mm := (fun zq => List.lookup zq [(Str.ofString "text", .str x t)])) S X₀ T N ?ho ?hcd ?hr ?hb ?hmm ?hloc ?_ ?c1 ?c2 ?c3 ?c4
  case ho => k_is
  case hcd => k_is
  case hr => show dp < recursionLimit; (first | k_extra "O" | omega)
  case hb => exact BindsTo.of_eq rfl
  case hmm => first | rfl | kernel_rfl | with_unfolding_all rfl
  case hloc => exact locs rfl
  case c1 => exact rfl
  case c2 => exact rfl
  case c3 => exact rfl
  case c4 => decide
  intro g L' h₁ tkA k1 k2 k3 F' N' X' T' k4 k5
  (try dsimp only)
  k_fold
  walk_at "ks"
  (rename IntsAre _ _ => l2)
  (rename Fr _ _ _ _ => F9)
  (rename News _ _ _ _ => N9)
  refine' KBa.make_K F9 N9 (by rfl) (News.isList N9 (by k_mem)) l2 ?inn ?len ?_
  case inn =>
    intro n hn
    obtain ⟨c, hc, rfl⟩ := List.mem_map.mp hn
    have := hs c hc
    (first | k_extra "O" | omega)
  case len => unfold ords; rw [List.length_map, ← len_toList]; (first | k_extra "O" | omega)
  intro h8 t8 k8 F8 N8 _
  dsimp only
  k_unfold
  dsimp only
  exact hR _ _ _ (fun a o e => F8.keep _ _ (k1 a o e List.not_mem_nil))
end
theorem zw_X2_10 : True := by
  k_with_none
  k_with "O" => first | decide | ((with_reducible refine rmk (by assumption) ?_); rfl) | ((with_reducible refine rm0 (by assumption) ?_); rfl) | ((with_reducible refine lel (by assumption) ?_); rfl) | ((with_reducible refine llt (by assumption) ?_); rfl) | ((with_reducible refine ltt (by assumption) ?_); rfl) | ((with_reducible refine ltl (by assumption) ?_); rfl) | ((with_reducible refine ilt (by assumption) ?_); rfl) | (with_reducible exact rmz (by assumption)) | (with_reducible assumption)
  exact True.intro
theorem encoded_K {w : World} {mean : ExcName → Option Value} {mg mb : Str → Option Value} {dp un : Nat} {fr : Option (List Env)} {gd : Option (List Code)} {E : Value → Shared → Prop} {s : Shared} {h₀ : Heap} {L : Addr} {m : Str → Option Value} {news : List (Addr × Obj)} {Q : Value → Shared → Prop} {x : Str} {t : Tok}
    (F : Fr h₀ L s.heap m) (X₀ : (Mine.hh.heap_1_39 w.params).In h₀) (N : News h₀ L s.heap news) (T : Top Mine.hh.view_1_40 (looseW Mine.hh.view_1_40 [Str.ofString "PyFATException", Str.ofString "errno", Str.ofString "EightDotThree"]) mean mg mb h₀) (hroom : dp + 5 < recursionLimit) (hx : x.length ≤ 20) (hs : ∀ c ∈ x.cps.toList, c < 256)
    (h : ∀ h' t1 tk, Fr h₀ L h' m → News h₀ L h' news → Q (.bytes (byteArr (ords x)) t1) { s with heap := h', toks := tk }) :
    wpAny (model PySem.Challenge.rw_kj0039_01.row.prog w) { handled := none, depth := dp, frames := fr, guards := gd, units := un } (call (.ref 85) [.str x t]) Q E s := by
  refine wpAny_call (encoded_code (t := t) F.keep X₀ T (fun p hp => absurd hp List.not_mem_nil) hroom hx hs fun h' t1 tk a1 => ?_)
  exact h h' t1 tk (F.keptAll a1) fun p hp => ⟨a1 _ _ (N p hp).1, (N p hp).2⟩
end Mine
namespace Mine
theorem zr_X3 : True := by
  w_top off
  k_with_none
  k_with "O" => first | decide | ((with_reducible refine rmk (by assumption) ?_); rfl) | ((with_reducible refine rm0 (by assumption) ?_); rfl) | ((with_reducible refine lel (by assumption) ?_); rfl) | ((with_reducible refine llt (by assumption) ?_); rfl) | ((with_reducible refine ltt (by assumption) ?_); rfl) | ((with_reducible refine ltl (by assumption) ?_); rfl) | ((with_reducible refine ilt (by assumption) ?_); rfl) | (with_reducible exact rmz (by assumption)) | (with_reducible assumption)
  exact True.intro
open PySem.Calls
theorem ljust_list (x : Str) (n : Nat) : (Txt.ljust x (n : Int)).cps.toList = x.cps.toList ++ List.replicate (n - x.cps.toList.length) 32 := by
  unfold Txt.ljust
  rw [← len_toList]
  split
  · rename_i h
    rw [show n - x.length = 0 by (first | k_extra "O" | omega)]; simp
  · rename_i h
    show (Array.replicate 0 32 ++ x.cps ++ Array.replicate ((n : Int).toNat - x.length) 32).toList = _
    simp
theorem ljust_len (x : Str) (n : Nat) (h : x.length ≤ 20) (hn : n ≤ 20) : (Txt.ljust x (n : Int)).length ≤ 20 := by
  rw [len_toList, ljust_list]
  rw [len_toList] at h
  simp only [List.length_append, List.length_replicate]
  (first | k_extra "O" | omega)
noncomputable def padT (r e : Str) : Str := Txt.ljust (Txt.strip r) 8 ++ Txt.ljust (Txt.strip (Txt.slice e (some 1) none)) 3
theorem add_pad {prog : Program} {w : World} {A : Around} {E : Value → Shared → Prop} {s : Shared} {r e : Str} {t u : Tok} {Q : Value → Shared → Prop} (h1 : r.length ≤ 20) (h2 : (Txt.slice e (some 1) none).length ≤ e.length) (h3 : e.length ≤ 20)
    (h : ∀ y t' k, y = padT r e → y.length ≤ 40 → Q (.str y t') { s with toks := k }) :
    wpAny (model prog w) A (binaryOp .Add (.str (Txt.ljust (Txt.strip r) 8) t) (.str (Txt.ljust (Txt.strip (Txt.slice e (some 1) none)) 3) u)) Q E s := by
  have a1 := len_strip r
  have a2 := len_strip (Txt.slice e (some 1) none)
  have b1 := ljust_len (Txt.strip r) 8 (by (first | k_extra "O" | omega)) (by (first | k_extra "O" | omega))
  have b2 := ljust_len (Txt.strip (Txt.slice e (some 1) none)) 3 (by (first | k_extra "O" | omega)) (by (first | k_extra "O" | omega))
  refine SBL.add (fun t' k hl => h _ t' k rfl ?_) (by rw [sizeLine_eq]; exact Nat.le_trans (Nat.add_le_add b1 b2) (by (first | k_extra "O" | omega)))
  exact Nat.le_trans hl.2 (Nat.add_le_add b1 b2)
section
theorem zw_X3_11 : True := by
  k_with_none
  k_with "O" => first | decide | ((with_reducible refine rmk (by assumption) ?_); rfl) | ((with_reducible refine rm0 (by assumption) ?_); rfl) | ((with_reducible refine lel (by assumption) ?_); rfl) | ((with_reducible refine llt (by assumption) ?_); rfl) | ((with_reducible refine ltt (by assumption) ?_); rfl) | ((with_reducible refine ltl (by assumption) ?_); rfl) | ((with_reducible refine ilt (by assumption) ?_); rfl) | (with_reducible exact rmz (by assumption)) | (with_reducible assumption)
  k_with "ks" => repeat' (first | (k_unfold; (try dsimp only)) | (k_end; wrow_close) | ((fail_if_success (with_reducible show wpAny _ _ (pyIter _) (fun it s₂ => LoopAtV _ _ _ _ _ _ _ _ _ it s₂) _ _)); (first | k_extra "H" | walk1)) | ((fail_if_success (with_reducible show wpAny _ _ (pyIter _) (fun it s₂ => LoopAtV _ _ _ _ _ _ _ _ _ it s₂) _ _)); dsimp only; (first | k_extra "H" | walk1)) | fail "no step")
  k_with "forhere" => (with_reducible show wpAny _ _ (pyIter _) (fun it s₂ => LoopAtV _ _ _ _ _ _ _ _ _ it s₂) _ _)
  k_with "H" => (k_here; (with_reducible show wpAny _ _ (call (Value.ref 97) _) _ _ _); k_dflt (refine' splitext_K ?k1 ?k2 ?k3 ?k4 ?k5 ?k6 ?_; (case k1 => k_asm); (case k2 => k_asm); (case k3 => k_asm); (case k4 => k_asm); (case k5 => (dsimp only [Around.deeper]; (first | k_extra "O" | omega))); (case k6 => (first | k_extra "O" | omega)); k_whole); intro _ _ _ _ _ _ _ _ _ _ _ _ _)
  k_with "H" => ((with_reducible show wpAny _ _ (binaryOp Operator.Add (Value.str _ _) (Value.str _ _)) _ _ _); (refine' add_pad ?k1 ?k2 ?k3 ?_; (case k1 => (first | k_extra "O" | omega)); (case k2 => assumption); (case k3 => (first | k_extra "O" | omega)); intro _ _ _ _ _))
  exact True.intro
set_option maxHeartbeats 4000000 in
theorem pad_code {w : World} {mean : ExcName → Option Value} {mg mb : Str → Option Value} {dp un : Nat} {fr : Option (List Env)} {gd : Option (List Code)} {R : Result → Shared → Prop} {s : Shared} {h₀ : Heap} {x : Str} {t : Tok}
    (S : ∀ b o, h₀.get? b = some o → s.heap.get? b = some o) (X₀ : (Mine.hh.heap_1_39 w.params).In h₀) (T : Top Mine.hh.view_1_40 (looseW Mine.hh.view_1_40 [Str.ofString "PyFATException", Str.ofString "errno", Str.ofString "EightDotThree"]) mean mg mb h₀)
    (N : ∀ p ∈ ([] : List (Addr × Obj)), s.heap.get? p.1 = some p.2 ∧ h₀.get? p.1 = none)
    (hroom : dp + 10 < recursionLimit) (hx : x.length ≤ 20)
    (hR : ∀ h' t1 tk r e, splitL x.cps.toList = (r.cps.toList, e.cps.toList) → (∀ a o, s.heap.get? a = some o → h'.get? a = some o) → R (.ok (.ret (.str (padT r e) t1))) { s with heap := h', toks := tk }) :
    codeAny (model PySem.Challenge.rw_kj0039_01.row.prog w) { handled := none, depth := dp, frames := fr, guards := gd, units := un } (.call (.ref 207) ⟨[.str x t], []⟩) R s := by
  revert X₀; k_fill; intro X₀
  refine' enter (f := 207) (mm := (fun zq => List.lookup zq [(Str.ofString "name", .str x t)])) S X₀ T N ?ho ?hcd ?hr ?hb ?hmm ?hloc ?_ ?c1 ?c2 ?c3 ?c4
  case ho => k_is
  case hcd => k_is
  case hr => show dp < recursionLimit; (first | k_extra "O" | omega)
  case hb => exact BindsTo.of_eq rfl
  case hmm => first | rfl | kernel_rfl | with_unfolding_all rfl
  case hloc => exact locs rfl
  case c1 => exact rfl
  case c2 => exact rfl
  case c3 => exact rfl
  case c4 => decide
  intro g L' h₁ tkA k1 k2 k3 F' N' X' T' k4 k5
  (try dsimp only)
  k_fold
  walk_at "ks"
  (rename splitL _ = _ => q1)
  (rename _ = padT _ _ => q2)
  (rename Fr _ _ _ _ => F9)
  subst q2
  (try (k_unfold; dsimp only))
  exact hR _ _ _ _ _ q1 (fun a o e => F9.keep _ _ (k1 a o e List.not_mem_nil))
end
theorem zw_X3_12 : True := by
  k_with_none
  k_with "O" => first | decide | ((with_reducible refine rmk (by assumption) ?_); rfl) | ((with_reducible refine rm0 (by assumption) ?_); rfl) | ((with_reducible refine lel (by assumption) ?_); rfl) | ((with_reducible refine llt (by assumption) ?_); rfl) | ((with_reducible refine ltt (by assumption) ?_); rfl) | ((with_reducible refine ltl (by assumption) ?_); rfl) | ((with_reducible refine ilt (by assumption) ?_); rfl) | (with_reducible exact rmz (by assumption)) | (with_reducible assumption)
  exact True.intro
theorem pad_K {w : World} {mean : ExcName → Option Value} {mg mb : Str → Option Value} {dp un : Nat} {fr : Option (List Env)} {gd : Option (List Code)} {E : Value → Shared → Prop} {s : Shared} {h₀ : Heap} {L : Addr} {m : Str → Option Value} {news : List (Addr × Obj)} {Q : Value → Shared → Prop} {x : Str} {t : Tok}
    (F : Fr h₀ L s.heap m) (X₀ : (Mine.hh.heap_1_39 w.params).In h₀) (N : News h₀ L s.heap news) (T : Top Mine.hh.view_1_40 (looseW Mine.hh.view_1_40 [Str.ofString "PyFATException", Str.ofString "errno", Str.ofString "EightDotThree"]) mean mg mb h₀) (hroom : dp + 10 < recursionLimit) (hx : x.length ≤ 20)
    (h : ∀ h' t1 tk r e, splitL x.cps.toList = (r.cps.toList, e.cps.toList) → Fr h₀ L h' m → News h₀ L h' news → Q (.str (padT r e) t1) { s with heap := h', toks := tk }) :
    wpAny (model PySem.Challenge.rw_kj0039_01.row.prog w) { handled := none, depth := dp, frames := fr, guards := gd, units := un } (call (.ref 207) [.str x t]) Q E s := by
  refine wpAny_call (pad_code (t := t) F.keep X₀ T (fun p hp => absurd hp List.not_mem_nil) hroom hx fun h' t1 tk r e a0 a1 => ?_)
  exact h h' t1 tk r e a0 (F.keptAll a1) fun p hp => ⟨a1 _ _ (N p hp).1, (N p hp).2⟩
end Mine
namespace Mine
theorem zr_X4 : True := by
  w_top off
  k_with_none
  k_with "O" => first | decide | ((with_reducible refine rmk (by assumption) ?_); rfl) | ((with_reducible refine rm0 (by assumption) ?_); rfl) | ((with_reducible refine lel (by assumption) ?_); rfl) | ((with_reducible refine llt (by assumption) ?_); rfl) | ((with_reducible refine ltt (by assumption) ?_); rfl) | ((with_reducible refine ltl (by assumption) ?_); rfl) | ((with_reducible refine ilt (by assumption) ?_); rfl) | (with_reducible exact rmz (by assumption)) | (with_reducible assumption)
  exact True.intro
open PySem.Calls
theorem last_snoc (c a : Nat) (l : List Nat) : lastAt c (l ++ [a]) = if a = c then (l.length : Int) else lastAt c l := by
  by_cases h : a = c
  · rw [if_pos h]
    subst h
    unfold lastAt
    rw [last_uniq (n := l.length) (by simp) (fun j hj => by rw [List.getElem?_eq_none (by simp; (first | k_extra "O" | omega))]; simp)]
    simp
  · rw [if_neg h]
    unfold lastAt
    cases e : cut c l with
    | none =>
      rw [cut_none.mpr (by simp only [List.mem_append, List.mem_singleton, not_or]; exact ⟨cut_none.mp e, Ne.symm h⟩)]
    | some pq =>
      obtain ⟨p, q⟩ := pq
      obtain ⟨e1, e2⟩ := cut_some e
      rw [last_uniq (n := p.length) (by rw [e1]; simp) (fun j hj hc => ?_)]
      · rw [e1]; simp
      · rw [e1] at hc
        obtain ⟨k, rfl⟩ : ∃ k, j = p.length + (k + 1) := ⟨j - p.length - 1, by (first | k_extra "O" | omega)⟩
        rw [List.append_assoc, List.getElem?_append_right (by (first | k_extra "O" | omega)), Nat.add_sub_cancel_left, List.cons_append, List.getElem?_cons_succ] at hc
        rcases List.mem_append.mp (List.mem_of_getElem? hc) with m | m
        · exact e2 m
        · exact h (List.mem_singleton.mp m).symm
theorem canLay_strs : ∀ l : List Str, (∀ s ∈ l, PyData.strOk s = true) → PyData.canLayAll0 (l.map PyData.str) = true
  | [], _ => rfl
  | a :: r, h => by simp [PyData.canLayAll0, PyData.canLay0, canLay_strs r fun s hs => h s (.tail _ hs), h a (.head _)]
theorem depth_strs : ∀ l : List Str, PyData.depthAll (l.map PyData.str) = 0
  | [] => rfl
  | _ :: r => by simp [PyData.depthAll, PyData.depth, depth_strs r]
theorem shaped_strs (l : List Str) (h : ∀ s ∈ l, PyData.strOk s = true) : SeqAt.shaped (.list (l.map PyData.str)) = true := by
  simp [SeqAt.shaped, PyData.canLay0, PyData.depth, canLay_strs l h, depth_strs]
theorem eq_strs_nil {prog : Program} {w : World} {A : Around} {E : Value → Shared → Prop} {s : Shared} {a b : Addr} {ys : List Value} {l : List Str} {Q : Value → Shared → Prop} (ha : s.heap.IsList a ys.toArray) (hc : CarriedAll ys (l.map PyData.str)) (hb : s.heap.IsList b #[]) (hu : A.units + 64 < cLine) (hok : ∀ s ∈ l, PyData.strOk s = true)
    (h : ∀ q, (q = true → l = []) → (q = false → l ≠ []) → Q (.bool q) s) : wpAny (model prog w) A (compareOp .Eq (.ref a) (.ref b)) Q E s := by
  refine PyProof.Rows.eq_dataH_same (reads_newData ha hc) (reads_newData (ys := []) (ds := []) hb .nil) (shaped_strs l hok) (shaped_strs [] fun _ h => absurd h List.not_mem_nil) hu ?_ ?_
  · cases l <;> simp [SeqAt.noMix, SeqAt.noMixAll]
  · refine h _ (fun q => ?_) (fun q => ?_)
    · cases l
      · rfl
      · simp [PySem.Spec.same, PySem.Spec.sameAll] at q
    · cases l
      · simp [PySem.Spec.same, PySem.Spec.sameAll] at q
      · simp
theorem alph_ok : ∀ c ∈ alph, c < 0x110000 := by decide +kernel
theorem strOk_cut {x : Str} {j : Int} {f : Str → Bool} (hal : ∀ c ∈ x.cps.toList, c ∈ alph) (h0 : 0 ≤ j) (h1 : j ≤ (x.length : Int)) : ∀ s ∈ List.filter f (PyProof.Rows.signs (Txt.slice x none (some j))), PyData.strOk s = true := by
  intro s hs
  have hs := (List.mem_filter.mp hs).1
  rw [sl_to h0 h1] at hs
  obtain ⟨c, hc, rfl⟩ := List.mem_map.mp hs
  have := alph_ok c (hal c (List.mem_of_mem_take hc))
  simp [PyData.strOk, this]
noncomputable def partsL (l : List Nat) : List Nat × List Nat := match cut 46 l with
  | none => (l, [])
  | some (p, q) => if p.any (· != 46) then (p, q) else (l, [])
theorem filt_dot {l : List Nat} : List.filter (fun a => a != Str.ofString ".") (PyProof.Rows.signs (strL l)) = [] ↔ ∀ c ∈ l, c = 46 := by
  rw [dot_strL]
  show List.filter _ (l.map _) = [] ↔ _
  rw [List.filter_eq_nil_iff]
  constructor
  · intro h c hc
    have := h _ (List.mem_map_of_mem hc)
    simp only [bne_iff_ne, ne_eq, Decidable.not_not] at this
    exact sign_inj this
  · intro h a ha
    obtain ⟨c, hc, rfl⟩ := List.mem_map.mp ha
    rw [h c hc]
    simp [strL]
theorem parts_no {x : Str} {d : Int} (hd : d = lastAt 46 x.cps.toList) (h : List.filter (fun a => a != Str.ofString ".") (PyProof.Rows.signs (Txt.slice x none (some (if 0 > d then 0 else d)))) = []) : partsL x.cps.toList = (x.cps.toList, []) := by
  unfold partsL
  cases e : cut 46 x.cps.toList with
  | none => rfl
  | some pq =>
    obtain ⟨p, q⟩ := pq
    obtain ⟨e1, e2, e3⟩ := cut_at e hd.symm
    have hl := (last_lt 46 x.cps.toList).1
    rw [← hd, ← len_toList] at hl
    rw [if_neg (by (first | k_extra "O" | omega)), sl_to (by (first | k_extra "O" | omega)) (by (first | k_extra "O" | omega)), ← e2, filt_dot] at h
    dsimp only
    rw [if_neg]
    rw [List.any_eq_true]
    rintro ⟨c, hc, n⟩
    rw [h c hc] at n
    simp at n
theorem parts_yes {x : Str} {d : Int} (hd : d = lastAt 46 x.cps.toList) (h : List.filter (fun a => a != Str.ofString ".") (PyProof.Rows.signs (Txt.slice x none (some (if 0 > d then 0 else d)))) ≠ []) : 0 ≤ d ∧ d + 1 ≤ (x.length : Int) ∧ partsL x.cps.toList = (x.cps.toList.take d.toNat, x.cps.toList.drop (d + 1).toNat) := by
  have hl := (last_lt 46 x.cps.toList).1
  rw [← hd, ← len_toList] at hl
  cases e : cut 46 x.cps.toList with
  | none =>
    have e1 : d = -1 := by rw [hd]; unfold lastAt; rw [e]
    subst e1
    rw [if_pos (by (first | k_extra "O" | omega)), sl_to (by (first | k_extra "O" | omega)) (by (first | k_extra "O" | omega))] at h
    exact absurd (filt_dot.mpr (fun c hc => by simp at hc)) h
  | some pq =>
    obtain ⟨p, q⟩ := pq
    obtain ⟨e1, e2, e3⟩ := cut_at e hd.symm
    rw [if_neg (by (first | k_extra "O" | omega)), sl_to (by (first | k_extra "O" | omega)) (by (first | k_extra "O" | omega)), ← e2, ne_eq, filt_dot] at h
    refine ⟨by (first | k_extra "O" | omega), by (first | k_extra "O" | omega), ?_⟩
    unfold partsL
    rw [e]
    dsimp only
    rw [if_pos, ← e2]
    · have : (d + 1).toNat = d.toNat + 1 := by (first | k_extra "O" | omega)
      rw [this, ← List.drop_drop, ← e3]
      rfl
    · rw [List.any_eq_true]
      refine Classical.byContradiction fun hn => h fun c hc => Classical.byContradiction fun g => hn ⟨c, hc, by simpa using g⟩
theorem max0_bd {d : Int} {n : Nat} (h : d < (n : Int) ∧ -1 ≤ d) : 0 ≤ (if 0 > d then 0 else d) ∧ (if 0 > d then 0 else d) ≤ (n : Int) := by
  split <;> (first | k_extra "O" | omega)
theorem take_snoc {x : Str} {i c : Nat} (h : x.cps.toList[i]? = some c) : x.cps.toList.take (i + 1) = x.cps.toList.take i ++ [c] := by
  rw [List.take_add_one, h]; rfl
section
theorem zw_X4_13 : True := by
  k_with_none
  k_with "O" => first | decide | ((with_reducible refine rmk (by assumption) ?_); rfl) | ((with_reducible refine rm0 (by assumption) ?_); rfl) | ((with_reducible refine lel (by assumption) ?_); rfl) | ((with_reducible refine llt (by assumption) ?_); rfl) | ((with_reducible refine ltt (by assumption) ?_); rfl) | ((with_reducible refine ltl (by assumption) ?_); rfl) | ((with_reducible refine ilt (by assumption) ?_); rfl) | (with_reducible exact rmz (by assumption)) | (with_reducible assumption)
  k_with "ks" => repeat' (first | (k_unfold; (try dsimp only)) | (k_end; wrow_close) | ((fail_if_success (with_reducible show wpAny _ _ (pyIter _) (fun it s₂ => LoopAtV _ _ _ _ _ _ _ _ _ it s₂) _ _)); (first | k_extra "H" | walk1)) | ((fail_if_success (with_reducible show wpAny _ _ (pyIter _) (fun it s₂ => LoopAtV _ _ _ _ _ _ _ _ _ it s₂) _ _)); dsimp only; (first | k_extra "H" | walk1)) | fail "no step")
  k_with "forhere" => (with_reducible show wpAny _ _ (pyIter _) (fun it s₂ => LoopAtV _ _ _ _ _ _ _ _ _ it s₂) _ _)
  k_with "H" => ((with_reducible show wpAny _ _ (compareOp CmpOp.Eq (Value.ref _) (Value.ref _)) _ _ _); (k_here; k_dflt (refine' eq_strs_nil ?k1 ?k2 ?k3 ?k4 ?k5 ?_; (case k2 => assumption); (case k1 => exact News.isList (by assumption) (by k_mem)); (case k3 => exact News.isList (by assumption) (.head _)); (case k4 => (dsimp only [Around.deeper]; (first | k_extra "O" | omega))); (case k5 => (apply strOk_cut; assumption)); intro _ _ _)))
  exact True.intro
set_option maxHeartbeats 4000000 in
theorem parts_code {w : World} {mean : ExcName → Option Value} {mg mb : Str → Option Value} {dp un : Nat} {fr : Option (List Env)} {gd : Option (List Code)} {R : Result → Shared → Prop} {s : Shared} {h₀ : Heap} {x : Str} {t : Tok}
    (S : ∀ b o, h₀.get? b = some o → s.heap.get? b = some o) (X₀ : (Mine.hh.heap_1_39 w.params).In h₀) (T : Top Mine.hh.view_1_40 (looseW Mine.hh.view_1_40 [Str.ofString "PyFATException", Str.ofString "errno", Str.ofString "EightDotThree"]) mean mg mb h₀)
    (N : ∀ p ∈ ([] : List (Addr × Obj)), s.heap.get? p.1 = some p.2 ∧ h₀.get? p.1 = none)
    (hroom : dp + 5 < recursionLimit) (hx : x.length ≤ 20) (hal : ∀ c ∈ x.cps.toList, c ∈ alph) (hun : un + 70 < cLine)
    (hR : ∀ h' (D : Addr) t1 t2 tk (r e : Str), partsL x.cps.toList = (r.cps.toList, e.cps.toList) → s.heap.get? D = none → (∀ a o, s.heap.get? a = some o → h'.get? a = some o) → h'.get? D = some (tup2 (.str r t1) (.str e t2)) → R (.ok (.ret (.ref D))) { s with heap := h', toks := tk }) :
    codeAny (model PySem.Challenge.rw_kj0039_01.row.prog w) { handled := none, depth := dp, frames := fr, guards := gd, units := un } (.call (.ref 260) ⟨[.str x t], []⟩) R s := by
  revert X₀; k_fill; intro X₀
  refine' enter (f := 260) (mm := (fun zq => List.lookup zq [(Str.ofString "text", .str x t)])) S X₀ T N ?ho ?hcd ?hr ?hb ?hmm ?hloc ?_ ?c1 ?c2 ?c3 ?c4
  case ho => k_is
  case hcd => k_is
  case hr => show dp < recursionLimit; (first | k_extra "O" | omega)
  case hb => exact BindsTo.of_eq rfl
  case hmm => first | rfl | kernel_rfl | with_unfolding_all rfl
  case hloc => exact locs rfl
  case c1 => exact rfl
  case c2 => exact rfl
  case c3 => exact rfl
  case c4 => decide
  intro g L' h₁ tkA k1 k2 k3 F' N' X' T' k4 k5
  (try dsimp only)
  k_fold
  walk_at "ks"
  (rename IsRange _ _ _ _ _ _ _ _ => rgX)
  (rename Fr _ _ _ _ => lF')
  (rename News _ _ _ _ => lN')
  refine' for_rangeAB (n := x.length) (fun m₀ led i m nx => ∃ (kv : Option Value) (d : Int) (dt : Tok), m = (fun y => if y = Str.ofString "k" then kv else if y = Str.ofString "dot" then some (.int d dt) else m₀ y) ∧ nx = [] ∧ d = lastAt 46 (x.cps.toList.take i)) lF' lN' rgX ?k2 ?k2a ?k3 ?k4 ?k5 ?_ ?_
  case k2 => exact rfl
  case k2a => (first | k_extra "O" | omega)
  case k3 => (first | k_extra "O" | omega)
  case k4 => (first | k_extra "O" | omega)
  case k5 =>
    refine' ⟨none, -1, _, ?m, rfl, rfl⟩
    case m =>
      refine funext fun y => ?_
      by_cases hq0 : y = Str.ofString "k"
      · subst hq0; with_unfolding_all rfl
      by_cases hq1 : y = Str.ofString "dot"
      · subst hq1; with_unfolding_all rfl
      simp only [if_neg hq0, if_neg hq1]
  · rintro i t' _ _ h tk own hi ⟨kv, d, dt, rfl, rfl, hd⟩ hoff F N
    dsimp only
    k_fold
    have hk0 : (0 : Int) ≤ (0 : Int) + (i : Int) := by (first | k_extra "O" | omega)
    have hk2 : (0 : Int) + (i : Int) < (x.length : Int) := by (first | k_extra "O" | omega)
    walk_at "ks"
    all_goals (
      show TEnd _ _ _ _ _ _
      (rename Fr _ _ _ _ => F9)
      (rename News _ _ _ _ => N9)
      (rename ((Txt.item _ _ == _) = _) => hq)
      rw [dot_strL] at hq
      refine' TEnd.intro F9 N9 ⟨_, _, _, ?a1, rfl, ?a2⟩ ?b1 ?b2 ?b3
      case a1 =>
        refine funext fun y => ?_
        by_cases hq0 : y = Str.ofString "k"
        · subst hq0; with_unfolding_all rfl
        by_cases hq1 : y = Str.ofString "dot"
        · subst hq1; with_unfolding_all rfl
        simp only [if_neg hq0, if_neg hq1]
      case b1 => exact fun p hp => absurd hp List.not_mem_nil
      case b2 => exact fun p hp => hp
      case b3 => exact hoff
      case a2 =>
        first
          | (have hdot := item_is (d := 46) hk0 hk2 hq
             rw [show ((0 : Int) + (i : Int)).toNat = i by (first | k_extra "O" | omega)] at hdot
             rw [take_snoc hdot, last_snoc, if_pos rfl, List.length_take, ← len_toList]
             (first | k_extra "O" | omega))
          | (obtain ⟨c, hc, ne⟩ := item_not (d := 46) hk0 hk2 hq
             rw [show ((0 : Int) + (i : Int)).toNat = i by (first | k_extra "O" | omega)] at hc
             rw [take_snoc hc, last_snoc, if_neg ne]
             exact hd))
  · rintro _ _ h tk ⟨kv, d, dt, rfl, rfl, hd⟩ F N
    dsimp only
    (try k_fold)
    have b46 := last_lt 46 x.cps.toList
    rw [← len_toList] at b46
    rw [List.take_of_length_le (by rw [← len_toList]; (first | k_extra "O" | omega))] at hd
    rw [← hd] at b46
    walk_at "ks"
    refine' eq_strs_nil ?k1 ?k2 ?k3 ?k4 ?k5 ?_
    (case k2 => assumption)
    (case k1 => exact News.isList (by assumption) (by k_mem))
    (case k3 => exact News.isList (by assumption) (.head _))
    (case k4 => (dsimp only [Around.deeper]; (first | k_extra "O" | omega)))
    (case k5 => exact strOk_cut hal (max0_bd b46).1 (max0_bd b46).2)
    intro q1 q2 q3
    cases q1
    · obtain ⟨w1, w2, w3⟩ := parts_yes hd (q3 rfl)
      walk_at "ks"
      (rename Fr _ _ _ _ => F9)
      (rename News _ _ _ _ => N9)
      have g1 : d ≤ (x.length : Int) := Int.le_trans (Int.le_add_one (Int.le_refl d)) w2
      have g2 : 0 ≤ d + 1 := Int.le_add_one w1
      rw [sl_to w1 g1, sl_from g2] at N9
      have hD := N9 _ (.head _)
      (try (k_unfold; dsimp only))
      exact hR _ _ _ _ _ _ _ w3 (nil_none k1 hD.2.2) (fun a o e => F9.keep _ _ (k1 a o e List.not_mem_nil)) hD.1
    · have w3 := parts_no hd (q2 rfl)
      walk_at "ks"
      (rename Fr _ _ _ _ => F9)
      (rename News _ _ _ _ => N9)
      have hD := N9 _ (.head _)
      (try (k_unfold; dsimp only))
      exact hR _ _ _ _ _ _ _ w3 (nil_none k1 hD.2.2) (fun a o e => F9.keep _ _ (k1 a o e List.not_mem_nil)) hD.1
end
theorem zw_X4_14 : True := by
  k_with_none
  k_with "O" => first | decide | ((with_reducible refine rmk (by assumption) ?_); rfl) | ((with_reducible refine rm0 (by assumption) ?_); rfl) | ((with_reducible refine lel (by assumption) ?_); rfl) | ((with_reducible refine llt (by assumption) ?_); rfl) | ((with_reducible refine ltt (by assumption) ?_); rfl) | ((with_reducible refine ltl (by assumption) ?_); rfl) | ((with_reducible refine ilt (by assumption) ?_); rfl) | (with_reducible exact rmz (by assumption)) | (with_reducible assumption)
  exact True.intro
theorem partsL_len (l : List Nat) : (partsL l).1.length + (partsL l).2.length ≤ l.length := by
  unfold partsL
  cases h : cut 46 l with
  | none => simp
  | some pq =>
    obtain ⟨p, q⟩ := pq
    obtain ⟨e, _⟩ := cut_some h
    dsimp only
    split
    · rw [e]; simp only [List.length_append, List.length_cons]; (first | k_extra "O" | omega)
    · simp
theorem parts_K {w : World} {mean : ExcName → Option Value} {mg mb : Str → Option Value} {dp un : Nat} {fr : Option (List Env)} {gd : Option (List Code)} {E : Value → Shared → Prop} {s : Shared} {h₀ : Heap} {L : Addr} {m : Str → Option Value} {news : List (Addr × Obj)} {Q : Value → Shared → Prop} {x : Str} {t : Tok}
    (F : Fr h₀ L s.heap m) (X₀ : (Mine.hh.heap_1_39 w.params).In h₀) (N : News h₀ L s.heap news) (T : Top Mine.hh.view_1_40 (looseW Mine.hh.view_1_40 [Str.ofString "PyFATException", Str.ofString "errno", Str.ofString "EightDotThree"]) mean mg mb h₀) (hroom : dp + 5 < recursionLimit) (hx : x.length ≤ 20) (hal : ∀ c ∈ x.cps.toList, c ∈ alph) (hun : un + 70 < cLine)
    (h : ∀ h' (D : Addr) t1 t2 tk (r e : Str), partsL x.cps.toList = (r.cps.toList, e.cps.toList) → r.length + e.length ≤ x.length → Fr h₀ L h' m → News h₀ L h' ((D, tup2 (.str r t1) (.str e t2)) :: news) → (∀ p ∈ news, p.1 ≠ D) → Q (.ref D) { s with heap := h', toks := tk }) :
    wpAny (model PySem.Challenge.rw_kj0039_01.row.prog w) { handled := none, depth := dp, frames := fr, guards := gd, units := un } (call (.ref 260) [.str x t]) Q E s := by
  refine wpAny_call (parts_code (t := t) F.keep X₀ T (fun p hp => absurd hp List.not_mem_nil) hroom hx hal hun fun h' D t1 t2 tk r e a0 a1 a2 a3 => ?_)
  obtain ⟨F', N', ne⟩ := fresh_K F N a2 a1 a3
  have := partsL_len x.cps.toList
  rw [a0, ← len_toList, ← len_toList, ← len_toList] at this
  exact h h' D t1 t2 tk r e a0 this F' N' ne
end Mine
namespace Mine
theorem zr_X5 : True := by
  w_top off
  k_with_none
  k_with "O" => first | decide | ((with_reducible refine rmk (by assumption) ?_); rfl) | ((with_reducible refine rm0 (by assumption) ?_); rfl) | ((with_reducible refine lel (by assumption) ?_); rfl) | ((with_reducible refine llt (by assumption) ?_); rfl) | ((with_reducible refine ltt (by assumption) ?_); rfl) | ((with_reducible refine ltl (by assumption) ?_); rfl) | ((with_reducible refine ilt (by assumption) ?_); rfl) | (with_reducible exact rmz (by assumption)) | (with_reducible assumption)
  exact True.intro
open PySem.Calls
theorem alph_up : ∀ c ∈ alph, Builtin.Str.tooLong (Txt.upper ⟨#[c]⟩).length = false := by decide +kernel
theorem partsL_mem (l : List Nat) : ∀ c, c ∈ (partsL l).1 ∨ c ∈ (partsL l).2 → c ∈ l := by
  intro c
  unfold partsL
  cases h : cut 46 l with
  | none => simp
  | some pq =>
    obtain ⟨p, q⟩ := pq
    obtain ⟨e, _⟩ := cut_some h
    dsimp only
    split
    · rw [e]
      rintro (m | m)
      · exact List.mem_append_left _ m
      · exact List.mem_append_right _ (.tail _ m)
    · simp
noncomputable def okC (c : Nat) : Bool := decide (c ≤ 255) && (Txt.upper ⟨#[c]⟩ == ⟨#[c]⟩) && (Builtin.Str.occurrences "\"*+,./:;<=>?[]|" ⟨#[c]⟩ 0 (PySem.Str.length "\"*+,./:;<=>?[]|") 1).isEmpty && decide (c ≠ 92)
noncomputable def conformB (l : List Nat) : Bool := decide ((partsL l).1.length ≤ 8) && decide ((partsL l).2.length ≤ 3) && ((partsL l).1 ++ (partsL l).2).all okC
theorem conf_f1 {l r e : List Nat} (h : partsL l = (r, e)) (g : 8 < (r.length : Int) ∨ 3 < (e.length : Int) ∨ ∃ (i c : Nat), (r ++ e)[i]? = some c ∧ okC c = false) : conformB l = false := by
  unfold conformB
  rw [h]
  rcases g with g | g | ⟨i, c, hc, g⟩
  · rw [show decide (r.length ≤ 8) = false by simp; (first | k_extra "O" | omega)]; rfl
  · rw [show decide (e.length ≤ 3) = false by simp; (first | k_extra "O" | omega)]; simp
  · rw [show (r ++ e).all okC = false from List.all_eq_false.mpr ⟨c, List.mem_of_getElem? hc, by simp [g]⟩]; simp
theorem conf_t {l r e : List Nat} (h : partsL l = (r, e)) (g1 : ¬ 8 < (r.length : Int)) (g2 : ¬ 3 < (e.length : Int)) (g : ∀ j < (r ++ e).length, ∃ c : Nat, (r ++ e)[j]? = some c ∧ okC c = true) : conformB l = true := by
  unfold conformB
  rw [h]
  dsimp only
  rw [show decide (r.length ≤ 8) = true by simp; (first | k_extra "O" | omega), show decide (e.length ≤ 3) = true by simp; (first | k_extra "O" | omega)]
  rw [Bool.true_and, Bool.true_and, List.all_eq_true]
  intro c hc
  obtain ⟨j, hj⟩ := List.mem_iff_getElem?.mp hc
  obtain ⟨c', hc', ok⟩ := g j (List.getElem?_eq_some_iff.mp hj).1
  rw [hj] at hc'
  cases hc'
  exact ok
section
theorem zw_X5_15 : True := by
  k_with_none
  k_with "O" => first | decide | ((with_reducible refine rmk (by assumption) ?_); rfl) | ((with_reducible refine rm0 (by assumption) ?_); rfl) | ((with_reducible refine lel (by assumption) ?_); rfl) | ((with_reducible refine llt (by assumption) ?_); rfl) | ((with_reducible refine ltt (by assumption) ?_); rfl) | ((with_reducible refine ltl (by assumption) ?_); rfl) | ((with_reducible refine ilt (by assumption) ?_); rfl) | (with_reducible exact rmz (by assumption)) | (with_reducible assumption)
  k_with "ks" => repeat' (first | (k_unfold; (try dsimp only)) | (k_end; wrow_close) | ((fail_if_success (with_reducible show wpAny _ _ (pyIter _) (fun it s₂ => LoopAtV _ _ _ _ _ _ _ _ _ it s₂) _ _)); (first | k_extra "H" | walk1)) | ((fail_if_success (with_reducible show wpAny _ _ (pyIter _) (fun it s₂ => LoopAtV _ _ _ _ _ _ _ _ _ it s₂) _ _)); dsimp only; (first | k_extra "H" | walk1)) | fail "no step")
  k_with "forhere" => (with_reducible show wpAny _ _ (pyIter _) (fun it s₂ => LoopAtV _ _ _ _ _ _ _ _ _ it s₂) _ _)
  k_with "H" => ((with_reducible show wpAny _ _ (exec (Stmt.For (Expr.Name _ _) _ _ [] _) _) _ _ _); with_unfolding_all ((rename Fr _ _ _ _ => zzF); (refine For_invVF zzF (by rfl) (by rfl) ?_)))
  k_with "H" => (k_here; (with_reducible show wpAny _ _ (call (Value.ref 260) _) _ _ _); k_dflt (refine' parts_K ?k1 ?k2 ?k3 ?k4 ?k5 ?k6 ?k7 ?k8 ?_; (case k1 => k_asm); (case k2 => k_asm); (case k3 => k_asm); (case k4 => k_asm); (case k5 => (dsimp only [Around.deeper]; (first | k_extra "O" | omega))); (case k6 => (first | k_extra "O" | omega)); (case k7 => assumption); (case k8 => (dsimp only [Around.deeper]; (first | k_extra "O" | omega))); k_whole); intro _ _ _ _ _ _ _ _ _ _ _ _)
  k_with "H" => ((with_reducible show wpAny _ _ (call (Value.builtin "str.upper") _) _ _ _); (refine SC.upper (alph_up _ (by assumption)) ?_))
  exact True.intro
set_option maxHeartbeats 4000000 in
theorem conform_code {w : World} {mean : ExcName → Option Value} {mg mb : Str → Option Value} {dp un : Nat} {fr : Option (List Env)} {gd : Option (List Code)} {R : Result → Shared → Prop} {s : Shared} {h₀ : Heap} {x : Str} {t : Tok}
    (S : ∀ b o, h₀.get? b = some o → s.heap.get? b = some o) (X₀ : (Mine.hh.heap_1_39 w.params).In h₀) (T : Top Mine.hh.view_1_40 (looseW Mine.hh.view_1_40 [Str.ofString "PyFATException", Str.ofString "errno", Str.ofString "EightDotThree"]) mean mg mb h₀)
    (N : ∀ p ∈ ([] : List (Addr × Obj)), s.heap.get? p.1 = some p.2 ∧ h₀.get? p.1 = none)
    (hroom : dp + 10 < recursionLimit) (hx : x.length ≤ 20) (hal : ∀ c ∈ x.cps.toList, c ∈ alph) (hun : un + 80 < cLine)
    (hR : ∀ h' tk, (∀ a o, s.heap.get? a = some o → h'.get? a = some o) → R (.ok (.ret (.bool (conformB x.cps.toList)))) { s with heap := h', toks := tk }) :
    codeAny (model PySem.Challenge.rw_kj0039_01.row.prog w) { handled := none, depth := dp, frames := fr, guards := gd, units := un } (.call (.ref 267) ⟨[.str x t], []⟩) R s := by
  revert X₀; k_fill; intro X₀
  refine' enter (f := 267) (mm := (fun zq => List.lookup zq [(Str.ofString "text", .str x t)])) S X₀ T N ?ho ?hcd ?hr ?hb ?hmm ?hloc ?_ ?c1 ?c2 ?c3 ?c4
  case ho => k_is
  case hcd => k_is
  case hr => show dp < recursionLimit; (first | k_extra "O" | omega)
  case hb => exact BindsTo.of_eq rfl
  case hmm => first | rfl | kernel_rfl | with_unfolding_all rfl
  case hloc => exact locs rfl
  case c1 => exact rfl
  case c2 => exact rfl
  case c3 => exact rfl
  case c4 => decide
  intro g L' h₁ tkA k1 k2 k3 F' N' X' T' k4 k5
  (try dsimp only)
  k_fold
  walk_at "ks"
  · (rename partsL _ = _ => q1)
    (rename ((8 : Int) < _) => g1)
    rw [len_toList] at g1
    (rename Fr _ _ _ _ => F9)
    have fin := fun tk => hR _ tk (fun a o e => F9.keep _ _ (k1 a o e List.not_mem_nil))
    rw [conf_f1 q1 (.inl g1)] at fin
    exact fin _
  · (rename partsL _ = _ => q1)
    (rename ((3 : Int) < _) => g1)
    rw [len_toList] at g1
    (rename Fr _ _ _ _ => F9)
    have fin := fun tk => hR _ tk (fun a o e => F9.keep _ _ (k1 a o e List.not_mem_nil))
    rw [conf_f1 q1 (.inr (.inl g1))] at fin
    exact fin _
  (rename Fr _ _ _ _ => lF')
  (rename News _ _ _ _ => lN')
  (rename partsL _ = _ => q1)
  (rename ¬((8 : Int) < _) => g1)
  (rename ¬((3 : Int) < _) => g2)
  refine' for_strM (fun m₀ i m nx => ∃ (kv : Option Value), m = (fun y => if y = Str.ofString "sign" then kv else m₀ y) ∧ nx = [] ∧ ∀ j < i, ∃ c, ((partsL x.cps.toList).1 ++ (partsL x.cps.toList).2)[j]? = some c ∧ okC c = true) lF' (News.nil) ?k2 ?k5 ?_ ?_
  case k2 => exact rfl
  case k5 =>
    refine' ⟨none, ?m, rfl, fun j hj => absurd hj (Nat.not_lt_zero _)⟩
    case m =>
      refine funext fun y => ?_
      by_cases hq0 : y = Str.ofString "sign"
      · subst hq0; with_unfolding_all rfl
      simp only [if_neg hq0]
  · rintro i c t' _ _ h tk own hc ⟨kv, rfl, rfl, ha⟩ hoff F N
    dsimp only
    k_fold
    have hca : c ∈ alph := by
      have := List.mem_of_getElem? hc
      rw [app_toList] at this
      refine hal c (partsL_mem _ c ?_)
      rw [q1]
      exact List.mem_append.mp this
    rw [app_toList] at hc
    walk_at "ks"
    all_goals (
      (rename Fr _ _ _ _ => F9)
      first
      | (have ok : okC c = false := by
           unfold okC
           first
           | ((rename ((255 : Int) < _) => g); simp; (first | k_extra "O" | omega))
           | ((rename ((Txt.upper _ != _) = true) => g); simp at g; simp [g])
           | ((rename (List.isEmpty _ = false) => g); rw [g]; simp)
           | ((rename ((_ : Int) = 92) => g); simp; (first | k_extra "O" | omega))
         have fin := fun tk => hR _ tk (fun a o e => F9.keep _ _ (k1 a o e List.not_mem_nil))
         rw [conf_f1 q1 (.inr (.inr ⟨i, c, hc, ok⟩))] at fin
         exact fin _)
      | (show TEnd _ _ _ _ _ _
         (rename News _ _ _ _ => N9)
         refine' TEnd.intro F9 N9 ⟨_, ?a1, rfl, ?a2⟩ ?b1 ?b2 ?b3
         case a1 =>
           refine funext fun y => ?_
           by_cases hq0 : y = Str.ofString "sign"
           · subst hq0; with_unfolding_all rfl
           simp only [if_neg hq0]
         case b1 => exact fun p hp => absurd hp List.not_mem_nil
         case b2 => exact fun p hp => hp
         case b3 => exact hoff
         case a2 =>
           have ok : okC c = true := by
             unfold okC
             (rename ¬((255 : Int) < _) => z1)
             (rename ((Txt.upper _ != _) = false) => z2)
             (rename (List.isEmpty _ = true) => z3)
             (rename ((_ : Int) ≠ 92) => z4)
             rw [z3]
             simp at z2
             simp [z2]
             (first | k_extra "O" | omega)
           intro j hj
           rcases Nat.lt_succ_iff_lt_or_eq.mp hj with hj | rfl
           · exact ha j hj
           · rw [q1]; exact ⟨c, hc, ok⟩))
  · rintro _ _ h tk ⟨kv, rfl, rfl, ha⟩ F N
    dsimp only
    (try k_fold)
    walk_at "ks"
    rw [q1, app_toList] at ha
    rw [len_toList] at g1 g2
    (rename Fr _ _ _ _ => F9)
    have fin := fun tk => hR _ tk (fun a o e => F9.keep _ _ (k1 a o e List.not_mem_nil))
    rw [conf_t q1 g1 g2 ha] at fin
    exact fin _
end
theorem zw_X5_16 : True := by
  k_with_none
  k_with "O" => first | decide | ((with_reducible refine rmk (by assumption) ?_); rfl) | ((with_reducible refine rm0 (by assumption) ?_); rfl) | ((with_reducible refine lel (by assumption) ?_); rfl) | ((with_reducible refine llt (by assumption) ?_); rfl) | ((with_reducible refine ltt (by assumption) ?_); rfl) | ((with_reducible refine ltl (by assumption) ?_); rfl) | ((with_reducible refine ilt (by assumption) ?_); rfl) | (with_reducible exact rmz (by assumption)) | (with_reducible assumption)
  exact True.intro
theorem conform_K {w : World} {mean : ExcName → Option Value} {mg mb : Str → Option Value} {dp un : Nat} {fr : Option (List Env)} {gd : Option (List Code)} {E : Value → Shared → Prop} {s : Shared} {h₀ : Heap} {L : Addr} {m : Str → Option Value} {news : List (Addr × Obj)} {Q : Value → Shared → Prop} {x : Str} {t : Tok}
    (F : Fr h₀ L s.heap m) (X₀ : (Mine.hh.heap_1_39 w.params).In h₀) (N : News h₀ L s.heap news) (T : Top Mine.hh.view_1_40 (looseW Mine.hh.view_1_40 [Str.ofString "PyFATException", Str.ofString "errno", Str.ofString "EightDotThree"]) mean mg mb h₀) (hroom : dp + 10 < recursionLimit) (hx : x.length ≤ 20) (hal : ∀ c ∈ x.cps.toList, c ∈ alph) (hun : un + 80 < cLine)
    (h : ∀ h' tk, Fr h₀ L h' m → News h₀ L h' news → Q (.bool (conformB x.cps.toList)) { s with heap := h', toks := tk }) :
    wpAny (model PySem.Challenge.rw_kj0039_01.row.prog w) { handled := none, depth := dp, frames := fr, guards := gd, units := un } (call (.ref 267) [.str x t]) Q E s := by
  refine wpAny_call (conform_code (t := t) F.keep X₀ T (fun p hp => absurd hp List.not_mem_nil) hroom hx hal hun fun h' tk a1 => ?_)
  exact h h' tk (F.keptAll a1) fun p hp => ⟨a1 _ _ (N p hp).1, (N p hp).2⟩
end Mine
namespace Mine
theorem zr_Q1 : True := by
  w_top off
  k_with_none
  k_with "O" => first | decide | ((with_reducible refine rmk (by assumption) ?_); rfl) | ((with_reducible refine rm0 (by assumption) ?_); rfl) | ((with_reducible refine lel (by assumption) ?_); rfl) | ((with_reducible refine llt (by assumption) ?_); rfl) | ((with_reducible refine ltt (by assumption) ?_); rfl) | ((with_reducible refine ltl (by assumption) ?_); rfl) | ((with_reducible refine ilt (by assumption) ?_); rfl) | (with_reducible exact rmz (by assumption)) | (with_reducible assumption)
  exact True.intro
open PySem.Calls
theorem wpA_neg {α : Type} {M : Model} {A : Around} {c : Prop} {inst : Decidable c} {a b : Sem α} {Q : α → Shared → Prop} {E : Value → Shared → Prop} {s : Shared} (hc : ¬c) (h : wpAny M A b Q E s) : wpAny M A (if c then a else b) Q E s := by rw [if_neg hc]; exact h
theorem wpA_pos {α : Type} {M : Model} {A : Around} {c : Prop} {inst : Decidable c} {a b : Sem α} {Q : α → Shared → Prop} {E : Value → Shared → Prop} {s : Shared} (hc : c) (h : wpAny M A a Q E s) : wpAny M A (if c then a else b) Q E s := by rw [if_pos hc]; exact h
theorem wd_get_slot : Slot "wrapper_descriptor" "__get__" "wrapper_descriptor.__get__" := .of (owner := "wrapper_descriptor") (n := "__get__") (by rw [typeLookup_type, builtinLookup_eq_fast]; kernel_rfl) (by decide +kernel) (by decide +kernel) (by decide +kernel)
  (by first | exact .inl (by decide +kernel) | exact .inr (by decide +kernel)) (by rw [isSubtype_type]; kernel_rfl)
theorem wd_get_entry : entryFor table "wrapper_descriptor.__get__" = some Builtin.«wrapper_descriptor.__get__» := entryFor_of_tree (by kernel_rfl)
theorem wd_get_args (a b c : Value) : argsOk "wrapper_descriptor.__get__" ⟨[a, b, c], []⟩ := by unfold argsOk; kernel_rfl
section
variable {prog : Program} {w : World} {M : Model} {A : Around} {E : Value → Shared → Prop} {h : Heap} {g : Array GenState} {d : Drawn} {t : Nat} {os : OsState}
set_option maxHeartbeats 1000000 in
theorem super_ga_init {so D x C : Addr} {l₀ l : List Value} {K : Frag} {tk : Tok} {Q : Fin → Shared → Prop}
    (hso : h.get? so = some { cls := .type "super", dict := none, data := .fields #[.ref D, .ref x, .ref C], slots := #[] }) (hno : Looks (model prog w) h (opaqueClassAbove (.ref C)) none)
    (hC : Looks (model prog w) h (mroOf (.ref C)) l₀) (hl : (l₀.dropWhile (· != .ref D)).drop 1 = l) (X : K.In h)
    (hf : alongIn K "__init__" l = some (some (.builtin "Exception.__init__"))) (hxC : x ≠ C) {ox : Obj} (hx : h.get? x = some ox) (hxc : ox.cls = .ref C) (hsub : Looks (model prog w) h (isSubtype (.ref C) (.type "Exception")) true)
    (hq : Q (.done (.ret (.ref h.objs.size))) ⟨h.push { cls := .type "method-wrapper", data := .fields #[.builtin "Exception.__init__", .ref x] }, g, d, t, os⟩) :
    wpAny (model prog w) A (Builtin.«super.__getattribute__» ⟨[.ref so, .str "__init__" tk], []⟩) Q E ⟨h, g, d, t, os⟩ := by
  have hlk := wd_get_slot.lookup
  have hne : (Value.ref x == Value.ref C) = false := by simp [hxC]
  have hn : (("__init__" : Str) == ("__class__" : Str)) = false := by decide
  have hTf : (⟨h, g, d, t, os⟩ : Shared).TypeIs (.builtin "Exception.__init__") "wrapper_descriptor" := by with_unfolding_all rfl
  have hdt : ({ cls := .type "super", dict := none, data := .fields #[.ref D, .ref x, .ref C], slots := #[] } : Obj).data = .fields #[.ref D, .ref x, .ref C] := rfl
  have f0 : (#[.ref D, .ref x, .ref C] : Array Value)[0]? = some (.ref D) := rfl
  have f1 : (#[.ref D, .ref x, .ref C] : Array Value)[1]? = some (.ref x) := rfl
  have f2 : (#[.ref D, .ref x, .ref C] : Array Value)[2]? = some (.ref C) := rfl
  have hown : ".".intercalate ("Exception.__init__".cutAt '.').dropLast = "Exception" := by decide +kernel
  unfold Builtin.«super.__getattribute__»
  repeat (first
    | (with_reducible refine wpAny_field hso hdt f0 ?_) | (with_reducible refine wpAny_field hso hdt f1 ?_) | (with_reducible refine wpAny_field hso hdt f2 ?_)
    | (with_reducible refine ks_wpAny_notOpaque hno ?_)
    | (with_reducible refine Looks.at hC ?_; rw [hl])
    | (refine ks_forIn_along X (fun _ _ => rfl) rfl ?_ hf)
    | (with_reducible refine wpAny_typeOf hTf ?_)
    | (with_reducible refine wpAny_call_entry wd_get_slot hTf wd_get_entry ?_ (wd_get_args _ _ _))
    | (with_reducible refine ⟨_, rfl, ?_⟩)
    | (with_reducible refine wpAny_loadPart_at hx ?_; rw [hxc])
    | (rw [hown])
    | (with_reducible refine Looks.at hsub ?_)
    | (with_reducible refine wpA_neg ?_ ?_; focus (simp only [hn, hne, Bool.or_false, Bool.false_eq_true, not_false_eq_true]; done))
    | (simp only [hn, hne, Bool.or_false, Bool.false_eq_true, if_false])
    | wp_step
    | (unfold newFields; refine wpAny_bind (wpAny_newObj_type ?_ (by size_fits)))
    | dsimp only)
  exact hq
end
end Mine
namespace Mine
open PySem.Builtin.ObjectAttr
theorem zr_Q2 : True := by
  w_top off
  k_with_none
  k_with "O" => first | decide | ((with_reducible refine rmk (by assumption) ?_); rfl) | ((with_reducible refine rm0 (by assumption) ?_); rfl) | ((with_reducible refine lel (by assumption) ?_); rfl) | ((with_reducible refine llt (by assumption) ?_); rfl) | ((with_reducible refine ltt (by assumption) ?_); rfl) | ((with_reducible refine ltl (by assumption) ?_); rfl) | ((with_reducible refine ilt (by assumption) ?_); rfl) | (with_reducible exact rmz (by assumption)) | (with_reducible assumption)
  exact True.intro
open PySem.Calls
noncomputable abbrev excMro (C : Addr) : List Value := [.ref C, .type "Exception", .type "BaseException", .type "object"]
theorem exc_refuse (self : Value) (C : Addr) : refuseLoop self "__setattr__" (excMro C) = pure () := by
  unfold excMro
  rw [refuseLoop_ref]
  with_unfolding_all rfl
section
variable {prog : Program} {w : World} {A : Around} {R : Result → Shared → Prop} {s : Shared} {K : Frag} {e C : Addr}
theorem exc_store {oe : Obj} {vs : Array Value} {cd : ClassData} {name : Str} {tk : Tok} {v : Value} (X : K.In s.heap) (I : W.InstAt s.heap e oe C none) (hd : oe.data = .fields vs) (hn : oe.dict = none)
    (hc : clsIn K C = some cd) (hm : cd.mro = excMro C) (hh : cd.hasDict = true) (ht : findIn K (.ref C) name = some none)
    (h : ∀ h' d, s.heap.get? d = none → d ≠ e → h'.get? e = some { oe with dict := some d } → h'.get? d = some (dictOf [⟨PyData.keyHash w.params name, .str name s.toks, v⟩] 1) → (∀ b o, b ≠ e → s.heap.get? b = some o → h'.get? b = some o) → R (.ok (.ret .none)) { s with heap := h', toks := s.toks + 1 }) :
    codeAny (model prog w) A (.call (.builtin "object.__setattr__") ⟨[.ref e, .str name tk, v], []⟩) R s := by
  have SF := PySem.F.store_object
  have sub : Looks (model prog w) s.heap (PySem.isInstance (.ref e) (.type "object")) true := I.type.andThen (looks_mroIn X (by unfold mroIn; rw [hc, Option.bind_some, hm]; with_unfolding_all rfl))
  refine codeAny_call_builtin SF.slot.plain SF.entry (@check_slot (model prog w) _ _ s "object.__setattr__" "object" "__setattr__" (.ref e) [.str name tk, v] [] _ SF.kind SF.split sub (SF.args (.ref e) (.str name tk) v) ?_)
  have hm' : Looks (model prog w) s.heap (mroOf (.ref C)) cd.mro := (looks_clsIn X hc).andThen .now
  rw [osa_eq, refuse_eq]
  refine wpAny_bind (wpAny_bind (I.type.here (wpAny_bind (hm'.here ?_))))
  rw [hm, exc_refuse]
  refine wpAny_pure (wpAny_bind (I.type.here (wpAny_bind ((looks_findIn X ht).here (wpAny_bind (wpAny_pure ?_))))))
  obtain ⟨hx, hcl, hno, -⟩ := I
  obtain ⟨oc, odi, oda, osl⟩ := oe
  dsimp only at hcl hd hn
  subst hcl hd hn
  obtain ⟨hp, g, d, t, os⟩ := s
  dsimp only at *
  refine wpAny_bind (wpAny_pure (wpAny_bind (wpAny_bind (wpAny_loadPart hx (wpAny_bind ((looks_clsIn X hc).here ?_))))))
  rw [hh]
  have lt := Heap.lt_size hx
  have ne : hp.objs.size ≠ e := Nat.ne_of_gt lt
  have u1 := Heap.get?_push_of_some (h := hp) { cls := .type "dict", data := .dict #[] } hx
  simp only [Bool.not_true, typeHasDict, Bool.false_or, Bool.false_eq_true, if_false]
  refine wpAny_bind (wpAny_alloc (wpAny_bind (wpAny_update u1 ?_)))
  refine wpAny_pure (wpAny_bind (wpAny_pure (wpAny_bind ?_)))
  unfold nsSet
  have hD : (Heap.update (hp.push { cls := .type "dict", data := .dict #[] }) e (fun o => { o with dict := some hp.objs.size })).get? hp.objs.size = some { cls := .type "dict", data := .dict #[] } := by
    rw [Heap.get?_update_other _ _ (Ne.symm ne)]
    exact Heap.get?_push_size _ rfl
  have hE : (Heap.update (hp.push { cls := .type "dict", data := .dict #[] }) e (fun o => { o with dict := some hp.objs.size })).get? e = some { cls := .ref C, dict := some hp.objs.size, data := .fields vs, slots := osl } := by
    rw [Heap.get?_update_self _ u1 rfl]
  refine wpAny_bind (wpAny_bind (wpAny_askSetting (wpAny_pure (wpAny_bind (wpAny_mkText (wpAny_bind (wpAny_loadPart hD ?_)))))))
  dsimp only
  have c : aRefKeyMayBeTheName name #[] = false := by unfold aRefKeyMayBeTheName; rfl
  rw [c]
  refine wpAny_updatePart hD ?_
  have hD' := Heap.get?_update_self (Obj.putName name (PyData.keyHash w.params name) (.str name t) v) hD (by rfl)
  refine wpAny_bind (wpAny_lookBehind hD' (by rfl) ?_)
  refine wpAny_pure (h _ hp.objs.size (Heap.get?_none_of_le (Nat.le_refl _)) ne ?_ ?_ ?_)
  · exact (Heap.get?_update_other _ _ ne).trans hE
  · exact Eq.trans hD' rfl
  · intro b o hb ho
    rw [Heap.get?_update_other _ _ (Ne.symm (Nat.ne_of_lt (Heap.lt_size ho))), Heap.get?_update_other _ _ (Ne.symm hb)]
    exact Heap.get?_push_of_some _ ho
end
end Mine
namespace Mine
theorem zr_Q3 : True := by
  w_top off
  k_with_none
  k_with "O" => first | decide | ((with_reducible refine rmk (by assumption) ?_); rfl) | ((with_reducible refine rm0 (by assumption) ?_); rfl) | ((with_reducible refine lel (by assumption) ?_); rfl) | ((with_reducible refine llt (by assumption) ?_); rfl) | ((with_reducible refine ltt (by assumption) ?_); rfl) | ((with_reducible refine ltl (by assumption) ?_); rfl) | ((with_reducible refine ilt (by assumption) ?_); rfl) | (with_reducible exact rmz (by assumption)) | (with_reducible assumption)
  exact True.intro
open PySem.Calls
noncomputable abbrev excObj (C t : Addr) : Obj := { cls := .ref C, data := .fields #[.ref t, .none, .none, .none, .bool false, .none] }
noncomputable abbrev excObjD (C t d : Addr) : Obj := { cls := .ref C, dict := some d, data := .fields #[.ref t, .none, .none, .none, .bool false, .none] }
noncomputable abbrev mwObj (e : Addr) : Obj := { cls := .type "method-wrapper", data := .fields #[.builtin "Exception.__init__", .ref e] }
theorem inst_exc {h₀ h : Heap} {L e C t : Addr} {news : List (Addr × Obj)} (N : News h₀ L h news) (hm : (e, excObj C t) ∈ news) : W.InstAt h e (excObj C t) C none := ⟨(N _ hm).1, rfl, rfl, True.intro⟩
section
variable {w : World} {A : Around} {E : Value → Shared → Prop} {s : Shared} {h₀ : Heap} {L : Addr} {m : Str → Option Value} {news : List (Addr × Obj)} {K : Frag}
theorem super_init_K {so e C t : Addr} {pl : Sem Bool} {Q : Value × List Value → Shared → Prop} {cd : ClassData} (F : Fr h₀ L s.heap m) (X₀ : K.In h₀) (N : News h₀ L s.heap news) (hso : (so, ks_superObj C e C) ∈ news) (he : (e, excObj C t) ∈ news)
    (ho : nsIn K cStatics "thirdparty.any" = some none) (hc : clsIn K C = some cd) (hm : cd.mro = excMro C)
    (h : ∀ q h', Fr h₀ L h' m → News h₀ L h' ((q, mwObj e) :: news) → (∀ p ∈ news, p.1 < q) → Q (.ref q, []) { s with heap := h', toks := s.toks + 1 }) : wpAny (model PG w) A (getMethod (.ref so) "__init__" pl) Q E s := by
  have X : K.In s.heap := X₀.keeps F.keep
  have I := inst_exc N he
  have hso := (N _ hso).1
  obtain ⟨hh, g, d, tk, os⟩ := s
  dsimp only at *
  have hC : Looks (model PG w) hh (mroOf (.ref C)) cd.mro := (looks_clsIn X hc).andThen .now
  have hsub : Looks (model PG w) hh (isSubtype (.ref C) (.type "Exception")) true := looks_mroIn X (by unfold mroIn; rw [hc, Option.bind_some, hm]; with_unfolding_all rfl)
  have hdrop : (cd.mro.dropWhile (· != .ref C)).drop 1 = [.type "Exception", .type "BaseException", .type "object"] := by rw [hm]; simp [List.dropWhile]
  have hf : alongIn K "__init__" [.type "Exception", .type "BaseException", .type "object"] = some (some (.builtin "Exception.__init__")) := by
    have q : ownIn K "__init__" (.type "Exception") = some (some (.builtin "Exception.__init__")) := congrArg some (by decide +kernel)
    unfold alongIn
    rw [q]
  have hlk := PySem.F.ks_slot_super_ga.lookup
  have hcan := PySem.F.ks_canon_super_ga
  have hT : ∀ t', (⟨hh, g, d, t', os⟩ : Shared).TypeIs (.ref so) "super" := fun _ => ⟨_, hso, rfl⟩
  unfold getMethod
  refine wpAny_bind (wpAny_specialOf (hT _) hlk ?_)
  show wpAny _ _ (if (Manifest.canonical "super.__getattribute__" != "object.__getattribute__") = true then _ else _) _ _ _
  rw [if_pos hcan]
  unfold getAttr getAttrBy
  refine wpAny_bind (wpAny_bind (wpAny_mkText (wpAny_holding (wpAny_bind (wpAny_typeOf (hT _) (wpAny_bind (wpAny_of_eq hlk ?_)))))))
  show wpAny _ _ (getAttrByItsOwn (.ref so) (.str "__init__" tk) (.type "super") (.builtin "super.__getattribute__") true false) _ _ _
  unfold getAttrByItsOwn hookBefore callGetattribute boundAndCalled
  refine wpAny_bind (wpAny_of_eq (show (if onTheHeap (.type "super") then typeLookup (.type "super") "__getattr__" else pure none) = pure none from rfl) ?_)
  refine wpAny_bind (wpAny_attempt (wpAny_holding ?_))
  show wpAny _ _ (bindSpecial (.builtin "super.__getattribute__") (.ref so) >>= _) _ _ _
  refine wpAny_bind (wpAny_of_eq (PySem.F.ks_slot_super_ga.bind _) ?_)
  refine wpAny_mono (Q := fun v s' => v = .ref hh.objs.size ∧ s' = ⟨hh.push (mwObj e), g, d, tk + 1, os⟩) (E := fun _ _ => False)
    (wpAny_call_entry PySem.F.ks_slot_super_ga (hT _) PySem.F.ks_entry_super_ga (super_ga_init hso (looks_opaque X ho) hC hdrop X hf (ks_ne X I hc) I.at_ I.cls hsub ⟨_, rfl, rfl, rfl⟩) (PySem.F.ks_gaArgs_super _ _)) (fun v s' hv => ?_) fun _ _ z => z.elim
  obtain ⟨rfl, rfl⟩ := hv
  obtain ⟨F', N', l'⟩ := ks_newsPush (s := ⟨hh, g, d, tk, os⟩) (o := mwObj e) F N rfl (Heap.get?_push_at rfl rfl) (fun b o e => Heap.get?_push_of_some _ e)
  exact wpAny_pure (wpAny_pure (h _ _ F' N' l'))
noncomputable def MwAt (q e : Addr) (h : Heap) : Prop := h.get? q = some (mwObj e)
theorem keeps_mw {M : Model} {q e : Addr} (h : Heap) (X : MwAt q e h) : ∃ k, (k = Keeper.frame ∨ k = Keeper.machine ∨ k = Keeper.boundFrame) ∧ Looks M h (keeperOf (.ref q)) k := by
  refine ⟨.machine, .inr (.inl rfl), (Looks.ld (part := none) X).andThen ?_⟩
  exact .now
theorem callWith_mw {M : Model} {env : Env} {pos : Pos} {first : List Value} {Q : Value → Shared → Prop} {q g : Addr} {e : Expr} {rest : List Expr} (_N : News h₀ L s.heap news) (_q : (q, mwObj g) ∈ news) (h : wpAny M A (spliced (backTo pos (starEach (e :: rest) env))) (fun vs s₁ => MwAt q g s₁.heap ∧ wpAny M A (call (.ref q) (first ++ vs)) Q E s₁) E s)
    (he : starEach (e :: rest) env = (false, eval e env) :: starEach rest env := by rfl) (hplain : (backTo pos (starEach rest env)).any (·.1) = false := by rfl) :
    wpAny M A (callWith pos (.ref q) first (backTo pos (starEach (e :: rest) env)) []) Q E s := by
  rw [he] at h ⊢
  exact callWith_of (by show ((false || (backTo pos (starEach rest env)).any (·.1)) || false) = false; rw [hplain]; rfl) keeps_mw (evalArgs_plain h)
theorem call_mw {q e C t : Addr} {v : Value} {Q : Value → Shared → Prop} {newsF : Obj → List (Addr × Obj)} {cd : ClassData} (F : Fr h₀ L s.heap m) (X₀ : K.In h₀) (N : News h₀ L s.heap news) (hq : (q, mwObj e) ∈ news) (U : UpdF e (excObj C t) news newsF)
    (hc : clsIn K C = some cd) (hm : cd.mro = excMro C)
    (h : ∀ t' h', Fr h₀ L h' m → News h₀ L h' (newsF (excObj C t')) → Q .none { s with heap := h' }) : wpAny (model PG w) A (call (.ref q) [v]) Q E s := by
  have X : K.In s.heap := X₀.keeps F.keep
  have he : (e, excObj C t) ∈ news := by
    obtain ⟨pre, post, rfl, _, _, _⟩ := U.split
    exact List.mem_append.mpr (.inr (.head _))
  have hqo := (N _ hq).1
  have heo := (N _ he).1
  have hsub : Looks (model PG w) s.heap (isSubtype (.ref C) (.type "Exception")) true := looks_mroIn X (by unfold mroIn; rw [hc, Option.bind_some, hm]; with_unfolding_all rfl)
  obtain ⟨oC, hC, hCd⟩ : ∃ oC, s.heap.get? C = some oC ∧ oC.data = .cls cd := by
    unfold clsIn at hc
    split at hc
    · rename_i c d cd' sl ho
      cases hc
      exact ⟨_, X _ _ ho, rfl⟩
    · cases hc
  obtain ⟨hh, g, d, tk, os⟩ := s
  dsimp only at *
  have EF := PySem.F.excCall_Exception
  have hs : Manifest.signature? "Exception.__init__" = some ⟨.positional, "*", "Exception", .self, [⟨"args", .varPos, false⟩]⟩ := EF.initRow
  have hk := EF.initKind
  refine wpAny_call (codeAny_of_tree ?_)
  show wpAny _ _ (callAny (.ref q) ⟨[v], []⟩) _ _ _
  unfold callAny checkBoundCall
  repeat (first
    | (with_reducible refine wpAny_loadPart_at hqo ?_)
    | (with_reducible refine wpAny_load hqo ?_)
    | (with_reducible refine wpAny_load hC ?_; rw [hCd])
    | (with_reducible refine wpAny_loadPart_at heo ?_)
    | (rw [check_star_args]; exact wpAny_pure (by with_unfolding_all rfl))
    | wp_step)
  show _ ∧ codeAny _ _ (.builtin "Exception.__init__" ⟨[.ref e, v], []⟩) _ _
  refine ⟨Code.quiet_builtin _ (by decide +kernel), codeAny_builtin EF.initEntry ?_⟩
  unfold Builtin.«BaseException.__init__»
  dsimp only
  rw [if_neg (by simp)]
  unfold newTuple Builtin.BaseException.bexcPut
  have he₁ := Heap.get?_push_of_some (h := hh) { cls := .type "tuple", data := .seq #[v] } heo
  refine wpAny_bind (wpAny_newObj_type (wpAny_bind (wpAny_bind (wpAny_field he₁ rfl (x := .ref t) rfl (wpAny_bind (wpAny_setField he₁ rfl (by show 0 < 6; decide) ?_))))) (by size_fits))
  refine wpAny_letGo (wpAny_pure ?_)
  obtain ⟨F', N'⟩ := updF_K (o' := excObj C hh.objs.size) F N U (h' := (hh.push { cls := .type "tuple", data := .seq #[v] }).update e (Obj.mapFields (·.setIfInBounds 0 (.ref hh.objs.size)))) (fun a o hne ho => by
    rw [Heap.get?_update_other _ _ (Ne.symm hne)]; exact Heap.get?_push_of_some _ ho) (by
    rw [Heap.get?_update_self _ he₁ rfl]; rfl)
  exact h _ _ F' N'
theorem set_exc_K {e C t : Addr} {name : Str} {v : Value} {Q : Unit → Shared → Prop} {newsF : Obj → List (Addr × Obj)} {cd : ClassData} (F : Fr h₀ L s.heap m) (X₀ : K.In h₀) (N : News h₀ L s.heap news) (U : UpdF e (excObj C t) news newsF)
    (hs : findIn K (.ref C) "__setattr__" = some (some (.builtin "object.__setattr__"))) (hc : clsIn K C = some cd) (hm : cd.mro = excMro C) (hh : cd.hasDict = true) (ht : findIn K (.ref C) name = some none)
    (h : ∀ d h', Fr h₀ L h' m → News h₀ L h' ((d, dictOf [⟨PyData.keyHash w.params name, .str name (s.toks + 1), v⟩] 1) :: newsF (excObjD C t d)) → Q () { s with heap := h', toks := s.toks + 2 }) :
    wpAny (model PG w) A (setAttr (.ref e) name v) Q E s := by
  have X : K.In s.heap := X₀.keeps F.keep
  have he : (e, excObj C t) ∈ news := by
    obtain ⟨pre, post, rfl, _, _, _⟩ := U.split
    exact List.mem_append.mpr (.inr (.head _))
  have I := inst_exc N he
  refine set_plain X I hs (exc_store (s := { s with toks := s.toks + 1 }) X I rfl rfl hc hm hh ht fun h' d k1 k2 k3 k4 k5 => ?_)
  obtain ⟨F', N'⟩ := updF_K (o' := excObjD C t d) F N U k5 k3
  refine h d h' F' fun p hp => ?_
  rcases List.mem_cons.mp hp with rfl | hp
  · refine ⟨k4, fun q => ?_, ?_⟩
    · obtain ⟨oL, es, ep, hL, _⟩ := F.ns
      have q : d = L := q
      rw [q, hL] at k1; cases k1
    · cases z : h₀.get? d with
      | none => rfl
      | some o => have := F.keep _ _ z; rw [k1] at this; cases this
  · exact N' p hp
end
theorem enterX {w : World} {mean : ExcName → Option Value} {mg mb : Str → Option Value} {A : Around} {R : Result → Shared → Prop} {s : Shared} {h₀ : Heap} {news : List (Addr × Obj)} {f cc : Addr}
    {name qual : Str} {params : Arguments} {body : List Stmt} {scope : Scope} {dV kV doc pm cdv ct oc : Value} {an od : Option Addr} {osl : Array (Option Value)} {args : Args} {binds : List (Str × Value)} {mm : Str → Option Value}
    (S : ∀ b o, h₀.get? b = some o → s.heap.get? b = some o) (X₀ : (Mine.hh.heap_1_39 w.params).In h₀) (T : Top Mine.hh.view_1_40 (looseW Mine.hh.view_1_40 [Str.ofString "PyFATException", Str.ofString "errno", Str.ofString "EightDotThree"]) mean mg mb h₀)
    (N : ∀ p ∈ news, s.heap.get? p.1 = some p.2 ∧ h₀.get? p.1 = none)
    (ho : (Mine.hh.heap_1_39 w.params).lookup f = some ⟨oc, od, .func (ksFn name qual params body scope dV kV doc pm an cdv ct cc), osl⟩) (hcd : codeIn (Mine.hh.heap_1_39 w.params) cdv qual = true) (hroom : A.depth < recursionLimit)
    (hbind : BindsTo s (ksFn name qual params body scope dV kV doc pm an cdv ct cc) args binds) (hmm : (fun y => binds.reverse.lookup y) = mm) (hloc : ∀ y ∈ binds, scope.names.lookup y.1 = some .local)
    (h : ∀ g L' h₁ tk, (∀ b o, s.heap.get? b = some o → b ∉ news.map (·.1) → g.get? b = some o) → (∀ b o, g.get? b = some o → s.heap.get? b = some o) → h₀.StaysIn g →
      Fr g L' h₁ mm → News g L' h₁ news → (Mine.hh.heap_1_39 w.params).In g → Top Mine.hh.view_1_40 (looseW Mine.hh.view_1_40 [Str.ofString "PyFATException", Str.ofString "errno", Str.ofString "EightDotThree"]) mean mg mb g → (∀ p ∈ news, p.1 < L') → L' = s.heap.objs.size →
      PySem.wpAt (model PySem.Challenge.rw_kj0039_01.row.prog w) (A.deeper (ksEnv qual scope L' f cdv cc)) (.func body (ksEnv qual scope L' f cdv cc)) (execs body (ksEnv qual scope L' f cdv cc))
        (fun fl s' => R (.ok (.ret (match fl with | .ret v => v | _ => .none))) s')
        (fun e s' => wpAny (model PySem.Challenge.rw_kj0039_01.row.prog w) (A.deeper (ksEnv qual scope L' f cdv cc)) (leaving (ksEnv qual scope L' f cdv cc) e) (fun _ s'' => R (.error e) s'') (fun e' s'' => R (.error e') s'') s')
        { s with heap := h₁, toks := tk })
    (hco : scope.isCoroutine = false) (hgen : scope.isGenerator = false) (hk : scope.kind = .function)
    (hcell : ∀ x ∈ scope.names, x.2 ≠ .cell) : codeAny (model PySem.Challenge.rw_kj0039_01.row.prog w) A (.call (.ref f) args) R s := by
  subst hmm
  have st : h₀.StaysIn (hideAll s.heap (news.map (·.1))) := fun b o e => hideAll_get _ (S b o e) fun hm => by
    obtain ⟨p, hp, rfl⟩ := List.mem_map.mp hm
    rw [(N p hp).2] at e; cases e
  have X : (Mine.hh.heap_1_39 w.params).In s.heap := X₀.keeps S
  refine ks_codeAny_call_defAt (fd := ksFn name qual params body scope dV kV doc pm an cdv ct cc) (body := body) (binds := binds) hroom (X _ _ ho) rfl (T.nolimit.keeps S) (codeRec_of X hcd) rfl hbind hcell hloc (fun h₁ hns hk₁ => ?_) hco hgen hk
  exact h _ s.heap.objs.size h₁ _ (fun b o e n => hideAll_get _ e n) (fun b o e => of_hideAll _ e) st ⟨hns, fun b o e => hk₁ b o (of_hideAll _ e), Nat.le_of_eq (hideAll_size _ _)⟩
    (fun p hp => ⟨hk₁ _ _ (N p hp).1, Nat.ne_of_lt (Heap.lt_size (N p hp).1), hideAll_none _ (List.mem_map_of_mem hp)⟩) (X₀.keeps st) (T.keeps st) (fun p hp => Heap.lt_size (N p hp).1) rfl
end Mine
namespace Mine
theorem zr_Q4 : True := by
  w_top off
  k_with_none
  k_with "O" => first | decide | ((with_reducible refine rmk (by assumption) ?_); rfl) | ((with_reducible refine rm0 (by assumption) ?_); rfl) | ((with_reducible refine lel (by assumption) ?_); rfl) | ((with_reducible refine llt (by assumption) ?_); rfl) | ((with_reducible refine ltt (by assumption) ?_); rfl) | ((with_reducible refine ltl (by assumption) ?_); rfl) | ((with_reducible refine ilt (by assumption) ?_); rfl) | (with_reducible exact rmz (by assumption)) | (with_reducible assumption)
  exact True.intro
open PySem.Calls
theorem fresh_of {h g h' : Heap} {e d : Addr} {o o1 o2 : Obj} (k1 : ∀ b y, h.get? b = some y → b ∉ ([(e, o)] : List (Addr × Obj)).map (·.1) → g.get? b = some y) (hd : g.get? d = none) (h1 : h'.get? d = some o1) (h2 : h'.get? e = some o2) (ne : o1 ≠ o2) : h.get? d = none := by
  cases q : h.get? d with
  | none => rfl
  | some x =>
    by_cases z : d = e
    · subst z; rw [h1] at h2; exact absurd (Option.some.inj h2) ne
    · rw [k1 _ _ q (by simpa using z)] at hd; cases hd
section
theorem zw_Q4_17 : True := by
  k_with_none
  k_with "O" => first | decide | ((with_reducible refine rmk (by assumption) ?_); rfl) | ((with_reducible refine rm0 (by assumption) ?_); rfl) | ((with_reducible refine lel (by assumption) ?_); rfl) | ((with_reducible refine llt (by assumption) ?_); rfl) | ((with_reducible refine ltt (by assumption) ?_); rfl) | ((with_reducible refine ltl (by assumption) ?_); rfl) | ((with_reducible refine ilt (by assumption) ?_); rfl) | (with_reducible exact rmz (by assumption)) | (with_reducible assumption)
  k_with "ks" => repeat' (first | (k_unfold; (try dsimp only)) | (k_end; wrow_close) | ((fail_if_success (with_reducible show wpAny _ _ (pyIter _) (fun it s₂ => LoopAtV _ _ _ _ _ _ _ _ _ it s₂) _ _)); (first | k_extra "H" | walk1)) | ((fail_if_success (with_reducible show wpAny _ _ (pyIter _) (fun it s₂ => LoopAtV _ _ _ _ _ _ _ _ _ it s₂) _ _)); dsimp only; (first | k_extra "H" | walk1)) | fail "no step")
  k_with "forhere" => (with_reducible show wpAny _ _ (pyIter _) (fun it s₂ => LoopAtV _ _ _ _ _ _ _ _ _ it s₂) _ _)
  k_with "wpAt" => (ks_step "attributeBase Call"; k_here; k_dflt (refine ks_node (by k_asm) (by k_asm) (by k_asm) (by k_asm) (by k_is) (by rfl) (by rfl) (by exact inst_exc (by assumption) (by k_mem)) (by k_is) (by rfl) (by first | rfl | decide +kernel) (by k_is) (by k_is) (by k_is) (by k_is) (by decide) (by rfl) (by rfl) (by rfl) (by rfl) (by decide +kernel) (by first | boot_by_name | rfl | kernel_rfl) ?_; intro _ _ _ _ zzl1; (try k_lt zzl1)))
  k_with "H" => ((with_reducible show wpAny _ _ (getMethod (Value.ref _) _ _) _ _ _); (k_here; k_dflt (refine' super_init_K ?k1 ?k2 ?k3 ?k4 ?k5 ?k6 ?k7 ?k8 ?_; (case k1 => k_asm); (case k2 => k_asm); (case k3 => k_asm); (case k4 => k_mem); (case k5 => k_mem); (case k6 => k_is); (case k7 => k_is); (case k8 => rfl); intro _ _ _ _ zzl1; (try k_lt zzl1))))
  k_with "H" => ((with_reducible show wpAny _ _ (callWith _ (Value.ref _) _ _ _) _ _ _); (k_here; k_dflt (refine' callWith_mw ?k1 ?k2 ?_; (case k1 => k_asm); (case k2 => k_mem))))
  k_with "H" => ((with_reducible show MwAt _ _ _ ∧ _); refine ⟨mwAt (by assumption) (by k_mem), ?_⟩; try dsimp only [List.nil_append, List.cons_append])
  k_with "H" => ((with_reducible show wpAny _ _ (call (Value.ref _) _) _ _ _); (k_here; k_dflt (refine' call_mw ?k1 ?k2 ?k3 ?k4 ?k5 ?k6 ?k7 ?_; (case k1 => k_asm); (case k2 => k_asm); (case k3 => k_asm); (case k4 => k_mem); (case k5 => k_updF); (case k6 => k_is); (case k7 => rfl); intro _ _ _ _)))
  k_with "H" => ((with_reducible show wpAny _ _ (setAttr (Value.ref _) _ _) _ _ _); (k_here; k_dflt (refine' set_exc_K ?k1 ?k2 ?k3 ?k4 ?k5 ?k6 ?k7 ?k8 ?k9 ?_; (case k1 => k_asm); (case k2 => k_asm); (case k3 => k_asm); (case k4 => k_updF); (case k5 => k_is); (case k6 => k_is); (case k7 => rfl); (case k8 => rfl); (case k9 => k_is); intro _ _ _ _)))
  exact True.intro
set_option maxHeartbeats 4000000 in
theorem init41_kw {w : World} {mean : ExcName → Option Value} {mg mb : Str → Option Value} {dp un : Nat} {fr : Option (List Env)} {gd : Option (List Code)} {R : Result → Shared → Prop} {s : Shared} {h₀ : Heap} {e t : Addr} {msg v : Value}
    (S : ∀ b o, h₀.get? b = some o → s.heap.get? b = some o) (X₀ : (Mine.hh.heap_1_39 w.params).In h₀) (T : Top Mine.hh.view_1_40 (looseW Mine.hh.view_1_40 [Str.ofString "PyFATException", Str.ofString "errno", Str.ofString "EightDotThree"]) mean mg mb h₀)
    (N : ∀ p ∈ ([(e, excObj 41 t)] : List (Addr × Obj)), s.heap.get? p.1 = some p.2 ∧ h₀.get? p.1 = none)
    (hroom : dp + 2 < recursionLimit)
    (hR : ∀ h' d t' tk n, s.heap.get? d = none → (∀ a o, a ≠ e → s.heap.get? a = some o → h'.get? a = some o) → h'.get? e = some (excObjD 41 t' d) → h'.get? d = some (dictOf [⟨PyData.keyHash w.params "errno", .str "errno" n, v⟩] 1) → R (.ok (.ret .none)) { s with heap := h', toks := tk }) :
    codeAny (model PySem.Challenge.rw_kj0039_01.row.prog w) { handled := none, depth := dp, frames := fr, guards := gd, units := un } (.call (.ref 38) ⟨[.ref e, msg], [(Str.ofString "errno", v)]⟩) R s := by
  revert X₀; k_fill; intro X₀
  refine' enterX (f := 38) S X₀ T N ?ho ?hcd ?hr ?hb ?hmm ?hloc ?_ ?c1 ?c2 ?c3 ?c4
  case ho => k_is
  case hcd => k_is
  case hr => show dp < recursionLimit; (first | k_extra "O" | omega)
  case hb => first | exact BindsTo.of_eq rfl | exact binds_K (X₀.keeps S) rfl (by k_is) rfl rfl rfl
  case hmm => rfl
  case hloc => exact locs rfl
  case c1 => exact rfl
  case c2 => exact rfl
  case c3 => exact rfl
  case c4 => decide
  intro g L' h₁ tkA k1 k2 k3 F' N' X' T' k4 k5
  (try dsimp only)
  (try k_fold)
  refine ks_wpAt_execs_cons (ks_wpAt_Expr_any (ks_wpAt_MethodCall ?_))
  walk_at "ks"
  all_goals first | ((with_reducible show MwAt _ _ _); (rename News _ _ _ _ => N9); exact (N9 _ (by k_mem)).1) | skip
  all_goals (
    (rename Fr _ _ _ _ => F9)
    (rename News _ _ _ _ => N9)
    have hd := N9 _ (.head _)
    have he := (N9 (e, _) (by k_mem)).1
    dsimp only
    exact hR _ _ _ _ _ (fresh_of k1 hd.2.2 hd.1 he (by intro q; cases q)) (fun a o ne ho => F9.keep _ _ (k1 a o ho (by simpa using ne))) he hd.1)
set_option maxHeartbeats 4000000 in
theorem init41_none {w : World} {mean : ExcName → Option Value} {mg mb : Str → Option Value} {dp un : Nat} {fr : Option (List Env)} {gd : Option (List Code)} {R : Result → Shared → Prop} {s : Shared} {h₀ : Heap} {e t : Addr} {msg : Value}
    (S : ∀ b o, h₀.get? b = some o → s.heap.get? b = some o) (X₀ : (Mine.hh.heap_1_39 w.params).In h₀) (T : Top Mine.hh.view_1_40 (looseW Mine.hh.view_1_40 [Str.ofString "PyFATException", Str.ofString "errno", Str.ofString "EightDotThree"]) mean mg mb h₀)
    (N : ∀ p ∈ ([(e, excObj 41 t)] : List (Addr × Obj)), s.heap.get? p.1 = some p.2 ∧ h₀.get? p.1 = none)
    (hroom : dp + 2 < recursionLimit)
    (hR : ∀ h' d t' tk n, s.heap.get? d = none → (∀ a o, a ≠ e → s.heap.get? a = some o → h'.get? a = some o) → h'.get? e = some (excObjD 41 t' d) → h'.get? d = some (dictOf [⟨PyData.keyHash w.params "errno", .str "errno" n, .none⟩] 1) → R (.ok (.ret .none)) { s with heap := h', toks := tk }) :
    codeAny (model PySem.Challenge.rw_kj0039_01.row.prog w) { handled := none, depth := dp, frames := fr, guards := gd, units := un } (.call (.ref 38) ⟨[.ref e, msg], []⟩) R s := by
  revert X₀; k_fill; intro X₀
  refine' enterX (f := 38) S X₀ T N ?ho ?hcd ?hr ?hb ?hmm ?hloc ?_ ?c1 ?c2 ?c3 ?c4
  case ho => k_is
  case hcd => k_is
  case hr => show dp < recursionLimit; (first | k_extra "O" | omega)
  case hb => first | exact BindsTo.of_eq rfl | exact binds_K (X₀.keeps S) rfl (by k_is) rfl rfl rfl
  case hmm => rfl
  case hloc => exact locs rfl
  case c1 => exact rfl
  case c2 => exact rfl
  case c3 => exact rfl
  case c4 => decide
  intro g L' h₁ tkA k1 k2 k3 F' N' X' T' k4 k5
  (try dsimp only)
  (try k_fold)
  refine ks_wpAt_execs_cons (ks_wpAt_Expr_any (ks_wpAt_MethodCall ?_))
  walk_at "ks"
  all_goals first | ((with_reducible show MwAt _ _ _); (rename News _ _ _ _ => N9); exact (N9 _ (by k_mem)).1) | skip
  all_goals (
    (rename Fr _ _ _ _ => F9)
    (rename News _ _ _ _ => N9)
    have hd := N9 _ (.head _)
    have he := (N9 (e, _) (by k_mem)).1
    dsimp only
    exact hR _ _ _ _ _ (fresh_of k1 hd.2.2 hd.1 he (by intro q; cases q)) (fun a o ne ho => F9.keep _ _ (k1 a o ho (by simpa using ne))) he hd.1)
set_option maxHeartbeats 4000000 in
theorem init63_kw {w : World} {mean : ExcName → Option Value} {mg mb : Str → Option Value} {dp un : Nat} {fr : Option (List Env)} {gd : Option (List Code)} {R : Result → Shared → Prop} {s : Shared} {h₀ : Heap} {e t : Addr} {msg v : Value}
    (S : ∀ b o, h₀.get? b = some o → s.heap.get? b = some o) (X₀ : (Mine.hh.heap_1_39 w.params).In h₀) (T : Top Mine.hh.view_1_40 (looseW Mine.hh.view_1_40 [Str.ofString "PyFATException", Str.ofString "errno", Str.ofString "EightDotThree"]) mean mg mb h₀)
    (N : ∀ p ∈ ([(e, excObj 63 t)] : List (Addr × Obj)), s.heap.get? p.1 = some p.2 ∧ h₀.get? p.1 = none)
    (hroom : dp + 2 < recursionLimit)
    (hR : ∀ h' d t' tk n, s.heap.get? d = none → (∀ a o, a ≠ e → s.heap.get? a = some o → h'.get? a = some o) → h'.get? e = some (excObjD 63 t' d) → h'.get? d = some (dictOf [⟨PyData.keyHash w.params "free_type", .str "free_type" n, v⟩] 1) → R (.ok (.ret .none)) { s with heap := h', toks := tk }) :
    codeAny (model PySem.Challenge.rw_kj0039_01.row.prog w) { handled := none, depth := dp, frames := fr, guards := gd, units := un } (.call (.ref 60) ⟨[.ref e, msg], [(Str.ofString "free_type", v)]⟩) R s := by
  revert X₀; k_fill; intro X₀
  refine' enterX (f := 60) S X₀ T N ?ho ?hcd ?hr ?hb ?hmm ?hloc ?_ ?c1 ?c2 ?c3 ?c4
  case ho => k_is
  case hcd => k_is
  case hr => show dp < recursionLimit; (first | k_extra "O" | omega)
  case hb => first | exact BindsTo.of_eq rfl | exact binds_K (X₀.keeps S) rfl (by k_is) rfl rfl rfl
  case hmm => rfl
  case hloc => exact locs rfl
  case c1 => exact rfl
  case c2 => exact rfl
  case c3 => exact rfl
  case c4 => decide
  intro g L' h₁ tkA k1 k2 k3 F' N' X' T' k4 k5
  (try dsimp only)
  (try k_fold)
  refine ks_wpAt_execs_cons (ks_wpAt_Expr_any (ks_wpAt_MethodCall ?_))
  walk_at "ks"
  all_goals first | ((with_reducible show MwAt _ _ _); (rename News _ _ _ _ => N9); exact (N9 _ (by k_mem)).1) | skip
  all_goals (
    (rename Fr _ _ _ _ => F9)
    (rename News _ _ _ _ => N9)
    have hd := N9 _ (.head _)
    have he := (N9 (e, _) (by k_mem)).1
    dsimp only
    exact hR _ _ _ _ _ (fresh_of k1 hd.2.2 hd.1 he (by intro q; cases q)) (fun a o ne ho => F9.keep _ _ (k1 a o ho (by simpa using ne))) he hd.1)
end
end Mine
namespace Mine
theorem zr_Q5 : True := by
  w_top off
  k_with_none
  k_with "O" => first | decide | ((with_reducible refine rmk (by assumption) ?_); rfl) | ((with_reducible refine rm0 (by assumption) ?_); rfl) | ((with_reducible refine lel (by assumption) ?_); rfl) | ((with_reducible refine llt (by assumption) ?_); rfl) | ((with_reducible refine ltt (by assumption) ?_); rfl) | ((with_reducible refine ltl (by assumption) ?_); rfl) | ((with_reducible refine ilt (by assumption) ?_); rfl) | (with_reducible exact rmz (by assumption)) | (with_reducible assumption)
  exact True.intro
open PySem.Calls
/-- what an own exception class shows. -/
structure ExcC (M : Model) (h : Heap) (C : Addr) : Prop where
  obj : ∃ oc od cd sl, h.get? C = some ⟨oc, od, .cls cd, sl⟩ ∧ cd.hasDel = false ∧ cd.mro = excMro C
  made : Looks M h (Bind.madeBy (.ref C)) (some "Exception.__new__")
  base : Looks M h (Bind.staticBase (.ref C)) (.ref C)
  sub : ∀ T, Looks M h (isSubtype (.ref C) T) ((excMro C).contains T)
  call : Looks M h (specialOf (.ref C) "__call__") (some (.builtin "type.__call__"))
  typ : Looks M h (PySem.isInstance (.ref C) (.type "type")) true
  kind : Looks M h (PySem.typeOf (.ref C)) (.type "type")
theorem ExcC.of {K : Frag} {M : Model} {h : Heap} {C : Addr} {od : Option Addr} {cd : ClassData} {sl : Array (Option Value)} (X : K.In h) (ho : K.lookup C = some ⟨.type "type", od, .cls cd, sl⟩) (e2 : cd.hasDel = false) (em : cd.mro = excMro C)
    (e3 : (sl.toList[4]?).join = some (.builtin "Exception.__new__")) (e7 : specialIn K (.ref C) "__call__" = some (some (.builtin "type.__call__"))) (e8 : instIn K (.ref C) (.type "type") = some true) : ExcC M h C := by
  have hc : clsIn K C = some cd := by unfold clsIn; rw [ho]
  have hm : Looks M h (mroOf (.ref C)) (excMro C) := em ▸ (looks_clsIn X hc).andThen .now
  have made : Looks M h (Bind.madeBy (.ref C)) (some "Exception.__new__") := by
    intro A Q E s k q
    unfold Bind.madeBy
    refine wpAny_bind (hm A _ E s k ?_)
    rw [List.forIn_cons]
    refine wpAny_bind (wpAny_bind (wpAny_bind (wpAny_bind (wpAny_loadPart (k _ _ (X _ _ ho)) (wpAny_pure ?_)))))
    dsimp only
    rw [← Array.getElem?_toList, e3]
    exact wpAny_pure (wpAny_pure (wpAny_pure q))
  refine ⟨⟨_, od, cd, sl, X _ _ ho, e2, em⟩, made, ?_, fun T => looks_mroIn X ?_, looks_specialIn X e7, looks_instIn X e8, (Looks.ld (X _ _ ho)).andThen .now⟩
  · intro A Q E s k q
    unfold Bind.staticBase
    refine wpAny_bind (hm A _ E s k ?_)
    rw [List.forIn_cons]
    exact wpAny_bind (wpAny_bind (wpAny_bind (made A _ E s k (wpAny_pure (wpAny_pure (wpAny_pure q))))))
  · unfold mroIn; rw [hc, Option.bind_some, em, if_neg (by simp [excMro])]
section
variable {w : World} {A : Around} {K : Frag} {C : Addr} {R : Result → Shared → Prop} {h : Heap} {g : Array GenState} {d : Drawn} {t : Nat} {os : OsState}
theorem exc_new {rest : List Value} {kw : List (Str × Value)} (Y : ExcC (model PG w) h C) (hrest : rest.length ≤ sizeLine)
    (hq : R (.ok (.ret (.ref (h.objs.size + 1)))) ⟨(h.push { cls := .type "tuple", data := .seq rest.toArray }).push (excObj C h.objs.size), g, d, t, os⟩) :
    codeAny (model PG w) A (.call (.builtin "Exception.__new__") ⟨.ref C :: rest, kw⟩) R ⟨h, g, d, t, os⟩ := by
  obtain ⟨⟨oc, od, cd, sl, hC, e2, em⟩, made, base, sub, call, typ, kind⟩ := Y
  have F := PySem.F.excBase_Exception
  have sE := sub (.type "Exception")
  have sA := sub (.type "AttributeError")
  have sN := sub (.type "NameError")
  rw [show (excMro C).contains (.type "Exception") = true by simp [excMro]] at sE
  rw [show (excMro C).contains (.type "AttributeError") = false by simp [excMro]] at sA
  rw [show (excMro C).contains (.type "NameError") = false by simp [excMro]] at sN
  refine codeAny_call_builtin_code (Code.quiet_builtin _ F.quiet) ?_
  simp only [checkBuiltinCall, F.newKind, F.newSplit, F.newRow]
  have here : Looks (model PG w) h (Bind.madeHere "Exception.__new__" (.ref C)) () := base.andThen (made.andThen (Looks.of_pure (by simp only [Option.map_some, bne_self_eq_false, Bool.false_eq_true, if_false])))
  have here2 : Looks (model PG w) h (Bind.madeHere "BaseException.__new__" (.ref C)) () := base.andThen (made.andThen (Looks.of_pure (by simp only [Option.map_some, F.canon, bne_self_eq_false, Bool.false_eq_true, if_false])))
  repeat (first | (with_reducible refine wpA_neg ?_ ?_; focus (simp only [bne_self_eq_false, Bool.false_eq_true, not_false_eq_true]; done)) | lk | simp only [bne_self_eq_false, Bool.false_eq_true, if_false])
  have hends := F.ends
  refine codeAny_builtinAt F.entry ?_
  unfold Builtin.«BaseException.__new__»
  refine PySem.wpAt_bind ?_
  show PySem.wpAt _ _ _ (stack >>= _) _ _ _
  refine PySem.wpAt_bind (PySem.wpAt_stack fun p below => PySem.wpAt_of_wpAny ?_)
  dsimp only
  rw [if_pos hends]
  refine wpAny_pure (PySem.wpAt_of_wpAny ?_)
  rw [F.owner]
  have isT : Looks (model PG w) h (isType (.ref C)) true := (Looks.ld (part := none) hC).andThen .now
  repeat (first | (with_reducible refine wpA_neg ?_ ?_; focus (simp only [Bool.not_true, Bool.false_eq_true, not_false_eq_true]; done)) | lk | simp only [Bool.not_true, Bool.false_eq_true, if_false])
  rw [if_neg (by rw [List.size_toArray]; (first | k_extra "O" | omega))]
  unfold newObjAsIs
  refine wpAny_bind (wpAny_alloc (wpAny_pure ?_))
  have hC' := Heap.get?_push_of_some (excObj C h.objs.size) (Heap.get?_push_of_some { cls := .type "tuple", data := .seq rest.toArray } hC)
  repeat (first | lk | (unfold newObjAsIs; dsimp only; (refine wpAny_bind (wpAny_alloc ?_))))
  rw [e2]
  refine wpAny_pure (wpAny_pure ?_)
  show R _ _
  rw [Heap.size_push]
  exact hq
theorem exc_call {rest : List Value} {kw : List (Str × Value)} {fI : Addr} (Y : ExcC (model PG w) h C) (hrest : rest.length ≤ sizeLine) (hi : Looks (model PG w) h (typeLookup (.ref C) "__init__") (some (.ref fI))) (hb : ∀ self, Looks (model PG w) h (bindSpecial (.ref fI) self) (.ref fI, [self]))
    (hq : codeAny (model PG w) (A.under (.builtin "type.__call__" ⟨.ref C :: rest, kw⟩)) (.call (.ref fI) ⟨.ref (h.objs.size + 1) :: rest, kw⟩) (InitBack (h.objs.size + 1) R) ⟨(h.push { cls := .type "tuple", data := .seq rest.toArray }).push (excObj C h.objs.size), g, d, t, os⟩) :
    codeAny (model PG w) A (.call (.ref C) ⟨rest, kw⟩) R ⟨h, g, d, t, os⟩ := by
  have Y' := Y
  obtain ⟨⟨oc, od, cd, sl, hC, e2, em⟩, made, base, sub, call, typ, kind⟩ := Y
  refine codeAny_of_tree ?_
  show wpAny _ _ (callAny (.ref C) _) _ _ _
  refine nd_load hC ?_
  show wpAny _ _ (callAny.viaDunder (.ref C) _) _ _ _
  unfold callAny.viaDunder
  refine wpAny_bind (call.at ?_)
  dsimp only
  rw [tc_bind]
  refine wpAny_bind (wpAny_pure (wpAny_bind (wpAny_pure ?_)))
  refine wpAny_pure (a := Fin.again (.call (.builtin "type.__call__") ⟨.ref C :: rest, kw⟩)) (And.intro rfl ?_)
  refine codeAny_call_builtin_at (Code.quiet_builtin _ (by decide +kernel)) entry_typeCall (check_slot tc_kind tc_split typ (tc_args _ _ _) ?_)
  unfold Builtin.«type.__call__»
  have hm : Looks (model PG w) h (mroOf (.ref C)) (excMro C) := em ▸ ((Looks.ld (part := none) hC).andThen .now).andThen .now
  have e4 : (excMro C).isEmpty = false := by simp [excMro]
  repeat (first | (with_reducible refine wpA_neg ?_ ?_; focus (simp only [e4, Bool.false_eq_true, not_false_eq_true]; done)) | with_reducible refine wpAny_call ?_ | lk | simp only [e4, Bool.false_eq_true, if_false])
  refine exc_new Y' hrest ?_
  have k : ∀ b o, h.get? b = some o → ((h.push { cls := .type "tuple", data := .seq rest.toArray }).push (excObj C h.objs.size)).get? b = some o := fun b o e => Heap.get?_push_of_some _ (Heap.get?_push_of_some _ e)
  have hx : ((h.push { cls := .type "tuple", data := .seq rest.toArray }).push (excObj C h.objs.size)).get? (h.objs.size + 1) = some (excObj C h.objs.size) := by heap_get
  have t1 : Looks (model PG w) ((h.push { cls := .type "tuple", data := .seq rest.toArray }).push (excObj C h.objs.size)) (typeOf (.ref (h.objs.size + 1))) (.ref C) := (Looks.ld hx).andThen .now
  have s1 := (sub (.ref C)).keeps k
  rw [show (excMro C).contains (.ref C) = true by simp [excMro]] at s1
  have i1 := hi.keeps k
  have b1 := (hb (.ref (h.objs.size + 1))).keeps k
  unfold PySem.isInstance callSpecial? specialOf
  repeat (first | with_reducible refine wpAny_call ?_ | lk)
  refine codeAny_mono hq fun r s' z => ?_
  rcases r with e | (v | _ | _ | _) <;> first | exact z | exact z.elim | skip
  obtain ⟨rfl, z⟩ := z
  exact wpAny_pure (wpAny_pure z)
end
end Mine
namespace Mine
theorem zr_Q6 : True := by
  w_top off
  k_with_none
  k_with "O" => first | decide | ((with_reducible refine rmk (by assumption) ?_); rfl) | ((with_reducible refine rm0 (by assumption) ?_); rfl) | ((with_reducible refine lel (by assumption) ?_); rfl) | ((with_reducible refine llt (by assumption) ?_); rfl) | ((with_reducible refine ltt (by assumption) ?_); rfl) | ((with_reducible refine ltl (by assumption) ?_); rfl) | ((with_reducible refine ilt (by assumption) ?_); rfl) | (with_reducible exact rmz (by assumption)) | (with_reducible assumption)
  exact True.intro
open PySem.Calls
theorem push2_none {h₀ h : Heap} (S : ∀ b o, h₀.get? b = some o → h.get? b = some o) (n : Nat) : h₀.get? (h.objs.size + n) = none := by
  cases q : h₀.get? (h.objs.size + n) with
  | none => rfl
  | some o => exact absurd (Heap.lt_size (S _ _ q)) (Nat.not_lt.mpr (Nat.le_add_right _ _))
theorem size_fresh {h h' : Heap} {d : Addr} {n : Nat} (k : ∀ b o, h.get? b = some o → h'.get? b = some o) (hd : h'.get? d = none) : h.get? d = none := by
  cases q : h.get? d with
  | none => rfl
  | some o => rw [k _ _ q] at hd; cases hd
theorem make41_kw {w : World} {mean : ExcName → Option Value} {mg mb : Str → Option Value} {dp un : Nat} {fr : Option (List Env)} {gd : Option (List Code)} {E : Value → Shared → Prop} {s : Shared} {h₀ : Heap} {L : Addr} {m : Str → Option Value} {news : List (Addr × Obj)} {Q : Value → Shared → Prop} {msg v : Value}
    (F : Fr h₀ L s.heap m) (X₀ : (Mine.hh.heap_1_39 w.params).In h₀) (N : News h₀ L s.heap news) (T : Top Mine.hh.view_1_40 (looseW Mine.hh.view_1_40 [Str.ofString "PyFATException", Str.ofString "errno", Str.ofString "EightDotThree"]) mean mg mb h₀) (hroom : dp + 4 < recursionLimit)
    (h : ∀ h' e d t tk n, Fr h₀ L h' m → News h₀ L h' ((e, excObjD 41 t d) :: (d, dictOf [⟨PyData.keyHash w.params "errno", .str "errno" n, v⟩] 1) :: news) → (∀ p ∈ news, p.1 ≠ e) → (∀ p ∈ news, p.1 ≠ d) → d ≠ e → s.heap.get? e = none → s.heap.get? d = none → (∀ a o, s.heap.get? a = some o → h'.get? a = some o) → Q (.ref e) { s with heap := h', toks := tk }) :
    wpAny (model PySem.Challenge.rw_kj0039_01.row.prog w) { handled := none, depth := dp, frames := fr, guards := gd, units := un } (call (.ref 41) [msg] [(Str.ofString "errno", v)]) Q E s := by
  revert X₀; k_fill; intro X₀
  obtain ⟨hh, g, d, tk, os⟩ := s
  have X : (Mine.hh.heap_1_39 w.params).In hh := X₀.keeps F.keep
  refine wpAny_call (exc_call (ExcC.of X (by k_is) (by rfl) (by rfl) (by rfl) (by k_is) (by k_is)) (by size_fits) (looks_findIn X (by k_is)) (fun self => bind_fn X self (by k_is)) ?_)
  have k : ∀ b o, hh.get? b = some o → ((hh.push { cls := .type "tuple", data := .seq [msg].toArray }).push (excObj 41 hh.objs.size)).get? b = some o := fun b o e => Heap.get?_push_of_some _ (Heap.get?_push_of_some _ e)
  have hx : ((hh.push { cls := .type "tuple", data := .seq [msg].toArray }).push (excObj 41 hh.objs.size)).get? (hh.objs.size + 1) = some (excObj 41 hh.objs.size) := by heap_get
  have lt : ∀ b o, hh.get? b = some o → b ≠ hh.objs.size + 1 := fun b o q => Nat.ne_of_lt (Nat.lt_succ_of_lt (Heap.lt_size q))
  refine init41_kw (h₀ := h₀) (e := hh.objs.size + 1) (t := hh.objs.size) (fun b o q => k b o (F.keep b o q)) X₀ T (fun p hp => ?_) (by show dp + 1 + 2 < _; (first | k_extra "O" | omega)) fun h' d' t' tk' n' a1 a2 a3 a4 => ?_
  · rw [List.mem_singleton.mp hp]
    exact ⟨hx, push2_none F.keep 1⟩
  · have kk : ∀ a o, hh.get? a = some o → h'.get? a = some o := fun a o q => a2 a o (lt a o q) (k a o q)
    have hd : hh.get? d' = none := size_fresh (n := 0) k a1
    obtain ⟨F1, N1, ne1⟩ := fresh_K F N kk hd a4
    have he : hh.get? (hh.objs.size + 1) = none := Heap.get?_none_of_le (Nat.le_succ _)
    have ne2 : d' ≠ hh.objs.size + 1 := fun q => by rw [q, hx] at a1; cases a1
    obtain ⟨_, N2, ne3⟩ := fresh_K F N kk he a3
    refine ⟨rfl, h h' _ d' t' tk' n' F1 (fun p hp => ?_) ne3 ne1 ne2 he hd kk⟩
    rcases List.mem_cons.mp hp with rfl | hp
    · exact N2 _ (.head _)
    · exact N1 _ hp
theorem make41_none {w : World} {mean : ExcName → Option Value} {mg mb : Str → Option Value} {dp un : Nat} {fr : Option (List Env)} {gd : Option (List Code)} {E : Value → Shared → Prop} {s : Shared} {h₀ : Heap} {L : Addr} {m : Str → Option Value} {news : List (Addr × Obj)} {Q : Value → Shared → Prop} {msg : Value}
    (F : Fr h₀ L s.heap m) (X₀ : (Mine.hh.heap_1_39 w.params).In h₀) (N : News h₀ L s.heap news) (T : Top Mine.hh.view_1_40 (looseW Mine.hh.view_1_40 [Str.ofString "PyFATException", Str.ofString "errno", Str.ofString "EightDotThree"]) mean mg mb h₀) (hroom : dp + 4 < recursionLimit)
    (h : ∀ h' e d t tk n, Fr h₀ L h' m → News h₀ L h' ((e, excObjD 41 t d) :: (d, dictOf [⟨PyData.keyHash w.params "errno", .str "errno" n, .none⟩] 1) :: news) → (∀ p ∈ news, p.1 ≠ e) → (∀ p ∈ news, p.1 ≠ d) → d ≠ e → s.heap.get? e = none → s.heap.get? d = none → (∀ a o, s.heap.get? a = some o → h'.get? a = some o) → Q (.ref e) { s with heap := h', toks := tk }) :
    wpAny (model PySem.Challenge.rw_kj0039_01.row.prog w) { handled := none, depth := dp, frames := fr, guards := gd, units := un } (call (.ref 41) [msg] []) Q E s := by
  revert X₀; k_fill; intro X₀
  obtain ⟨hh, g, d, tk, os⟩ := s
  have X : (Mine.hh.heap_1_39 w.params).In hh := X₀.keeps F.keep
  refine wpAny_call (exc_call (ExcC.of X (by k_is) (by rfl) (by rfl) (by rfl) (by k_is) (by k_is)) (by size_fits) (looks_findIn X (by k_is)) (fun self => bind_fn X self (by k_is)) ?_)
  have k : ∀ b o, hh.get? b = some o → ((hh.push { cls := .type "tuple", data := .seq [msg].toArray }).push (excObj 41 hh.objs.size)).get? b = some o := fun b o e => Heap.get?_push_of_some _ (Heap.get?_push_of_some _ e)
  have hx : ((hh.push { cls := .type "tuple", data := .seq [msg].toArray }).push (excObj 41 hh.objs.size)).get? (hh.objs.size + 1) = some (excObj 41 hh.objs.size) := by heap_get
  have lt : ∀ b o, hh.get? b = some o → b ≠ hh.objs.size + 1 := fun b o q => Nat.ne_of_lt (Nat.lt_succ_of_lt (Heap.lt_size q))
  refine init41_none (h₀ := h₀) (e := hh.objs.size + 1) (t := hh.objs.size) (fun b o q => k b o (F.keep b o q)) X₀ T (fun p hp => ?_) (by show dp + 1 + 2 < _; (first | k_extra "O" | omega)) fun h' d' t' tk' n' a1 a2 a3 a4 => ?_
  · rw [List.mem_singleton.mp hp]
    exact ⟨hx, push2_none F.keep 1⟩
  · have kk : ∀ a o, hh.get? a = some o → h'.get? a = some o := fun a o q => a2 a o (lt a o q) (k a o q)
    have hd : hh.get? d' = none := size_fresh (n := 0) k a1
    obtain ⟨F1, N1, ne1⟩ := fresh_K F N kk hd a4
    have he : hh.get? (hh.objs.size + 1) = none := Heap.get?_none_of_le (Nat.le_succ _)
    have ne2 : d' ≠ hh.objs.size + 1 := fun q => by rw [q, hx] at a1; cases a1
    obtain ⟨_, N2, ne3⟩ := fresh_K F N kk he a3
    refine ⟨rfl, h h' _ d' t' tk' n' F1 (fun p hp => ?_) ne3 ne1 ne2 he hd kk⟩
    rcases List.mem_cons.mp hp with rfl | hp
    · exact N2 _ (.head _)
    · exact N1 _ hp
theorem make63_kw {w : World} {mean : ExcName → Option Value} {mg mb : Str → Option Value} {dp un : Nat} {fr : Option (List Env)} {gd : Option (List Code)} {E : Value → Shared → Prop} {s : Shared} {h₀ : Heap} {L : Addr} {m : Str → Option Value} {news : List (Addr × Obj)} {Q : Value → Shared → Prop} {msg v : Value}
    (F : Fr h₀ L s.heap m) (X₀ : (Mine.hh.heap_1_39 w.params).In h₀) (N : News h₀ L s.heap news) (T : Top Mine.hh.view_1_40 (looseW Mine.hh.view_1_40 [Str.ofString "PyFATException", Str.ofString "errno", Str.ofString "EightDotThree"]) mean mg mb h₀) (hroom : dp + 4 < recursionLimit)
    (h : ∀ h' e d t tk n, Fr h₀ L h' m → News h₀ L h' ((e, excObjD 63 t d) :: (d, dictOf [⟨PyData.keyHash w.params "free_type", .str "free_type" n, v⟩] 1) :: news) → (∀ p ∈ news, p.1 ≠ e) → (∀ p ∈ news, p.1 ≠ d) → d ≠ e → s.heap.get? e = none → s.heap.get? d = none → (∀ a o, s.heap.get? a = some o → h'.get? a = some o) → Q (.ref e) { s with heap := h', toks := tk }) :
    wpAny (model PySem.Challenge.rw_kj0039_01.row.prog w) { handled := none, depth := dp, frames := fr, guards := gd, units := un } (call (.ref 63) [msg] [(Str.ofString "free_type", v)]) Q E s := by
  revert X₀; k_fill; intro X₀
  obtain ⟨hh, g, d, tk, os⟩ := s
  have X : (Mine.hh.heap_1_39 w.params).In hh := X₀.keeps F.keep
  refine wpAny_call (exc_call (ExcC.of X (by k_is) (by rfl) (by rfl) (by rfl) (by k_is) (by k_is)) (by size_fits) (looks_findIn X (by k_is)) (fun self => bind_fn X self (by k_is)) ?_)
  have k : ∀ b o, hh.get? b = some o → ((hh.push { cls := .type "tuple", data := .seq [msg].toArray }).push (excObj 63 hh.objs.size)).get? b = some o := fun b o e => Heap.get?_push_of_some _ (Heap.get?_push_of_some _ e)
  have hx : ((hh.push { cls := .type "tuple", data := .seq [msg].toArray }).push (excObj 63 hh.objs.size)).get? (hh.objs.size + 1) = some (excObj 63 hh.objs.size) := by heap_get
  have lt : ∀ b o, hh.get? b = some o → b ≠ hh.objs.size + 1 := fun b o q => Nat.ne_of_lt (Nat.lt_succ_of_lt (Heap.lt_size q))
  refine init63_kw (h₀ := h₀) (e := hh.objs.size + 1) (t := hh.objs.size) (fun b o q => k b o (F.keep b o q)) X₀ T (fun p hp => ?_) (by show dp + 1 + 2 < _; (first | k_extra "O" | omega)) fun h' d' t' tk' n' a1 a2 a3 a4 => ?_
  · rw [List.mem_singleton.mp hp]
    exact ⟨hx, push2_none F.keep 1⟩
  · have kk : ∀ a o, hh.get? a = some o → h'.get? a = some o := fun a o q => a2 a o (lt a o q) (k a o q)
    have hd : hh.get? d' = none := size_fresh (n := 0) k a1
    obtain ⟨F1, N1, ne1⟩ := fresh_K F N kk hd a4
    have he : hh.get? (hh.objs.size + 1) = none := Heap.get?_none_of_le (Nat.le_succ _)
    have ne2 : d' ≠ hh.objs.size + 1 := fun q => by rw [q, hx] at a1; cases a1
    obtain ⟨_, N2, ne3⟩ := fresh_K F N kk he a3
    refine ⟨rfl, h h' _ d' t' tk' n' F1 (fun p hp => ?_) ne3 ne1 ne2 he hd kk⟩
    rcases List.mem_cons.mp hp with rfl | hp
    · exact N2 _ (.head _)
    · exact N1 _ hp
end Mine
namespace Mine
theorem zr_Q7 : True := by
  w_top off
  k_with_none
  k_with "O" => first | decide | ((with_reducible refine rmk (by assumption) ?_); rfl) | ((with_reducible refine rm0 (by assumption) ?_); rfl) | ((with_reducible refine lel (by assumption) ?_); rfl) | ((with_reducible refine llt (by assumption) ?_); rfl) | ((with_reducible refine ltt (by assumption) ?_); rfl) | ((with_reducible refine ltl (by assumption) ?_); rfl) | ((with_reducible refine ilt (by assumption) ?_); rfl) | (with_reducible exact rmz (by assumption)) | (with_reducible assumption)
  exact True.intro
open PySem.Calls
noncomputable def FlyAt (h B : Heap) (e : Addr) (cls : Value) (dct : Option Addr) (fl : Value) : Prop :=
  ∃ vs sl T ts oT, h.get? e = some ⟨cls, dct, .fields vs, sl⟩ ∧ vs[1]? = some (.ref T) ∧ B.get? T = none ∧ T ≠ e ∧ h.get? T = some oT ∧ oT.data = .fields ts ∧ ts[3]? = some fl
/-- an exception in flight through the frames l; B stands as it stood. -/
noncomputable def FlyD (B : Heap) (l : List Env) (e : Addr) (cls : Value) (dct : Option Addr) (fl : Value) (h : Heap) : Prop :=
  B.StaysIn h ∧ B.get? e = none ∧ h.FunFrames B l ∧ FlyAt h B e cls dct fl
section
variable {M : Model} {A : Around} {E : Value → Shared → Prop} {s : Shared} {B : Heap} {env : Env} {outer : List Env} {L e : Addr} {cls : Value} {dct : Option Addr} {fl : Value} {Q : Unit → Shared → Prop}
theorem rec_ne {h : Heap} {b e : Addr} {o oe : Obj} {vs : Array Value} (he : h.get? e = some oe) (hd : oe.data = .fields vs) (hb : h.get? b = some o) (hn : ∀ vs, o.data ≠ .fields vs) : b ≠ e := fun q => by
  subst q
  rw [he] at hb
  cases hb
  exact hn _ hd
theorem entry_core {vs : Array Value} {sl : Array (Option Value)} {head : Value} {hadNext : Bool} (hfr : A.frames = some (env :: outer)) (hl : s.heap.FunFrames B (env :: outer)) (hf : env.frame = some L)
    (he : s.heap.get? e = some ⟨cls, dct, .fields vs, sl⟩) (hs : 1 < vs.size) (hB : B.StaysIn s.heap) (hn : B.get? e = none)
    (h : ∀ h', FlyD B (env :: outer) e cls dct (rawInt L) h' → s.heap.UpToSlots h' → Q () { s with heap := h' }) :
    wpAny M A (do let a ← frameOf env; let pl ← entryPlaceOf L hadNext; let b ← EntryCells.newEntry head a .none (rawInt L) .none pl; setField (.ref e) 1 b) Q E s := by
  have off : e ∉ (env :: outer).filterMap (·.frame) := fun hm => by
    obtain ⟨_, o, ho, hnf⟩ := hl.mem hm
    exact rec_ne he rfl ho hnf rfl
  refine wpAny_bind (wpAny_frameOf_fun hfr hl hf fun h₁ x => ?_)
  refine wpAny_bind (wpAny_entryPlaceOf fun pl hpl => ?_)
  unfold EntryCells.newEntry newFields
  refine wpAny_bind (wpAny_newObj_type ?_ (hpl.sizeOk5 _ _ _ _ _))
  generalize hts : ([head, .ref L, .none, rawInt L, .none] ++ (if pl.isEmpty then List.replicate 6 Value.none else pl)).toArray = ts
  have t3 : ts[3]? = some (rawInt L) := by rw [← hts]; rfl
  have e1 := (x.2.1 e off).trans he
  have b1 : B.StaysIn h₁ := fun b o hb => (x.2.1 b fun hm => by rw [(hl.mem hm).1] at hb; cases hb).trans (hB b o hb)
  have e2 := Heap.get?_push_of_some { cls := .type "traceback", dict := none, data := .fields ts } e1
  have ne : h₁.objs.size ≠ e := Nat.ne_of_gt (Heap.lt_size e1)
  have up : ∀ b o, b ≠ e → h₁.get? b = some o → ((h₁.push { cls := .type "traceback", dict := none, data := .fields ts }).update e (Obj.mapFields (·.setIfInBounds 1 (.ref h₁.objs.size)))).get? b = some o := fun b o hb ho =>
    (Heap.get?_update_other _ _ (Ne.symm hb)).trans (Heap.get?_push_of_some _ ho)
  refine wpAny_setField e2 rfl hs (h _ ⟨fun b o hb => up b o (fun q => by rw [q, hn] at hb; cases hb) (b1 b o hb), hn, hl.of_keeps fun b o hb hnf => ?_, vs.setIfInBounds 1 (.ref h₁.objs.size), sl, h₁.objs.size, ts, _, ?_, ?_, b1.fresh, ne, (Heap.get?_update_other _ _ (Ne.symm ne)).trans (Heap.get?_push_size _ rfl), rfl, t3⟩ fun b o hb hnf => ?_)
  · obtain ⟨sl', q⟩ := x.2.2 b o hb
    exact ⟨_, up b _ (rec_ne he rfl hb hnf) q, rfl⟩
  · rw [Heap.get?_update_self _ e2 rfl]; rfl
  · simp [hs]
  · obtain ⟨sl', q⟩ := x.2.2 b o hb
    exact ⟨sl', up b _ (rec_ne he rfl hb hnf) q⟩
theorem mark_flight {h : Heap} {T : Addr} {v : Value} {vs : Array Value} {sl : Array (Option Value)} {ts : Array Value} {oT : Obj} {l : List Env} (hB : B.StaysIn h) (hn : B.get? e = none) (hl : h.FunFrames B l)
    (he : h.get? e = some ⟨cls, dct, .fields vs, sl⟩) (h1 : vs[1]? = some (.ref T)) (hT : B.get? T = none) (ne : T ≠ e) (ht : h.get? T = some oT) (htd : oT.data = .fields ts) (h3 : ts[3]? = some fl) :
    FlyD B l e cls dct v (h.update T (Obj.mapFields (·.setIfInBounds 3 v))) ∧ h.UpToSlots (h.update T (Obj.mapFields (·.setIfInBounds 3 v))) := by
  have o : ∀ b, b ≠ T → (h.update T (Obj.mapFields (·.setIfInBounds 3 v))).get? b = h.get? b := fun b hb => Heap.get?_update_other _ _ (Ne.symm hb)
  have hs := (Array.getElem?_eq_some_iff.mp h3).1
  refine ⟨⟨fun b x hb => (o b fun q => by rw [q, hT] at hb; cases hb).trans (hB b x hb), hn, hl.of_keeps fun b x hb hnf => ⟨x, (o b (rec_ne ht htd hb hnf)).trans hb, rfl⟩, vs, sl, T, _, _, (o e (Ne.symm ne)).trans he, h1, hT, ne,
    Heap.get?_update_self _ ht (Obj.isFreed_of_fields (Obj.data_mapFields htd _)), Obj.data_mapFields htd _, by simp [hs]⟩, fun b x hb hnf => ⟨x.slots, (o b (rec_ne ht htd hb hnf)).trans hb⟩⟩
theorem land {l : List Env} (F : FlyD B l e cls dct fl s.heap) (h : ∀ h', FlyD B l e cls dct .none h' → s.heap.UpToSlots h' → Q () { s with heap := h' }) : wpAny M A (setFlight (.ref e) none) Q E s := by
  obtain ⟨hB, hn, hl, vs, sl, T, ts, oT, he, h1, hT, ne, ht, htd, h3⟩ := F
  unfold setFlight
  refine wpAny_bind (wpAny_field he rfl h1 ?_)
  rw [if_pos (show (Value.ref T != Value.none) = true from by simp)]
  obtain ⟨a, b⟩ := mark_flight (v := .none) hB hn hl he h1 hT ne ht htd h3
  exact wpAny_setField ht htd (Array.getElem?_eq_some_iff.mp h3).1 (h _ a b)
theorem note_first {vs : Array Value} {sl : Array (Option Value)} (hfr : A.frames = some (env :: outer)) (hl : s.heap.FunFrames B (env :: outer)) (hf : env.frame = some L)
    (he : s.heap.get? e = some ⟨cls, dct, .fields vs, sl⟩) (h1 : vs[1]? = some .none) (hB : B.StaysIn s.heap) (hn : B.get? e = none)
    (h : ∀ h', FlyD B (env :: outer) e cls dct (rawInt L) h' → s.heap.UpToSlots h' → Q () { s with heap := h' }) : wpAny M A (noteFrame (.ref e) env) Q E s := by
  unfold noteFrame
  simp only [hf]
  refine wpAny_bind (wpAny_field he rfl h1 ?_)
  rw [if_neg (by decide)]
  exact entry_core hfr hl hf he (Array.getElem?_eq_some_iff.mp h1).1 hB hn h
theorem note_next (hfr : A.frames = some (env :: outer)) (hf : env.frame = some L) (F : FlyD B (env :: outer) e cls dct .none s.heap)
    (h : ∀ h', FlyD B (env :: outer) e cls dct (rawInt L) h' → s.heap.UpToSlots h' → Q () { s with heap := h' }) : wpAny M A (noteFrame (.ref e) env) Q E s := by
  obtain ⟨hB, hn, hl, vs, sl, T, ts, oT, he, h1, hT, ne, ht, htd, h3⟩ := F
  unfold noteFrame
  simp only [hf]
  refine wpAny_bind (wpAny_field he rfl h1 ?_)
  rw [if_pos (show (Value.ref T != Value.none) = true from by simp)]
  refine wpAny_bind (wpAny_field ht htd h3 ?_)
  rw [if_neg (show ¬ ((Value.none == rawInt L) = true) from by simp [rawInt])]
  obtain ⟨⟨a1, a2, a3, _⟩, b⟩ := mark_flight (v := .none) hB hn hl he h1 hT ne ht htd h3
  refine wpAny_bind (wpAny_setField ht htd (Array.getElem?_eq_some_iff.mp h3).1 ?_)
  exact entry_core hfr a3 hf ((Heap.get?_update_other _ _ ne).trans he) (Array.getElem?_eq_some_iff.mp h1).1 a1 a2 fun h' f u => h h' f (b.trans u)
theorem FlyD.tail {h : Heap} (F : FlyD B (env :: outer) e cls dct fl h) : FlyD B outer e cls dct fl h := ⟨F.1, F.2.1, F.2.2.1.2.2, F.2.2.2⟩
theorem leave_first {vs : Array Value} {sl : Array (Option Value)} (hfr : A.frames = some (env :: outer)) (hl : s.heap.FunFrames B (env :: outer)) (hf : env.frame = some L)
    (he : s.heap.get? e = some ⟨cls, dct, .fields vs, sl⟩) (h1 : vs[1]? = some .none) (hB : B.StaysIn s.heap) (hn : B.get? e = none)
    (h : ∀ h', FlyD B outer e cls dct .none h' → s.heap.UpToSlots h' → Q () { s with heap := h' }) : wpAny M A (leaving env (.ref e)) Q E s := by
  unfold leaving
  exact wpAny_bind (note_first hfr hl hf he h1 hB hn fun h1 f1 u1 => land f1 fun h2 f2 u2 => h h2 f2.tail (u1.trans u2))
theorem leave_next (hfr : A.frames = some (env :: outer)) (hf : env.frame = some L) (F : FlyD B (env :: outer) e cls dct .none s.heap)
    (h : ∀ h', FlyD B outer e cls dct .none h' → s.heap.UpToSlots h' → Q () { s with heap := h' }) : wpAny M A (leaving env (.ref e)) Q E s := by
  unfold leaving
  exact wpAny_bind (note_next hfr hf F fun h1 f1 u1 => land f1 fun h2 f2 u2 => h h2 f2.tail (u1.trans u2))
end
end Mine
namespace Mine
theorem zr_Q8 : True := by
  w_top off
  k_with_none
  k_with "O" => first | decide | ((with_reducible refine rmk (by assumption) ?_); rfl) | ((with_reducible refine rm0 (by assumption) ?_); rfl) | ((with_reducible refine lel (by assumption) ?_); rfl) | ((with_reducible refine llt (by assumption) ?_); rfl) | ((with_reducible refine ltt (by assumption) ?_); rfl) | ((with_reducible refine ltl (by assumption) ?_); rfl) | ((with_reducible refine ilt (by assumption) ?_); rfl) | (with_reducible exact rmz (by assumption)) | (with_reducible assumption)
  exact True.intro
open PySem.Calls
/-- g, each object as h has it. -/
noncomputable def merge (g h : Heap) : Heap := ⟨g.objs.mapIdx fun i o => match o.data with | .freed => o | _ => (h.objs[i]?).getD o, g.life⟩
theorem merge_size (g h : Heap) : (merge g h).objs.size = g.objs.size := by simp [merge]
theorem get_some {h : Heap} {a : Addr} {o : Obj} (e : h.get? a = some o) : h.objs[a]? = some o ∧ o.data ≠ .freed := by
  unfold Heap.get? at e
  split at e
  · cases e
  · rename_i hn
    refine ⟨e, fun q => ?_⟩
    obtain ⟨c, d, dt, sl⟩ := o
    dsimp only at q
    subst q
    exact hn c d sl e
theorem some_get {h : Heap} {a : Addr} {o : Obj} (e : h.objs[a]? = some o) (n : o.data ≠ .freed) : h.get? a = some o := by
  unfold Heap.get?
  rw [e]
  obtain ⟨c, d, dt, sl⟩ := o
  cases dt <;> first | rfl | exact absurd rfl n
theorem merge_get {g h : Heap} {a : Addr} {o o' : Obj} (hg : g.get? a = some o) (hh : h.get? a = some o') : (merge g h).get? a = some o' := by
  obtain ⟨g1, g2⟩ := get_some hg
  obtain ⟨h1, h2⟩ := get_some hh
  refine some_get ?_ h2
  simp only [merge, Array.getElem?_mapIdx, g1, Option.map_some, h1, Option.getD_some]
theorem of_merge {g h : Heap} {a : Addr} {x : Obj} (k : ∀ o, g.get? a = some o → ∃ o', h.get? a = some o') (e : (merge g h).get? a = some x) : h.get? a = some x ∧ ∃ o, g.get? a = some o := by
  obtain ⟨e1, e2⟩ := get_some e
  simp only [merge, Array.getElem?_mapIdx] at e1
  cases q : g.objs[a]? with
  | none => rw [q] at e1; cases e1
  | some o =>
    rw [q] at e1
    by_cases n : o.data = .freed
    · simp only [Option.map_some, n, Option.some.injEq] at e1
      subst e1
      exact absurd n e2
    · have hg := some_get q n
      obtain ⟨o', ho'⟩ := k o hg
      have := merge_get hg ho'
      rw [e] at this
      cases this
      exact ⟨ho', o, hg⟩
noncomputable abbrev fas (l : List Env) : List Addr := l.filterMap (·.frame)
/-- what stood still stands but for the slots of the frames' dicts. -/
noncomputable def Kp (fa mu : List Addr) (h h' : Heap) : Prop := ∀ a o, h.get? a = some o → a ∉ mu → (a ∉ fa → h'.get? a = some o) ∧ ∃ sl, h'.get? a = some { o with slots := sl }
theorem Kp.of_keeps {fa mu : List Addr} {h h' : Heap} (k : ∀ a o, h.get? a = some o → a ∉ mu → h'.get? a = some o) : Kp fa mu h h' := fun a o e n => ⟨fun _ => k a o e n, o.slots, k a o e n⟩
theorem Kp.of {fa : List Addr} {h h' : Heap} (k : ∀ a o, h.get? a = some o → a ∉ fa → h'.get? a = some o) (u : h.UpToSlots h') (n : ∀ a ∈ fa, ∀ o vs, h.get? a = some o → o.data ≠ .fields vs) : Kp fa [] h h' := fun a o e _ => by
  refine ⟨fun f => k a o e f, ?_⟩
  by_cases f : a ∈ fa
  · exact u a o e fun vs => n a f o vs e
  · exact ⟨o.slots, k a o e f⟩
theorem Kp.up {fa mu : List Addr} {h h' : Heap} (x : Kp fa mu h h') (n : mu = []) : h.UpToSlots h' := fun a o e _ => (x a o e (by rw [n]; exact List.not_mem_nil)).2
theorem Kp.ns {fa mu : List Addr} {h h' : Heap} {L : Addr} {m : Str → Option Value} (x : Kp fa mu h h') (hL : L ∉ mu) (N : h.Ns L m) : h'.Ns L m := by
  obtain ⟨o, es, ep, e, d, r⟩ := N
  obtain ⟨_, sl, q⟩ := x L o e hL
  exact ⟨_, es, ep, q, d, r⟩
/-- a new base behind a callee that turned the frames' slots. -/
theorem rebase {g h h' : Heap} {L : Addr} {fa : List Addr} {m : Str → Option Value} {news : List (Addr × Obj)} (F : Fr g L h m) (N : News g L h news) (x : Kp (L :: fa) [] h h') (hn : ∀ p ∈ news, p.1 ∉ fa) :
    Fr (merge g h') L h' m ∧ News (merge g h') L h' news ∧ (∀ a o, g.get? a = some o → a ∉ fa → (merge g h').get? a = some o) ∧ (∀ a o, g.get? a = some o → ∃ sl, (merge g h').get? a = some { o with slots := sl }) ∧ (∀ a o, (merge g h').get? a = some o → ∃ o', g.get? a = some o') := by
  have k : ∀ a o, g.get? a = some o → ∃ o', h'.get? a = some o' := fun a o e => let ⟨_, sl, q⟩ := x a o (F.keep a o e) List.not_mem_nil; ⟨_, q⟩
  have gL : ∀ a o, g.get? a = some o → a ≠ L := fun a o e q => absurd (Nat.lt_of_lt_of_le (Heap.lt_size e) F.above) (by rw [q]; exact Nat.lt_irrefl _)
  refine ⟨⟨x.ns List.not_mem_nil F.ns, fun a o e => (of_merge (k a) e).1, by rw [merge_size]; exact F.above⟩, fun p hp => ?_, fun a o e f => ?_, fun a o e => ?_, fun a o e => (of_merge (k a) e).2⟩
  · obtain ⟨n1, n2, n3⟩ := N p hp
    refine ⟨(x _ _ n1 List.not_mem_nil).1 (fun q => ?_), n2, ?_⟩
    · rcases List.mem_cons.mp q with q | q
      · exact n2 q
      · exact hn p hp q
    · cases z : (merge g h').get? p.1 with
      | none => rfl
      | some o =>
        obtain ⟨_, o', q⟩ := of_merge (k _) z
        rw [n3] at q; cases q
  · refine merge_get e ((x _ _ (F.keep _ _ e) List.not_mem_nil).1 fun q => ?_)
    rcases List.mem_cons.mp q with q | q
    · exact gL _ _ e q
    · exact f q
  · obtain ⟨_, sl, q⟩ := x _ _ (F.keep _ _ e) List.not_mem_nil
    exact ⟨sl, merge_get e q⟩
/-- an exception that a callee threw: h before the call, h' now. -/
structure Thrown (outer : List Env) (h h' : Heap) (e : Addr) (cls : Value) (dct : Option Addr) (B : Heap) : Prop where
  fly : FlyD B outer e cls dct .none h'
  has : ∀ a o, h.get? a = some o → a ∉ fas outer → B.get? a = some o
  up : h.UpToSlots h'
  new : h.get? e = none
section
variable {M : Model} {A : Around} {E : Value → Shared → Prop} {s' : Shared} {h h0 b B : Heap} {env : Env} {outer : List Env} {L e : Addr} {cls : Value} {dct : Option Addr} {Q : Unit → Shared → Prop}
theorem leave_made {vs : Array Value} {sl : Array (Option Value)} (hfr : A.frames = some (env :: outer)) (hf : env.frame = some L) (hl : s'.heap.FunFrames b (env :: outer)) (hk : ∀ a o, h0.get? a = some o → s'.heap.get? a = some o)
    (hL : h0.get? L = none) (hn : h0.get? e = none) (he : s'.heap.get? e = some ⟨cls, dct, .fields vs, sl⟩) (h1 : vs[1]? = some .none)
    (h : ∀ h' B, Thrown outer h0 h' e cls dct B → (∀ a o, s'.heap.get? a = some o → a ≠ e → a ∉ fas (env :: outer) → B.get? a = some o) → Q () { s' with heap := h' }) : wpAny M A (leaving env (.ref e)) Q E s' := by
  have off : e ∉ fas (env :: outer) := fun hm => by
    obtain ⟨_, o, ho, hnf⟩ := hl.mem hm
    exact rec_ne he rfl ho hnf rfl
  have hB : ∀ a o, s'.heap.get? a = some o → a ≠ e → a ∉ fas (env :: outer) → (hideAll s'.heap (e :: fas (env :: outer))).get? a = some o := fun a o q n f => hideAll_get _ q fun m => (List.mem_cons.mp m).elim n f
  have eL : L ∈ fas (env :: outer) := List.mem_filterMap.mpr ⟨env, .head _, hf⟩
  have eO : ∀ a, a ∈ fas (env :: outer) → a = L ∨ a ∈ fas outer := fun a ha => by
    unfold fas at ha
    rw [List.filterMap_cons, hf] at ha
    exact List.mem_cons.mp ha
  refine leave_first (B := hideAll s'.heap (e :: fas (env :: outer))) hfr (funFrames_hide hl fun x hx a ha => .tail _ (List.mem_filterMap.mpr ⟨x, hx, ha⟩)) hf he h1 (fun a o q => of_hideAll _ q) (hideAll_none _ (.head _)) fun h' f u => ?_
  refine h h' _ ⟨f, fun a o q n => ?_, (Heap.UpToSlots.of_keeps hk).trans u, hn⟩ hB
  refine hB a o (hk a o q) (fun z => by rw [z, hn] at q; cases q) fun m => ?_
  rcases eO a m with z | z
  · rw [z, hL] at q; cases q
  · exact n z
theorem leave_thrown (hfr : A.frames = some (env :: outer)) (hf : env.frame = some L) (T : Thrown (env :: outer) h s'.heap e cls dct B) (hk : ∀ a o, h0.get? a = some o → h.get? a = some o) (hL : h0.get? L = none)
    (hq : ∀ h', Thrown outer h0 h' e cls dct B → Q () { s' with heap := h' }) : wpAny M A (leaving env (.ref e)) Q E s' := by
  refine leave_next hfr hf T.fly fun h' f u => hq h' ⟨f, fun a o q n => ?_, (Heap.UpToSlots.of_keeps hk).trans (T.up.trans u), ?_⟩
  · refine T.has a o (hk a o q) fun m => ?_
    unfold fas at m
    rw [List.filterMap_cons, hf] at m
    rcases List.mem_cons.mp m with z | z
    · rw [z, hL] at q; cases q
    · exact n z
  · exact size_fresh (n := 0) hk T.new
end
section
variable {w : World} {A : Around} {E : Value → Shared → Prop} {s : Shared} {env : Env}
/-- the value of a raise's expression: an own exception with its field. -/
noncomputable def OwnMade (w : World) (E : Value → Shared → Prop) (v : Value) (s : Shared) : Prop := ∃ e C t d, v = .ref e ∧ ExcC (model PG w) s.heap C ∧ s.heap.get? e = some (excObjD C t d) ∧ E (.ref e) s
theorem raise_own {x : Expr} {pos : Pos} {Q : Flow → Shared → Prop} (hh : A.handled = none) (h : wpAny (model PG w) A (eval x env) (OwnMade w E) E s) : wpAny (model PG w) A (exec (.Raise (some x) none pos) env) Q E s := by
  rw [arm_exec_Raise]
  simp only [evalOpt, Option.map]
  refine wpAny_bind (wpAny_standAt ?_)
  unfold raiseStmt
  refine wpAny_bind (wpAny_bind (wpAny_mono h (fun v s₁ h₁ => wpAny_bind (wpAny_standAt (wpAny_pure ?_))) fun _ _ z => z))
  obtain ⟨e, C, t, d, rfl, Y, he, hE⟩ := h₁
  obtain ⟨hp, g, dr, tk, os⟩ := s₁
  dsimp only at Y he
  have sub := Y.sub (.type "BaseException")
  rw [show (excMro C).contains (.type "BaseException") = true by simp [excMro]] at sub
  have L1 : Looks (model PG w) hp (isType (.ref e)) false := (Looks.ld (part := none) he).andThen .now
  have L2 : Looks (model PG w) hp (PySem.typeOf (.ref e)) (.ref C) := (Looks.ld he).andThen .now
  have L3 := Y.kind
  have f1 := looks_field (M := model PG w) he 1 (v := .none) rfl
  unfold excFromValue isExcClass PySem.isInstance raisedInstance setFlight
  repeat (first | exact wpAny_raiseNew_none hh hE | simp only [Bool.false_eq_true, if_false, if_true, Option.toList, bne_self_eq_false] | lk | (rw [if_pos (by decide)]) | (rw [if_neg (by decide)]))
end
end Mine
namespace Mine
theorem zr_Q9 : True := by
  w_top off
  k_with_none
  k_with "O" => first | decide | ((with_reducible refine rmk (by assumption) ?_); rfl) | ((with_reducible refine rm0 (by assumption) ?_); rfl) | ((with_reducible refine lel (by assumption) ?_); rfl) | ((with_reducible refine llt (by assumption) ?_); rfl) | ((with_reducible refine ltt (by assumption) ?_); rfl) | ((with_reducible refine ltl (by assumption) ?_); rfl) | ((with_reducible refine ilt (by assumption) ?_); rfl) | (with_reducible exact rmz (by assumption)) | (with_reducible assumption)
  exact True.intro
open PySem.Calls
theorem kept_all {h g h' : Heap} {L : Addr} {m : Str → Option Value} {news : List (Addr × Obj)} {h₀ : Heap} (F : Fr g L h' m) (k1 : ∀ b o, h.get? b = some o → b ∉ news.map (·.1) → g.get? b = some o)
    (N : ∀ p ∈ news, h.get? p.1 = some p.2 ∧ h₀.get? p.1 = none) (N' : ∀ p ∈ news, h'.get? p.1 = some p.2) : ∀ a o, h.get? a = some o → h'.get? a = some o := fun a o e => by
  by_cases m : a ∈ news.map (·.1)
  · obtain ⟨p, hp, rfl⟩ := List.mem_map.mp m
    rw [(N p hp).1] at e
    cases e
    exact N' p hp
  · exact F.keep _ _ (k1 a o e m)
theorem fun_here {h h₀ g h' : Heap} {L f : Addr} {m : Str → Option Value} {outer : List Env} {name : Str} {scope : Scope} {cd : Value} (F : Fr g L h' m) (k3 : h₀.StaysIn g) (hfun : h.FunFrames h₀ outer) (k : ∀ a o, h.get? a = some o → h'.get? a = some o) (hk : scope.kind = .function) :
    h'.FunFrames h₀ (envOf name scope L f cd :: outer) := by
  refine Heap.FunFrames.cons (by show scope.kind ≠ .module; rw [hk]; decide) rfl F.ns ?_ (hfun.of_keeps fun b o e _ => ⟨o, k b o e, rfl⟩)
  cases q : h₀.get? L with
  | none => rfl
  | some o => exact absurd (Nat.lt_of_lt_of_le (Heap.lt_size (k3 _ _ q)) F.above) (Nat.lt_irrefl _)
theorem top_none (h : Heap) {L : Addr} (e : L = h.objs.size) : h.get? L = none := by rw [e]; exact Heap.get?_none_of_le (Nat.le_refl _)
theorem off_new {h b : Heap} {outer : List Env} {env : Env} {L d : Addr} (hf : env.frame = some L) (hfun : h.FunFrames b outer) (hd : h.get? d = none) (ne : d ≠ L) : d ∉ fas (env :: outer) := fun hm => by
  unfold fas at hm
  rw [List.filterMap_cons, hf] at hm
  rcases List.mem_cons.mp hm with q | q
  · exact ne q
  · obtain ⟨_, o, ho, _⟩ := hfun.mem q
    rw [hd] at ho; cases ho
end Mine
namespace Mine
theorem zr_E2 : True := by
  w_top off
  k_with_none
  k_with "O" => first | decide | ((with_reducible refine rmk (by assumption) ?_); rfl) | ((with_reducible refine rm0 (by assumption) ?_); rfl) | ((with_reducible refine lel (by assumption) ?_); rfl) | ((with_reducible refine llt (by assumption) ?_); rfl) | ((with_reducible refine ltt (by assumption) ?_); rfl) | ((with_reducible refine ltl (by assumption) ?_); rfl) | ((with_reducible refine ilt (by assumption) ?_); rfl) | (with_reducible exact rmz (by assumption)) | (with_reducible assumption)
  exact True.intro
open PySem.Calls
noncomputable abbrev oneObj (dx : Addr) : Obj := { cls := .ref 223, dict := some dx, data := .plain }
noncomputable abbrev oneD (P : Params) (n1 n2 n3 : Tok) (v1 v2 v3 : Value) : Obj := dictOf [⟨PyData.keyHash P "name", .str "name" n1, v1⟩, ⟨PyData.keyHash P "encoding", .str "encoding" n2, v2⟩, ⟨PyData.keyHash P "initialized", .str "initialized" n3, v3⟩] 3
section
theorem zw_E2_18 : True := by
  k_with_none
  k_with "O" => first | decide | ((with_reducible refine rmk (by assumption) ?_); rfl) | ((with_reducible refine rm0 (by assumption) ?_); rfl) | ((with_reducible refine lel (by assumption) ?_); rfl) | ((with_reducible refine llt (by assumption) ?_); rfl) | ((with_reducible refine ltt (by assumption) ?_); rfl) | ((with_reducible refine ltl (by assumption) ?_); rfl) | ((with_reducible refine ilt (by assumption) ?_); rfl) | (with_reducible exact rmz (by assumption)) | (with_reducible assumption)
  k_with "ks" => repeat' (first | (k_unfold; (try dsimp only)) | (k_end; wrow_close) | ((fail_if_success (with_reducible show wpAny _ _ (pyIter _) (fun it s₂ => LoopAtV _ _ _ _ _ _ _ _ _ it s₂) _ _)); (first | k_extra "H" | walk1)) | ((fail_if_success (with_reducible show wpAny _ _ (pyIter _) (fun it s₂ => LoopAtV _ _ _ _ _ _ _ _ _ it s₂) _ _)); dsimp only; (first | k_extra "H" | walk1)) | fail "no step")
  k_with "forhere" => (with_reducible show wpAny _ _ (pyIter _) (fun it s₂ => LoopAtV _ _ _ _ _ _ _ _ _ it s₂) _ _)
  k_with "H" => (k_here; (with_reducible show wpAny _ _ (call (Value.ref 41) _) _ _ _); k_dflt (refine' make41_none ?k1 ?k2 ?k3 ?k4 ?k5 ?_; (case k1 => k_asm); (case k2 => k_asm); (case k3 => k_asm); (case k4 => k_asm); (case k5 => (dsimp only [Around.deeper]; (first | k_extra "O" | omega))); k_whole); intro _ _ _ _ _ _ _ _ _ _ _ _ _ _)
  k_with "H" => ((with_reducible show wpAny _ _ (exec (Stmt.Raise (some _) none _) _) _ _ _); (refine raise_own rfl ?_))
  exact True.intro
set_option maxHeartbeats 4000000 in
theorem icheck_code {w : World} {mean : ExcName → Option Value} {mg mb : Str → Option Value} {dp un : Nat} {fr : Option (List Env)} {gd : Option (List Code)} {R : Result → Shared → Prop} {s : Shared} {h₀ : Heap} {outer : List Env} {x dx : Addr} {n1 n2 n3 : Tok} {v1 v2 : Value}
    (S : ∀ b o, h₀.get? b = some o → s.heap.get? b = some o) (X₀ : (Mine.hh.heap_1_39 w.params).In h₀) (T : Top Mine.hh.view_1_40 (looseW Mine.hh.view_1_40 [Str.ofString "PyFATException", Str.ofString "errno", Str.ofString "EightDotThree"]) mean mg mb h₀)
    (N : ∀ p ∈ ([(x, oneObj dx), (dx, oneD w.params n1 n2 n3 v1 v2 (.bool false))] : List (Addr × Obj)), s.heap.get? p.1 = some p.2 ∧ h₀.get? p.1 = none)
    (hroom : dp + 5 < recursionLimit) (hfr : fr = some outer) (hfun : s.heap.FunFrames h₀ outer)
    (hR : ∀ h' e d tk n B, Thrown outer s.heap h' e (.ref 41) (some d) B → B.get? d = some (dictOf [⟨PyData.keyHash w.params "errno", .str "errno" n, .none⟩] 1) → s.heap.get? d = none → R (.error (.ref e)) { s with heap := h', toks := tk }) :
    codeAny (model PySem.Challenge.rw_kj0039_01.row.prog w) { handled := none, depth := dp, frames := fr, guards := gd, units := un } (.call (.ref 104) ⟨[.ref x], []⟩) R s := by
  revert X₀; k_fill; intro X₀
  refine' enter (f := 104) (mm := (fun zq => List.lookup zq [(Str.ofString "one", .ref x)])) S X₀ T N ?ho ?hcd ?hr ?hb ?hmm ?hloc ?_ ?c1 ?c2 ?c3 ?c4
  case ho => k_is
  case hcd => k_is
  case hr => show dp < recursionLimit; (first | k_extra "O" | omega)
  case hb => exact BindsTo.of_eq rfl
  case hmm => first | rfl | kernel_rfl | with_unfolding_all rfl
  case hloc => exact locs rfl
  case c1 => exact rfl
  case c2 => exact rfl
  case c3 => exact rfl
  case c4 => decide
  intro g L' h₁ tkA k1 k2 k3 F' N' X' T' k4 k5
  (try dsimp only)
  k_fold
  walk_at "ks"
  rename_i e9 d9 t9 tk9 n9 F9 N9 l1 l2 l3 l4 l5 l6
  obtain ⟨y1, y2, y3⟩ := N9 _ (.head _)
  obtain ⟨z1, z2, z3⟩ := N9 _ (.tail _ (.head _))
  have X9 := X'.keeps F9.keep
  refine ⟨_, _, _, _, rfl, ExcC.of X9 (by k_is) (by rfl) (by rfl) (by rfl) (by k_is) (by k_is), y1, ?_⟩
  k_unfold
  dsimp only
  subst hfr
  have kc := kept_all F' k1 N (fun p hp => (N' p hp).1)
  have kk := kept_all F9 k1 N (fun p hp => (N9 p (.tail _ (.tail _ hp))).1)
  have he := size_fresh (n := 0) kc l4
  have hd := size_fresh (n := 0) kc l5
  refine leave_made (Around.frames_deeper rfl) rfl (fun_here F9 k3 hfun kk rfl) kk (top_none _ k5) he y1 rfl fun h' B th hB => ?_
  exact hR h' _ _ _ _ B th (hB _ _ z1 l3 (off_new rfl hfun hd z2)) hd
end
end Mine
namespace Mine
theorem zr_X6 : True := by
  w_top off
  k_with_none
  k_with "O" => first | decide | ((with_reducible refine rmk (by assumption) ?_); rfl) | ((with_reducible refine rm0 (by assumption) ?_); rfl) | ((with_reducible refine lel (by assumption) ?_); rfl) | ((with_reducible refine llt (by assumption) ?_); rfl) | ((with_reducible refine ltt (by assumption) ?_); rfl) | ((with_reducible refine ltl (by assumption) ?_); rfl) | ((with_reducible refine ilt (by assumption) ?_); rfl) | (with_reducible exact rmz (by assumption)) | (with_reducible assumption)
  exact True.intro
open PySem.Calls
noncomputable def bareL (ns : List Int) : List Int := (ns.reverse.dropWhile (· == 32)).reverse
theorem bare_len (ns : List Int) : (bareL ns).length ≤ ns.length := by
  unfold bareL
  rw [List.length_reverse]
  exact Nat.le_trans (List.Sublist.length_le (List.dropWhile_sublist _)) (by rw [List.length_reverse]; exact Nat.le_refl _)
theorem bare_snoc (ns : List Int) (n : Int) : bareL (ns ++ [n]) = if n = 32 then bareL ns else ns ++ [n] := by
  unfold bareL
  rw [List.reverse_append, List.reverse_singleton, List.singleton_append, List.dropWhile_cons]
  by_cases h : n = 32
  · simp [h]
  · simp [h]
theorem snoc_of {ms : List Int} (h : 0 < (ms.length : Int)) : ms = ms.take (ms.length - 1) ++ [ms.getD (-1 + (ms.length : Int)).toNat 0] := by
  have e : (-1 + (ms.length : Int)).toNat = ms.length - 1 := by (first | k_extra "O" | omega)
  rw [e]
  have hl : ms.length - 1 < ms.length := by (first | k_extra "O" | omega)
  have hd : ms.drop (ms.length - 1) = [ms.getD (ms.length - 1) 0] := by
    rw [List.drop_eq_getElem_cons hl, List.drop_eq_nil_of_le (by (first | k_extra "O" | omega))]
    simp [List.getD_eq_getElem?_getD, hl]
  rw [← hd, List.take_append_drop]
theorem bare_go {ms : List Int} (h : 0 < (ms.length : Int)) (e : ms.getD (-1 + (ms.length : Int)).toNat 0 = 32) : bareL (ms.take (ms.length - 1)) = bareL ms := by
  conv => rhs; rw [snoc_of h]
  rw [bare_snoc, if_pos e]
theorem bare_stop {ms : List Int} (h : 0 < (ms.length : Int)) (e : ms.getD (-1 + (ms.length : Int)).toNat 0 ≠ 32) : bareL ms = ms := by
  conv => lhs; rw [snoc_of h]
  rw [bare_snoc, if_neg e, ← snoc_of h]
theorem bare_nil {ms : List Int} (h : ¬ 0 < (ms.length : Int)) : bareL ms = ms := by
  cases ms with
  | nil => rfl
  | cons a r => exact absurd (by simp only [List.length_cons]; (first | k_extra "O" | omega)) h
theorem News.dup {h₀ h : Heap} {L : Addr} {p : Addr × Obj} (N : News h₀ L h [p]) : News h₀ L h [p, p] := fun q hq => N q (by simpa using hq)
theorem dup_fresh {h g h' : Heap} {a D : Addr} {o : Obj} (k1 : ∀ b y, h.get? b = some y → b ∉ ([(a, o)] : List (Addr × Obj)).map (·.1) → g.get? b = some y) (hD : g.get? D = none) : D = a ∨ h.get? D = none := by
  by_cases e : D = a
  · exact .inl e
  · right
    cases q : h.get? D with
    | none => rfl
    | some x => rw [k1 _ _ q (by simpa using e)] at hD; cases hD
theorem while_M {prog : Program} {w : World} {A : Around} {E : Value → Shared → Prop} {Q : Flow → Shared → Prop} {s : Shared} {env : Env} {h₀ : Heap} {L : Addr} {test : Expr} {body : List Stmt} {pos : Pos} {m : Str → Option Value} {news : List (Addr × Obj)} (J : (Str → Option Value) → Nat → (Str → Option Value) → List (Addr × Obj) → Prop) {n₀ : Nat}
    (F : Fr h₀ L s.heap m) (N : News h₀ L s.heap news) (hE : PassesOwn (model prog w) A env E) (hJ : J m n₀ m news)
    (turn : ∀ n m₁ news₁ h₁ tk₁, J m n m₁ news₁ → Fr h₀ L h₁ m₁ → News h₀ L h₁ news₁ →
      wpAny (model prog w) A (isTrue test env (eval test env)) (fun b s₂ =>
        if b = true then wpAny (model prog w) A (execs body env) (WhileStep h₀ L s (J m) n) E s₂ else Q .next s₂) E { s with heap := h₁, toks := tk₁ }) :
    wpAny (model prog w) A (exec (.While test body [] pos) env) Q E s := While_inv (J m) F N hJ (fun n m₁ n₁ h₁ t F N J => turn n m₁ n₁ h₁ t J F N) hE
section
theorem zw_X6_19 : True := by
  k_with_none
  k_with "O" => first | decide | ((with_reducible refine rmk (by assumption) ?_); rfl) | ((with_reducible refine rm0 (by assumption) ?_); rfl) | ((with_reducible refine lel (by assumption) ?_); rfl) | ((with_reducible refine llt (by assumption) ?_); rfl) | ((with_reducible refine ltt (by assumption) ?_); rfl) | ((with_reducible refine ltl (by assumption) ?_); rfl) | ((with_reducible refine ilt (by assumption) ?_); rfl) | (with_reducible exact rmz (by assumption)) | (with_reducible assumption)
  k_with "ks" => repeat' (first | (k_unfold; (try dsimp only)) | (k_end; wrow_close) | ((fail_if_success (with_reducible show wpAny _ _ (pyIter _) (fun it s₂ => LoopAtV _ _ _ _ _ _ _ _ _ it s₂) _ _)); (fail_if_success (with_reducible show wpAny _ _ (exec (Stmt.While _ _ _ _) _) _ _ _)); (first | k_extra "H" | walk1)) | ((fail_if_success (with_reducible show wpAny _ _ (pyIter _) (fun it s₂ => LoopAtV _ _ _ _ _ _ _ _ _ it s₂) _ _)); (fail_if_success (with_reducible show wpAny _ _ (exec (Stmt.While _ _ _ _) _) _ _ _)); dsimp only; (first | k_extra "H" | walk1)) | fail "no step")
  exact True.intro
set_option maxHeartbeats 4000000 in
theorem bare_code {w : World} {mean : ExcName → Option Value} {mg mb : Str → Option Value} {dp un : Nat} {fr : Option (List Env)} {gd : Option (List Code)} {R : Result → Shared → Prop} {s : Shared} {h₀ : Heap} {a : Addr} {vs : List Value} {ns : List Int} {n : Nat}
    (S : ∀ b o, h₀.get? b = some o → s.heap.get? b = some o) (X₀ : (Mine.hh.heap_1_39 w.params).In h₀) (T : Top Mine.hh.view_1_40 (looseW Mine.hh.view_1_40 [Str.ofString "PyFATException", Str.ofString "errno", Str.ofString "EightDotThree"]) mean mg mb h₀)
    (N : ∀ p ∈ ([(a, listOf vs.toArray n)] : List (Addr × Obj)), s.heap.get? p.1 = some p.2 ∧ h₀.get? p.1 = none)
    (hroom : dp + 10 < recursionLimit) (hI : IntsAre vs ns) (hlen : ns.length ≤ 30) (hun : un + 80 < cLine)
    (hR : ∀ h' tk D ws e, IntsAre ws (bareL ns) → h'.get? D = some (listOf ws.toArray e) → (D = a ∨ s.heap.get? D = none) → (∀ a o, s.heap.get? a = some o → h'.get? a = some o) → R (.ok (.ret (.ref D))) { s with heap := h', toks := tk }) :
    codeAny (model PySem.Challenge.rw_kj0039_01.row.prog w) { handled := none, depth := dp, frames := fr, guards := gd, units := un } (.call (.ref 274) ⟨[.ref a], []⟩) R s := by
  revert X₀; k_fill; intro X₀
  refine' enter (f := 274) (mm := (fun zq => List.lookup zq [(Str.ofString "signs", .ref a)])) S X₀ T N ?ho ?hcd ?hr ?hb ?hmm ?hloc ?_ ?c1 ?c2 ?c3 ?c4
  case ho => k_is
  case hcd => k_is
  case hr => show dp < recursionLimit; (first | k_extra "O" | omega)
  case hb => exact BindsTo.of_eq rfl
  case hmm => first | rfl | kernel_rfl | with_unfolding_all rfl
  case hloc => exact locs rfl
  case c1 => exact rfl
  case c2 => exact rfl
  case c3 => exact rfl
  case c4 => decide
  intro g L' h₁ tkA k1 k2 k3 F' N' X' T' k4 k5
  (try dsimp only)
  k_fold
  walk_at "ks"
  (rename Fr _ _ _ _ => lF')
  (rename News _ _ _ _ => lN')
  refine' while_M (fun m₀ k m nx => ∃ D vs' e, m = (fun y => if y = Str.ofString "signs" then some (.ref D) else m₀ y) ∧ nx = [(D, listOf vs'.toArray e), (a, listOf vs.toArray n)] ∧ ∃ ms, IntsAre vs' ms ∧ bareL ms = bareL ns ∧ ms.length = k ∧ ms.length ≤ 30) (n₀ := ns.length) lF' (News.dup lN') (by passes_own) ?k5 ?_
  case k5 =>
    refine' ⟨a, vs, n, ?m, rfl, ns, hI, rfl, rfl, hlen⟩
    case m => 
      refine funext fun y => ?_
      by_cases hq0 : y = Str.ofString "signs"
      · subst hq0; with_unfolding_all rfl
      simp only [if_neg hq0]
  rintro i _ _ h tk ⟨D, vs', e, rfl, rfl, ms, hI', hms, hml, hm30⟩ F N
  dsimp only
  walk_at "ks"
  · (rename Fr _ _ _ _ => F9)
    (rename News _ _ _ _ => N9)
    refine' WhileStep.intro (n' := i - 1) F9 (fun p hp => N9 p ?w) ?w2 ⟨_, _, _, ?a1, rfl, _, (by assumption), ?a3, ?a4, ?a5⟩
    case a1 =>
      refine funext fun y => ?_
      by_cases hq0 : y = Str.ofString "signs"
      · subst hq0; with_unfolding_all rfl
      simp only [if_neg hq0]
    case w => rcases List.mem_cons.mp hp with rfl | hp
              · exact .head _
              · exact .tail _ (.tail _ hp)
    case w2 => (first | k_extra "O" | omega)
    case a3 => rw [bare_go (by assumption) (by assumption)]; exact hms
    case a4 => rw [List.length_take]; (first | k_extra "O" | omega)
    case a5 => rw [List.length_take]; (first | k_extra "O" | omega)
  all_goals (
    have hb : bareL ms = ms := by first | exact bare_nil (by assumption) | exact bare_stop (by assumption) (by assumption)
    (rename Fr _ _ _ _ => F9)
    (rename News _ _ _ _ => N9)
    have hD := N9 _ (.head _)
    (try (k_unfold; dsimp only))
    exact hR _ _ _ _ _ (by rw [← hms, hb]; exact hI') hD.1 (dup_fresh (h' := h) k1 hD.2.2) (kept_all F9 k1 N (fun p hp => (N9 p (.tail _ hp)).1)))
end
theorem zw_X6_20 : True := by
  k_with_none
  k_with "O" => first | decide | ((with_reducible refine rmk (by assumption) ?_); rfl) | ((with_reducible refine rm0 (by assumption) ?_); rfl) | ((with_reducible refine lel (by assumption) ?_); rfl) | ((with_reducible refine llt (by assumption) ?_); rfl) | ((with_reducible refine ltt (by assumption) ?_); rfl) | ((with_reducible refine ltl (by assumption) ?_); rfl) | ((with_reducible refine ilt (by assumption) ?_); rfl) | (with_reducible exact rmz (by assumption)) | (with_reducible assumption)
  exact True.intro
theorem bare_K {w : World} {mean : ExcName → Option Value} {mg mb : Str → Option Value} {dp un : Nat} {fr : Option (List Env)} {gd : Option (List Code)} {E : Value → Shared → Prop} {s : Shared} {h₀ : Heap} {L : Addr} {m : Str → Option Value} {news : List (Addr × Obj)} {Q : Value → Shared → Prop} {a : Addr} {vs : List Value} {ns : List Int} {n : Nat}
    (F : Fr h₀ L s.heap m) (X₀ : (Mine.hh.heap_1_39 w.params).In h₀) (N : News h₀ L s.heap news) (T : Top Mine.hh.view_1_40 (looseW Mine.hh.view_1_40 [Str.ofString "PyFATException", Str.ofString "errno", Str.ofString "EightDotThree"]) mean mg mb h₀) (ha : (a, listOf vs.toArray n) ∈ news) (hroom : dp + 10 < recursionLimit) (hI : IntsAre vs ns) (hlen : ns.length ≤ 30) (hun : un + 80 < cLine)
    (h : ∀ h' D ws e tk bs, bs = bareL ns → bs.length ≤ ns.length → Fr h₀ L h' m → News h₀ L h' ((D, listOf ws.toArray e) :: news) → IntsAre ws bs → Q (.ref D) { s with heap := h', toks := tk }) :
    wpAny (model PySem.Challenge.rw_kj0039_01.row.prog w) { handled := none, depth := dp, frames := fr, guards := gd, units := un } (call (.ref 274) [.ref a]) Q E s := by
  refine wpAny_call (bare_code (n := n) F.keep X₀ T (fun p hp => ?_) hroom hI hlen hun fun h' tk D ws e a1 a2 a3 a4 => ?_)
  · rw [List.mem_singleton.mp hp]
    exact ⟨(N _ ha).1, (N _ ha).2.2⟩
  · refine h h' D ws e tk _ rfl (bare_len ns) (F.keptAll a4) (fun p hp => ?_) a1
    rcases List.mem_cons.mp hp with rfl | hp
    · rcases a3 with rfl | a3
      · exact ⟨a2, (N _ ha).2⟩
      · obtain ⟨_, N', _⟩ := fresh_K F N a4 a3 a2
        exact N' _ (.head _)
    · exact ⟨a4 _ _ (N p hp).1, (N p hp).2⟩
end Mine
namespace Mine
theorem zr_X7 : True := by
  w_top off
  k_with_none
  k_with "O" => first | decide | ((with_reducible refine rmk (by assumption) ?_); rfl) | ((with_reducible refine rm0 (by assumption) ?_); rfl) | ((with_reducible refine lel (by assumption) ?_); rfl) | ((with_reducible refine llt (by assumption) ?_); rfl) | ((with_reducible refine ltt (by assumption) ?_); rfl) | ((with_reducible refine ltl (by assumption) ?_); rfl) | ((with_reducible refine ilt (by assumption) ?_); rfl) | (with_reducible exact rmz (by assumption)) | (with_reducible assumption)
  exact True.intro
open PySem.Calls
section
variable {w : World} {A : Around} {E : Value → Shared → Prop} {s : Shared} {mg mb : Str → Option Value} {mean : ExcName → Option Value} {h₀ : Heap} {m : Str → Option Value} {p : Program} {loose : List Str} {K : Frag} {env : Env} {news : List (Addr × Obj)}
/-- what stands when the source of `y = [ord(x) for x in ..]` is read. -/
noncomputable def OrdAt (h₀ : Heap) (L : Addr) (m : Str → Option Value) (news : List (Addr × Obj)) (y : Str) (Q : Flow → Shared → Prop) (xv : Value) (s₁ : Shared) : Prop :=
  ∃ tx t, xv = .str tx t ∧ tx.length ≤ 1000 ∧ Fr h₀ L s₁.heap m ∧ News h₀ L s₁.heap news ∧ ∀ D vs n h' tk, Fr h₀ L h' (fun z => if z = y then some (.ref D) else m z) → News h₀ L h' ((D, listOf vs.toArray n) :: news) → (∀ p ∈ news, p.1 ≠ D) → IntsAre vs (ords tx) → vs.length = tx.length → Q .next { s₁ with heap := h', toks := tk }
theorem ord_assign {scope : Scope} {x y : Str} {p1 p2 p3 px py pos spos : Pos} {iter : Expr} {Q : Flow → Shared → Prop} (F₀ : Fr h₀ env.locals s.heap m) (X₀ : K.In h₀) (N₀ : News h₀ env.locals s.heap news) (T : Top p loose mean mg mb h₀) (hh : A.handled = none)
    (hsw : swapsWith (.ListComp (.Call (.Name "ord" p1) [.Name x p2] [] p3) [⟨.Name x px, iter, [], 0⟩] scope pos) (some (.Name y py)) spos.line env = pure true)
    (e1 : nsIn K mainGlobals "ord" = some none)
    (hfree : ∀ y ∈ scope.names, y.2 ≠ .free) (hcell : ∀ y ∈ scope.names, y.2 ≠ .cell) (hk : scope.kind = .function)
    (hnames : ∀ y ∈ scope.names, y.2 = .local → scope.names.lookup y.1 = some .local) (hx : scope.names.lookup x = some .local) (hf : scope.names.lookup ("ord" : Str) = some .globalImplicit)
    (hy : env.kindOf y = some .local) (hp : (env.scope.kind == .class || (env.scope.kind == .module && env.locals != env.globals)) = false)
    (hgl : env.globals = mainGlobals) (hbl : env.builtins = builtinsNs) (hd2 : (x == ("__debug__" : Str)) = false) (hs : ∀ x, foldedSetIterable iter env x = pure x)
    (h : wpAny (model PG w) A (eval iter env) (OrdAt h₀ env.locals m news y Q) E s) :
    wpAny (model PG w) A (exec (.Assign [.Name y py] (.ListComp (.Call (.Name "ord" p1) [.Name x p2] [] p3) [⟨.Name x px, iter, [], 0⟩] scope pos) spos) env) Q E s := by
  have hmiss := mg_none_of X₀ T.g e1
  have hb : mb "ord" = some (.builtin "ord") := (T.builtins _ (by decide +kernel)).trans (by first | boot_by_name | rfl | kernel_rfl)
  refine wpAny_Assign_ListComp_walk (fun _ => true) OrdF hsw hfree hcell hk hnames hx hy hp (wpAny_mono h (fun xv s₁ h₁ => ?_) fun _ _ e => e) hs
  obtain ⟨tx, t, rfl, hlen, F, N, hQ⟩ := h₁
  refine wpAny_pyIter_str fun o St W hst => ?_
  have up : ∀ b o', s₁.heap.get? b = some o' → (s₁.heap.push o).get? b = some o' := fun b o' e => Heap.get?_push_of_some _ e
  have G := (T.g.keeps F.keep).keeps up
  have B := (T.b.keeps F.keep).keeps up
  have nw : ∀ a, a < s₁.heap.objs.size → a ∉ [s₁.heap.objs.size] := fun a ha hm => Nat.lt_irrefl _ ((List.mem_singleton.mp hm) ▸ ha)
  have hsz : tx.cps.size ≤ sizeLine := by rw [sizeLine_eq]; have : tx.length = tx.cps.size := rfl; (first | k_extra "O" | omega)
  refine ⟨s₁.heap.objs.size, [s₁.heap.objs.size], [s₁.heap.objs.size], tx.cps.size, SignAt tx, St, m, rfl, W A hh, hsz, hst, ?_, nw _ (ns_lt F.ns), F.ns.keeps up, ⟨?_, ?_⟩, ?_⟩
  · intro b hb
    show b < (s₁.heap.push o).objs.size
    rw [Heap.size_push, List.mem_singleton.mp hb]
    exact Nat.lt_succ_self _
  · intro C i v s₃ m₃ E' hP hn hm hk htk
    exact wpAny_pure ⟨rfl, s₃.heap, s₃.toks, rfl, fun _ _ e => e⟩
  · intro C i v s₃ m₃ E' hP _ hn hm hk3 htk
    have G3 : s₃.heap.Ns mainGlobals mg := G.at' fun o e => hk3 _ o (nw _ (ns_lt (T.g.keeps F.keep))) e
    have B3 : s₃.heap.Ns builtinsNs mb := B.at' fun o e => hk3 _ o (nw _ (ns_lt (T.b.keeps F.keep))) e
    refine elt_bi hk hx hf hgl hbl G3 B3 hmiss hb hn hm ?_ (by decide) hd2
    obtain ⟨c, u, hc, rfl⟩ := hP
    exact P.ord_of_char ⟨⟨c, u, _, rfl, rfl⟩, s₃.heap, _, rfl, fun _ _ e => e⟩
  · intro D h' tk ys vs hD hl hpl hlen' hP hF hns hk3
    have e : vs.filter (fun _ => true) = vs := List.filter_eq_self.mpr fun a _ => rfl
    rw [e] at hF
    obtain ⟨g1, g2⟩ := paired_get hF
    have hD' : s₁.heap.get? D = none := by
      cases q : s₁.heap.get? D with
      | none => rfl
      | some o' => rw [up _ _ q] at hD; cases hD
    obtain ⟨n, hn⟩ := hpl
    have kL : ∀ b o', b ≠ env.locals → s₁.heap.get? b = some o' → h'.get? b = some o' := fun b o' ne q => hk3 b o' ne (nw _ (Heap.lt_size q)) (up b o' q)
    have hDL : D ≠ env.locals := fun q => by
      obtain ⟨oL, _, _, hL, _⟩ := F.ns
      rw [q, hL] at hD'; cases hD'
    have kb : ∀ b o', h₀.get? b = some o' → h'.get? b = some o' := fun b o' q => kL b o' (fun z => absurd (Nat.lt_of_lt_of_le (Heap.lt_size q) F.above) (by rw [z]; exact Nat.lt_irrefl _)) (F.keep _ _ q)
    have hl8 : vs.length = ys.toList.length := g1
    refine hQ D ys.toList n h' tk ⟨hns, kb, F.above⟩ (fun p hp => ?_) (fun p hp e => ?_) (ints_of (by simp [ords]; show ys.size = tx.cps.size; rw [← hlen', hl8]; simp) fun j r hj => ?_) (by rw [← g1, hlen']; rfl)
    · rcases List.mem_cons.mp hp with rfl | hp
      · refine ⟨by simpa using hn, hDL, ?_⟩
        cases q : h₀.get? D with
        | none => rfl
        | some o' => have := F.keep _ _ q; rw [hD'] at this; cases this
      · exact ⟨kL _ _ (N p hp).2.1 (N p hp).1, (N p hp).2⟩
    · rw [← e, (N p hp).1] at hD'; cases hD'
    · obtain ⟨v, hv, hf⟩ := g2 j r hj
      obtain ⟨c, u, hc, rfl⟩ := hP j v hv
      obtain ⟨c', t', u', e1, e2⟩ := hf
      cases e1
      exact ⟨_, u', by simp [ords, hc], e2⟩
end
end Mine
namespace Mine
theorem zr_X8 : True := by
  w_top off
  k_with_none
  k_with "O" => first | decide | ((with_reducible refine rmk (by assumption) ?_); rfl) | ((with_reducible refine rm0 (by assumption) ?_); rfl) | ((with_reducible refine lel (by assumption) ?_); rfl) | ((with_reducible refine llt (by assumption) ?_); rfl) | ((with_reducible refine ltt (by assumption) ?_); rfl) | ((with_reducible refine ltl (by assumption) ?_); rfl) | ((with_reducible refine ilt (by assumption) ?_); rfl) | (with_reducible exact rmz (by assumption)) | (with_reducible assumption)
  exact True.intro
open PySem.Calls
noncomputable def frontL (ns : List Int) : List Int := ns.dropWhile (· == 32)
theorem front_cons (n : Int) (ns : List Int) : frontL (n :: ns) = if n = 32 then frontL ns else n :: ns := by
  unfold frontL
  rw [List.dropWhile_cons]
  by_cases h : n = 32 <;> simp [h]
theorem front_len (ns : List Int) : (frontL ns).length ≤ ns.length := List.Sublist.length_le (List.dropWhile_sublist _)
theorem ints_pack {vs : List Value} {y : Str} (h : IntsAre vs (ords y)) : ∃ ns, IntsAre vs ns ∧ ns = ords y ∧ ns.length = y.length := ⟨_, h, rfl, by simp [ords]; rfl⟩
theorem News.dupH {h₀ h : Heap} {L : Addr} {p : Addr × Obj} {news : List (Addr × Obj)} (N : News h₀ L h (p :: news)) : News h₀ L h (p :: p :: news) := fun q hq => by
  rcases List.mem_cons.mp hq with rfl | hq
  · exact N _ (.head _)
  · exact N q hq
/-- the end of a while that strips a list of ints held in x. -/
noncomputable def StripEnd (h₀ : Heap) (L : Addr) (x : Str) (f : List Int → List Int) (ns : List Int) (m : Str → Option Value) (led : List (Addr × Obj)) (s₀ : Shared) (fl : Flow) (s₂ : Shared) : Prop :=
  fl = .next ∧ ∃ D vs e h tk, s₂ = { s₀ with heap := h, toks := tk } ∧ Fr h₀ L h (fun y => if y = x then some (.ref D) else m y) ∧ News h₀ L h ((D, listOf vs.toArray e) :: led) ∧ IntsAre vs (f ns)
theorem StripEnd.intro {h₀ h : Heap} {L D : Addr} {x : Str} {f : List Int → List Int} {ns ms : List Int} {m : Str → Option Value} {led : List (Addr × Obj)} {s₀ : Shared} {vs : List Value} {e tk : Nat} (F : Fr h₀ L h (fun y => if y = x then some (.ref D) else m y)) (N : News h₀ L h ((D, listOf vs.toArray e) :: led)) (hI : IntsAre vs ms) (e1 : f ms = f ns) (e2 : f ms = ms) :
    StripEnd h₀ L x f ns m led s₀ .next { s₀ with heap := h, toks := tk } := ⟨rfl, D, vs, e, h, tk, rfl, F, N, by rw [← e1, e2]; exact hI⟩
theorem while_strip {prog : Program} {w : World} {A : Around} {E : Value → Shared → Prop} {Q : Flow → Shared → Prop} {s : Shared} {env : Env} {h₀ : Heap} {L D₀ : Addr} {test : Expr} {body : List Stmt} {pos : Pos} {m : Str → Option Value} {led : List (Addr × Obj)} {vs₀ : List Value} {e₀ : Nat} {ns : List Int} (x : Str) (f : List Int → List Int)
    (F : Fr h₀ L s.heap m) (N : News h₀ L s.heap ((D₀, listOf vs₀.toArray e₀) :: led)) (hE : PassesOwn (model prog w) A env E) (hI : IntsAre vs₀ ns) (hl : ns.length ≤ 20) (hm : m x = some (.ref D₀))
    (turn : ∀ D vs e ms h tk, IntsAre vs ms → f ms = f ns → ms.length ≤ 20 → Fr h₀ L h (fun y => if y = x then some (.ref D) else m y) → News h₀ L h ((D, listOf vs.toArray e) :: (D₀, listOf vs₀.toArray e₀) :: led) →
      wpAny (model prog w) A (isTrue test env (eval test env)) (fun b s₂ =>
        if b = true then wpAny (model prog w) A (execs body env) (WhileStep h₀ L s (fun k m' nx => ∃ D vs e, m' = (fun y => if y = x then some (.ref D) else m y) ∧ nx = (D, listOf vs.toArray e) :: (D₀, listOf vs₀.toArray e₀) :: led ∧ ∃ ms, IntsAre vs ms ∧ f ms = f ns ∧ ms.length = k ∧ ms.length ≤ 20) ms.length) E s₂
        else StripEnd h₀ L x f ns m ((D₀, listOf vs₀.toArray e₀) :: led) s .next s₂) E { s with heap := h, toks := tk })
    (rest : ∀ D vs e h tk, Fr h₀ L h (fun y => if y = x then some (.ref D) else m y) → News h₀ L h ((D, listOf vs.toArray e) :: (D₀, listOf vs₀.toArray e₀) :: led) → IntsAre vs (f ns) → Q .next { s with heap := h, toks := tk }) :
    wpAny (model prog w) A (exec (.While test body [] pos) env) Q E s := by
  refine wpAny_mono (Q := StripEnd h₀ L x f ns m ((D₀, listOf vs₀.toArray e₀) :: led) s) (While_inv (fun k m' nx => ∃ D vs e, m' = (fun y => if y = x then some (.ref D) else m y) ∧ nx = (D, listOf vs.toArray e) :: (D₀, listOf vs₀.toArray e₀) :: led ∧ ∃ ms, IntsAre vs ms ∧ f ms = f ns ∧ ms.length = k ∧ ms.length ≤ 20) (n₀ := ns.length) F (News.dupH N) ⟨D₀, vs₀, e₀, ?_, rfl, ns, hI, rfl, rfl, hl⟩ ?_ hE) (fun fl s₂ q => ?_) fun _ _ e => e
  · funext y
    by_cases hy : y = x
    · rw [if_pos hy, hy, hm]
    · rw [if_neg hy]
  · rintro n _ _ h tk F₁ N₁ ⟨D, vs, e, rfl, rfl, ms, hI', e1, rfl, hl'⟩
    exact turn D vs e ms h tk hI' e1 hl' F₁ N₁
  · obtain ⟨rfl, D, vs, e, h, tk, rfl, F₁, N₁, hI₁⟩ := q
    exact rest D vs e h tk F₁ N₁ hI₁
theorem front_go {ms : List Int} (h : 0 < (ms.length : Int)) (e : ms.getD (Int.toNat 0) 0 = 32) : frontL (ms.drop 1) = frontL ms := by
  cases ms with
  | nil => simp at h
  | cons a r =>
    have e : a = 32 := e
    rw [front_cons, if_pos e]; rfl
theorem front_stop {ms : List Int} (h : 0 < (ms.length : Int)) (e : ms.getD (Int.toNat 0) 0 ≠ 32) : frontL ms = ms := by
  cases ms with
  | nil => rfl
  | cons a r =>
    have e : a ≠ 32 := e
    rw [front_cons, if_neg e]
theorem front_nil {ms : List Int} (h : ¬ 0 < (ms.length : Int)) : frontL ms = ms := by
  cases ms with
  | nil => rfl
  | cons a r => exact absurd (by simp only [List.length_cons]; (first | k_extra "O" | omega)) h
theorem News.skip2 {h₀ h : Heap} {L : Addr} {p q : Addr × Obj} {news : List (Addr × Obj)} (N : News h₀ L h (p :: q :: news)) : News h₀ L h (p :: news) := fun r hr => by
  rcases List.mem_cons.mp hr with rfl | hr
  · exact N _ (.head _)
  · exact N r (.tail _ (.tail _ hr))
theorem ints_any {vs : List Value} {ns : List Int} (h : IntsAre vs ns) : ∃ ms, IntsAre vs ms ∧ ms = ns ∧ ms.length = ns.length := ⟨_, h, rfl, rfl⟩
noncomputable def padI (n : Nat) (ns : List Int) : List Int := ns ++ List.replicate (n - ns.length) 32
noncomputable def stripI (l : List Nat) : List Int := bareL (frontL (l.map fun c => ((c : Nat) : Int)))
noncomputable def laidL (l : List Nat) : List Int := padI 8 (stripI (partsL l).1) ++ padI 3 (stripI (partsL l).2)
theorem pad_flat (n : Nat) (ns : List Int) : (List.replicate ((n : Int) - (ns.length : Int)).toNat [(32 : Int)]).flatten = List.replicate (n - ns.length) 32 := by
  have : ((n : Int) - (ns.length : Int)).toNat = n - ns.length := by (first | k_extra "O" | omega)
  rw [this]
  induction (n - ns.length) with
  | zero => rfl
  | succ k ih => rw [List.replicate_succ, List.flatten_cons, ih]; rfl
theorem laid_eq {l : List Nat} {r e : Str} {ns nsb b1 b2 la res : List Int} (h : partsL l = (r.cps.toList, e.cps.toList)) (e1 : ns = ords r) (e2 : nsb = ords e) (h1 : b1 = bareL (frontL ns)) (h2 : b2 = bareL (frontL nsb))
    (hl : la = [] ++ b1 ++ (List.replicate ((8 : Int) - (b1.length : Int)).toNat [(32 : Int)]).flatten) (hr : res = la ++ b2 ++ (List.replicate ((3 : Int) - (b2.length : Int)).toNat [(32 : Int)]).flatten) : res = laidL l := by
  subst e1 e2
  have p8 : (List.replicate ((8 : Int) - (b1.length : Int)).toNat [(32 : Int)]).flatten = List.replicate (8 - b1.length) 32 := pad_flat 8 b1
  have p3 : (List.replicate ((3 : Int) - (b2.length : Int)).toNat [(32 : Int)]).flatten = List.replicate (3 - b2.length) 32 := pad_flat 3 b2
  rw [hr, hl, p8, p3]
  unfold laidL padI stripI
  rw [h]
  dsimp only
  show [] ++ b1 ++ List.replicate (8 - b1.length) 32 ++ b2 ++ List.replicate (3 - b2.length) 32 = (bareL (frontL (ords r)) ++ List.replicate (8 - (bareL (frontL (ords r))).length) 32) ++ (bareL (frontL (ords e)) ++ List.replicate (3 - (bareL (frontL (ords e))).length) 32)
  rw [← h1, ← h2]
  simp
section
theorem zw_X8_21 : True := by
  k_with_none
  k_with "O" => first | decide | ((with_reducible refine rmk (by assumption) ?_); rfl) | ((with_reducible refine rm0 (by assumption) ?_); rfl) | ((with_reducible refine lel (by assumption) ?_); rfl) | ((with_reducible refine llt (by assumption) ?_); rfl) | ((with_reducible refine ltt (by assumption) ?_); rfl) | ((with_reducible refine ltl (by assumption) ?_); rfl) | ((with_reducible refine ilt (by assumption) ?_); rfl) | (with_reducible exact rmz (by assumption)) | (with_reducible assumption)
  k_with "ks" => repeat' (first | (k_unfold; (try dsimp only)) | (k_end; wrow_close) | ((fail_if_success (with_reducible show wpAny _ _ (pyIter _) (fun it s₂ => LoopAtV _ _ _ _ _ _ _ _ _ it s₂) _ _)); (fail_if_success (with_reducible show wpAny _ _ (exec (Stmt.While _ _ _ _) _) _ _ _)); (fail_if_success (with_reducible show wpAny _ _ (exec (Stmt.Assign [Expr.Name _ _] (Expr.ListComp _ _ _ _) _) _) _ _ _)); (first | k_extra "H" | walk1)) | ((fail_if_success (with_reducible show wpAny _ _ (pyIter _) (fun it s₂ => LoopAtV _ _ _ _ _ _ _ _ _ it s₂) _ _)); (fail_if_success (with_reducible show wpAny _ _ (exec (Stmt.While _ _ _ _) _) _ _ _)); (fail_if_success (with_reducible show wpAny _ _ (exec (Stmt.Assign [Expr.Name _ _] (Expr.ListComp _ _ _ _) _) _) _ _ _)); dsimp only; (first | k_extra "H" | walk1)) | fail "no step")
  k_with "H" => ((with_reducible show wpAny _ _ (exec (Stmt.Assign [Expr.Name _ _] (Expr.ListComp _ _ _ _) _) _) _ _ _); (k_here; k_dflt (refine' ord_assign ?k1 ?k2 ?k3 ?k4 ?k5 ?c1 ?c2 ?c3 ?c4 ?c5 ?c6 ?c7 ?c8 ?c9 ?d1 ?d2 ?d3 ?d4 ?d5 ?_; (case k1 => k_asm); (case k2 => k_asm); (case k3 => k_asm); (case k4 => k_asm); (case k5 => rfl); (case c1 => with_unfolding_all rfl); (case c2 => k_is); (case c3 => decide); (case c4 => decide); (case c5 => rfl); (case c6 => decide); (case c7 => rfl); (case c8 => rfl); (case c9 => rfl); (case d1 => rfl); (case d2 => rfl); (case d3 => rfl); (case d4 => decide); (case d5 => intro _; rfl)); walk1; refine ⟨_, _, rfl, by (first | k_extra "O" | omega), by assumption, by assumption, ?_⟩; intro _ _ _ _ _ zzF zzN _ _ _; (try dsimp only at zzF zzN)))
  k_with "H" => (k_here; (with_reducible show wpAny _ _ (call (Value.ref 260) _) _ _ _); k_dflt (refine' parts_K ?k1 ?k2 ?k3 ?k4 ?k5 ?k6 ?k7 ?k8 ?_; (case k1 => k_asm); (case k2 => k_asm); (case k3 => k_asm); (case k4 => k_asm); (case k5 => (dsimp only [Around.deeper]; (first | k_extra "O" | omega))); (case k6 => (first | k_extra "O" | omega)); (case k7 => assumption); (case k8 => (dsimp only [Around.deeper]; (first | k_extra "O" | omega))); k_whole); intro _ _ _ _ _ _ _ _ _ _ _ _)
  k_with "H" => (k_here; (with_reducible show wpAny _ _ (call (Value.ref 274) _) _ _ _); k_dflt (refine' bare_K ?k1 ?k2 ?k3 ?k4 ?k9 ?k5 ?k6 ?k7 ?k8 ?_; (case k1 => k_asm); (case k2 => k_asm); (case k3 => k_asm); (case k4 => k_asm); (case k9 => k_mem); (case k5 => (dsimp only [Around.deeper]; (first | k_extra "O" | omega))); (case k6 => with_reducible assumption); (case k7 => (first | k_extra "O" | omega)); (case k8 => (dsimp only [Around.deeper]; (first | k_extra "O" | omega))); k_whole); intro _ _ _ _ _ _ _ _ _ _ _)
  exact True.intro
set_option maxHeartbeats 4000000 in
theorem laid_code {w : World} {mean : ExcName → Option Value} {mg mb : Str → Option Value} {dp un : Nat} {fr : Option (List Env)} {gd : Option (List Code)} {R : Result → Shared → Prop} {s : Shared} {h₀ : Heap} {x : Str} {t : Tok}
    (S : ∀ b o, h₀.get? b = some o → s.heap.get? b = some o) (X₀ : (Mine.hh.heap_1_39 w.params).In h₀) (T : Top Mine.hh.view_1_40 (looseW Mine.hh.view_1_40 [Str.ofString "PyFATException", Str.ofString "errno", Str.ofString "EightDotThree"]) mean mg mb h₀)
    (N : ∀ p ∈ ([] : List (Addr × Obj)), s.heap.get? p.1 = some p.2 ∧ h₀.get? p.1 = none)
    (hroom : dp + 20 < recursionLimit) (hx : x.length ≤ 20) (hal : ∀ c ∈ x.cps.toList, c ∈ alph) (hun : un + 100 < cLine)
    (hR : ∀ h' D ws e tk, s.heap.get? D = none → (∀ a o, s.heap.get? a = some o → h'.get? a = some o) → h'.get? D = some (listOf ws.toArray e) → IntsAre ws (laidL x.cps.toList) → R (.ok (.ret (.ref D))) { s with heap := h', toks := tk }) :
    codeAny (model PySem.Challenge.rw_kj0039_01.row.prog w) { handled := none, depth := dp, frames := fr, guards := gd, units := un } (.call (.ref 279) ⟨[.str x t], []⟩) R s := by
  revert X₀; k_fill; intro X₀
  refine' enter (f := 279) (mm := (fun zq => List.lookup zq [(Str.ofString "text", .str x t)])) S X₀ T N ?ho ?hcd ?hr ?hb ?hmm ?hloc ?_ ?c1 ?c2 ?c3 ?c4
  case ho => k_is
  case hcd => k_is
  case hr => show dp < recursionLimit; (first | k_extra "O" | omega)
  case hb => exact BindsTo.of_eq rfl
  case hmm => first | rfl | kernel_rfl | with_unfolding_all rfl
  case hloc => exact locs rfl
  case c1 => exact rfl
  case c2 => exact rfl
  case c3 => exact rfl
  case c4 => decide
  intro g L' h₁ tkA k1 k2 k3 F' N' X' T' k4 k5
  (try dsimp only)
  k_fold
  walk_at "ks"
  k_here
  refine' ord_assign ?k1 ?k2 ?k3 ?k4 ?k5 ?c1 ?c2 ?c3 ?c4 ?c5 ?c6 ?c7 ?c8 ?c9 ?d1 ?d2 ?d3 ?d4 ?d5 ?_
  (case k1 => k_asm)
  (case k2 => k_asm)
  (case k3 => k_asm)
  (case k4 => k_asm)
  (case k5 => rfl)
  (case c1 => with_unfolding_all rfl)
  (case c2 => k_is)
  (case c3 => decide)
  (case c4 => decide)
  (case c5 => rfl)
  (case c6 => decide)
  (case c7 => rfl)
  (case c8 => rfl)
  (case c9 => rfl)
  (case d1 => rfl)
  (case d2 => rfl)
  (case d3 => rfl)
  (case d4 => decide)
  (case d5 => intro _; rfl)
  walk1
  refine ⟨_, _, rfl, by (first | k_extra "O" | omega), by assumption, by assumption, ?_⟩
  intro D1 vs1 n1 h1 tk1 F1 N1 l1 q3 q4
  dsimp only at F1 N1 ⊢
  obtain ⟨ns, hns, ens, lns⟩ := ints_pack q3
  walk_at "ks"
  refine' while_strip (Str.ofString "octets") frontL F1 N1 (by passes_own) hns ?hl (by with_unfolding_all rfl) ?turn ?_
  case hl => (first | k_extra "O" | omega)
  case turn =>
    intro D vs' e ms h tk hI' hms hm30 F N
    dsimp only
    walk_at "ks"
    · (rename Fr _ _ _ _ => F9)
      (rename News _ _ _ _ => N9)
      refine' WhileStep.intro (n' := ms.length - 1) F9 (News.skip2 N9) ?w2 ⟨_, _, _, ?a1, rfl, _, (by assumption), ?a3, ?a4, ?a5⟩
      case a1 =>
        refine funext fun y => ?_
        by_cases hq0 : y = Str.ofString "octets"
        · subst hq0; with_unfolding_all rfl
        simp only [if_neg hq0]
      case w2 => (first | k_extra "O" | omega)
      case a3 => rw [front_go (by assumption) (by assumption)]; exact hms
      case a4 => rw [List.length_drop]
      case a5 => rw [List.length_drop]; (first | k_extra "O" | omega)
    all_goals (
      have hb : frontL ms = ms := by first | exact front_nil (by assumption) | exact front_stop (by assumption) (by assumption)
      (rename Fr _ _ _ _ => F9)
      (rename News _ _ _ _ => N9)
      exact StripEnd.intro F9 N9 hI' hms hb)
  intro D2 vs2 n2 h2 tk2 F2 N2 hI2
  have hl2 := front_len ns
  have h0 : IntsAre ([] : List Value) ([] : List Int) := .nil
  dsimp only at F2 N2 ⊢
  walk_at "ks"
  (rename IntsAre _ ([] ++ _ ++ _) => hL1)
  (rename (_ = bareL _) => eb1)
  obtain ⟨la, hla, ela, lla⟩ := ints_any hL1
  k_here
  refine' ord_assign ?k1 ?k2 ?k3 ?k4 ?k5 ?c1 ?c2 ?c3 ?c4 ?c5 ?c6 ?c7 ?c8 ?c9 ?d1 ?d2 ?d3 ?d4 ?d5 ?_
  (case k1 => k_asm)
  (case k2 => k_asm)
  (case k3 => k_asm)
  (case k4 => k_asm)
  (case k5 => rfl)
  (case c1 => with_unfolding_all rfl)
  (case c2 => k_is)
  (case c3 => decide)
  (case c4 => decide)
  (case c5 => rfl)
  (case c6 => decide)
  (case c7 => rfl)
  (case c8 => rfl)
  (case c9 => rfl)
  (case d1 => rfl)
  (case d2 => rfl)
  (case d3 => rfl)
  (case d4 => decide)
  (case d5 => intro _; rfl)
  walk1
  refine ⟨_, _, rfl, by (first | k_extra "O" | omega), by assumption, by assumption, ?_⟩
  intro D1b vs1b n1b h1b tk1b F1b N1b l1b q3b q4b
  dsimp only at F1b N1b ⊢
  obtain ⟨nsb, hnsb, ensb, lnsb⟩ := ints_pack q3b
  walk_at "ks"
  refine' while_strip (Str.ofString "octets") frontL F1b N1b (by passes_own) hnsb ?hl (by with_unfolding_all rfl) ?turn ?_
  case hl => (first | k_extra "O" | omega)
  case turn =>
    intro D vs' e ms h tk hI' hms hm30 F N
    dsimp only
    walk_at "ks"
    · (rename Fr _ _ _ _ => F9)
      (rename News _ _ _ _ => N9)
      refine' WhileStep.intro (n' := ms.length - 1) F9 (News.skip2 N9) ?w2 ⟨_, _, _, ?a1, rfl, _, (by assumption), ?a3, ?a4, ?a5⟩
      case a1 =>
        refine funext fun y => ?_
        by_cases hq0 : y = Str.ofString "octets"
        · subst hq0; with_unfolding_all rfl
        simp only [if_neg hq0]
      case w2 => (first | k_extra "O" | omega)
      case a3 => rw [front_go (by assumption) (by assumption)]; exact hms
      case a4 => rw [List.length_drop]
      case a5 => rw [List.length_drop]; (first | k_extra "O" | omega)
    all_goals (
      have hb : frontL ms = ms := by first | exact front_nil (by assumption) | exact front_stop (by assumption) (by assumption)
      (rename Fr _ _ _ _ => F9)
      (rename News _ _ _ _ => N9)
      exact StripEnd.intro F9 N9 hI' hms hb)
  intro D2b vs2b n2b h2b tk2b F2b N2b hI2b
  have hl2b := front_len nsb
  have h0b : IntsAre ([] : List Value) ([] : List Int) := .nil
  dsimp only at F2b N2b ⊢
  walk_at "ks"
  (rename IntsAre _ (la ++ _ ++ _) => hL2)
  (rename (_ = bareL (frontL nsb)) => eb2)
  (rename (partsL _ = _) => q1)
  (rename Fr _ _ _ _ => F9)
  (rename News _ _ _ _ => N9)
  rw [laid_eq q1 ens ensb eb1 eb2 ela rfl] at hL2
  have hD := N9 _ (.head _)
  (try (k_unfold; dsimp only))
  exact hR _ _ _ _ _ (nil_none k1 hD.2.2) (fun a o e => F9.keep _ _ (k1 a o e List.not_mem_nil)) hD.1 hL2
end
theorem zw_X8_22 : True := by
  k_with_none
  k_with "O" => first | decide | ((with_reducible refine rmk (by assumption) ?_); rfl) | ((with_reducible refine rm0 (by assumption) ?_); rfl) | ((with_reducible refine lel (by assumption) ?_); rfl) | ((with_reducible refine llt (by assumption) ?_); rfl) | ((with_reducible refine ltt (by assumption) ?_); rfl) | ((with_reducible refine ltl (by assumption) ?_); rfl) | ((with_reducible refine ilt (by assumption) ?_); rfl) | (with_reducible exact rmz (by assumption)) | (with_reducible assumption)
  exact True.intro
theorem laid_K {w : World} {mean : ExcName → Option Value} {mg mb : Str → Option Value} {dp un : Nat} {fr : Option (List Env)} {gd : Option (List Code)} {E : Value → Shared → Prop} {s : Shared} {h₀ : Heap} {L : Addr} {m : Str → Option Value} {news : List (Addr × Obj)} {Q : Value → Shared → Prop} {x : Str} {t : Tok}
    (F : Fr h₀ L s.heap m) (X₀ : (Mine.hh.heap_1_39 w.params).In h₀) (N : News h₀ L s.heap news) (T : Top Mine.hh.view_1_40 (looseW Mine.hh.view_1_40 [Str.ofString "PyFATException", Str.ofString "errno", Str.ofString "EightDotThree"]) mean mg mb h₀) (hroom : dp + 20 < recursionLimit) (hx : x.length ≤ 20) (hal : ∀ c ∈ x.cps.toList, c ∈ alph) (hun : un + 100 < cLine)
    (h : ∀ h' D ws e tk, Fr h₀ L h' m → News h₀ L h' ((D, listOf ws.toArray e) :: news) → (∀ p ∈ news, p.1 ≠ D) → IntsAre ws (laidL x.cps.toList) → Q (.ref D) { s with heap := h', toks := tk }) :
    wpAny (model PySem.Challenge.rw_kj0039_01.row.prog w) { handled := none, depth := dp, frames := fr, guards := gd, units := un } (call (.ref 279) [.str x t]) Q E s := by
  refine wpAny_call (laid_code (t := t) F.keep X₀ T (fun p hp => absurd hp List.not_mem_nil) hroom hx hal hun fun h' D ws e tk a1 a2 a3 a4 => ?_)
  obtain ⟨F', N', ne⟩ := fresh_K F N a2 a1 a3
  exact h h' D ws e tk F' N' ne a4
end Mine
namespace Mine
theorem zr_X9 : True := by
  w_top off
  k_with_none
  k_with "O" => first | decide | ((with_reducible refine rmk (by assumption) ?_); rfl) | ((with_reducible refine rm0 (by assumption) ?_); rfl) | ((with_reducible refine lel (by assumption) ?_); rfl) | ((with_reducible refine llt (by assumption) ?_); rfl) | ((with_reducible refine ltt (by assumption) ?_); rfl) | ((with_reducible refine ltl (by assumption) ?_); rfl) | ((with_reducible refine ilt (by assumption) ?_); rfl) | (with_reducible exact rmz (by assumption)) | (with_reducible assumption)
  exact True.intro
open PySem.Calls
noncomputable def sumStep (v n : Int) : Int := (v.fdiv 2 + v.fmod 2 * 128 + n).fmod 256
theorem fmod_bd (x : Int) : 0 ≤ x.fmod 256 ∧ x.fmod 256 ≤ 255 := by
  rw [Int.fmod_eq_emod_of_nonneg _ (by decide : (0 : Int) ≤ 256)]
  (first | k_extra "O" | omega)
noncomputable def sumL (ns : List Int) : Int := ns.foldl sumStep 0
theorem sum_snoc {ns : List Int} {i : Nat} {n : Int} (h : ns[i]? = some n) : sumL (ns.take (i + 1)) = sumStep (sumL (ns.take i)) n := by
  rw [List.take_add_one, h]
  unfold sumL
  rw [List.foldl_append]
  rfl
section
theorem zw_X9_23 : True := by
  k_with_none
  k_with "O" => first | decide | ((with_reducible refine rmk (by assumption) ?_); rfl) | ((with_reducible refine rm0 (by assumption) ?_); rfl) | ((with_reducible refine lel (by assumption) ?_); rfl) | ((with_reducible refine llt (by assumption) ?_); rfl) | ((with_reducible refine ltt (by assumption) ?_); rfl) | ((with_reducible refine ltl (by assumption) ?_); rfl) | ((with_reducible refine ilt (by assumption) ?_); rfl) | (with_reducible exact rmz (by assumption)) | (with_reducible assumption)
  k_with "ks" => repeat' (first | (k_unfold; (try dsimp only)) | (k_end; wrow_close) | ((fail_if_success (with_reducible show wpAny _ _ (pyIter _) (fun it s₂ => LoopAtV _ _ _ _ _ _ _ _ _ it s₂) _ _)); (first | k_extra "H" | walk1)) | ((fail_if_success (with_reducible show wpAny _ _ (pyIter _) (fun it s₂ => LoopAtV _ _ _ _ _ _ _ _ _ it s₂) _ _)); dsimp only; (first | k_extra "H" | walk1)) | fail "no step")
  k_with "forhere" => (with_reducible show wpAny _ _ (pyIter _) (fun it s₂ => LoopAtV _ _ _ _ _ _ _ _ _ it s₂) _ _)
  k_with "H" => ((with_reducible show wpAny _ _ (exec (Stmt.For (Expr.Name _ _) _ _ [] _) _) _ _ _); with_unfolding_all ((rename Fr _ _ _ _ => zzF); (refine For_invVF zzF (by rfl) (by rfl) ?_)))
  exact True.intro
set_option maxHeartbeats 4000000 in
theorem sum_code {w : World} {mean : ExcName → Option Value} {mg mb : Str → Option Value} {dp un : Nat} {fr : Option (List Env)} {gd : Option (List Code)} {R : Result → Shared → Prop} {s : Shared} {h₀ : Heap} {a : Addr} {vs : List Value} {ns : List Int} {n : Nat}
    (S : ∀ b o, h₀.get? b = some o → s.heap.get? b = some o) (X₀ : (Mine.hh.heap_1_39 w.params).In h₀) (T : Top Mine.hh.view_1_40 (looseW Mine.hh.view_1_40 [Str.ofString "PyFATException", Str.ofString "errno", Str.ofString "EightDotThree"]) mean mg mb h₀)
    (N : ∀ p ∈ ([] : List (Addr × Obj)), s.heap.get? p.1 = some p.2 ∧ h₀.get? p.1 = none)
    (hroom : dp + 10 < recursionLimit) (ha : s.heap.get? a = some (listOf vs.toArray n)) (hI : IntsAre vs ns) (hlen : ns.length ≤ 30) (hb : ∀ n ∈ ns, 0 ≤ n ∧ n ≤ 255)
    (hR : ∀ h' tk t, (∀ a o, s.heap.get? a = some o → h'.get? a = some o) → R (.ok (.ret (.int (sumL ns) t))) { s with heap := h', toks := tk }) :
    codeAny (model PySem.Challenge.rw_kj0039_01.row.prog w) { handled := none, depth := dp, frames := fr, guards := gd, units := un } (.call (.ref 291) ⟨[.ref a], []⟩) R s := by
  revert X₀; k_fill; intro X₀
  refine' enter (f := 291) (mm := (fun zq => List.lookup zq [(Str.ofString "row", .ref a)])) S X₀ T N ?ho ?hcd ?hr ?hb ?hmm ?hloc ?_ ?c1 ?c2 ?c3 ?c4
  case ho => k_is
  case hcd => k_is
  case hr => show dp < recursionLimit; (first | k_extra "O" | omega)
  case hb => exact BindsTo.of_eq rfl
  case hmm => first | rfl | kernel_rfl | with_unfolding_all rfl
  case hloc => exact locs rfl
  case c1 => exact rfl
  case c2 => exact rfl
  case c3 => exact rfl
  case c4 => decide
  intro g L' h₁ tkA k1 k2 k3 F' N' X' T' k4 k5
  (try dsimp only)
  k_fold
  walk_at "ks"
  (rename Fr _ _ _ _ => lF')
  (rename News _ _ _ _ => lN')
  have hla := lF'.keep _ _ (k1 _ _ ha List.not_mem_nil)
  have haL : a ≠ L' := by rw [k5]; exact Nat.ne_of_lt (Heap.lt_size ha)
  refine' for_listM (fun m₀ i m nx => ∃ (nv : Option Value) (v : Int) (vt : Tok), m = (fun y => if y = Str.ofString "n" then nv else if y = Str.ofString "value" then some (.int v vt) else m₀ y) ∧ nx = [] ∧ v = sumL (ns.take i) ∧ 0 ≤ v ∧ v ≤ 255) lF' News.nil ⟨_, hla, rfl, _, rfl⟩ ?k2 ?k3 ?k4 ?k5 ?_ ?_
  case k2 => exact rfl
  case k3 => exact haL
  case k4 => exact fun p hp => absurd hp List.not_mem_nil
  case k5 =>
    refine' ⟨none, 0, _, ?m, rfl, rfl, by (first | k_extra "O" | omega), by (first | k_extra "O" | omega)⟩
    case m =>
      refine funext fun y => ?_
      by_cases hq0 : y = Str.ofString "n"
      · subst hq0; with_unfolding_all rfl
      by_cases hq1 : y = Str.ofString "value"
      · subst hq1; with_unfolding_all rfl
      simp only [if_neg hq0, if_neg hq1]
  · rintro i vv _ _ h tk own hv ⟨nv, v, vt, rfl, rfl, ev, hv0, hv1⟩ hoff F N
    obtain ⟨k, kt, rfl, hk⟩ := IntsAre.at hI i vv hv
    dsimp only
    k_fold
    have hkb := hb k (List.mem_of_getElem? hk)
    walk_at "ks"
    show TEnd _ _ _ _ _ _
    (rename Fr _ _ _ _ => F9)
    (rename News _ _ _ _ => N9)
    refine' TEnd.intro F9 N9 ⟨_, _, _, ?a1, rfl, ?a2, ?a3, ?a4⟩ ?b1 ?b2 ?b3
    case a1 =>
      refine funext fun y => ?_
      by_cases hq0 : y = Str.ofString "n"
      · subst hq0; with_unfolding_all rfl
      by_cases hq1 : y = Str.ofString "value"
      · subst hq1; with_unfolding_all rfl
      simp only [if_neg hq0, if_neg hq1]
    case b1 => exact fun p hp => absurd hp List.not_mem_nil
    case b2 => exact fun p hp => hp
    case b3 => exact hoff
    case a2 => rw [sum_snoc hk, ← ev]; rfl
    case a3 => exact (fmod_bd _).1
    case a4 => exact (fmod_bd _).2
  · rintro _ _ h tk ⟨nv, v, vt, rfl, rfl, ev, hv0, hv1⟩ F N
    dsimp only
    (try k_fold)
    walk_at "ks"
    (rename Fr _ _ _ _ => F9)
    rw [hI.length, List.take_length] at ev
    subst ev
    (try (k_unfold; dsimp only))
    exact hR _ _ _ (fun a o e => F9.keep _ _ (k1 a o e List.not_mem_nil))
end
theorem zw_X9_24 : True := by
  k_with_none
  k_with "O" => first | decide | ((with_reducible refine rmk (by assumption) ?_); rfl) | ((with_reducible refine rm0 (by assumption) ?_); rfl) | ((with_reducible refine lel (by assumption) ?_); rfl) | ((with_reducible refine llt (by assumption) ?_); rfl) | ((with_reducible refine ltt (by assumption) ?_); rfl) | ((with_reducible refine ltl (by assumption) ?_); rfl) | ((with_reducible refine ilt (by assumption) ?_); rfl) | (with_reducible exact rmz (by assumption)) | (with_reducible assumption)
  exact True.intro
theorem sum_K {w : World} {mean : ExcName → Option Value} {mg mb : Str → Option Value} {dp un : Nat} {fr : Option (List Env)} {gd : Option (List Code)} {E : Value → Shared → Prop} {s : Shared} {h₀ : Heap} {L : Addr} {m : Str → Option Value} {news : List (Addr × Obj)} {Q : Value → Shared → Prop} {a : Addr} {vs : List Value} {ns : List Int} {n : Nat}
    (F : Fr h₀ L s.heap m) (X₀ : (Mine.hh.heap_1_39 w.params).In h₀) (N : News h₀ L s.heap news) (T : Top Mine.hh.view_1_40 (looseW Mine.hh.view_1_40 [Str.ofString "PyFATException", Str.ofString "errno", Str.ofString "EightDotThree"]) mean mg mb h₀) (hroom : dp + 10 < recursionLimit) (ha : s.heap.get? a = some (listOf vs.toArray n)) (hI : IntsAre vs ns) (hlen : ns.length ≤ 30) (hb : ∀ n ∈ ns, 0 ≤ n ∧ n ≤ 255)
    (h : ∀ h' tk t, Fr h₀ L h' m → News h₀ L h' news → Q (.int (sumL ns) t) { s with heap := h', toks := tk }) :
    wpAny (model PySem.Challenge.rw_kj0039_01.row.prog w) { handled := none, depth := dp, frames := fr, guards := gd, units := un } (call (.ref 291) [.ref a]) Q E s := by
  refine wpAny_call (sum_code F.keep X₀ T (fun p hp => absurd hp List.not_mem_nil) hroom ha hI hlen hb fun h' tk t a1 => ?_)
  exact h h' tk t (F.keptAll a1) fun p hp => ⟨a1 _ _ (N p hp).1, (N p hp).2⟩
end Mine
namespace Mine
theorem zr_X10 : True := by
  w_top off
  k_with_none
  k_with "O" => first | decide | ((with_reducible refine rmk (by assumption) ?_); rfl) | ((with_reducible refine rm0 (by assumption) ?_); rfl) | ((with_reducible refine lel (by assumption) ?_); rfl) | ((with_reducible refine llt (by assumption) ?_); rfl) | ((with_reducible refine ltt (by assumption) ?_); rfl) | ((with_reducible refine ltl (by assumption) ?_); rfl) | ((with_reducible refine ilt (by assumption) ?_); rfl) | (with_reducible exact rmz (by assumption)) | (with_reducible assumption)
  exact True.intro
open PySem.Calls
noncomputable def chrs (ns : List Int) : List Str := ns.map fun k => (⟨#[k.toNat]⟩ : Str)
section
variable {w : World} {A : Around} {E : Value → Shared → Prop} {s : Shared} {mg mb : Str → Option Value} {mean : ExcName → Option Value} {h₀ : Heap} {L : Addr} {m : Str → Option Value} {news : List (Addr × Obj)} {p : Program} {loose : List Str}
noncomputable def Oct (ns : List Int) : Prop := ∀ n ∈ ns, 0 ≤ n ∧ n ≤ 255
theorem src_chrL {l : Addr} {vs : List Value} {ns : List Int} {e : Nat} {Q : Value → Shared → Prop} (hh : A.handled = none) (F : Fr h₀ L s.heap m) (N : News h₀ L s.heap news) (T : Top p loose mean mg mb h₀) (hl : (l, listOf vs.toArray e) ∈ news) (hi : IntsAre vs ns)
    (hr : Oct ns) (hsz : ns.length ≤ 30)
    (h : ∀ D (ys : List Value) n h' tk, Fr h₀ L h' m → News h₀ L h' ((D, listOf ys.toArray n) :: news) → (∀ p ∈ news, p.1 ≠ D) → StrsAre ys (chrs ns) → ys.length = ns.length → Q (.ref D) { s with heap := h', toks := tk }) :
    wpAny (model PG w) A (pyIter (.ref l)) (BiSrc w A mg mb "chr" ChrF Q) E s :=
  src_chr hh F N T (News.isList N hl) hi (fun n hn => ⟨(hr n hn).1, by have := (hr n hn).2; (first | k_extra "O" | omega)⟩) (by rw [sizeLine_eq]; (first | k_extra "O" | omega)) fun D ys n h' tk F' N' l1 l2 => h D ys n h' tk F' N' l1 l2 (by have := l2.length; simpa using this)
end
theorem bare_sub (xs : List Int) : ∀ n ∈ bareL xs, n ∈ xs := fun n hn => by
  unfold bareL at hn
  have := List.mem_reverse.mp hn
  have := (List.dropWhile_sublist _).mem this
  exact List.mem_reverse.mp this
theorem oct_b {bs xs : List Int} (e : bs = bareL xs) (h : Oct xs) : Oct bs := fun n hn => h n (bare_sub xs n (e ▸ hn))
theorem strs_carried : ∀ {vs : List Value} {l : List Str}, StrsAre vs l → CarriedAll vs (l.map PyData.str)
  | _, _, .nil => .nil
  | _, _, .cons _ t r => .cons (.str _ t) (strs_carried r)
theorem join_text : ∀ ns : List Int, PySem.Str.join (Str.ofString "") (chrs ns) = strL (ns.map Int.toNat)
  | [] => by rw [show chrs [] = [] from rfl]; exact str_ext rfl
  | [a] => str_ext rfl
  | a :: b :: r => by
    have ih := join_text (b :: r)
    show (⟨#[a.toNat]⟩ : Str) ++ Str.ofString "" ++ PySem.Str.join (Str.ofString "") (chrs (b :: r)) = _
    rw [ih, nil_strL]
    refine str_ext ?_
    rw [app_toList, app_toList]
    rfl
theorem join_chr {w : World} {A : Around} {E : Value → Shared → Prop} {s : Shared} {t : Tok} {Q : Value → Shared → Prop} {h₀ : Heap} {L D : Addr} {news : List (Addr × Obj)} {ys : List Value} {ns : List Int} {e : Nat} (N : News h₀ L s.heap news) (hD : (D, listOf ys.toArray e) ∈ news) (hs : StrsAre ys (chrs ns)) (hl : ns.length ≤ 30)
    (h : ∀ x t' k, x = strL (ns.map Int.toNat) → x.length = ns.length → Q (.str x t') { s with toks := k }) :
    wpAny (model PG w) A (call (.builtin "str.join") [.str (Str.ofString "") t, .ref D]) Q E s := by
  refine PySem.W.KT.join_1 (l := ns) (g := fun k => (⟨#[k.toNat]⟩ : Str)) (News.isList N hD) ?_ (fun a _ => rfl) (by (first | k_extra "O" | omega)) fun t' k e => h _ t' k ?_ e
  · have := strs_carried hs
    unfold chrs at this
    rw [List.map_map] at this
    exact this
  · show Builtin.Str.glued _ _ = _
    rw [StrLaws.glued_eq_join]
    exact join_text ns
noncomputable def toldL (ns : List Int) : List Nat := if bareL (ns.drop 8) = [] then (bareL (ns.take 8)).map Int.toNat else (bareL (ns.take 8)).map Int.toNat ++ 46 :: (bareL (ns.drop 8)).map Int.toNat
theorem told_eq {ns b1 b2 : List Int} {x1 x2 y : Str} (h1 : b1 = bareL (ns.take 8)) (h2 : b2 = bareL (ns.drop 8)) (e1 : x1 = strL (b1.map Int.toNat)) (e2 : x2 = strL (b2.map Int.toNat)) (h : ((x2 != Str.ofString "") = true ∧ y = x1 ++ Str.ofString "." ++ x2) ∨ ((x2 != Str.ofString "") = false ∧ y = x1)) : y = strL (toldL ns) := by
  unfold toldL
  rw [← h1, ← h2]
  subst e1 e2
  rw [nil_strL] at h
  rcases h with ⟨h, rfl⟩ | ⟨h, rfl⟩
  · rw [if_neg (fun z => by rw [z] at h; simp at h), dot_strL, strL_app, strL_app]
    simp
  · rw [if_pos]
    have h := congrArg (fun z : Str => z.cps.toList) (by simpa using h : strL (b2.map Int.toNat) = strL [])
    have h : b2.map Int.toNat = [] := by simpa [strL] using h
    exact List.map_eq_nil_iff.mp h
section
theorem zw_X10_25 : True := by
  k_with_none
  k_with "O" => first | decide | ((with_reducible refine rmk (by assumption) ?_); rfl) | ((with_reducible refine rm0 (by assumption) ?_); rfl) | ((with_reducible refine lel (by assumption) ?_); rfl) | ((with_reducible refine llt (by assumption) ?_); rfl) | ((with_reducible refine ltt (by assumption) ?_); rfl) | ((with_reducible refine ltl (by assumption) ?_); rfl) | ((with_reducible refine ilt (by assumption) ?_); rfl) | (with_reducible exact rmz (by assumption)) | (with_reducible assumption)
  k_with "ks" => repeat' (first | (k_unfold; (try dsimp only)) | (k_end; wrow_close) | ((fail_if_success (with_reducible show wpAny _ _ (pyIter _) (fun it s₂ => LoopAtV _ _ _ _ _ _ _ _ _ it s₂) _ _)); (first | k_extra "H" | walk1)) | ((fail_if_success (with_reducible show wpAny _ _ (pyIter _) (fun it s₂ => LoopAtV _ _ _ _ _ _ _ _ _ it s₂) _ _)); dsimp only; (first | k_extra "H" | walk1)) | fail "no step")
  k_with "forhere" => (with_reducible show wpAny _ _ (pyIter _) (fun it s₂ => LoopAtV _ _ _ _ _ _ _ _ _ it s₂) _ _)
  k_with "H" => ((with_reducible show wpAny _ _ (eval (Expr.ListComp _ _ _ _) _) _ _ _); (k_here; k_dflt (refine' bi_comp_K (id := "chr") ChrF ?k1 ?k2 ?k3 ?k4 ?k5 ?k6 ?c1 ?c2 ?c3 ?c4 ?c5 ?c6 ?c7 ?c8 ?c9 ?d1 ?d2 ?_; (case k1 => k_asm); (case k2 => k_asm); (case k3 => k_asm); (case k4 => k_is); (case k5 => first | boot_by_name | rfl | kernel_rfl); (case k6 => decide +kernel); (case c1 => decide); (case c2 => decide); (case c3 => rfl); (case c4 => decide); (case c5 => rfl); (case c6 => rfl); (case c7 => rfl); (case c8 => rfl); (case c9 => decide); (case d1 => decide); (case d2 => intro _; rfl))))
  k_with "H" => (k_here; (with_reducible show wpAny _ _ (pyIter _) (BiSrc _ _ _ _ _ _ _) _ _); k_dflt (refine' src_chrL ?k0 ?k1 ?k2 ?k3 ?k4 ?k5 ?k6 ?k7 ?_; (case k0 => rfl); (case k1 => k_asm); (case k2 => k_asm); (case k3 => k_asm); (case k4 => k_mem); (case k5 => with_reducible assumption); (case k6 => first | with_reducible assumption | exact oct_b (by assumption) (by assumption)); (case k7 => (first | k_extra "O" | omega))); intro _ _ _ _ _ _ _ _ _ _)
  k_with "H" => (k_here; (with_reducible show wpAny _ _ (call (Value.ref 274) _) _ _ _); k_dflt (refine' bare_K ?k1 ?k2 ?k3 ?k4 ?k9 ?k5 ?k6 ?k7 ?k8 ?_; (case k1 => k_asm); (case k2 => k_asm); (case k3 => k_asm); (case k4 => k_asm); (case k9 => k_mem); (case k5 => (dsimp only [Around.deeper]; (first | k_extra "O" | omega))); (case k6 => with_reducible assumption); (case k7 => (first | k_extra "O" | omega)); (case k8 => (dsimp only [Around.deeper]; (first | k_extra "O" | omega))); k_whole); intro _ _ _ _ _ _ _ _ _ _ _)
  k_with "H" => ((with_reducible show wpAny _ _ (call (Value.builtin "str.join") _) _ _ _); (k_here; k_dflt (refine' join_chr ?k1 ?k2 ?k3 ?k4 ?_; (case k1 => k_asm); (case k2 => k_mem); (case k3 => with_reducible assumption); (case k4 => (first | k_extra "O" | omega))); intro _ _ _ _ _))
  exact True.intro
set_option maxHeartbeats 4000000 in
theorem told_code {w : World} {mean : ExcName → Option Value} {mg mb : Str → Option Value} {dp un : Nat} {fr : Option (List Env)} {gd : Option (List Code)} {R : Result → Shared → Prop} {s : Shared} {h₀ : Heap} {a : Addr} {vs : List Value} {ns : List Int} {n : Nat}
    (S : ∀ b o, h₀.get? b = some o → s.heap.get? b = some o) (X₀ : (Mine.hh.heap_1_39 w.params).In h₀) (T : Top Mine.hh.view_1_40 (looseW Mine.hh.view_1_40 [Str.ofString "PyFATException", Str.ofString "errno", Str.ofString "EightDotThree"]) mean mg mb h₀)
    (N : ∀ p ∈ ([] : List (Addr × Obj)), s.heap.get? p.1 = some p.2 ∧ h₀.get? p.1 = none)
    (hroom : dp + 20 < recursionLimit) (ha : s.heap.get? a = some (listOf vs.toArray n)) (hI : IntsAre vs ns) (hlen : ns.length = 11) (hb : Oct ns) (hun : un + 100 < cLine)
    (hR : ∀ h' tk t, (∀ a o, s.heap.get? a = some o → h'.get? a = some o) → R (.ok (.ret (.str (strL (toldL ns)) t))) { s with heap := h', toks := tk }) :
    codeAny (model PySem.Challenge.rw_kj0039_01.row.prog w) { handled := none, depth := dp, frames := fr, guards := gd, units := un } (.call (.ref 284) ⟨[.ref a], []⟩) R s := by
  revert X₀; k_fill; intro X₀
  refine' enter (f := 284) (mm := (fun zq => List.lookup zq [(Str.ofString "row", .ref a)])) S X₀ T N ?ho ?hcd ?hr ?hb ?hmm ?hloc ?_ ?c1 ?c2 ?c3 ?c4
  case ho => k_is
  case hcd => k_is
  case hr => show dp < recursionLimit; (first | k_extra "O" | omega)
  case hb => exact BindsTo.of_eq rfl
  case hmm => first | rfl | kernel_rfl | with_unfolding_all rfl
  case hloc => exact locs rfl
  case c1 => exact rfl
  case c2 => exact rfl
  case c3 => exact rfl
  case c4 => decide
  intro g L' h₁ tkA k1 k2 k3 F' N' X' T' k4 k5
  (try dsimp only)
  k_fold
  have hlr : g.IsList a vs.toArray := ⟨_, k1 _ _ ha List.not_mem_nil, rfl, _, rfl⟩
  have ho1 : Oct (List.take 8 ns) := fun n hn => hb n (List.mem_of_mem_take hn)
  have ho2 : Oct (List.drop 8 ns) := fun n hn => hb n (List.mem_of_mem_drop hn)
  walk_at "ks"
  all_goals (
    (rename Fr _ _ _ _ => F9)
    (rename (_ = bareL (List.drop 8 ns)) => b2)
    (rename (_ = bareL (List.take 8 ns)) => b1)
    have fin := fun tk t => hR _ tk t (fun a o e => F9.keep _ _ (k1 a o e List.not_mem_nil))
    first
    | ((rename ((_ != Str.ofString "") = true) => g)
       rw [← told_eq b1 b2 (by assumption) (by assumption) (.inl ⟨g, rfl⟩)] at fin
       exact fin _ _)
    | ((rename ((_ != Str.ofString "") = false) => g)
       rw [← told_eq b1 b2 (by assumption) (by assumption) (.inr ⟨g, rfl⟩)] at fin
       exact fin _ _))
end
theorem zw_X10_26 : True := by
  k_with_none
  k_with "O" => first | decide | ((with_reducible refine rmk (by assumption) ?_); rfl) | ((with_reducible refine rm0 (by assumption) ?_); rfl) | ((with_reducible refine lel (by assumption) ?_); rfl) | ((with_reducible refine llt (by assumption) ?_); rfl) | ((with_reducible refine ltt (by assumption) ?_); rfl) | ((with_reducible refine ltl (by assumption) ?_); rfl) | ((with_reducible refine ilt (by assumption) ?_); rfl) | (with_reducible exact rmz (by assumption)) | (with_reducible assumption)
  exact True.intro
theorem told_K {w : World} {mean : ExcName → Option Value} {mg mb : Str → Option Value} {dp un : Nat} {fr : Option (List Env)} {gd : Option (List Code)} {E : Value → Shared → Prop} {s : Shared} {h₀ : Heap} {L : Addr} {m : Str → Option Value} {news : List (Addr × Obj)} {Q : Value → Shared → Prop} {a : Addr} {vs : List Value} {ns : List Int} {n : Nat}
    (F : Fr h₀ L s.heap m) (X₀ : (Mine.hh.heap_1_39 w.params).In h₀) (N : News h₀ L s.heap news) (T : Top Mine.hh.view_1_40 (looseW Mine.hh.view_1_40 [Str.ofString "PyFATException", Str.ofString "errno", Str.ofString "EightDotThree"]) mean mg mb h₀) (hroom : dp + 20 < recursionLimit) (ha : s.heap.get? a = some (listOf vs.toArray n)) (hI : IntsAre vs ns) (hlen : ns.length = 11) (hb : Oct ns) (hun : un + 100 < cLine)
    (h : ∀ h' tk t, Fr h₀ L h' m → News h₀ L h' news → Q (.str (strL (toldL ns)) t) { s with heap := h', toks := tk }) :
    wpAny (model PySem.Challenge.rw_kj0039_01.row.prog w) { handled := none, depth := dp, frames := fr, guards := gd, units := un } (call (.ref 284) [.ref a]) Q E s := by
  refine wpAny_call (told_code F.keep X₀ T (fun p hp => absurd hp List.not_mem_nil) hroom ha hI hlen hb hun fun h' tk t a1 => ?_)
  exact h h' tk t (F.keptAll a1) fun p hp => ⟨a1 _ _ (N p hp).1, (N p hp).2⟩
end Mine
namespace Mine
theorem zr_B1 : True := by
  w_top off
  k_with_none
  k_with "O" => first | decide | ((with_reducible refine rmk (by assumption) ?_); rfl) | ((with_reducible refine rm0 (by assumption) ?_); rfl) | ((with_reducible refine lel (by assumption) ?_); rfl) | ((with_reducible refine llt (by assumption) ?_); rfl) | ((with_reducible refine ltt (by assumption) ?_); rfl) | ((with_reducible refine ltl (by assumption) ?_); rfl) | ((with_reducible refine ilt (by assumption) ?_); rfl) | (with_reducible exact rmz (by assumption)) | (with_reducible assumption)
  exact True.intro
open PySem.Calls
theorem ba_mro : mroOf (.type "bytearray") = pure [.type "bytearray", .type "object"] := by rw [mroOf_type]; kernel_rfl
theorem ba_lookup_new : typeLookup (.type "bytearray") "__new__" = pure (some (.builtin "bytearray.__new__")) := by rw [typeLookup_type, builtinLookup_eq_fast]; kernel_rfl
theorem ba_slot_init : Slot "bytearray" "__init__" "bytearray.__init__" :=
  .of (owner := "bytearray") (n := "__init__") (by rw [typeLookup_type, builtinLookup_eq_fast]; kernel_rfl) (by decide +kernel) (by decide +kernel) (by decide +kernel)
    (by first | exact .inl (by decide +kernel) | exact .inr (by decide +kernel)) (by rw [isSubtype_type]; kernel_rfl)
theorem ba_called : TypeCalled "bytearray" "bytearray.__new__" "bytearray.__init__" :=
  ⟨by decide +kernel, by decide +kernel, ⟨_, _, ba_mro⟩, madeBy_type ba_mro ba_lookup_new (by decide +kernel), by decide +kernel, by rw [isSubtype_type]; kernel_rfl, ba_slot_init⟩
theorem ba_typeCall (a : Value) : checkTypeCall "bytearray" ⟨[a], []⟩ = pure () := by kernel_rfl
theorem ba_newCall (a : Value) : checkBuiltinCall "bytearray.__new__" ⟨[.type "bytearray", a], []⟩ = pure () := by kernel_rfl
theorem ba_init_entry : entryFor table "bytearray.__init__" = some Builtin.«bytearray.__init__» := by first | exact entryFor_of_fast (by kernel_rfl) | exact entryFor_of_tree (by kernel_rfl)
theorem ba_new_entry : entryFor table "bytearray.__new__" = some Builtin.«list.__new__» := entryFor_alias (id' := "list.__new__") (by rw [fastTable_eq_tree]; kernel_rfl) (by first | rfl | decide +kernel) (by decide +kernel) (by rw [fastTable_eq_tree]; kernel_rfl)
theorem ba_bind (v : Value) : Builtin.Bytes.bindOptional "bytearray.__init__" "bytearray" ["source", "encoding", "errors"] [v] [] = pure [some v, none, none] := by kernel_rfl
theorem ba_initArgs (o : Value) (b : Array UInt8) (t : Tok) : argsOk "bytearray.__init__" ⟨[o, .bytes b t], []⟩ := by unfold argsOk; kernel_rfl
theorem bytes_no_index : typeLookup (.type "bytes") "__index__" = pure none := by rw [typeLookup_type, builtinLookup_eq_fast]; kernel_rfl
theorem bytes_buffer : typeLookup (.type "bytes") "__buffer__" = pure (some (.builtin "bytes.__buffer__")) := by rw [typeLookup_type, builtinLookup_eq_fast]; kernel_rfl
theorem bytes_release : typeLookup (.type "bytes") "__release_buffer__" = pure none := by rw [typeLookup_type, builtinLookup_eq_fast]; kernel_rfl
noncomputable abbrev baObj (b : Array UInt8) : Obj := { cls := .type "bytearray", data := .bytearray b }
section
variable {w : World} {A : Around} {E : Value → Shared → Prop} {h : Heap} {g : Array GenState} {d : Drawn} {tk : Nat} {os : OsState}
theorem ba_rel : typeLookup (.type "bytearray") "__release_buffer__" = pure (some (.builtin "bytearray.__release_buffer__")) := by rw [typeLookup_type, builtinLookup_eq_fast]; kernel_rfl
theorem wpC_neg {α : Type} {M : Model} {A : Around} {c : Prop} {inst : Decidable c} {a b : Sem α} {Q : α → Shared → Prop} {E : Value → Shared → Prop} {s : Shared} (hc : ¬c) (h : wpC M A b Q E s) : wpC M A (if c then a else b) Q E s := by rw [if_neg hc]; exact h
set_option maxHeartbeats 1000000 in
theorem ba_init {D : Addr} {b : Array UInt8} {t : Tok} {Q : PySem.Fin → Shared → Prop} (hD : h.get? D = some (baObj #[])) (hsz : b.size ≤ 1000)
    (hq : ∀ h', h'.get? D = some (baObj b) → (∀ a o, a ≠ D → h.get? a = some o → h'.get? a = some o) → Q (.done (.ret .none)) ⟨h', g, d, tk, os⟩) :
    wpC (model PG w) A (Builtin.«bytearray.__init__» ⟨[.ref D, .bytes b t], []⟩) Q E ⟨h, g, d, tk, os⟩ := by
  have hT : (⟨h, g, d, tk, os⟩ : Shared).TypeIs (.ref D) "bytearray" := ⟨_, hD, rfl⟩
  have hr := ba_rel
  unfold Builtin.«bytearray.__init__»
  dsimp only
  refine wpC_leaf ?_
  unfold Builtin.Bytes.ownRelease
  have e1 : "bytearray.__release_buffer__".endsWith ("." ++ "__release_buffer__") = true := by decide +kernel
  have e2 : "bytearray.__release_buffer__".dropRight ("__release_buffer__".length + 1) = "bytearray" := by decide +kernel
  have sub := ba_called.sub
  repeat (first | (with_reducible refine wpAny_loadPart_at hD ?_) | (rw [e1, e2]) | wp_step)
  refine wpC_neg (by decide) ?_
  refine wpC_leaf (wpAny_of_eq (ba_bind _) ?_)
  dsimp only
  refine wpC_leaf (wpAny_of_eq (a := ()) rfl ?_)
  refine wpC_leaf (wpAny_of_eq (a := ()) rfl ?_)
  refine wpC_bind (wpC_bind (wpC_exported ?_))
  refine wpC_any ?_
  have hTb : (⟨h, g, d, tk, os⟩ : Shared).TypeIs (.bytes b t) "bytes" := rfl
  have b1 := bytes_no_index
  have b2 := bytes_buffer
  unfold Builtin.Bytes.exportsOf
  repeat (first | (with_reducible refine wpAny_loadPart_at hD ?_) | (with_reducible refine wpAny_load hD ?_) | wp_step)
  refine wpC_neg (by decide) ?_
  refine wpC_any ?_
  unfold Builtin.Bytes.write updateBytearray
  refine wpAny_bind (wpAny_bind (wpAny_load hD ?_))
  dsimp only
  have h1 := Heap.get?_update_self (Obj.mapBytearray fun _ => #[]) hD rfl
  refine wpAny_bind (wpAny_update hD (wpAny_lookBehind h1 (by rfl) ?_))
  refine wpAny_bind (wpAny_of_eq (a := none) rfl ?_)
  have c1 : "bytes.__buffer__".endsWith ("." ++ "__buffer__") = true := by decide +kernel
  have c2 : "bytes.__buffer__".dropRight ("__buffer__".length + 1) = "bytes" := by decide +kernel
  have c3 := bytes_release
  have csub : isSubtype (.type "bytes") (.type "bytes") = pure true := PySem.F.bm_sub
  have hTb' : ∀ hh, (⟨hh, g, d, tk, os⟩ : Shared).TypeIs (.bytes b t) "bytes" := fun _ => rfl
  unfold Builtin.Bytes.buffer? Builtin.Bytes.slotIsOwn
  repeat (first | (with_reducible refine wpA_neg (by decide) ?_) | (with_reducible refine wpA_pos (by decide) ?_) | (rw [c1, c2]) | wp_step)
  have hp : (Obj.mapBytearray (fun x => b) (Obj.mapBytearray (fun x => #[]) (baObj #[]))).data.pastItsLine = none := by
    show (if b.size > sizeLine then some "bytearray:memory" else none) = none
    rw [if_neg (by rw [sizeLine_eq]; (first | k_extra "O" | omega))]
  rw [hp]
  have h2 := Heap.get?_update_self (Obj.mapBytearray fun _ => b) h1 rfl
  refine wpAny_pure (wpAny_pure (hq _ h2 fun a o ne e => ?_))
  rw [Heap.get?_update_other _ _ (Ne.symm ne), Heap.get?_update_other _ _ (Ne.symm ne)]
  exact e
theorem ba_new {b : Value} {R : Result → Shared → Prop} (hq : R (.ok (.ret (.ref h.objs.size))) ⟨h.push (baObj #[]), g, d, tk, os⟩) :
    codeAny (model PG w) A (.call (.builtin "bytearray.__new__") ⟨[.type "bytearray", b], []⟩) R ⟨h, g, d, tk, os⟩ := by
  refine codeAny_call_builtin_code (Code.quiet_builtin _ (by decide +kernel)) (wpAny_of_eq (ba_newCall _) ?_)
  refine codeAny_builtinAt ba_new_entry ?_
  unfold Builtin.«list.__new__»
  refine PySem.wpAt_bind (PySem.wpAt_stack fun p below => PySem.wpAt_of_wpAny ?_)
  have e1 : (("bytearray.__new__".splitOn ".__new__").headD "") = "bytearray" := by simp +decide [String.splitOn, String.splitOnAux]
  have sub := ba_called.sub
  dsimp only
  rw [e1]
  repeat (first | wp_step)
  exact hq
theorem codeC_builtin {id : String} {args : Args} {b : Builtin} {R : Result → Shared → Prop} {s : Shared} (hcl : holderC (.builtin id args) = false) (hb : entryFor table id = some b)
    (h : wpC (model PG w) (A.under (.builtin id args)) (b args) (fun fin s' => match fin with | .done f => R (.ok f) s' | .again c' => c'.quiet = true ∧ codeC (model PG w) A c' R s') (fun e s' => R (.error e) s') s) :
    codeC (model PG w) A (.builtin id args) R s := by
  refine codeC_of_tree hcl ?_
  show wpC _ _ (match entryFor table id with | some b => b args | none => unsupported ((withoutEnding? id "#data").getD id)) _ _ s
  rw [hb]
  exact h
set_option maxHeartbeats 1000000 in
theorem ba_make {b : Array UInt8} {t : Tok} {Q : Value → Shared → Prop} (hsz : b.size ≤ 1000)
    (hq : ∀ h', h'.get? h.objs.size = some (baObj b) → (∀ a o, h.get? a = some o → h'.get? a = some o) → Q (.ref h.objs.size) ⟨h', g, d, tk, os⟩) :
    wpC (model PG w) A (call (.type "bytearray") [.bytes b t]) Q E ⟨h, g, d, tk, os⟩ := by
  refine wpC_call (codeC_of_tree rfl ?_)
  show wpC _ _ (callAny (.type "bytearray") _) _ _ _
  refine wpC_pure ⟨Code.quiet_builtin _ (by decide +kernel), codeC_builtin (by rfl) PySem.F.entry_type_call ?_⟩
  have ft := ba_called
  have h1 := ft.notType
  have h2 := ft.canCreate
  obtain ⟨c, tl, hmro⟩ := ft.mro
  have hmade := ft.made
  have hsub := ft.sub
  dsimp only
  unfold Builtin.«type.__call__»
  dsimp only
  rw [if_neg (by rw [h1]; exact Bool.false_ne_true), if_neg (by rw [h2]; exact Bool.false_ne_true)]
  refine wpC_leaf (wpAny_of_eq (ba_typeCall _) ?_)
  refine wpC_leaf (wpAny_of_eq hmro ?_)
  rw [if_neg (by simp)]
  refine wpC_leaf (wpAny_of_eq hmade ?_)
  dsimp only
  refine wpC_leaf (wpAny_pure (wpC_leaf (wpAny_holding (wpAny_call (ba_new ?_)))))
  have hD : (h.push (baObj #[])).get? h.objs.size = some (baObj #[]) := Heap.get?_push_size _ rfl
  have hT : (⟨h.push (baObj #[]), g, d, tk, os⟩ : Shared).TypeIs (.ref h.objs.size) "bytearray" := ⟨_, hD, rfl⟩
  refine wpC_leaf (wpAny_isInstance hT hsub ?_)
  simp only [Bool.not_true, Bool.false_eq_true, if_false]
  unfold callSpecial?
  refine wpC_bind (wpC_holding (wpC_leaf (wpAny_specialOf hT ba_slot_init.lookup ?_)))
  dsimp only
  refine wpC_holding (wpC_leaf (wpAny_of_eq (ba_slot_init.bind _) ?_))
  dsimp only
  refine wpC_bind (wpC_call (codeC_of_tree rfl ?_))
  show wpC _ _ (do checkBuiltinCall "bytearray.__init__" ⟨[.ref h.objs.size, .bytes b t], []⟩; again (.builtin "bytearray.__init__" ⟨[.ref h.objs.size, .bytes b t], []⟩)) _ _ _
  refine wpC_leaf (ba_slot_init.check _ _ _ _ _ _ _ _ hT (ba_initArgs _ _ _) ?_)
  refine wpC_pure ⟨Code.quiet_builtin _ (by decide +kernel), codeC_builtin (by rfl) ba_init_entry ?_⟩
  refine ba_init hD hsz fun h' e1 e2 => ?_
  refine wpC_pure ?_
  refine wpC_pure ?_
  exact hq h' e1 fun a o e => e2 a o (Nat.ne_of_lt (Heap.lt_size e)) (Heap.get?_push_of_some _ e)
end
end Mine
namespace Mine
theorem zr_B2 : True := by
  w_top off
  k_with_none
  k_with "O" => first | decide | ((with_reducible refine rmk (by assumption) ?_); rfl) | ((with_reducible refine rm0 (by assumption) ?_); rfl) | ((with_reducible refine lel (by assumption) ?_); rfl) | ((with_reducible refine llt (by assumption) ?_); rfl) | ((with_reducible refine ltt (by assumption) ?_); rfl) | ((with_reducible refine ltl (by assumption) ?_); rfl) | ((with_reducible refine ilt (by assumption) ?_); rfl) | (with_reducible exact rmz (by assumption)) | (with_reducible assumption)
  exact True.intro
open PySem.Calls
open PySem.Calls
section
variable {w : World} {A : Around} {E : Value → Shared → Prop} {s : Shared}
theorem ba_slot_len : Slot "bytearray" "__len__" "bytearray.__len__" := .of (owner := "bytearray") (n := "__len__") (by rw [typeLookup_type, builtinLookup_eq_fast]; kernel_rfl) (by decide +kernel) (by decide +kernel) (by decide +kernel)
    (by first | exact .inl (by decide +kernel) | exact .inr (by decide +kernel)) (by rw [isSubtype_type]; kernel_rfl)
theorem ba_len_entry : entryFor table "bytearray.__len__" = some Builtin.«bytearray.__len__» := by first | exact entryFor_of_fast (by kernel_rfl) | exact entryFor_of_tree (by kernel_rfl)
theorem ba_len_args (a : Value) : argsOk "bytearray.__len__" ⟨[a], []⟩ := by unfold argsOk; kernel_rfl
theorem ba_slot_get : Slot "bytearray" "__getitem__" "bytearray.__getitem__" := .of (owner := "bytearray") (n := "__getitem__") (by rw [typeLookup_type, builtinLookup_eq_fast]; kernel_rfl) (by decide +kernel) (by decide +kernel) (by decide +kernel)
    (by first | exact .inl (by decide +kernel) | exact .inr (by decide +kernel)) (by rw [isSubtype_type]; kernel_rfl)
theorem ba_get_entry : entryFor table "bytearray.__getitem__" = some Builtin.«bytearray.__getitem__» := by first | exact entryFor_of_fast (by kernel_rfl) | exact entryFor_of_tree (by kernel_rfl)
theorem ba_get_args (a b : Value) : argsOk "bytearray.__getitem__" ⟨[a, b], []⟩ := by unfold argsOk; kernel_rfl
theorem ba_slot_set : Slot "bytearray" "__setitem__" "bytearray.__setitem__" := .of (owner := "bytearray") (n := "__setitem__") (by rw [typeLookup_type, builtinLookup_eq_fast]; kernel_rfl) (by decide +kernel) (by decide +kernel) (by decide +kernel)
    (by first | exact .inl (by decide +kernel) | exact .inr (by decide +kernel)) (by rw [isSubtype_type]; kernel_rfl)
theorem ba_set_entry : entryFor table "bytearray.__setitem__" = some Builtin.«bytearray.__setitem__» := by first | exact entryFor_of_fast (by kernel_rfl) | exact entryFor_of_tree (by kernel_rfl)
theorem ba_slot_iter : Slot "bytearray" "__iter__" "bytearray.__iter__" := .of (owner := "bytearray") (n := "__iter__") (by rw [typeLookup_type, builtinLookup_eq_fast]; kernel_rfl) (by decide +kernel) (by decide +kernel) (by decide +kernel)
    (by first | exact .inl (by decide +kernel) | exact .inr (by decide +kernel)) (by rw [isSubtype_type]; kernel_rfl)
theorem ba_iter_entry : entryFor table "bytearray.__iter__" = some Builtin.«bytearray.__iter__» := by first | exact entryFor_of_fast (by kernel_rfl) | exact entryFor_of_tree (by kernel_rfl)
theorem ba_len {D : Addr} {b : Array UInt8} {Q : Value → Shared → Prop} (hD : s.heap.get? D = some (baObj b)) (hsz : b.size ≤ 1000)
    (h : ∀ t k, Q (.int b.size t) { s with toks := k }) : wpAny (model PG w) A (call (.builtin "len") [.ref D]) Q E s := by
  have hT : s.TypeIs (.ref D) "bytearray" := ⟨_, hD, rfl⟩
  refine call_function_entry kind_len plain_len entry_len (args_len1 _) ?_
  unfold Builtin.«len»
  refine wpAny_bind (m := oneArg "len" _) (wpAny_pure ?_)
  refine wpAny_bind (m := callSpecial? (.ref D) (Str.ofString "__len__")) (wpAny_callSpecial?_slot (name := Str.ofString "__len__") hT ba_slot_len
    (wpAny_call_entry ba_slot_len hT ba_len_entry ?_ (ba_len_args _)))
  unfold Builtin.«bytearray.__len__» Builtin.Bytes.payload Builtin.Bytes.payload?
  refine wpAny_bind (wpAny_pure (wpAny_bind (wpAny_bind (wpAny_bind (wpAny_load hD (wpAny_pure (wpAny_pure ?_)))))))
  refine wpAny_bind (wpAny_mkInt (wpAny_pure ⟨_, rfl, ?_⟩))
  refine wpAny_bind (wpAny_holding (wpAny_pure ?_))
  refine wpAny_bind (wpAny_letGo ?_)
  rw [if_neg (by (first | k_extra "O" | omega)), if_neg (by (first | k_extra "O" | omega))]
  exact wpAny_bind (wpAny_mkInt (wpAny_pure ⟨_, rfl, h _ _⟩))
theorem ba_sub {k : Int} {t : Tok} {Q : Option Int → Shared → Prop} (h0 : 0 ≤ k) (hk : k < 1000) (h : Q (some k) s) : wpAny (model PG w) A (Builtin.Bytes.subscript? (.int k t)) Q E s := by
  have i1 : typeLookup (.type "int") "__index__" = pure (some (.builtin "int.__index__")) := by rw [typeLookup_type, builtinLookup_eq_fast]; kernel_rfl
  have hTi : s.TypeIs (.int k t) "int" := rfl
  have ff : Builtin.Bytes.fitsIndex k = true := by
    unfold Builtin.Bytes.fitsIndex
    simp only [Bool.and_eq_true, decide_eq_true_eq]
    (first | k_extra "O" | omega)
  unfold Builtin.Bytes.subscript?
  refine wpAny_bind (wpAny_specialOf hTi i1 ?_)
  refine wpAny_ite (KBy.ite_no (show ¬ (Option.isNone (some _) = true) from Bool.false_ne_true) ?_)
  refine wpAny_bind (wpAny_of_eq (a := k) rfl ?_)
  rw [ff]
  exact wpAny_pure h
theorem ba_item {D : Addr} {b : Array UInt8} {k : Int} {x : UInt8} {t : Tok} {Q : Value → Shared → Prop} (hD : s.heap.get? D = some (baObj b)) (h0 : 0 ≤ k) (hx : b[k.toNat]? = some x) (hk : k < 1000)
    (h : ∀ t k, Q (.int x.toNat t) { s with toks := k }) : wpAny (model PG w) A (getItem (.ref D) (.int k t)) Q E s := by
  have hT : s.TypeIs (.ref D) "bytearray" := ⟨_, hD, rfl⟩
  refine wpAny_getItem_slot hT (by decide) ba_slot_get (wpAny_call_entry ba_slot_get hT ba_get_entry ?_ (ba_get_args _ _))
  unfold Builtin.«bytearray.__getitem__»
  refine wpAny_bind (wpAny_of_eq (a := (.ref D, [.int k t])) rfl ?_)
  dsimp only
  refine wpAny_bind (ba_sub h0 hk ?_)
  dsimp only
  unfold Builtin.Bytes.payload Builtin.Bytes.payload?
  refine wpAny_bind (wpAny_bind (wpAny_bind (wpAny_load hD (wpAny_pure (wpAny_pure ?_)))))
  have hs : (seqIndex? k b.size).bind (b[·]?) = some x := by
    obtain ⟨hl, _⟩ := Array.getElem?_eq_some_iff.mp hx
    rw [seqIndex_of h0 (by (first | k_extra "O" | omega))]
    exact hx
  rw [hs]
  exact wpAny_bind (wpAny_mkInt (wpAny_pure ⟨_, rfl, h _ _⟩))
theorem ba_item_K {h₀ : Heap} {L D : Addr} {news : List (Addr × Obj)} {b : Array UInt8} {ks : List Int} {i : Int} {ui : Tok} {value slice : PySem.Expr} {Q : Value → Shared → Prop} (N : News h₀ L s.heap news) (hm : (D, baObj b) ∈ news) (hk : KBw.bInts b = ks) (h0 : 0 ≤ i) (h1 : i < (ks.length : Int)) (hz : ks.length < 1000)
    (h : ∀ t' k, 0 ≤ ks.getD i.toNat 0 → ks.getD i.toNat 0 < 256 → Q (.int (ks.getD i.toNat 0) t') { s with toks := k })
    (hs : subscripted slice false (.ref D) (.int i ui) = operate [.ref D, .int i ui] (getItem (.ref D) (.int i ui)) := by with_unfolding_all rfl)
    (ht : ∀ r, letTemporaryGo value (.ref D) r = pure () := by intro _; with_unfolding_all rfl) : wpAny (model PG w) A (subscriptTail value slice (.ref D) (.int i ui)) Q E s := by
  have hD := (N _ hm).1
  have hT : s.TypeIs (.ref D) "bytearray" := ⟨_, hD, rfl⟩
  have hin := KBw.getD_in (ks := ks) (j := i.toNat) fun k hk' => by subst hk; exact KBw.ints_in hk'
  have hl : i.toNat < b.size := by have := KBw.ints_length b; rw [hk] at this; (first | k_extra "O" | omega)
  refine tail_of_ItemOn ⟨"bytearray", _, ba_slot_get.lookup, hT, ba_item hD h0 (x := b[i.toNat]) (by simp [hl]) (by (first | k_extra "O" | omega)) fun t k => ?_⟩ hs ht
  have e : ((b[i.toNat].toNat : Nat) : Int) = ks.getD i.toNat 0 := by
    subst hk
    rw [List.getD_eq_getElem?_getD, KBw.ints_get (c := b[i.toNat]) (by simp [hl])]
    rfl
  rw [e]
  exact h t k hin.1 hin.2
set_option maxHeartbeats 1000000 in
theorem ba_cut {D a : Addr} {b : Array UInt8} {l u : Value} {lo hi : Option Int} {Q : Value → Shared → Prop} (hD : s.heap.get? D = some (baObj b)) (hS : s.heap.IsSliceOf a l u .none) (hl : IsPart l lo) (hu : IsPart u hi) (hz : b.size ≤ 1000)
    (h : Q (.ref s.heap.objs.size) { s with heap := s.heap.push (baObj (KBy.picked b lo hi)) }) :
    wpAny (model PG w) A (getItem (.ref D) (.ref a)) Q E s := by
  obtain ⟨o, ho, hc, hd⟩ := hS
  have hT : s.TypeIs (.ref D) "bytearray" := ⟨_, hD, rfl⟩
  have hTa : s.TypeIs (.ref a) "slice" := ⟨o, ho, hc⟩
  refine wpAny_getItem_slot hT (by decide) ba_slot_get (wpAny_call_entry ba_slot_get hT ba_get_entry ?_ (ba_get_args _ _))
  unfold Builtin.«bytearray.__getitem__»
  refine wpAny_bind (wpAny_of_eq (a := (.ref D, [.ref a])) rfl ?_)
  dsimp only
  refine wpAny_bind ?_
  unfold Builtin.Bytes.subscript?
  refine wpAny_bind (wpAny_specialOf hTa slice_no_index (wpAny_pure ?_))
  refine wpAny_bind (wpAny_typeOf hTa ?_)
  refine wpAny_ite (KBy.ite_no (by decide) ?_)
  refine wpAny_bind ?_
  unfold Builtin.Bytes.sliceParts
  refine wpAny_bind (wpAny_field (x := .none) ho hd rfl ?_)
  kby_none
  refine wpAny_ite (KBy.ite_no (show ¬ ((Value.none == rawInt 0) = true) from Bool.false_ne_true) ?_)
  refine wpAny_bind (wpAny_field (x := l) ho hd rfl ?_)
  have go : wpAny (model PG w) A.in1 (sliceIndices (rawPart lo) (rawPart hi) (rawPart none) b.size) (fun r s' => r = sliceBounds lo hi none b.size ∧ s' = s) (fun _ _ => False) s :=
    wpAny_of_eq (sliceIndices_raw lo hi none b.size (fun e => nomatch e)) ⟨rfl, rfl⟩
  have hp : sizeOk (.bytearray (KBy.picked b lo hi)) := by
    show (KBy.picked b lo hi).size ≤ sizeLine
    have := KBc.size_picked_le b lo hi
    rw [sizeLine_eq]; (first | k_extra "O" | omega)
  cases hl <;> cases hu <;> (first
    | (kby_none; (refine wpAny_bind (wpAny_field (x := .none) ho hd rfl ?_)); kby_none)
    | (kby_none; (refine wpAny_bind (wpAny_field (x := .int _ _) ho hd rfl ?_)); kby_int)
    | (kby_int; (refine wpAny_bind (wpAny_field (x := .none) ho hd rfl ?_)); kby_none)
    | (kby_int; (refine wpAny_bind (wpAny_field (x := .int _ _) ho hd rfl ?_)); kby_int)) <;> refine wpAny_pure ?_
  all_goals
    dsimp only
    unfold Builtin.Bytes.payload Builtin.Bytes.payload?
    refine wpAny_bind (wpAny_bind (wpAny_bind (wpAny_load hD (wpAny_pure (wpAny_pure ?_)))))
    refine wpAny_bind (wpAny_mono go (fun r s' hr => ?_) fun _ _ e => e.elim)
    obtain ⟨hr1, hr2⟩ := hr
    subst hr1 hr2
    unfold Builtin.Bytes.newBytearray
    exact wpAny_bind (wpAny_newObj_type (wpAny_pure ⟨_, rfl, h⟩) hp)
theorem ba_slice_K {h₀ : Heap} {L D : Addr} {m : Str → Option Value} {news : List (Addr × Obj)} {b : Array UInt8} {ks : List Int} {l u : Value} {lo hi : Option Int} {value slice : PySem.Expr} {Q : Value → Shared → Prop} (F : Fr h₀ L s.heap m) (N : News h₀ L s.heap news) (hm : (D, baObj b) ∈ news) (hk : KBw.bInts b = ks) (hl : IsPart l lo) (hu : IsPart u hi) (hz : ks.length < 1000)
    (h : ∀ h' B b', Fr h₀ L h' m → News h₀ L h' ((B, baObj b') :: news) → (∀ p ∈ news, p.1 ≠ B) → KBw.bInts b' = (ks.drop (lo.elim 0 (clipAt ks.length))).take (hi.elim ks.length (clipAt ks.length) - lo.elim 0 (clipAt ks.length)) → Q (.ref B) { s with heap := h' })
    (hs : subscripted slice false (.ref D) (.ref s.heap.objs.size) = operate [.ref s.heap.objs.size, .ref D] (getItem (.ref D) (.ref s.heap.objs.size)) := by with_unfolding_all rfl)
    (ht : ∀ r, letTemporaryGo value (.ref D) r = pure () := by intro _; with_unfolding_all rfl) :
    wpAny (model PG w) A (subscriptTail value slice (.ref D) (.ref s.heap.objs.size)) Q E { s with heap := s.heap.push { cls := .type "slice", data := .fields #[l, u, .none] } } := by
  have hD := Heap.get?_push_of_some { cls := .type "slice", data := .fields #[l, u, .none] } (N _ hm).1
  have F1 := F.push { cls := .type "slice", data := .fields #[l, u, .none] }
  have N1 := News.pushKeep N { cls := .type "slice", data := .fields #[l, u, .none] }
  refine tail_of_ItemOn ⟨"bytearray", _, ba_slot_get.lookup, ⟨_, hD, rfl⟩, ba_cut hD (Heap.IsSliceOf.new _ _ _ _) hl hu (by have := KBw.ints_length b; rw [hk] at this; (first | k_extra "O" | omega)) ?_⟩ hs ht
  obtain ⟨F2, N2, ne⟩ := fresh_K (D := (s.heap.push { cls := .type "slice", data := .fields #[l, u, .none] }).objs.size) F1 N1 (fun a o e => Heap.get?_push_of_some (baObj (KBy.picked b lo hi)) e) (Heap.get?_none_of_le (Nat.le_refl _)) (Heap.get?_push_size _ rfl)
  exact h _ _ _ F2 N2 ne (KBc.ints_picked hk lo hi)
theorem ba_byte {x : Int} {t : Tok} {Q : UInt8 → Shared → Prop} (h0 : 0 ≤ x) (h1 : x < 256) (h : Q x.toNat.toUInt8 s) : wpAny (model PG w) A (Builtin.Bytes.byteValue (.int x t)) Q E s := by
  unfold Builtin.Bytes.byteValue
  refine wpAny_bind (wpAny_of_eq (a := x) rfl ?_)
  rw [if_neg (by simp only [Bool.or_eq_true, decide_eq_true_eq]; (first | k_extra "O" | omega))]
  exact wpAny_bind (wpAny_pure (wpAny_pure h))
theorem ba_set_args (a b c : Value) : argsOk "bytearray.__setitem__" ⟨[a, b, c], []⟩ := by unfold argsOk; kernel_rfl
theorem ints_set {b : Array UInt8} {ks : List Int} {i : Nat} {x : Int} (hk : KBw.bInts b = ks) (h0 : 0 ≤ x) (h1 : x < 256) : KBw.bInts (b.setIfInBounds i x.toNat.toUInt8) = ks.set i x := by
  subst hk
  unfold KBw.bInts
  rw [Array.toList_setIfInBounds, List.map_set]
  congr 1
  have : (x.toNat.toUInt8).toNat = x.toNat := by
    rw [Nat.toUInt8, UInt8.toNat_ofNat']
    (first | k_extra "O" | omega)
  rw [this]
  (first | k_extra "O" | omega)
theorem ba_set {D : Addr} {b : Array UInt8} {k x : Int} {t u : Tok} {Q : Unit → Shared → Prop} (hD : s.heap.get? D = some (baObj b)) (h0 : 0 ≤ k) (h1 : k.toNat < b.size) (hz : b.size < 1000) (hx0 : 0 ≤ x) (hx1 : x < 256)
    (h : ∀ h', h'.get? D = some (baObj (b.setIfInBounds k.toNat x.toNat.toUInt8)) → Heap.SameBut D s.heap h' → Q () { s with heap := h' }) : wpAny (model PG w) A (setItem (.ref D) (.int k t) (.int x u)) Q E s := by
  have hT : s.TypeIs (.ref D) "bytearray" := ⟨_, hD, rfl⟩
  unfold setItem
  refine wpAny_holding ?_
  refine wpAny_bind (wpAny_sequenceKey hT (by decide) ?_)
  refine wpAny_bind (wpAny_callSpecial?_slot hT ba_slot_set (wpAny_call_entry ba_slot_set hT ba_set_entry ?_ (ba_set_args _ _ _)))
  unfold Builtin.«bytearray.__setitem__»
  refine wpA_neg Bool.false_ne_true ?_
  refine wpAny_bind (ba_sub h0 (by (first | k_extra "O" | omega)) ?_)
  dsimp only
  refine wpAny_bind (ba_byte hx0 hx1 ?_)
  unfold Builtin.Bytes.payload Builtin.Bytes.payload?
  refine wpAny_bind (wpAny_bind (wpAny_bind (wpAny_load hD (wpAny_pure (wpAny_pure ?_)))))
  rw [seqIndex_of h0 (by (first | k_extra "O" | omega))]
  dsimp only
  unfold Builtin.Bytes.write updateBytearray
  refine wpAny_bind (wpAny_bind (wpAny_load hD ?_))
  dsimp only
  have h1 := Heap.get?_update_self (Obj.mapBytearray (·.setIfInBounds k.toNat x.toNat.toUInt8)) hD rfl
  have hp : (Obj.mapBytearray (·.setIfInBounds k.toNat x.toNat.toUInt8) (baObj b)).data.pastItsLine = none := by
    show (if (b.setIfInBounds k.toNat x.toNat.toUInt8).size > sizeLine then some "bytearray:memory" else none) = none
    rw [if_neg (by rw [sizeLine_eq, Array.size_setIfInBounds]; (first | k_extra "O" | omega))]
  refine wpAny_bind (wpAny_update hD (wpAny_lookBehind h1 hp ?_))
  exact wpAny_bind (wpAny_pure (wpAny_pure ⟨_, rfl, wpAny_pure (h _ h1 (Heap.SameBut.update ..))⟩))
noncomputable def IsBaIter (h : Heap) (I D : Addr) (b : Array UInt8) (i : Nat) : Prop := (∃ o, h.get? I = some o ∧ o.cls = .type "bytearray_iterator" ∧ o.data = .fields #[.ref D, .int i 0]) ∧ h.get? D = some (baObj b)
theorem ba_slot_next : Slot "bytearray_iterator" "__next__" "bytearray_iterator.__next__" := .of (owner := "bytearray_iterator") (n := "__next__") (by rw [typeLookup_type, builtinLookup_eq_fast]; kernel_rfl) (by decide +kernel) (by decide +kernel) (by decide +kernel)
    (by first | exact .inl (by decide +kernel) | exact .inr (by decide +kernel)) (by rw [isSubtype_type]; kernel_rfl)
theorem ba_slot_self : Slot "bytearray_iterator" "__iter__" "bytearray_iterator.__iter__" := .of (owner := "bytearray_iterator") (n := "__iter__") (by rw [typeLookup_type, builtinLookup_eq_fast]; kernel_rfl) (by decide +kernel) (by decide +kernel) (by decide +kernel)
    (by first | exact .inl (by decide +kernel) | exact .inr (by decide +kernel)) (by rw [isSubtype_type]; kernel_rfl)
theorem ba_next_entry : entryFor table "bytearray_iterator.__next__" = some Builtin.«bytearray_iterator.__next__» := entryFor_of_tree (by kernel_rfl)
theorem ba_self_entry : entryFor table "bytearray_iterator.__iter__" = some Builtin.«dict_keyiterator.__iter__» := entryFor_alias (id' := "dict_keyiterator.__iter__") (by kernel_rfl) rfl (by decide +kernel) (by kernel_rfl)
theorem ba_next_args (a : Value) : argsOk "bytearray_iterator.__next__" ⟨[a], []⟩ := by unfold argsOk; kernel_rfl
theorem ba_self_args (a : Value) : argsOk "bytearray_iterator.__iter__" ⟨[a], []⟩ := by unfold argsOk; kernel_rfl
theorem ba_iter_args (a : Value) : argsOk "bytearray.__iter__" ⟨[a], []⟩ := by unfold argsOk; kernel_rfl
theorem ba_it {I D : Addr} {b : Array UInt8} {i : Nat} (y : IsBaIter s.heap I D b i) : s.TypeIs (.ref I) "bytearray_iterator" := let ⟨⟨o, ho, hc, _⟩, _⟩ := y; ⟨o, ho, hc⟩
theorem ba_pyIter {D : Addr} {b : Array UInt8} {Q : Value → Shared → Prop} (hD : s.heap.get? D = some (baObj b)) (hQ : Q (.ref s.heap.objs.size) { s with heap := s.heap.push { cls := .type "bytearray_iterator", data := .fields #[.ref D, .int 0 0] } }) : wpAny (model PG w) A (pyIter (.ref D)) Q E s := by
  have hT : s.TypeIs (.ref D) "bytearray" := ⟨_, hD, rfl⟩
  refine wpAny_pyIter_slot hT ba_slot_iter (wpAny_call_entry ba_slot_iter hT ba_iter_entry ?_ (ba_iter_args _))
  show wpAny _ _ (do ret (← newFields "bytearray_iterator" [.ref D, rawInt 0])) _ _ s
  exact wpAny_bind (wpAny_newObj_type (wpAny_pure ⟨_, rfl, "bytearray_iterator", _, ⟨_, Heap.get?_push_size _ rfl, rfl⟩, ba_slot_next.lookup, hQ⟩))
theorem ba_next_item {I D : Addr} {b : Array UInt8} {i : Nat} {c : UInt8} {Q : Option Value → Shared → Prop} (hit : IsBaIter s.heap I D b i) (hx : b[i]? = some c)
    (hQ : ∀ h', IsBaIter h' I D b (i + 1) → Heap.SameBut I s.heap h' → Q (some (.int (c.toNat : Int) s.toks)) { s with heap := h', toks := s.toks + 1 }) : wpAny (model PG w) A (pyNext (.ref I)) Q E s := by
  obtain ⟨⟨o, ho, hc, hd⟩, hD⟩ := id hit
  have ne : I ≠ D := fun q => by subst q; rw [hD] at ho; cases ho; cases hd
  unfold pyNext
  refine wpAny_bind (wpAny_attempt (wpAny_callSpecial?_slot (name := PySem.Str.ofString "__next__") (ba_it hit) ba_slot_next
    (wpAny_call_entry ba_slot_next (ba_it hit) ba_next_entry ?_ (ba_next_args _))))
  unfold Builtin.«bytearray_iterator.__next__»
  refine wpAny_bind (wpAny_of_eq (a := (.ref I, [])) rfl ?_)
  refine wpAny_bind (wpAny_field ho hd (x := .ref D) rfl ?_)
  refine wpAny_bind (wpAny_load hD ?_)
  refine wpAny_bind (wpAny_field ho hd (x := .int i 0) rfl ?_)
  simp only [Int.toNat_natCast, hx]
  refine wpAny_bind (wpAny_setField ho hd (by simp) (wpAny_bind (wpAny_mkInt (wpAny_pure ⟨_, rfl, wpAny_pure (hQ _ ⟨?_, ?_⟩ (Heap.SameBut.update ..))⟩))))
  · exact ⟨_, Heap.get?_update_self _ ho (Obj.isFreed_of_fields (Obj.data_mapFields hd _)), (Obj.cls_mapFields ..).trans hc, by rw [Obj.data_mapFields hd]; simp [rawInt]⟩
  · exact (Heap.get?_update_other _ _ ne).trans hD
theorem ba_next_end {I D : Addr} {b : Array UInt8} {i : Nat} {Q : Option Value → Shared → Prop} (hh : A.handled = none) (hit : IsBaIter s.heap I D b i) (hx : b[i]? = none)
    (hQ : ∀ h', Heap.ExtBut I s.heap h' → Q none { s with heap := h' }) : wpAny (model PG w) A (pyNext (.ref I)) Q E s := by
  obtain ⟨⟨o, ho, hc, hd⟩, hD⟩ := id hit
  unfold pyNext
  refine wpAny_bind (wpAny_attempt (wpAny_callSpecial?_slot (name := PySem.Str.ofString "__next__") (ba_it hit) ba_slot_next
    (wpAny_call_entry ba_slot_next (ba_it hit) ba_next_entry ?_ (ba_next_args _))))
  unfold Builtin.«bytearray_iterator.__next__»
  refine wpAny_bind (wpAny_of_eq (a := (.ref I, [])) rfl ?_)
  refine wpAny_bind (wpAny_field ho hd (x := .ref D) rfl ?_)
  refine wpAny_bind (wpAny_load hD ?_)
  refine wpAny_bind (wpAny_field ho hd (x := .int i 0) rfl ?_)
  simp only [Int.toNat_natCast, hx]
  refine wpAny_bind (wpAny_rule (wpAny_bind (wpAny_setField ho hd (by simp) ?_)))
  refine wpAny_bind (wpAny_letGo ?_)
  show wpAny _ _ (newExc (.type "StopIteration") [] >>= _) _ _ _
  refine wpAny_bind ?_
  simp only [newExc, newTuple]
  refine wpAny_bind (wpAny_newObj_type ?_ (by size_fits))
  refine wpAny_bind (m := firstArgMember _ _) (wpAny_of_eq (a := Value.none) (by first | rfl | (simp only [firstArgMember]; rfl)) ?_)
  refine wpAny_newObj_type ?_ (by size_fits)
  simp only [raiseNew]
  refine wpAny_bind (wpAny_handled ?_)
  rw [show A.in1.handled = none from hh]
  refine wpAny_bind (wpAny_pure (wpAny_throw ?_))
  refine wpAny_bind (wpAny_isInstance (T := "StopIteration") (b := true) ⟨_, Heap.get?_push_size _ rfl, rfl⟩ isSubtype_stop ?_)
  exact wpAny_pure (hQ _ (((Heap.SameBut.update ..).extBut.push _).push _))
theorem ba_self {I D : Addr} {b : Array UInt8} {i : Nat} {Q : Value → Shared → Prop} (hit : IsBaIter s.heap I D b i) (h : Q (.ref I) s) : wpAny (model PG w) A (pyIter (.ref I)) Q E s := by
  refine wpAny_pyIter_slot (ba_it hit) ba_slot_self (wpAny_call_entry ba_slot_self (ba_it hit) ba_self_entry ?_ (ba_self_args _))
  show wpAny _ _ (ret (.ref I)) _ _ s
  exact wpAny_pure ⟨_, rfl, "bytearray_iterator", _, ba_it hit, ba_slot_next.lookup, h⟩
theorem ba_walks (hh : A.handled = none) (I D : Addr) (ne : D ≠ I) (b : Array UInt8) :
    Walks PG w A I [I, D] [I] b.size (fun i v => ∃ c u, b[i]? = some c ∧ v = .int (c.toNat : Int) u) (fun i h => IsBaIter h I D b i) where
  sub := fun _ hb => by rw [List.mem_singleton.mp hb]; exact .head _
  frame := fun _ _ _ st hk => let ⟨⟨o, ho, r⟩, hD⟩ := st; ⟨⟨o, hk I (by simp) o ho, r⟩, hk D (by simp) _ hD⟩
  item := fun i s Q E hi st hQ => by
    refine ba_next_item st (c := b[i]) (by simp [hi]) fun h' hit' hs' => ?_
    exact hQ _ h' (s.toks + 1) ⟨_, _, by simp [hi], rfl⟩ hit' fun b o hb e => hs'.extBut b o (fun h => hb (by simp [h])) e
  done := fun s Q E st hQ => ba_next_end hh st (by simp) fun h' he' => hQ h' s.toks fun b o hb e => he' b o (fun h => hb (by simp [h])) e
  self := fun _ _ _ _ st hQ => ba_self st hQ
end
end Mine
namespace Mine
theorem zr_B3 : True := by
  w_top off
  k_with_none
  k_with "O" => first | decide | ((with_reducible refine rmk (by assumption) ?_); rfl) | ((with_reducible refine rm0 (by assumption) ?_); rfl) | ((with_reducible refine lel (by assumption) ?_); rfl) | ((with_reducible refine llt (by assumption) ?_); rfl) | ((with_reducible refine ltt (by assumption) ?_); rfl) | ((with_reducible refine ltl (by assumption) ?_); rfl) | ((with_reducible refine ilt (by assumption) ?_); rfl) | (with_reducible exact rmz (by assumption)) | (with_reducible assumption)
  exact True.intro
open PySem.Calls
open PySem.Calls
section
variable {w : World} {A : Around} {E : Value → Shared → Prop} {s : Shared} {h₀ : Heap} {L : Addr} {m : Str → Option Value} {news : List (Addr × Obj)} {mg mb : Str → Option Value} {mean : ExcName → Option Value} {p : Program} {loose : List Str}
theorem ints_strs : ∀ {ys : List Value} {ns : List Int}, ys.length = ns.length → (∀ (j : Nat) (r : Value), ys[j]? = some r → ∃ n t, ns[j]? = some n ∧ r = .str ⟨#[n.toNat]⟩ t) → StrsAre ys (chrs ns)
  | [], [], _, _ => .nil
  | [], _ :: _, h, _ => by simp at h
  | _ :: _, [], h, _ => by simp at h
  | y :: ys, n :: ns, h, k => by
    obtain ⟨n', t, e, rfl⟩ := k 0 y rfl
    cases e
    exact .cons _ t (ints_strs (by simpa using h) fun j r hj => k (j + 1) r hj)
theorem src_chrB {D : Addr} {b : Array UInt8} {ns : List Int} {Q : Value → Shared → Prop} (hh : A.handled = none) (F : Fr h₀ L s.heap m) (N : News h₀ L s.heap news) (T : Top p loose mean mg mb h₀) (hD : s.heap.get? D = some (baObj b)) (hk : KBw.bInts b = ns) (hsz : ns.length ≤ 30)
    (h : ∀ D' (ys : List Value) n h' tk, Fr h₀ L h' m → News h₀ L h' ((D', listOf ys.toArray n) :: news) → (∀ p ∈ news, p.1 ≠ D') → StrsAre ys (chrs ns) → ys.length = ns.length → Q (.ref D') { s with heap := h', toks := tk }) :
    wpAny (model PG w) A (pyIter (.ref D)) (BiSrc w A mg mb "chr" ChrF Q) E s := by
  have hlt := Heap.lt_size hD
  have hne : D ≠ s.heap.objs.size := Nat.ne_of_lt hlt
  have hl : b.size = ns.length := by rw [← hk, KBw.ints_length]
  refine ba_pyIter hD ?_
  have W := ba_walks (w := w) (A := A) hh s.heap.objs.size D hne b
  have up : ∀ {o : Obj} a o', s.heap.get? a = some o' → (s.heap.push o).get? a = some o' := fun a o' e => Heap.get?_push_of_some _ e
  have G := (T.g.keeps F.keep).keeps (up (o := { cls := .type "bytearray_iterator", data := .fields #[.ref D, .int 0 0] }))
  have B := (T.b.keeps F.keep).keeps (up (o := { cls := .type "bytearray_iterator", data := .fields #[.ref D, .int 0 0] }))
  have nw : ∀ a, a < s.heap.objs.size → a ∉ [s.heap.objs.size] := fun a ha hm => Nat.lt_irrefl _ ((List.mem_singleton.mp hm) ▸ ha)
  refine ⟨s.heap.objs.size, _, [s.heap.objs.size], b.size, _, _, rfl, W, by rw [sizeLine_eq]; (first | k_extra "O" | omega), ⟨⟨_, Heap.get?_push_size _ rfl, rfl, rfl⟩, up _ _ hD⟩, ?_, G, B, nw _ (ns_lt (T.g.keeps F.keep)), nw _ (ns_lt (T.b.keeps F.keep)), ?_, ?_⟩
  · intro a ha
    show a < (s.heap.push _).objs.size
    rw [Heap.size_push]
    rcases List.mem_cons.mp ha with rfl | ha
    · exact Nat.lt_succ_self _
    · rw [List.mem_singleton.mp ha]; exact Nat.lt_succ_of_lt hlt
  · rintro i v s' Q' E' ⟨c, u, hc, rfl⟩ hq
    have hin := c.toNat_lt
    exact P.chr_of_int (by simp only [Bool.or_eq_false_iff, decide_eq_false_iff_not]; (first | k_extra "O" | omega)) (hq _ _ ⟨_, u, _, rfl, by (first | k_extra "O" | omega), by (first | k_extra "O" | omega), rfl⟩)
  · intro D' h' tk ys hD' hpl hlen hP hk3
    have k3 : ∀ a o', s.heap.get? a = some o' → h'.get? a = some o' := fun a o' e => hk3 a o' (nw _ (Heap.lt_size e)) (up a o' e)
    have hDn : s.heap.get? D' = none := by
      cases q : s.heap.get? D' with
      | none => rfl
      | some o' => rw [up _ _ q] at hD'; cases hD'
    obtain ⟨n, hn⟩ := hpl
    obtain ⟨F', N', ne⟩ := fresh_K F N k3 hDn hn
    refine h D' ys n h' tk F' N' ne (ints_strs (by (first | k_extra "O" | omega)) fun j r hj => ?_) (by (first | k_extra "O" | omega))
    obtain ⟨v, ⟨c, u, hc, rfl⟩, c', t', u', e1, _, _, e2⟩ := hP j r hj
    cases e1
    exact ⟨_, u', by rw [← hk]; exact KBw.ints_get hc, e2⟩
/-- `for x in name`, name a bytearray off the ledger that the loop turns. -/
theorem for_baM {env : Env} {m₀ : Str → Option Value} {x : Str} {body : List Stmt} {Q : Flow → Shared → Prop} {D : Addr} {b : Array UInt8} {ns : List Int} {led : List (Addr × Obj)} (J : (Str → Option Value) → Nat → (Str → Option Value) → List (Addr × Obj) → Prop)
    (F : Fr h₀ env.locals s.heap m₀) (N : News h₀ env.locals s.heap led) (hD : s.heap.get? D = some (baObj b)) (hk : KBw.bInts b = ns) (hh : A.handled = none) (hlL : D ≠ env.locals) (hln : ∀ p ∈ led, p.1 ≠ D) (hj : J m₀ 0 m₀ led)
    (turn : ∀ i v t m₁ nx h tk own, ns[i]? = some v → J m₀ i m₁ nx → OwnOff own (nx.map (·.1)) → Fr h₀ env.locals h (fun z => if z = x then some (.int v t) else m₁ z) → News h₀ env.locals h (nx ++ own) →
      wpAny (model PG w) A (execs body env) (TPost h₀ env.locals (J m₀ (i + 1)) own { s with heap := h, toks := tk } Q) E { s with heap := h, toks := tk })
    (done : ∀ m₁ nx h tk, J m₀ ns.length m₁ nx → Fr h₀ env.locals h m₁ → News h₀ env.locals h nx → Q .next { s with heap := h, toks := tk }) :
    wpAny (model PG w) A (pyIter (.ref D)) (fun it s₂ => LoopAtV PG w A h₀ env x body Q E it s₂) E s := by
  have hne : D ≠ s.heap.objs.size := Nat.ne_of_lt (Heap.lt_size hD)
  refine ba_pyIter hD ?_
  have W := ba_walks (w := w) (A := A) hh s.heap.objs.size D hne b
  have hl : b.size = ns.length := by rw [← hk, KBw.ints_length]
  refine loop_own (J m₀) W (fun i h st a ha => ?_) ?_ (base_off F) (fun p hp hm => ?_) ⟨⟨_, Heap.get?_push_size _ rfl, rfl, rfl⟩, Heap.get?_push_of_some _ hD⟩ (F.push _) (fun p hp => ⟨Heap.get?_push_of_some _ (N p hp).1, (N p hp).2⟩) hj ?_ ?_
  · rcases List.mem_cons.mp ha with rfl | ha
    · obtain ⟨o, ho, _⟩ := st.1; exact ⟨o, ho⟩
    · rw [List.mem_singleton.mp ha]; exact ⟨_, st.2⟩
  · intro hm
    rcases List.mem_cons.mp hm with e | hm
    · exact absurd (ns_lt F.ns) (e ▸ Nat.lt_irrefl _)
    · exact hlL (List.mem_singleton.mp hm).symm
  · rcases List.mem_cons.mp hm with e | hm
    · exact old_off N p hp (List.mem_singleton.mpr e)
    · exact hln p hp (List.mem_singleton.mp hm)
  · rintro i v m₁ nx h tk own hi ⟨c, u, hc, rfl⟩ hJ hoff F₁ N₁
    exact turn i _ u m₁ nx h tk own (by rw [← hk]; exact KBw.ints_get hc) hJ hoff F₁ N₁
  · intro m₁ nx h tk hJ F₁ N₁
    exact done m₁ nx h tk (by rw [← hl]; exact hJ) F₁ N₁
theorem bb_no_bytes : typeLookup (.type "bytearray") "__bytes__" = pure none := by rw [typeLookup_type, builtinLookup_eq_fast]; kernel_rfl
theorem bb_no_index : typeLookup (.type "bytearray") "__index__" = pure none := by rw [typeLookup_type, builtinLookup_eq_fast]; kernel_rfl
theorem bb_buffer : typeLookup (.type "bytearray") "__buffer__" = pure (some (.builtin "bytearray.__buffer__")) := by rw [typeLookup_type, builtinLookup_eq_fast]; kernel_rfl
set_option maxHeartbeats 1000000 in
theorem bb_new {D : Addr} {b : Array UInt8} {Q : Value → Shared → Prop} (hD : s.heap.get? D = some (baObj b)) (hz : b.size ≤ 1000)
    (hQ : ∀ t k, Q (.bytes b t) { s with toks := k }) :
    codeAny (model PG w) A (.call (.builtin "bytes.__new__") ⟨[.type "bytes", .ref D], []⟩) (wants Q E) s := by
  refine codeAny_of_tree ?_
  show wpAny _ A.in1 (do checkBuiltinCall "bytes.__new__" ⟨[.type "bytes", .ref D], []⟩; again (.builtin "bytes.__new__" ⟨[.type "bytes", .ref D], []⟩)) _ _ s
  refine wpAny_bind (wpAny_of_eq (F.bm_newCall _) (wpAny_pure ⟨plainId_quiet F.bm_plain _, codeAny_builtin F.bm_entry ?_⟩))
  rw [Around.under_plainId F.bm_plain _]
  have hT : s.TypeIs (.ref D) "bytearray" := ⟨_, hD, rfl⟩
  unfold Builtin.«bytes.__new__»
  refine wpAny_bind (wpAny_of_eq (a := true) rfl ?_)
  refine bm_if_false rfl ?_
  refine wpAny_bind (wpAny_of_eq F.bm_sub ?_)
  refine bm_if_false rfl ?_
  refine wpAny_bind (wpAny_of_eq (F.bm_bind _) ?_)
  refine wpAny_bind (wpAny_of_eq (a := ()) rfl ?_)
  refine wpAny_bind (wpAny_of_eq (a := ()) rfl ?_)
  refine bm_if_false rfl ?_
  refine wpAny_bind (wpAny_specialOf hT bb_no_bytes ?_)
  refine wpAny_bind (wpAny_bind ?_)
  show wpAny _ _ (load D >>= _) _ _ _
  refine wpAny_bind (wpAny_load hD ?_)
  refine wpAny_pure (wpAny_pure ?_)
  refine bm_if_false rfl ?_
  refine wpAny_bind (wpAny_specialOf hT bb_no_index ?_)
  refine bm_if_true rfl ?_
  first
    | show wpAny _ _ (Builtin.Bytes.buffer? "bytes.__new__" (.ref D) true >>= _) _ _ _
    | (refine wpAny_bind ?_; show wpAny _ _ (Builtin.Bytes.buffer? "bytes.__new__" (.ref D) true >>= _) _ _ _)
  refine wpAny_bind ?_
  unfold Builtin.Bytes.buffer? Builtin.Bytes.slotIsOwn Builtin.Bytes.ownRelease
  have hr := ba_rel
  have hb := bb_buffer
  have sub := ba_called.sub
  have c1 : "bytearray.__buffer__".endsWith ("." ++ "__buffer__") = true := by decide +kernel
  have c2 : "bytearray.__buffer__".dropRight ("__buffer__".length + 1) = "bytearray" := by decide +kernel
  have e1 : "bytearray.__release_buffer__".endsWith ("." ++ "__release_buffer__") = true := by decide +kernel
  have e2 : "bytearray.__release_buffer__".dropRight ("__release_buffer__".length + 1) = "bytearray" := by decide +kernel
  obtain ⟨hh, g, d, tk, os⟩ := s
  dsimp only at hD
  repeat (first | (with_reducible refine wpAny_load hD ?_) | (with_reducible refine wpAny_loadPart_at hD ?_) | (with_reducible refine wpA_neg ?_ ?_; focus decide) | (with_reducible refine wpA_pos ?_ ?_; focus decide) | (rw [c1, c2]) | (rw [e1, e2]) | wp_step)
  show wpAny _ _ (mkBytes b) _ _ _
  refine wpAny_mkBytes ?_ (by rw [sizeLine_eq]; (first | k_extra "O" | omega))
  show wpAny _ _ (if (Value.type "bytes" == Value.type "bytes") = true then _ else _) _ _ _
  exact bm_if_true (by decide) (wpAny_pure (hQ _ _))
theorem call_bytes_ba {D : Addr} {b : Array UInt8} {Q : Value → Shared → Prop} (hD : s.heap.get? D = some (baObj b)) (hz : b.size ≤ 1000)
    (hQ : ∀ t k, Q (.bytes b t) { s with toks := k }) : wpAny (model PG w) A (call (.type "bytes") [.ref D]) Q E s := by
  refine callType_codes (Q₁ := fun obj s₁ => s₁.TypeIs obj "bytes" ∧ Q obj s₁) F.bm_called (F.bm_typeCall _) F.entry_object_init
    (bb_new hD hz fun t k => ⟨PySem.W.typeIs_bytes _ _ _, hQ t k⟩) fun obj s₁ h₁ => ?_
  exact ⟨h₁.1, F.args_object_init_2 obj _, object_init_meets F.bm_called.init.lookup F.bm_called.made (by decide) PG w A.in1 _ s₁ ⟨h₁.1, rfl, h₁.2⟩⟩
theorem bad_loop {R : Result → Shared → Prop} {l I S : Addr} {vs : List Value} {ns : List Int} (hh : A.handled = none) (hi : IntsAre vs ns) (hr : ∀ n ∈ ns, 0 ≤ n) (hz : ns.length ≤ sizeLine) (hIS : I ≠ S) (hlI : l ≠ I) (hlS : l ≠ S) :
    ∀ (k i : Nat) (s : Shared), ns.length - i = k → (∃ n ∈ ns.drop i, 256 ≤ n) → s.heap.IsList l vs.toArray → s.heap.IsListIter I l i → s.heap.get? S = some { cls := .type "bytearray", data := .bytearray (byteArr (ns.take i)) } →
      (∀ h₁ h' tk e, (∀ b o, b ≠ I → b ≠ S → s.heap.get? b = some o → h₁.get? b = some o) → Heap.NewExc h₁ h' e "ValueError" → R (.error (.ref e)) { s with heap := h', toks := tk }) →
      codeAny (model PG w) A (.builtin "bytes.__new__.loop" ⟨[.type "bytes", .ref I, .ref S], []⟩) R s := by
  have hlen : vs.length = ns.length := hi.length
  intro k
  induction k with
  | zero =>
    intro i s hk hbad
    obtain ⟨n, hn, _⟩ := hbad
    rw [List.drop_of_length_le (by (first | k_extra "O" | omega))] at hn
    cases hn
  | succ k ih =>
    intro i s hk hbad hl hit hS hR
    have hlt : i < ns.length := by (first | k_extra "O" | omega)
    obtain ⟨x, hx⟩ : ∃ x, vs[i]? = some x := ⟨vs[i]'(by (first | k_extra "O" | omega)), List.getElem?_eq_getElem (by (first | k_extra "O" | omega))⟩
    obtain ⟨n, t, rfl, hn⟩ := IntsAre.at hi i x hx
    have h0 := hr n (List.mem_of_getElem? hn)
    refine codeAny_builtin F.bm_entry_loop ?_
    rw [Around.under_plainId F.bm_plain_loop _]
    show wpAny _ A.in1 (pyNext (.ref I) >>= _) _ _ s
    refine wpAny_bind (wpAny_pyNext_list_item (x := .int n t) hit hl (by simpa using hx) fun h' hit' hs => ?_)
    have hS' : h'.get? S = some { cls := .type "bytearray", data := .bytearray (byteArr (ns.take i)) } := (hs.2 S (Ne.symm hIS)).trans hS
    refine wpAny_bind (wpAny_holding (wpAny_of_eq (rfl : asIndex (.int n t) = pure n) ?_))
    refine wpAny_bind (wpAny_letGo ?_)
    by_cases h1 : n < 256
    · refine bm_if_false (by simp only [Bool.or_eq_false_iff, decide_eq_false_iff_not]; (first | k_extra "O" | omega)) ?_
      refine wpAny_bind ?_
      show wpAny _ _ (updateBytearray S (·.push n.toNat.toUInt8)) _ _ _
      unfold updateBytearray
      refine wpAny_bind (wpAny_load hS' ?_)
      show wpAny _ _ (update S (Obj.mapBytearray (·.push n.toNat.toUInt8)) >>= fun _ => lookBehind S) _ _ _
      refine wpAny_bind (wpAny_update hS' ?_)
      have hS₂ : (h'.update S (Obj.mapBytearray (·.push n.toNat.toUInt8))).get? S = some { cls := .type "bytearray", data := .bytearray (byteArr (ns.take (i + 1))) } := by
        rw [byteArr_take hn]
        exact Heap.get?_update_self (Obj.mapBytearray (·.push n.toNat.toUInt8)) hS' rfl
      refine wpAny_lookBehind hS₂ ?_ ?_
      · show (if (byteArr (ns.take (i + 1))).size > sizeLine then some "bytearray:memory" else none) = none
        rw [if_neg]
        rw [byteArr_size, List.length_take]
        (first | k_extra "O" | omega)
      · refine wpAny_pure ⟨plainId_quiet F.bm_plain_loop _, ih (i + 1) { s with heap := h'.update S (Obj.mapBytearray (·.push n.toNat.toUInt8)) } (by (first | k_extra "O" | omega)) ?_ ?_ ?_ hS₂ fun h₁ h3 tk e hk3 => ?_⟩
        · obtain ⟨m, hm, hm'⟩ := hbad
          refine ⟨m, ?_, hm'⟩
          have e := List.drop_eq_getElem_cons hlt
          rw [e] at hm
          rcases List.mem_cons.mp hm with rfl | hm
          · rw [List.getElem?_eq_getElem hlt] at hn
            cases hn; (first | k_extra "O" | omega)
          · exact hm
        · exact (hl.extBut hs.extBut hlI).extBut (Heap.SameBut.update ..).extBut hlS
        · exact hit'.extBut (Heap.SameBut.update ..).extBut hIS
        · exact hR h₁ h3 tk e fun b o hbI hbS e => hk3 b o hbI hbS ((Heap.get?_update_other _ _ (Ne.symm hbS)).trans (hs.extBut b o hbI e))
    · refine bm_if_true (by simp only [Bool.or_eq_true, decide_eq_true_eq]; (first | k_extra "O" | omega)) ?_
      refine wpAny_bind (wpAny_rule (wpAny_bind (wpAny_raiseErrorWords plainExc_ValueError hh fun h2 tk e x => hR h' h2 tk e (fun b o hb _ q => hs.extBut b o hb q) x)))
theorem bad_new {l : Addr} {vs : List Value} {ns : List Int} {Q : Value → Shared → Prop} (hh : A.handled = none) (hl : s.heap.IsList l vs.toArray) (hi : IntsAre vs ns) (hr : ∀ n ∈ ns, 0 ≤ n) (hbad : ∃ n ∈ ns, 256 ≤ n) (hz : ns.length ≤ sizeLine)
    (hQ : ∀ h₁ h' tk e, (∀ b o, s.heap.get? b = some o → h₁.get? b = some o) → Heap.NewExc h₁ h' e "ValueError" → E (.ref e) { s with heap := h', toks := tk }) :
    codeAny (model PG w) A (.call (.builtin "bytes.__new__") ⟨[.type "bytes", .ref l], []⟩) (wants Q E) s := by
  refine codeAny_of_tree ?_
  show wpAny _ A.in1 (do checkBuiltinCall "bytes.__new__" ⟨[.type "bytes", .ref l], []⟩; again (.builtin "bytes.__new__" ⟨[.type "bytes", .ref l], []⟩)) _ _ s
  refine wpAny_bind (wpAny_of_eq (F.bm_newCall _) (wpAny_pure ⟨plainId_quiet F.bm_plain _, codeAny_builtin F.bm_entry ?_⟩))
  rw [Around.under_plainId F.bm_plain _]
  have hT : s.TypeIs (.ref l) "list" := hl.typeIs
  obtain ⟨ol, hol, hoc, nl, hod⟩ := id hl
  unfold Builtin.«bytes.__new__»
  refine wpAny_bind (wpAny_of_eq (a := true) rfl ?_)
  refine bm_if_false rfl ?_
  refine wpAny_bind (wpAny_of_eq F.bm_sub ?_)
  refine bm_if_false rfl ?_
  refine wpAny_bind (wpAny_of_eq (F.bm_bind _) ?_)
  refine wpAny_bind (wpAny_of_eq (a := ()) rfl ?_)
  refine wpAny_bind (wpAny_of_eq (a := ()) rfl ?_)
  refine bm_if_false rfl ?_
  refine wpAny_bind (wpAny_specialOf hT F.bm_no_bytes ?_)
  refine wpAny_bind (wpAny_bind ?_)
  show wpAny _ _ (load l >>= _) _ _ _
  refine wpAny_bind (wpAny_load hol ?_)
  rw [hod]
  refine wpAny_pure (wpAny_pure ?_)
  refine bm_if_false rfl ?_
  refine wpAny_bind (wpAny_specialOf hT F.bm_no_index ?_)
  refine bm_if_true rfl ?_
  first
    | show wpAny _ _ (Builtin.Bytes.buffer? "bytes.__new__" (.ref l) true >>= _) _ _ _
    | (refine wpAny_bind ?_; show wpAny _ _ (Builtin.Bytes.buffer? "bytes.__new__" (.ref l) true >>= _) _ _ _)
  refine wpAny_bind ?_
  unfold Builtin.Bytes.buffer?
  refine wpAny_bind (wpAny_specialOf hT F.bm_no_buffer ?_)
  refine wpAny_bind (wpAny_specialOf hT F.bm_no_buffer ?_)
  refine wpAny_pure ?_
  refine wpAny_bind (wpAny_tryCatch (wpAny_pyIter_list hl ?_))
  have hl₁ : (s.heap.push { cls := .type "list_iterator", data := .fields #[.ref l, .int 0 0] }).IsList l vs.toArray := hl.push _
  have hT₁ : ({ s with heap := s.heap.push { cls := .type "list_iterator", data := .fields #[.ref l, .int 0 0] } } : Shared).TypeIs (.ref l) "list" := Heap.IsList.typeIs (s := { s with heap := s.heap.push { cls := .type "list_iterator", data := .fields #[.ref l, .int 0 0] } }) hl₁
  refine wpAny_bind (wpAny_holding ?_)
  unfold Builtin.Bytes.lengthHint
  refine wpAny_bind (wpAny_specialOf hT₁ slot_list_len.lookup ?_)
  dsimp only
  rw [F.bm_split]
  dsimp only
  refine wpAny_bind (wpAny_isInstance hT₁ F.bm_sub_list ?_)
  refine bm_if_false rfl ?_
  refine bm_if_true (by decide +kernel) ?_
  refine wpAny_pure ?_
  refine wpAny_bind ?_
  unfold Builtin.Bytes.newBytearray
  refine wpAny_newObj_type ?_ (Nat.zero_le _)
  have hI : ((s.heap.push { cls := .type "list_iterator", data := .fields #[.ref l, .int 0 0] }).push { cls := .type "bytearray", data := .bytearray #[] }).IsListIter s.heap.objs.size l 0 :=
    ⟨_, Heap.get?_push_of_some _ (Heap.get?_push_size _ rfl), rfl, rfl⟩
  have hlt : l < s.heap.objs.size := Heap.lt_size hol
  have hsz : (s.heap.push { cls := .type "list_iterator", data := .fields #[.ref l, .int 0 0] }).objs.size = s.heap.objs.size + 1 := Heap.size_push _ _
  have main := bad_loop (w := w) (A := A) (R := wants Q E) (l := l) (I := s.heap.objs.size) (S := (s.heap.push { cls := .type "list_iterator", data := .fields #[.ref l, .int 0 0] }).objs.size) hh hi hr hz (by rw [hsz]; exact Nat.ne_of_lt (Nat.lt_succ_self _)) (Nat.ne_of_lt hlt) (by rw [hsz]; exact Nat.ne_of_lt (Nat.lt_succ_of_lt hlt))
    ns.length 0 { s with heap := (s.heap.push { cls := .type "list_iterator", data := .fields #[.ref l, .int 0 0] }).push { cls := .type "bytearray", data := .bytearray #[] } } rfl (by simpa using hbad) (hl₁.push _) hI (Heap.get?_push_size _ rfl)
    fun h₁ h' tk e hk x => hQ h₁ h' tk e (fun b o q => hk b o (Nat.ne_of_lt (Heap.lt_size q)) (by rw [hsz]; exact Nat.ne_of_lt (Nat.lt_succ_of_lt (Heap.lt_size q))) (Heap.get?_push_of_some _ (Heap.get?_push_of_some _ q))) x
  first
    | exact wpAny_pure ⟨plainId_quiet F.bm_plain_loop _, main⟩
    | exact wpAny_pure (wpAny_pure ⟨plainId_quiet F.bm_plain_loop _, main⟩)
theorem call_bytes_bad {l : Addr} {vs : List Value} {ns : List Int} {Q : Value → Shared → Prop} (hl : s.heap.IsList l vs.toArray) (hi : IntsAre vs ns) (hr : ∀ n ∈ ns, 0 ≤ n) (hbad : ∃ n ∈ ns, 256 ≤ n) (hz : ns.length ≤ sizeLine) (hh : A.handled = none)
    (hQ : ∀ h₁ h' tk e, (∀ b o, s.heap.get? b = some o → h₁.get? b = some o) → Heap.NewExc h₁ h' e "ValueError" → E (.ref e) { s with heap := h', toks := tk }) : wpAny (model PG w) A (call (.type "bytes") [.ref l]) Q E s :=
  callType_codes (Q₁ := fun _ _ => False) F.bm_called (F.bm_typeCall _) F.entry_object_init (bad_new hh hl hi hr hbad hz hQ) fun _ _ h => h.elim
end
end Mine
namespace Mine
theorem zr_B4 : True := by
  w_top off
  k_with_none
  k_with "O" => first | decide | ((with_reducible refine rmk (by assumption) ?_); rfl) | ((with_reducible refine rm0 (by assumption) ?_); rfl) | ((with_reducible refine lel (by assumption) ?_); rfl) | ((with_reducible refine llt (by assumption) ?_); rfl) | ((with_reducible refine ltt (by assumption) ?_); rfl) | ((with_reducible refine ltl (by assumption) ?_); rfl) | ((with_reducible refine ilt (by assumption) ?_); rfl) | (with_reducible exact rmz (by assumption)) | (with_reducible assumption)
  exact True.intro
open PySem.Calls
theorem oct_bytes {b : Array UInt8} {ns : List Int} (h : KBw.bInts b = ns) : Oct ns := fun n hn => by subst h; have := KBw.ints_in hn; (first | k_extra "O" | omega)
section
theorem zw_B4_27 : True := by
  k_with_none
  k_with "O" => first | decide | ((with_reducible refine rmk (by assumption) ?_); rfl) | ((with_reducible refine rm0 (by assumption) ?_); rfl) | ((with_reducible refine lel (by assumption) ?_); rfl) | ((with_reducible refine llt (by assumption) ?_); rfl) | ((with_reducible refine ltt (by assumption) ?_); rfl) | ((with_reducible refine ltl (by assumption) ?_); rfl) | ((with_reducible refine ilt (by assumption) ?_); rfl) | (with_reducible exact rmz (by assumption)) | (with_reducible assumption)
  k_with "ks" => repeat' (first | (k_unfold; (try dsimp only)) | (k_end; wrow_close) | ((fail_if_success (with_reducible show wpAny _ _ (pyIter _) (fun it s₂ => LoopAtV _ _ _ _ _ _ _ _ _ it s₂) _ _)); (first | k_extra "H" | walk1)) | ((fail_if_success (with_reducible show wpAny _ _ (pyIter _) (fun it s₂ => LoopAtV _ _ _ _ _ _ _ _ _ it s₂) _ _)); dsimp only; (first | k_extra "H" | walk1)) | fail "no step")
  k_with "forhere" => (with_reducible show wpAny _ _ (pyIter _) (fun it s₂ => LoopAtV _ _ _ _ _ _ _ _ _ it s₂) _ _)
  k_with "H" => ((with_reducible show wpAny _ _ (eval (Expr.ListComp _ _ _ _) _) _ _ _); (k_here; k_dflt (refine' bi_comp_K (id := "chr") ChrF ?k1 ?k2 ?k3 ?k4 ?k5 ?k6 ?c1 ?c2 ?c3 ?c4 ?c5 ?c6 ?c7 ?c8 ?c9 ?d1 ?d2 ?_; (case k1 => k_asm); (case k2 => k_asm); (case k3 => k_asm); (case k4 => k_is); (case k5 => first | boot_by_name | rfl | kernel_rfl); (case k6 => decide +kernel); (case c1 => decide); (case c2 => decide); (case c3 => rfl); (case c4 => decide); (case c5 => rfl); (case c6 => rfl); (case c7 => rfl); (case c8 => rfl); (case c9 => decide); (case d1 => decide); (case d2 => intro _; rfl))))
  k_with "H" => (k_here; (with_reducible show wpAny _ _ (pyIter _) (BiSrc _ _ _ _ _ _ _) _ _); k_dflt (refine' src_chrB ?k0 ?k1 ?k2 ?k3 ?k4 ?k5 ?k6 ?_; (case k0 => rfl); (case k1 => k_asm); (case k2 => k_asm); (case k3 => k_asm); (case k4 => ((rename Fr _ _ _ _ => zzFz); exact zzFz.keep _ _ (by assumption))); (case k5 => with_reducible assumption); (case k6 => (first | k_extra "O" | omega))); intro _ _ _ _ _ _ _ _ _ _)
  k_with "H" => ((with_reducible show wpAny _ _ (call (Value.builtin "str.join") _) _ _ _); (k_here; k_dflt (refine' join_chr ?k1 ?k2 ?k3 ?k4 ?_; (case k1 => k_asm); (case k2 => k_mem); (case k3 => with_reducible assumption); (case k4 => (first | k_extra "O" | omega))); intro _ _ _ _ _))
  exact True.intro
set_option maxHeartbeats 4000000 in
theorem decoded_code {w : World} {mean : ExcName → Option Value} {mg mb : Str → Option Value} {dp un : Nat} {fr : Option (List Env)} {gd : Option (List Code)} {R : Result → Shared → Prop} {s : Shared} {h₀ : Heap} {D : Addr} {b : Array UInt8} {ns : List Int}
    (S : ∀ b o, h₀.get? b = some o → s.heap.get? b = some o) (X₀ : (Mine.hh.heap_1_39 w.params).In h₀) (T : Top Mine.hh.view_1_40 (looseW Mine.hh.view_1_40 [Str.ofString "PyFATException", Str.ofString "errno", Str.ofString "EightDotThree"]) mean mg mb h₀)
    (N : ∀ p ∈ ([] : List (Addr × Obj)), s.heap.get? p.1 = some p.2 ∧ h₀.get? p.1 = none)
    (hroom : dp + 5 < recursionLimit) (hD : s.heap.get? D = some (baObj b)) (hk : KBw.bInts b = ns) (hlen : ns.length ≤ 30)
    (hR : ∀ h' y t tk, (∀ a o, s.heap.get? a = some o → h'.get? a = some o) → y = strL (ns.map Int.toNat) → y.length = ns.length → R (.ok (.ret (.str y t))) { s with heap := h', toks := tk }) :
    codeAny (model PySem.Challenge.rw_kj0039_01.row.prog w) { handled := none, depth := dp, frames := fr, guards := gd, units := un } (.call (.ref 90) ⟨[.ref D], []⟩) R s := by
  revert X₀; k_fill; intro X₀
  refine' enter (f := 90) (mm := (fun zq => List.lookup zq [(Str.ofString "octets", .ref D)])) S X₀ T N ?ho ?hcd ?hr ?hb ?hmm ?hloc ?_ ?c1 ?c2 ?c3 ?c4
  case ho => k_is
  case hcd => k_is
  case hr => show dp < recursionLimit; (first | k_extra "O" | omega)
  case hb => exact BindsTo.of_eq rfl
  case hmm => first | rfl | kernel_rfl | with_unfolding_all rfl
  case hloc => exact locs rfl
  case c1 => exact rfl
  case c2 => exact rfl
  case c3 => exact rfl
  case c4 => decide
  intro g L' h₁ tkA k1 k2 k3 F' N' X' T' k4 k5
  (try dsimp only)
  k_fold
  have hg := k1 _ _ hD List.not_mem_nil
  walk_at "ks"
  rename Fr _ _ _ _ => F9
  exact hR _ _ _ _ (fun a o e => F9.keep _ _ (k1 a o e List.not_mem_nil)) (by assumption) (by assumption)
end
theorem zw_B4_28 : True := by
  k_with_none
  k_with "O" => first | decide | ((with_reducible refine rmk (by assumption) ?_); rfl) | ((with_reducible refine rm0 (by assumption) ?_); rfl) | ((with_reducible refine lel (by assumption) ?_); rfl) | ((with_reducible refine llt (by assumption) ?_); rfl) | ((with_reducible refine ltt (by assumption) ?_); rfl) | ((with_reducible refine ltl (by assumption) ?_); rfl) | ((with_reducible refine ilt (by assumption) ?_); rfl) | (with_reducible exact rmz (by assumption)) | (with_reducible assumption)
  exact True.intro
theorem decoded_K {w : World} {mean : ExcName → Option Value} {mg mb : Str → Option Value} {dp un : Nat} {fr : Option (List Env)} {gd : Option (List Code)} {E : Value → Shared → Prop} {s : Shared} {h₀ : Heap} {L : Addr} {m : Str → Option Value} {news : List (Addr × Obj)} {Q : Value → Shared → Prop} {D : Addr} {b : Array UInt8} {ns : List Int}
    (F : Fr h₀ L s.heap m) (X₀ : (Mine.hh.heap_1_39 w.params).In h₀) (N : News h₀ L s.heap news) (T : Top Mine.hh.view_1_40 (looseW Mine.hh.view_1_40 [Str.ofString "PyFATException", Str.ofString "errno", Str.ofString "EightDotThree"]) mean mg mb h₀) (hroom : dp + 5 < recursionLimit) (hD : (D, baObj b) ∈ news) (hk : KBw.bInts b = ns) (hlen : ns.length ≤ 30)
    (h : ∀ h' y t tk, y = strL (ns.map Int.toNat) → y.length = ns.length → Fr h₀ L h' m → News h₀ L h' news → Q (.str y t) { s with heap := h', toks := tk }) :
    wpAny (model PySem.Challenge.rw_kj0039_01.row.prog w) { handled := none, depth := dp, frames := fr, guards := gd, units := un } (call (.ref 90) [.ref D]) Q E s := by
  refine wpAny_call (decoded_code F.keep X₀ T (fun p hp => absurd hp List.not_mem_nil) hroom (N _ hD).1 hk hlen fun h' y t tk a1 a2 a3 => ?_)
  exact h h' y t tk a2 a3 (F.keptAll a1) fun p hp => ⟨a1 _ _ (N p hp).1, (N p hp).2⟩
end Mine
namespace Mine
theorem zr_P1 : True := by
  w_top off
  k_with_none
  k_with "O" => first | decide | ((with_reducible refine rmk (by assumption) ?_); rfl) | ((with_reducible refine rm0 (by assumption) ?_); rfl) | ((with_reducible refine lel (by assumption) ?_); rfl) | ((with_reducible refine llt (by assumption) ?_); rfl) | ((with_reducible refine ltt (by assumption) ?_); rfl) | ((with_reducible refine ltl (by assumption) ?_); rfl) | ((with_reducible refine ilt (by assumption) ?_); rfl) | (with_reducible exact rmz (by assumption)) | (with_reducible assumption)
  exact True.intro
open PySem.Calls
theorem drop_while {α : Type} (p : α → Bool) : ∀ l : List α, l.drop (l.takeWhile p).length = l.dropWhile p
  | [] => rfl
  | a :: l => by
    by_cases h : p a
    · rw [List.takeWhile_cons_of_pos h, List.dropWhile_cons_of_pos h]
      exact drop_while p l
    · rw [List.takeWhile_cons_of_neg h, List.dropWhile_cons_of_neg h]; rfl
theorem drop_end {α : Type} (p : α → Bool) (l : List α) : l.take (l.length - (l.reverse.takeWhile p).length) = (l.reverse.dropWhile p).reverse := by
  rw [← drop_while, List.drop_reverse, List.reverse_reverse]
theorem sub_list (x : Str) (i j : Nat) : (Builtin.Str.strSub x i j).cps.toList = (x.cps.toList.take j).drop i := by
  show (x.cps.extract i j).toList = _
  rw [Array.toList_extract]
  simp [List.extract_eq_take_drop, List.drop_take]
theorem rstrip_list (x : Str) : (Txt.rstrip x).cps.toList = (x.cps.toList.reverse.dropWhile Unicode.isSpace).reverse := by
  unfold Txt.rstrip
  rw [PyProof.Rows.stripBy_eq]
  show (Builtin.Str.strSub x 0 (x.length - ((x.cps.toList.drop 0).reverse.takeWhile Unicode.isSpace).length)).cps.toList = _
  rw [sub_list, List.drop_zero, List.drop_zero, ← drop_end, len_toList]
theorem strip_list (x : Str) : (Txt.strip x).cps.toList = ((x.cps.toList.dropWhile Unicode.isSpace).reverse.dropWhile Unicode.isSpace).reverse := by
  unfold Txt.strip
  rw [PyProof.Rows.stripBy_eq]
  show (Builtin.Str.strSub x (x.cps.toList.takeWhile Unicode.isSpace).length (x.length - ((x.cps.toList.drop (x.cps.toList.takeWhile Unicode.isSpace).length).reverse.takeWhile Unicode.isSpace).length)).cps.toList = _
  rw [sub_list, drop_while, ← drop_end, List.drop_take, drop_while]
  congr 1
  have e := drop_while Unicode.isSpace x.cps.toList
  have := congrArg List.length e
  rw [List.length_drop] at this
  rw [len_toList]
  (first | k_extra "O" | omega)
theorem space_oct0 : ∀ n < 256, (n = 32 ∨ (33 ≤ n ∧ n ≤ 126) ∨ (161 ≤ n ∧ n ≤ 255)) → Unicode.isSpace n = (n == 32) := by decide +kernel
noncomputable def OctsOk (ns : List Int) : Prop := ∀ n ∈ ns, OctOk n
theorem space_oct {n : Int} (h : OctOk n) : Unicode.isSpace n.toNat = (n == 32) := by
  unfold OctOk at h
  rw [space_oct0 n.toNat (by (first | k_extra "O" | omega)) (by (first | k_extra "O" | omega))]
  rw [Bool.eq_iff_iff]
  simp only [beq_iff_eq]
  (first | k_extra "O" | omega)
theorem drop_map : ∀ {ns : List Int}, OctsOk ns → (ns.map Int.toNat).dropWhile Unicode.isSpace = (ns.dropWhile (· == 32)).map Int.toNat
  | [], _ => rfl
  | n :: ns, h => by
    have e := space_oct (h n (.head _))
    have ih := drop_map (ns := ns) fun m hm => h m (.tail _ hm)
    by_cases q : n = 32
    · subst q
      rw [List.map_cons, List.dropWhile_cons_of_pos (by rw [e]; rfl), List.dropWhile_cons_of_pos (by rfl)]
      exact ih
    · rw [List.map_cons, List.dropWhile_cons_of_neg (by rw [e]; simpa using q), List.dropWhile_cons_of_neg (by simpa using q)]
      rfl
theorem rstrip_oct {ns : List Int} (h : OctsOk ns) : Txt.rstrip (strL (ns.map Int.toNat)) = strL ((bareL ns).map Int.toNat) := str_ext (by
  rw [rstrip_list, strL_toList, strL_toList, ← List.map_reverse, drop_map (fun n hn => h n (List.mem_reverse.mp hn)), ← List.map_reverse]
  rfl)
theorem join_dot (x y : Str) : Txt.join (Str.ofString ".") [x, y] = x ++ Str.ofString "." ++ y := rfl
theorem join_nil (x y : Str) : Txt.join (Str.ofString "") [x, y] = x ++ Str.ofString "" ++ y := rfl
theorem told_join {ns p q : List Int} {x y : Str} (h : OctsOk ns) (hp : p = ns.take 8) (hq : q = ns.drop 8) (hx : x = strL (p.map Int.toNat)) (hy : y = strL (q.map Int.toNat)) :
    (0 < ((Txt.rstrip y).length : Int) → Txt.join (Str.ofString ".") [Txt.rstrip x, Txt.rstrip y] = strL (toldL ns)) ∧ (¬ 0 < ((Txt.rstrip y).length : Int) → Txt.join (Str.ofString "") [Txt.rstrip x, Txt.rstrip y] = strL (toldL ns)) := by
  subst hx hy hp hq
  rw [rstrip_oct (fun n hn => h n (List.mem_of_mem_take hn)), rstrip_oct (fun n hn => h n (List.mem_of_mem_drop hn)), join_dot, join_nil, strL_len, List.length_map, dot_strL, nil_strL, strL_app, strL_app, strL_app]
  unfold toldL
  constructor
  · intro z
    rw [if_neg (fun e => by rw [e] at z; simp at z)]
    simp
  · intro z
    have : bareL (ns.drop 8) = [] := List.eq_nil_of_length_eq_zero (by (first | k_extra "O" | omega))
    rw [if_pos this, this, List.map_nil, strL_app]
    simp
noncomputable def fixL (ks : List Int) : List Int := if ks.getD 0 0 = 5 then ks.set 0 229 else ks
end Mine
namespace Mine
theorem zr_B5 : True := by
  w_top off
  k_with_none
  k_with "O" => first | decide | ((with_reducible refine rmk (by assumption) ?_); rfl) | ((with_reducible refine rm0 (by assumption) ?_); rfl) | ((with_reducible refine lel (by assumption) ?_); rfl) | ((with_reducible refine llt (by assumption) ?_); rfl) | ((with_reducible refine ltt (by assumption) ?_); rfl) | ((with_reducible refine ltl (by assumption) ?_); rfl) | ((with_reducible refine ilt (by assumption) ?_); rfl) | (with_reducible exact rmz (by assumption)) | (with_reducible assumption)
  exact True.intro
open PySem.Calls
section
variable {w : World} {A : Around} {E : Value → Shared → Prop} {s : Shared}
theorem ba_head {h₀ : Heap} {L D : Addr} {m : Str → Option Value} {news : List (Addr × Obj)} {b : Array UInt8} {ks : List Int} {u : Tok} {value slice : PySem.Expr} {Q : Value → Shared → Prop} (F : Fr h₀ L s.heap m) (N : News h₀ L s.heap news) (hm : (D, baObj b) ∈ news) (hk : KBw.bInts b = ks) (hz : ks.length = 11)
    (h : ∀ h' B b' p, Fr h₀ L h' m → News h₀ L h' ((B, baObj b') :: news) → (∀ p ∈ news, p.1 ≠ B) → KBw.bInts b' = p → p = ks.take 8 → p.length = 8 → Q (.ref B) { s with heap := h' })
    (hs : subscripted slice false (.ref D) (.ref s.heap.objs.size) = operate [.ref s.heap.objs.size, .ref D] (getItem (.ref D) (.ref s.heap.objs.size)) := by with_unfolding_all rfl)
    (ht : ∀ r, letTemporaryGo value (.ref D) r = pure () := by intro _; with_unfolding_all rfl) :
    wpAny (model PG w) A (subscriptTail value slice (.ref D) (.ref s.heap.objs.size)) Q E { s with heap := s.heap.push { cls := .type "slice", data := .fields #[.none, .int 8 u, .none] } } :=
  ba_slice_K F N hm hk (lo := none) (hi := some 8) (by constructor) (by constructor) (by (first | k_extra "O" | omega)) (fun h' B b' F' N' n e => h h' B b' _ F' N' n rfl (by
    rw [e]
    show (ks.drop 0).take (clipAt ks.length 8 - 0) = _
    rw [KBc.clip_lit, hz]; rfl) (by
    rw [e]
    show ((ks.drop 0).take (clipAt ks.length 8 - 0)).length = _
    rw [KBc.clip_lit, hz]; simp [hz])) hs ht
theorem ba_mid {h₀ : Heap} {L D : Addr} {m : Str → Option Value} {news : List (Addr × Obj)} {b : Array UInt8} {ks : List Int} {u v : Tok} {value slice : PySem.Expr} {Q : Value → Shared → Prop} (F : Fr h₀ L s.heap m) (N : News h₀ L s.heap news) (hm : (D, baObj b) ∈ news) (hk : KBw.bInts b = ks) (hz : ks.length = 11)
    (h : ∀ h' B b' p, Fr h₀ L h' m → News h₀ L h' ((B, baObj b') :: news) → (∀ p ∈ news, p.1 ≠ B) → KBw.bInts b' = p → p = ks.drop 8 → p.length = 3 → Q (.ref B) { s with heap := h' })
    (hs : subscripted slice false (.ref D) (.ref s.heap.objs.size) = operate [.ref s.heap.objs.size, .ref D] (getItem (.ref D) (.ref s.heap.objs.size)) := by with_unfolding_all rfl)
    (ht : ∀ r, letTemporaryGo value (.ref D) r = pure () := by intro _; with_unfolding_all rfl) :
    wpAny (model PG w) A (subscriptTail value slice (.ref D) (.ref s.heap.objs.size)) Q E { s with heap := s.heap.push { cls := .type "slice", data := .fields #[.int 8 v, .int 11 u, .none] } } :=
  ba_slice_K F N hm hk (lo := some 8) (hi := some 11) (by constructor) (by constructor) (by (first | k_extra "O" | omega)) (fun h' B b' F' N' n e => by
    have e' : (ks.drop (clipAt ks.length 8)).take (clipAt ks.length 11 - clipAt ks.length 8) = ks.drop 8 := by
      rw [KBc.clip_lit, KBc.clip_lit, hz]
      show (ks.drop 8).take 3 = _
      exact List.take_of_length_le (by simp [hz])
    exact h h' B b' _ F' N' n rfl (e.trans e') (by rw [e.trans e']; simp [hz])) hs ht
theorem ba_setN {h₀ : Heap} {L D : Addr} {m : Str → Option Value} {news : List (Addr × Obj)} {g : Obj → List (Addr × Obj)} {b : Array UInt8} {ks : List Int} {k x : Int} {t u : Tok} {Q : Unit → Shared → Prop} (F : Fr h₀ L s.heap m) (N : News h₀ L s.heap news)
    (U : UpdF D (baObj b) news g) (hk : KBw.bInts b = ks) (h0 : 0 ≤ k) (h1 : k < (ks.length : Int)) (hz : ks.length < 1000) (hx : 0 ≤ x ∧ x < 256)
    (h : ∀ h' b' ks', Fr h₀ L h' m → News h₀ L h' (g (baObj b')) → KBw.bInts b' = ks' → ks' = ks.set k.toNat x → ks'.length = ks.length → Q () { s with heap := h' }) : wpAny (model PG w) A (setItem (.ref D) (.int k t) (.int x u)) Q E s := by
  obtain ⟨pre, post, rfl, e, a, c⟩ := U.split
  have z := N (D, baObj b) (List.mem_append.mpr (.inr (.head _)))
  have hl : b.size = ks.length := by rw [← hk, KBw.ints_length]
  refine ba_set z.1 h0 (by (first | k_extra "O" | omega)) (by (first | k_extra "O" | omega)) hx.1 hx.2 fun h' e' sb => h h' _ _ (F.change sb z.2.1 z.2.2) (by rw [e]; exact news_set N a c sb e') (ints_set hk hx.1 hx.2) rfl (by rw [List.length_set])
end
theorem kept_off {h g h' : Heap} {L : Addr} {m : Str → Option Value} {news : List (Addr × Obj)} {h₀ : Heap} (F : Fr g L h' m) (k1 : ∀ b o, h.get? b = some o → b ∉ news.map (·.1) → g.get? b = some o)
    (N : ∀ p ∈ news, h.get? p.1 = some p.2 ∧ h₀.get? p.1 = none) (D : Addr) (N' : ∀ p ∈ news, p.1 ≠ D → h'.get? p.1 = some p.2) : ∀ a o, a ≠ D → h.get? a = some o → h'.get? a = some o := fun a o n e => by
  by_cases m : a ∈ news.map (·.1)
  · obtain ⟨p, hp, rfl⟩ := List.mem_map.mp m
    rw [(N p hp).1] at e
    cases e
    exact N' p hp n
  · exact F.keep _ _ (k1 a o e m)
theorem fix_yes {ks : List Int} (h : ks.getD (Int.toNat 0) 0 = 5) : fixL ks = ks.set (Int.toNat 0) 229 := if_pos h
theorem fix_no {ks : List Int} (h : ks.getD (Int.toNat 0) 0 ≠ 5) : fixL ks = ks := if_neg h
theorem obj_ne {h : Heap} {a b : Addr} {o o' : Obj} (ha : h.get? a = some o) (hb : h.get? b = some o') (n : o.data ≠ o'.data) : a ≠ b := fun q => by
  subst q
  rw [ha] at hb
  cases hb
  exact n rfl
section
theorem zw_B5_29 : True := by
  k_with_none
  k_with "O" => first | decide | ((with_reducible refine rmk (by assumption) ?_); rfl) | ((with_reducible refine rm0 (by assumption) ?_); rfl) | ((with_reducible refine lel (by assumption) ?_); rfl) | ((with_reducible refine llt (by assumption) ?_); rfl) | ((with_reducible refine ltt (by assumption) ?_); rfl) | ((with_reducible refine ltl (by assumption) ?_); rfl) | ((with_reducible refine ilt (by assumption) ?_); rfl) | (with_reducible exact rmz (by assumption)) | (with_reducible assumption)
  k_with "ks" => repeat' (first | (k_unfold; (try dsimp only)) | (k_end; wrow_close) | ((fail_if_success (with_reducible show wpAny _ _ (pyIter _) (fun it s₂ => LoopAtV _ _ _ _ _ _ _ _ _ it s₂) _ _)); (first | k_extra "H" | walk1)) | ((fail_if_success (with_reducible show wpAny _ _ (pyIter _) (fun it s₂ => LoopAtV _ _ _ _ _ _ _ _ _ it s₂) _ _)); dsimp only; (first | k_extra "H" | walk1)) | fail "no step")
  k_with "forhere" => (with_reducible show wpAny _ _ (pyIter _) (fun it s₂ => LoopAtV _ _ _ _ _ _ _ _ _ it s₂) _ _)
  k_with "H" => (k_here; (with_reducible show wpAny _ _ (call (Value.ref 90) _) _ _ _); k_dflt (refine' decoded_K ?k1 ?k2 ?k3 ?k4 ?k5 ?k9 ?k6 ?k7 ?_; (case k1 => k_asm); (case k2 => k_asm); (case k3 => k_asm); (case k4 => k_asm); (case k5 => (dsimp only [Around.deeper]; (first | k_extra "O" | omega))); (case k9 => k_mem); (case k6 => with_reducible assumption); (case k7 => (first | k_extra "O" | omega)); k_whole); intro _ _ _ _ _ _ _ _)
  k_with "H" => (k_here; (with_reducible show wpAny _ _ (subscriptTail _ _ (Value.ref _) (Value.int _ _)) _ _ _); k_dflt (refine' ba_item_K ?k1 ?k2 ?k3 ?k4 ?k5 ?k6 ?_; (case k1 => k_asm); (case k2 => k_mem); (case k3 => with_reducible assumption); (case k4 => (first | k_extra "O" | omega)); (case k5 => (first | k_extra "O" | omega)); (case k6 => (first | k_extra "O" | omega))); intro _ _ _ _)
  k_with "H" => (k_here; (with_reducible show wpAny _ _ (subscriptTail _ (Expr.Slice none _ none _) (Value.ref _) (Value.ref _)) _ _ _); (with_reducible rename Fr _ _ _ _ => zzF); (with_reducible rename News _ _ _ _ => zzN); k_dflt (refine' ba_head (s := ⟨_, _, _, _, _⟩) zzF zzN ?k1 ?k2 ?k3 ?_; (case k1 => k_mem); (case k2 => with_reducible assumption); (case k3 => (first | k_extra "O" | omega))); intro _ _ _ _ zzF zzN _ _ _ _)
  k_with "H" => (k_here; (with_reducible show wpAny _ _ (subscriptTail _ (Expr.Slice (some _) _ none _) (Value.ref _) (Value.ref _)) _ _ _); (with_reducible rename Fr _ _ _ _ => zzF); (with_reducible rename News _ _ _ _ => zzN); k_dflt (refine' ba_mid (s := ⟨_, _, _, _, _⟩) zzF zzN ?k1 ?k2 ?k3 ?_; (case k1 => k_mem); (case k2 => with_reducible assumption); (case k3 => (first | k_extra "O" | omega))); intro _ _ _ _ zzF zzN _ _ _ _)
  k_with "H" => (k_here; (with_reducible show wpAny _ _ (setItem (Value.ref _) (Value.int _ _) (Value.int _ _)) _ _ _); k_dflt (refine' ba_setN ?k1 ?k2 ?k3 ?k4 ?k5 ?k6 ?k7 ?k8 ?_; (case k1 => k_asm); (case k2 => k_asm); (case k3 => k_updF); (case k4 => with_reducible assumption); (case k5 => (first | k_extra "O" | omega)); (case k6 => (first | k_extra "O" | omega)); (case k7 => (first | k_extra "O" | omega)); (case k8 => (first | k_extra "O" | omega))); intro _ _ _ _ zzN _ _ _; (try dsimp only at zzN); (try k_sweep))
  exact True.intro
set_option maxHeartbeats 4000000 in
theorem as_text_code {w : World} {mean : ExcName → Option Value} {mg mb : Str → Option Value} {dp un : Nat} {fr : Option (List Env)} {gd : Option (List Code)} {R : Result → Shared → Prop} {s : Shared} {h₀ : Heap} {x dx D : Addr} {n1 n2 n3 : Tok} {v2 : Value} {b : Array UInt8} {ks : List Int}
    (S : ∀ b o, h₀.get? b = some o → s.heap.get? b = some o) (X₀ : (Mine.hh.heap_1_39 w.params).In h₀) (T : Top Mine.hh.view_1_40 (looseW Mine.hh.view_1_40 [Str.ofString "PyFATException", Str.ofString "errno", Str.ofString "EightDotThree"]) mean mg mb h₀)
    (N : ∀ p ∈ ([(x, oneObj dx), (dx, oneD w.params n1 n2 n3 (.ref D) v2 (.bool true)), (D, baObj b)] : List (Addr × Obj)), s.heap.get? p.1 = some p.2 ∧ h₀.get? p.1 = none)
    (hroom : dp + 10 < recursionLimit) (hk : KBw.bInts b = ks) (hlen : ks.length = 11) (hok : OctsOk (fixL ks))
    (hR : ∀ h' y t tk b', h'.get? D = some (baObj b') → KBw.bInts b' = fixL ks → (∀ a o, a ≠ D → s.heap.get? a = some o → h'.get? a = some o) → y = strL (toldL (fixL ks)) → R (.ok (.ret (.str y t))) { s with heap := h', toks := tk }) :
    codeAny (model PySem.Challenge.rw_kj0039_01.row.prog w) { handled := none, depth := dp, frames := fr, guards := gd, units := un } (.call (.ref 127) ⟨[.ref x], []⟩) R s := by
  revert X₀; k_fill; intro X₀
  refine' enter (f := 127) (mm := (fun zq => List.lookup zq [(Str.ofString "self", .ref x)])) S X₀ T N ?ho ?hcd ?hr ?hb ?hmm ?hloc ?_ ?c1 ?c2 ?c3 ?c4
  case ho => k_is
  case hcd => k_is
  case hr => show dp < recursionLimit; (first | k_extra "O" | omega)
  case hb => exact BindsTo.of_eq rfl
  case hmm => first | rfl | kernel_rfl | with_unfolding_all rfl
  case hloc => exact locs rfl
  case c1 => exact rfl
  case c2 => exact rfl
  case c3 => exact rfl
  case c4 => decide
  intro g L' h₁ tkA k1 k2 k3 F' N' X' T' k4 k5
  (try dsimp only)
  k_fold
  have ne1 : x ≠ D := obj_ne (N _ (.head _)).1 (N _ (.tail _ (.tail _ (.head _)))).1 (by simp)
  have ne2 : dx ≠ D := obj_ne (N _ (.tail _ (.head _))).1 (N _ (.tail _ (.tail _ (.head _)))).1 (by simp)
  walk_at "ks"
  all_goals (
    (rename Fr _ _ _ _ => F9)
    (rename News _ _ _ _ => N9)
    have kk := kept_off F9 k1 N D (fun p hp hd => by
      rcases List.mem_cons.mp hp with rfl | hp
      · exact (N9 _ (by k_mem)).1
      · rcases List.mem_cons.mp hp with rfl | hp
        · exact (N9 _ (by k_mem)).1
        · exact absurd (congrArg Prod.fst (List.mem_singleton.mp hp)) hd))
  all_goals (first
    | (have g5 : ks.getD (Int.toNat 0) 0 = 5 := by assumption
       (rename (_ = ks.set (Int.toNat 0) 229) => eks)
       have ef : fixL ks = _ := (fix_yes g5).trans eks.symm
       rw [ef] at hok
       have tj := told_join hok (by assumption) (by assumption) (by assumption) (by assumption)
       have fin := fun tk t => hR _ _ t tk _ (N9 (D, baObj _) (by k_mem)).1 ((by assumption : KBw.bInts _ = _).trans ef.symm) kk rfl
       rw [ef] at fin
       first | (rw [← tj.1 (by assumption)] at fin; exact fin _ _) | (rw [← tj.2 (by assumption)] at fin; exact fin _ _))
    | (have g5 : ks.getD (Int.toNat 0) 0 ≠ 5 := by assumption
       have ef : fixL ks = ks := fix_no g5
       rw [ef] at hok
       have tj := told_join hok (by assumption) (by assumption) (by assumption) (by assumption)
       have fin := fun tk t => hR _ _ t tk _ (N9 (D, baObj _) (by k_mem)).1 (hk.trans ef.symm) kk rfl
       rw [ef] at fin
       first | (rw [← tj.1 (by assumption)] at fin; exact fin _ _) | (rw [← tj.2 (by assumption)] at fin; exact fin _ _)))
end
theorem zw_B5_30 : True := by
  k_with_none
  k_with "O" => first | decide | ((with_reducible refine rmk (by assumption) ?_); rfl) | ((with_reducible refine rm0 (by assumption) ?_); rfl) | ((with_reducible refine lel (by assumption) ?_); rfl) | ((with_reducible refine llt (by assumption) ?_); rfl) | ((with_reducible refine ltt (by assumption) ?_); rfl) | ((with_reducible refine ltl (by assumption) ?_); rfl) | ((with_reducible refine ilt (by assumption) ?_); rfl) | (with_reducible exact rmz (by assumption)) | (with_reducible assumption)
  exact True.intro
theorem as_text_K {w : World} {mean : ExcName → Option Value} {mg mb : Str → Option Value} {dp un : Nat} {fr : Option (List Env)} {gd : Option (List Code)} {E : Value → Shared → Prop} {s : Shared} {h₀ : Heap} {L : Addr} {m : Str → Option Value} {news : List (Addr × Obj)} {Q : Value → Shared → Prop} {x dx D : Addr} {n1 n2 n3 : Tok} {v2 : Value} {b : Array UInt8} {ks : List Int} {newsF : Obj → List (Addr × Obj)}
    (F : Fr h₀ L s.heap m) (X₀ : (Mine.hh.heap_1_39 w.params).In h₀) (N : News h₀ L s.heap news) (T : Top Mine.hh.view_1_40 (looseW Mine.hh.view_1_40 [Str.ofString "PyFATException", Str.ofString "errno", Str.ofString "EightDotThree"]) mean mg mb h₀) (hroom : dp + 10 < recursionLimit) (hx : (x, oneObj dx) ∈ news) (hdx : (dx, oneD w.params n1 n2 n3 (.ref D) v2 (.bool true)) ∈ news) (U : UpdF D (baObj b) news newsF) (hk : KBw.bInts b = ks) (hlen : ks.length = 11) (hok : OctsOk (fixL ks))
    (h : ∀ h' y t tk b', KBw.bInts b' = fixL ks → y = strL (toldL (fixL ks)) → Fr h₀ L h' m → News h₀ L h' (newsF (baObj b')) → Q (.str y t) { s with heap := h', toks := tk }) :
    wpAny (model PySem.Challenge.rw_kj0039_01.row.prog w) { handled := none, depth := dp, frames := fr, guards := gd, units := un } (call (.ref 127) [.ref x]) Q E s := by
  obtain ⟨pre, post, e1, _⟩ := U.split
  have hD : (D, baObj b) ∈ news := by rw [e1]; exact List.mem_append.mpr (.inr (.head _))
  refine wpAny_call (as_text_code (D := D) (dx := dx) (n1 := n1) (n2 := n2) (n3 := n3) (v2 := v2) F.keep X₀ T (fun p hp => ?_) hroom hk hlen hok fun h' y t tk b' a1 a2 a3 a4 => ?_)
  · rcases List.mem_cons.mp hp with rfl | hp
    · exact ⟨(N _ hx).1, (N _ hx).2.2⟩
    · rcases List.mem_cons.mp hp with rfl | hp
      · exact ⟨(N _ hdx).1, (N _ hdx).2.2⟩
      · rw [List.mem_singleton.mp hp]; exact ⟨(N _ hD).1, (N _ hD).2.2⟩
  · obtain ⟨F', N'⟩ := updF_K F N U a3 a1
    exact h h' y t tk b' a2 a4 F' N'
end Mine
namespace Mine
theorem zr_B6 : True := by
  w_top off
  k_with_none
  k_with "O" => first | decide | ((with_reducible refine rmk (by assumption) ?_); rfl) | ((with_reducible refine rm0 (by assumption) ?_); rfl) | ((with_reducible refine lel (by assumption) ?_); rfl) | ((with_reducible refine llt (by assumption) ?_); rfl) | ((with_reducible refine ltt (by assumption) ?_); rfl) | ((with_reducible refine ltl (by assumption) ?_); rfl) | ((with_reducible refine ilt (by assumption) ?_); rfl) | (with_reducible exact rmz (by assumption)) | (with_reducible assumption)
  exact True.intro
open PySem.Calls
theorem bytes_ba_K {w : World} {A : Around} {E : Value → Shared → Prop} {s : Shared} {h₀ : Heap} {L D : Addr} {news : List (Addr × Obj)} {b : Array UInt8} {ks : List Int} {Q : Value → Shared → Prop} (N : News h₀ L s.heap news) (hm : (D, baObj b) ∈ news) (hk : KBw.bInts b = ks) (hz : ks.length ≤ 100)
    (h : ∀ t k, Q (.bytes b t) { s with toks := k }) : wpAny (model PG w) A (call (.type "bytes") [.ref D]) Q E s := call_bytes_ba (N _ hm).1 (by have := KBw.ints_length b; rw [hk] at this; (first | k_extra "O" | omega)) h
section
theorem zw_B6_31 : True := by
  k_with_none
  k_with "O" => first | decide | ((with_reducible refine rmk (by assumption) ?_); rfl) | ((with_reducible refine rm0 (by assumption) ?_); rfl) | ((with_reducible refine lel (by assumption) ?_); rfl) | ((with_reducible refine llt (by assumption) ?_); rfl) | ((with_reducible refine ltt (by assumption) ?_); rfl) | ((with_reducible refine ltl (by assumption) ?_); rfl) | ((with_reducible refine ilt (by assumption) ?_); rfl) | (with_reducible exact rmz (by assumption)) | (with_reducible assumption)
  k_with "ks" => repeat' (first | (k_unfold; (try dsimp only)) | (k_end; wrow_close) | ((fail_if_success (with_reducible show wpAny _ _ (pyIter _) (fun it s₂ => LoopAtV _ _ _ _ _ _ _ _ _ it s₂) _ _)); (first | k_extra "H" | walk1)) | ((fail_if_success (with_reducible show wpAny _ _ (pyIter _) (fun it s₂ => LoopAtV _ _ _ _ _ _ _ _ _ it s₂) _ _)); dsimp only; (first | k_extra "H" | walk1)) | fail "no step")
  k_with "forhere" => (with_reducible show wpAny _ _ (pyIter _) (fun it s₂ => LoopAtV _ _ _ _ _ _ _ _ _ it s₂) _ _)
  exact True.intro
set_option maxHeartbeats 4000000 in
theorem icheck_ok_code {w : World} {mean : ExcName → Option Value} {mg mb : Str → Option Value} {dp un : Nat} {fr : Option (List Env)} {gd : Option (List Code)} {R : Result → Shared → Prop} {s : Shared} {h₀ : Heap} {x dx : Addr} {n1 n2 n3 : Tok} {v1 v2 : Value}
    (S : ∀ b o, h₀.get? b = some o → s.heap.get? b = some o) (X₀ : (Mine.hh.heap_1_39 w.params).In h₀) (T : Top Mine.hh.view_1_40 (looseW Mine.hh.view_1_40 [Str.ofString "PyFATException", Str.ofString "errno", Str.ofString "EightDotThree"]) mean mg mb h₀)
    (N : ∀ p ∈ ([(x, oneObj dx), (dx, oneD w.params n1 n2 n3 v1 v2 (.bool true))] : List (Addr × Obj)), s.heap.get? p.1 = some p.2 ∧ h₀.get? p.1 = none)
    (hroom : dp + 3 < recursionLimit) 
    (hR : ∀ h' tk, (∀ a o, s.heap.get? a = some o → h'.get? a = some o) → R (.ok (.ret .none)) { s with heap := h', toks := tk }) :
    codeAny (model PySem.Challenge.rw_kj0039_01.row.prog w) { handled := none, depth := dp, frames := fr, guards := gd, units := un } (.call (.ref 104) ⟨[.ref x], []⟩) R s := by
  revert X₀; k_fill; intro X₀
  refine' enter (f := 104) (mm := (fun zq => List.lookup zq [(Str.ofString "one", .ref x)])) S X₀ T N ?ho ?hcd ?hr ?hb ?hmm ?hloc ?_ ?c1 ?c2 ?c3 ?c4
  case ho => k_is
  case hcd => k_is
  case hr => show dp < recursionLimit; (first | k_extra "O" | omega)
  case hb => exact BindsTo.of_eq rfl
  case hmm => first | rfl | kernel_rfl | with_unfolding_all rfl
  case hloc => exact locs rfl
  case c1 => exact rfl
  case c2 => exact rfl
  case c3 => exact rfl
  case c4 => decide
  intro g L' h₁ tkA k1 k2 k3 F' N' X' T' k4 k5
  (try dsimp only)
  k_fold
  walk_at "ks"
  rename Fr _ _ _ _ => F9
  rename News _ _ _ _ => N9
  exact hR _ _ (kept_all F9 k1 N fun p hp => (N9 p hp).1)
end
theorem zw_B6_32 : True := by
  k_with_none
  k_with "O" => first | decide | ((with_reducible refine rmk (by assumption) ?_); rfl) | ((with_reducible refine rm0 (by assumption) ?_); rfl) | ((with_reducible refine lel (by assumption) ?_); rfl) | ((with_reducible refine llt (by assumption) ?_); rfl) | ((with_reducible refine ltt (by assumption) ?_); rfl) | ((with_reducible refine ltl (by assumption) ?_); rfl) | ((with_reducible refine ilt (by assumption) ?_); rfl) | (with_reducible exact rmz (by assumption)) | (with_reducible assumption)
  exact True.intro
theorem icheck_ok_K {w : World} {mean : ExcName → Option Value} {mg mb : Str → Option Value} {dp un : Nat} {fr : Option (List Env)} {gd : Option (List Code)} {E : Value → Shared → Prop} {s : Shared} {h₀ : Heap} {L : Addr} {m : Str → Option Value} {news : List (Addr × Obj)} {Q : Value → Shared → Prop} {x dx : Addr} {n1 n2 n3 : Tok} {v1 v2 : Value}
    (F : Fr h₀ L s.heap m) (X₀ : (Mine.hh.heap_1_39 w.params).In h₀) (N : News h₀ L s.heap news) (T : Top Mine.hh.view_1_40 (looseW Mine.hh.view_1_40 [Str.ofString "PyFATException", Str.ofString "errno", Str.ofString "EightDotThree"]) mean mg mb h₀) (hroom : dp + 3 < recursionLimit) (hx : (x, oneObj dx) ∈ news) (hdx : (dx, oneD w.params n1 n2 n3 v1 v2 (.bool true)) ∈ news)
    (h : ∀ h' tk, Fr h₀ L h' m → News h₀ L h' news → Q .none { s with heap := h', toks := tk }) :
    wpAny (model PySem.Challenge.rw_kj0039_01.row.prog w) { handled := none, depth := dp, frames := fr, guards := gd, units := un } (call (.ref 104) [.ref x]) Q E s := by
  refine wpAny_call (icheck_ok_code (dx := dx) (n1 := n1) (n2 := n2) (n3 := n3) (v1 := v1) (v2 := v2) F.keep X₀ T (fun p hp => ?_) hroom fun h' tk a1 => ?_)
  · rcases List.mem_cons.mp hp with rfl | hp
    · exact ⟨(N _ hx).1, (N _ hx).2.2⟩
    · rw [List.mem_singleton.mp hp]; exact ⟨(N _ hdx).1, (N _ hdx).2.2⟩
  · exact h h' tk (F.keptAll a1) fun p hp => ⟨a1 _ _ (N p hp).1, (N p hp).2⟩
section
theorem zw_B6_33 : True := by
  k_with_none
  k_with "O" => first | decide | ((with_reducible refine rmk (by assumption) ?_); rfl) | ((with_reducible refine rm0 (by assumption) ?_); rfl) | ((with_reducible refine lel (by assumption) ?_); rfl) | ((with_reducible refine llt (by assumption) ?_); rfl) | ((with_reducible refine ltt (by assumption) ?_); rfl) | ((with_reducible refine ltl (by assumption) ?_); rfl) | ((with_reducible refine ilt (by assumption) ?_); rfl) | (with_reducible exact rmz (by assumption)) | (with_reducible assumption)
  k_with "ks" => repeat' (first | (k_unfold; (try dsimp only)) | (k_end; wrow_close) | ((fail_if_success (with_reducible show wpAny _ _ (pyIter _) (fun it s₂ => LoopAtV _ _ _ _ _ _ _ _ _ it s₂) _ _)); (first | k_extra "H" | walk1)) | ((fail_if_success (with_reducible show wpAny _ _ (pyIter _) (fun it s₂ => LoopAtV _ _ _ _ _ _ _ _ _ it s₂) _ _)); dsimp only; (first | k_extra "H" | walk1)) | fail "no step")
  k_with "forhere" => (with_reducible show wpAny _ _ (pyIter _) (fun it s₂ => LoopAtV _ _ _ _ _ _ _ _ _ it s₂) _ _)
  k_with "H" => (k_here; (with_reducible show wpAny _ _ (call (Value.ref 104) _) _ _ _); k_dflt (refine' icheck_ok_K ?k1 ?k2 ?k3 ?k4 ?k5 ?k6 ?k7 ?_; (case k1 => k_asm); (case k2 => k_asm); (case k3 => k_asm); (case k4 => k_asm); (case k5 => (dsimp only [Around.deeper]; (first | k_extra "O" | omega))); (case k6 => k_mem); (case k7 => k_mem); k_whole); intro _ _ _ _)
  k_with "H" => (k_here; (with_reducible show wpAny _ _ (call (Value.ref 127) _) _ _ _); k_dflt (refine' as_text_K ?k1 ?k2 ?k3 ?k4 ?k5 ?k6 ?k7 ?k8 ?k9 ?c1 ?c2 ?_; (case k1 => k_asm); (case k2 => k_asm); (case k3 => k_asm); (case k4 => k_asm); (case k5 => (dsimp only [Around.deeper]; (first | k_extra "O" | omega))); (case k6 => k_mem); (case k7 => k_mem); (case k8 => k_updF); (case k9 => with_reducible assumption); (case c1 => (first | k_extra "O" | omega)); (case c2 => with_reducible assumption); k_whole); intro _ _ _ _ _ _ _ _ zzN; (try dsimp only at zzN); (try k_sweep))
  exact True.intro
set_option maxHeartbeats 4000000 in
theorem unpadded_code {w : World} {mean : ExcName → Option Value} {mg mb : Str → Option Value} {dp un : Nat} {fr : Option (List Env)} {gd : Option (List Code)} {R : Result → Shared → Prop} {s : Shared} {h₀ : Heap} {x dx D : Addr} {n1 n2 n3 : Tok} {v2 : Value} {b : Array UInt8} {ks : List Int}
    (S : ∀ b o, h₀.get? b = some o → s.heap.get? b = some o) (X₀ : (Mine.hh.heap_1_39 w.params).In h₀) (T : Top Mine.hh.view_1_40 (looseW Mine.hh.view_1_40 [Str.ofString "PyFATException", Str.ofString "errno", Str.ofString "EightDotThree"]) mean mg mb h₀)
    (N : ∀ p ∈ ([(x, oneObj dx), (dx, oneD w.params n1 n2 n3 (.ref D) v2 (.bool true)), (D, baObj b)] : List (Addr × Obj)), s.heap.get? p.1 = some p.2 ∧ h₀.get? p.1 = none)
    (hroom : dp + 20 < recursionLimit) (hk : KBw.bInts b = ks) (hlen : ks.length = 11) (hok : OctsOk (fixL ks))
    (hR : ∀ h' y t tk b', h'.get? D = some (baObj b') → KBw.bInts b' = fixL ks → (∀ a o, a ≠ D → s.heap.get? a = some o → h'.get? a = some o) → y = strL (toldL (fixL ks)) → R (.ok (.ret (.str y t))) { s with heap := h', toks := tk }) :
    codeAny (model PySem.Challenge.rw_kj0039_01.row.prog w) { handled := none, depth := dp, frames := fr, guards := gd, units := un } (.call (.ref 141) ⟨[.ref x], []⟩) R s := by
  revert X₀; k_fill; intro X₀
  refine' enter (f := 141) (mm := (fun zq => List.lookup zq [(Str.ofString "self", .ref x)])) S X₀ T N ?ho ?hcd ?hr ?hb ?hmm ?hloc ?_ ?c1 ?c2 ?c3 ?c4
  case ho => k_is
  case hcd => k_is
  case hr => show dp < recursionLimit; (first | k_extra "O" | omega)
  case hb => exact BindsTo.of_eq rfl
  case hmm => first | rfl | kernel_rfl | with_unfolding_all rfl
  case hloc => exact locs rfl
  case c1 => exact rfl
  case c2 => exact rfl
  case c3 => exact rfl
  case c4 => decide
  intro g L' h₁ tkA k1 k2 k3 F' N' X' T' k4 k5
  (try dsimp only)
  k_fold
  have ne1 : x ≠ D := obj_ne (N _ (.head _)).1 (N _ (.tail _ (.tail _ (.head _)))).1 (by simp)
  have ne2 : dx ≠ D := obj_ne (N _ (.tail _ (.head _))).1 (N _ (.tail _ (.tail _ (.head _)))).1 (by simp)
  walk_at "ks"
  rename Fr _ _ _ _ => F9
  rename News _ _ _ _ => N9
  have kk := kept_off F9 k1 N D (fun p hp hd => by
      rcases List.mem_cons.mp hp with rfl | hp
      · exact (N9 _ (by k_mem)).1
      · rcases List.mem_cons.mp hp with rfl | hp
        · exact (N9 _ (by k_mem)).1
        · exact absurd (congrArg Prod.fst (List.mem_singleton.mp hp)) hd)
  (try (k_unfold; dsimp only))
  exact hR _ _ _ _ _ (N9 (D, baObj _) (by k_mem)).1 (by assumption) kk (by assumption)
end
section
theorem zw_B6_34 : True := by
  k_with_none
  k_with "O" => first | decide | ((with_reducible refine rmk (by assumption) ?_); rfl) | ((with_reducible refine rm0 (by assumption) ?_); rfl) | ((with_reducible refine lel (by assumption) ?_); rfl) | ((with_reducible refine llt (by assumption) ?_); rfl) | ((with_reducible refine ltt (by assumption) ?_); rfl) | ((with_reducible refine ltl (by assumption) ?_); rfl) | ((with_reducible refine ilt (by assumption) ?_); rfl) | (with_reducible exact rmz (by assumption)) | (with_reducible assumption)
  k_with "ks" => repeat' (first | (k_unfold; (try dsimp only)) | (k_end; wrow_close) | ((fail_if_success (with_reducible show wpAny _ _ (pyIter _) (fun it s₂ => LoopAtV _ _ _ _ _ _ _ _ _ it s₂) _ _)); (first | k_extra "H" | walk1)) | ((fail_if_success (with_reducible show wpAny _ _ (pyIter _) (fun it s₂ => LoopAtV _ _ _ _ _ _ _ _ _ it s₂) _ _)); dsimp only; (first | k_extra "H" | walk1)) | fail "no step")
  k_with "forhere" => (with_reducible show wpAny _ _ (pyIter _) (fun it s₂ => LoopAtV _ _ _ _ _ _ _ _ _ it s₂) _ _)
  k_with "H" => (k_here; (with_reducible show wpAny _ _ (call (Value.type "bytes") [Value.ref _]) _ _ _); k_dflt (refine' bytes_ba_K ?k1 ?k2 ?k3 ?k4 ?_; (case k1 => k_asm); (case k2 => k_mem); (case k3 => with_reducible assumption); (case k4 => (first | k_extra "O" | omega))); intro _ _)
  exact True.intro
set_option maxHeartbeats 4000000 in
theorem as_bytes_code {w : World} {mean : ExcName → Option Value} {mg mb : Str → Option Value} {dp un : Nat} {fr : Option (List Env)} {gd : Option (List Code)} {R : Result → Shared → Prop} {s : Shared} {h₀ : Heap} {x dx D : Addr} {n1 n2 n3 : Tok} {v2 : Value} {b : Array UInt8} {ks : List Int}
    (S : ∀ b o, h₀.get? b = some o → s.heap.get? b = some o) (X₀ : (Mine.hh.heap_1_39 w.params).In h₀) (T : Top Mine.hh.view_1_40 (looseW Mine.hh.view_1_40 [Str.ofString "PyFATException", Str.ofString "errno", Str.ofString "EightDotThree"]) mean mg mb h₀)
    (N : ∀ p ∈ ([(x, oneObj dx), (dx, oneD w.params n1 n2 n3 (.ref D) v2 (.bool true)), (D, baObj b)] : List (Addr × Obj)), s.heap.get? p.1 = some p.2 ∧ h₀.get? p.1 = none)
    (hroom : dp + 5 < recursionLimit) (hk : KBw.bInts b = ks) (hlen : ks.length = 11)
    (hR : ∀ h' t tk, (∀ a o, s.heap.get? a = some o → h'.get? a = some o) → R (.ok (.ret (.bytes b t))) { s with heap := h', toks := tk }) :
    codeAny (model PySem.Challenge.rw_kj0039_01.row.prog w) { handled := none, depth := dp, frames := fr, guards := gd, units := un } (.call (.ref 134) ⟨[.ref x], []⟩) R s := by
  revert X₀; k_fill; intro X₀
  refine' enter (f := 134) (mm := (fun zq => List.lookup zq [(Str.ofString "self", .ref x)])) S X₀ T N ?ho ?hcd ?hr ?hb ?hmm ?hloc ?_ ?c1 ?c2 ?c3 ?c4
  case ho => k_is
  case hcd => k_is
  case hr => show dp < recursionLimit; (first | k_extra "O" | omega)
  case hb => exact BindsTo.of_eq rfl
  case hmm => first | rfl | kernel_rfl | with_unfolding_all rfl
  case hloc => exact locs rfl
  case c1 => exact rfl
  case c2 => exact rfl
  case c3 => exact rfl
  case c4 => decide
  intro g L' h₁ tkA k1 k2 k3 F' N' X' T' k4 k5
  (try dsimp only)
  k_fold
  walk_at "ks"
  rename Fr _ _ _ _ => F9
  rename News _ _ _ _ => N9
  (try (k_unfold; dsimp only))
  exact hR _ _ _ (kept_all F9 k1 N fun p hp => (N9 p hp).1)
end
end Mine
namespace Mine
theorem zr_B7 : True := by
  w_top off
  k_with_none
  k_with "O" => first | decide | ((with_reducible refine rmk (by assumption) ?_); rfl) | ((with_reducible refine rm0 (by assumption) ?_); rfl) | ((with_reducible refine lel (by assumption) ?_); rfl) | ((with_reducible refine llt (by assumption) ?_); rfl) | ((with_reducible refine ltt (by assumption) ?_); rfl) | ((with_reducible refine ltl (by assumption) ?_); rfl) | ((with_reducible refine ilt (by assumption) ?_); rfl) | (with_reducible exact rmz (by assumption)) | (with_reducible assumption)
  exact True.intro
open PySem.Calls
theorem unpadded_K {w : World} {mean : ExcName → Option Value} {mg mb : Str → Option Value} {dp un : Nat} {fr : Option (List Env)} {gd : Option (List Code)} {E : Value → Shared → Prop} {s : Shared} {h₀ : Heap} {L : Addr} {m : Str → Option Value} {news : List (Addr × Obj)} {Q : Value → Shared → Prop} {x dx D : Addr} {n1 n2 n3 : Tok} {v2 : Value} {b : Array UInt8} {ks : List Int} {newsF : Obj → List (Addr × Obj)}
    (F : Fr h₀ L s.heap m) (X₀ : (Mine.hh.heap_1_39 w.params).In h₀) (N : News h₀ L s.heap news) (T : Top Mine.hh.view_1_40 (looseW Mine.hh.view_1_40 [Str.ofString "PyFATException", Str.ofString "errno", Str.ofString "EightDotThree"]) mean mg mb h₀) (hroom : dp + 20 < recursionLimit) (hx : (x, oneObj dx) ∈ news) (hdx : (dx, oneD w.params n1 n2 n3 (.ref D) v2 (.bool true)) ∈ news) (U : UpdF D (baObj b) news newsF) (hk : KBw.bInts b = ks) (hlen : ks.length = 11) (hok : OctsOk (fixL ks))
    (h : ∀ h' y t tk b', KBw.bInts b' = fixL ks → y = strL (toldL (fixL ks)) → Fr h₀ L h' m → News h₀ L h' (newsF (baObj b')) → Q (.str y t) { s with heap := h', toks := tk }) :
    wpAny (model PySem.Challenge.rw_kj0039_01.row.prog w) { handled := none, depth := dp, frames := fr, guards := gd, units := un } (call (.ref 141) [.ref x]) Q E s := by
  obtain ⟨pre, post, e1, _⟩ := U.split
  have hD : (D, baObj b) ∈ news := by rw [e1]; exact List.mem_append.mpr (.inr (.head _))
  refine wpAny_call (unpadded_code (D := D) (dx := dx) (n1 := n1) (n2 := n2) (n3 := n3) (v2 := v2) F.keep X₀ T (fun p hp => ?_) hroom hk hlen hok fun h' y t tk b' a1 a2 a3 a4 => ?_)
  · rcases List.mem_cons.mp hp with rfl | hp
    · exact ⟨(N _ hx).1, (N _ hx).2.2⟩
    · rcases List.mem_cons.mp hp with rfl | hp
      · exact ⟨(N _ hdx).1, (N _ hdx).2.2⟩
      · rw [List.mem_singleton.mp hp]; exact ⟨(N _ hD).1, (N _ hD).2.2⟩
  · obtain ⟨F', N'⟩ := updF_K F N U a3 a1
    exact h h' y t tk b' a2 a4 F' N'
theorem as_bytes_K {w : World} {mean : ExcName → Option Value} {mg mb : Str → Option Value} {dp un : Nat} {fr : Option (List Env)} {gd : Option (List Code)} {E : Value → Shared → Prop} {s : Shared} {h₀ : Heap} {L : Addr} {m : Str → Option Value} {news : List (Addr × Obj)} {Q : Value → Shared → Prop} {x dx D : Addr} {n1 n2 n3 : Tok} {v2 : Value} {b : Array UInt8} {ks : List Int}
    (F : Fr h₀ L s.heap m) (X₀ : (Mine.hh.heap_1_39 w.params).In h₀) (N : News h₀ L s.heap news) (T : Top Mine.hh.view_1_40 (looseW Mine.hh.view_1_40 [Str.ofString "PyFATException", Str.ofString "errno", Str.ofString "EightDotThree"]) mean mg mb h₀) (hroom : dp + 5 < recursionLimit) (hx : (x, oneObj dx) ∈ news) (hdx : (dx, oneD w.params n1 n2 n3 (.ref D) v2 (.bool true)) ∈ news) (hD : (D, baObj b) ∈ news) (hk : KBw.bInts b = ks) (hlen : ks.length = 11)
    (h : ∀ h' t tk, Fr h₀ L h' m → News h₀ L h' news → Q (.bytes b t) { s with heap := h', toks := tk }) :
    wpAny (model PySem.Challenge.rw_kj0039_01.row.prog w) { handled := none, depth := dp, frames := fr, guards := gd, units := un } (call (.ref 134) [.ref x]) Q E s := by
  refine wpAny_call (as_bytes_code (D := D) (dx := dx) (n1 := n1) (n2 := n2) (n3 := n3) (v2 := v2) F.keep X₀ T (fun p hp => ?_) hroom hk hlen fun h' t tk a1 => ?_)
  · rcases List.mem_cons.mp hp with rfl | hp
    · exact ⟨(N _ hx).1, (N _ hx).2.2⟩
    · rcases List.mem_cons.mp hp with rfl | hp
      · exact ⟨(N _ hdx).1, (N _ hdx).2.2⟩
      · rw [List.mem_singleton.mp hp]; exact ⟨(N _ hD).1, (N _ hD).2.2⟩
  · exact h h' t tk (F.keptAll a1) fun p hp => ⟨a1 _ _ (N p hp).1, (N p hp).2⟩
theorem or_tab : ∀ n < 256, Builtin.bitOr (((n : Nat) : Int).fdiv (2 ^ Int.toNat 1)) (((n : Nat) : Int) % 2 * 128) = ((n : Nat) : Int).fdiv 2 + ((n : Nat) : Int).fmod 2 * 128 := by decide +kernel
theorem chk_step {v k : Int} (h0 : 0 ≤ v) (h1 : v ≤ 255) : Builtin.bitAnd (Builtin.bitOr (v.fdiv (2 ^ Int.toNat 1)) (v % 2 * 128) + k) 255 = sumStep v k := by
  have e := or_tab v.toNat (by (first | k_extra "O" | omega))
  rw [Int.toNat_of_nonneg h0] at e
  rw [e, bitAnd_m8]
  unfold sumStep
  rw [Int.fmod_eq_emod_of_nonneg _ (by decide : (0 : Int) ≤ 256)]
theorem sh7 {w : World} {A : Around} {E : Value → Shared → Prop} {s : Shared} {v : Int} {t u : Tok} {Q : Value → Shared → Prop} (h : Q (.int (v % 2 * 128) s.toks) { s with toks := s.toks + 1 }) :
    wpAny (model PG w) A (binaryOp .LShift (.int (Builtin.bitAnd v 1) t) (.int 7 u)) Q E s := by
  rw [bitAnd_m1]
  exact lshift_int_small (by (first | k_extra "O" | omega)) (by (first | k_extra "O" | omega)) (by have : 0 ≤ v % 2 ∧ v % 2 < 2 := (by (first | k_extra "O" | omega)); (first | k_extra "O" | omega)) h
section
theorem zw_B7_35 : True := by
  k_with_none
  k_with "O" => first | decide | ((with_reducible refine rmk (by assumption) ?_); rfl) | ((with_reducible refine rm0 (by assumption) ?_); rfl) | ((with_reducible refine lel (by assumption) ?_); rfl) | ((with_reducible refine llt (by assumption) ?_); rfl) | ((with_reducible refine ltt (by assumption) ?_); rfl) | ((with_reducible refine ltl (by assumption) ?_); rfl) | ((with_reducible refine ilt (by assumption) ?_); rfl) | (with_reducible exact rmz (by assumption)) | (with_reducible assumption)
  k_with "ks" => repeat' (first | (k_unfold; (try dsimp only)) | (k_end; wrow_close) | ((fail_if_success (with_reducible show wpAny _ _ (pyIter _) (fun it s₂ => LoopAtV _ _ _ _ _ _ _ _ _ it s₂) _ _)); (first | k_extra "H" | walk1)) | ((fail_if_success (with_reducible show wpAny _ _ (pyIter _) (fun it s₂ => LoopAtV _ _ _ _ _ _ _ _ _ it s₂) _ _)); dsimp only; (first | k_extra "H" | walk1)) | fail "no step")
  k_with "forhere" => (with_reducible show wpAny _ _ (pyIter _) (fun it s₂ => LoopAtV _ _ _ _ _ _ _ _ _ it s₂) _ _)
  k_with "H" => ((with_reducible show wpAny _ _ (exec (Stmt.For (Expr.Name _ _) _ _ [] _) _) _ _ _); with_unfolding_all ((rename Fr _ _ _ _ => zzF); (refine For_invVF zzF (by rfl) (by rfl) ?_)))
  k_with "H" => ((with_reducible show wpAny _ _ (binaryOp .LShift (Value.int (Builtin.bitAnd _ 1) _) (Value.int 7 _)) _ _ _); refine sh7 ?_)
  k_with "H" => (k_here; (with_reducible show wpAny _ _ (call (Value.ref 104) _) _ _ _); k_dflt (refine' icheck_ok_K ?k1 ?k2 ?k3 ?k4 ?k5 ?k6 ?k7 ?_; (case k1 => k_asm); (case k2 => k_asm); (case k3 => k_asm); (case k4 => k_asm); (case k5 => (dsimp only [Around.deeper]; (first | k_extra "O" | omega))); (case k6 => k_mem); (case k7 => k_mem); k_whole); intro _ _ _ _)
  exact True.intro
set_option maxHeartbeats 4000000 in
theorem checksum_code {w : World} {mean : ExcName → Option Value} {mg mb : Str → Option Value} {dp un : Nat} {fr : Option (List Env)} {gd : Option (List Code)} {R : Result → Shared → Prop} {s : Shared} {h₀ : Heap} {x dx D : Addr} {n1 n2 n3 : Tok} {v2 : Value} {b : Array UInt8} {ks : List Int}
    (S : ∀ b o, h₀.get? b = some o → s.heap.get? b = some o) (X₀ : (Mine.hh.heap_1_39 w.params).In h₀) (T : Top Mine.hh.view_1_40 (looseW Mine.hh.view_1_40 [Str.ofString "PyFATException", Str.ofString "errno", Str.ofString "EightDotThree"]) mean mg mb h₀)
    (N : ∀ p ∈ ([(x, oneObj dx), (dx, oneD w.params n1 n2 n3 (.ref D) v2 (.bool true))] : List (Addr × Obj)), s.heap.get? p.1 = some p.2 ∧ h₀.get? p.1 = none)
    (hroom : dp + 10 < recursionLimit) (hD : s.heap.get? D = some (baObj b)) (hk : KBw.bInts b = ks) (hlen : ks.length = 11)
    (hR : ∀ h' t tk, (∀ a o, s.heap.get? a = some o → h'.get? a = some o) → R (.ok (.ret (.int (sumL ks) t))) { s with heap := h', toks := tk }) :
    codeAny (model PySem.Challenge.rw_kj0039_01.row.prog w) { handled := none, depth := dp, frames := fr, guards := gd, units := un } (.call (.ref 179) ⟨[.ref x], []⟩) R s := by
  revert X₀; k_fill; intro X₀
  refine' enter (f := 179) (mm := (fun zq => List.lookup zq [(Str.ofString "self", .ref x)])) S X₀ T N ?ho ?hcd ?hr ?hb ?hmm ?hloc ?_ ?c1 ?c2 ?c3 ?c4
  case ho => k_is
  case hcd => k_is
  case hr => show dp < recursionLimit; (first | k_extra "O" | omega)
  case hb => exact BindsTo.of_eq rfl
  case hmm => first | rfl | kernel_rfl | with_unfolding_all rfl
  case hloc => exact locs rfl
  case c1 => exact rfl
  case c2 => exact rfl
  case c3 => exact rfl
  case c4 => decide
  intro g L' h₁ tkA k1 k2 k3 F' N' X' T' k4 k5
  (try dsimp only)
  k_fold
  walk_at "ks"
  (rename Fr _ _ _ _ => lF')
  (rename News _ _ _ _ => lN')
  have ne1 : x ≠ D := obj_ne (N _ (.head _)).1 hD (by simp)
  have ne2 : dx ≠ D := obj_ne (N _ (.tail _ (.head _))).1 hD (by simp)
  have nD : D ∉ List.map (·.1) [(x, oneObj dx), (dx, oneD w.params n1 n2 n3 (.ref D) v2 (.bool true))] := by simp [Ne.symm ne1, Ne.symm ne2]
  have hla := lF'.keep _ _ (k1 _ _ hD nD)
  have haL : D ≠ L' := by rw [k5]; exact Nat.ne_of_lt (Heap.lt_size hD)
  refine' for_baM (fun m₀ i m nx => ∃ (nv : Option Value) (v : Int) (vt : Tok), m = (fun y => if y = Str.ofString "c" then nv else if y = Str.ofString "chksum" then some (.int v vt) else m₀ y) ∧ nx = [(x, oneObj dx), (dx, oneD w.params n1 n2 n3 (.ref D) v2 (.bool true))] ∧ v = sumL (ks.take i) ∧ 0 ≤ v ∧ v ≤ 255) lF' lN' hla hk ?k2 ?k3 ?k4 ?k5 ?_ ?_
  case k2 => exact rfl
  case k3 => exact haL
  case k4 =>
    intro p hp
    rcases List.mem_cons.mp hp with rfl | hp
    · exact ne1
    · rw [List.mem_singleton.mp hp]; exact ne2
  case k5 =>
    refine' ⟨none, 0, _, ?m, rfl, rfl, by (first | k_extra "O" | omega), by (first | k_extra "O" | omega)⟩
    case m =>
      refine funext fun y => ?_
      by_cases hq0 : y = Str.ofString "c"
      · subst hq0; with_unfolding_all rfl
      by_cases hq1 : y = Str.ofString "chksum"
      · subst hq1; with_unfolding_all rfl
      simp only [if_neg hq0, if_neg hq1]
  · rintro i k kt _ _ h tk own hv ⟨nv, v, vt, rfl, rfl, ev, hv0, hv1⟩ hoff F N
    dsimp only
    k_fold
    have hkb := oct_bytes hk k (List.mem_of_getElem? hv)
    walk_at "ks"
    show TEnd _ _ _ _ _ _
    (rename Fr _ _ _ _ => F9)
    (rename News _ _ _ _ => N9)
    refine' TEnd.intro F9 N9 ⟨_, _, _, ?a1, rfl, ?a2, ?a3, ?a4⟩ ?b1 ?b2 ?b3
    case a1 =>
      refine funext fun y => ?_
      by_cases hq0 : y = Str.ofString "c"
      · subst hq0; with_unfolding_all rfl
      by_cases hq1 : y = Str.ofString "chksum"
      · subst hq1; with_unfolding_all rfl
      simp only [if_neg hq0, if_neg hq1]
    case b1 => exact fun p hp => List.mem_append_left _ hp
    case b2 => exact fun p hp => List.mem_append_right _ hp
    case b3 => exact hoff
    case a2 => rw [sum_snoc hv, ← ev]; exact chk_step hv0 hv1
    case a3 => rw [chk_step hv0 hv1]; exact (fmod_bd _).1
    case a4 => rw [chk_step hv0 hv1]; exact (fmod_bd _).2
  · rintro _ _ h tk ⟨nv, v, vt, rfl, rfl, ev, hv0, hv1⟩ F N3
    dsimp only
    (try k_fold)
    walk_at "ks"
    (rename Fr _ _ _ _ => F9)
    (rename News _ _ _ _ => N9)
    rw [List.take_length] at ev
    subst ev
    (try (k_unfold; dsimp only))
    exact hR _ _ _ (kept_all F9 k1 N fun p hp => (N9 p hp).1)
end
theorem zw_B7_36 : True := by
  k_with_none
  k_with "O" => first | decide | ((with_reducible refine rmk (by assumption) ?_); rfl) | ((with_reducible refine rm0 (by assumption) ?_); rfl) | ((with_reducible refine lel (by assumption) ?_); rfl) | ((with_reducible refine llt (by assumption) ?_); rfl) | ((with_reducible refine ltt (by assumption) ?_); rfl) | ((with_reducible refine ltl (by assumption) ?_); rfl) | ((with_reducible refine ilt (by assumption) ?_); rfl) | (with_reducible exact rmz (by assumption)) | (with_reducible assumption)
  exact True.intro
theorem checksum_K {w : World} {mean : ExcName → Option Value} {mg mb : Str → Option Value} {dp un : Nat} {fr : Option (List Env)} {gd : Option (List Code)} {E : Value → Shared → Prop} {s : Shared} {h₀ : Heap} {L : Addr} {m : Str → Option Value} {news : List (Addr × Obj)} {Q : Value → Shared → Prop} {x dx D : Addr} {n1 n2 n3 : Tok} {v2 : Value} {b : Array UInt8} {ks : List Int}
    (F : Fr h₀ L s.heap m) (X₀ : (Mine.hh.heap_1_39 w.params).In h₀) (N : News h₀ L s.heap news) (T : Top Mine.hh.view_1_40 (looseW Mine.hh.view_1_40 [Str.ofString "PyFATException", Str.ofString "errno", Str.ofString "EightDotThree"]) mean mg mb h₀) (hroom : dp + 10 < recursionLimit) (hx : (x, oneObj dx) ∈ news) (hdx : (dx, oneD w.params n1 n2 n3 (.ref D) v2 (.bool true)) ∈ news) (hD : (D, baObj b) ∈ news) (hk : KBw.bInts b = ks) (hlen : ks.length = 11)
    (h : ∀ h' t tk, Fr h₀ L h' m → News h₀ L h' news → Q (.int (sumL ks) t) { s with heap := h', toks := tk }) :
    wpAny (model PySem.Challenge.rw_kj0039_01.row.prog w) { handled := none, depth := dp, frames := fr, guards := gd, units := un } (call (.ref 179) [.ref x]) Q E s := by
  refine wpAny_call (checksum_code (D := D) (dx := dx) (n1 := n1) (n2 := n2) (n3 := n3) (v2 := v2) F.keep X₀ T (fun p hp => ?_) hroom (N _ hD).1 hk hlen fun h' t tk a1 => ?_)
  · rcases List.mem_cons.mp hp with rfl | hp
    · exact ⟨(N _ hx).1, (N _ hx).2.2⟩
    · rw [List.mem_singleton.mp hp]; exact ⟨(N _ hdx).1, (N _ hdx).2.2⟩
  · exact h h' t tk (F.keptAll a1) fun p hp => ⟨a1 _ _ (N p hp).1, (N p hp).2⟩
end Mine
namespace Mine
theorem zr_C1 : True := by
  w_top off
  k_with_none
  k_with "O" => first | decide | ((with_reducible refine rmk (by assumption) ?_); rfl) | ((with_reducible refine rm0 (by assumption) ?_); rfl) | ((with_reducible refine lel (by assumption) ?_); rfl) | ((with_reducible refine llt (by assumption) ?_); rfl) | ((with_reducible refine ltt (by assumption) ?_); rfl) | ((with_reducible refine ltl (by assumption) ?_); rfl) | ((with_reducible refine ilt (by assumption) ?_); rfl) | (with_reducible exact rmz (by assumption)) | (with_reducible assumption)
  exact True.intro
open PySem.Calls
theorem nonconf_len {y : Str} (h : y.length ≤ 100) : (PySem.Str.empty ++ Str.ofString "Given directory name " ++ y ++ Str.ofString " is not conform to 8.3 file naming convention.").length ≤ sizeLine := by
  rw [len_toList, app_toList, app_toList, app_toList, sizeLine_eq]
  simp only [List.length_append]
  rw [len_toList] at h
  have a : (Str.ofString "Given directory name ").cps.toList.length = 21 := by decide +kernel
  have b : (Str.ofString " is not conform to 8.3 file naming convention.").cps.toList.length = 46 := by decide +kernel
  have c : (PySem.Str.empty).cps.toList.length = 0 := by decide +kernel
  (first | k_extra "O" | omega)
section
theorem zw_C1_37 : True := by
  k_with_none
  k_with "O" => first | decide | ((with_reducible refine rmk (by assumption) ?_); rfl) | ((with_reducible refine rm0 (by assumption) ?_); rfl) | ((with_reducible refine lel (by assumption) ?_); rfl) | ((with_reducible refine llt (by assumption) ?_); rfl) | ((with_reducible refine ltt (by assumption) ?_); rfl) | ((with_reducible refine ltl (by assumption) ?_); rfl) | ((with_reducible refine ilt (by assumption) ?_); rfl) | (with_reducible exact rmz (by assumption)) | (with_reducible assumption)
  k_with "ks" => repeat' (first | (k_unfold; (try dsimp only)) | (k_end; wrow_close) | ((fail_if_success (with_reducible show wpAny _ _ (pyIter _) (fun it s₂ => LoopAtV _ _ _ _ _ _ _ _ _ it s₂) _ _)); (fail_if_success (with_reducible show wpAny _ _ (joinParts _ (evalEach [] _)) _ _ _)); (first | k_extra "H" | walk1)) | ((fail_if_success (with_reducible show wpAny _ _ (pyIter _) (fun it s₂ => LoopAtV _ _ _ _ _ _ _ _ _ it s₂) _ _)); (fail_if_success (with_reducible show wpAny _ _ (joinParts _ (evalEach [] _)) _ _ _)); dsimp only; (first | k_extra "H" | walk1)) | fail "no step")
  k_with "H" => (k_here; (with_reducible show wpAny _ _ (call (Value.ref 41) _ _) _ _ _); k_dflt (refine' make41_kw ?k1 ?k2 ?k3 ?k4 ?k5 ?_; (case k1 => k_asm); (case k2 => k_asm); (case k3 => k_asm); (case k4 => k_asm); (case k5 => (dsimp only [Around.deeper]; (first | k_extra "O" | omega))); k_whole); intro _ _ _ _ _ _ _ _ _ _ _ _ _ _)
  k_with "H" => ((with_reducible show wpAny _ _ (exec (Stmt.Raise (some _) none _) _) _ _ _); (refine raise_own rfl ?_))
  exact True.intro
set_option maxHeartbeats 4000000 in
theorem nonconf_code {w : World} {mean : ExcName → Option Value} {mg mb : Str → Option Value} {dp un : Nat} {fr : Option (List Env)} {gd : Option (List Code)} {R : Result → Shared → Prop} {s : Shared} {h₀ : Heap} {outer : List Env} {y : Str} {t : Tok}
    (S : ∀ b o, h₀.get? b = some o → s.heap.get? b = some o) (X₀ : (Mine.hh.heap_1_39 w.params).In h₀) (T : Top Mine.hh.view_1_40 (looseW Mine.hh.view_1_40 [Str.ofString "PyFATException", Str.ofString "errno", Str.ofString "EightDotThree"]) mean mg mb h₀)
    (N : ∀ p ∈ ([] : List (Addr × Obj)), s.heap.get? p.1 = some p.2 ∧ h₀.get? p.1 = none)
    (hroom : dp + 5 < recursionLimit) (hfr : fr = some outer) (hfun : s.heap.FunFrames h₀ outer) (hy : y.length ≤ 100)
    (hR : ∀ h' e d tk n u B, Thrown outer s.heap h' e (.ref 41) (some d) B → B.get? d = some (dictOf [⟨PyData.keyHash w.params "errno", .str "errno" n, .int 22 u⟩] 1) → s.heap.get? d = none → R (.error (.ref e)) { s with heap := h', toks := tk }) :
    codeAny (model PySem.Challenge.rw_kj0039_01.row.prog w) { handled := none, depth := dp, frames := fr, guards := gd, units := un } (.call (.ref 148) ⟨[.str y t], []⟩) R s := by
  revert X₀; k_fill; intro X₀
  refine' enter (f := 148) (mm := (fun zq => List.lookup zq [(Str.ofString "name", .str y t)])) S X₀ T N ?ho ?hcd ?hr ?hb ?hmm ?hloc ?_ ?c1 ?c2 ?c3 ?c4
  case ho => k_is
  case hcd => k_is
  case hr => show dp < recursionLimit; (first | k_extra "O" | omega)
  case hb => exact BindsTo.of_eq rfl
  case hmm => first | rfl | kernel_rfl | with_unfolding_all rfl
  case hloc => exact locs rfl
  case c1 => exact rfl
  case c2 => exact rfl
  case c3 => exact rfl
  case c4 => decide
  intro g L' h₁ tkA k1 k2 k3 F' N' X' T' k4 k5
  (try dsimp only)
  k_fold
  walk_at "ks"
  have hz := nonconf_len hy
  generalize PySem.Str.empty ++ Str.ofString "Given directory name " ++ y ++ Str.ofString " is not conform to 8.3 file naming convention." = zz at hz ⊢
  refine joinParts_nil ?_ hz
  walk_at "ks"
  rename_i e9 d9 t9 tk9 n9 F9 N9 l1 l2 l3 l4 l5 l6
  obtain ⟨y1, y2, y3⟩ := N9 _ (.head _)
  obtain ⟨z1, z2, z3⟩ := N9 _ (.tail _ (.head _))
  have X9 := X'.keeps F9.keep
  refine ⟨_, _, _, _, rfl, ExcC.of X9 (by k_is) (by rfl) (by rfl) (by rfl) (by k_is) (by k_is), y1, ?_⟩
  k_unfold
  dsimp only
  subst hfr
  have kc := kept_all F' k1 N (fun p hp => (N' p hp).1)
  have kk := kept_all F9 k1 N (fun p hp => absurd hp List.not_mem_nil)
  have he := size_fresh (n := 0) kc l4
  have hd := size_fresh (n := 0) kc l5
  refine leave_made (Around.frames_deeper rfl) rfl (fun_here F9 k3 hfun kk rfl) kk (top_none _ k5) he y1 rfl fun h' B th hB => ?_
  exact hR h' _ _ _ _ _ B th (hB _ _ z1 l3 (off_new rfl hfun hd z2)) hd
end
end Mine
namespace Mine
theorem zr_C2 : True := by
  w_top off
  k_with_none
  k_with "O" => first | decide | ((with_reducible refine rmk (by assumption) ?_); rfl) | ((with_reducible refine rm0 (by assumption) ?_); rfl) | ((with_reducible refine lel (by assumption) ?_); rfl) | ((with_reducible refine llt (by assumption) ?_); rfl) | ((with_reducible refine ltt (by assumption) ?_); rfl) | ((with_reducible refine ltl (by assumption) ?_); rfl) | ((with_reducible refine ilt (by assumption) ?_); rfl) | (with_reducible exact rmz (by assumption)) | (with_reducible assumption)
  exact True.intro
open PySem.Calls
section
theorem zw_C2_38 : True := by
  k_with_none
  k_with "O" => first | decide | ((with_reducible refine rmk (by assumption) ?_); rfl) | ((with_reducible refine rm0 (by assumption) ?_); rfl) | ((with_reducible refine lel (by assumption) ?_); rfl) | ((with_reducible refine llt (by assumption) ?_); rfl) | ((with_reducible refine ltt (by assumption) ?_); rfl) | ((with_reducible refine ltl (by assumption) ?_); rfl) | ((with_reducible refine ilt (by assumption) ?_); rfl) | (with_reducible exact rmz (by assumption)) | (with_reducible assumption)
  k_with "ks" => repeat' (first | (k_unfold; (try dsimp only)) | (k_end; wrow_close) | ((fail_if_success (with_reducible show wpAny _ _ (pyIter _) (fun it s₂ => LoopAtV _ _ _ _ _ _ _ _ _ it s₂) _ _)); (first | k_extra "H" | walk1)) | ((fail_if_success (with_reducible show wpAny _ _ (pyIter _) (fun it s₂ => LoopAtV _ _ _ _ _ _ _ _ _ it s₂) _ _)); dsimp only; (first | k_extra "H" | walk1)) | fail "no step")
  k_with "forhere" => (with_reducible show wpAny _ _ (pyIter _) (fun it s₂ => LoopAtV _ _ _ _ _ _ _ _ _ it s₂) _ _)
  k_with "H" => ((with_reducible show wpAny _ _ (exec (Stmt.Assign [Expr.Name _ _] (Expr.ListComp _ _ _ _) _) _) _ _ _); (refine wpAny_Assign_Name ?_ (by with_unfolding_all rfl)))
  k_with "H" => ((with_reducible show wpAny _ _ (eval (Expr.ListComp _ _ _ _) _) _ _ _); (k_here; k_dflt (refine' bi_comp_K (id := "ord") OrdF ?k1 ?k2 ?k3 ?k4 ?k5 ?k6 ?c1 ?c2 ?c3 ?c4 ?c5 ?c6 ?c7 ?c8 ?c9 ?d1 ?d2 ?_; (case k1 => k_asm); (case k2 => k_asm); (case k3 => k_asm); (case k4 => k_is); (case k5 => first | boot_by_name | rfl | kernel_rfl); (case k6 => decide +kernel); (case c1 => decide); (case c2 => decide); (case c3 => rfl); (case c4 => decide); (case c5 => rfl); (case c6 => rfl); (case c7 => rfl); (case c8 => rfl); (case c9 => decide); (case d1 => decide); (case d2 => intro _; rfl))))
  k_with "H" => (k_here; (with_reducible show wpAny _ _ (pyIter _) (BiSrc _ _ _ _ _ _ _) _ _); k_dflt (refine' src_ordL ?k0 ?k1 ?k2 ?k3 ?k4 ?_; (case k0 => rfl); (case k1 => k_asm); (case k2 => k_asm); (case k3 => k_asm); (case k4 => (first | k_extra "O" | omega)); intro _ _ _ _ _ _ _ _ _))
  exact True.intro
set_option maxHeartbeats 4000000 in
theorem encoded_bad_code {w : World} {mean : ExcName → Option Value} {mg mb : Str → Option Value} {dp un : Nat} {fr : Option (List Env)} {gd : Option (List Code)} {R : Result → Shared → Prop} {s : Shared} {h₀ : Heap} {outer : List Env} {x : Str} {t : Tok}
    (S : ∀ b o, h₀.get? b = some o → s.heap.get? b = some o) (X₀ : (Mine.hh.heap_1_39 w.params).In h₀) (T : Top Mine.hh.view_1_40 (looseW Mine.hh.view_1_40 [Str.ofString "PyFATException", Str.ofString "errno", Str.ofString "EightDotThree"]) mean mg mb h₀)
    (N : ∀ p ∈ ([] : List (Addr × Obj)), s.heap.get? p.1 = some p.2 ∧ h₀.get? p.1 = none)
    (hroom : dp + 5 < recursionLimit) (hfr : fr = some outer) (hfun : s.heap.FunFrames h₀ outer) (hx : x.length ≤ 20) (hs : ∃ c ∈ x.cps.toList, 256 ≤ c)
    (hR : ∀ h' e tk dct B, Thrown outer s.heap h' e (.type "ValueError") dct B → R (.error (.ref e)) { s with heap := h', toks := tk }) :
    codeAny (model PySem.Challenge.rw_kj0039_01.row.prog w) { handled := none, depth := dp, frames := fr, guards := gd, units := un } (.call (.ref 85) ⟨[.str x t], []⟩) R s := by
  revert X₀; k_fill; intro X₀
  refine' enter (f := 85) (mm := (fun zq => List.lookup zq [(Str.ofString "text", .str x t)])) S X₀ T N ?ho ?hcd ?hr ?hb ?hmm ?hloc ?_ ?c1 ?c2 ?c3 ?c4
  case ho => k_is
  case hcd => k_is
  case hr => show dp < recursionLimit; (first | k_extra "O" | omega)
  case hb => exact BindsTo.of_eq rfl
  case hmm => first | rfl | kernel_rfl | with_unfolding_all rfl
  case hloc => exact locs rfl
  case c1 => exact rfl
  case c2 => exact rfl
  case c3 => exact rfl
  case c4 => decide
  intro g L' h₁ tkA k1 k2 k3 F' N' X' T' k4 k5
  (try dsimp only)
  k_fold
  walk_at "ks"
  (rename IntsAre _ _ => l2)
  (rename Fr _ _ _ _ => F9)
  (rename News _ _ _ _ => N9)
  refine' call_bytes_bad (News.isList N9 (by k_mem)) l2 ?pos ?bad ?len (by rfl) ?_
  case pos =>
    intro n hn
    obtain ⟨c, hc, rfl⟩ := List.mem_map.mp hn
    (first | k_extra "O" | omega)
  case bad =>
    obtain ⟨c, hc, h⟩ := hs
    exact ⟨_, List.mem_map.mpr ⟨c, hc, rfl⟩, by (first | k_extra "O" | omega)⟩
  case len => unfold ords; rw [List.length_map, ← len_toList, sizeLine_eq]; (first | k_extra "O" | omega)
  intro h1 h2 tk2 e2 kk1 x2
  k_unfold
  dsimp only
  subst hfr
  have F10 := F9.keptAll (fun b o q => x2.keeps _ _ (kk1 _ _ q))
  have kc := kept_all F9 k1 N (fun p hp => absurd hp List.not_mem_nil)
  have kk := kept_all F10 k1 N (fun p hp => absurd hp List.not_mem_nil)
  have he := size_fresh (n := 0) (fun b o q => kk1 _ _ (kc _ _ q)) x2.new
  obtain ⟨ob, t3, y1, y2, y3⟩ := x2.there
  obtain ⟨cls, dct, dat, sl⟩ := ob
  dsimp only at y2 y3
  subst y2 y3
  refine leave_made (Around.frames_deeper rfl) rfl (fun_here F10 k3 hfun kk rfl) kk (top_none _ k5) he y1 rfl fun h' B th hB => ?_
  exact hR h' _ _ _ B th
end
end Mine
namespace Mine
theorem zr_C3 : True := by
  w_top off
  k_with_none
  k_with "O" => first | decide | ((with_reducible refine rmk (by assumption) ?_); rfl) | ((with_reducible refine rm0 (by assumption) ?_); rfl) | ((with_reducible refine lel (by assumption) ?_); rfl) | ((with_reducible refine llt (by assumption) ?_); rfl) | ((with_reducible refine ltt (by assumption) ?_); rfl) | ((with_reducible refine ltl (by assumption) ?_); rfl) | ((with_reducible refine ilt (by assumption) ?_); rfl) | (with_reducible exact rmz (by assumption)) | (with_reducible assumption)
  exact True.intro
open PySem.Calls
noncomputable def invL : List Nat := [34, 42, 43, 44, 46, 47, 58, 59, 60, 61, 62, 63, 91, 92, 93, 124]
theorem for_bytesM {w : World} {A : Around} {E : Value → Shared → Prop} {s : Shared} {h₀ : Heap} {env : Env} {m₀ : Str → Option Value} {x : Str} {body : List Stmt} {Q : Flow → Shared → Prop} {b : Array UInt8} {tb : Tok} {ns : List Int} {led : List (Addr × Obj)} (J : (Str → Option Value) → Nat → (Str → Option Value) → List (Addr × Obj) → Prop)
    (F : Fr h₀ env.locals s.heap m₀) (N : News h₀ env.locals s.heap led) (hk : KBw.bInts b = ns) (hh : A.handled = none) (hj : J m₀ 0 m₀ led)
    (turn : ∀ i v t m₁ nx h tk own, ns[i]? = some v → J m₀ i m₁ nx → OwnOff own (nx.map (·.1)) → Fr h₀ env.locals h (fun z => if z = x then some (.int v t) else m₁ z) → News h₀ env.locals h (nx ++ own) →
      wpAny (model PG w) A (execs body env) (TPost h₀ env.locals (J m₀ (i + 1)) own { s with heap := h, toks := tk } Q) E { s with heap := h, toks := tk })
    (done : ∀ m₁ nx h tk, J m₀ ns.length m₁ nx → Fr h₀ env.locals h m₁ → News h₀ env.locals h nx → Q .next { s with heap := h, toks := tk }) :
    wpAny (model PG w) A (pyIter (.bytes b tb)) (fun it s₂ => LoopAtV PG w A h₀ env x body Q E it s₂) E s := by
  refine KBw.pyIter_bytes ?_
  have W := KBw.walks (prog := PG) (w := w) hh s.heap.objs.size b tb
  have hl : b.size = ns.length := by rw [← hk, KBw.ints_length]
  refine loop_own (J m₀) W (fun i h st a ha => ?_) (local_off F) (base_off F) (old_off N) ⟨_, Heap.get?_push_size _ rfl, rfl, rfl⟩ (F.push _) (fun p hp => ⟨Heap.get?_push_of_some _ (N p hp).1, (N p hp).2⟩) hj ?_ ?_
  · rw [List.mem_singleton.mp ha]; obtain ⟨o, ho, _⟩ := st; exact ⟨o, ho⟩
  · rintro i v m₁ nx h tk own hi ⟨c, u, hc, rfl⟩ hJ hoff F₁ N₁
    exact turn i _ u m₁ nx h tk own (by rw [← hk]; exact KBw.ints_get hc) hJ hoff F₁ N₁
  · intro m₁ nx h tk hJ F₁ N₁
    exact done m₁ nx h tk (by rw [← hl]; exact hJ) F₁ N₁
theorem dn_int {k : Int} (h0 : 0 ≤ k) (m : Nat) : decide (k = (m : Int)) = decide (k.toNat = m) := by
  rw [decide_eq_decide]; (first | k_extra "O" | omega)
theorem inv_dec {k : Int} (h0 : 0 ≤ k) : (decide (k = 34) || (decide (k = 42) || (decide (k = 43) || (decide (k = 44) || (decide (k = 46) || (decide (k = 47) || (decide (k = 58) || (decide (k = 59) || (decide (k = 60) || (decide (k = 61) || (decide (k = 62) || (decide (k = 63) || (decide (k = 91) || (decide (k = 92) || (decide (k = 93) || (decide (k = 124) || false)))))))))))))))) = decide (k.toNat ∈ invL) := by
  have e : ∀ l : List Nat, l.foldr (fun (m : Nat) (b : Bool) => decide (k = (m : Int)) || b) false = decide (k.toNat ∈ l) := by
    intro l
    induction l with
    | nil => simp
    | cons m l ih => rw [List.foldr_cons, ih, dn_int h0, ← Bool.decide_or]; simp only [List.mem_cons]
  exact e invL
theorem ords_at {y : Str} {i : Nat} {k : Int} (h : (ords y)[i]? = some k) : 0 ≤ k ∧ y.cps.toList[i]? = some k.toNat := by
  unfold ords at h
  rw [List.getElem?_map] at h
  cases q : y.cps.toList[i]? with
  | none => rw [q] at h; cases h
  | some c => rw [q] at h; cases h; exact ⟨Int.natCast_nonneg _, by simp⟩
theorem take_mem {l : List Nat} {i c d : Nat} (h : l[i]? = some c) (hd : d ∈ l.take (i + 1)) : d ∈ l.take i ∨ d = c := by
  rw [List.take_add_one, h] at hd
  rcases List.mem_append.mp hd with z | z
  · exact .inl z
  · exact .inr (by simpa using z)
theorem bInts_ords {y : Str} (hs : ∀ c ∈ y.cps.toList, c < 256) : KBw.bInts (byteArr (ords y)) = ords y := by
  unfold byteArr ords
  rw [KBw.ints_list, List.map_map]
  conv => rhs; rw [← List.map_id (y.cps.toList.map fun c => ((c : Nat) : Int))]
  rw [List.map_map, List.map_map]
  refine List.map_congr_left fun c hc => ?_
  have := hs c hc
  show ((((c : Nat) : Int).toNat.toUInt8).toNat : Int) = ((c : Nat) : Int)
  rw [Int.toNat_natCast, Nat.toUInt8, UInt8.toNat_ofNat']
  (first | k_extra "O" | omega)
section
theorem zw_C3_39 : True := by
  k_with_none
  k_with "O" => first | decide | ((with_reducible refine rmk (by assumption) ?_); rfl) | ((with_reducible refine rm0 (by assumption) ?_); rfl) | ((with_reducible refine lel (by assumption) ?_); rfl) | ((with_reducible refine llt (by assumption) ?_); rfl) | ((with_reducible refine ltt (by assumption) ?_); rfl) | ((with_reducible refine ltl (by assumption) ?_); rfl) | ((with_reducible refine ilt (by assumption) ?_); rfl) | (with_reducible exact rmz (by assumption)) | (with_reducible assumption)
  k_with "ks" => repeat' (first | (k_unfold; (try dsimp only)) | (k_end; wrow_close) | ((fail_if_success (with_reducible show wpAny _ _ (pyIter _) (fun it s₂ => LoopAtV _ _ _ _ _ _ _ _ _ it s₂) _ _)); (first | k_extra "H" | walk1)) | ((fail_if_success (with_reducible show wpAny _ _ (pyIter _) (fun it s₂ => LoopAtV _ _ _ _ _ _ _ _ _ it s₂) _ _)); dsimp only; (first | k_extra "H" | walk1)) | fail "no step")
  k_with "forhere" => (with_reducible show wpAny _ _ (pyIter _) (fun it s₂ => LoopAtV _ _ _ _ _ _ _ _ _ it s₂) _ _)
  k_with "H" => ((with_reducible show wpAny _ _ (exec (Stmt.For (Expr.Name _ _) _ _ [] _) _) _ _ _); with_unfolding_all ((rename Fr _ _ _ _ => zzF); (refine For_invVF zzF (by rfl) (by rfl) ?_)))
  exact True.intro
set_option maxHeartbeats 4000000 in
theorem chk_bad_code {w : World} {mean : ExcName → Option Value} {mg mb : Str → Option Value} {dp un : Nat} {fr : Option (List Env)} {gd : Option (List Code)} {R : Result → Shared → Prop} {s : Shared} {h₀ : Heap} {outer : List Env} {y : Str} {t : Tok} {v : Value}
    (S : ∀ b o, h₀.get? b = some o → s.heap.get? b = some o) (X₀ : (Mine.hh.heap_1_39 w.params).In h₀) (T : Top Mine.hh.view_1_40 (looseW Mine.hh.view_1_40 [Str.ofString "PyFATException", Str.ofString "errno", Str.ofString "EightDotThree"]) mean mg mb h₀)
    (N : ∀ p ∈ ([] : List (Addr × Obj)), s.heap.get? p.1 = some p.2 ∧ h₀.get? p.1 = none)
    (hroom : dp + 10 < recursionLimit) (hfr : fr = some outer) (hfun : s.heap.FunFrames h₀ outer) (hy : y.length ≤ 20) (hs : ∃ c ∈ y.cps.toList, 256 ≤ c)
    (hR : ∀ h' e tk dct B, Thrown outer s.heap h' e (.type "ValueError") dct B → R (.error (.ref e)) { s with heap := h', toks := tk }) :
    codeAny (model PySem.Challenge.rw_kj0039_01.row.prog w) { handled := none, depth := dp, frames := fr, guards := gd, units := un } (.call (.ref 186) ⟨[.str y t], [(Str.ofString "encoding", v)]⟩) R s := by
  revert X₀; k_fill; intro X₀
  refine' enter (f := 186) (mm := (fun zq => List.lookup zq [(Str.ofString "encoding", v), (Str.ofString "name", .str y t)])) S X₀ T N ?ho ?hcd ?hr ?hb ?hmm ?hloc ?_ ?c1 ?c2 ?c3 ?c4
  case ho => k_is
  case hcd => k_is
  case hr => show dp < recursionLimit; (first | k_extra "O" | omega)
  case hb => exact BindsTo.of_eq rfl
  case hmm => first | rfl | kernel_rfl | with_unfolding_all rfl
  case hloc => exact locs rfl
  case c1 => exact rfl
  case c2 => exact rfl
  case c3 => exact rfl
  case c4 => decide
  intro g L' h₁ tkA k1 k2 k3 F' N' X' T' k4 k5
  (try dsimp only)
  k_fold
  walk_at "ks"
  rename Fr _ _ _ _ => F9
  subst hfr
  have kk := kept_all F9 k1 N (fun p hp => absurd hp List.not_mem_nil)
  refine wpAny_call (encoded_bad_code (t := t) (fun b o q => F9.keep _ _ (k3 _ _ q)) X₀ T (fun p hp => absurd hp List.not_mem_nil) (by show dp + 1 + 5 < _; (first | k_extra "O" | omega)) rfl (fun_here F9 k3 hfun kk rfl) hy hs fun h' e tk dct B th => ?_)
  (try k_unfold)
  dsimp only
  refine leave_thrown (Around.frames_deeper rfl) rfl th kk (top_none _ k5) fun h2 th2 => ?_
  exact hR _ _ _ _ _ th2
end
section
theorem zw_C3_40 : True := by
  k_with_none
  k_with "O" => first | decide | ((with_reducible refine rmk (by assumption) ?_); rfl) | ((with_reducible refine rm0 (by assumption) ?_); rfl) | ((with_reducible refine lel (by assumption) ?_); rfl) | ((with_reducible refine llt (by assumption) ?_); rfl) | ((with_reducible refine ltt (by assumption) ?_); rfl) | ((with_reducible refine ltl (by assumption) ?_); rfl) | ((with_reducible refine ilt (by assumption) ?_); rfl) | (with_reducible exact rmz (by assumption)) | (with_reducible assumption)
  k_with "ks" => repeat' (first | (k_unfold; (try dsimp only)) | (k_end; wrow_close) | ((fail_if_success (with_reducible show wpAny _ _ (pyIter _) (fun it s₂ => LoopAtV _ _ _ _ _ _ _ _ _ it s₂) _ _)); (first | k_extra "H" | walk1)) | ((fail_if_success (with_reducible show wpAny _ _ (pyIter _) (fun it s₂ => LoopAtV _ _ _ _ _ _ _ _ _ it s₂) _ _)); dsimp only; (first | k_extra "H" | walk1)) | fail "no step")
  k_with "forhere" => (with_reducible show wpAny _ _ (pyIter _) (fun it s₂ => LoopAtV _ _ _ _ _ _ _ _ _ it s₂) _ _)
  k_with "H" => ((with_reducible show wpAny _ _ (exec (Stmt.For (Expr.Name _ _) _ _ [] _) _) _ _ _); with_unfolding_all ((rename Fr _ _ _ _ => zzF); (refine For_invVF zzF (by rfl) (by rfl) ?_)))
  k_with "H" => (k_here; (with_reducible show wpAny _ _ (call (Value.ref 85) _) _ _ _); k_dflt (refine' encoded_K ?k1 ?k2 ?k3 ?k4 ?k5 ?k6 ?k7 ?_; (case k1 => k_asm); (case k2 => k_asm); (case k3 => k_asm); (case k4 => k_asm); (case k5 => (dsimp only [Around.deeper]; (first | k_extra "O" | omega))); (case k6 => (first | k_extra "O" | omega)); (case k7 => with_reducible assumption); k_whole); intro _ _ _ _ _)
  exact True.intro
set_option maxHeartbeats 4000000 in
theorem chk_code {w : World} {mean : ExcName → Option Value} {mg mb : Str → Option Value} {dp un : Nat} {fr : Option (List Env)} {gd : Option (List Code)} {R : Result → Shared → Prop} {s : Shared} {h₀ : Heap} {outer : List Env} {y : Str} {t : Tok} {v : Value}
    (S : ∀ b o, h₀.get? b = some o → s.heap.get? b = some o) (X₀ : (Mine.hh.heap_1_39 w.params).In h₀) (T : Top Mine.hh.view_1_40 (looseW Mine.hh.view_1_40 [Str.ofString "PyFATException", Str.ofString "errno", Str.ofString "EightDotThree"]) mean mg mb h₀)
    (N : ∀ p ∈ ([] : List (Addr × Obj)), s.heap.get? p.1 = some p.2 ∧ h₀.get? p.1 = none)
    (hroom : dp + 10 < recursionLimit) (hfr : fr = some outer) (hfun : s.heap.FunFrames h₀ outer) (hy : y.length ≤ 20) (hs : ∀ c ∈ y.cps.toList, c < 256)
    (hR : ((∀ c ∈ y.cps.toList, c ∉ invL) → ∀ h' tk, (∀ a o, s.heap.get? a = some o → h'.get? a = some o) → R (.ok (.ret .none)) { s with heap := h', toks := tk }) ∧ ((∃ c ∈ y.cps.toList, c ∈ invL) → ∀ h' e tk dct B, Thrown outer s.heap h' e (.type "ValueError") dct B → R (.error (.ref e)) { s with heap := h', toks := tk })) :
    codeAny (model PySem.Challenge.rw_kj0039_01.row.prog w) { handled := none, depth := dp, frames := fr, guards := gd, units := un } (.call (.ref 186) ⟨[.str y t], [(Str.ofString "encoding", v)]⟩) R s := by
  revert X₀; k_fill; intro X₀
  refine' enter (f := 186) (mm := (fun zq => List.lookup zq [(Str.ofString "encoding", v), (Str.ofString "name", .str y t)])) S X₀ T N ?ho ?hcd ?hr ?hb ?hmm ?hloc ?_ ?c1 ?c2 ?c3 ?c4
  case ho => k_is
  case hcd => k_is
  case hr => show dp < recursionLimit; (first | k_extra "O" | omega)
  case hb => exact BindsTo.of_eq rfl
  case hmm => first | rfl | kernel_rfl | with_unfolding_all rfl
  case hloc => exact locs rfl
  case c1 => exact rfl
  case c2 => exact rfl
  case c3 => exact rfl
  case c4 => decide
  intro g L' h₁ tkA k1 k2 k3 F' N' X' T' k4 k5
  (try dsimp only)
  k_fold
  walk_at "ks"
  (rename Fr _ _ _ _ => lF')
  (rename News _ _ _ _ => lN')
  have ein := bInts_ords hs
  refine' for_bytesM (fun m₀ i m nx => ∃ (nv : Option Value), m = (fun z => if z = Str.ofString "c" then nv else m₀ z) ∧ nx = [] ∧ ∀ c ∈ y.cps.toList.take i, c ∉ invL) lF' lN' ein ?k2 ?k5 ?_ ?_
  case k2 => exact rfl
  case k5 =>
    refine' ⟨none, ?m, rfl, by simp⟩
    case m =>
      refine funext fun y => ?_
      by_cases hq0 : y = Str.ofString "c"
      · subst hq0; with_unfolding_all rfl
      simp only [if_neg hq0]
  · rintro i k kt _ _ h tk own hv ⟨nv, rfl, rfl, ev⟩ hoff F N3
    dsimp only
    k_fold
    obtain ⟨hk0, hkc⟩ := ords_at hv
    walk_at "ks"
    · (rename Heap.NewExc _ _ _ _ => x2)
      (rename (_ = true) => cond)
      rw [inv_dec hk0] at cond
      have F1 := F
      have F10 := F1.keptAll x2.keeps
      subst hfr
      have kc := kept_all F1 k1 N (fun p hp => absurd hp List.not_mem_nil)
      have kk := kept_all F10 k1 N (fun p hp => absurd hp List.not_mem_nil)
      have he := size_fresh (n := 0) kc x2.new
      obtain ⟨ob, t3, y1, y2, y3⟩ := x2.there
      obtain ⟨cls, dct, dat, sl⟩ := ob
      dsimp only at y2 y3
      subst y2 y3
      refine leave_made (Around.frames_deeper rfl) rfl (fun_here F10 k3 hfun kk rfl) kk (top_none _ k5) he y1 rfl fun h' B th hB => ?_
      exact hR.2 ⟨_, List.mem_of_getElem? hkc, of_decide_eq_true cond⟩ h' _ _ _ B th
    · (rename (_ = false) => cond)
      rw [inv_dec hk0] at cond
      show TEnd _ _ _ _ _ _
      (rename Fr _ _ _ _ => F9)
      (rename News _ _ _ _ => N9)
      refine' TEnd.intro F9 N9 ⟨_, ?a1, rfl, ?a2⟩ ?b1 ?b2 ?b3
      case a1 =>
        refine funext fun y => ?_
        by_cases hq0 : y = Str.ofString "c"
        · subst hq0; with_unfolding_all rfl
        simp only [if_neg hq0]
      case b1 => exact fun p hp => absurd hp List.not_mem_nil
      case b2 => exact fun p hp => hp
      case b3 => exact hoff
      case a2 =>
        intro c hc
        rcases take_mem hkc hc with z | rfl
        · exact ev c z
        · exact of_decide_eq_false cond
  · rintro _ _ h tk ⟨nv, rfl, rfl, ev⟩ F N3
    dsimp only
    (try k_fold)
    walk_at "ks"
    (rename Fr _ _ _ _ => F9)
    have el : (ords y).length = y.cps.toList.length := by unfold ords; rw [List.length_map]
    rw [el, List.take_length] at ev
    exact hR.1 ev _ _ (kept_all F9 k1 N (fun p hp => absurd hp List.not_mem_nil))
end
end Mine
namespace Mine
theorem zr_C4 : True := by
  w_top off
  k_with_none
  k_with "O" => first | decide | ((with_reducible refine rmk (by assumption) ?_); rfl) | ((with_reducible refine rm0 (by assumption) ?_); rfl) | ((with_reducible refine lel (by assumption) ?_); rfl) | ((with_reducible refine llt (by assumption) ?_); rfl) | ((with_reducible refine ltt (by assumption) ?_); rfl) | ((with_reducible refine ltl (by assumption) ?_); rfl) | ((with_reducible refine ilt (by assumption) ?_); rfl) | (with_reducible exact rmz (by assumption)) | (with_reducible assumption)
  exact True.intro
open PySem.Calls
noncomputable def okAll (l : List Nat) : Prop := ∀ c ∈ l, c < 256 ∧ c ∉ invL
theorem chk_all {w : World} {mean : ExcName → Option Value} {mg mb : Str → Option Value} {dp un : Nat} {fr : Option (List Env)} {gd : Option (List Code)} {R : Result → Shared → Prop} {s : Shared} {h₀ : Heap} {outer : List Env} {y : Str} {t : Tok} {v : Value}
    (S : ∀ b o, h₀.get? b = some o → s.heap.get? b = some o) (X₀ : (Mine.hh.heap_1_39 w.params).In h₀) (T : Top Mine.hh.view_1_40 (looseW Mine.hh.view_1_40 [Str.ofString "PyFATException", Str.ofString "errno", Str.ofString "EightDotThree"]) mean mg mb h₀)
    (hroom : dp + 10 < recursionLimit) (hfr : fr = some outer) (hfun : s.heap.FunFrames h₀ outer) (hy : y.length ≤ 20)
    (h1 : okAll y.cps.toList → ∀ h' tk, (∀ a o, s.heap.get? a = some o → h'.get? a = some o) → R (.ok (.ret .none)) { s with heap := h', toks := tk })
    (h2 : ¬ okAll y.cps.toList → ∀ h' e tk dct B, Thrown outer s.heap h' e (.type "ValueError") dct B → R (.error (.ref e)) { s with heap := h', toks := tk }) :
    codeAny (model PySem.Challenge.rw_kj0039_01.row.prog w) { handled := none, depth := dp, frames := fr, guards := gd, units := un } (.call (.ref 186) ⟨[.str y t], [(Str.ofString "encoding", v)]⟩) R s := by
  by_cases h : ∃ c ∈ y.cps.toList, 256 ≤ c
  · exact chk_bad_code S X₀ T (fun p hp => absurd hp List.not_mem_nil) hroom hfr hfun hy h (h2 fun z => by
      obtain ⟨c, hc, hd⟩ := h
      have := (z c hc).1
      (first | k_extra "O" | omega))
  · have hl : ∀ c ∈ y.cps.toList, c < 256 := fun c hc => by
      by_cases h3 : c < 256
      · exact h3
      · exact absurd ⟨c, hc, by (first | k_extra "O" | omega)⟩ h
    exact chk_code S X₀ T (fun p hp => absurd hp List.not_mem_nil) hroom hfr hfun hy hl ⟨fun z => h1 fun c hc => ⟨hl c hc, z c hc⟩, fun z => h2 fun q => by
      obtain ⟨c, hc, hd⟩ := z
      exact (q c hc).2 hd⟩
section
variable {M : Model} {A : Around} {E : Value → Shared → Prop} {s' : Shared} {h b B : Heap} {env : Env} {outer : List Env} {L e : Addr} {cls : Value} {dct : Option Addr} {Q : Unit → Shared → Prop}
theorem Thrown.kpf {l : List Env} {h h1 h3 B b : Heap} {e : Addr} {cls fl : Value} {dct : Option Addr} (T : Thrown l h h1 e cls dct B) (hfun : h.FunFrames b l) (f : FlyD B l e cls dct fl h3) (u : h1.UpToSlots h3) : Kp (fas l) [] h h3 :=
  Kp.of (fun a o q n => f.1 a o (T.has a o q n)) (T.up.trans u) fun a ha o vs q => by
    obtain ⟨_, o', ho', hn⟩ := hfun.mem ha
    rw [q] at ho'; cases ho'
    exact hn _
theorem Kp.pop {h0 h h3 : Heap} {env : Env} {outer : List Env} {L : Addr} (k : ∀ a o, h0.get? a = some o → h.get? a = some o) (hf : env.frame = some L) (hL : h0.get? L = none) (x : Kp (fas (env :: outer)) [] h h3) : Kp (fas outer) [] h0 h3 := fun a o e n => by
  obtain ⟨x1, x2⟩ := x a o (k a o e) n
  refine ⟨fun f => x1 fun m => ?_, x2⟩
  unfold fas at m
  rw [List.filterMap_cons, hf] at m
  rcases List.mem_cons.mp m with z | z
  · rw [z, hL] at e; cases e
  · exact f z
/-- an exception comes in at a try of the frame env. -/
theorem caught (hfr : A.frames = some (env :: outer)) (hf : env.frame = some L) (T : Thrown (env :: outer) h s'.heap e cls dct B)
    (k : ∀ h2, FlyD B (env :: outer) e cls dct .none h2 → s'.heap.UpToSlots h2 → Q () { s' with heap := h2 }) :
    wpAny M A (noteFrame (.ref e) env) (fun _ s₂ => wpAny M A (setFlight (.ref e) none) Q E s₂) E s' := by
  refine note_next hfr hf T.fly fun h1 f1 u1 => ?_
  exact land (s := { s' with heap := h1 }) f1 fun h2 f2 u2 => k h2 f2 (u1.trans u2)
theorem base_merge {h₀ g h2 h : Heap} (k3 : h₀.StaysIn g) (hfun : h.FunFrames h₀ outer) (g1 : ∀ a o, g.get? a = some o → a ∉ fas outer → (merge g h2).get? a = some o) : h₀.StaysIn (merge g h2) := fun a o q => g1 a o (k3 a o q) fun m => by
  have := (hfun.mem m).1
  rw [this] at q; cases q
end
theorem FlyD.type_is {B h : Heap} {l : List Env} {e : Addr} {T : String} {dct : Option Addr} {fl : Value} {g : Array GenState} {d : Drawn} {tk : Nat} {os : OsState} (F : FlyD B l e (.type T) dct fl h) : (⟨h, g, d, tk, os⟩ : Shared).TypeIs (.ref e) T := by
  obtain ⟨_, _, _, vs, sl, T, ts, oT, he, _⟩ := F
  exact ⟨_, he, rfl⟩
theorem off_led {h g h' h₀ : Heap} {L : Addr} {news led : List (Addr × Obj)} {outer : List Env} (k1 : ∀ b o, h.get? b = some o → b ∉ news.map (·.1) → g.get? b = some o) (hfun : h.FunFrames h₀ outer) (hn : ∀ a ∈ fas outer, a ∉ news.map (·.1)) (N : News g L h' led) : ∀ p ∈ led, p.1 ∉ fas outer := fun p hp m => by
  obtain ⟨_, o, ho, _⟩ := hfun.mem m
  have := k1 _ _ ho (hn _ m)
  rw [(N p hp).2.2] at this
  cases this
noncomputable def rootL (y : Str) : List Nat := (splitL y.cps.toList).1
noncomputable def extL (y : Str) : List Nat := (splitL y.cps.toList).2.drop 1
noncomputable def ConfP (y : Str) : Prop := y = Txt.upper y ∧ (rootL y).length ≤ 8 ∧ (extL y).length ≤ 3 ∧ okAll (rootL y) ∧ okAll (extL y)
theorem ext_list (e : Str) : (Txt.slice e (some 1) none).cps.toList = e.cps.toList.drop 1 := by rw [sl_from (by (first | k_extra "O" | omega))]; rfl
theorem conf_n1 {y : Str} (h : (y != Txt.upper y) = true) : false = true ↔ ConfP y := by
  refine ⟨fun z => (by cases z), fun z => ?_⟩
  have := z.1
  rw [← this] at h
  simp at h
theorem conf_n2 {y r e : Str} (q : splitL y.cps.toList = (r.cps.toList, e.cps.toList)) (h : 8 < (r.length : Int) ∨ 3 < ((Txt.slice e (some 1) none).length : Int) ∨ 11 < (r.length : Int) + ((Txt.slice e (some 1) none).length : Int)) : false = true ↔ ConfP y := by
  refine ⟨fun z => (by cases z), fun z => ?_⟩
  obtain ⟨_, a, b, _⟩ := z
  unfold rootL at a
  unfold extL at b
  rw [q] at a b
  rw [← len_toList] at a
  rw [← ext_list, ← len_toList] at b
  (first | k_extra "O" | omega)
theorem conf_n3 {y : Str} (h : ¬ okAll (rootL y) ∨ ¬ okAll (extL y)) : false = true ↔ ConfP y := by
  refine ⟨fun z => (by cases z), fun z => ?_⟩
  rcases h with h | h
  · exact absurd z.2.2.2.1 h
  · exact absurd z.2.2.2.2 h
theorem conf_y {y r e : Str} (h : (y != Txt.upper y) = false) (q : splitL y.cps.toList = (r.cps.toList, e.cps.toList)) (h1 : ¬ 8 < (r.length : Int)) (h2 : ¬ 3 < ((Txt.slice e (some 1) none).length : Int)) (a : okAll (rootL y)) (b : okAll (extL y)) : true = true ↔ ConfP y := by
  refine ⟨fun _ => ⟨by simpa using h, ?_, ?_, a, b⟩, fun _ => rfl⟩
  · unfold rootL; rw [q, ← len_toList]; (first | k_extra "O" | omega)
  · unfold extL; rw [q]; rw [← ext_list, ← len_toList]; (first | k_extra "O" | omega)
theorem conf_el {y r e : Str} {t1 t2 : Tok} (q : splitL y.cps.toList = (r.cps.toList, e.cps.toList)) (hr : r.length ≤ 20) (he : (Txt.slice e (some 1) none).length ≤ 20) : ∀ (i : Nat) (v : Value), [Value.str r t1, Value.str (Txt.slice e (some 1) none) t2][i]? = some v → ∃ z tz, v = .str z tz ∧ z.length ≤ 20 ∧ ((i = 0 ∧ z.cps.toList = rootL y) ∨ (i = 1 ∧ z.cps.toList = extL y)) := fun i v h => by
  match i, h with
  | 0, h => cases h; exact ⟨_, _, rfl, hr, .inl ⟨rfl, by unfold rootL; rw [q]⟩⟩
  | 1, h => cases h; exact ⟨_, _, rfl, he, .inr ⟨rfl, by unfold extL; rw [q, ext_list]⟩⟩
theorem ve_exc : isSubtype (.type "ValueError") (.type "BaseException") = pure true := by rw [isSubtype_type]; kernel_rfl
theorem ve_self : isSubtype (.type "ValueError") (.type "ValueError") = pure true := by rw [isSubtype_type]; kernel_rfl
theorem ve_tup : isSubtype (.type ((Manifest.find? "ValueError").elim "type" fun x => x.metatype)) (.type "tuple") = pure false := by rw [isSubtype_type]; kernel_rfl
section
theorem zw_C4_41 : True := by
  k_with_none
  k_with "O" => first | decide | ((with_reducible refine rmk (by assumption) ?_); rfl) | ((with_reducible refine rm0 (by assumption) ?_); rfl) | ((with_reducible refine lel (by assumption) ?_); rfl) | ((with_reducible refine llt (by assumption) ?_); rfl) | ((with_reducible refine ltt (by assumption) ?_); rfl) | ((with_reducible refine ltl (by assumption) ?_); rfl) | ((with_reducible refine ilt (by assumption) ?_); rfl) | (with_reducible exact rmz (by assumption)) | (with_reducible assumption)
  k_with "ks" => repeat' (first | (k_unfold; (try dsimp only)) | (k_end; wrow_close) | ((fail_if_success (with_reducible show wpAny _ _ (pyIter _) (fun it s₂ => LoopAtV _ _ _ _ _ _ _ _ _ it s₂) _ _)); (fail_if_success (with_reducible show wpAny _ _ (exec (Stmt.While _ _ _ _) _) _ _ _)); (fail_if_success (with_reducible show wpAny _ _ (exec (Stmt.Try _ _ _ _ _) _) _ _ _)); (first | k_extra "H" | walk1)) | ((fail_if_success (with_reducible show wpAny _ _ (pyIter _) (fun it s₂ => LoopAtV _ _ _ _ _ _ _ _ _ it s₂) _ _)); (fail_if_success (with_reducible show wpAny _ _ (exec (Stmt.While _ _ _ _) _) _ _ _)); (fail_if_success (with_reducible show wpAny _ _ (exec (Stmt.Try _ _ _ _ _) _) _ _ _)); dsimp only; (first | k_extra "H" | walk1)) | fail "no step")
  k_with "H" => (k_here; (with_reducible show wpAny _ _ (call (Value.ref 97) _) _ _ _); k_dflt (refine' splitext_K ?k1 ?k2 ?k3 ?k4 ?k5 ?k6 ?_; (case k1 => k_asm); (case k2 => k_asm); (case k3 => k_asm); (case k4 => k_asm); (case k5 => (dsimp only [Around.deeper]; (first | k_extra "O" | omega))); (case k6 => (first | k_extra "O" | omega)); k_whole); intro _ _ _ _ _ _ _ _ _ _ _ _ _)
  k_with "H" => ((with_reducible show wpAny _ _ (exec (Stmt.For (Expr.Name _ _) _ _ [] _) _) _ _ _); with_unfolding_all ((rename Fr _ _ _ _ => zzF); (refine For_invVF zzF (by rfl) (by rfl) ?_)))
  exact True.intro
set_option maxHeartbeats 4000000 in
theorem conf2_code {w : World} {mean : ExcName → Option Value} {mg mb : Str → Option Value} {dp un : Nat} {fr : Option (List Env)} {gd : Option (List Code)} {R : Result → Shared → Prop} {s : Shared} {h₀ : Heap} {outer : List Env} {y : Str} {t : Tok} {v0 : Value}
    (S : ∀ b o, h₀.get? b = some o → s.heap.get? b = some o) (X₀ : (Mine.hh.heap_1_39 w.params).In h₀) (T : Top Mine.hh.view_1_40 (looseW Mine.hh.view_1_40 [Str.ofString "PyFATException", Str.ofString "errno", Str.ofString "EightDotThree"]) mean mg mb h₀)
    (N : ∀ p ∈ ([] : List (Addr × Obj)), s.heap.get? p.1 = some p.2 ∧ h₀.get? p.1 = none)
    (hroom : dp + 20 < recursionLimit) (hfr : fr = some outer) (hfun : s.heap.FunFrames h₀ outer) (hy : y.length ≤ 20)
    (hR : ∀ b h' tk, (b = true ↔ ConfP y) → Kp (fas outer) [] s.heap h' → R (.ok (.ret (.bool b))) { s with heap := h', toks := tk }) :
    codeAny (model PySem.Challenge.rw_kj0039_01.row.prog w) { handled := none, depth := dp, frames := fr, guards := gd, units := un } (.call (.ref 197) ⟨[.str y t, v0], []⟩) R s := by
  revert X₀; k_fill; intro X₀
  refine' enter (f := 197) (mm := (fun zq => List.lookup zq [(Str.ofString "encoding", v0), (Str.ofString "entry_name", .str y t)])) S X₀ T N ?ho ?hcd ?hr ?hb ?hmm ?hloc ?_ ?c1 ?c2 ?c3 ?c4
  case ho => k_is
  case hcd => k_is
  case hr => show dp < recursionLimit; (first | k_extra "O" | omega)
  case hb => first | exact BindsTo.of_eq rfl | exact binds_K (X₀.keeps S) rfl (by k_is) rfl rfl rfl
  case hmm => first | rfl | kernel_rfl | with_unfolding_all rfl
  case hloc => exact locs rfl
  case c1 => exact rfl
  case c2 => exact rfl
  case c3 => exact rfl
  case c4 => decide
  intro g L' h₁ tkA k1 k2 k3 F' N' X' T' k4 k5
  (try dsimp only)
  k_fold
  have hL := top_none s.heap k5
  walk_at "ks"
  all_goals first
    | ((rename Fr _ _ _ _ => F9)
       have kp : Kp (fas outer) [] s.heap _ := Kp.of_keeps (fun a o q _ => kept_all F9 k1 N (fun p hp => absurd hp List.not_mem_nil) a o q)
       (try (k_unfold; dsimp only))
       first
       | exact hR _ _ _ (conf_n1 (by assumption)) kp
       | exact hR _ _ _ (conf_n2 (by assumption) (.inl (by assumption))) kp
       | exact hR _ _ _ (conf_n2 (by assumption) (.inr (.inl (by assumption)))) kp
       | exact hR _ _ _ (conf_n2 (by assumption) (.inr (.inr (by assumption)))) kp)
    | skip
  (rename Fr _ _ _ _ => lF')
  (rename News _ _ _ _ => lN')
  (rename (splitL _ = _) => qs)
  have hel := fun t1 t2 => conf_el (t1 := t1) (t2 := t2) qs (by (first | k_extra "O" | omega)) (by (first | k_extra "O" | omega))
  refine' for_listM (fun m₀ i m nx => ∃ (nv : Option Value), m = (fun z => if z = Str.ofString "i" then nv else m₀ z) ∧ nx = [] ∧ (0 < i → okAll (rootL y)) ∧ (1 < i → okAll (extL y))) lF' News.nil (News.isList lN' (.head _)) ?k2 ?k3 ?k4 ?k5 ?_ ?_
  case k2 => exact rfl
  case k3 => exact ((lN' _ (.head _)).2.1)
  case k4 => exact fun p hp => absurd hp List.not_mem_nil
  case k5 =>
    refine' ⟨none, ?m, rfl, by (first | k_extra "O" | omega), by (first | k_extra "O" | omega)⟩
    case m =>
      refine funext fun y => ?_
      by_cases hq0 : y = Str.ofString "i"
      · subst hq0; with_unfolding_all rfl
      simp only [if_neg hq0]
  · rintro i v _ _ h tk own hv ⟨nv, rfl, rfl, e0, e1⟩ hoff F N3
    obtain ⟨z, tz, rfl, hz, hzz⟩ := hel _ _ i v hv
    dsimp only
    k_fold
    walk_at "ks"
    refine wpAny_Try_except ?_
    walk_at "ks"
    with_unfolding_all (show wpAny _ _ (call (Value.ref 186) [Value.str z tz] [(Str.ofString "encoding", v0)]) _ _ _)
    (rename Fr _ _ _ _ => F9)
    (rename News _ _ _ _ => N9)
    subst hfr
    have kk := kept_all F9 k1 N (fun p hp => absurd hp List.not_mem_nil)
    refine wpAny_call (chk_all (fun b o q => F9.keep _ _ (k3 _ _ q)) X₀ T (by show dp + 1 + 10 < _; (first | k_extra "O" | omega)) rfl (fun_here F9 k3 hfun kk rfl) hz (fun hok h' tk' a1 => ?_) (fun hno h' e tk' dct B th => ?_))
    · have F10 := F9.keptAll a1
      have N10 : News g L' h' _ := fun p hp => ⟨a1 _ _ (N9 p hp).1, (N9 p hp).2⟩
      dsimp only
      (try k_fold)
      walk_at "ks"
      show TEnd _ _ _ _ _ _
      refine' TEnd.intro F10 N10 ⟨_, ?a1, rfl, ?a2, ?a3⟩ ?b1 ?b2 ?b3
      case a1 =>
        refine funext fun y => ?_
        by_cases hq0 : y = Str.ofString "i"
        · subst hq0; with_unfolding_all rfl
        simp only [if_neg hq0]
      case b1 => exact fun p hp => absurd hp List.not_mem_nil
      case b2 => exact fun p hp => hp
      case b3 => exact hoff
      case a2 =>
        intro _
        rcases hzz with ⟨rfl, q⟩ | ⟨rfl, q⟩
        · rw [← q]; exact hok
        · exact e0 (by (first | k_extra "O" | omega))
      case a3 =>
        intro hi
        rcases hzz with ⟨rfl, q⟩ | ⟨rfl, q⟩
        · (first | k_extra "O" | omega)
        · rw [← q]; exact hok
    · dsimp only
      refine caught (Around.frames_deeper rfl) rfl th fun h2 f2 u2 => ?_
      have kp2 := th.kpf (fun_here F9 k3 hfun kk rfl) f2 u2
      obtain ⟨F2, N2, g1, g2, g3⟩ := rebase F9 N9 kp2 (off_led k1 hfun (fun a _ => List.not_mem_nil) N9)
      have st2 := base_merge k3 hfun g1
      have X2 := X₀.keeps st2
      have T2 := T.keeps st2
      refine wpAny_handleBy_builtin (X := "ValueError") (T := "ValueError") (b := true) ve_exc ve_tup ve_self ?_
      dsimp only
      walk_at "ks"
      · exact f2.type_is
      · refine land f2 fun h3 f3 u3 => ?_
        have kp3 := Kp.pop kk rfl hL (th.kpf (fun_here F9 k3 hfun kk rfl) f3 (u2.trans u3))
        walk_at "ks"
        (try (k_unfold; dsimp only))
        refine hR _ _ _ (conf_n3 ?_) kp3
        rcases hzz with ⟨_, q⟩ | ⟨_, q⟩
        · exact .inl (q ▸ hno)
        · exact .inr (q ▸ hno)
  · rintro _ _ h tk ⟨nv, rfl, rfl, e0, e1⟩ F N3
    dsimp only
    (try k_fold)
    walk_at "ks"
    (rename Fr _ _ _ _ => F9)
    (try (k_unfold; dsimp only))
    exact hR _ _ _ (conf_y (by assumption) qs (by assumption) (by assumption) (e0 (by simp)) (e1 (by simp))) (Kp.of_keeps (fun a o q _ => kept_all F9 k1 N (fun p hp => absurd hp List.not_mem_nil) a o q))
end
end Mine
namespace Mine
theorem zr_C5 : True := by
  w_top off
  k_with_none
  k_with "O" => first | decide | ((with_reducible refine rmk (by assumption) ?_); rfl) | ((with_reducible refine rm0 (by assumption) ?_); rfl) | ((with_reducible refine lel (by assumption) ?_); rfl) | ((with_reducible refine llt (by assumption) ?_); rfl) | ((with_reducible refine ltt (by assumption) ?_); rfl) | ((with_reducible refine ltl (by assumption) ?_); rfl) | ((with_reducible refine ilt (by assumption) ?_); rfl) | (with_reducible exact rmz (by assumption)) | (with_reducible assumption)
  exact True.intro
open PySem.Calls
section
theorem zw_C5_42 : True := by
  k_with_none
  k_with "O" => first | decide | ((with_reducible refine rmk (by assumption) ?_); rfl) | ((with_reducible refine rm0 (by assumption) ?_); rfl) | ((with_reducible refine lel (by assumption) ?_); rfl) | ((with_reducible refine llt (by assumption) ?_); rfl) | ((with_reducible refine ltt (by assumption) ?_); rfl) | ((with_reducible refine ltl (by assumption) ?_); rfl) | ((with_reducible refine ilt (by assumption) ?_); rfl) | (with_reducible exact rmz (by assumption)) | (with_reducible assumption)
  k_with "ks" => repeat' (first | (k_unfold; (try dsimp only)) | (k_end; wrow_close) | ((fail_if_success (with_reducible show wpAny _ _ (pyIter _) (fun it s₂ => LoopAtV _ _ _ _ _ _ _ _ _ it s₂) _ _)); (fail_if_success (with_reducible show wpAny _ _ (exec (Stmt.While _ _ _ _) _) _ _ _)); (fail_if_success (with_reducible show wpAny _ _ (exec (Stmt.Try _ _ _ _ _) _) _ _ _)); (first | k_extra "H" | walk1)) | ((fail_if_success (with_reducible show wpAny _ _ (pyIter _) (fun it s₂ => LoopAtV _ _ _ _ _ _ _ _ _ it s₂) _ _)); (fail_if_success (with_reducible show wpAny _ _ (exec (Stmt.While _ _ _ _) _) _ _ _)); (fail_if_success (with_reducible show wpAny _ _ (exec (Stmt.Try _ _ _ _ _) _) _ _ _)); dsimp only; (first | k_extra "H" | walk1)) | fail "no step")
  k_with "H" => (k_here; (with_reducible show wpAny _ _ (call (Value.ref 97) _) _ _ _); k_dflt (refine' splitext_K ?k1 ?k2 ?k3 ?k4 ?k5 ?k6 ?_; (case k1 => k_asm); (case k2 => k_asm); (case k3 => k_asm); (case k4 => k_asm); (case k5 => (dsimp only [Around.deeper]; (first | k_extra "O" | omega))); (case k6 => (first | k_extra "O" | omega)); k_whole); intro _ _ _ _ _ _ _ _ _ _ _ _ _)
  k_with "H" => ((with_reducible show wpAny _ _ (exec (Stmt.For (Expr.Name _ _) _ _ [] _) _) _ _ _); with_unfolding_all ((rename Fr _ _ _ _ => zzF); (refine For_invVF zzF (by rfl) (by rfl) ?_)))
  exact True.intro
set_option maxHeartbeats 4000000 in
theorem conf1_code {w : World} {mean : ExcName → Option Value} {mg mb : Str → Option Value} {dp un : Nat} {fr : Option (List Env)} {gd : Option (List Code)} {R : Result → Shared → Prop} {s : Shared} {h₀ : Heap} {outer : List Env} {y : Str} {t : Tok}
    (S : ∀ b o, h₀.get? b = some o → s.heap.get? b = some o) (X₀ : (Mine.hh.heap_1_39 w.params).In h₀) (T : Top Mine.hh.view_1_40 (looseW Mine.hh.view_1_40 [Str.ofString "PyFATException", Str.ofString "errno", Str.ofString "EightDotThree"]) mean mg mb h₀)
    (N : ∀ p ∈ ([] : List (Addr × Obj)), s.heap.get? p.1 = some p.2 ∧ h₀.get? p.1 = none)
    (hroom : dp + 20 < recursionLimit) (hfr : fr = some outer) (hfun : s.heap.FunFrames h₀ outer) (hy : y.length ≤ 20)
    (hR : ∀ b h' tk, (b = true ↔ ConfP y) → Kp (fas outer) [] s.heap h' → R (.ok (.ret (.bool b))) { s with heap := h', toks := tk }) :
    codeAny (model PySem.Challenge.rw_kj0039_01.row.prog w) { handled := none, depth := dp, frames := fr, guards := gd, units := un } (.call (.ref 197) ⟨[.str y t], []⟩) R s := by
  revert X₀; k_fill; intro X₀
  refine' enter (f := 197) (mm := _) S X₀ T N ?ho ?hcd ?hr ?hb ?hmm ?hloc ?_ ?c1 ?c2 ?c3 ?c4
  case ho => k_is
  case hcd => k_is
  case hr => show dp < recursionLimit; (first | k_extra "O" | omega)
  case hb => first | exact BindsTo.of_eq rfl | exact binds_K (X₀.keeps S) rfl (by k_is) rfl rfl rfl
  case hmm => first | rfl | kernel_rfl | with_unfolding_all rfl
  case hloc => exact locs rfl
  case c1 => exact rfl
  case c2 => exact rfl
  case c3 => exact rfl
  case c4 => decide
  intro g L' h₁ tkA k1 k2 k3 F' N' X' T' k4 k5
  (try dsimp only)
  k_fold
  have hL := top_none s.heap k5
  walk_at "ks"
  all_goals first
    | ((rename Fr _ _ _ _ => F9)
       have kp : Kp (fas outer) [] s.heap _ := Kp.of_keeps (fun a o q _ => kept_all F9 k1 N (fun p hp => absurd hp List.not_mem_nil) a o q)
       (try (k_unfold; dsimp only))
       first
       | exact hR _ _ _ (conf_n1 (by assumption)) kp
       | exact hR _ _ _ (conf_n2 (by assumption) (.inl (by assumption))) kp
       | exact hR _ _ _ (conf_n2 (by assumption) (.inr (.inl (by assumption)))) kp
       | exact hR _ _ _ (conf_n2 (by assumption) (.inr (.inr (by assumption)))) kp)
    | skip
  (rename Fr _ _ _ _ => lF')
  (rename News _ _ _ _ => lN')
  (rename (splitL _ = _) => qs)
  have hel := fun t1 t2 => conf_el (t1 := t1) (t2 := t2) qs (by (first | k_extra "O" | omega)) (by (first | k_extra "O" | omega))
  refine' for_listM (fun m₀ i m nx => ∃ (nv : Option Value), m = (fun z => if z = Str.ofString "i" then nv else m₀ z) ∧ nx = [] ∧ (0 < i → okAll (rootL y)) ∧ (1 < i → okAll (extL y))) lF' News.nil (News.isList lN' (.head _)) ?k2 ?k3 ?k4 ?k5 ?_ ?_
  case k2 => exact rfl
  case k3 => exact ((lN' _ (.head _)).2.1)
  case k4 => exact fun p hp => absurd hp List.not_mem_nil
  case k5 =>
    refine' ⟨none, ?m, rfl, by (first | k_extra "O" | omega), by (first | k_extra "O" | omega)⟩
    case m =>
      refine funext fun y => ?_
      by_cases hq0 : y = Str.ofString "i"
      · subst hq0; with_unfolding_all rfl
      simp only [if_neg hq0]
  · rintro i v _ _ h tk own hv ⟨nv, rfl, rfl, e0, e1⟩ hoff F N3
    obtain ⟨z, tz, rfl, hz, hzz⟩ := hel _ _ i v hv
    dsimp only
    k_fold
    walk_at "ks"
    refine wpAny_Try_except ?_
    walk_at "ks"
    with_unfolding_all (show wpAny _ _ (call (Value.ref 186) [Value.str z tz] [(Str.ofString "encoding", _)]) _ _ _)
    (rename Fr _ _ _ _ => F9)
    (rename News _ _ _ _ => N9)
    subst hfr
    have kk := kept_all F9 k1 N (fun p hp => absurd hp List.not_mem_nil)
    refine wpAny_call (chk_all (fun b o q => F9.keep _ _ (k3 _ _ q)) X₀ T (by show dp + 1 + 10 < _; (first | k_extra "O" | omega)) rfl (fun_here F9 k3 hfun kk rfl) hz (fun hok h' tk' a1 => ?_) (fun hno h' e tk' dct B th => ?_))
    · have F10 := F9.keptAll a1
      have N10 : News g L' h' _ := fun p hp => ⟨a1 _ _ (N9 p hp).1, (N9 p hp).2⟩
      dsimp only
      (try k_fold)
      walk_at "ks"
      show TEnd _ _ _ _ _ _
      refine' TEnd.intro F10 N10 ⟨_, ?a1, rfl, ?a2, ?a3⟩ ?b1 ?b2 ?b3
      case a1 =>
        refine funext fun y => ?_
        by_cases hq0 : y = Str.ofString "i"
        · subst hq0; with_unfolding_all rfl
        simp only [if_neg hq0]
      case b1 => exact fun p hp => absurd hp List.not_mem_nil
      case b2 => exact fun p hp => hp
      case b3 => exact hoff
      case a2 =>
        intro _
        rcases hzz with ⟨rfl, q⟩ | ⟨rfl, q⟩
        · rw [← q]; exact hok
        · exact e0 (by (first | k_extra "O" | omega))
      case a3 =>
        intro hi
        rcases hzz with ⟨rfl, q⟩ | ⟨rfl, q⟩
        · (first | k_extra "O" | omega)
        · rw [← q]; exact hok
    · dsimp only
      refine caught (Around.frames_deeper rfl) rfl th fun h2 f2 u2 => ?_
      have kp2 := th.kpf (fun_here F9 k3 hfun kk rfl) f2 u2
      obtain ⟨F2, N2, g1, g2, g3⟩ := rebase F9 N9 kp2 (off_led k1 hfun (fun a _ => List.not_mem_nil) N9)
      have st2 := base_merge k3 hfun g1
      have X2 := X₀.keeps st2
      have T2 := T.keeps st2
      refine wpAny_handleBy_builtin (X := "ValueError") (T := "ValueError") (b := true) ve_exc ve_tup ve_self ?_
      dsimp only
      walk_at "ks"
      · exact f2.type_is
      · refine land f2 fun h3 f3 u3 => ?_
        have kp3 := Kp.pop kk rfl hL (th.kpf (fun_here F9 k3 hfun kk rfl) f3 (u2.trans u3))
        walk_at "ks"
        (try (k_unfold; dsimp only))
        refine hR _ _ _ (conf_n3 ?_) kp3
        rcases hzz with ⟨_, q⟩ | ⟨_, q⟩
        · exact .inl (q ▸ hno)
        · exact .inr (q ▸ hno)
  · rintro _ _ h tk ⟨nv, rfl, rfl, e0, e1⟩ F N3
    dsimp only
    (try k_fold)
    walk_at "ks"
    (rename Fr _ _ _ _ => F9)
    (try (k_unfold; dsimp only))
    exact hR _ _ _ (conf_y (by assumption) qs (by assumption) (by assumption) (e0 (by simp)) (e1 (by simp))) (Kp.of_keeps (fun a o q _ => kept_all F9 k1 N (fun p hp => absurd hp List.not_mem_nil) a o q))
end
end Mine
namespace Mine
theorem zr_C6 : True := by
  w_top off
  k_with_none
  k_with "O" => first | decide | ((with_reducible refine rmk (by assumption) ?_); rfl) | ((with_reducible refine rm0 (by assumption) ?_); rfl) | ((with_reducible refine lel (by assumption) ?_); rfl) | ((with_reducible refine llt (by assumption) ?_); rfl) | ((with_reducible refine ltt (by assumption) ?_); rfl) | ((with_reducible refine ltl (by assumption) ?_); rfl) | ((with_reducible refine ilt (by assumption) ?_); rfl) | (with_reducible exact rmz (by assumption)) | (with_reducible assumption)
  exact True.intro
open PySem.Calls
noncomputable def ExcAt (h : Heap) (e : Addr) (cls : Value) : Prop := ∃ oe, h.get? e = some oe ∧ oe.cls = cls
section
variable {w : World} {A : Around} {E : Value → Shared → Prop} {s : Shared} {env : Env} {K : Frag} {cls c : Value} {b : Bool}
theorem handle_plain {e : Addr} {t : Expr} {b₀ : Stmt} {suite : List Stmt} {pos : Pos} {rest : List ExceptHandler} {Q : Flow → Shared → Prop} (hx : exmOne K cls c = some b)
    (h : wpAny (model PG w) (A.mark (some (.ref e))) (eval t env) (fun c' s₁ => c' = c ∧ K.In s₁.heap ∧ ExcAt s₁.heap e cls ∧
      if b then wpAny (model PG w) (A.mark (some (.ref e))) (setFlight (.ref e) none) (fun _ s₂ => wpAny (model PG w) (A.mark (some (.ref e))) (execs (b₀ :: suite) env) Q (notedBy (model PG w) (A.mark (some (.ref e))) env (cameBackBy (model PG w) A env E)) s₂) (notedBy (model PG w) (A.mark (some (.ref e))) env (cameBackBy (model PG w) A env E)) s₁
      else wpAny (model PG w) A (handleBy (.ref e) env rest) Q E s₁) (notedBy (model PG w) (A.mark (some (.ref e))) env (cameBackBy (model PG w) A env E)) s) :
    wpAny (model PG w) A (handleBy (.ref e) env (.ExceptHandler (some t) none (b₀ :: suite) pos :: rest)) Q E s := by
  refine wpAny_handleBy_cons (codeAny_handlers_test (wpAny_mono h (fun c' s₁ h₁ => ?_) fun _ _ x => x)) (by intro q; cases q)
  obtain ⟨rfl, X, ⟨oe, he, hc⟩, hk⟩ := h₁
  have LT : Looks (model PG w) s₁.heap (PySem.typeOf (.ref e)) cls := hc ▸ (Looks.ld he).andThen .now
  refine (exm_one (M := model PG w) X LT hx).here ?_
  cases b with
  | true => exact codeAny_handlers_suite hk
  | false => exact hk
theorem handle_as {e : Addr} {t : Expr} {n : Str} {b₀ : Stmt} {suite : List Stmt} {pos : Pos} {rest : List ExceptHandler} {Q : Flow → Shared → Prop} (hx : exmOne K cls c = some b)
    (h : wpAny (model PG w) (A.mark (some (.ref e))) (eval t env) (fun c' s₁ => c' = c ∧ K.In s₁.heap ∧ ExcAt s₁.heap e cls ∧
      if b then wpAny (model PG w) (A.mark (some (.ref e))) (setFlight (.ref e) none) (fun _ s₂ =>
          wpAny (model PG w) (A.mark (some (.ref e))) (storeName env n (.ref e)) (fun _ s₃ =>
            wpAny (model PG w) (A.mark (some (.ref e))) (execs (b₀ :: suite) env)
              (fun f s₄ => wpAny (model PG w) A (do bindName env n .none; unbindBehindTheSuite env n pos) (fun _ s₅ => Q f s₅) E s₄)
              (AsSuiteRaised (model PG w) (A.mark (some (.ref e))) env n pos (notedBy (model PG w) (A.mark (some (.ref e))) env (cameBackBy (model PG w) A env E))) s₃) (notedBy (model PG w) (A.mark (some (.ref e))) env (cameBackBy (model PG w) A env E)) s₂) (notedBy (model PG w) (A.mark (some (.ref e))) env (cameBackBy (model PG w) A env E)) s₁
      else wpAny (model PG w) A (handleBy (.ref e) env rest) Q E s₁) (notedBy (model PG w) (A.mark (some (.ref e))) env (cameBackBy (model PG w) A env E)) s) :
    wpAny (model PG w) A (handleBy (.ref e) env (.ExceptHandler (some t) (some n) (b₀ :: suite) pos :: rest)) Q E s := by
  refine wpAny_handleBy_cons (codeAny_handlers_test (wpAny_mono h (fun c' s₁ h₁ => ?_) fun _ _ x => x)) (by intro q; cases q)
  obtain ⟨rfl, X, ⟨oe, he, hc⟩, hk⟩ := h₁
  have LT : Looks (model PG w) s₁.heap (PySem.typeOf (.ref e)) cls := hc ▸ (Looks.ld he).andThen .now
  refine (exm_one (M := model PG w) X LT hx).here ?_
  cases b with
  | true => exact codeAny_handlers_suite_as hk
  | false => exact hk
theorem FlyD.at {B h : Heap} {l : List Env} {e : Addr} {cls : Value} {dct : Option Addr} {fl : Value} (F : FlyD B l e cls dct fl h) : ExcAt h e cls := by
  obtain ⟨_, _, _, vs, sl, T, ts, oT, he, _⟩ := F
  exact ⟨_, he, rfl⟩
theorem kept_kp {h g g3 h' h₀ : Heap} {L : Addr} {m : Str → Option Value} {news : List (Addr × Obj)} {fa : List Addr} (F : Fr g3 L h' m) (k1 : ∀ b o, h.get? b = some o → b ∉ news.map (·.1) → g.get? b = some o)
    (N : ∀ p ∈ news, h.get? p.1 = some p.2 ∧ h₀.get? p.1 = none) (N' : ∀ p ∈ news, h'.get? p.1 = some p.2) (g1 : ∀ a o, g.get? a = some o → a ∉ fa → g3.get? a = some o) (g2 : ∀ a o, g.get? a = some o → ∃ sl, g3.get? a = some { o with slots := sl }) : Kp fa [] h h' := fun a o e _ => by
  by_cases q : a ∈ news.map (·.1)
  · obtain ⟨p, hp, rfl⟩ := List.mem_map.mp q
    rw [(N p hp).1] at e
    cases e
    exact ⟨fun _ => N' p hp, p.2.slots, N' p hp⟩
  · have := k1 a o e q
    refine ⟨fun f => F.keep _ _ (g1 a o this f), ?_⟩
    obtain ⟨sl, x⟩ := g2 a o this
    exact ⟨sl, F.keep _ _ x⟩
theorem fun_hereK {h h₀ g h' : Heap} {L f : Addr} {m : Str → Option Value} {outer : List Env} {name : Str} {scope : Scope} {cd : Value} {fa : List Addr} (F : Fr g L h' m) (k3 : h₀.StaysIn g) (hfun : h.FunFrames h₀ outer) (k : Kp fa [] h h') (hk : scope.kind = .function) :
    h'.FunFrames h₀ (envOf name scope L f cd :: outer) := by
  refine Heap.FunFrames.cons (by show scope.kind ≠ .module; rw [hk]; decide) rfl F.ns ?_ (hfun.of_keeps fun b o e _ => let ⟨_, sl, x⟩ := k b o e List.not_mem_nil; ⟨_, x, rfl⟩)
  cases q : h₀.get? L with
  | none => rfl
  | some o => exact absurd (Nat.lt_of_lt_of_le (Heap.lt_size (k3 _ _ q)) F.above) (Nat.lt_irrefl _)
end
section
theorem zw_C6_43 : True := by
  k_with_none
  k_with "O" => first | decide | ((with_reducible refine rmk (by assumption) ?_); rfl) | ((with_reducible refine rm0 (by assumption) ?_); rfl) | ((with_reducible refine lel (by assumption) ?_); rfl) | ((with_reducible refine llt (by assumption) ?_); rfl) | ((with_reducible refine ltt (by assumption) ?_); rfl) | ((with_reducible refine ltl (by assumption) ?_); rfl) | ((with_reducible refine ilt (by assumption) ?_); rfl) | (with_reducible exact rmz (by assumption)) | (with_reducible assumption)
  k_with "ks" => repeat' (first | (k_unfold; (try dsimp only)) | (k_end; wrow_close) | ((fail_if_success (with_reducible show wpAny _ _ (pyIter _) (fun it s₂ => LoopAtV _ _ _ _ _ _ _ _ _ it s₂) _ _)); (first | k_extra "H" | walk1)) | ((fail_if_success (with_reducible show wpAny _ _ (pyIter _) (fun it s₂ => LoopAtV _ _ _ _ _ _ _ _ _ it s₂) _ _)); dsimp only; (first | k_extra "H" | walk1)) | fail "no step")
  k_with "forhere" => (with_reducible show wpAny _ _ (pyIter _) (fun it s₂ => LoopAtV _ _ _ _ _ _ _ _ _ it s₂) _ _)
  exact True.intro
set_option maxHeartbeats 4000000 in
theorem unpadded_bad_code {w : World} {mean : ExcName → Option Value} {mg mb : Str → Option Value} {dp un : Nat} {fr : Option (List Env)} {gd : Option (List Code)} {R : Result → Shared → Prop} {s : Shared} {h₀ : Heap} {outer : List Env} {x dx : Addr} {n1 n2 n3 : Tok} {v1 v2 : Value}
    (S : ∀ b o, h₀.get? b = some o → s.heap.get? b = some o) (X₀ : (Mine.hh.heap_1_39 w.params).In h₀) (T : Top Mine.hh.view_1_40 (looseW Mine.hh.view_1_40 [Str.ofString "PyFATException", Str.ofString "errno", Str.ofString "EightDotThree"]) mean mg mb h₀)
    (N : ∀ p ∈ ([(x, oneObj dx), (dx, oneD w.params n1 n2 n3 v1 v2 (.bool false))] : List (Addr × Obj)), s.heap.get? p.1 = some p.2 ∧ h₀.get? p.1 = none)
    (hroom : dp + 10 < recursionLimit) (hfr : fr = some outer) (hfun : s.heap.FunFrames h₀ outer)
    (hR : ∀ h' e d tk B, Thrown outer s.heap h' e (.ref 41) (some d) B → R (.error (.ref e)) { s with heap := h', toks := tk }) :
    codeAny (model PySem.Challenge.rw_kj0039_01.row.prog w) { handled := none, depth := dp, frames := fr, guards := gd, units := un } (.call (.ref 141) ⟨[.ref x], []⟩) R s := by
  revert X₀; k_fill; intro X₀
  refine' enter (f := 141) (mm := (fun zq => List.lookup zq [(Str.ofString "self", .ref x)])) S X₀ T N ?ho ?hcd ?hr ?hb ?hmm ?hloc ?_ ?c1 ?c2 ?c3 ?c4
  case ho => k_is
  case hcd => k_is
  case hr => show dp < recursionLimit; (first | k_extra "O" | omega)
  case hb => exact BindsTo.of_eq rfl
  case hmm => first | rfl | kernel_rfl | with_unfolding_all rfl
  case hloc => exact locs rfl
  case c1 => exact rfl
  case c2 => exact rfl
  case c3 => exact rfl
  case c4 => decide
  intro g L' h₁ tkA k1 k2 k3 F' N' X' T' k4 k5
  (try dsimp only)
  k_fold
  walk_at "ks"
  rename Fr _ _ _ _ => F9
  rename News _ _ _ _ => N9
  subst hfr
  have kk := kept_all F9 k1 N (fun p hp => (N9 p hp).1)
  refine wpAny_call (icheck_code (n1 := n1) (n2 := n2) (n3 := n3) (v1 := v1) (v2 := v2) (dx := dx) (fun b o q => F9.keep _ _ (k3 _ _ q)) X₀ T (fun p hp => ⟨(N9 p hp).1, (N p hp).2⟩) (by show dp + 1 + 5 < _; (first | k_extra "O" | omega)) rfl (fun_here F9 k3 hfun kk rfl) fun h' e d tk n B th _ _ => ?_)
  (try k_unfold)
  dsimp only
  refine leave_thrown (Around.frames_deeper rfl) rfl th kk (top_none _ k5) fun h2 th2 => ?_
  exact hR _ _ _ _ _ th2
set_option maxHeartbeats 4000000 in
theorem checksum_bad_code {w : World} {mean : ExcName → Option Value} {mg mb : Str → Option Value} {dp un : Nat} {fr : Option (List Env)} {gd : Option (List Code)} {R : Result → Shared → Prop} {s : Shared} {h₀ : Heap} {outer : List Env} {x dx : Addr} {n1 n2 n3 : Tok} {v1 v2 : Value}
    (S : ∀ b o, h₀.get? b = some o → s.heap.get? b = some o) (X₀ : (Mine.hh.heap_1_39 w.params).In h₀) (T : Top Mine.hh.view_1_40 (looseW Mine.hh.view_1_40 [Str.ofString "PyFATException", Str.ofString "errno", Str.ofString "EightDotThree"]) mean mg mb h₀)
    (N : ∀ p ∈ ([(x, oneObj dx), (dx, oneD w.params n1 n2 n3 v1 v2 (.bool false))] : List (Addr × Obj)), s.heap.get? p.1 = some p.2 ∧ h₀.get? p.1 = none)
    (hroom : dp + 10 < recursionLimit) (hfr : fr = some outer) (hfun : s.heap.FunFrames h₀ outer)
    (hR : ∀ h' e d tk B, Thrown outer s.heap h' e (.ref 41) (some d) B → R (.error (.ref e)) { s with heap := h', toks := tk }) :
    codeAny (model PySem.Challenge.rw_kj0039_01.row.prog w) { handled := none, depth := dp, frames := fr, guards := gd, units := un } (.call (.ref 179) ⟨[.ref x], []⟩) R s := by
  revert X₀; k_fill; intro X₀
  refine' enter (f := 179) (mm := (fun zq => List.lookup zq [(Str.ofString "self", .ref x)])) S X₀ T N ?ho ?hcd ?hr ?hb ?hmm ?hloc ?_ ?c1 ?c2 ?c3 ?c4
  case ho => k_is
  case hcd => k_is
  case hr => show dp < recursionLimit; (first | k_extra "O" | omega)
  case hb => exact BindsTo.of_eq rfl
  case hmm => first | rfl | kernel_rfl | with_unfolding_all rfl
  case hloc => exact locs rfl
  case c1 => exact rfl
  case c2 => exact rfl
  case c3 => exact rfl
  case c4 => decide
  intro g L' h₁ tkA k1 k2 k3 F' N' X' T' k4 k5
  (try dsimp only)
  k_fold
  walk_at "ks"
  rename Fr _ _ _ _ => F9
  rename News _ _ _ _ => N9
  subst hfr
  have kk := kept_all F9 k1 N (fun p hp => (N9 p hp).1)
  refine wpAny_call (icheck_code (n1 := n1) (n2 := n2) (n3 := n3) (v1 := v1) (v2 := v2) (dx := dx) (fun b o q => F9.keep _ _ (k3 _ _ q)) X₀ T (fun p hp => ⟨(N9 p hp).1, (N p hp).2⟩) (by show dp + 1 + 5 < _; (first | k_extra "O" | omega)) rfl (fun_here F9 k3 hfun kk rfl) fun h' e d tk n B th _ _ => ?_)
  (try k_unfold)
  dsimp only
  refine leave_thrown (Around.frames_deeper rfl) rfl th kk (top_none _ k5) fun h2 th2 => ?_
  exact hR _ _ _ _ _ th2
end
section
theorem zw_C6_44 : True := by
  k_with_none
  k_with "O" => first | decide | ((with_reducible refine rmk (by assumption) ?_); rfl) | ((with_reducible refine rm0 (by assumption) ?_); rfl) | ((with_reducible refine lel (by assumption) ?_); rfl) | ((with_reducible refine llt (by assumption) ?_); rfl) | ((with_reducible refine ltt (by assumption) ?_); rfl) | ((with_reducible refine ltl (by assumption) ?_); rfl) | ((with_reducible refine ilt (by assumption) ?_); rfl) | (with_reducible exact rmz (by assumption)) | (with_reducible assumption)
  k_with "ks" => repeat' (first | (k_unfold; (try dsimp only)) | (k_end; wrow_close) | ((fail_if_success (with_reducible show wpAny _ _ (pyIter _) (fun it s₂ => LoopAtV _ _ _ _ _ _ _ _ _ it s₂) _ _)); (fail_if_success (with_reducible show wpAny _ _ (exec (Stmt.While _ _ _ _) _) _ _ _)); (fail_if_success (with_reducible show wpAny _ _ (exec (Stmt.Try _ _ _ _ _) _) _ _ _)); (first | k_extra "H" | walk1)) | ((fail_if_success (with_reducible show wpAny _ _ (pyIter _) (fun it s₂ => LoopAtV _ _ _ _ _ _ _ _ _ it s₂) _ _)); (fail_if_success (with_reducible show wpAny _ _ (exec (Stmt.While _ _ _ _) _) _ _ _)); (fail_if_success (with_reducible show wpAny _ _ (exec (Stmt.Try _ _ _ _ _) _) _ _ _)); dsimp only; (first | k_extra "H" | walk1)) | fail "no step")
  exact True.intro
set_option maxHeartbeats 4000000 in
theorem bald_code {w : World} {mean : ExcName → Option Value} {mg mb : Str → Option Value} {dp un : Nat} {fr : Option (List Env)} {gd : Option (List Code)} {R : Result → Shared → Prop} {s : Shared} {h₀ : Heap} {outer : List Env} {x dx : Addr} {n1 n2 n3 : Tok} {v1 v2 : Value}
    (S : ∀ b o, h₀.get? b = some o → s.heap.get? b = some o) (X₀ : (Mine.hh.heap_1_39 w.params).In h₀) (T : Top Mine.hh.view_1_40 (looseW Mine.hh.view_1_40 [Str.ofString "PyFATException", Str.ofString "errno", Str.ofString "EightDotThree"]) mean mg mb h₀)
    (N : ∀ p ∈ ([(x, oneObj dx), (dx, oneD w.params n1 n2 n3 v1 v2 (.bool false))] : List (Addr × Obj)), s.heap.get? p.1 = some p.2 ∧ h₀.get? p.1 = none)
    (hroom : dp + 20 < recursionLimit) (hfr : fr = some outer) (hfun : s.heap.FunFrames h₀ outer) (hoff : ∀ a ∈ fas outer, a ∉ ([(x, oneObj dx), (dx, oneD w.params n1 n2 n3 v1 v2 (.bool false))] : List (Addr × Obj)).map (·.1))
    (hR : ∀ h' tk, Kp (fas outer) [] s.heap h' → R (.ok (.ret (.bool true))) { s with heap := h', toks := tk }) :
    codeAny (model PySem.Challenge.rw_kj0039_01.row.prog w) { handled := none, depth := dp, frames := fr, guards := gd, units := un } (.call (.ref 305) ⟨[.ref x], []⟩) R s := by
  revert X₀; k_fill; intro X₀
  refine' enter (f := 305) (mm := (fun zq => List.lookup zq [(Str.ofString "one", .ref x)])) S X₀ T N ?ho ?hcd ?hr ?hb ?hmm ?hloc ?_ ?c1 ?c2 ?c3 ?c4
  case ho => k_is
  case hcd => k_is
  case hr => show dp < recursionLimit; (first | k_extra "O" | omega)
  case hb => exact BindsTo.of_eq rfl
  case hmm => first | rfl | kernel_rfl | with_unfolding_all rfl
  case hloc => exact locs rfl
  case c1 => exact rfl
  case c2 => exact rfl
  case c3 => exact rfl
  case c4 => decide
  intro g L' h₁ tkA k1 k2 k3 F' N' X' T' k4 k5
  (try dsimp only)
  k_fold
  have hL := top_none s.heap k5
  walk_at "ks"
  refine wpAny_Try_except ?_
  walk_at "ks"
  rename Fr _ _ _ _ => F9
  rename News _ _ _ _ => N9
  subst hfr
  have kk := kept_all F9 k1 N (fun p hp => (N9 p hp).1)
  show wpAny _ _ (call (Value.ref 141) [Value.ref x] []) _ _ _
  refine wpAny_call (unpadded_bad_code (n1 := n1) (n2 := n2) (n3 := n3) (v1 := v1) (v2 := v2) (dx := dx) (fun b o q => F9.keep _ _ (k3 _ _ q)) X₀ T (fun p hp => ⟨(N9 p hp).1, (N p hp).2⟩) (by show dp + 1 + 10 < _; (first | k_extra "O" | omega)) rfl (fun_here F9 k3 hfun kk rfl) fun h' e d tk B th => ?_)
  dsimp only
  refine caught (Around.frames_deeper rfl) rfl th fun h2 f2 u2 => ?_
  have kp2 := th.kpf (fun_here F9 k3 hfun kk rfl) f2 u2
  have on9 := off_led k1 hfun hoff N9
  obtain ⟨F2, N2, g1, g2, g3⟩ := rebase F9 N9 kp2 on9
  have st2 := base_merge k3 hfun g1
  have X2 := X₀.keeps st2
  have T2 := T.keeps st2
  refine handle_plain (K := Mine.hh.heap_1_39 w.params) (cls := .ref 41) (c := .ref 41) (b := true) (by first | rfl | kernel_rfl) ?_
  walk_at "ks"
  · exact f2.at
  refine land f2 fun h3 f3 u3 => ?_
  clear F2 N2 g1 g2 g3 st2 X2 T2 kp2
  have kp3 := th.kpf (fun_here F9 k3 hfun kk rfl) f3 (u2.trans u3)
  obtain ⟨F3, N3, g1, g2, g3⟩ := rebase F9 N9 kp3 on9
  have st3 := base_merge k3 hfun g1
  have X3 := X₀.keeps st3
  have T3 := T.keeps st3
  walk_at "ks"
  refine wpAny_Try_except ?_
  walk_at "ks"
  rename Fr _ _ _ _ => F5
  rename News _ _ _ _ => N5
  have kp5 := kept_kp F5 k1 N (fun p hp => (N5 p hp).1) g1 g2
  show wpAny _ _ (call (Value.ref 179) [Value.ref x] []) _ _ _
  refine wpAny_call (checksum_bad_code (n1 := n1) (n2 := n2) (n3 := n3) (v1 := v1) (v2 := v2) (dx := dx) (fun b o q => F5.keep _ _ (st3 _ _ q)) X₀ T (fun p hp => ⟨(N5 p hp).1, (N p hp).2⟩) (by show dp + 1 + 10 < _; (first | k_extra "O" | omega)) rfl (fun_hereK F5 st3 hfun kp5 rfl) fun h5 e5 d5 tk5 B5 th5 => ?_)
  dsimp only
  refine caught (Around.frames_deeper rfl) rfl th5 fun h6 f6 u6 => ?_
  have kp6 := th5.kpf (fun_hereK F5 st3 hfun kp5 rfl) f6 u6
  have on5 : ∀ p ∈ ([(x, oneObj dx), (dx, oneD w.params n1 n2 n3 v1 v2 (.bool false))] : List (Addr × Obj)), p.1 ∉ fas outer := fun p hp m => hoff _ m (List.mem_map_of_mem hp)
  obtain ⟨F6, N6, g4, _, _⟩ := rebase F5 N5 kp6 on5
  have st6 := base_merge st3 (hfun.of_keeps fun b o e _ => let ⟨_, sl, x⟩ := kp5 b o e List.not_mem_nil; ⟨_, x, rfl⟩) g4
  have X6 := X₀.keeps st6
  have T6 := T.keeps st6
  refine handle_plain (K := Mine.hh.heap_1_39 w.params) (cls := .ref 41) (c := .ref 41) (b := true) (by first | rfl | kernel_rfl) ?_
  walk_at "ks"
  · exact f6.at
  refine land f6 fun h7 f7 u7 => ?_
  clear F6 N6 g4 st6 X6 T6 kp6
  have kp7 := th5.kpf (fun_hereK F5 st3 hfun kp5 rfl) f7 (u6.trans u7)
  obtain ⟨F7, N7, g4, g5, _⟩ := rebase F5 N5 kp7 on5
  have st7 := base_merge st3 (hfun.of_keeps fun b o e _ => let ⟨_, sl, x⟩ := kp5 b o e List.not_mem_nil; ⟨_, x, rfl⟩) g4
  have X7 := X₀.keeps st7
  have T7 := T.keeps st7
  walk_at "ks"
  rename Fr _ _ _ _ => F10
  rename News _ _ _ _ => N10
  have kpe := kept_kp F10 k1 N (fun p hp => (N10 p hp).1) (fun a o q n => g4 a o (g1 a o q n) n) (fun a o q => by
    obtain ⟨sl, x⟩ := g2 a o q
    obtain ⟨sl', y⟩ := g5 _ _ x
    exact ⟨sl', y⟩)
  have e2 : ((0 : Int) + 1 + 1 == 2) = true := rfl
  (try (k_unfold; dsimp only))
  rw [e2]
  exact hR _ _ kpe
end
end Mine
namespace Mine
theorem zr_C7 : True := by
  w_top off
  k_with_none
  k_with "O" => first | decide | ((with_reducible refine rmk (by assumption) ?_); rfl) | ((with_reducible refine rm0 (by assumption) ?_); rfl) | ((with_reducible refine lel (by assumption) ?_); rfl) | ((with_reducible refine llt (by assumption) ?_); rfl) | ((with_reducible refine ltt (by assumption) ?_); rfl) | ((with_reducible refine ltl (by assumption) ?_); rfl) | ((with_reducible refine ilt (by assumption) ?_); rfl) | (with_reducible exact rmz (by assumption)) | (with_reducible assumption)
  exact True.intro
open PySem.Calls
section
theorem zw_C7_45 : True := by
  k_with_none
  k_with "O" => first | decide | ((with_reducible refine rmk (by assumption) ?_); rfl) | ((with_reducible refine rm0 (by assumption) ?_); rfl) | ((with_reducible refine lel (by assumption) ?_); rfl) | ((with_reducible refine llt (by assumption) ?_); rfl) | ((with_reducible refine ltt (by assumption) ?_); rfl) | ((with_reducible refine ltl (by assumption) ?_); rfl) | ((with_reducible refine ilt (by assumption) ?_); rfl) | (with_reducible exact rmz (by assumption)) | (with_reducible assumption)
  k_with "ks" => repeat' (first | (k_unfold; (try dsimp only)) | (k_end; wrow_close) | ((fail_if_success (with_reducible show wpAny _ _ (pyIter _) (fun it s₂ => LoopAtV _ _ _ _ _ _ _ _ _ it s₂) _ _)); (first | k_extra "H" | walk1)) | ((fail_if_success (with_reducible show wpAny _ _ (pyIter _) (fun it s₂ => LoopAtV _ _ _ _ _ _ _ _ _ it s₂) _ _)); dsimp only; (first | k_extra "H" | walk1)) | fail "no step")
  k_with "forhere" => (with_reducible show wpAny _ _ (pyIter _) (fun it s₂ => LoopAtV _ _ _ _ _ _ _ _ _ it s₂) _ _)
  exact True.intro
set_option maxHeartbeats 4000000 in
theorem holds_none_code {w : World} {mean : ExcName → Option Value} {mg mb : Str → Option Value} {dp un : Nat} {fr : Option (List Env)} {gd : Option (List Code)} {R : Result → Shared → Prop} {s : Shared} {h₀ : Heap} {outer : List Env} {x dx : Addr} {n1 n2 n3 : Tok} {v1 v2 : Value}
    (S : ∀ b o, h₀.get? b = some o → s.heap.get? b = some o) (X₀ : (Mine.hh.heap_1_39 w.params).In h₀) (T : Top Mine.hh.view_1_40 (looseW Mine.hh.view_1_40 [Str.ofString "PyFATException", Str.ofString "errno", Str.ofString "EightDotThree"]) mean mg mb h₀)
    (N : ∀ p ∈ ([(x, oneObj dx), (dx, oneD w.params n1 n2 n3 v1 v2 (.bool false))] : List (Addr × Obj)), s.heap.get? p.1 = some p.2 ∧ h₀.get? p.1 = none)
    (hroom : dp + 25 < recursionLimit) (hfr : fr = some outer) (hfun : s.heap.FunFrames h₀ outer) (hoff : ∀ a ∈ fas outer, a ∉ ([(x, oneObj dx), (dx, oneD w.params n1 n2 n3 v1 v2 (.bool false))] : List (Addr × Obj)).map (·.1))
    (hR : ∀ h' tk, Kp (fas outer) [] s.heap h' → R (.ok (.ret (.bool true))) { s with heap := h', toks := tk }) :
    codeAny (model PySem.Challenge.rw_kj0039_01.row.prog w) { handled := none, depth := dp, frames := fr, guards := gd, units := un } (.call (.ref 312) ⟨[.ref x, .none], []⟩) R s := by
  revert X₀; k_fill; intro X₀
  refine' enter (f := 312) (mm := (fun zq => List.lookup zq [(Str.ofString "row", .none), (Str.ofString "one", .ref x)])) S X₀ T N ?ho ?hcd ?hr ?hb ?hmm ?hloc ?_ ?c1 ?c2 ?c3 ?c4
  case ho => k_is
  case hcd => k_is
  case hr => show dp < recursionLimit; (first | k_extra "O" | omega)
  case hb => exact BindsTo.of_eq rfl
  case hmm => first | rfl | kernel_rfl | with_unfolding_all rfl
  case hloc => exact locs rfl
  case c1 => exact rfl
  case c2 => exact rfl
  case c3 => exact rfl
  case c4 => decide
  intro g L' h₁ tkA k1 k2 k3 F' N' X' T' k4 k5
  (try dsimp only)
  k_fold
  have hL := top_none s.heap k5
  walk_at "ks"
  rename Fr _ _ _ _ => F9
  rename News _ _ _ _ => N9
  subst hfr
  have kk := kept_all F9 k1 N (fun p hp => (N9 p hp).1)
  refine wpAny_call (bald_code (n1 := n1) (n2 := n2) (n3 := n3) (v1 := v1) (v2 := v2) (dx := dx) (fun b o q => F9.keep _ _ (k3 _ _ q)) X₀ T (fun p hp => ⟨(N9 p hp).1, (N p hp).2⟩) (by show dp + 1 + 20 < _; (first | k_extra "O" | omega)) rfl (fun_here F9 k3 hfun kk rfl) (fun a ha m => ?_) fun h' tk kp => ?_)
  · rcases List.mem_cons.mp ha with rfl | ha
    · obtain ⟨p, hp, e⟩ := List.mem_map.mp m
      have := k4 p hp
      rw [e] at this
      exact absurd this (Nat.lt_irrefl _)
    · exact hoff a ha m
  · dsimp only
    (try (k_unfold; dsimp only))
    exact hR _ _ (Kp.pop kk rfl hL kp)
end
theorem zw_C7_46 : True := by
  k_with_none
  k_with "O" => first | decide | ((with_reducible refine rmk (by assumption) ?_); rfl) | ((with_reducible refine rm0 (by assumption) ?_); rfl) | ((with_reducible refine lel (by assumption) ?_); rfl) | ((with_reducible refine llt (by assumption) ?_); rfl) | ((with_reducible refine ltt (by assumption) ?_); rfl) | ((with_reducible refine ltl (by assumption) ?_); rfl) | ((with_reducible refine ilt (by assumption) ?_); rfl) | (with_reducible exact rmz (by assumption)) | (with_reducible assumption)
  exact True.intro
theorem fix_len {ks : List Int} (h : ks.length = 11) : (fixL ks).length = 11 := by
  unfold fixL
  split <;> simp [h]
theorem ba_eq {b : Array UInt8} {ns : List Int} (h : KBw.bInts b = ns) : b.toList = (byteArr ns).toList := by
  subst h
  unfold byteArr KBw.bInts
  rw [List.map_map]
  conv => lhs; rw [← List.map_id b.toList]
  refine List.map_congr_left fun c _ => ?_
  show c = ((c.toNat : Int).toNat).toUInt8
  rw [Int.toNat_natCast]
  simp
theorem oct_ok {ns : List Int} (h : OctsOk ns) : Oct ns := fun n hn => by have := h n hn; unfold OctOk at this; (first | k_extra "O" | omega)
section
theorem zw_C7_47 : True := by
  k_with_none
  k_with "O" => first | decide | ((with_reducible refine rmk (by assumption) ?_); rfl) | ((with_reducible refine rm0 (by assumption) ?_); rfl) | ((with_reducible refine lel (by assumption) ?_); rfl) | ((with_reducible refine llt (by assumption) ?_); rfl) | ((with_reducible refine ltt (by assumption) ?_); rfl) | ((with_reducible refine ltl (by assumption) ?_); rfl) | ((with_reducible refine ilt (by assumption) ?_); rfl) | (with_reducible exact rmz (by assumption)) | (with_reducible assumption)
  k_with "ks" => repeat' (first | (k_unfold; (try dsimp only)) | (k_end; wrow_close) | ((fail_if_success (with_reducible show wpAny _ _ (pyIter _) (fun it s₂ => LoopAtV _ _ _ _ _ _ _ _ _ it s₂) _ _)); (first | k_extra "H" | walk1)) | ((fail_if_success (with_reducible show wpAny _ _ (pyIter _) (fun it s₂ => LoopAtV _ _ _ _ _ _ _ _ _ it s₂) _ _)); dsimp only; (first | k_extra "H" | walk1)) | fail "no step")
  k_with "forhere" => (with_reducible show wpAny _ _ (pyIter _) (fun it s₂ => LoopAtV _ _ _ _ _ _ _ _ _ it s₂) _ _)
  k_with "H" => (k_here; (with_reducible show wpAny _ _ (call (Value.ref 141) _) _ _ _); k_dflt (refine' unpadded_K ?k1 ?k2 ?k3 ?k4 ?k5 ?k6 ?k7 ?k8 ?k9 ?c1 ?c2 ?_; (case k1 => k_asm); (case k2 => k_asm); (case k3 => k_asm); (case k4 => k_asm); (case k5 => (dsimp only [Around.deeper]; (first | k_extra "O" | omega))); (case k6 => k_mem); (case k7 => k_mem); (case k8 => k_updF); (case k9 => with_reducible assumption); (case c1 => (first | k_extra "O" | omega)); (case c2 => with_reducible assumption); k_whole); intro _ _ _ _ _ _ _ _ zzN; (try dsimp only at zzN); (try k_sweep))
  k_with "H" => (k_here; (with_reducible show wpAny _ _ (call (Value.ref 134) _) _ _ _); k_dflt (refine' as_bytes_K ?k1 ?k2 ?k3 ?k4 ?k5 ?k6 ?k7 ?k8 ?k9 ?c1 ?_; (case k1 => k_asm); (case k2 => k_asm); (case k3 => k_asm); (case k4 => k_asm); (case k5 => (dsimp only [Around.deeper]; (first | k_extra "O" | omega))); (case k6 => k_mem); (case k7 => k_mem); (case k8 => k_mem); (case k9 => with_reducible assumption); (case c1 => (first | k_extra "O" | omega)); k_whole); intro _ _ _ _ zzN; (try dsimp only at zzN); (try k_sweep))
  k_with "H" => (k_here; (with_reducible show wpAny _ _ (call (Value.ref 179) _) _ _ _); k_dflt (refine' checksum_K ?k1 ?k2 ?k3 ?k4 ?k5 ?k6 ?k7 ?k8 ?k9 ?c1 ?_; (case k1 => k_asm); (case k2 => k_asm); (case k3 => k_asm); (case k4 => k_asm); (case k5 => (dsimp only [Around.deeper]; (first | k_extra "O" | omega))); (case k6 => k_mem); (case k7 => k_mem); (case k8 => k_mem); (case k9 => with_reducible assumption); (case c1 => (first | k_extra "O" | omega)); k_whole); intro _ _ _ _ zzN; (try dsimp only at zzN); (try k_sweep))
  k_with "H" => (k_here; (with_reducible show wpAny _ _ (call (Value.ref 284) _) _ _ _); k_dflt (refine' told_K ?k1 ?k2 ?k3 ?k4 ?k5 ?k6 ?k7 ?k8 ?k9 ?c1 ?_; (case k1 => k_asm); (case k2 => k_asm); (case k3 => k_asm); (case k4 => k_asm); (case k5 => (dsimp only [Around.deeper]; (first | k_extra "O" | omega))); (case k6 => (((rename Fr _ _ _ _ => zzFz); exact zzFz.keep _ _ (by assumption)))); (case k7 => with_reducible assumption); (case k8 => (first | k_extra "O" | omega)); (case k9 => with_reducible assumption); (case c1 => (dsimp only [Around.deeper]; (first | k_extra "O" | omega))); k_whole); intro _ _ _ _ zzN; (try dsimp only at zzN); (try k_sweep))
  k_with "H" => (k_here; (with_reducible show wpAny _ _ (call (Value.ref 291) _) _ _ _); k_dflt (refine' sum_K ?k1 ?k2 ?k3 ?k4 ?k5 ?k6 ?k7 ?k8 ?k9 ?_; (case k1 => k_asm); (case k2 => k_asm); (case k3 => k_asm); (case k4 => k_asm); (case k5 => (dsimp only [Around.deeper]; (first | k_extra "O" | omega))); (case k6 => (((rename Fr _ _ _ _ => zzFz); exact zzFz.keep _ _ (by assumption)))); (case k7 => with_reducible assumption); (case k8 => (first | k_extra "O" | omega)); (case k9 => with_reducible assumption); k_whole); intro _ _ _ _ zzN; (try dsimp only at zzN); (try k_sweep))
  exact True.intro
set_option maxHeartbeats 4000000 in
theorem holds_some_code {w : World} {mean : ExcName → Option Value} {mg mb : Str → Option Value} {dp un : Nat} {fr : Option (List Env)} {gd : Option (List Code)} {R : Result → Shared → Prop} {s : Shared} {h₀ : Heap} {x dx D H : Addr} {n1 n2 n3 : Tok} {v2 : Value} {b : Array UInt8} {ks : List Int} {vs : List Value} {n : Nat}
    (S : ∀ b o, h₀.get? b = some o → s.heap.get? b = some o) (X₀ : (Mine.hh.heap_1_39 w.params).In h₀) (T : Top Mine.hh.view_1_40 (looseW Mine.hh.view_1_40 [Str.ofString "PyFATException", Str.ofString "errno", Str.ofString "EightDotThree"]) mean mg mb h₀)
    (N : ∀ p ∈ ([(x, oneObj dx), (dx, oneD w.params n1 n2 n3 (.ref D) v2 (.bool true)), (D, baObj b)] : List (Addr × Obj)), s.heap.get? p.1 = some p.2 ∧ h₀.get? p.1 = none)
    (hroom : dp + 30 < recursionLimit) (hk : KBw.bInts b = ks) (hlen : ks.length = 11) (hok : OctsOk (fixL ks)) (ha : s.heap.get? H = some (listOf vs.toArray n)) (hI : IntsAre vs (fixL ks)) (hun : un + 110 < cLine)
    (hR : ∀ h' tk b', h'.get? D = some (baObj b') → KBw.bInts b' = fixL ks → (∀ a o, a ≠ D → s.heap.get? a = some o → h'.get? a = some o) → R (.ok (.ret (.bool true))) { s with heap := h', toks := tk }) :
    codeAny (model PySem.Challenge.rw_kj0039_01.row.prog w) { handled := none, depth := dp, frames := fr, guards := gd, units := un } (.call (.ref 312) ⟨[.ref x, .ref H], []⟩) R s := by
  revert X₀; k_fill; intro X₀
  refine' enter (f := 312) (mm := (fun zq => List.lookup zq [(Str.ofString "row", .ref H), (Str.ofString "one", .ref x)])) S X₀ T N ?ho ?hcd ?hr ?hb ?hmm ?hloc ?_ ?c1 ?c2 ?c3 ?c4
  case ho => k_is
  case hcd => k_is
  case hr => show dp < recursionLimit; (first | k_extra "O" | omega)
  case hb => exact BindsTo.of_eq rfl
  case hmm => first | rfl | kernel_rfl | with_unfolding_all rfl
  case hloc => exact locs rfl
  case c1 => exact rfl
  case c2 => exact rfl
  case c3 => exact rfl
  case c4 => decide
  intro g L' h₁ tkA k1 k2 k3 F' N' X' T' k4 k5
  (try dsimp only)
  k_fold
  have ne1 : x ≠ D := obj_ne (N _ (.head _)).1 (N _ (.tail _ (.tail _ (.head _)))).1 (by simp)
  have ne2 : dx ≠ D := obj_ne (N _ (.tail _ (.head _))).1 (N _ (.tail _ (.tail _ (.head _)))).1 (by simp)
  have m1 : H ≠ x := obj_ne ha (N _ (.head _)).1 (by simp)
  have m2 : H ≠ dx := obj_ne ha (N _ (.tail _ (.head _))).1 (by simp)
  have m3 : H ≠ D := obj_ne ha (N _ (.tail _ (.tail _ (.head _)))).1 (by simp)
  have hg := k1 _ _ ha (by simp [m1, m2, m3])
  have hlf : (fixL ks).length = 11 := fix_len hlen
  have hoct : ∀ n ∈ fixL ks, 0 ≤ n ∧ n ≤ 255 := oct_ok hok
  have hoct' : Oct (fixL ks) := hoct
  walk_at "ks"
  · (rename Fr _ _ _ _ => F9)
    (rename News _ _ _ _ => N9)
    refine' KBa.make_K F9 N9 (by rfl) ⟨_, F9.keep _ _ hg, rfl, _, rfl⟩ hI (fun n hn => by have := hoct n hn; (first | k_extra "O" | omega)) (by (first | k_extra "O" | omega)) ?_
    intro h8 t8 k8 F8 N8 _
    dsimp only
    walk_at "ks"
    · (rename Fr _ _ _ _ => F10)
      (rename News _ _ _ _ => N10)
      have kk := kept_off F10 k1 N D (fun p hp hd => by
        rcases List.mem_cons.mp hp with rfl | hp
        · exact (N10 _ (by k_mem)).1
        · rcases List.mem_cons.mp hp with rfl | hp
          · exact (N10 _ (by k_mem)).1
          · exact absurd (congrArg Prod.fst (List.mem_singleton.mp hp)) hd)
      have es : (sumL (fixL ks) == sumL (fixL ks)) = true := by simp
      (try (k_unfold; dsimp only))
      rw [es]
      exact hR _ _ _ (N10 (D, baObj _) (by k_mem)).1 (by assumption) kk
    · exfalso
      (rename ((_ == Array.toList (byteArr _)) = false) => c1)
      rw [ba_eq (by assumption : KBw.bInts _ = fixL ks)] at c1
      simp at c1
  · exfalso
    (rename ((_ == strL _) = false) => c1)
    (rename (_ = strL (toldL _)) => c2)
    rw [c2] at c1
    simp at c1
end
end Mine
namespace Mine
theorem zr_C8 : True := by
  w_top off
  k_with_none
  k_with "O" => first | decide | ((with_reducible refine rmk (by assumption) ?_); rfl) | ((with_reducible refine rm0 (by assumption) ?_); rfl) | ((with_reducible refine lel (by assumption) ?_); rfl) | ((with_reducible refine llt (by assumption) ?_); rfl) | ((with_reducible refine ltt (by assumption) ?_); rfl) | ((with_reducible refine ltl (by assumption) ?_); rfl) | ((with_reducible refine ilt (by assumption) ?_); rfl) | (with_reducible exact rmz (by assumption)) | (with_reducible assumption)
  exact True.intro
open PySem.Calls
theorem ba_len_K {w : World} {A : Around} {E : Value → Shared → Prop} {s : Shared} {h₀ : Heap} {L D : Addr} {m : Str → Option Value} {b : Array UInt8} {ks : List Int} {Q : Value → Shared → Prop} (F : Fr h₀ L s.heap m) (hD : h₀.get? D = some (baObj b)) (hk : KBw.bInts b = ks) (hz : ks.length ≤ 100)
    (h : ∀ t k, Q (.int (ks.length : Nat) t) { s with toks := k }) : wpAny (model PG w) A (call (.builtin "len") [.ref D]) Q E s := by
  have e := KBw.ints_length b
  rw [hk] at e
  refine ba_len (F.keep _ _ hD) (by (first | k_extra "O" | omega)) fun t k => ?_
  rw [← e]
  exact h t k
section
theorem zw_C8_48 : True := by
  k_with_none
  k_with "O" => first | decide | ((with_reducible refine rmk (by assumption) ?_); rfl) | ((with_reducible refine rm0 (by assumption) ?_); rfl) | ((with_reducible refine lel (by assumption) ?_); rfl) | ((with_reducible refine llt (by assumption) ?_); rfl) | ((with_reducible refine ltt (by assumption) ?_); rfl) | ((with_reducible refine ltl (by assumption) ?_); rfl) | ((with_reducible refine ilt (by assumption) ?_); rfl) | (with_reducible exact rmz (by assumption)) | (with_reducible assumption)
  k_with "ks" => repeat' (first | (k_unfold; (try dsimp only)) | (k_end; wrow_close) | ((fail_if_success (with_reducible show wpAny _ _ (pyIter _) (fun it s₂ => LoopAtV _ _ _ _ _ _ _ _ _ it s₂) _ _)); (first | k_extra "H" | walk1)) | ((fail_if_success (with_reducible show wpAny _ _ (pyIter _) (fun it s₂ => LoopAtV _ _ _ _ _ _ _ _ _ it s₂) _ _)); dsimp only; (first | k_extra "H" | walk1)) | fail "no step")
  k_with "forhere" => (with_reducible show wpAny _ _ (pyIter _) (fun it s₂ => LoopAtV _ _ _ _ _ _ _ _ _ it s₂) _ _)
  k_with "H" => (k_here; (with_reducible show wpAny _ _ (call (Value.builtin "len") [Value.ref _]) _ _ _); k_dflt (refine' ba_len_K ?k1 ?k2 ?k3 ?k4 ?_; (case k1 => k_asm); (case k2 => with_reducible assumption); (case k3 => with_reducible assumption); (case k4 => (first | k_extra "O" | omega))); intro _ _)
  exact True.intro
set_option maxHeartbeats 4000000 in
theorem set_name_code {w : World} {mean : ExcName → Option Value} {mg mb : Str → Option Value} {dp un : Nat} {fr : Option (List Env)} {gd : Option (List Code)} {R : Result → Shared → Prop} {s : Shared} {h₀ : Heap} {x dx D : Addr} {n1 n2 n3 : Tok} {v1 v2 : Value} {v3 : Bool} {b : Array UInt8} {ks : List Int}
    (S : ∀ b o, h₀.get? b = some o → s.heap.get? b = some o) (X₀ : (Mine.hh.heap_1_39 w.params).In h₀) (T : Top Mine.hh.view_1_40 (looseW Mine.hh.view_1_40 [Str.ofString "PyFATException", Str.ofString "errno", Str.ofString "EightDotThree"]) mean mg mb h₀)
    (N : ∀ p ∈ ([(x, oneObj dx), (dx, oneD w.params n1 n2 n3 v1 v2 (.bool v3))] : List (Addr × Obj)), s.heap.get? p.1 = some p.2 ∧ h₀.get? p.1 = none)
    (hroom : dp + 10 < recursionLimit) (hD : s.heap.get? D = some (baObj b)) (hk : KBw.bInts b = ks) (hlen : ks.length = 11)
    (hR : ∀ h' tk, h'.get? dx = some (oneD w.params n1 n2 n3 (.ref D) v2 (.bool true)) → (∀ a o, a ≠ dx → s.heap.get? a = some o → h'.get? a = some o) → R (.ok (.ret .none)) { s with heap := h', toks := tk }) :
    codeAny (model PySem.Challenge.rw_kj0039_01.row.prog w) { handled := none, depth := dp, frames := fr, guards := gd, units := un } (.call (.ref 158) ⟨[.ref x, .ref D], []⟩) R s := by
  revert X₀; k_fill; intro X₀
  refine' enter (f := 158) (mm := (fun zq => List.lookup zq [(Str.ofString "name", .ref D), (Str.ofString "self", .ref x)])) S X₀ T N ?ho ?hcd ?hr ?hb ?hmm ?hloc ?_ ?c1 ?c2 ?c3 ?c4
  case ho => k_is
  case hcd => k_is
  case hr => show dp < recursionLimit; (first | k_extra "O" | omega)
  case hb => exact BindsTo.of_eq rfl
  case hmm => first | rfl | kernel_rfl | with_unfolding_all rfl
  case hloc => exact locs rfl
  case c1 => exact rfl
  case c2 => exact rfl
  case c3 => exact rfl
  case c4 => decide
  intro g L' h₁ tkA k1 k2 k3 F' N' X' T' k4 k5
  (try dsimp only)
  k_fold
  have ne1 : x ≠ D := obj_ne (N _ (.head _)).1 hD (by simp)
  have ne2 : dx ≠ D := obj_ne (N _ (.tail _ (.head _))).1 hD (by simp)
  have ne3 : x ≠ dx := obj_ne (N _ (.head _)).1 (N _ (.tail _ (.head _))).1 (by simp)
  have hg := k1 _ _ hD (by simp [Ne.symm ne1, Ne.symm ne2])
  walk_at "ks"
  · exfalso
    (rename ((_ : Int) ≠ 11) => c1)
    (first | k_extra "O" | omega)
  · (rename Fr _ _ _ _ => F9)
    (rename News _ _ _ _ => N9)
    exact hR _ _ (N9 (dx, _) (by k_mem)).1 (kept_off F9 k1 N dx (fun p hp hd => by
      rcases List.mem_cons.mp hp with rfl | hp
      · exact (N9 _ (by k_mem)).1
      · exact absurd (congrArg Prod.fst (List.mem_singleton.mp hp)) hd))
end
theorem zw_C8_49 : True := by
  k_with_none
  k_with "O" => first | decide | ((with_reducible refine rmk (by assumption) ?_); rfl) | ((with_reducible refine rm0 (by assumption) ?_); rfl) | ((with_reducible refine lel (by assumption) ?_); rfl) | ((with_reducible refine llt (by assumption) ?_); rfl) | ((with_reducible refine ltt (by assumption) ?_); rfl) | ((with_reducible refine ltl (by assumption) ?_); rfl) | ((with_reducible refine ilt (by assumption) ?_); rfl) | (with_reducible exact rmz (by assumption)) | (with_reducible assumption)
  exact True.intro
theorem set_name_K {w : World} {mean : ExcName → Option Value} {mg mb : Str → Option Value} {dp un : Nat} {fr : Option (List Env)} {gd : Option (List Code)} {E : Value → Shared → Prop} {s : Shared} {h₀ : Heap} {L : Addr} {m : Str → Option Value} {news : List (Addr × Obj)} {Q : Value → Shared → Prop} {x dx D : Addr} {n1 n2 n3 : Tok} {v1 v2 : Value} {v3 : Bool} {b : Array UInt8} {ks : List Int} {newsF : Obj → List (Addr × Obj)}
    (F : Fr h₀ L s.heap m) (X₀ : (Mine.hh.heap_1_39 w.params).In h₀) (N : News h₀ L s.heap news) (T : Top Mine.hh.view_1_40 (looseW Mine.hh.view_1_40 [Str.ofString "PyFATException", Str.ofString "errno", Str.ofString "EightDotThree"]) mean mg mb h₀) (hroom : dp + 10 < recursionLimit) (hx : (x, oneObj dx) ∈ news) (U : UpdF dx (oneD w.params n1 n2 n3 v1 v2 (.bool v3)) news newsF) (hD : s.heap.get? D = some (baObj b)) (hk : KBw.bInts b = ks) (hlen : ks.length = 11)
    (h : ∀ h' tk, Fr h₀ L h' m → News h₀ L h' (newsF (oneD w.params n1 n2 n3 (.ref D) v2 (.bool true))) → Q .none { s with heap := h', toks := tk }) :
    wpAny (model PySem.Challenge.rw_kj0039_01.row.prog w) { handled := none, depth := dp, frames := fr, guards := gd, units := un } (call (.ref 158) [.ref x, .ref D]) Q E s := by
  obtain ⟨pre, post, e1, _⟩ := U.split
  have hdx : (dx, oneD w.params n1 n2 n3 v1 v2 (.bool v3)) ∈ news := by rw [e1]; exact List.mem_append.mpr (.inr (.head _))
  refine wpAny_call (set_name_code (dx := dx) (n1 := n1) (n2 := n2) (n3 := n3) (v1 := v1) (v2 := v2) (v3 := v3) F.keep X₀ T (fun p hp => ?_) hroom hD hk hlen fun h' tk a1 a2 => ?_)
  · rcases List.mem_cons.mp hp with rfl | hp
    · exact ⟨(N _ hx).1, (N _ hx).2.2⟩
    · rw [List.mem_singleton.mp hp]; exact ⟨(N _ hdx).1, (N _ hdx).2.2⟩
  · obtain ⟨F', N'⟩ := updF_K F N U a2 a1
    exact h h' tk F' N'
end Mine
namespace Mine
theorem zr_C9 : True := by
  w_top off
  k_with_none
  k_with "O" => first | decide | ((with_reducible refine rmk (by assumption) ?_); rfl) | ((with_reducible refine rm0 (by assumption) ?_); rfl) | ((with_reducible refine lel (by assumption) ?_); rfl) | ((with_reducible refine llt (by assumption) ?_); rfl) | ((with_reducible refine ltt (by assumption) ?_); rfl) | ((with_reducible refine ltl (by assumption) ?_); rfl) | ((with_reducible refine ilt (by assumption) ?_); rfl) | (with_reducible exact rmz (by assumption)) | (with_reducible assumption)
  exact True.intro
open PySem.Calls
section
variable {M : Model} {A : Around} {E : Value → Shared → Prop} {s : Shared} {env : Env}
/-- the posts by their names, till the end. -/
theorem foldC {α : Type} {t : Sem α} {Q : α → Shared → Prop} (h : ∀ (Q' : α → Shared → Prop) (E' : Value → Shared → Prop), Q' = Q → E' = E → wpC M A t Q' E' s) : wpC M A t Q E s := h Q E rfl rfl
theorem C_execs_cons {st : Stmt} {rest : List Stmt} {Q : Flow → Shared → Prop} (h : wpC M A (exec st env) (fun f s' => match f with | .next => wpC M A (execs rest env) Q E s' | f => Q f s') E s) : wpC M A (execs (st :: rest) env) Q E s := fun Γ p hΓ hC => by
  rw [execs_cons, Sem.wp_bind']
  refine Sem.wp_mono M Γ _ (fun f p' s' h' => ?_) (fun _ _ _ h' => h') _ _ (h Γ p hΓ hC)
  cases f <;> first | exact h' Γ p' hΓ hC | exact h'
theorem C_stmt {st : Stmt} {rest : List Stmt} {Q : Flow → Shared → Prop} (h : wpAny M A (exec st env) (fun f s' => match f with | .next => wpC M A (execs rest env) Q E s' | f => Q f s') E s) : wpC M A (execs (st :: rest) env) Q E s := C_execs_cons (wpC_any h)
theorem C_Assign_Name {x pos' value pos} {Q : Flow → Shared → Prop}
    (h : wpC M A (eval value env) (fun v s₁ => wpC M A (storeName env x v) (fun _ => Q .next) E s₁) E s)
    (hs : swapsWith value (some (.Name x pos')) pos.line env = pure false := by rfl) : wpC M A (exec (.Assign [.Name x pos'] value pos) env) Q E s := fun Γ p hΓ hC => by
  simp only [exec_Assign_Name env x pos' value pos hs, Sem.wp_bind', Sem.wp_cmd_standAt, Sem.wp_bindName, Sem.wp_pure']
  exact Sem.wp_mono M Γ _ (fun v _ s₁ h₁ => h₁ Γ _ hΓ hC) (fun _ _ _ h' => h') _ _ (h Γ _ hΓ hC)
theorem C_Expr {e pos} {Q : Flow → Shared → Prop} (h : wpC M A (eval e env) (fun v s' => match v with | .ref _ => False | _ => Q .next s') E s)
    (hi : interactive env = false := by rfl) (hs : swapsWith e none pos.line env = pure false := by rfl) : wpC M A (exec (.Expr e pos) env) Q E s := by
  rw [exec_Expr env e pos hi hs]
  refine wpC_bind (wpC_any (wpAny_standAt (wpC_bind (wpC_mono h (fun v s' h' => ?_) fun _ _ x => x))))
  have hv : ∀ a, v ≠ .ref a := fun a hva => by subst hva; exact h'
  rw [dropValue_plain hv]
  refine wpC_pure ?_
  cases v <;> first | exact h' | exact (hv _ rfl).elim
theorem C_If {test body orelse pos} {Q : Flow → Shared → Prop}
    (h : wpC M A (isTrue test env (eval test env)) (fun b s₂ => if b then wpC M A (execs body env) Q E s₂ else wpC M A (execs orelse env) Q E s₂) E s) : wpC M A (exec (.If test body orelse pos) env) Q E s := fun Γ p hΓ hC => by
  simp only [exec_If, Sem.wp_bind', Sem.wp_cmd_standAt]
  refine Sem.wp_mono M Γ _ (fun b p₂ s₂ h₂ => ?_) (fun _ _ _ h' => h') _ _ (h Γ _ hΓ hC)
  cases b <;> exact h₂ Γ p₂ hΓ hC
theorem C_isTrue_Compare1 {l op r pos whole} {Q : Bool → Shared → Prop}
    (h : wpC M A (eval l env) (fun a s₁ => wpAny M A (eval r env) (fun b s₂ => wpAny M A (compareOp op a b) (fun c s₃ => wpAny M A (truthy c) Q E s₃) E s₂) E s₁) E s)
    (hm : behindInMarks op r = false := by with_unfolding_all rfl) : wpC M A (isTrue (.Compare l [op] [r] pos) env whole) Q E s := fun Γ p hΓ hC => by
  simp only [isTrue_Compare1, markedBehindIn_of_false hm, Sem.wp_bind', Sem.wp_holding, Sem.wp_cmd_standAt, Sem.wp_operate]
  exact Sem.wp_mono M Γ _ (fun a p₁ s₁ h₁ => Sem.wp_mono M Γ _ (fun b _ s₂ h₂ => Sem.wp_mono M Γ _ (fun c p₃ s₃ h₃ => h₃ Γ p₃ hΓ)
    (fun _ _ _ h' => h') _ _ (h₂ Γ _ hΓ)) (fun _ _ _ h' => h') _ _ (h₁ Γ p₁ hΓ)) (fun _ _ _ h' => h') _ _ (h Γ p hΓ hC)
theorem C_Call {func : Expr} {args : List Expr} {pos : Pos} {Q : Value → Shared → Prop}
    (h : wpAny M A (eval func env) (fun f s₁ => wpC M A (callWith pos f [] (backTo pos (starEach args env)) []) Q E s₁) E s)
    (he : eval (.Call func args [] pos) env = (do callWith pos (← eval func env) [] (backTo pos (starEach args env)) (backToKw pos (keywordEach [] env))) := by rfl) :
    wpC M A (eval (.Call func args [] pos) env) Q E s := by
  rw [he]; exact wpC_leaf h
theorem C_MethodCall {o : Expr} {name : Str} {apos pos : Pos} {args : List Expr} {pl : Sem Bool} {Q : Value → Shared → Prop}
    (h : wpAny M A (eval o env) (fun ov s₁ => wpAny M A (getMethod ov name pl) (fun fx s₂ => wpC M A (callWith pos fx.1 fx.2 (backTo pos (starEach args env)) []) Q E s₂) E s₁) E s)
    (he : eval (.Call (.Attribute o name apos) args [] pos) env = (do
      let ov ← eval o env
      standAt apos.atName
      let (f, first) ← holding [ov] (getMethod ov name pl)
      callWith pos f first (backTo pos (starEach args env)) []) := by rfl) :
    wpC M A (eval (.Call (.Attribute o name apos) args [] pos) env) Q E s := by
  rw [he]
  refine wpC_leaf (wpAny_mono h (fun ov s₁ h₁ => wpC_leaf (wpAny_standAt (wpC_leaf (wpAny_holding (wpAny_mono h₁ (fun fx s₂ h₂ => ?_) fun _ _ x => x))))) fun _ _ x => x)
  exact h₂
theorem C_tail {t : Sem Value} {Q : Value → Shared → Prop} (ht : wpC M A t Q E s) : wpC M A (t >>= fun r => holding [r] point >>= fun _ => pure r) Q E s :=
  wpC_bind (wpC_mono ht (fun r s₂ hr => wpC_any (wpAny_bind (wpAny_holding (wpAny_point (wpAny_pure hr))))) fun _ _ x => x)
theorem C_keep {α : Type} {vs : List Value} {m : Sem α} {Q : α → Shared → Prop} (h : wpC M A m Q E s) : wpC M A (m.keep vs) Q E s := fun Γ p hΓ hC => by rw [Sem.wp_keep]; exact h Γ p hΓ hC
theorem C_callWith_type1 {pos : Pos} {T : String} {e : Expr} {rest : List Expr} {Q : Value → Shared → Prop}
    (h : wpAny M A (spliced (backTo pos (starEach (e :: rest) env))) (fun vs s₁ => wpC M A (call (.type T) vs) Q E s₁) E s)
    (he : starEach (e :: rest) env = (false, eval e env) :: starEach rest env := by rfl)
    (hplain : (backTo pos (starEach rest env)).any (·.1) = false := by rfl) :
    wpC M A (callWith pos (.type T) [] (backTo pos (starEach (e :: rest) env)) []) Q E s := by
  have hp : (backTo pos (starEach (e :: rest) env)).any (·.1) = false := by
    rw [he]
    show (false || (backTo pos (starEach rest env)).any (·.1)) = false
    rw [hplain]; rfl
  unfold callWith
  refine wpC_bind (wpC_holding (wpC_any ?_))
  rw [he] at h ⊢
  refine wpAny_mono (Q := fun (x : Args) (s₁ : Shared) => wpC M A (call (.type T) x.pos x.kw) Q E s₁) (evalArgs_plain h) (fun a s₁ h₁ => wpC_leaf (wpAny_standAt ?_)) fun _ _ x => x
  rw [he] at hp
  simp only [hp, List.any_nil, Bool.or_false]
  refine wpC_leaf (wpAny_pure ?_)
  exact C_tail h₁
theorem C_callWith_fn {pos : Pos} {a : Addr} {o : Obj} {fd : FuncData} {first : List Value} {e : Expr} {rest : List Expr} {Q : Value → Shared → Prop} (hdat : o.data = .func fd)
    (h : wpAny M A (spliced (backTo pos (starEach (e :: rest) env))) (fun vs s₁ => s₁.heap.get? a = some o ∧ wpC M A (call (.ref a) (first ++ vs)) Q E s₁) E s)
    (he : starEach (e :: rest) env = (false, eval e env) :: starEach rest env := by rfl) :
    wpC M A (callWith pos (.ref a) first (backTo pos (starEach (e :: rest) env)) []) Q E s := by
  rw [he] at h ⊢
  unfold callWith
  refine wpC_bind (wpC_holding (wpC_any ?_))
  refine wpAny_mono (Q := fun (x : Args) (s₁ : Shared) => s₁.heap.get? a = some o ∧ wpC M A (call (.ref a) (first ++ x.pos) x.kw) Q E s₁) (evalArgs_plain h) (fun x s₁ h₁ => wpC_leaf (wpAny_standAt ?_)) fun _ _ x => x
  cases hs : ((backTo pos ((false, eval e env) :: starEach rest env)).any (·.1) || ([] : List (Option Str × Sem Value)).any (·.1.isNone)) <;>
    refine wpC_leaf (m := keeperOf (.ref a)) ?_ <;> unfold keeperOf <;>
    refine wpAny_bind (wpAny_load h₁.1 ?_) <;> rw [hdat] <;> refine wpAny_pure ?_
  · refine wpC_ite ?_
    split <;> first
      | exact C_tail h₁.2
      | exact C_tail (by unfold callMarked; exact C_keep h₁.2)
  · first
      | exact C_tail (by unfold callMarked; exact C_keep h₁.2)
      | exact C_tail h₁.2
theorem C_Try {body orelse : List Stmt} {h₀ : ExceptHandler} {hs : List ExceptHandler} {pos : Pos} {Q : Flow → Shared → Prop}
    (h : wpC M A (execs body env) (fun f s₁ => match f with | .next => wpC M A (execs orelse env) Q E s₁ | f => Q f s₁)
      (fun e s₁ => wpAny M A (noteFrame e env) (fun _ s₂ => wpAny M A (setFlight e none) (fun _ s₃ => wpAny M A (handleBy e env (h₀ :: hs)) Q E s₃) E s₂) E s₁) s) :
    wpC M A (exec (.Try body (h₀ :: hs) orelse [] pos) env) Q E s := by
  rw [arm_exec_Try]
  refine wpC_leaf (wpAny_standAt ?_)
  unfold tryStmt
  simp only [List.isEmpty_nil, if_true, List.isEmpty_cons, Bool.false_and, Bool.false_eq_true, if_false]
  refine wpC_bind (wpC_attempt (wpC_mono h (fun f s₁ h₁ => ?_) fun e s₁ h₁ => ?_))
  · cases f <;> first | exact h₁ | exact wpC_pure h₁
  · exact wpC_leaf (wpAny_mono h₁ (fun _ _ h₂ => wpC_leaf (wpAny_mono h₂ (fun _ _ h₃ => wpC_any h₃) fun _ _ x => x)) fun _ _ x => x)
end
section
variable {prog : Program} {w : World} {A : Around} {R : Result → Shared → Prop} {s : Shared}
theorem codeC_func {body env}
    (h : wpC (model prog w) (A.deeper env) (execs body env) (fun f s' => R (.ok (.ret (match f with | .ret v => v | _ => .none))) s')
      (fun e s' => wpAny (model prog w) (A.deeper env) (leaving env e) (fun _ s'' => R (.error e) s'') (fun e' s'' => R (.error e') s'') s') s) :
    codeC (model prog w) A (.func body env) R s := by
  refine codeC_of_tree rfl ?_
  show wpC _ (A.deeper env) (do point; match ← (execs body env).onRaise (leaving env) with | .ret v => ret v | _ => ret .none) _ _ s
  refine wpC_leaf (wpAny_point (wpC_bind (wpC_onRaise (wpC_mono h (fun f s' h' => ?_) fun _ _ h' => wpC_any h'))))
  cases f <;> exact wpC_pure h'
theorem codeC_call_function {a : Addr} {args : Args} {o : Obj} {fd : FuncData} {body : List Stmt} (hroom : A.depth < recursionLimit) (ho : s.heap.get? a = some o)
    (hd' : o.data = .func fd) (hco : fd.scope.isCoroutine = false) (hgen : fd.scope.isGenerator = false) (hbody : fd.body = .stmts body) (hcd : s.heap.CodeRec fd.code fd.qualname)
    (h : wpAny (model prog w) A.in1 (bindArgs fd args) (fun binds s₁ =>
      wpAny (model prog w) A.in1 (newFunctionEnv fd.scope fd.globals fd.closure binds (fd.qualname ++ ".<locals>.") (some a) fd.code none fd.builtins)
        (fun env s₂ => s₂.heap.NoLimit ∧ codeC (model prog w) A (.func body env) R s₂) (fun e s' => R (.error e) s') s₁) (fun e s' => R (.error e) s') s) :
    codeC (model prog w) A (.call (.ref a) args) R s := by
  refine codeC_of_tree rfl ?_
  show wpC _ A.in1 (callAny (.ref a) args) _ _ s
  simp only [callAny]
  refine wpC_leaf (wpAny_load ho ?_)
  obtain ⟨c, oc, vs, tq, hc, hoc, hdc, hq⟩ := hcd
  simp only [hd', callFunction, hco, hgen, hbody, hc]
  rw [hc] at h
  refine wpC_leaf (m := field (.ref c) 1) (wpAny_field hoc hdc hq (wpC_leaf (wpAny_pure ?_)))
  exact wpC_leaf (wpAny_mono h (fun binds s₁ h₁ => wpC_leaf (wpAny_mono h₁ (fun env s₂ h₂ => wpC_leaf (wpAny_enterFrame h₂.1 hroom
    (wpC_pure (And.intro rfl h₂.2)))) fun _ _ h' => h')) fun _ _ h' => h')
theorem codeC_call_def {a : Addr} {o : Obj} {fd : FuncData} {body : List Stmt} {args : Args} {binds : List (Str × Value)}
    (hroom : A.depth < recursionLimit) (ho : s.heap.get? a = some o) (hdata : o.data = .func fd) (hlim : s.heap.NoLimit) (hcd : s.heap.CodeRec fd.code fd.qualname)
    (hbody : fd.body = .stmts body) (hbind : BindsTo s fd args binds)
    (hcell : ∀ x ∈ fd.scope.names, x.2 ≠ .cell) (hloc : ∀ x ∈ binds, fd.scope.names.lookup x.1 = some .local)
    (h : ∀ h₀, h₀.Ns s.heap.objs.size (fun x => binds.reverse.lookup x) → (∀ b o, s.heap.get? b = some o → h₀.get? b = some o) →
      wpC (model prog w) (A.deeper (callEnv fd s.heap.objs.size a)) (execs body (callEnv fd s.heap.objs.size a)) (fun f s' => R (.ok (.ret (match f with | .ret v => v | _ => .none))) s')
        (fun e s' => wpAny (model prog w) (A.deeper (callEnv fd s.heap.objs.size a)) (leaving (callEnv fd s.heap.objs.size a) e) (fun _ s'' => R (.error e) s'') (fun e' s'' => R (.error e') s'') s')
        { s with heap := h₀, toks := s.toks + binds.length })
    (hco : fd.scope.isCoroutine = false := by rfl) (hgen : fd.scope.isGenerator = false := by rfl) (hk : fd.scope.kind = .function := by rfl) :
    codeC (model prog w) A (.call (.ref a) args) R s := by
  refine codeC_call_function hroom ho hdata hco hgen hbody hcd (hbind _ _ _ _ ?_)
  refine wpAny_newFunctionEnv hcell hloc (fun h₀ hns₀ hsb₀ => ⟨hlim.fresh _ hsb₀, codeC_func (h h₀ hns₀ fun b o e => ?_)⟩) hk
  exact hsb₀.extBut b o (Nat.ne_of_lt (Heap.lt_size e)) (Heap.get?_push_of_some _ e)
end
theorem enterC {w : World} {mean : ExcName → Option Value} {mg mb : Str → Option Value} {A : Around} {R : Result → Shared → Prop} {s : Shared} {h₀ : Heap} {news : List (Addr × Obj)} {f : Addr}
    {name qual : Str} {params : Arguments} {body : List Stmt} {scope : Scope} {dV kV doc pm cdv ct oc : Value} {an od : Option Addr} {osl : Array (Option Value)} {args : Args} {binds : List (Str × Value)} {mm : Str → Option Value}
    (S : ∀ b o, h₀.get? b = some o → s.heap.get? b = some o) (X₀ : (Mine.hh.heap_1_39 w.params).In h₀) (T : Top Mine.hh.view_1_40 (looseW Mine.hh.view_1_40 [Str.ofString "PyFATException", Str.ofString "errno", Str.ofString "EightDotThree"]) mean mg mb h₀)
    (N : ∀ p ∈ news, s.heap.get? p.1 = some p.2 ∧ h₀.get? p.1 = none)
    (ho : (Mine.hh.heap_1_39 w.params).lookup f = some ⟨oc, od, .func (fnOf name qual params body scope dV kV doc pm an cdv ct), osl⟩) (hcd : codeIn (Mine.hh.heap_1_39 w.params) cdv qual = true) (hroom : A.depth < recursionLimit)
    (hbind : BindsTo s (fnOf name qual params body scope dV kV doc pm an cdv ct) args binds) (hmm : (fun y => binds.reverse.lookup y) = mm) (hloc : ∀ y ∈ binds, scope.names.lookup y.1 = some .local)
    (h : ∀ g L' h₁ tk, (∀ b o, s.heap.get? b = some o → b ∉ news.map (·.1) → g.get? b = some o) → (∀ b o, g.get? b = some o → s.heap.get? b = some o) → h₀.StaysIn g →
      Fr g L' h₁ mm → News g L' h₁ news → (Mine.hh.heap_1_39 w.params).In g → Top Mine.hh.view_1_40 (looseW Mine.hh.view_1_40 [Str.ofString "PyFATException", Str.ofString "errno", Str.ofString "EightDotThree"]) mean mg mb g → (∀ p ∈ news, p.1 < L') → L' = s.heap.objs.size →
      wpC (model PySem.Challenge.rw_kj0039_01.row.prog w) (A.deeper (envOf qual scope L' f cdv)) (execs body (envOf qual scope L' f cdv))
        (fun fl s' => R (.ok (.ret (match fl with | .ret v => v | _ => .none))) s')
        (fun e s' => wpAny (model PySem.Challenge.rw_kj0039_01.row.prog w) (A.deeper (envOf qual scope L' f cdv)) (leaving (envOf qual scope L' f cdv) e) (fun _ s'' => R (.error e) s'') (fun e' s'' => R (.error e') s'') s')
        { s with heap := h₁, toks := tk })
    (hco : scope.isCoroutine = false) (hgen : scope.isGenerator = false) (hk : scope.kind = .function)
    (hcell : ∀ x ∈ scope.names, x.2 ≠ .cell) : codeC (model PySem.Challenge.rw_kj0039_01.row.prog w) A (.call (.ref f) args) R s := by
  subst hmm
  have st : h₀.StaysIn (hideAll s.heap (news.map (·.1))) := fun b o e => hideAll_get _ (S b o e) fun hm => by
    obtain ⟨p, hp, rfl⟩ := List.mem_map.mp hm
    rw [(N p hp).2] at e; cases e
  have X : (Mine.hh.heap_1_39 w.params).In s.heap := X₀.keeps S
  refine codeC_call_def (fd := fnOf name qual params body scope dV kV doc pm an cdv ct) (body := body) (binds := binds) hroom (X _ _ ho) rfl (T.nolimit.keeps S) (codeRec_of X hcd) rfl hbind hcell hloc (fun h₁ hns hk₁ => ?_) hco hgen hk
  exact h _ s.heap.objs.size h₁ _ (fun b o e n => hideAll_get _ e n) (fun b o e => of_hideAll _ e) st ⟨hns, fun b o e => hk₁ b o (of_hideAll _ e), Nat.le_of_eq (hideAll_size _ _)⟩
    (fun p hp => ⟨hk₁ _ _ (N p hp).1, Nat.ne_of_lt (Heap.lt_size (N p hp).1), hideAll_none _ (List.mem_map_of_mem hp)⟩) (X₀.keeps st) (T.keeps st) (fun p hp => Heap.lt_size (N p hp).1) rfl
end Mine
namespace Mine
theorem zr_C10 : True := by
  w_top off
  k_with_none
  k_with "O" => first | decide | ((with_reducible refine rmk (by assumption) ?_); rfl) | ((with_reducible refine rm0 (by assumption) ?_); rfl) | ((with_reducible refine lel (by assumption) ?_); rfl) | ((with_reducible refine llt (by assumption) ?_); rfl) | ((with_reducible refine ltt (by assumption) ?_); rfl) | ((with_reducible refine ltl (by assumption) ?_); rfl) | ((with_reducible refine ilt (by assumption) ?_); rfl) | (with_reducible exact rmz (by assumption)) | (with_reducible assumption)
  exact True.intro
open PySem.Calls
/-- the value is of no such type, in every heap that holds g. -/
noncomputable def NotInst (w : World) (T : String) (v : Value) (g : Heap) : Prop := ∀ (A : Around) (E : Value → Shared → Prop) (Q : Value → Shared → Prop) (s : Shared), g.StaysIn s.heap → (Mine.hh.heap_1_39 w.params).In s.heap → (∀ tk, Q (.bool false) { s with toks := tk }) → wpAny (model PG w) A (call (.builtin "isinstance") [v, .type T]) Q E s
theorem NotInst.mono {w : World} {T : String} {v : Value} {g g' : Heap} (h : NotInst w T v g) (k : g.StaysIn g') : NotInst w T v g' := fun A E Q s S X q => h A E Q s (fun b o e => S b o (k b o e)) X q
section
variable {w : World} {g : Heap}
theorem nib_none : NotInst w "bytes" .none g := by
  intro A E Q s S X q
  have X₀ := X
  walk1
  exact q _
theorem nib_int {i : Int} {t : Tok} : NotInst w "bytes" (.int i t) g := by
  intro A E Q s S X q
  have X₀ := X
  walk1
  exact q _
theorem nib_bool {b : Bool} : NotInst w "bytes" (.bool b) g := by
  intro A E Q s S X q
  have X₀ := X
  walk1
  exact q _
theorem nib_str {x : Str} {t : Tok} : NotInst w "bytes" (.str x t) g := by
  intro A E Q s S X q
  have X₀ := X
  walk1
  exact q _
theorem nib_list {l : Addr} {vs : Array Value} (hl : g.IsList l vs) : NotInst w "bytes" (.ref l) g := fun A E Q s S X q => IsiPair.isList_bytes hl S (q _)
theorem nis_none : NotInst w "str" .none g := by
  intro A E Q s S X q
  have X₀ := X
  walk1
  exact q _
theorem nis_int {i : Int} {t : Tok} : NotInst w "str" (.int i t) g := by
  intro A E Q s S X q
  have X₀ := X
  walk1
  exact q _
theorem nis_bool {b : Bool} : NotInst w "str" (.bool b) g := by
  intro A E Q s S X q
  have X₀ := X
  walk1
  exact q _
theorem nis_bytes {x : Array UInt8} {t : Tok} : NotInst w "str" (.bytes x t) g := by
  intro A E Q s S X q
  obtain ⟨hh, gg, d, tk, os⟩ := s
  refine call_isinstance_of (isinstance_nested_false_bytes (by decide) rfl (by rw [isSubtype_type]; kernel_rfl) (q _))
theorem nis_list {l : Addr} {vs : Array Value} (hl : g.IsList l vs) : NotInst w "str" (.ref l) g := fun A E Q s S X q => IsiPair.isList_str hl S (q _)
end
section
theorem zw_C10_50 : True := by
  k_with_none
  k_with "O" => first | decide | ((with_reducible refine rmk (by assumption) ?_); rfl) | ((with_reducible refine rm0 (by assumption) ?_); rfl) | ((with_reducible refine lel (by assumption) ?_); rfl) | ((with_reducible refine llt (by assumption) ?_); rfl) | ((with_reducible refine ltt (by assumption) ?_); rfl) | ((with_reducible refine ltl (by assumption) ?_); rfl) | ((with_reducible refine ilt (by assumption) ?_); rfl) | (with_reducible exact rmz (by assumption)) | (with_reducible assumption)
  k_with "ks" => repeat' (first | (k_unfold; (try dsimp only)) | (k_end; wrow_close) | ((fail_if_success (with_reducible show wpAny _ _ (pyIter _) (fun it s₂ => LoopAtV _ _ _ _ _ _ _ _ _ it s₂) _ _)); (first | k_extra "H" | walk1)) | ((fail_if_success (with_reducible show wpAny _ _ (pyIter _) (fun it s₂ => LoopAtV _ _ _ _ _ _ _ _ _ it s₂) _ _)); dsimp only; (first | k_extra "H" | walk1)) | fail "no step")
  k_with "forhere" => (with_reducible show wpAny _ _ (pyIter _) (fun it s₂ => LoopAtV _ _ _ _ _ _ _ _ _ it s₂) _ _)
  k_with "H" => ((with_reducible show wpAny _ _ (call (Value.builtin "isinstance") _) _ _ _); ((rename Fr _ _ _ _ => zzFz); (rename NotInst _ _ _ _ => zzHz); refine zzHz _ _ _ _ zzFz.keep ((by assumption : (Mine.hh.heap_1_39 _).In _).keeps zzFz.keep) ?_; intro _))
  exact True.intro
set_option maxHeartbeats 4000000 in
theorem setb_type_code {w : World} {mean : ExcName → Option Value} {mg mb : Str → Option Value} {dp un : Nat} {fr : Option (List Env)} {gd : Option (List Code)} {R : Result → Shared → Prop} {s : Shared} {h₀ : Heap} {outer : List Env} {x : Addr} {v : Value}
    (S : ∀ b o, h₀.get? b = some o → s.heap.get? b = some o) (X₀ : (Mine.hh.heap_1_39 w.params).In h₀) (T : Top Mine.hh.view_1_40 (looseW Mine.hh.view_1_40 [Str.ofString "PyFATException", Str.ofString "errno", Str.ofString "EightDotThree"]) mean mg mb h₀)
    (N : ∀ p ∈ ([] : List (Addr × Obj)), s.heap.get? p.1 = some p.2 ∧ h₀.get? p.1 = none)
    (hroom : dp + 10 < recursionLimit) (hfr : fr = some outer) (hfun : s.heap.FunFrames h₀ outer) (hv : NotInst w "bytes" v s.heap)
    (hR : ∀ h' e tk dct B, Thrown outer s.heap h' e (.type "TypeError") dct B → R (.error (.ref e)) { s with heap := h', toks := tk }) :
    codeAny (model PySem.Challenge.rw_kj0039_01.row.prog w) { handled := none, depth := dp, frames := fr, guards := gd, units := un } (.call (.ref 165) ⟨[.ref x, v], []⟩) R s := by
  revert X₀; k_fill; intro X₀
  refine' enter (f := 165) (mm := (fun zq => List.lookup zq [(Str.ofString "name", v), (Str.ofString "self", .ref x)])) S X₀ T N ?ho ?hcd ?hr ?hb ?hmm ?hloc ?_ ?c1 ?c2 ?c3 ?c4
  case ho => k_is
  case hcd => k_is
  case hr => show dp < recursionLimit; (first | k_extra "O" | omega)
  case hb => exact BindsTo.of_eq rfl
  case hmm => first | rfl | kernel_rfl | with_unfolding_all rfl
  case hloc => exact locs rfl
  case c1 => exact rfl
  case c2 => exact rfl
  case c3 => exact rfl
  case c4 => decide
  intro g L' h₁ tkA k1 k2 k3 F' N' X' T' k4 k5
  (try dsimp only)
  k_fold
  have hvg : NotInst w "bytes" v g := hv.mono fun b o e => k1 b o e List.not_mem_nil
  clear hv
  walk_at "ks"
  (rename Heap.NewExc _ _ _ _ => x2)
  (rename Fr _ _ _ _ => F9)
  have F10 := F9.keptAll x2.keeps
  subst hfr
  have kc := kept_all F9 k1 N (fun p hp => absurd hp List.not_mem_nil)
  have kk := kept_all F10 k1 N (fun p hp => absurd hp List.not_mem_nil)
  have he := size_fresh (n := 0) kc x2.new
  obtain ⟨ob, t3, y1, y2, y3⟩ := x2.there
  obtain ⟨cls, dct, dat, sl⟩ := ob
  dsimp only at y2 y3
  subst y2 y3
  refine leave_made (Around.frames_deeper rfl) rfl (fun_here F10 k3 hfun kk rfl) kk (top_none _ k5) he y1 rfl fun h' B th hB => ?_
  exact hR h' _ _ _ B th
set_option maxHeartbeats 4000000 in
theorem sets_type_code {w : World} {mean : ExcName → Option Value} {mg mb : Str → Option Value} {dp un : Nat} {fr : Option (List Env)} {gd : Option (List Code)} {R : Result → Shared → Prop} {s : Shared} {h₀ : Heap} {outer : List Env} {x : Addr} {v : Value}
    (S : ∀ b o, h₀.get? b = some o → s.heap.get? b = some o) (X₀ : (Mine.hh.heap_1_39 w.params).In h₀) (T : Top Mine.hh.view_1_40 (looseW Mine.hh.view_1_40 [Str.ofString "PyFATException", Str.ofString "errno", Str.ofString "EightDotThree"]) mean mg mb h₀)
    (N : ∀ p ∈ ([] : List (Addr × Obj)), s.heap.get? p.1 = some p.2 ∧ h₀.get? p.1 = none)
    (hroom : dp + 10 < recursionLimit) (hfr : fr = some outer) (hfun : s.heap.FunFrames h₀ outer) (hv : NotInst w "str" v s.heap)
    (hR : ∀ h' e tk dct B, Thrown outer s.heap h' e (.type "TypeError") dct B → R (.error (.ref e)) { s with heap := h', toks := tk }) :
    codeAny (model PySem.Challenge.rw_kj0039_01.row.prog w) { handled := none, depth := dp, frames := fr, guards := gd, units := un } (.call (.ref 172) ⟨[.ref x, v], []⟩) R s := by
  revert X₀; k_fill; intro X₀
  refine' enter (f := 172) (mm := (fun zq => List.lookup zq [(Str.ofString "name", v), (Str.ofString "self", .ref x)])) S X₀ T N ?ho ?hcd ?hr ?hb ?hmm ?hloc ?_ ?c1 ?c2 ?c3 ?c4
  case ho => k_is
  case hcd => k_is
  case hr => show dp < recursionLimit; (first | k_extra "O" | omega)
  case hb => exact BindsTo.of_eq rfl
  case hmm => first | rfl | kernel_rfl | with_unfolding_all rfl
  case hloc => exact locs rfl
  case c1 => exact rfl
  case c2 => exact rfl
  case c3 => exact rfl
  case c4 => decide
  intro g L' h₁ tkA k1 k2 k3 F' N' X' T' k4 k5
  (try dsimp only)
  k_fold
  have hvg : NotInst w "str" v g := hv.mono fun b o e => k1 b o e List.not_mem_nil
  clear hv
  walk_at "ks"
  (rename Heap.NewExc _ _ _ _ => x2)
  (rename Fr _ _ _ _ => F9)
  have F10 := F9.keptAll x2.keeps
  subst hfr
  have kc := kept_all F9 k1 N (fun p hp => absurd hp List.not_mem_nil)
  have kk := kept_all F10 k1 N (fun p hp => absurd hp List.not_mem_nil)
  have he := size_fresh (n := 0) kc x2.new
  obtain ⟨ob, t3, y1, y2, y3⟩ := x2.there
  obtain ⟨cls, dct, dat, sl⟩ := ob
  dsimp only at y2 y3
  subst y2 y3
  refine leave_made (Around.frames_deeper rfl) rfl (fun_here F10 k3 hfun kk rfl) kk (top_none _ k5) he y1 rfl fun h' B th hB => ?_
  exact hR h' _ _ _ B th
end
end Mine
namespace Mine
theorem zr_C11 : True := by
  w_top off
  k_with_none
  k_with "O" => first | decide | ((with_reducible refine rmk (by assumption) ?_); rfl) | ((with_reducible refine rm0 (by assumption) ?_); rfl) | ((with_reducible refine lel (by assumption) ?_); rfl) | ((with_reducible refine llt (by assumption) ?_); rfl) | ((with_reducible refine ltt (by assumption) ?_); rfl) | ((with_reducible refine ltl (by assumption) ?_); rfl) | ((with_reducible refine ilt (by assumption) ?_); rfl) | (with_reducible exact rmz (by assumption)) | (with_reducible assumption)
  exact True.intro
open PySem.Calls
theorem new_of {h g : Heap} {e : Addr} {news : List (Addr × Obj)} (k1 : ∀ b o, h.get? b = some o → b ∉ news.map (·.1) → g.get? b = some o) (hg : g.get? e = none) (hn : e ∉ news.map (·.1)) : h.get? e = none := by
  cases q : h.get? e with
  | none => rfl
  | some o => rw [k1 _ _ q hn] at hg; cases hg
theorem ba_lenN {w : World} {A : Around} {E : Value → Shared → Prop} {s : Shared} {h₀ : Heap} {L D : Addr} {news : List (Addr × Obj)} {b : Array UInt8} {ks : List Int} {Q : Value → Shared → Prop} (N : News h₀ L s.heap news) (hD : (D, baObj b) ∈ news) (hk : KBw.bInts b = ks) (hz : ks.length ≤ 100)
    (h : ∀ t k, Q (.int (ks.length : Nat) t) { s with toks := k }) : wpAny (model PG w) A (call (.builtin "len") [.ref D]) Q E s := by
  have e := KBw.ints_length b
  rw [hk] at e
  refine ba_len (N _ hD).1 (by (first | k_extra "O" | omega)) fun t k => ?_
  rw [← e]
  exact h t k
theorem ba_make_K {w : World} {A : Around} {E : Value → Shared → Prop} {s : Shared} {h₀ : Heap} {L : Addr} {m : Str → Option Value} {news : List (Addr × Obj)} {b : Array UInt8} {ks : List Int} {t : Tok} {Q : Value → Shared → Prop} (F : Fr h₀ L s.heap m) (N : News h₀ L s.heap news) (hk : KBw.bInts b = ks) (hz : ks.length ≤ 1000)
    (h : ∀ h' D, Fr h₀ L h' m → News h₀ L h' ((D, baObj b) :: news) → (∀ p ∈ news, p.1 ≠ D) → s.heap.get? D = none → Q (.ref D) { s with heap := h' }) : wpC (model PG w) A (call (.type "bytearray") [.bytes b t]) Q E s := by
  have e := KBw.ints_length b
  rw [hk] at e
  obtain ⟨hh, g, d, tk, os⟩ := s
  refine ba_make (by (first | k_extra "O" | omega)) fun h' e1 e2 => ?_
  have hn : hh.get? hh.objs.size = none := Heap.get?_none_of_le (Nat.le_refl _)
  obtain ⟨F', N', ne⟩ := fresh_K (D := hh.objs.size) F N e2 hn e1
  exact h h' _ F' N' ne hn
theorem set_name_N {w : World} {mean : ExcName → Option Value} {mg mb : Str → Option Value} {dp un : Nat} {fr : Option (List Env)} {gd : Option (List Code)} {E : Value → Shared → Prop} {s : Shared} {h₀ : Heap} {L : Addr} {m : Str → Option Value} {news : List (Addr × Obj)} {Q : Value → Shared → Prop} {x dx D : Addr} {n1 n2 n3 : Tok} {v1 v2 : Value} {v3 : Bool} {b : Array UInt8} {ks : List Int} {newsF : Obj → List (Addr × Obj)}
    (F : Fr h₀ L s.heap m) (X₀ : (Mine.hh.heap_1_39 w.params).In h₀) (N : News h₀ L s.heap news) (T : Top Mine.hh.view_1_40 (looseW Mine.hh.view_1_40 [Str.ofString "PyFATException", Str.ofString "errno", Str.ofString "EightDotThree"]) mean mg mb h₀) (hroom : dp + 10 < recursionLimit) (hx : (x, oneObj dx) ∈ news) (U : UpdF dx (oneD w.params n1 n2 n3 v1 v2 (.bool v3)) news newsF) (hD : (D, baObj b) ∈ news) (hk : KBw.bInts b = ks) (hlen : ks.length = 11)
    (h : ∀ h' tk, Fr h₀ L h' m → News h₀ L h' (newsF (oneD w.params n1 n2 n3 (.ref D) v2 (.bool true))) → Q .none { s with heap := h', toks := tk }) :
    wpAny (model PySem.Challenge.rw_kj0039_01.row.prog w) { handled := none, depth := dp, frames := fr, guards := gd, units := un } (call (.ref 158) [.ref x, .ref D]) Q E s := by
  exact set_name_K F X₀ N T hroom hx U (N _ hD).1 hk hlen h
section
theorem zw_C11_51 : True := by
  k_with_none
  k_with "O" => first | decide | ((with_reducible refine rmk (by assumption) ?_); rfl) | ((with_reducible refine rm0 (by assumption) ?_); rfl) | ((with_reducible refine lel (by assumption) ?_); rfl) | ((with_reducible refine llt (by assumption) ?_); rfl) | ((with_reducible refine ltt (by assumption) ?_); rfl) | ((with_reducible refine ltl (by assumption) ?_); rfl) | ((with_reducible refine ilt (by assumption) ?_); rfl) | (with_reducible exact rmz (by assumption)) | (with_reducible assumption)
  k_with "ks" => repeat' (first | (k_unfold; (try dsimp only)) | (k_end; wrow_close) | ((fail_if_success (with_reducible show wpAny _ _ (pyIter _) (fun it s₂ => LoopAtV _ _ _ _ _ _ _ _ _ it s₂) _ _)); (first | k_extra "H" | walk1)) | ((fail_if_success (with_reducible show wpAny _ _ (pyIter _) (fun it s₂ => LoopAtV _ _ _ _ _ _ _ _ _ it s₂) _ _)); dsimp only; (first | k_extra "H" | walk1)) | fail "no step")
  k_with "forhere" => (with_reducible show wpAny _ _ (pyIter _) (fun it s₂ => LoopAtV _ _ _ _ _ _ _ _ _ it s₂) _ _)
  k_with "H" => (k_here; (with_reducible show wpAny _ _ (call (Value.ref 90) _) _ _ _); k_dflt (refine' decoded_K ?k1 ?k2 ?k3 ?k4 ?k5 ?k9 ?k6 ?k7 ?_; (case k1 => k_asm); (case k2 => k_asm); (case k3 => k_asm); (case k4 => k_asm); (case k5 => (dsimp only [Around.deeper]; (first | k_extra "O" | omega))); (case k9 => k_mem); (case k6 => with_reducible assumption); (case k7 => (first | k_extra "O" | omega)); k_whole); intro _ _ _ _ _ _ _ _)
  k_with "H" => (k_here; (with_reducible show wpAny _ _ (subscriptTail _ _ (Value.ref _) (Value.int _ _)) _ _ _); k_dflt (refine' ba_item_K ?k1 ?k2 ?k3 ?k4 ?k5 ?k6 ?_; (case k1 => k_asm); (case k2 => k_mem); (case k3 => with_reducible assumption); (case k4 => (first | k_extra "O" | omega)); (case k5 => (first | k_extra "O" | omega)); (case k6 => (first | k_extra "O" | omega))); intro _ _ _ _)
  k_with "H" => (k_here; (with_reducible show wpAny _ _ (subscriptTail _ (Expr.Slice none _ none _) (Value.ref _) (Value.ref _)) _ _ _); (with_reducible rename Fr _ _ _ _ => zzF); (with_reducible rename News _ _ _ _ => zzN); k_dflt (refine' ba_head (s := ⟨_, _, _, _, _⟩) zzF zzN ?k1 ?k2 ?k3 ?_; (case k1 => k_mem); (case k2 => with_reducible assumption); (case k3 => (first | k_extra "O" | omega))); intro _ _ _ _ zzF zzN _ _ _ _)
  k_with "H" => (k_here; (with_reducible show wpAny _ _ (subscriptTail _ (Expr.Slice (some _) _ none _) (Value.ref _) (Value.ref _)) _ _ _); (with_reducible rename Fr _ _ _ _ => zzF); (with_reducible rename News _ _ _ _ => zzN); k_dflt (refine' ba_mid (s := ⟨_, _, _, _, _⟩) zzF zzN ?k1 ?k2 ?k3 ?_; (case k1 => k_mem); (case k2 => with_reducible assumption); (case k3 => (first | k_extra "O" | omega))); intro _ _ _ _ zzF zzN _ _ _ _)
  k_with "H" => (k_here; (with_reducible show wpAny _ _ (setItem (Value.ref _) (Value.int _ _) (Value.int _ _)) _ _ _); k_dflt (refine' ba_setN ?k1 ?k2 ?k3 ?k4 ?k5 ?k6 ?k7 ?k8 ?_; (case k1 => k_asm); (case k2 => k_asm); (case k3 => k_updF); (case k4 => with_reducible assumption); (case k5 => (first | k_extra "O" | omega)); (case k6 => (first | k_extra "O" | omega)); (case k7 => (first | k_extra "O" | omega)); (case k8 => (first | k_extra "O" | omega))); intro _ _ _ _ zzN _ _ _; (try dsimp only at zzN); (try k_sweep))
  k_with "H" => (k_here; (with_reducible show wpAny _ _ (call (Value.builtin "len") [Value.ref _]) _ _ _); k_dflt (refine' ba_lenN ?k1 ?k2 ?k3 ?k4 ?_; (case k1 => k_asm); (case k2 => k_mem); (case k3 => with_reducible assumption); (case k4 => (first | k_extra "O" | omega))); intro _ _)
  k_with "H" => (k_here; (with_reducible show wpAny _ _ (call (Value.ref 63) _ _) _ _ _); k_dflt (refine' make63_kw ?k1 ?k2 ?k3 ?k4 ?k5 ?_; (case k1 => k_asm); (case k2 => k_asm); (case k3 => k_asm); (case k4 => k_asm); (case k5 => (dsimp only [Around.deeper]; (first | k_extra "O" | omega))); k_whole); intro _ _ _ _ _ _ _ _ _ _ _ _ _ _)
  k_with "H" => ((with_reducible show wpAny _ _ (exec (Stmt.Raise (some (Expr.Call (Expr.Name (PySem.Str.ofString "NotAFatEntryException") _) _ _ _)) none _) _) _ _ _); refine raise_own rfl ?_)
  k_with "H" => (k_here; (with_reducible show wpAny _ _ (call (Value.ref 158) _) _ _ _); k_dflt (refine' set_name_N ?k1 ?k2 ?k3 ?k4 ?k5 ?k6 ?k7 ?k8 ?k9 ?c1 ?_; (case k1 => k_asm); (case k2 => k_asm); (case k3 => k_asm); (case k4 => k_asm); (case k5 => (dsimp only [Around.deeper]; (first | k_extra "O" | omega))); (case k6 => k_mem); (case k7 => k_updF); (case k8 => k_mem); (case k9 => with_reducible assumption); (case c1 => (first | k_extra "O" | omega)); k_whole); intro _ _ _ zzN; (try dsimp only at zzN); (try k_sweep))
  exact True.intro
set_option maxHeartbeats 4000000 in
theorem setb_code {w : World} {mean : ExcName → Option Value} {mg mb : Str → Option Value} {dp un : Nat} {fr : Option (List Env)} {gd : Option (List Code)} {R : Result → Shared → Prop} {s : Shared} {h₀ : Heap} {outer : List Env} {x dx : Addr} {n1 n2 n3 : Tok} {v1 v2 : Value} {v3 : Bool} {b : Array UInt8} {ks : List Int} {t : Tok}
    (S : ∀ b o, h₀.get? b = some o → s.heap.get? b = some o) (X₀ : (Mine.hh.heap_1_39 w.params).In h₀) (T : Top Mine.hh.view_1_40 (looseW Mine.hh.view_1_40 [Str.ofString "PyFATException", Str.ofString "errno", Str.ofString "EightDotThree"]) mean mg mb h₀)
    (N : ∀ p ∈ ([(x, oneObj dx), (dx, oneD w.params n1 n2 n3 v1 v2 (.bool v3))] : List (Addr × Obj)), s.heap.get? p.1 = some p.2 ∧ h₀.get? p.1 = none)
    (hroom : dp + 20 < recursionLimit) (hfr : fr = some outer) (hfun : s.heap.FunFrames h₀ outer) (hk : KBw.bInts b = ks) (hlen : ks.length ≤ 30)
    (hR : (ks.length ≠ 11 → ∀ h' e tk dct B, Thrown outer s.heap h' e (.type "ValueError") dct B → R (.error (.ref e)) { s with heap := h', toks := tk }) ∧ (ks.length = 11 → (ks.getD 0 0 = 0 ∨ ks.getD 0 0 = 229) → ∀ h' e d tk n u B, Thrown outer s.heap h' e (.ref 63) (some d) B → B.get? d = some (dictOf [⟨PyData.keyHash w.params "free_type", .str "free_type" n, .int (ks.getD 0 0) u⟩] 1) → s.heap.get? d = none → R (.error (.ref e)) { s with heap := h', toks := tk }) ∧ (ks.length = 11 → (ks.getD 0 0 ≠ 0 ∧ ks.getD 0 0 ≠ 229) → ∀ h' tk D, s.heap.get? D = none → h'.get? D = some (baObj b) → h'.get? dx = some (oneD w.params n1 n2 n3 (.ref D) v2 (.bool true)) → (∀ a o, a ≠ dx → s.heap.get? a = some o → h'.get? a = some o) → R (.ok (.ret .none)) { s with heap := h', toks := tk })) :
    codeC (model PySem.Challenge.rw_kj0039_01.row.prog w) { handled := none, depth := dp, frames := fr, guards := gd, units := un } (.call (.ref 165) ⟨[.ref x, .bytes b t], []⟩) R s := by
  revert X₀; k_fill; intro X₀
  refine' enterC (f := 165) (mm := (fun zq => List.lookup zq [(Str.ofString "name", .bytes b t), (Str.ofString "self", .ref x)])) S X₀ T N ?ho ?hcd ?hr ?hb ?hmm ?hloc ?_ ?c1 ?c2 ?c3 ?c4
  case ho => k_is
  case hcd => k_is
  case hr => show dp < recursionLimit; (first | k_extra "O" | omega)
  case hb => exact BindsTo.of_eq rfl
  case hmm => first | rfl | kernel_rfl | with_unfolding_all rfl
  case hloc => exact locs rfl
  case c1 => exact rfl
  case c2 => exact rfl
  case c3 => exact rfl
  case c4 => decide
  intro g L' h₁ tkA k1 k2 k3 F' N' X' T' k4 k5
  (try dsimp only)
  refine foldC fun qz ez hqz hez => ?_
  have ne3 : x ≠ dx := obj_ne (N _ (.head _)).1 (N _ (.tail _ (.head _))).1 (by simp)
  refine C_stmt ?_
  (try k_fold)
  walk_at "ks"
  refine C_execs_cons (C_Assign_Name (C_Call ?_))
  (try k_fold)
  walk_at "ks"
  refine C_callWith_type1 ?_
  (try k_fold)
  walk_at "ks"
  (rename Fr _ _ _ _ => F9)
  (rename News _ _ _ _ => N9)
  refine ba_make_K F9 N9 hk (by (first | k_extra "O" | omega)) fun h' D F' N' l1 hDn => ?_
  have hDs := size_fresh (n := 0) (kept_all F9 k1 N (fun p hp => (N9 p hp).1)) hDn
  have d1 : x ≠ D := l1 _ (.head _)
  have d2 : dx ≠ D := l1 _ (.tail _ (.head _))
  refine wpC_any ?_
  (try k_fold)
  walk_at "ks"
  refine wpC_any ?_
  (try k_fold)
  walk_at "ks"
  · (rename Heap.NewExc _ _ _ _ => x2)
    (rename Fr _ _ _ _ => F9)
    (rename News _ _ _ _ => N9)
    (rename ((_ : Int) ≠ 11) => c1)
    have F10 := F9.keptAll x2.keeps
    subst hfr
    have kc := kept_all F9 k1 N (fun p hp => (N9 p (.tail _ hp)).1)
    have kk := kept_all F10 k1 N (fun p hp => x2.keeps _ _ (N9 p (.tail _ hp)).1)
    have he := size_fresh (n := 0) kc x2.new
    obtain ⟨ob, t3, y1, y2, y3⟩ := x2.there
    obtain ⟨cls, dct, dat, sl⟩ := ob
    dsimp only at y2 y3
    subst y2 y3
    rw [hez]
    (try dsimp only)
    refine leave_made (Around.frames_deeper rfl) rfl (fun_here F10 k3 hfun kk rfl) kk (top_none _ k5) he y1 rfl fun h' B th hB => ?_
    exact hR.1 (by (first | k_extra "O" | omega)) h' _ _ _ B th
  iterate 2
    · rename_i e9 d9 t9 tk9 n9 F9 N9 l1 l2 l3 l4 l5 l6
      obtain ⟨y1, y2, y3⟩ := N9 _ (.head _)
      obtain ⟨z1, z2, z3⟩ := N9 _ (.tail _ (.head _))
      have X9 := X'.keeps F9.keep
      refine ⟨_, _, _, _, rfl, ExcC.of X9 (by k_is) (by rfl) (by rfl) (by rfl) (by k_is) (by k_is), y1, ?_⟩
      (try k_unfold)
      (try dsimp only)
      subst hfr
      have kk := kept_all F9 k1 N (fun p hp => (N9 p (.tail _ (.tail _ (.tail _ hp)))).1)
      have he := new_of k1 y3 (fun m => by
        obtain ⟨p, hp, e⟩ := List.mem_map.mp m
        exact l1 p (.tail _ hp) e)
      have hd := new_of k1 z3 (fun m => by
        obtain ⟨p, hp, e⟩ := List.mem_map.mp m
        exact l2 p (.tail _ hp) e)
      rw [hez]
      (try dsimp only)
      refine leave_made (Around.frames_deeper rfl) rfl (fun_here F9 k3 hfun kk rfl) kk (top_none _ k5) he y1 rfl fun h' B th hB => ?_
      exact hR.2.1 (by (first | k_extra "O" | omega)) (by first | exact .inl (by assumption) | exact .inr (by assumption)) h' _ _ _ _ _ B th (hB _ _ z1 l3 (off_new rfl hfun hd z2)) hd
  · (rename Fr _ _ _ _ => F9)
    (rename News _ _ _ _ => N9)
    refine' set_name_N F9 X' N9 T' ?k5 ?k6 ?k7 ?k8 hk ?k9 ?_
    case k5 => (dsimp only [Around.deeper]; (first | k_extra "O" | omega))
    case k6 => k_mem
    case k7 => exact UpdF.tail (Ne.symm d2) (UpdF.tail ne3 (UpdF.head (List.forall_mem_nil _)))
    case k8 => k_mem
    case k9 => (first | k_extra "O" | omega)
    intro h5 tk5 F5 N5
    walk_at "ks"
    rw [hqz]
    (try dsimp only)
    exact hR.2.2 (by (first | k_extra "O" | omega)) ⟨by assumption, by assumption⟩ _ _ D hDs (N5 (D, baObj b) (.head _)).1 (N5 (dx, _) (.tail _ (.tail _ (.head _)))).1 (kept_off F5 k1 N dx (fun p hp hd => by
      rcases List.mem_cons.mp hp with rfl | hp
      · exact (N5 _ (.tail _ (.head _))).1
      · exact absurd (congrArg Prod.fst (List.mem_singleton.mp hp)) hd))
end
end Mine
namespace Mine
theorem zr_P2 : True := by
  w_top off
  k_with_none
  k_with "O" => first | decide | ((with_reducible refine rmk (by assumption) ?_); rfl) | ((with_reducible refine rm0 (by assumption) ?_); rfl) | ((with_reducible refine lel (by assumption) ?_); rfl) | ((with_reducible refine llt (by assumption) ?_); rfl) | ((with_reducible refine ltt (by assumption) ?_); rfl) | ((with_reducible refine ltl (by assumption) ?_); rfl) | ((with_reducible refine ilt (by assumption) ?_); rfl) | (with_reducible exact rmz (by assumption)) | (with_reducible assumption)
  exact True.intro
open PySem.Calls
noncomputable def stripN (l : List Nat) : List Nat := ((l.dropWhile Unicode.isSpace).reverse.dropWhile Unicode.isSpace).reverse
noncomputable def padN (n : Nat) (l : List Nat) : List Nat := l ++ List.replicate (n - l.length) 32
noncomputable def padS (y : Str) : Str := padT (strL (splitL y.cps.toList).1) (strL (splitL y.cps.toList).2)
theorem padS_eq {y r e : Str} (q : splitL y.cps.toList = (r.cps.toList, e.cps.toList)) : padT r e = padS y := by
  unfold padS
  rw [q]
  show _ = padT (strL r.cps.toList) (strL e.cps.toList)
  rw [strL_of, strL_of]
theorem pad_list (y : Str) : (padS y).cps.toList = padN 8 (stripN (rootL y)) ++ padN 3 (stripN (extL y)) := by
  unfold padS padT
  rw [app_toList]
  have a := ljust_list (Txt.strip (strL (splitL y.cps.toList).1)) 8
  have b := ljust_list (Txt.strip (Txt.slice (strL (splitL y.cps.toList).2) (some 1) none)) 3
  have a' : (Txt.ljust (Txt.strip (strL (splitL y.cps.toList).1)) 8).cps.toList = padN 8 (stripN (rootL y)) := by
    refine a.trans ?_
    rw [strip_list]
    rfl
  have b' : (Txt.ljust (Txt.strip (Txt.slice (strL (splitL y.cps.toList).2) (some 1) none)) 3).cps.toList = padN 3 (stripN (extL y)) := by
    refine b.trans ?_
    rw [strip_list, ext_list]
    rfl
  rw [a', b']
theorem stripN_sub {l : List Nat} {c : Nat} (h : c ∈ stripN l) : c ∈ l := by
  unfold stripN at h
  have h1 := (List.dropWhile_sublist _).mem (List.mem_reverse.mp h)
  exact (List.dropWhile_sublist _).mem (List.mem_reverse.mp h1)
theorem stripN_len (l : List Nat) : (stripN l).length ≤ l.length := by
  unfold stripN
  rw [List.length_reverse]
  refine Nat.le_trans (List.dropWhile_sublist _).length_le ?_
  rw [List.length_reverse]
  exact (List.dropWhile_sublist _).length_le
theorem padN_len {n : Nat} {l : List Nat} (h : l.length ≤ n) : (padN n l).length = n := by
  unfold padN
  rw [List.length_append, List.length_replicate]
  (first | k_extra "O" | omega)
theorem padN_mem {n c : Nat} {l : List Nat} (h : c ∈ padN n l) : c ∈ l ∨ c = 32 := by
  rcases List.mem_append.mp h with h | h
  · exact .inl h
  · exact .inr (List.eq_of_mem_replicate h)
theorem pad_ok {y : Str} (h : ConfP y) : (ords (padS y)).length = 11 ∧ (padS y).length ≤ 20 ∧ ∀ c ∈ (padS y).cps.toList, c < 256 := by
  obtain ⟨_, a, b, c, d⟩ := h
  have h1 := stripN_len (rootL y)
  have h2 := stripN_len (extL y)
  have l1 : (padS y).cps.toList.length = 11 := by
    rw [pad_list, List.length_append, padN_len (by (first | k_extra "O" | omega)), padN_len (by (first | k_extra "O" | omega))]
  refine ⟨by unfold ords; rw [List.length_map]; exact l1, by rw [len_toList]; (first | k_extra "O" | omega), fun z hz => ?_⟩
  rw [pad_list] at hz
  rcases List.mem_append.mp hz with hz | hz
  · rcases padN_mem hz with hz | rfl
    · exact (c z (stripN_sub hz)).1
    · decide
  · rcases padN_mem hz with hz | rfl
    · exact (d z (stripN_sub hz)).1
    · decide
noncomputable def setL (y : Str) : List Int := if (ords (padS y)).getD 0 0 = 229 then (ords (padS y)).set 0 5 else ords (padS y)
end Mine
namespace Mine
theorem zr_C12 : True := by
  w_top off
  k_with_none
  k_with "O" => first | decide | ((with_reducible refine rmk (by assumption) ?_); rfl) | ((with_reducible refine rm0 (by assumption) ?_); rfl) | ((with_reducible refine lel (by assumption) ?_); rfl) | ((with_reducible refine llt (by assumption) ?_); rfl) | ((with_reducible refine ltt (by assumption) ?_); rfl) | ((with_reducible refine ltl (by assumption) ?_); rfl) | ((with_reducible refine ilt (by assumption) ?_); rfl) | (with_reducible exact rmz (by assumption)) | (with_reducible assumption)
  exact True.intro
open PySem.Calls
theorem leave_thrownK {M : Model} {A : Around} {E : Value → Shared → Prop} {s' : Shared} {h h0 B : Heap} {env : Env} {outer : List Env} {L e : Addr} {cls : Value} {dct : Option Addr} {Q : Unit → Shared → Prop} (hfr : A.frames = some (env :: outer)) (hf : env.frame = some L) (T : Thrown (env :: outer) h s'.heap e cls dct B) (hk : Kp (fas outer) [] h0 h) (hL : h0.get? L = none)
    (hq : ∀ h', Thrown outer h0 h' e cls dct B → Q () { s' with heap := h' }) : wpAny M A (leaving env (.ref e)) Q E s' := by
  refine leave_next hfr hf T.fly fun h' f u => hq h' ⟨f, fun a o q n => ?_, (hk.up rfl).trans (T.up.trans u), ?_⟩
  · refine T.has a o ((hk a o q List.not_mem_nil).1 n) fun m => ?_
    unfold fas at m
    rw [List.filterMap_cons, hf] at m
    rcases List.mem_cons.mp m with z | z
    · rw [z, hL] at q; cases q
    · exact n z
  · cases q : h0.get? e with
    | none => rfl
    | some o =>
      obtain ⟨_, sl, x⟩ := hk e o q List.not_mem_nil
      rw [T.new] at x; cases x
theorem kept_kpM {h g g3 h' h₀ : Heap} {L : Addr} {m : Str → Option Value} {news : List (Addr × Obj)} {fa mu : List Addr} (F : Fr g3 L h' m) (k1 : ∀ b o, h.get? b = some o → b ∉ news.map (·.1) → g.get? b = some o)
    (N : ∀ p ∈ news, h.get? p.1 = some p.2 ∧ h₀.get? p.1 = none) (N' : ∀ p ∈ news, p.1 ∉ mu → h'.get? p.1 = some p.2) (g1 : ∀ a o, g.get? a = some o → a ∉ fa → g3.get? a = some o) (g2 : ∀ a o, g.get? a = some o → ∃ sl, g3.get? a = some { o with slots := sl }) : Kp fa mu h h' := fun a o e n => by
  by_cases q : a ∈ news.map (·.1)
  · obtain ⟨p, hp, rfl⟩ := List.mem_map.mp q
    rw [(N p hp).1] at e
    cases e
    exact ⟨fun _ => N' p hp n, p.2.slots, N' p hp n⟩
  · have := k1 a o e q
    refine ⟨fun f => F.keep _ _ (g1 a o this f), ?_⟩
    obtain ⟨sl, x⟩ := g2 a o this
    exact ⟨sl, F.keep _ _ x⟩
theorem set_yes {y : Str} (h : (ords (padS y)).getD (Int.toNat 0) 0 = 229) : setL y = (ords (padS y)).set (Int.toNat 0) 5 := if_pos h
theorem set_no {y : Str} (h : (ords (padS y)).getD (Int.toNat 0) 0 ≠ 229) : setL y = ords (padS y) := if_neg h
theorem pad_S {w : World} {mean : ExcName → Option Value} {mg mb : Str → Option Value} {dp un : Nat} {fr : Option (List Env)} {gd : Option (List Code)} {E : Value → Shared → Prop} {s : Shared} {h₀ : Heap} {L : Addr} {m : Str → Option Value} {news : List (Addr × Obj)} {Q : Value → Shared → Prop} {x : Str} {t : Tok}
    (F : Fr h₀ L s.heap m) (X₀ : (Mine.hh.heap_1_39 w.params).In h₀) (N : News h₀ L s.heap news) (T : Top Mine.hh.view_1_40 (looseW Mine.hh.view_1_40 [Str.ofString "PyFATException", Str.ofString "errno", Str.ofString "EightDotThree"]) mean mg mb h₀) (hroom : dp + 10 < recursionLimit) (hx : x.length ≤ 20)
    (h : ∀ h' t1 tk, Fr h₀ L h' m → News h₀ L h' news → Q (.str (padS x) t1) { s with heap := h', toks := tk }) :
    wpAny (model PySem.Challenge.rw_kj0039_01.row.prog w) { handled := none, depth := dp, frames := fr, guards := gd, units := un } (call (.ref 207) [.str x t]) Q E s := by
  refine pad_K F X₀ N T hroom hx fun h' t1 tk r e q F' N' => ?_
  rw [padS_eq q]
  exact h h' t1 tk F' N'
section
theorem zw_C12_52 : True := by
  k_with_none
  k_with "O" => first | decide | ((with_reducible refine rmk (by assumption) ?_); rfl) | ((with_reducible refine rm0 (by assumption) ?_); rfl) | ((with_reducible refine lel (by assumption) ?_); rfl) | ((with_reducible refine llt (by assumption) ?_); rfl) | ((with_reducible refine ltt (by assumption) ?_); rfl) | ((with_reducible refine ltl (by assumption) ?_); rfl) | ((with_reducible refine ilt (by assumption) ?_); rfl) | (with_reducible exact rmz (by assumption)) | (with_reducible assumption)
  k_with "ks" => repeat' (first | (k_unfold; (try dsimp only)) | (k_end; wrow_close) | ((fail_if_success (with_reducible show wpAny _ _ (pyIter _) (fun it s₂ => LoopAtV _ _ _ _ _ _ _ _ _ it s₂) _ _)); (first | k_extra "H" | walk1)) | ((fail_if_success (with_reducible show wpAny _ _ (pyIter _) (fun it s₂ => LoopAtV _ _ _ _ _ _ _ _ _ it s₂) _ _)); dsimp only; (first | k_extra "H" | walk1)) | fail "no step")
  k_with "forhere" => (with_reducible show wpAny _ _ (pyIter _) (fun it s₂ => LoopAtV _ _ _ _ _ _ _ _ _ it s₂) _ _)
  k_with "H" => (k_here; (with_reducible show wpAny _ _ (call (Value.ref 90) _) _ _ _); k_dflt (refine' decoded_K ?k1 ?k2 ?k3 ?k4 ?k5 ?k9 ?k6 ?k7 ?_; (case k1 => k_asm); (case k2 => k_asm); (case k3 => k_asm); (case k4 => k_asm); (case k5 => (dsimp only [Around.deeper]; (first | k_extra "O" | omega))); (case k9 => k_mem); (case k6 => with_reducible assumption); (case k7 => (first | k_extra "O" | omega)); k_whole); intro _ _ _ _ _ _ _ _)
  k_with "H" => (k_here; (with_reducible show wpAny _ _ (subscriptTail _ _ (Value.ref _) (Value.int _ _)) _ _ _); k_dflt (refine' ba_item_K ?k1 ?k2 ?k3 ?k4 ?k5 ?k6 ?_; (case k1 => k_asm); (case k2 => k_mem); (case k3 => with_reducible assumption); (case k4 => (first | k_extra "O" | omega)); (case k5 => (first | k_extra "O" | omega)); (case k6 => (first | k_extra "O" | omega))); intro _ _ _ _)
  k_with "H" => (k_here; (with_reducible show wpAny _ _ (subscriptTail _ (Expr.Slice none _ none _) (Value.ref _) (Value.ref _)) _ _ _); (with_reducible rename Fr _ _ _ _ => zzF); (with_reducible rename News _ _ _ _ => zzN); k_dflt (refine' ba_head (s := ⟨_, _, _, _, _⟩) zzF zzN ?k1 ?k2 ?k3 ?_; (case k1 => k_mem); (case k2 => with_reducible assumption); (case k3 => (first | k_extra "O" | omega))); intro _ _ _ _ zzF zzN _ _ _ _)
  k_with "H" => (k_here; (with_reducible show wpAny _ _ (subscriptTail _ (Expr.Slice (some _) _ none _) (Value.ref _) (Value.ref _)) _ _ _); (with_reducible rename Fr _ _ _ _ => zzF); (with_reducible rename News _ _ _ _ => zzN); k_dflt (refine' ba_mid (s := ⟨_, _, _, _, _⟩) zzF zzN ?k1 ?k2 ?k3 ?_; (case k1 => k_mem); (case k2 => with_reducible assumption); (case k3 => (first | k_extra "O" | omega))); intro _ _ _ _ zzF zzN _ _ _ _)
  k_with "H" => (k_here; (with_reducible show wpAny _ _ (setItem (Value.ref _) (Value.int _ _) (Value.int _ _)) _ _ _); k_dflt (refine' ba_setN ?k1 ?k2 ?k3 ?k4 ?k5 ?k6 ?k7 ?k8 ?_; (case k1 => k_asm); (case k2 => k_asm); (case k3 => k_updF); (case k4 => with_reducible assumption); (case k5 => (first | k_extra "O" | omega)); (case k6 => (first | k_extra "O" | omega)); (case k7 => (first | k_extra "O" | omega)); (case k8 => (first | k_extra "O" | omega))); intro _ _ _ _ zzN _ _ _; (try dsimp only at zzN); (try k_sweep))
  k_with "H" => (k_here; (with_reducible show wpAny _ _ (call (Value.ref 207) _) _ _ _); k_dflt (refine' pad_S ?k1 ?k2 ?k3 ?k4 ?k5 ?k6 ?_; (case k1 => k_asm); (case k2 => k_asm); (case k3 => k_asm); (case k4 => k_asm); (case k5 => (dsimp only [Around.deeper]; (first | k_extra "O" | omega))); (case k6 => (first | k_extra "O" | omega)); k_whole); intro _ _ _ _ zzN; (try dsimp only at zzN); (try k_sweep))
  k_with "H" => (k_here; (with_reducible show wpAny _ _ (call (Value.ref 85) _) _ _ _); k_dflt (refine' encoded_K ?k1 ?k2 ?k3 ?k4 ?k5 ?k6 ?k7 ?_; (case k1 => k_asm); (case k2 => k_asm); (case k3 => k_asm); (case k4 => k_asm); (case k5 => (dsimp only [Around.deeper]; (first | k_extra "O" | omega))); (case k6 => (first | k_extra "O" | omega)); (case k7 => with_reducible assumption); k_whole); intro _ _ _ _ _)
  exact True.intro
set_option maxHeartbeats 4000000 in
theorem sets_code {w : World} {mean : ExcName → Option Value} {mg mb : Str → Option Value} {dp un : Nat} {fr : Option (List Env)} {gd : Option (List Code)} {R : Result → Shared → Prop} {s : Shared} {h₀ : Heap} {outer : List Env} {x dx : Addr} {n1 n2 n3 : Tok} {v1 : Value} {ec : Str} {te : Tok} {v3 : Bool} {y : Str} {t : Tok}
    (S : ∀ b o, h₀.get? b = some o → s.heap.get? b = some o) (X₀ : (Mine.hh.heap_1_39 w.params).In h₀) (T : Top Mine.hh.view_1_40 (looseW Mine.hh.view_1_40 [Str.ofString "PyFATException", Str.ofString "errno", Str.ofString "EightDotThree"]) mean mg mb h₀)
    (N : ∀ p ∈ ([(x, oneObj dx), (dx, oneD w.params n1 n2 n3 v1 (.str ec te) (.bool v3))] : List (Addr × Obj)), s.heap.get? p.1 = some p.2 ∧ h₀.get? p.1 = none)
    (hroom : dp + 30 < recursionLimit) (hfr : fr = some outer) (hfun : s.heap.FunFrames h₀ outer) (hoff : ∀ a ∈ fas outer, a ∉ ([(x, oneObj dx), (dx, oneD w.params n1 n2 n3 v1 (.str ec te) (.bool v3))] : List (Addr × Obj)).map (·.1)) (hy : y.length ≤ 20)
    (hR : (¬ ConfP y → ∀ h' e d tk n u B, Thrown outer s.heap h' e (.ref 41) (some d) B → B.get? d = some (dictOf [⟨PyData.keyHash w.params "errno", .str "errno" n, .int 22 u⟩] 1) → s.heap.get? d = none → R (.error (.ref e)) { s with heap := h', toks := tk }) ∧ (ConfP y → ∀ h' tk D b, s.heap.get? D = none → h'.get? D = some (baObj b) → KBw.bInts b = setL y → h'.get? dx = some (oneD w.params n1 n2 n3 (.ref D) (.str ec te) (.bool true)) → Kp (fas outer) [dx] s.heap h' → R (.ok (.ret .none)) { s with heap := h', toks := tk })) :
    codeC (model PySem.Challenge.rw_kj0039_01.row.prog w) { handled := none, depth := dp, frames := fr, guards := gd, units := un } (.call (.ref 172) ⟨[.ref x, .str y t], []⟩) R s := by
  revert X₀; k_fill; intro X₀
  refine' enterC (f := 172) (mm := (fun zq => List.lookup zq [(Str.ofString "name", .str y t), (Str.ofString "self", .ref x)])) S X₀ T N ?ho ?hcd ?hr ?hb ?hmm ?hloc ?_ ?c1 ?c2 ?c3 ?c4
  case ho => k_is
  case hcd => k_is
  case hr => show dp < recursionLimit; (first | k_extra "O" | omega)
  case hb => exact BindsTo.of_eq rfl
  case hmm => first | rfl | kernel_rfl | with_unfolding_all rfl
  case hloc => exact locs rfl
  case c1 => exact rfl
  case c2 => exact rfl
  case c3 => exact rfl
  case c4 => decide
  intro g L' h₁ tkA k1 k2 k3 F' N' X' T' k4 k5
  (try dsimp only)
  refine foldC fun qz ez hqz hez => ?_
  have ne3 : x ≠ dx := obj_ne (N _ (.head _)).1 (N _ (.tail _ (.head _))).1 (by simp)
  have hL := top_none s.heap k5
  refine C_stmt ?_
  (try k_fold)
  walk_at "ks"
  refine C_stmt ?_
  (try k_fold)
  walk_at "ks"
  (rename Fr _ _ _ _ => F9)
  (rename News _ _ _ _ => N9)
  subst hfr
  have kk := kept_all F9 k1 N (fun p hp => (N9 p hp).1)
  refine wpAny_call (conf2_code (fun b o q => F9.keep _ _ (k3 _ _ q)) X₀ T (fun p hp => absurd hp List.not_mem_nil) (by show dp + 1 + 20 < _; (first | k_extra "O" | omega)) rfl (fun_here F9 k3 hfun kk rfl) hy fun bb h' tk2 hb kp => ?_)
  dsimp only
  obtain ⟨F2, N2, g1, g2, _⟩ := rebase F9 N9 kp (off_led k1 hfun hoff N9)
  have st2 := base_merge k3 hfun g1
  have X2 := X₀.keeps st2
  have T2 := T.keeps st2
  have kp2 := Kp.pop kk rfl hL kp
  walk_at "ks"
  · (rename (bb = true) => hbt)
    have hc := hb.mp hbt
    obtain ⟨hp1, hp2, hp3⟩ := pad_ok hc
    have hbi := bInts_ords hp3
    refine C_execs_cons (C_Assign_Name (C_Call ?_))
    (try k_fold)
    walk_at "ks"
    refine C_callWith_type1 ?_
    (try k_fold)
    walk_at "ks"
    (rename Fr _ _ _ _ => F4)
    (rename News _ _ _ _ => N4)
    have kp4 := kept_kp F4 k1 N (fun p hp => (N4 p hp).1) g1 g2
    refine ba_make_K F4 N4 hbi (by (first | k_extra "O" | omega)) fun h5 D F5 N5 l1 hDn => ?_
    have hDs : s.heap.get? D = none := by
      cases q : s.heap.get? D with
      | none => rfl
      | some o =>
        obtain ⟨_, sl, x⟩ := kp4 D o q List.not_mem_nil
        rw [hDn] at x; cases x
    have d1 : @Ne Nat x D := l1 _ (.head _)
    have d2 : @Ne Nat dx D := l1 _ (.tail _ (.head _))
    have d3 : @Ne Nat x dx := ne3
    refine wpC_any ?_
    (try k_fold)
    walk_at "ks"
    refine wpC_any ?_
    (try k_fold)
    walk_at "ks"
    all_goals (
      (rename Fr _ _ _ _ => F9)
      (rename News _ _ _ _ => N9)
      have kpe := kept_kpM (mu := [dx]) F9 k1 N (fun p hp n => by
        rcases List.mem_cons.mp hp with rfl | hp
        · exact (N9 _ (.tail _ (.head _))).1
        · exact absurd (List.mem_singleton.mpr (congrArg Prod.fst (List.mem_singleton.mp hp))) n) g1 g2
      first
      | (with_reducible rename (_ = List.set (ords (padS y)) (Int.toNat 0) 5) => eks
         with_reducible rename (List.getD (ords (padS y)) (Int.toNat 0) 0 = 229) => e5
         with_reducible rename (KBw.bInts _ = _) => ebi
         have e9 := (ebi.trans eks).trans (set_yes e5).symm
         show qz _ _
         rw [hqz]
         (try dsimp only)
         exact hR.2 hc _ _ D _ hDs (N9 (D, baObj _) (.head _)).1 e9 (N9 (dx, _) (.tail _ (.tail _ (.head _)))).1 kpe)
      | (with_reducible rename (List.getD (ords (padS y)) (Int.toNat 0) 0 ≠ 229) => e5
         have e9 := hbi.trans (set_no e5).symm
         show qz _ _
         rw [hqz]
         (try dsimp only)
         exact hR.2 hc _ _ D _ hDs (N9 (D, baObj _) (.head _)).1 e9 (N9 (dx, _) (.tail _ (.tail _ (.head _)))).1 kpe))
  · (rename (bb = false) => hbf)
    have hc : ¬ ConfP y := fun z => by rw [hb.mpr z] at hbf; cases hbf
    (rename Fr _ _ _ _ => F4)
    (rename News _ _ _ _ => N4)
    have kp4 := kept_kp F4 k1 N (fun p hp => (N4 p hp).1) g1 g2
    refine wpAny_call (nonconf_code (fun b o q => F4.keep _ _ (st2 _ _ q)) X₀ T (fun p hp => absurd hp List.not_mem_nil) (by show dp + 1 + 5 < _; (first | k_extra "O" | omega)) rfl (fun_hereK F4 st2 hfun kp4 rfl) (by (first | k_extra "O" | omega)) fun h' e d tk n u B th hd hdn => ?_)
    (try k_unfold)
    dsimp only
    show ez _ _
    rw [hez]
    (try dsimp only)
    refine leave_thrownK (Around.frames_deeper rfl) rfl th kp4 hL fun h2 th2 => ?_
    refine hR.1 hc _ _ _ _ _ _ _ th2 hd ?_
    cases q : s.heap.get? d with
    | none => rfl
    | some o =>
      obtain ⟨_, sl, x⟩ := kp4 d o q List.not_mem_nil
      rw [hdn] at x; cases x
end
end Mine
namespace Mine
theorem zr_C13 : True := by
  w_top off
  k_with_none
  k_with "O" => first | decide | ((with_reducible refine rmk (by assumption) ?_); rfl) | ((with_reducible refine rm0 (by assumption) ?_); rfl) | ((with_reducible refine lel (by assumption) ?_); rfl) | ((with_reducible refine llt (by assumption) ?_); rfl) | ((with_reducible refine ltt (by assumption) ?_); rfl) | ((with_reducible refine ltl (by assumption) ?_); rfl) | ((with_reducible refine ilt (by assumption) ?_); rfl) | (with_reducible exact rmz (by assumption)) | (with_reducible assumption)
  exact True.intro
open PySem.Calls
section
variable {w : World} {A : Around} {E : Value → Shared → Prop} {s : Shared} {K : Frag}
theorem exc_get {x C d : Addr} {sl : Array (Option Value)} {vs : Array Value} {es : List DictEntry} {n : Nat} {name : Str} {expr : Bool} {v : Value} {cd : ClassData} {Q : Value → Shared → Prop} (X : K.In s.heap) (hx : s.heap.get? x = some ⟨.ref C, some d, .fields vs, sl⟩) (hd : s.heap.get? d = some (dictOf es n))
    (hc : clsIn K C = some cd) (hm : cd.mro = excMro C) (hga : findIn K (.ref C) "__getattribute__" = some (some (.builtin "BaseException.__getattribute__"))) (hgt : findIn K (.ref C) "__getattr__" = some none)
    (hf : findObj K C (some (dictOf es n)) name = some (.value v)) (hv : handedIn v = true) (h : Q v { s with toks := s.toks + 1 }) : wpAny (model PG w) A (getAttr (.ref x) name expr) Q E s := by
  have I : W.InstAt s.heap x ⟨.ref C, some d, .fields vs, sl⟩ C (some (dictOf es n)) := ⟨hx, rfl, rfl, hd⟩
  obtain ⟨hh, g, dr, tk, os⟩ := s
  have L0 := I.type (M := model PG w)
  have L1 := looks_findIn (M := model PG w) X hga
  have L2 := looks_findIn (M := model PG w) X hgt
  have L3 := looks_find (M := model PG w) X I hf
  have FB := PySem.F.attr_Exception
  unfold getAttr getAttrBy
  refine wpAny_bind (wpAny_mkText (wpAny_holding (wpAny_bind (L0.at (wpAny_bind (L1.at ?_))))))
  show wpAny _ _ (getAttrByItsOwn (.ref x) (.str name tk) (.ref C) (.builtin "BaseException.__getattribute__") true expr) _ _ _
  unfold getAttrByItsOwn
  refine wpAny_bind (L2.at ?_)
  refine wpAny_bind (wpAny_attempt (wpAny_holding ?_))
  have e0 : callGetattribute (.ref x) (.str name tk) (.builtin "BaseException.__getattribute__") expr = boundAndCalled (.builtin "BaseException.__getattribute__") (.ref x) (.str name tk) := by cases expr <;> rfl
  rw [e0]
  unfold boundAndCalled
  refine wpAny_bind (wpAny_of_eq (FB.ga.bind (.ref x)) ?_)
  have sub : Looks (model PG w) hh (PySem.isInstance (.ref x) (.type "BaseException")) true := I.type.andThen (looks_mroIn X (by unfold mroIn; rw [hc, Option.bind_some, hm]; with_unfolding_all rfl))
  refine wpAny_call (codeAny_call_builtin FB.ga.plain PySem.F.entry_bexc_ga (@check_slot (model PG w) _ _ ⟨hh, g, dr, tk + 1, os⟩ "BaseException.__getattribute__" "BaseException" "__getattribute__" (.ref x) [.str name tk] [] _ (by decide +kernel) (by decide +kernel) sub (PySem.F.args_bexc_ga (.ref x) (.str name tk)) ?_))
  unfold Builtin.«object.__getattribute__»
  refine wpAny_bind (wpAny_of_eq (a := (.ref x, [.str name tk])) rfl ?_)
  refine wpAny_bind (wpAny_pure (wpAny_bind (L0.at (wpAny_bind (L3.at ?_)))))
  refine wpAny_pure ?_
  show wpAny _ _ (handedOut v) _ _ _
  rw [handedOut_of hv]
  exact wpAny_pure h
end
end Mine
namespace Mine
theorem zr_C14 : True := by
  w_top off
  k_with_none
  k_with "O" => first | decide | ((with_reducible refine rmk (by assumption) ?_); rfl) | ((with_reducible refine rm0 (by assumption) ?_); rfl) | ((with_reducible refine lel (by assumption) ?_); rfl) | ((with_reducible refine llt (by assumption) ?_); rfl) | ((with_reducible refine ltt (by assumption) ?_); rfl) | ((with_reducible refine ltl (by assumption) ?_); rfl) | ((with_reducible refine ilt (by assumption) ?_); rfl) | (with_reducible exact rmz (by assumption)) | (with_reducible assumption)
  exact True.intro
open PySem.Calls
theorem new_ofM {h g g3 : Heap} {e : Addr} {news : List (Addr × Obj)} (k1 : ∀ b o, h.get? b = some o → b ∉ news.map (·.1) → g.get? b = some o) (g2 : ∀ a o, g.get? a = some o → ∃ sl, g3.get? a = some { o with slots := sl }) (hg : g3.get? e = none) (hn : e ∉ news.map (·.1)) : h.get? e = none := by
  cases q : h.get? e with
  | none => rfl
  | some o =>
    obtain ⟨sl, x⟩ := g2 _ _ (k1 _ _ q hn)
    rw [x] at hg; cases hg
theorem not_two {x dx T : Nat} {o1 o2 : Obj} (h1 : x < T) (h2 : dx < T) : T ∉ List.map (·.1) [((x : Addr), o1), ((dx : Addr), o2)] := fun m => by
  rcases List.mem_cons.mp m with rfl | m
  · exact absurd h1 (Nat.lt_irrefl _)
  · have := List.mem_singleton.mp m
    subst this
    exact absurd h2 (Nat.lt_irrefl _)
section
theorem zw_C14_53 : True := by
  k_with_none
  k_with "O" => first | decide | ((with_reducible refine rmk (by assumption) ?_); rfl) | ((with_reducible refine rm0 (by assumption) ?_); rfl) | ((with_reducible refine lel (by assumption) ?_); rfl) | ((with_reducible refine llt (by assumption) ?_); rfl) | ((with_reducible refine ltt (by assumption) ?_); rfl) | ((with_reducible refine ltl (by assumption) ?_); rfl) | ((with_reducible refine ilt (by assumption) ?_); rfl) | (with_reducible exact rmz (by assumption)) | (with_reducible assumption)
  k_with "ks" => repeat' (first | (k_unfold; (try dsimp only)) | (k_end; wrow_close) | ((fail_if_success (with_reducible show wpAny _ _ (pyIter _) (fun it s₂ => LoopAtV _ _ _ _ _ _ _ _ _ it s₂) _ _)); (fail_if_success (with_reducible show wpAny _ _ (exec (Stmt.While _ _ _ _) _) _ _ _)); (fail_if_success (with_reducible show wpAny _ _ (exec (Stmt.Try _ _ _ _ _) _) _ _ _)); (first | k_extra "H" | walk1)) | ((fail_if_success (with_reducible show wpAny _ _ (pyIter _) (fun it s₂ => LoopAtV _ _ _ _ _ _ _ _ _ it s₂) _ _)); (fail_if_success (with_reducible show wpAny _ _ (exec (Stmt.While _ _ _ _) _) _ _ _)); (fail_if_success (with_reducible show wpAny _ _ (exec (Stmt.Try _ _ _ _ _) _) _ _ _)); dsimp only; (first | k_extra "H" | walk1)) | fail "no step")
  exact True.intro
set_option maxHeartbeats 4000000 in
theorem lset_tb_code {w : World} {mean : ExcName → Option Value} {mg mb : Str → Option Value} {dp un : Nat} {fr : Option (List Env)} {gd : Option (List Code)} {R : Result → Shared → Prop} {s : Shared} {h₀ : Heap} {outer : List Env} {x dx : Addr} {n1 n2 n3 : Tok} {v1 v2 v3 v : Value}
    (S : ∀ b o, h₀.get? b = some o → s.heap.get? b = some o) (X₀ : (Mine.hh.heap_1_39 w.params).In h₀) (T : Top Mine.hh.view_1_40 (looseW Mine.hh.view_1_40 [Str.ofString "PyFATException", Str.ofString "errno", Str.ofString "EightDotThree"]) mean mg mb h₀)
    (N : ∀ p ∈ ([(x, oneObj dx), (dx, oneD w.params n1 n2 n3 v1 v2 v3)] : List (Addr × Obj)), s.heap.get? p.1 = some p.2 ∧ h₀.get? p.1 = none)
    (hroom : dp + 40 < recursionLimit) (hfr : fr = some outer) (hfun : s.heap.FunFrames h₀ outer) (hoff : ∀ a ∈ fas outer, a ∉ ([(x, oneObj dx), (dx, oneD w.params n1 n2 n3 v1 v2 v3)] : List (Addr × Obj)).map (·.1)) (hv : NotInst w "bytes" v s.heap)
    (hR : ∀ h' tk T t1 t2, s.heap.get? T = none → h'.get? T = some (tup2 (.str (Str.ofString "type") t1) (.int 0 t2)) → Kp (fas outer) [] s.heap h' → R (.ok (.ret (.ref T))) { s with heap := h', toks := tk }) :
    codeAny (model PySem.Challenge.rw_kj0039_01.row.prog w) { handled := none, depth := dp, frames := fr, guards := gd, units := un } (.call (.ref 298) ⟨[.ref x, .bool true, v], []⟩) R s := by
  revert X₀; k_fill; intro X₀
  refine' enter (f := 298) (mm := (fun zq => List.lookup zq [(Str.ofString "value", v), (Str.ofString "octets", .bool true), (Str.ofString "one", .ref x)])) S X₀ T N ?ho ?hcd ?hr ?hb ?hmm ?hloc ?_ ?c1 ?c2 ?c3 ?c4
  case ho => k_is
  case hcd => k_is
  case hr => show dp < recursionLimit; (first | k_extra "O" | omega)
  case hb => exact BindsTo.of_eq rfl
  case hmm => first | rfl | kernel_rfl | with_unfolding_all rfl
  case hloc => exact locs rfl
  case c1 => exact rfl
  case c2 => exact rfl
  case c3 => exact rfl
  case c4 => decide
  intro g L' h₁ tkA k1 k2 k3 F' N' X' T' k4 k5
  (try dsimp only)
  k_fold
  have hL := top_none s.heap k5
  walk_at "ks"
  refine wpAny_Try_except ?_
  walk_at "ks"
  rename Fr _ _ _ _ => F9
  rename News _ _ _ _ => N9
  subst hfr
  have hfunX := hfun
  have kk := kept_all F9 k1 N (fun p hp => (N9 p hp).1)
  have on9 := off_led k1 hfun hoff N9
  refine wpAny_call (setb_type_code (fun b o q => F9.keep _ _ (k3 _ _ q)) X₀ T (fun p hp => absurd hp List.not_mem_nil) (by show dp + 1 + 10 < _; (first | k_extra "O" | omega)) rfl (fun_here F9 k3 hfun kk rfl) (hv.mono kk) fun h' e tk dct B th => ?_)
  dsimp only
  refine caught (Around.frames_deeper rfl) rfl th fun h2 f2 u2 => ?_
  have kp2 := th.kpf (fun_here F9 k3 hfun kk rfl) f2 u2
  obtain ⟨F2, N2, g1, g2, _⟩ := rebase F9 N9 kp2 on9
  have st2 := base_merge k3 hfunX g1
  have X2 := X₀.keeps st2
  have T2 := T.keeps st2
  refine handle_as (K := Mine.hh.heap_1_39 w.params) (cls := .type "TypeError") (c := .ref 41) (b := false) (by first | rfl | kernel_rfl) ?_
  walk_at "ks"
  · exact f2.at
  refine handle_as (K := Mine.hh.heap_1_39 w.params) (cls := .type "TypeError") (c := .ref 63) (b := false) (by first | rfl | kernel_rfl) ?_
  walk_at "ks"
  · exact f2.at
  refine handle_plain (K := Mine.hh.heap_1_39 w.params) (cls := .type "TypeError") (c := .type "TypeError") (b := true) (by first | rfl | kernel_rfl) ?_
  walk_at "ks"
  · exact f2.at
  refine land f2 fun h3 f3 u3 => ?_
  clear F2 N2 g1 g2 st2 X2 T2 kp2
  have kp3 := th.kpf (fun_here F9 k3 hfun kk rfl) f3 (u2.trans u3)
  obtain ⟨F3, N3, g1, g2, _⟩ := rebase F9 N9 kp3 on9
  have st3 := base_merge k3 hfunX g1
  have X3 := X₀.keeps st3
  have T3 := T.keeps st3
  walk_at "ks"
  rename Fr _ _ _ _ => F10
  rename News _ _ _ _ => N10
  have kpe := kept_kp F10 k1 N (fun p hp => (N10 p (.tail _ hp)).1) g1 g2
  have hT := N10 _ (.head _)
  (try (k_unfold; dsimp only))
  refine hR _ _ _ _ _ (new_ofM k1 g2 hT.2.2 (not_two ?_ ?_)) hT.1 kpe
  · (first | k_extra "O" | omega)
  · (first | k_extra "O" | omega)
set_option maxHeartbeats 4000000 in
theorem lset_ts_code {w : World} {mean : ExcName → Option Value} {mg mb : Str → Option Value} {dp un : Nat} {fr : Option (List Env)} {gd : Option (List Code)} {R : Result → Shared → Prop} {s : Shared} {h₀ : Heap} {outer : List Env} {x dx : Addr} {n1 n2 n3 : Tok} {v1 v2 v3 v : Value}
    (S : ∀ b o, h₀.get? b = some o → s.heap.get? b = some o) (X₀ : (Mine.hh.heap_1_39 w.params).In h₀) (T : Top Mine.hh.view_1_40 (looseW Mine.hh.view_1_40 [Str.ofString "PyFATException", Str.ofString "errno", Str.ofString "EightDotThree"]) mean mg mb h₀)
    (N : ∀ p ∈ ([(x, oneObj dx), (dx, oneD w.params n1 n2 n3 v1 v2 v3)] : List (Addr × Obj)), s.heap.get? p.1 = some p.2 ∧ h₀.get? p.1 = none)
    (hroom : dp + 40 < recursionLimit) (hfr : fr = some outer) (hfun : s.heap.FunFrames h₀ outer) (hoff : ∀ a ∈ fas outer, a ∉ ([(x, oneObj dx), (dx, oneD w.params n1 n2 n3 v1 v2 v3)] : List (Addr × Obj)).map (·.1)) (hv : NotInst w "str" v s.heap)
    (hR : ∀ h' tk T t1 t2, s.heap.get? T = none → h'.get? T = some (tup2 (.str (Str.ofString "type") t1) (.int 0 t2)) → Kp (fas outer) [] s.heap h' → R (.ok (.ret (.ref T))) { s with heap := h', toks := tk }) :
    codeAny (model PySem.Challenge.rw_kj0039_01.row.prog w) { handled := none, depth := dp, frames := fr, guards := gd, units := un } (.call (.ref 298) ⟨[.ref x, .bool false, v], []⟩) R s := by
  revert X₀; k_fill; intro X₀
  refine' enter (f := 298) (mm := (fun zq => List.lookup zq [(Str.ofString "value", v), (Str.ofString "octets", .bool false), (Str.ofString "one", .ref x)])) S X₀ T N ?ho ?hcd ?hr ?hb ?hmm ?hloc ?_ ?c1 ?c2 ?c3 ?c4
  case ho => k_is
  case hcd => k_is
  case hr => show dp < recursionLimit; (first | k_extra "O" | omega)
  case hb => exact BindsTo.of_eq rfl
  case hmm => first | rfl | kernel_rfl | with_unfolding_all rfl
  case hloc => exact locs rfl
  case c1 => exact rfl
  case c2 => exact rfl
  case c3 => exact rfl
  case c4 => decide
  intro g L' h₁ tkA k1 k2 k3 F' N' X' T' k4 k5
  (try dsimp only)
  k_fold
  have hL := top_none s.heap k5
  walk_at "ks"
  refine wpAny_Try_except ?_
  walk_at "ks"
  rename Fr _ _ _ _ => F9
  rename News _ _ _ _ => N9
  subst hfr
  have hfunX := hfun
  have kk := kept_all F9 k1 N (fun p hp => (N9 p hp).1)
  have on9 := off_led k1 hfun hoff N9
  refine wpAny_call (sets_type_code (fun b o q => F9.keep _ _ (k3 _ _ q)) X₀ T (fun p hp => absurd hp List.not_mem_nil) (by show dp + 1 + 10 < _; (first | k_extra "O" | omega)) rfl (fun_here F9 k3 hfun kk rfl) (hv.mono kk) fun h' e tk dct B th => ?_)
  dsimp only
  refine caught (Around.frames_deeper rfl) rfl th fun h2 f2 u2 => ?_
  have kp2 := th.kpf (fun_here F9 k3 hfun kk rfl) f2 u2
  obtain ⟨F2, N2, g1, g2, _⟩ := rebase F9 N9 kp2 on9
  have st2 := base_merge k3 hfunX g1
  have X2 := X₀.keeps st2
  have T2 := T.keeps st2
  refine handle_as (K := Mine.hh.heap_1_39 w.params) (cls := .type "TypeError") (c := .ref 41) (b := false) (by first | rfl | kernel_rfl) ?_
  walk_at "ks"
  · exact f2.at
  refine handle_as (K := Mine.hh.heap_1_39 w.params) (cls := .type "TypeError") (c := .ref 63) (b := false) (by first | rfl | kernel_rfl) ?_
  walk_at "ks"
  · exact f2.at
  refine handle_plain (K := Mine.hh.heap_1_39 w.params) (cls := .type "TypeError") (c := .type "TypeError") (b := true) (by first | rfl | kernel_rfl) ?_
  walk_at "ks"
  · exact f2.at
  refine land f2 fun h3 f3 u3 => ?_
  clear F2 N2 g1 g2 st2 X2 T2 kp2
  have kp3 := th.kpf (fun_here F9 k3 hfun kk rfl) f3 (u2.trans u3)
  obtain ⟨F3, N3, g1, g2, _⟩ := rebase F9 N9 kp3 on9
  have st3 := base_merge k3 hfunX g1
  have X3 := X₀.keeps st3
  have T3 := T.keeps st3
  walk_at "ks"
  rename Fr _ _ _ _ => F10
  rename News _ _ _ _ => N10
  have kpe := kept_kp F10 k1 N (fun p hp => (N10 p (.tail _ hp)).1) g1 g2
  have hT := N10 _ (.head _)
  (try (k_unfold; dsimp only))
  refine hR _ _ _ _ _ (new_ofM k1 g2 hT.2.2 (not_two ?_ ?_)) hT.1 kpe
  · (first | k_extra "O" | omega)
  · (first | k_extra "O" | omega)
end
end Mine
namespace Mine
theorem zr_C15 : True := by
  w_top off
  k_with_none
  k_with "O" => first | decide | ((with_reducible refine rmk (by assumption) ?_); rfl) | ((with_reducible refine rm0 (by assumption) ?_); rfl) | ((with_reducible refine lel (by assumption) ?_); rfl) | ((with_reducible refine llt (by assumption) ?_); rfl) | ((with_reducible refine ltt (by assumption) ?_); rfl) | ((with_reducible refine ltl (by assumption) ?_); rfl) | ((with_reducible refine ilt (by assumption) ?_); rfl) | (with_reducible exact rmz (by assumption)) | (with_reducible assumption)
  exact True.intro
open PySem.Calls
theorem add_news {g h : Heap} {L D : Addr} {news : List (Addr × Obj)} {o : Obj} (N : News g L h news) (hD : h.get? D = some o) (hg : g.get? D = none) (hL : D ≠ L) : News g L h ((D, o) :: news) := fun p hp => by
  rcases List.mem_cons.mp hp with rfl | hp
  · exact ⟨hD, hL, hg⟩
  · exact N p hp
theorem ne_local {g h : Heap} {L D : Addr} {m : Str → Option Value} (F : Fr g L h m) (hD : h.get? D = none) : D ≠ L := fun q => by
  obtain ⟨oL, _, _, hL, _⟩ := F.ns
  rw [q, hL] at hD; cases hD
theorem exc_getK {w : World} {A : Around} {E : Value → Shared → Prop} {s : Shared} {K : Frag} {h₀ : Heap} {L : Addr} {m : Str → Option Value} {news : List (Addr × Obj)} {x C d : Addr} {sl : Array (Option Value)} {vs : Array Value} {es : List DictEntry} {n : Nat} {name : Str} {expr : Bool} {v : Value} {cd : ClassData} {Q : Value → Shared → Prop} (F : Fr h₀ L s.heap m) (X₀ : K.In h₀) (N : News h₀ L s.heap news) (hx : (x, (⟨.ref C, some d, .fields vs, sl⟩ : Obj)) ∈ news) (hd : (d, dictOf es n) ∈ news)
    (hc : clsIn K C = some cd) (hm : cd.mro = excMro C) (hga : findIn K (.ref C) "__getattribute__" = some (some (.builtin "BaseException.__getattribute__"))) (hgt : findIn K (.ref C) "__getattr__" = some none)
    (hf : findObj K C (some (dictOf es n)) name = some (.value v)) (hv : handedIn v = true) (h : Q v { s with toks := s.toks + 1 }) : wpAny (model PG w) A (getAttr (.ref x) name expr) Q E s :=
  exc_get (X₀.keeps F.keep) (N _ hx).1 (N _ hd).1 hc hm hga hgt hf hv h
section
theorem zw_C15_54 : True := by
  k_with_none
  k_with "O" => first | decide | ((with_reducible refine rmk (by assumption) ?_); rfl) | ((with_reducible refine rm0 (by assumption) ?_); rfl) | ((with_reducible refine lel (by assumption) ?_); rfl) | ((with_reducible refine llt (by assumption) ?_); rfl) | ((with_reducible refine ltt (by assumption) ?_); rfl) | ((with_reducible refine ltl (by assumption) ?_); rfl) | ((with_reducible refine ilt (by assumption) ?_); rfl) | (with_reducible exact rmz (by assumption)) | (with_reducible assumption)
  k_with "ks" => repeat' (first | (k_unfold; (try dsimp only)) | (k_end; wrow_close) | ((fail_if_success (with_reducible show wpAny _ _ (pyIter _) (fun it s₂ => LoopAtV _ _ _ _ _ _ _ _ _ it s₂) _ _)); (fail_if_success (with_reducible show wpAny _ _ (exec (Stmt.While _ _ _ _) _) _ _ _)); (fail_if_success (with_reducible show wpAny _ _ (exec (Stmt.Try _ _ _ _ _) _) _ _ _)); (first | k_extra "H" | walk1)) | ((fail_if_success (with_reducible show wpAny _ _ (pyIter _) (fun it s₂ => LoopAtV _ _ _ _ _ _ _ _ _ it s₂) _ _)); (fail_if_success (with_reducible show wpAny _ _ (exec (Stmt.While _ _ _ _) _) _ _ _)); (fail_if_success (with_reducible show wpAny _ _ (exec (Stmt.Try _ _ _ _ _) _) _ _ _)); dsimp only; (first | k_extra "H" | walk1)) | fail "no step")
  k_with "H" => ((with_reducible show wpAny _ _ (getAttr (Value.ref _) _ _) _ _ _); (k_here; k_dflt (refine' exc_getK ?k1 ?k2 ?k3 ?k4 ?k5 ?k6 ?k7 ?k8 ?k9 ?c1 ?c2 ?_; (case k1 => k_asm); (case k2 => k_asm); (case k3 => k_asm); (case k4 => k_mem); (case k5 => k_mem); (case k6 => k_is); (case k7 => rfl); (case k8 => k_is); (case k9 => k_is); (case c1 => exact findObj_own (by k_is) (by k_is) (by rfl) (by rfl)); (case c2 => rfl))))
  exact True.intro
set_option maxHeartbeats 4000000 in
theorem lset_b_code {w : World} {mean : ExcName → Option Value} {mg mb : Str → Option Value} {dp un : Nat} {fr : Option (List Env)} {gd : Option (List Code)} {R : Result → Shared → Prop} {s : Shared} {h₀ : Heap} {outer : List Env} {x dx : Addr} {n1 n2 n3 : Tok} {v1 v2 : Value} {v3 : Bool} {b : Array UInt8} {ks : List Int} {t : Tok}
    (S : ∀ b o, h₀.get? b = some o → s.heap.get? b = some o) (X₀ : (Mine.hh.heap_1_39 w.params).In h₀) (T : Top Mine.hh.view_1_40 (looseW Mine.hh.view_1_40 [Str.ofString "PyFATException", Str.ofString "errno", Str.ofString "EightDotThree"]) mean mg mb h₀)
    (N : ∀ p ∈ ([(x, oneObj dx), (dx, oneD w.params n1 n2 n3 v1 v2 (.bool v3))] : List (Addr × Obj)), s.heap.get? p.1 = some p.2 ∧ h₀.get? p.1 = none)
    (hroom : dp + 40 < recursionLimit) (hfr : fr = some outer) (hfun : s.heap.FunFrames h₀ outer) (hoff : ∀ a ∈ fas outer, a ∉ ([(x, oneObj dx), (dx, oneD w.params n1 n2 n3 v1 v2 (.bool v3))] : List (Addr × Obj)).map (·.1)) (hk : KBw.bInts b = ks) (hlen : ks.length ≤ 30)
    (hR : (ks.length ≠ 11 → ∀ h' tk T t1 t2, s.heap.get? T = none → h'.get? T = some (tup2 (.str (Str.ofString "size") t1) (.int 0 t2)) → Kp (fas outer) [] s.heap h' → R (.ok (.ret (.ref T))) { s with heap := h', toks := tk }) ∧ (ks.length = 11 → (ks.getD 0 0 = 0 ∨ ks.getD 0 0 = 229) → ∀ h' tk T t1 t2, s.heap.get? T = none → h'.get? T = some (tup2 (.str (Str.ofString "mark") t1) (.int (ks.getD 0 0) t2)) → Kp (fas outer) [] s.heap h' → R (.ok (.ret (.ref T))) { s with heap := h', toks := tk }) ∧ (ks.length = 11 → (ks.getD 0 0 ≠ 0 ∧ ks.getD 0 0 ≠ 229) → ∀ h' tk T t1 t2 D, s.heap.get? T = none → h'.get? T = some (tup2 (.str (Str.ofString "good") t1) (.int 0 t2)) → s.heap.get? D = none → h'.get? D = some (baObj b) → h'.get? dx = some (oneD w.params n1 n2 n3 (.ref D) v2 (.bool true)) → Kp (fas outer) [dx] s.heap h' → R (.ok (.ret (.ref T))) { s with heap := h', toks := tk })) :
    codeC (model PySem.Challenge.rw_kj0039_01.row.prog w) { handled := none, depth := dp, frames := fr, guards := gd, units := un } (.call (.ref 298) ⟨[.ref x, .bool true, .bytes b t], []⟩) R s := by
  revert X₀; k_fill; intro X₀
  refine' enterC (f := 298) (mm := (fun zq => List.lookup zq [(Str.ofString "value", .bytes b t), (Str.ofString "octets", .bool true), (Str.ofString "one", .ref x)])) S X₀ T N ?ho ?hcd ?hr ?hb ?hmm ?hloc ?_ ?c1 ?c2 ?c3 ?c4
  case ho => k_is
  case hcd => k_is
  case hr => show dp < recursionLimit; (first | k_extra "O" | omega)
  case hb => exact BindsTo.of_eq rfl
  case hmm => first | rfl | kernel_rfl | with_unfolding_all rfl
  case hloc => exact locs rfl
  case c1 => exact rfl
  case c2 => exact rfl
  case c3 => exact rfl
  case c4 => decide
  intro g L' h₁ tkA k1 k2 k3 F' N' X' T' k4 k5
  (try dsimp only)
  refine foldC fun qz ez hqz hez => ?_
  have hL := top_none s.heap k5
  obtain ⟨fo, fdo, hlk, hdat⟩ : ∃ o fd, (Mine.hh.heap_1_39 w.params).lookup 165 = some o ∧ o.data = Data.func fd := ⟨_, _, by k_is, rfl⟩
  refine C_execs_cons (C_Try (C_execs_cons (C_If (wpC_any ?_))))
  (try k_fold)
  walk_at "ks"
  refine C_execs_cons (C_Expr (C_MethodCall ?_))
  (try k_fold)
  walk_at "ks"
  refine C_callWith_fn hdat ?_
  (try k_fold)
  walk_at "ks"
  · (rename Fr _ _ _ _ => F9)
    exact (X'.keeps F9.keep) _ _ hlk
  (rename Fr _ _ _ _ => F9)
  (rename News _ _ _ _ => N9)
  subst hfr
  have hfunX := hfun
  have kk := kept_all F9 k1 N (fun p hp => (N9 p hp).1)
  have on9 := off_led k1 hfun hoff N9
  show wpC _ _ (call (Value.ref 165) [Value.ref x, Value.bytes b t]) _ _ _
  refine wpC_call (setb_code (n1 := n1) (n2 := n2) (n3 := n3) (v1 := v1) (v2 := v2) (v3 := v3) (dx := dx) (fun b o q => F9.keep _ _ (k3 _ _ q)) X₀ T (fun p hp => ⟨(N9 p hp).1, (N p hp).2⟩) (by show dp + 1 + 20 < _; (first | k_extra "O" | omega)) rfl (fun_here F9 k3 hfun kk rfl) hk hlen ⟨fun hne h' e tk dct B th => ?_, fun he1 hm h' e d tk n u B th hB hdn => ?_, fun he1 hm h' tk D hDn hD hdx hkeep => ?_⟩)
  · dsimp only
    refine caught (Around.frames_deeper rfl) rfl th fun h2 f2 u2 => ?_
    have kp2 := th.kpf (fun_here F9 k3 hfun kk rfl) f2 u2
    obtain ⟨F2, N2, g1, g2, _⟩ := rebase F9 N9 kp2 on9
    have st2 := base_merge k3 hfunX g1
    have X2 := X₀.keeps st2
    have T2 := T.keeps st2
    refine handle_as (K := Mine.hh.heap_1_39 w.params) (cls := .type "ValueError") (c := .ref 41) (b := false) (by first | rfl | kernel_rfl) ?_
    walk_at "ks"
    · exact f2.at
    refine handle_as (K := Mine.hh.heap_1_39 w.params) (cls := .type "ValueError") (c := .ref 63) (b := false) (by first | rfl | kernel_rfl) ?_
    walk_at "ks"
    · exact f2.at
    refine handle_plain (K := Mine.hh.heap_1_39 w.params) (cls := .type "ValueError") (c := .type "TypeError") (b := false) (by first | rfl | kernel_rfl) ?_
    walk_at "ks"
    · exact f2.at
    refine handle_plain (K := Mine.hh.heap_1_39 w.params) (cls := .type "ValueError") (c := .type "ValueError") (b := true) (by first | rfl | kernel_rfl) ?_
    walk_at "ks"
    · exact f2.at
    refine land f2 fun h3 f3 u3 => ?_
    clear F2 N2 g1 g2 st2 X2 T2 kp2
    have kp3 := th.kpf (fun_here F9 k3 hfun kk rfl) f3 (u2.trans u3)
    obtain ⟨F3, N3, g1, g2, g3⟩ := rebase F9 N9 kp3 on9
    have st3 := base_merge k3 hfunX g1
    have X3 := X₀.keeps st3
    have T3 := T.keeps st3
    walk_at "ks"
    (rename Fr _ _ _ _ => F10)
    (rename News _ _ _ _ => N10)
    have kpe := kept_kp F10 k1 N (fun p hp => (N10 p (.tail _ hp)).1) g1 g2
    have hT := N10 _ (.head _)
    (try (k_unfold; dsimp only))
    show qz _ _
    rw [hqz]
    (try dsimp only)
    refine hR.1 hne _ _ _ _ _ (new_ofM k1 g2 hT.2.2 (not_two ?_ ?_)) hT.1 kpe
    · (first | k_extra "O" | omega)
    · (first | k_extra "O" | omega)
  · dsimp only
    refine caught (Around.frames_deeper rfl) rfl th fun h2 f2 u2 => ?_
    have kp2 := th.kpf (fun_here F9 k3 hfun kk rfl) f2 u2
    obtain ⟨F2, N2, g1, g2, _⟩ := rebase F9 N9 kp2 on9
    have st2 := base_merge k3 hfunX g1
    have X2 := X₀.keeps st2
    have T2 := T.keeps st2
    refine handle_as (K := Mine.hh.heap_1_39 w.params) (cls := .ref 63) (c := .ref 41) (b := false) (by first | rfl | kernel_rfl) ?_
    walk_at "ks"
    · exact f2.at
    refine handle_as (K := Mine.hh.heap_1_39 w.params) (cls := .ref 63) (c := .ref 63) (b := true) (by first | rfl | kernel_rfl) ?_
    walk_at "ks"
    · exact f2.at
    refine land f2 fun h3 f3 u3 => ?_
    clear F2 N2 g1 g2 st2 X2 T2 kp2
    have kp3 := th.kpf (fun_here F9 k3 hfun kk rfl) f3 (u2.trans u3)
    obtain ⟨F3, N3, g1, g2, g3⟩ := rebase F9 N9 kp3 on9
    have st3 := base_merge k3 hfunX g1
    have X3 := X₀.keeps st3
    have T3 := T.keeps st3
    have hB3 := f3.1 _ _ hB
    obtain ⟨_, _, _, vs3, sl3, T3, ts3, oT3, he3, _⟩ := f3
    have mn : ∀ a, (∀ o, g.get? a = some o → False) → (merge g h3).get? a = none := fun a k => by
      cases q : (merge g h3).get? a with
      | none => rfl
      | some o => obtain ⟨o', q'⟩ := g3 _ _ q; exact absurd q' (fun z => k _ z)
    have gk : ∀ a o, g.get? a = some o → h₁.get? a = some o := fun a o q => F9.keep _ _ q
    have ge : (merge g h3).get? e = none := mn e fun o q => by have z := th.new; rw [F9.keep _ _ q] at z; cases z
    have gd : (merge g h3).get? d = none := mn d fun o q => by have z := hdn; rw [F9.keep _ _ q] at z; cases z
    have N4 := add_news (add_news N3 hB3 gd (ne_local F9 hdn)) he3 ge (ne_local F9 th.new)
    clear N3 gk
    walk_at "ks"
    (rename Fr _ _ _ _ => F10)
    (rename News _ _ _ _ => N10)
    have kpe := kept_kp F10 k1 N (fun p hp => (N10 p (.tail _ (.tail _ (.tail _ hp)))).1) g1 g2
    have hT := N10 _ (.head _)
    (try (k_unfold; dsimp only))
    show qz _ _
    rw [hqz]
    (try dsimp only)
    refine hR.2.1 he1 hm _ _ _ _ _ (new_ofM k1 g2 hT.2.2 (not_two ?_ ?_)) hT.1 kpe
    · (first | k_extra "O" | omega)
    · (first | k_extra "O" | omega)
  · have ne3 : x ≠ dx := obj_ne (N _ (.head _)).1 (N _ (.tail _ (.head _))).1 (by simp)
    obtain ⟨F5, N5⟩ := updF_K F9 N9 (UpdF.tail ne3 (UpdF.head (List.forall_mem_nil _))) hkeep hdx
    have gD : g.get? D = none := by
      cases q : g.get? D with
      | none => rfl
      | some o => have z := hDn; rw [F9.keep _ _ q] at z; cases z
    have N6 := add_news N5 hD gD (ne_local F9 hDn)
    have hDs := size_fresh (n := 0) kk hDn
    clear N5
    dsimp only
    refine wpC_any ?_
    walk_at "ks"
    refine wpC_any ?_
    walk_at "ks"
    refine wpC_any ?_
    (try k_fold)
    walk_at "ks"
    refine wpC_any ?_
    (try k_fold)
    walk_at "ks"
    (rename Fr _ _ _ _ => F10)
    (rename News _ _ _ _ => N10)
    have hT := N10 _ (.head _)
    have kpe := kept_kpM (fa := fas outer) (mu := [dx]) F10 k1 N (fun p hp n => by
      rcases List.mem_cons.mp hp with rfl | hp
      · exact (N10 _ (.tail _ (.tail _ (.head _)))).1
      · exact absurd (List.mem_singleton.mpr (congrArg Prod.fst (List.mem_singleton.mp hp))) n) (fun a o q _ => q) (fun a o q => ⟨o.slots, q⟩)
    (try (k_unfold; dsimp only))
    show qz _ _
    rw [hqz]
    (try dsimp only)
    refine hR.2.2 he1 hm _ _ _ _ _ D (new_of k1 hT.2.2 (not_two ?_ ?_)) hT.1 hDs (N10 (D, baObj b) (.tail _ (.head _))).1 (N10 (dx, _) (.tail _ (.tail _ (.tail _ (.head _))))).1 kpe
    · (first | k_extra "O" | omega)
    · (first | k_extra "O" | omega)
end
end Mine
namespace Mine
theorem zr_C16 : True := by
  w_top off
  k_with_none
  k_with "O" => first | decide | ((with_reducible refine rmk (by assumption) ?_); rfl) | ((with_reducible refine rm0 (by assumption) ?_); rfl) | ((with_reducible refine lel (by assumption) ?_); rfl) | ((with_reducible refine llt (by assumption) ?_); rfl) | ((with_reducible refine ltt (by assumption) ?_); rfl) | ((with_reducible refine ltl (by assumption) ?_); rfl) | ((with_reducible refine ilt (by assumption) ?_); rfl) | (with_reducible exact rmz (by assumption)) | (with_reducible assumption)
  exact True.intro
open PySem.Calls
theorem rebaseU {g h h' : Heap} {L dx : Addr} {fa : List Addr} {m : Str → Option Value} {news : List (Addr × Obj)} {newsF : Obj → List (Addr × Obj)} {o o' : Obj} (F : Fr g L h m) (N : News g L h news) (U : UpdF dx o news newsF) (x : Kp (L :: fa) [dx] h h') (hd : h'.get? dx = some o') (hn : ∀ p ∈ news, p.1 ∉ fa) :
    Fr (merge g h') L h' m ∧ News (merge g h') L h' (newsF o') ∧ (∀ a o, g.get? a = some o → a ∉ fa → (merge g h').get? a = some o) ∧ (∀ a o, g.get? a = some o → ∃ sl, (merge g h').get? a = some { o with slots := sl }) ∧ (∀ a o, (merge g h').get? a = some o → ∃ o', g.get? a = some o') := by
  obtain ⟨pre, post, rfl, hf, ua, uc⟩ := U.split
  have hdx := N (dx, o) (List.mem_append.mpr (.inr (.head _)))
  have gdx : ∀ a o, g.get? a = some o → a ∉ [dx] := fun a o e m => by rw [List.mem_singleton.mp m, hdx.2.2] at e; cases e
  have k : ∀ a o, g.get? a = some o → ∃ o', h'.get? a = some o' := fun a o e => let ⟨_, sl, q⟩ := x a o (F.keep a o e) (gdx a o e); ⟨_, q⟩
  have gL : ∀ a o, g.get? a = some o → a ≠ L := fun a o e q => absurd (Nat.lt_of_lt_of_le (Heap.lt_size e) F.above) (by rw [q]; exact Nat.lt_irrefl _)
  have mN : ∀ a, g.get? a = none → (merge g h').get? a = none := fun a e => by
    cases z : (merge g h').get? a with
    | none => rfl
    | some o =>
      obtain ⟨_, o', q⟩ := of_merge (k _) z
      rw [e] at q; cases q
  have keepP : ∀ p ∈ pre ++ (dx, o) :: post, p.1 ≠ dx → h'.get? p.1 = some p.2 ∧ p.1 ≠ L ∧ (merge g h').get? p.1 = none := fun p hp ne => by
    obtain ⟨n1, n2, n3⟩ := N p hp
    refine ⟨(x _ _ n1 (fun m => ne (List.mem_singleton.mp m))).1 (fun q => ?_), n2, mN _ n3⟩
    rcases List.mem_cons.mp q with q | q
    · exact n2 q
    · exact hn p hp q
  refine ⟨⟨x.ns (fun m => hdx.2.1 (List.mem_singleton.mp m).symm) F.ns, fun a o e => (of_merge (k a) e).1, by rw [merge_size]; exact F.above⟩, ?_, fun a o e f => ?_, fun a o e => ?_, fun a o e => (of_merge (k a) e).2⟩
  · rw [hf]
    intro p hp
    rcases List.mem_append.mp hp with hp | hp
    · exact keepP p (List.mem_append.mpr (.inl hp)) (ua p hp)
    · rcases List.mem_cons.mp hp with rfl | hp
      · exact ⟨hd, hdx.2.1, mN _ hdx.2.2⟩
      · exact keepP p (List.mem_append.mpr (.inr (.tail _ hp))) (uc p hp)
  · refine merge_get e ((x _ _ (F.keep _ _ e) (gdx _ _ e)).1 fun q => ?_)
    rcases List.mem_cons.mp q with q | q
    · exact gL _ _ e q
    · exact f q
  · obtain ⟨_, sl, q⟩ := x _ _ (F.keep _ _ e) (gdx _ _ e)
    exact ⟨sl, merge_get e q⟩
section
theorem zw_C16_55 : True := by
  k_with_none
  k_with "O" => first | decide | ((with_reducible refine rmk (by assumption) ?_); rfl) | ((with_reducible refine rm0 (by assumption) ?_); rfl) | ((with_reducible refine lel (by assumption) ?_); rfl) | ((with_reducible refine llt (by assumption) ?_); rfl) | ((with_reducible refine ltt (by assumption) ?_); rfl) | ((with_reducible refine ltl (by assumption) ?_); rfl) | ((with_reducible refine ilt (by assumption) ?_); rfl) | (with_reducible exact rmz (by assumption)) | (with_reducible assumption)
  k_with "ks" => repeat' (first | (k_unfold; (try dsimp only)) | (k_end; wrow_close) | ((fail_if_success (with_reducible show wpAny _ _ (pyIter _) (fun it s₂ => LoopAtV _ _ _ _ _ _ _ _ _ it s₂) _ _)); (fail_if_success (with_reducible show wpAny _ _ (exec (Stmt.While _ _ _ _) _) _ _ _)); (fail_if_success (with_reducible show wpAny _ _ (exec (Stmt.Try _ _ _ _ _) _) _ _ _)); (first | k_extra "H" | walk1)) | ((fail_if_success (with_reducible show wpAny _ _ (pyIter _) (fun it s₂ => LoopAtV _ _ _ _ _ _ _ _ _ it s₂) _ _)); (fail_if_success (with_reducible show wpAny _ _ (exec (Stmt.While _ _ _ _) _) _ _ _)); (fail_if_success (with_reducible show wpAny _ _ (exec (Stmt.Try _ _ _ _ _) _) _ _ _)); dsimp only; (first | k_extra "H" | walk1)) | fail "no step")
  k_with "H" => ((with_reducible show wpAny _ _ (getAttr (Value.ref _) _ _) _ _ _); (k_here; k_dflt (refine' exc_getK ?k1 ?k2 ?k3 ?k4 ?k5 ?k6 ?k7 ?k8 ?k9 ?c1 ?c2 ?_; (case k1 => k_asm); (case k2 => k_asm); (case k3 => k_asm); (case k4 => k_mem); (case k5 => k_mem); (case k6 => k_is); (case k7 => rfl); (case k8 => k_is); (case k9 => k_is); (case c1 => exact findObj_own (by k_is) (by k_is) (by rfl) (by rfl)); (case c2 => rfl))))
  exact True.intro
set_option maxHeartbeats 4000000 in
theorem lset_s_code {w : World} {mean : ExcName → Option Value} {mg mb : Str → Option Value} {dp un : Nat} {fr : Option (List Env)} {gd : Option (List Code)} {R : Result → Shared → Prop} {s : Shared} {h₀ : Heap} {outer : List Env} {x dx : Addr} {n1 n2 n3 : Tok} {v1 : Value} {ec : Str} {te : Tok} {v3 : Bool} {y : Str} {t : Tok}
    (S : ∀ b o, h₀.get? b = some o → s.heap.get? b = some o) (X₀ : (Mine.hh.heap_1_39 w.params).In h₀) (T : Top Mine.hh.view_1_40 (looseW Mine.hh.view_1_40 [Str.ofString "PyFATException", Str.ofString "errno", Str.ofString "EightDotThree"]) mean mg mb h₀)
    (N : ∀ p ∈ ([(x, oneObj dx), (dx, oneD w.params n1 n2 n3 v1 (.str ec te) (.bool v3))] : List (Addr × Obj)), s.heap.get? p.1 = some p.2 ∧ h₀.get? p.1 = none)
    (hroom : dp + 50 < recursionLimit) (hfr : fr = some outer) (hfun : s.heap.FunFrames h₀ outer) (hoff : ∀ a ∈ fas outer, a ∉ ([(x, oneObj dx), (dx, oneD w.params n1 n2 n3 v1 (.str ec te) (.bool v3))] : List (Addr × Obj)).map (·.1)) (hy : y.length ≤ 20)
    (hR : (¬ ConfP y → ∀ h' tk T t1 t2, s.heap.get? T = none → h'.get? T = some (tup2 (.str (Str.ofString "form") t1) (.int 22 t2)) → Kp (fas outer) [] s.heap h' → R (.ok (.ret (.ref T))) { s with heap := h', toks := tk }) ∧ (ConfP y → ∀ h' tk T t1 t2 D b, s.heap.get? T = none → h'.get? T = some (tup2 (.str (Str.ofString "good") t1) (.int 0 t2)) → s.heap.get? D = none → h'.get? D = some (baObj b) → KBw.bInts b = setL y → h'.get? dx = some (oneD w.params n1 n2 n3 (.ref D) (.str ec te) (.bool true)) → Kp (fas outer) [dx] s.heap h' → R (.ok (.ret (.ref T))) { s with heap := h', toks := tk })) :
    codeC (model PySem.Challenge.rw_kj0039_01.row.prog w) { handled := none, depth := dp, frames := fr, guards := gd, units := un } (.call (.ref 298) ⟨[.ref x, .bool false, .str y t], []⟩) R s := by
  revert X₀; k_fill; intro X₀
  refine' enterC (f := 298) (mm := (fun zq => List.lookup zq [(Str.ofString "value", .str y t), (Str.ofString "octets", .bool false), (Str.ofString "one", .ref x)])) S X₀ T N ?ho ?hcd ?hr ?hb ?hmm ?hloc ?_ ?c1 ?c2 ?c3 ?c4
  case ho => k_is
  case hcd => k_is
  case hr => show dp < recursionLimit; (first | k_extra "O" | omega)
  case hb => exact BindsTo.of_eq rfl
  case hmm => first | rfl | kernel_rfl | with_unfolding_all rfl
  case hloc => exact locs rfl
  case c1 => exact rfl
  case c2 => exact rfl
  case c3 => exact rfl
  case c4 => decide
  intro g L' h₁ tkA k1 k2 k3 F' N' X' T' k4 k5
  (try dsimp only)
  refine foldC fun qz ez hqz hez => ?_
  have hL := top_none s.heap k5
  obtain ⟨fo, fdo, hlk, hdat⟩ : ∃ o fd, (Mine.hh.heap_1_39 w.params).lookup 172 = some o ∧ o.data = Data.func fd := ⟨_, _, by k_is, rfl⟩
  refine C_execs_cons (C_Try (C_execs_cons (C_If (wpC_any ?_))))
  (try k_fold)
  walk_at "ks"
  refine C_execs_cons (C_Expr (C_MethodCall ?_))
  (try k_fold)
  walk_at "ks"
  refine C_callWith_fn hdat ?_
  (try k_fold)
  walk_at "ks"
  · (rename Fr _ _ _ _ => F9)
    exact (X'.keeps F9.keep) _ _ hlk
  (rename Fr _ _ _ _ => F9)
  (rename News _ _ _ _ => N9)
  subst hfr
  have hfunX := hfun
  have kk := kept_all F9 k1 N (fun p hp => (N9 p hp).1)
  have on9 := off_led k1 hfun hoff N9
  have ne3 : x ≠ dx := obj_ne (N _ (.head _)).1 (N _ (.tail _ (.head _))).1 (by simp)
  show wpC _ _ (call (Value.ref 172) [Value.ref x, Value.str y t]) _ _ _
  refine wpC_call (sets_code (n1 := n1) (n2 := n2) (n3 := n3) (v1 := v1) (ec := ec) (te := te) (v3 := v3) (dx := dx) (fun b o q => F9.keep _ _ (k3 _ _ q)) X₀ T (fun p hp => ⟨(N9 p hp).1, (N p hp).2⟩) (by show dp + 1 + 30 < _; (first | k_extra "O" | omega)) rfl (fun_here F9 k3 hfun kk rfl) (fun a ha m => ?_) hy ⟨fun hne h' e d tk n u B th hB hdn => ?_, fun hc h' tk D b hDn hD hb hdx kp => ?_⟩)
  · rcases List.mem_cons.mp ha with rfl | ha
    · obtain ⟨p, hp, e⟩ := List.mem_map.mp m
      have := k4 p hp
      rw [e] at this
      exact absurd this (Nat.lt_irrefl _)
    · exact hoff a ha m
  · dsimp only
    refine caught (Around.frames_deeper rfl) rfl th fun h2 f2 u2 => ?_
    have kp2 := th.kpf (fun_here F9 k3 hfun kk rfl) f2 u2
    obtain ⟨F2, N2, g1, g2, _⟩ := rebase F9 N9 kp2 on9
    have st2 := base_merge k3 hfunX g1
    have X2 := X₀.keeps st2
    have T2 := T.keeps st2
    refine handle_as (K := Mine.hh.heap_1_39 w.params) (cls := .ref 41) (c := .ref 41) (b := true) (by first | rfl | kernel_rfl) ?_
    walk_at "ks"
    · exact f2.at
    refine land f2 fun h3 f3 u3 => ?_
    clear F2 N2 g1 g2 st2 X2 T2 kp2
    have kp3 := th.kpf (fun_here F9 k3 hfun kk rfl) f3 (u2.trans u3)
    obtain ⟨F3, N3, g1, g2, g3⟩ := rebase F9 N9 kp3 on9
    have st3 := base_merge k3 hfunX g1
    have X3 := X₀.keeps st3
    have T3 := T.keeps st3
    have hB3 := f3.1 _ _ hB
    obtain ⟨_, _, _, vs3, sl3, T3, ts3, oT3, he3, _⟩ := f3
    have mn : ∀ a, (∀ o, g.get? a = some o → False) → (merge g h3).get? a = none := fun a k => by
      cases q : (merge g h3).get? a with
      | none => rfl
      | some o => obtain ⟨o', q'⟩ := g3 _ _ q; exact absurd q' (fun z => k _ z)
    have ge : (merge g h3).get? e = none := mn e fun o q => by have z := th.new; rw [F9.keep _ _ q] at z; cases z
    have gd : (merge g h3).get? d = none := mn d fun o q => by have z := hdn; rw [F9.keep _ _ q] at z; cases z
    have N4 := add_news (add_news N3 hB3 gd (ne_local F9 hdn)) he3 ge (ne_local F9 th.new)
    clear N3
    walk_at "ks"
    (rename Fr _ _ _ _ => F10)
    (rename News _ _ _ _ => N10)
    have kpe := kept_kp F10 k1 N (fun p hp => (N10 p (.tail _ (.tail _ (.tail _ hp)))).1) g1 g2
    have hT := N10 _ (.head _)
    (try (k_unfold; dsimp only))
    show qz _ _
    rw [hqz]
    (try dsimp only)
    refine hR.1 hne _ _ _ _ _ (new_ofM k1 g2 hT.2.2 (not_two ?_ ?_)) hT.1 kpe
    · (first | k_extra "O" | omega)
    · (first | k_extra "O" | omega)
  · obtain ⟨F5, N5, g1, g2, g3⟩ := rebaseU F9 N9 (UpdF.tail ne3 (UpdF.head (List.forall_mem_nil _))) kp hdx on9
    have gD : (merge g h').get? D = none := by
      cases q : (merge g h').get? D with
      | none => rfl
      | some o =>
        obtain ⟨o', q'⟩ := g3 _ _ q
        have z := hDn
        rw [F9.keep _ _ q'] at z; cases z
    have N6 := add_news N5 hD gD (ne_local F9 hDn)
    have hDs := size_fresh (n := 0) kk hDn
    clear N5
    have st2 := base_merge k3 hfunX g1
    have X2 := X₀.keeps st2
    have T2 := T.keeps st2
    dsimp only
    refine wpC_any ?_
    walk_at "ks"
    refine wpC_any ?_
    walk_at "ks"
    refine wpC_any ?_
    walk_at "ks"
    refine wpC_any ?_
    (try k_fold)
    walk_at "ks"
    (rename Fr _ _ _ _ => F10)
    (rename News _ _ _ _ => N10)
    have hT := N10 _ (.head _)
    have kpe := kept_kpM (fa := fas outer) (mu := [dx]) F10 k1 N (fun p hp n => by
      rcases List.mem_cons.mp hp with rfl | hp
      · exact (N10 _ (.tail _ (.tail _ (.head _)))).1
      · exact absurd (List.mem_singleton.mpr (congrArg Prod.fst (List.mem_singleton.mp hp))) n) g1 g2
    (try (k_unfold; dsimp only))
    show qz _ _
    rw [hqz]
    (try dsimp only)
    refine hR.2 hc _ _ _ _ _ D b (new_ofM k1 g2 hT.2.2 (not_two ?_ ?_)) hT.1 hDs (N10 (D, baObj b) (.tail _ (.head _))).1 hb (N10 (dx, _) (.tail _ (.tail _ (.tail _ (.head _))))).1 kpe
    · (first | k_extra "O" | omega)
    · (first | k_extra "O" | omega)
end
end Mine
namespace Mine
theorem zr_P3 : True := by
  w_top off
  k_with_none
  k_with "O" => first | decide | ((with_reducible refine rmk (by assumption) ?_); rfl) | ((with_reducible refine rm0 (by assumption) ?_); rfl) | ((with_reducible refine lel (by assumption) ?_); rfl) | ((with_reducible refine llt (by assumption) ?_); rfl) | ((with_reducible refine ltt (by assumption) ?_); rfl) | ((with_reducible refine ltl (by assumption) ?_); rfl) | ((with_reducible refine ilt (by assumption) ?_); rfl) | (with_reducible exact rmz (by assumption)) | (with_reducible assumption)
  exact True.intro
open PySem.Calls
theorem up_alph0 : ∀ c ∈ alph, ∃ d, Txt.upper ⟨#[c]⟩ = strL [d] := by
  have h : ∀ c ∈ alph, (Txt.upper ⟨#[c]⟩).cps.toList = [(Txt.upper ⟨#[c]⟩).cps.toList.headD 0] := by decide +kernel
  exact fun c hc => ⟨_, str_ext (h c hc)⟩
theorem up_cons (c : Nat) (l : List Nat) : Txt.upper (strL (c :: l)) = Txt.upper ⟨#[c]⟩ ++ Txt.upper (strL l) := by
  rw [← PySem.W.KOpn.upper_app]
  exact congrArg Txt.upper (str_ext (by rw [app_toList]; rfl))
theorem up_all : ∀ {l : List Nat}, (∀ c ∈ l, c ∈ alph) → (strL l = Txt.upper (strL l) ↔ ∀ c ∈ l, Txt.upper ⟨#[c]⟩ = ⟨#[c]⟩)
  | [], _ => by
    refine ⟨fun _ c hc => (by cases hc), fun _ => ?_⟩
    decide +kernel
  | c :: l, h => by
    obtain ⟨d, hd⟩ := up_alph0 c (h c (.head _))
    have ih := up_all (l := l) fun a ha => h a (.tail _ ha)
    rw [up_cons, hd]
    have e1 : (strL [d] ++ Txt.upper (strL l)).cps.toList = d :: (Txt.upper (strL l)).cps.toList := by rw [app_toList]; rfl
    constructor
    · intro q a ha
      have q' : (strL (c :: l)).cps.toList = (strL [d] ++ Txt.upper (strL l)).cps.toList := congrArg (fun z : Str => z.cps.toList) q
      rw [e1, strL_toList] at q'
      injection q' with q1 q2
      rcases List.mem_cons.mp ha with rfl | ha
      · rw [hd, ← q1]; rfl
      · exact ih.mp (str_ext q2) a ha
    · intro q
      have q0 := q c (.head _)
      rw [hd] at q0
      have q1 := congrArg (fun z : Str => z.cps.toList) q0
      have q1 : [d] = [c] := q1
      injection q1 with q1
      subst q1
      refine str_ext ?_
      rw [e1, strL_toList, ← ih.mpr fun a ha => q a (.tail _ ha)]
      rfl
theorem okC_iff : ∀ c ∈ alph, (okC c = true ↔ ((c < 256 ∧ c ∉ invL) ∧ Txt.upper ⟨#[c]⟩ = ⟨#[c]⟩)) := by decide +kernel
theorem oct_alph : ∀ c ∈ alph, c < 256 → (c = 32 ∨ (33 ≤ c ∧ c ≤ 126) ∨ (161 ≤ c ∧ c ≤ 255)) := by decide +kernel
theorem cut_any {l p q : List Nat} (hc : cut 46 l = some (p, q)) : (splitL l = (p, 46 :: q) ∧ partsL l = (p, q)) ∨ (splitL l = (l, []) ∧ partsL l = (l, [])) ∨ (splitL l = (l, []) ∧ partsL l = (p, q) ∧ 47 ∈ l) := by
  unfold splitL partsL
  rw [hc]
  dsimp only
  by_cases h1 : (p.drop (lastAt 47 l + 1).toNat).any (· != 46) = true
  · refine .inl ⟨if_pos h1, if_pos ?_⟩
    rw [List.any_eq_true] at h1 ⊢
    obtain ⟨c, hm, hn⟩ := h1
    exact ⟨c, (List.drop_sublist _ _).mem hm, hn⟩
  · rw [if_neg h1]
    by_cases h2 : p.any (· != 46) = true
    · refine .inr (.inr ⟨rfl, if_pos h2, ?_⟩)
      by_cases h3 : 47 ∈ l
      · exact h3
      · exfalso
        have e : lastAt 47 l = -1 := by unfold lastAt; rw [cut_none.mpr h3]
        rw [e] at h1
        exact h1 (by simpa using h2)
    · exact .inr (.inl ⟨rfl, if_neg h2⟩)
/-- the two splits of a text that conforms, or that it does not. -/
theorem conf_law {y : Str} (hal : ∀ c ∈ y.cps.toList, c ∈ alph) : (ConfP y ↔ conformB y.cps.toList = true) ∧ (ConfP y → rootL y = (partsL y.cps.toList).1 ∧ extL y = (partsL y.cps.toList).2) := by
  have hu : y = Txt.upper y ↔ ∀ c ∈ y.cps.toList, Txt.upper ⟨#[c]⟩ = ⟨#[c]⟩ := up_all hal
  have key : ∀ a b : List Nat, (∀ c ∈ a, c ∈ y.cps.toList) → (∀ c ∈ b, c ∈ y.cps.toList) → (∀ c ∈ y.cps.toList, c ∈ a ∨ c ∈ b ∨ c = 46) →
      ((y = Txt.upper y ∧ a.length ≤ 8 ∧ b.length ≤ 3 ∧ okAll a ∧ okAll b) ↔ (decide (a.length ≤ 8) && decide (b.length ≤ 3) && (a ++ b).all okC) = true) := by
    intro a b ha hb hab
    rw [hu]
    simp only [Bool.and_eq_true, decide_eq_true_eq, List.all_eq_true, List.mem_append]
    constructor
    · rintro ⟨h1, h2, h3, h4, h5⟩
      refine ⟨⟨h2, h3⟩, fun c hc => ?_⟩
      rcases hc with hc | hc
      · exact (okC_iff c (hal c (ha c hc))).mpr ⟨h4 c hc, h1 c (ha c hc)⟩
      · exact (okC_iff c (hal c (hb c hc))).mpr ⟨h5 c hc, h1 c (hb c hc)⟩
    · rintro ⟨⟨h2, h3⟩, h4⟩
      refine ⟨fun c hc => ?_, h2, h3, fun c hc => ((okC_iff c (hal c (ha c hc))).mp (h4 c (.inl hc))).1, fun c hc => ((okC_iff c (hal c (hb c hc))).mp (h4 c (.inr hc))).1⟩
      rcases hab c hc with z | z | rfl
      · exact ((okC_iff c (hal c hc)).mp (h4 c (.inl z))).2
      · exact ((okC_iff c (hal c hc)).mp (h4 c (.inr z))).2
      · decide +kernel
  cases hc : cut 46 y.cps.toList with
  | none =>
    have e1 : splitL y.cps.toList = (y.cps.toList, []) := by unfold splitL; rw [hc]
    have e2 : partsL y.cps.toList = (y.cps.toList, []) := by unfold partsL; rw [hc]
    have er : rootL y = y.cps.toList := by unfold rootL; rw [e1]
    have ee : extL y = [] := by unfold extL; rw [e1]; rfl
    refine ⟨?_, fun _ => by rw [er, ee, e2]; exact ⟨rfl, rfl⟩⟩
    unfold ConfP conformB
    rw [er, ee, e2]
    exact key _ _ (fun _ h => h) (fun _ h => by cases h) fun _ h => .inl h
  | some pq =>
    obtain ⟨p, q⟩ := pq
    obtain ⟨hl, hq⟩ := cut_some hc
    have m46 : 46 ∈ y.cps.toList := by rw [hl]; simp
    have noP : okAll y.cps.toList → False := fun h => (h 46 m46).2 (by decide)
    rcases cut_any hc with ⟨e1, e2⟩ | ⟨e1, e2⟩ | ⟨e1, e2, m47⟩
    · have er : rootL y = p := by unfold rootL; rw [e1]
      have ee : extL y = q := by unfold extL; rw [e1]; rfl
      refine ⟨?_, fun _ => by rw [er, ee, e2]; exact ⟨rfl, rfl⟩⟩
      unfold ConfP conformB
      rw [er, ee, e2]
      refine key _ _ (fun c h => ?_) (fun c h => ?_) fun c h => ?_
      · rw [hl]; exact List.mem_append.mpr (.inl h)
      · rw [hl]; exact List.mem_append.mpr (.inr (.tail _ h))
      · rw [hl] at h
        rcases List.mem_append.mp h with h | h
        · exact .inl h
        · rcases List.mem_cons.mp h with h | h
          · exact .inr (.inr h)
          · exact .inr (.inl h)
    · have er : rootL y = y.cps.toList := by unfold rootL; rw [e1]
      have hn : ¬ ConfP y := fun h => noP (er ▸ h.2.2.2.1)
      refine ⟨⟨fun h => absurd h hn, fun h => ?_⟩, fun h => absurd h hn⟩
      exfalso
      unfold conformB at h
      rw [e2] at h
      simp only [Bool.and_eq_true, decide_eq_true_eq, List.all_eq_true, List.append_nil] at h
      have := h.2 46 m46
      exact absurd this (by decide +kernel)
    · have er : rootL y = y.cps.toList := by unfold rootL; rw [e1]
      have hn : ¬ ConfP y := fun h => noP (er ▸ h.2.2.2.1)
      refine ⟨⟨fun h => absurd h hn, fun h => ?_⟩, fun h => absurd h hn⟩
      exfalso
      unfold conformB at h
      rw [e2] at h
      simp only [Bool.and_eq_true, decide_eq_true_eq, List.all_eq_true, List.mem_append] at h
      rw [hl] at m47
      have m47' : 47 ∈ p ∨ 47 ∈ q := by
        rcases List.mem_append.mp m47 with h | h
        · exact .inl h
        · rcases List.mem_cons.mp h with h | h
          · cases h
          · exact .inr h
      have := h.2 47 m47'
      exact absurd this (by decide +kernel)
theorem drop_nat : ∀ {l : List Nat}, (∀ c ∈ l, Unicode.isSpace c = (c == 32)) → (l.dropWhile Unicode.isSpace).map (fun c => ((c : Nat) : Int)) = (l.map fun c => ((c : Nat) : Int)).dropWhile (· == 32)
  | [], _ => rfl
  | c :: l, h => by
    have e := h c (.head _)
    by_cases q : c = 32
    · subst q
      rw [List.dropWhile_cons_of_pos (by rw [e]; rfl), List.map_cons, List.dropWhile_cons_of_pos (by rfl)]
      exact drop_nat fun a ha => h a (.tail _ ha)
    · rw [List.dropWhile_cons_of_neg (by rw [e]; simpa using q), List.map_cons, List.dropWhile_cons_of_neg (by simp; (first | k_extra "O" | omega))]
theorem strip_int {l : List Nat} (h : ∀ c ∈ l, Unicode.isSpace c = (c == 32)) : (stripN l).map (fun c => ((c : Nat) : Int)) = stripI l := by
  unfold stripN stripI bareL frontL
  rw [List.map_reverse, drop_nat, List.map_reverse, drop_nat h]
  intro c hc
  exact h c ((List.dropWhile_sublist _).mem (List.mem_reverse.mp hc))
theorem pad_int (n : Nat) (l : List Nat) : (padN n l).map (fun c => ((c : Nat) : Int)) = padI n (l.map fun c => ((c : Nat) : Int)) := by
  unfold padN padI
  rw [List.map_append, List.map_replicate, List.length_map]
  rfl
theorem split_sub {y : Str} : (∀ c ∈ rootL y, c ∈ y.cps.toList) ∧ ∀ c ∈ extL y, c ∈ y.cps.toList := by
  unfold rootL extL splitL
  cases hc : cut 46 y.cps.toList with
  | none => exact ⟨fun _ h => h, fun _ h => by cases h⟩
  | some pq =>
    obtain ⟨p, q⟩ := pq
    obtain ⟨hl, _⟩ := cut_some hc
    dsimp only
    split
    · refine ⟨fun c h => ?_, fun c h => ?_⟩
      · rw [hl]; exact List.mem_append.mpr (.inl h)
      · rw [hl]; exact List.mem_append.mpr (.inr (.tail _ h))
    · exact ⟨fun _ h => h, fun _ h => by cases h⟩
theorem space_alph : ∀ c ∈ alph, Unicode.isSpace c = (c == 32) := by decide +kernel
theorem pad_law {y : Str} (hal : ∀ c ∈ y.cps.toList, c ∈ alph) (h : ConfP y) : ords (padS y) = laidL y.cps.toList ∧ OctsOk (laidL y.cps.toList) := by
  obtain ⟨e1, e2⟩ := (conf_law hal).2 h
  obtain ⟨s1, s2⟩ := split_sub (y := y)
  have e : ords (padS y) = laidL y.cps.toList := by
    unfold ords laidL
    rw [pad_list, List.map_append, pad_int, pad_int, strip_int (fun c hc => space_alph c (hal c (s1 c hc))), strip_int (fun c hc => space_alph c (hal c (s2 c hc))), e1, e2]
  refine ⟨e, fun n hn => ?_⟩
  rw [← e] at hn
  obtain ⟨c, hc, rfl⟩ := List.mem_map.mp hn
  have := (pad_ok h).2.2 c hc
  have key : c = 32 ∨ c ∈ alph := by
    rw [pad_list] at hc
    rcases List.mem_append.mp hc with hc | hc
    · rcases padN_mem hc with hc | hc
      · exact .inr (hal c (s1 c (stripN_sub hc)))
      · exact .inl hc
    · rcases padN_mem hc with hc | hc
      · exact .inr (hal c (s2 c (stripN_sub hc)))
      · exact .inl hc
  unfold OctOk
  rcases key with rfl | hc'
  · exact .inl rfl
  · have := oct_alph c hc' this
    (first | k_extra "O" | omega)
theorem fix_ok {ns : List Int} (h : OctsOk ns) : fixL ns = ns := by
  refine fix_no fun q => ?_
  cases ns with
  | nil => cases q
  | cons a r =>
    have q : a = 5 := q
    have := h a (.head _)
    unfold OctOk at this
    (first | k_extra "O" | omega)
theorem set_fix {y : Str} (h : OctsOk (ords (padS y))) (hl : (ords (padS y)).length = 11) : fixL (setL y) = ords (padS y) := by
  unfold setL
  generalize ords (padS y) = ns at *
  by_cases q : ns.getD 0 0 = 229
  · rw [if_pos q]
    cases ns with
    | nil => cases q
    | cons a r =>
      have q : a = 229 := q
      subst q
      rfl
  · rw [if_neg q]
    exact fix_ok h
theorem set_len {y : Str} (hl : (ords (padS y)).length = 11) : (setL y).length = 11 := by
  unfold setL
  split <;> simp [hl]
end Mine
namespace Mine
theorem zr_D1 : True := by
  w_top off
  k_with_none
  k_with "O" => first | decide | ((with_reducible refine rmk (by assumption) ?_); rfl) | ((with_reducible refine rm0 (by assumption) ?_); rfl) | ((with_reducible refine lel (by assumption) ?_); rfl) | ((with_reducible refine llt (by assumption) ?_); rfl) | ((with_reducible refine ltt (by assumption) ?_); rfl) | ((with_reducible refine ltl (by assumption) ?_); rfl) | ((with_reducible refine ilt (by assumption) ?_); rfl) | (with_reducible exact rmz (by assumption)) | (with_reducible assumption)
  exact True.intro
open PySem.Calls
section
variable {w : World} {A : Around} {s : Shared} {env : Env}
theorem codeC_forLoop {R : Result → Shared → Prop} {target it body} (I : Nat → Shared → Prop)
    (turn : ∀ n s, I n s → wpAny (model PG w) A (pyNext it) (fun r s₁ => match r with
      | none => R (.ok .next) s₁
      | some v => wpAny (model PG w) A (assign target env v) (fun _ s₂ => wpC (model PG w) A (execs body env) (fun f s₃ => match f with
          | .next | .cont => ∃ m, m < n ∧ I m s₃
          | .brk => R (.ok .next) s₃
          | .ret v => R (.ok (.ret v)) s₃) (fun _ _ => False) s₂) (fun _ _ => False) s₁) (fun _ _ => False) s)
    (n : Nat) (h : I n s) (ht : ∀ v, letOwnedTupleGo target it v = pure () := by intro _; rfl) : codeC (model PG w) A (.forLoop target it body [] env) R s := by
  refine codeC_loop rfl rfl I (fun n s hI => ?_) n h
  show wpC _ _ ((forTurn target it body [] env).onRaise (fun x => do noteFrame x env; theTreesLotGoes x)) _ _ s
  refine wpC_onRaise ?_
  simp only [forTurn]
  refine wpC_mono (E := fun _ _ => False) ?_ (fun _ _ q => q) fun _ _ q => q.elim
  refine wpC_leaf (wpAny_standAt (wpC_leaf (wpAny_onRaise (wpAny_mono (turn n s hI) (fun r s₁ h₁ => ?_) fun _ _ h' => h'.elim))))
  cases r with
  | none => exact wpC_pure (.inr ⟨rfl, codeC_any (codeAny_block (wpAny_execs_nil h₁))⟩)
  | some v =>
    refine wpC_leaf (wpAny_of_eq (ht v) ?_)
    refine wpC_leaf (wpAny_mono h₁ (fun _ s₂ h₂ => wpC_bind (wpC_mono h₂ (fun f s₃ h₃ => ?_) fun _ _ h' => h')) fun _ _ h' => h')
    cases f with
    | next => exact wpC_pure (.inl ⟨rfl, h₃⟩)
    | cont => exact wpC_pure (.inl ⟨rfl, h₃⟩)
    | brk => exact wpC_pure h₃
    | ret v => exact wpC_pure h₃
theorem C_For {E : Value → Shared → Prop} {x : Str} {px pos : Pos} {iter : Expr} {body : List Stmt} {Q : Flow → Shared → Prop}
    (h : wpAny (model PG w) A (eval iter env) (fun xv s₁ => wpAny (model PG w) A (pyIter xv) (fun it s₂ =>
      codeC (model PG w) A (.forLoop (.Name x px) it body [] env) (fun r s' => match r with | .ok f => Q f s' | .error e => False) s₂) E s₁) E s)
    (hs : ∀ x, foldedSetIterable iter env x = pure x := by intro _; rfl) :
    wpC (model PG w) A (exec (.For (.Name x px) iter body [] pos) env) Q E s := by
  rw [exec_For]
  refine wpC_leaf (wpAny_standAt (wpC_leaf (wpAny_mono h (fun xv s₁ h₁ => wpC_leaf (wpAny_of_eq (hs xv) (wpC_leaf (wpAny_standAt (wpC_leaf (wpAny_holding (wpAny_mono h₁ (fun it s₂ h₂ => ?_) fun _ _ e => e))))))) fun _ _ e => e)))
  unfold runOwn
  refine wpC_onRaise (wpC_run (codeC_mono h₂ fun r s' q => ?_))
  cases r with
  | ok f => exact q
  | error e => exact q.elim
theorem C_for_list {h₀ : Heap} {l : Addr} {vs : List Value} {led : List (Addr × Obj)} {m₀ : Str → Option Value} {x : Str} {px : Pos} {body : List Stmt} {Q : Flow → Shared → Prop} {E : Value → Shared → Prop} (J : Nat → (Str → Option Value) → List (Addr × Obj) → Prop)
    (hx : env.kindOf x = some .local) (hp : (env.scope.kind == .class || (env.scope.kind == .module && env.locals != env.globals)) = false)
    (hh : A.handled = none) (hl : s.heap.IsList l vs.toArray) (hlL : l ≠ env.locals) (hl0 : h₀.get? l = none) (hln : ∀ p ∈ led, p.1 ≠ l) (F : Fr h₀ env.locals s.heap m₀) (N : News h₀ env.locals s.heap led) (hj : J 0 m₀ led)
    (turn : ∀ i v m₁ nx h tk own, (∃ I o1 o2, own = [(I, o1), (l, o2)] ∧ I ≠ l) → vs[i]? = some v → J i m₁ nx → OwnOff own (nx.map (·.1)) → Fr h₀ env.locals h (fun z => if z = x then some v else m₁ z) → News h₀ env.locals h (nx ++ own) →
      wpC (model PG w) A (execs body env) (TPost h₀ env.locals (J (i + 1)) own { s with heap := h, toks := tk } Q) (fun _ _ => False) { s with heap := h, toks := tk })
    (done : ∀ m₁ nx h tk, J vs.length m₁ nx → Fr h₀ env.locals h m₁ → News h₀ env.locals h nx → Q .next { s with heap := h, toks := tk }) :
    wpAny (model PG w) A (pyIter (.ref l)) (fun it s₂ => codeC (model PG w) A (.forLoop (.Name x px) it body [] env) (fun r s' => match r with | .ok f => Q f s' | .error e => False) s₂) E s := by
  obtain ⟨ol, hol, hrest⟩ := id hl
  have hne : l ≠ s.heap.objs.size := Nat.ne_of_lt (Heap.lt_size hol)
  refine wpAny_pyIter_list hl ?_
  have W := Walks.list (prog := PG) (w := w) hh s.heap.objs.size l hne vs.toArray
  have hLf : env.locals ∉ [s.heap.objs.size, l] := fun hm => by
    rcases List.mem_cons.mp hm with e | hm
    · exact absurd (ns_lt F.ns) (e ▸ Nat.lt_irrefl _)
    · exact hlL (List.mem_singleton.mp hm).symm
  have hLw : env.locals ∉ [s.heap.objs.size] := fun h => hLf (W.sub _ h)
  have hwr := base_off F
  have old : ∀ b o, h₀.get? b = some o → b ∉ [s.heap.objs.size] := fun b o e hb => by rw [hwr b hb] at e; cases e
  have hled : ∀ p ∈ led, p.1 ∉ [s.heap.objs.size, l] := fun p hp hm => by
    rcases List.mem_cons.mp hm with e | hm
    · exact old_off N p hp (List.mem_singleton.mpr e)
    · exact hln p hp (List.mem_singleton.mp hm)
  have hst : (s.heap.push { cls := .type "list_iterator", data := .fields #[.ref l, .int 0 0] }).IsListIter s.heap.objs.size l 0 ∧ (s.heap.push { cls := .type "list_iterator", data := .fields #[.ref l, .int 0 0] }).IsList l vs.toArray :=
    ⟨⟨_, Heap.get?_push_size _ rfl, rfl, rfl⟩, hl.at fun o e => Heap.get?_push_of_some _ e⟩
  generalize hI : s.heap.objs.size = I at *
  have hex : ∀ (i : Nat) (h : Heap), (h.IsListIter I l i ∧ h.IsList l vs.toArray) → ∀ b ∈ [I, l], ∃ o, h.get? b = some o := fun i h st b hb => by
    rcases List.mem_cons.mp hb with rfl | hb
    · obtain ⟨o, ho, _⟩ := st.1; exact ⟨o, ho⟩
    · rw [List.mem_singleton.mp hb]; obtain ⟨o, ho, _⟩ := st.2; exact ⟨o, ho⟩
  refine codeC_forLoop
    (fun k s' => ∃ h' tk m' nx i, s' = { s with heap := h', toks := tk } ∧ (h'.IsListIter I l i ∧ h'.IsList l vs.toArray) ∧ Fr h₀ env.locals h' m' ∧ News h₀ env.locals h' nx ∧ (∀ p ∈ nx, p.1 ∉ [I, l]) ∧ J i m' nx ∧ i ≤ vs.length ∧ k = vs.length + 1 - i) ?_ (vs.length + 1)
    ⟨_, s.toks, m₀, led, 0, rfl, hst, F.push _, (fun p hp => ⟨Heap.get?_push_of_some _ (N p hp).1, (N p hp).2⟩), hled, hj, Nat.zero_le _, rfl⟩
  rintro k s' ⟨h', tk, m', nx, i, rfl, hst', F', N', hnf, hJ, hi, rfl⟩
  have next : ∀ h₁ : Heap, (∀ b o, b ∉ [I] → h'.get? b = some o → h₁.get? b = some o) → Fr h₀ env.locals h₁ m' ∧ News h₀ env.locals h₁ nx := fun h₁ hk₁ =>
    ⟨⟨F'.ns.at' fun o e => hk₁ _ o hLw e, fun b o e => hk₁ b o (old b o e) (F'.keep b o e), F'.above⟩, fun p hp => ⟨hk₁ _ _ (fun m => hnf p hp (W.sub _ m)) (N' p hp).1, (N' p hp).2⟩⟩
  by_cases hlt : i < vs.length
  · refine W.item i _ _ _ (by simpa using hlt) hst' fun v h₁ tk₁ hP hst₁ hk₁ => ?_
    obtain ⟨F₁, N₁⟩ := next h₁ hk₁
    refine wpAny_assign_Name (wpAny_storeName_local hx F₁.ns (fun h₂ hn₂ hs₂ => ?_) hp)
    have F₂ := F₁.set hn₂ hs₂
    have Nown : News h₀ env.locals h₂ (ownOf h₀ [I, l] h₂) := news_ownOf hLf
    have hst₂ : h₂.IsListIter I l (i + 1) ∧ h₂.IsList l vs.toArray := W.frame _ _ _ hst₁ fun b hb o e => (hs₂.2 b fun q => hLf (q ▸ hb)).trans e
    have off : OwnOff (ownOf h₀ [I, l] h₂) (nx.map (·.1)) := fun q hq b hb e => by
      obtain ⟨p, hp, rfl⟩ := List.mem_map.mp hb
      exact hnf p hp (e ▸ ownOf_sub q hq)
    have N₂ : News h₀ env.locals h₂ (nx ++ ownOf h₀ [I, l] h₂) := fun p hp => (List.mem_append.mp hp).elim (fun z => (N₁.set hs₂) p z) fun z => Nown p z
    have fin : ∀ s₃, TEnd h₀ env.locals (J (i + 1)) (ownOf h₀ [I, l] h₂) { s with heap := h₂, toks := tk₁ } s₃ → ∃ mm, mm < vs.length + 1 - i ∧ ∃ h' tk m' nx i, s₃ = { s with heap := h', toks := tk } ∧ (h'.IsListIter I l i ∧ h'.IsList l vs.toArray) ∧ Fr h₀ env.locals h' m' ∧ News h₀ env.locals h' nx ∧ (∀ p ∈ nx, p.1 ∉ [I, l]) ∧ J i m' nx ∧ i ≤ vs.length ∧ mm = vs.length + 1 - i := by
      rintro s₃ ⟨h₃, tk₃, m₃, news₃, nx₃, rfl, F₃, N₃, hn, ho, hf, hj₃⟩
      have nfp : ∀ p ∈ nx₃, p.1 ∉ [I, l] := fun p hp hb => by
        obtain ⟨o, hob⟩ := hex (i + 1) h₂ hst₂ p.1 hb
        cases q : h₀.get? p.1 with
        | some o' => have := (N₃ p (hn p hp)).2.2; rw [q] at this; cases this
        | none => exact hf (p.1, o) (mem_ownOf hb q hob) p.1 (List.mem_map_of_mem hp) rfl
      refine ⟨vs.length + 1 - (i + 1), by (first | k_extra "O" | omega), h₃, tk₃, m₃, nx₃, i + 1, rfl, ?_, F₃, fun p hp => N₃ p (hn p hp), nfp, hj₃, hlt, rfl⟩
      refine W.frame _ _ _ hst₂ fun b hb o e => ?_
      cases hn0 : h₀.get? b with
      | some o₀ =>
        have : o₀ = o := by have := F₂.keep b o₀ hn0; rw [e] at this; exact (Option.some.inj this).symm
        exact this ▸ F₃.keep b o₀ hn0
      | none => exact (N₃ _ (ho _ (mem_ownOf hb hn0 e))).1
    have hown : ∃ I' o1 o2, ownOf h₀ [I, l] h₂ = [(I', o1), (l, o2)] ∧ I' ≠ l := by
      obtain ⟨o1, e1⟩ := hex (i + 1) h₂ hst₂ I (.head _)
      obtain ⟨o2, e2⟩ := hex (i + 1) h₂ hst₂ l (.tail _ (.head _))
      refine ⟨I, o1, o2, ?_, Ne.symm hne⟩
      unfold PyProof.Rows.ownOf
      simp [hwr I (.head _), hl0, e1, e2]
    refine wpC_mono (turn i v m' nx h₂ _ _ hown (by simpa using hP) hJ off F₂ N₂) (fun f s₃ h₃ => ?_) fun _ _ e => e
    cases f with
    | ret v => exact h₃
    | brk => exact h₃
    | cont => exact fin _ h₃
    | next => exact fin _ h₃
  · have hin : i = vs.length := by (first | k_extra "O" | omega)
    subst hin
    refine W.done _ _ _ (by simpa using hst') fun h₁ tk₁ hk₁ => ?_
    obtain ⟨F₁, N₁⟩ := next h₁ hk₁
    exact done m' nx h₁ tk₁ hJ F₁ N₁
end
end Mine
namespace Mine
theorem zr_D2 : True := by
  w_top off
  k_with_none
  k_with "O" => first | decide | ((with_reducible refine rmk (by assumption) ?_); rfl) | ((with_reducible refine rm0 (by assumption) ?_); rfl) | ((with_reducible refine lel (by assumption) ?_); rfl) | ((with_reducible refine llt (by assumption) ?_); rfl) | ((with_reducible refine ltt (by assumption) ?_); rfl) | ((with_reducible refine ltl (by assumption) ?_); rfl) | ((with_reducible refine ilt (by assumption) ?_); rfl) | (with_reducible exact rmz (by assumption)) | (with_reducible assumption)
  exact True.intro
open PySem.Calls
theorem law_back {g h h' : Heap} {L : Addr} {m : Str → Option Value} {news : List (Addr × Obj)} {env : Env} (hf : env.frame = some L) (F : Fr g L h m) (N : News g L h news) (kp : Kp (fas [env]) [] h h') : Fr g L h' m ∧ News g L h' news := by
  have hfa : fas [env] = [L] := by unfold fas; rw [List.filterMap_cons, hf]; rfl
  rw [hfa] at kp
  have gL : ∀ a o, g.get? a = some o → a ∉ [L] := fun a o e q => absurd (Nat.lt_of_lt_of_le (Heap.lt_size e) F.above) (by rw [List.mem_singleton.mp q]; exact Nat.lt_irrefl _)
  exact ⟨⟨kp.ns List.not_mem_nil F.ns, fun a o e => (kp a o (F.keep a o e) List.not_mem_nil).1 (gL a o e), F.above⟩, fun p hp => ⟨(kp _ _ (N p hp).1 List.not_mem_nil).1 (fun q => (N p hp).2.1 (List.mem_singleton.mp q)), (N p hp).2⟩⟩
theorem law_backU {g h h' : Heap} {L dx : Addr} {m : Str → Option Value} {news : List (Addr × Obj)} {newsF : Obj → List (Addr × Obj)} {o o' : Obj} {env : Env} (hf : env.frame = some L) (F : Fr g L h m) (N : News g L h news) (U : UpdF dx o news newsF) (kp : Kp (fas [env]) [dx] h h') (hd : h'.get? dx = some o') : Fr g L h' m ∧ News g L h' (newsF o') := by
  have hfa : fas [env] = [L] := by unfold fas; rw [List.filterMap_cons, hf]; rfl
  rw [hfa] at kp
  have gL : ∀ a o, g.get? a = some o → a ∉ [L] := fun a o e q => absurd (Nat.lt_of_lt_of_le (Heap.lt_size e) F.above) (by rw [List.mem_singleton.mp q]; exact Nat.lt_irrefl _)
  obtain ⟨pre, post, rfl, hn, ua, uc⟩ := U.split
  have hdx := N (dx, o) (List.mem_append.mpr (.inr (.head _)))
  have gd : ∀ a o, g.get? a = some o → a ∉ [dx] := fun a o e m => by rw [List.mem_singleton.mp m, hdx.2.2] at e; cases e
  have keepP : ∀ p ∈ pre ++ (dx, o) :: post, p.1 ≠ dx → h'.get? p.1 = some p.2 ∧ p.1 ≠ L ∧ g.get? p.1 = none := fun p hp ne => ⟨(kp _ _ (N p hp).1 (fun m => ne (List.mem_singleton.mp m))).1 (fun q => (N p hp).2.1 (List.mem_singleton.mp q)), (N p hp).2⟩
  refine ⟨⟨kp.ns (fun m => hdx.2.1 (List.mem_singleton.mp m).symm) F.ns, fun a o e => (kp a o (F.keep a o e) (gd a o e)).1 (gL a o e), F.above⟩, ?_⟩
  rw [hn]
  intro p hp
  rcases List.mem_append.mp hp with hp | hp
  · exact keepP p (List.mem_append.mpr (.inl hp)) (ua p hp)
  · rcases List.mem_cons.mp hp with rfl | hp
    · exact ⟨hd, hdx.2⟩
    · exact keepP p (List.mem_append.mpr (.inr (.tail _ hp))) (uc p hp)
theorem law_fun {g h : Heap} {L : Addr} {m : Str → Option Value} {env : Env} (F : Fr g L h m) (hf : env.frame = some L) (hk : env.scope.kind ≠ .module) : h.FunFrames g [env] := by
  refine Heap.FunFrames.cons hk hf F.ns ?_ True.intro
  cases q : g.get? L with
  | none => rfl
  | some o => exact absurd (Nat.lt_of_lt_of_le (Heap.lt_size q) F.above) (Nat.lt_irrefl _)
theorem law_off {g h : Heap} {L : Addr} {news sub : List (Addr × Obj)} {env : Env} (hf : env.frame = some L) (N : News g L h news) (hs : ∀ p ∈ sub, p ∈ news) : ∀ a ∈ fas [env], a ∉ sub.map (·.1) := fun a ha m => by
  have hfa : fas [env] = [L] := by unfold fas; rw [List.filterMap_cons, hf]; rfl
  rw [hfa] at ha
  obtain ⟨p, hp, e⟩ := List.mem_map.mp m
  exact (N p (hs p hp)).2.1 (e.trans (List.mem_singleton.mp ha))
theorem conf1_L {w : World} {mean : ExcName → Option Value} {mg mb : Str → Option Value} {dp un : Nat} {fr : Option (List Env)} {env : Env} {gd : Option (List Code)} {E : Value → Shared → Prop} {s : Shared} {h₀ : Heap} {L : Addr} {m : Str → Option Value} {news : List (Addr × Obj)} {Q : Value → Shared → Prop} {y : Str} {t : Tok}
    (F : Fr h₀ L s.heap m) (X₀ : (Mine.hh.heap_1_39 w.params).In h₀) (N : News h₀ L s.heap news) (T : Top Mine.hh.view_1_40 (looseW Mine.hh.view_1_40 [Str.ofString "PyFATException", Str.ofString "errno", Str.ofString "EightDotThree"]) mean mg mb h₀) (hfr : fr = some [env]) (hf : env.frame = some L) (hk : env.scope.kind ≠ .module) (hroom : dp + 20 < recursionLimit) (hy : y.length ≤ 20) (hal : ∀ c ∈ y.cps.toList, c ∈ alph)
    (h : ∀ h' tk, Fr h₀ L h' m → News h₀ L h' news → Q (.bool (conformB y.cps.toList)) { s with heap := h', toks := tk }) :
    wpAny (model PySem.Challenge.rw_kj0039_01.row.prog w) { handled := none, depth := dp, frames := fr, guards := gd, units := un } (call (.ref 197) [.str y t]) Q E s := by
  subst hfr
  refine wpAny_call (conf1_code F.keep X₀ T (fun p hp => absurd hp List.not_mem_nil) hroom rfl (law_fun F hf hk) hy fun bb h' tk hb kp => ?_)
  obtain ⟨F', N'⟩ := law_back hf F N kp
  have e : bb = conformB y.cps.toList := Bool.eq_iff_iff.mpr (hb.trans (conf_law hal).1)
  subst e
  exact h h' tk F' N'
theorem holds_none_L {w : World} {mean : ExcName → Option Value} {mg mb : Str → Option Value} {dp un : Nat} {fr : Option (List Env)} {env : Env} {gd : Option (List Code)} {E : Value → Shared → Prop} {s : Shared} {h₀ : Heap} {L : Addr} {m : Str → Option Value} {news : List (Addr × Obj)} {Q : Value → Shared → Prop} {x dx : Addr} {n1 n2 n3 : Tok} {v1 v2 : Value}
    (F : Fr h₀ L s.heap m) (X₀ : (Mine.hh.heap_1_39 w.params).In h₀) (N : News h₀ L s.heap news) (T : Top Mine.hh.view_1_40 (looseW Mine.hh.view_1_40 [Str.ofString "PyFATException", Str.ofString "errno", Str.ofString "EightDotThree"]) mean mg mb h₀) (hfr : fr = some [env]) (hf : env.frame = some L) (hk : env.scope.kind ≠ .module) (hroom : dp + 25 < recursionLimit) (hx : (x, oneObj dx) ∈ news) (hdx : (dx, oneD w.params n1 n2 n3 v1 v2 (.bool false)) ∈ news)
    (h : ∀ h' tk, Fr h₀ L h' m → News h₀ L h' news → Q (.bool true) { s with heap := h', toks := tk }) :
    wpAny (model PySem.Challenge.rw_kj0039_01.row.prog w) { handled := none, depth := dp, frames := fr, guards := gd, units := un } (call (.ref 312) [.ref x, .none]) Q E s := by
  subst hfr
  have sub2 : ∀ p ∈ ([(x, oneObj dx), (dx, oneD w.params n1 n2 n3 v1 v2 (.bool false))] : List (Addr × Obj)), p ∈ news := fun p hp => by
    rcases List.mem_cons.mp hp with rfl | hp
    · exact hx
    · rw [List.mem_singleton.mp hp]; exact hdx
  refine wpAny_call (holds_none_code (n1 := n1) (n2 := n2) (n3 := n3) (v1 := v1) (v2 := v2) (dx := dx) F.keep X₀ T (fun p hp => ⟨(N _ (sub2 p hp)).1, (N _ (sub2 p hp)).2.2⟩) hroom rfl (law_fun F hf hk) (law_off hf N sub2) fun h' tk kp => ?_)
  obtain ⟨F', N'⟩ := law_back hf F N kp
  exact h h' tk F' N'
theorem holds_some_K {w : World} {mean : ExcName → Option Value} {mg mb : Str → Option Value} {dp un : Nat} {fr : Option (List Env)} {gd : Option (List Code)} {E : Value → Shared → Prop} {s : Shared} {h₀ : Heap} {L : Addr} {m : Str → Option Value} {news : List (Addr × Obj)} {Q : Value → Shared → Prop} {x dx D H : Addr} {n1 n2 n3 : Tok} {v2 : Value} {b : Array UInt8} {ks : List Int} {vs : List Value} {n : Nat} {newsF : Obj → List (Addr × Obj)}
    (F : Fr h₀ L s.heap m) (X₀ : (Mine.hh.heap_1_39 w.params).In h₀) (N : News h₀ L s.heap news) (T : Top Mine.hh.view_1_40 (looseW Mine.hh.view_1_40 [Str.ofString "PyFATException", Str.ofString "errno", Str.ofString "EightDotThree"]) mean mg mb h₀) (hroom : dp + 30 < recursionLimit) (hx : (x, oneObj dx) ∈ news) (hdx : (dx, oneD w.params n1 n2 n3 (.ref D) v2 (.bool true)) ∈ news) (U : UpdF D (baObj b) news newsF) (hH : (H, listOf vs.toArray n) ∈ news) (hk : KBw.bInts b = ks) (hlen : ks.length = 11) (hok : OctsOk (fixL ks)) (hI : IntsAre vs (fixL ks)) (hun : un + 110 < cLine)
    (h : ∀ h' tk b', KBw.bInts b' = fixL ks → Fr h₀ L h' m → News h₀ L h' (newsF (baObj b')) → Q (.bool true) { s with heap := h', toks := tk }) :
    wpAny (model PySem.Challenge.rw_kj0039_01.row.prog w) { handled := none, depth := dp, frames := fr, guards := gd, units := un } (call (.ref 312) [.ref x, .ref H]) Q E s := by
  obtain ⟨pre, post, e1, _⟩ := U.split
  have hD : (D, baObj b) ∈ news := by rw [e1]; exact List.mem_append.mpr (.inr (.head _))
  refine wpAny_call (holds_some_code (D := D) (dx := dx) (n1 := n1) (n2 := n2) (n3 := n3) (v2 := v2) F.keep X₀ T (fun p hp => ?_) hroom hk hlen hok (N _ hH).1 hI hun fun h' tk b' a1 a2 a3 => ?_)
  · rcases List.mem_cons.mp hp with rfl | hp
    · exact ⟨(N _ hx).1, (N _ hx).2.2⟩
    · rcases List.mem_cons.mp hp with rfl | hp
      · exact ⟨(N _ hdx).1, (N _ hdx).2.2⟩
      · rw [List.mem_singleton.mp hp]; exact ⟨(N _ hD).1, (N _ hD).2.2⟩
  · obtain ⟨F', N'⟩ := updF_K F N U a3 a1
    exact h h' tk b' a2 F' N'
theorem lset_tb_L {w : World} {mean : ExcName → Option Value} {mg mb : Str → Option Value} {dp un : Nat} {fr : Option (List Env)} {env : Env} {gd : Option (List Code)} {E : Value → Shared → Prop} {s : Shared} {h₀ : Heap} {L : Addr} {m : Str → Option Value} {news : List (Addr × Obj)} {Q : Value → Shared → Prop} {x dx : Addr} {n1 n2 n3 : Tok} {v1 v2 v3 v : Value}
    (F : Fr h₀ L s.heap m) (X₀ : (Mine.hh.heap_1_39 w.params).In h₀) (N : News h₀ L s.heap news) (T : Top Mine.hh.view_1_40 (looseW Mine.hh.view_1_40 [Str.ofString "PyFATException", Str.ofString "errno", Str.ofString "EightDotThree"]) mean mg mb h₀) (hfr : fr = some [env]) (hf : env.frame = some L) (hk : env.scope.kind ≠ .module) (hroom : dp + 40 < recursionLimit) (hx : (x, oneObj dx) ∈ news) (hdx : (dx, oneD w.params n1 n2 n3 v1 v2 v3) ∈ news) (hv : NotInst w "bytes" v s.heap)
    (h : ∀ h' tk T t1 t2, Fr h₀ L h' m → News h₀ L h' ((T, tup2 (.str (Str.ofString "type") t1) (.int 0 t2)) :: news) → (∀ p ∈ news, p.1 ≠ T) → Q (.ref T) { s with heap := h', toks := tk }) :
    wpAny (model PySem.Challenge.rw_kj0039_01.row.prog w) { handled := none, depth := dp, frames := fr, guards := gd, units := un } (call (.ref 298) [.ref x, .bool true, v]) Q E s := by
  subst hfr
  have sub2 : ∀ p ∈ ([(x, oneObj dx), (dx, oneD w.params n1 n2 n3 v1 v2 v3)] : List (Addr × Obj)), p ∈ news := fun p hp => by
    rcases List.mem_cons.mp hp with rfl | hp
    · exact hx
    · rw [List.mem_singleton.mp hp]; exact hdx
  refine wpAny_call (lset_tb_code (n1 := n1) (n2 := n2) (n3 := n3) (v1 := v1) (v2 := v2) (v3 := v3) (dx := dx) F.keep X₀ T (fun p hp => ⟨(N _ (sub2 p hp)).1, (N _ (sub2 p hp)).2.2⟩) hroom rfl (law_fun F hf hk) (law_off hf N sub2) hv fun h' tk T t1 t2 hT hT' kp => ?_)
  obtain ⟨F', N'⟩ := law_back hf F N kp
  refine h h' tk T t1 t2 F' (add_news N' hT' ?_ (ne_local F hT)) fun p hp e => ?_
  · cases q : h₀.get? T with
    | none => rfl
    | some o => rw [F.keep _ _ q] at hT; cases hT
  · have z := (N p hp).1
    rw [e, hT] at z; cases z
theorem lset_ts_L {w : World} {mean : ExcName → Option Value} {mg mb : Str → Option Value} {dp un : Nat} {fr : Option (List Env)} {env : Env} {gd : Option (List Code)} {E : Value → Shared → Prop} {s : Shared} {h₀ : Heap} {L : Addr} {m : Str → Option Value} {news : List (Addr × Obj)} {Q : Value → Shared → Prop} {x dx : Addr} {n1 n2 n3 : Tok} {v1 v2 v3 v : Value}
    (F : Fr h₀ L s.heap m) (X₀ : (Mine.hh.heap_1_39 w.params).In h₀) (N : News h₀ L s.heap news) (T : Top Mine.hh.view_1_40 (looseW Mine.hh.view_1_40 [Str.ofString "PyFATException", Str.ofString "errno", Str.ofString "EightDotThree"]) mean mg mb h₀) (hfr : fr = some [env]) (hf : env.frame = some L) (hk : env.scope.kind ≠ .module) (hroom : dp + 40 < recursionLimit) (hx : (x, oneObj dx) ∈ news) (hdx : (dx, oneD w.params n1 n2 n3 v1 v2 v3) ∈ news) (hv : NotInst w "str" v s.heap)
    (h : ∀ h' tk T t1 t2, Fr h₀ L h' m → News h₀ L h' ((T, tup2 (.str (Str.ofString "type") t1) (.int 0 t2)) :: news) → (∀ p ∈ news, p.1 ≠ T) → Q (.ref T) { s with heap := h', toks := tk }) :
    wpAny (model PySem.Challenge.rw_kj0039_01.row.prog w) { handled := none, depth := dp, frames := fr, guards := gd, units := un } (call (.ref 298) [.ref x, .bool false, v]) Q E s := by
  subst hfr
  have sub2 : ∀ p ∈ ([(x, oneObj dx), (dx, oneD w.params n1 n2 n3 v1 v2 v3)] : List (Addr × Obj)), p ∈ news := fun p hp => by
    rcases List.mem_cons.mp hp with rfl | hp
    · exact hx
    · rw [List.mem_singleton.mp hp]; exact hdx
  refine wpAny_call (lset_ts_code (n1 := n1) (n2 := n2) (n3 := n3) (v1 := v1) (v2 := v2) (v3 := v3) (dx := dx) F.keep X₀ T (fun p hp => ⟨(N _ (sub2 p hp)).1, (N _ (sub2 p hp)).2.2⟩) hroom rfl (law_fun F hf hk) (law_off hf N sub2) hv fun h' tk T t1 t2 hT hT' kp => ?_)
  obtain ⟨F', N'⟩ := law_back hf F N kp
  refine h h' tk T t1 t2 F' (add_news N' hT' ?_ (ne_local F hT)) fun p hp e => ?_
  · cases q : h₀.get? T with
    | none => rfl
    | some o => rw [F.keep _ _ q] at hT; cases hT
  · have z := (N p hp).1
    rw [e, hT] at z; cases z
end Mine
namespace Mine
theorem zr_D2b : True := by
  w_top off
  k_with_none
  k_with "O" => first | decide | ((with_reducible refine rmk (by assumption) ?_); rfl) | ((with_reducible refine rm0 (by assumption) ?_); rfl) | ((with_reducible refine lel (by assumption) ?_); rfl) | ((with_reducible refine llt (by assumption) ?_); rfl) | ((with_reducible refine ltt (by assumption) ?_); rfl) | ((with_reducible refine ltl (by assumption) ?_); rfl) | ((with_reducible refine ilt (by assumption) ?_); rfl) | (with_reducible exact rmz (by assumption)) | (with_reducible assumption)
  exact True.intro
open PySem.Calls
section
theorem zw_D2b_56 : True := by
  k_with_none
  k_with "O" => first | decide | ((with_reducible refine rmk (by assumption) ?_); rfl) | ((with_reducible refine rm0 (by assumption) ?_); rfl) | ((with_reducible refine lel (by assumption) ?_); rfl) | ((with_reducible refine llt (by assumption) ?_); rfl) | ((with_reducible refine ltt (by assumption) ?_); rfl) | ((with_reducible refine ltl (by assumption) ?_); rfl) | ((with_reducible refine ilt (by assumption) ?_); rfl) | (with_reducible exact rmz (by assumption)) | (with_reducible assumption)
  k_with "ks" => repeat' (first | (k_unfold; (try dsimp only)) | (k_end; wrow_close) | ((fail_if_success (with_reducible show wpAny _ _ (pyIter _) (fun it s₂ => LoopAtV _ _ _ _ _ _ _ _ _ it s₂) _ _)); (first | k_extra "H" | walk1)) | ((fail_if_success (with_reducible show wpAny _ _ (pyIter _) (fun it s₂ => LoopAtV _ _ _ _ _ _ _ _ _ it s₂) _ _)); dsimp only; (first | k_extra "H" | walk1)) | fail "no step")
  k_with "forhere" => (with_reducible show wpAny _ _ (pyIter _) (fun it s₂ => LoopAtV _ _ _ _ _ _ _ _ _ it s₂) _ _)
  exact True.intro
set_option maxHeartbeats 4000000 in
theorem one_init_code {w : World} {mean : ExcName → Option Value} {mg mb : Str → Option Value} {dp un : Nat} {fr : Option (List Env)} {gd : Option (List Code)} {R : Result → Shared → Prop} {s : Shared} {h₀ : Heap} {x dx : Addr}
    (S : ∀ b o, h₀.get? b = some o → s.heap.get? b = some o) (X₀ : (Mine.hh.heap_1_39 w.params).In h₀) (T : Top Mine.hh.view_1_40 (looseW Mine.hh.view_1_40 [Str.ofString "PyFATException", Str.ofString "errno", Str.ofString "EightDotThree"]) mean mg mb h₀)
    (N : ∀ p ∈ ([(x, oneObj dx), (dx, emptyDict)] : List (Addr × Obj)), s.heap.get? p.1 = some p.2 ∧ h₀.get? p.1 = none)
    (hroom : dp + 3 < recursionLimit) (ne3 : x ≠ dx)
    (hR : ∀ h' tk n1 n2 n3 ec te, h'.get? dx = some (oneD w.params n1 n2 n3 .none (.str ec te) (.bool false)) → (∀ a o, a ≠ dx → s.heap.get? a = some o → h'.get? a = some o) → R (.ok (.ret .none)) { s with heap := h', toks := tk }) :
    codeAny (model PySem.Challenge.rw_kj0039_01.row.prog w) { handled := none, depth := dp, frames := fr, guards := gd, units := un } (.call (.ref 120) ⟨[.ref x], []⟩) R s := by
  revert X₀; k_fill; intro X₀
  refine' enter (f := 120) (mm := _) S X₀ T N ?ho ?hcd ?hr ?hb ?hmm ?hloc ?_ ?c1 ?c2 ?c3 ?c4
  case ho => k_is
  case hcd => k_is
  case hr => show dp < recursionLimit; (first | k_extra "O" | omega)
  case hb => first | exact BindsTo.of_eq rfl | exact binds_K (X₀.keeps S) rfl (by k_is) rfl rfl rfl
  case hmm => first | rfl | kernel_rfl | with_unfolding_all rfl
  case hloc => exact locs rfl
  case c1 => exact rfl
  case c2 => exact rfl
  case c3 => exact rfl
  case c4 => decide
  intro g L' h₁ tkA k1 k2 k3 F' N' X' T' k4 k5
  (try dsimp only)
  k_fold
  have d3 : @Ne Nat x dx := ne3
  walk_at "ks"
  (rename Fr _ _ _ _ => F9)
  (rename News _ _ _ _ => N9)
  exact hR _ _ _ _ _ _ _ (N9 (dx, _) (.tail _ (.head _))).1 (kept_off F9 k1 N dx (fun p hp hd => by
    rcases List.mem_cons.mp hp with rfl | hp
    · exact (N9 _ (.head _)).1
    · exact absurd (congrArg Prod.fst (List.mem_singleton.mp hp)) hd))
end
theorem zw_D2b_57 : True := by
  k_with_none
  k_with "O" => first | decide | ((with_reducible refine rmk (by assumption) ?_); rfl) | ((with_reducible refine rm0 (by assumption) ?_); rfl) | ((with_reducible refine lel (by assumption) ?_); rfl) | ((with_reducible refine llt (by assumption) ?_); rfl) | ((with_reducible refine ltt (by assumption) ?_); rfl) | ((with_reducible refine ltl (by assumption) ?_); rfl) | ((with_reducible refine ilt (by assumption) ?_); rfl) | (with_reducible exact rmz (by assumption)) | (with_reducible assumption)
  exact True.intro
theorem make_one_K {w : World} {mean : ExcName → Option Value} {mg mb : Str → Option Value} {dp un : Nat} {fr : Option (List Env)} {gd : Option (List Code)} {E : Value → Shared → Prop} {s : Shared} {h₀ : Heap} {L : Addr} {m : Str → Option Value} {news : List (Addr × Obj)} {Q : Value → Shared → Prop} 
    (F : Fr h₀ L s.heap m) (X₀ : (Mine.hh.heap_1_39 w.params).In h₀) (N : News h₀ L s.heap news) (T : Top Mine.hh.view_1_40 (looseW Mine.hh.view_1_40 [Str.ofString "PyFATException", Str.ofString "errno", Str.ofString "EightDotThree"]) mean mg mb h₀) (hroom : dp + 10 < recursionLimit)
    (h : ∀ h' tk x dx n1 n2 n3 ec te, Fr h₀ L h' m → News h₀ L h' ((x, oneObj dx) :: (dx, oneD w.params n1 n2 n3 .none (.str ec te) (.bool false)) :: news) → (∀ p ∈ news, p.1 < dx) → dx < x → Q (.ref x) { s with heap := h', toks := tk }) :
    wpAny (model PySem.Challenge.rw_kj0039_01.row.prog w) { handled := none, depth := dp, frames := fr, guards := gd, units := un } (call (.ref 223) []) Q E s := by
  revert X₀; k_fill; intro X₀
  refine wpAny_call (make_K F N (X₀.keeps F.keep) (by k_is) (by k_is) (by k_is) fun x dx h1 F1 N1 l1 l2 => ?_)
  have ne3 : x ≠ dx := Nat.ne_of_gt l2
  refine one_init_code (dx := dx) F1.keep X₀ T (fun p hp => ?_) (by show dp + 1 + 3 < _; (first | k_extra "O" | omega)) ne3 fun h2 tk n1 n2 n3 ec te a1 a2 => ⟨rfl, ?_⟩
  · rcases List.mem_cons.mp hp with rfl | hp
    · exact ⟨(N1 _ (.head _)).1, (N1 _ (.head _)).2.2⟩
    · rw [List.mem_singleton.mp hp]; exact ⟨(N1 _ (.tail _ (.head _))).1, (N1 _ (.tail _ (.head _))).2.2⟩
  · obtain ⟨F2, N2⟩ := updF_K F1 N1 (UpdF.tail ne3 (UpdF.head fun p hp => Nat.ne_of_lt (l1 p hp))) a2 a1
    exact h h2 tk x dx n1 n2 n3 ec te F2 N2 l1 l2
end Mine
namespace Mine
theorem zr_D2c : True := by
  w_top off
  k_with_none
  k_with "O" => first | decide | ((with_reducible refine rmk (by assumption) ?_); rfl) | ((with_reducible refine rm0 (by assumption) ?_); rfl) | ((with_reducible refine lel (by assumption) ?_); rfl) | ((with_reducible refine llt (by assumption) ?_); rfl) | ((with_reducible refine ltt (by assumption) ?_); rfl) | ((with_reducible refine ltl (by assumption) ?_); rfl) | ((with_reducible refine ilt (by assumption) ?_); rfl) | (with_reducible exact rmz (by assumption)) | (with_reducible assumption)
  exact True.intro
open PySem.Calls
/-- what stands between two deeds: no name, or a name with its octets. -/
noncomputable def LawSt (hv v1 : Value) (v3 : Bool) (x dx D H : Addr) (oD oH : Obj) : Prop :=
  (hv = .none ∧ v1 = .none ∧ v3 = false ∧ D = x ∧ H = x ∧ oD = oneObj dx ∧ oH = oneObj dx) ∨
  (∃ (b : Array UInt8) (row : List Int) (vs : List Value) (e : Nat), hv = .ref H ∧ v1 = .ref D ∧ v3 = true ∧ oD = baObj b ∧ oH = listOf vs.toArray e ∧ KBw.bInts b = row ∧ row.length = 11 ∧ OctsOk (fixL row) ∧ IntsAre vs (fixL row))
theorem LawSt.ne {hv v1 : Value} {v3 : Bool} {x dx D H : Addr} {oD oH : Obj} (S : LawSt hv v1 v3 x dx D H oD oH) : (∀ es n, oD.data ≠ .dict es n) ∧ ∀ es n, oH.data ≠ .dict es n := by
  rcases S with ⟨_, _, _, _, _, rfl, rfl⟩ | ⟨_, _, _, _, _, _, _, rfl, rfl, _⟩
  · exact ⟨fun _ _ q => (by cases q), fun _ _ q => (by cases q)⟩
  · exact ⟨fun _ _ q => (by cases q), fun _ _ q => (by cases q)⟩
theorem law_fin {w : World} {mean : ExcName → Option Value} {mg mb : Str → Option Value} {dp un : Nat} {fr : Option (List Env)} {env : Env} {gd : Option (List Code)} {E : Value → Shared → Prop} {s : Shared} {h₀ : Heap} {L : Addr} {m : Str → Option Value} {news : List (Addr × Obj)} {Q : Value → Shared → Prop} {x dx D H I l : Addr} {n1 n2 n3 te : Tok} {ec : Str} {hv v1 : Value} {v3 : Bool} {oD oH o1 o2 : Obj}
    (F : Fr h₀ L s.heap m) (X₀ : (Mine.hh.heap_1_39 w.params).In h₀) (N : News h₀ L s.heap news) (T : Top Mine.hh.view_1_40 (looseW Mine.hh.view_1_40 [Str.ofString "PyFATException", Str.ofString "errno", Str.ofString "EightDotThree"]) mean mg mb h₀) (hfr : fr = some [env]) (hf : env.frame = some L) (hk : env.scope.kind ≠ .module) (hroom : dp + 40 < recursionLimit) (hun : un + 120 < cLine) (hx : (x, oneObj dx) ∈ news) (hdx : (dx, oneD w.params n1 n2 n3 v1 (.str ec te) (.bool v3)) ∈ news) (hD : (D, oD) ∈ news) (hH : (H, oH) ∈ news) (hI : (I, o1) ∈ news) (hl : (l, o2) ∈ news) (St : LawSt hv v1 v3 x dx D H oD oH) (d1 : @Ne Nat D I) (d2 : @Ne Nat D l)
    (h : ∀ h' tk oD', Fr h₀ L h' m → News h₀ L h' [(x, oneObj dx), (dx, oneD w.params n1 n2 n3 v1 (.str ec te) (.bool v3)), (D, oD'), (H, oH), (I, o1), (l, o2)] → LawSt hv v1 v3 x dx D H oD' oH → Q (.bool true) { s with heap := h', toks := tk }) :
    wpAny (model PySem.Challenge.rw_kj0039_01.row.prog w) { handled := none, depth := dp, frames := fr, guards := gd, units := un } (call (.ref 312) [.ref x, hv]) Q E s := by
  have N6 : News h₀ L s.heap [(x, oneObj dx), (dx, oneD w.params n1 n2 n3 v1 (.str ec te) (.bool v3)), (D, oD), (H, oH), (I, o1), (l, o2)] := fun p hp => by
    rcases List.mem_cons.mp hp with rfl | hp
    · exact N _ hx
    rcases List.mem_cons.mp hp with rfl | hp
    · exact N _ hdx
    rcases List.mem_cons.mp hp with rfl | hp
    · exact N _ hD
    rcases List.mem_cons.mp hp with rfl | hp
    · exact N _ hH
    rcases List.mem_cons.mp hp with rfl | hp
    · exact N _ hI
    · rw [List.mem_singleton.mp hp]; exact N _ hl
  have St0 := St
  rcases St with ⟨rfl, rfl, rfl, rfl, rfl, rfl, rfl⟩ | ⟨b, row, vs, e, rfl, rfl, rfl, rfl, rfl, hb, hlen, hok, hi⟩
  · exact holds_none_L F X₀ N6 T hfr hf hk (by (first | k_extra "O" | omega)) (.head _) (.tail _ (.head _)) fun h' tk F' N' => h h' tk _ F' N' St0
  · have a1 : x ≠ D := obj_ne (N _ hx).1 (N _ hD).1 (by simp)
    have a2 : dx ≠ D := obj_ne (N _ hdx).1 (N _ hD).1 (by simp)
    have a3 : H ≠ D := obj_ne (N _ hH).1 (N _ hD).1 (by simp)
    refine holds_some_K F X₀ N6 T (by (first | k_extra "O" | omega)) (.head _) (.tail _ (.head _)) (UpdF.tail a1 (UpdF.tail a2 (UpdF.head ?_))) (.tail _ (.tail _ (.tail _ (.head _)))) hb hlen hok hi (by (first | k_extra "O" | omega)) fun h' tk b' hb' F' N' => ?_
    · intro p hp
      rcases List.mem_cons.mp hp with rfl | hp
      · exact a3
      rcases List.mem_cons.mp hp with rfl | hp
      · exact Ne.symm d1
      · rw [List.mem_singleton.mp hp]; exact Ne.symm d2
    · have ff : fixL (fixL row) = fixL row := fix_ok hok
      exact h h' tk _ F' N' (.inr ⟨b', fixL row, vs, e, rfl, rfl, rfl, rfl, rfl, hb', fix_len hlen, by rw [ff]; exact hok, by rw [ff]; exact hi⟩)
theorem fresh_base {g h : Heap} {L a : Addr} {m : Str → Option Value} (F : Fr g L h m) (e : h.get? a = none) : g.get? a = none := by
  cases q : g.get? a with
  | none => rfl
  | some o => rw [F.keep _ _ q] at e; cases e
theorem fresh_ne {g h : Heap} {L a : Addr} {news : List (Addr × Obj)} (N : News g L h news) (e : h.get? a = none) : ∀ p ∈ news, p.1 ≠ a := fun p hp q => by
  have z := (N p hp).1
  rw [q, e] at z; cases z
theorem lset_s_L {w : World} {mean : ExcName → Option Value} {mg mb : Str → Option Value} {dp un : Nat} {fr : Option (List Env)} {env : Env} {gd : Option (List Code)} {E : Value → Shared → Prop} {s : Shared} {h₀ : Heap} {L : Addr} {m : Str → Option Value} {news : List (Addr × Obj)} {Q : Value → Shared → Prop} {x dx : Addr} {n1 n2 n3 te t : Tok} {ec y : Str} {v1 : Value} {v3 : Bool} {newsF : Obj → List (Addr × Obj)}
    (F : Fr h₀ L s.heap m) (X₀ : (Mine.hh.heap_1_39 w.params).In h₀) (N : News h₀ L s.heap news) (T : Top Mine.hh.view_1_40 (looseW Mine.hh.view_1_40 [Str.ofString "PyFATException", Str.ofString "errno", Str.ofString "EightDotThree"]) mean mg mb h₀) (hfr : fr = some [env]) (hf : env.frame = some L) (hk : env.scope.kind ≠ .module) (hroom : dp + 50 < recursionLimit) (hx : (x, oneObj dx) ∈ news) (U : UpdF dx (oneD w.params n1 n2 n3 v1 (.str ec te) (.bool v3)) news newsF) (hy : y.length ≤ 20) (h1 : ¬ ConfP y → ∀ h' tk T t1 t2, Fr h₀ L h' m → News h₀ L h' ((T, tup2 (.str (Str.ofString "form") t1) (.int 22 t2)) :: news) → (∀ p ∈ news, p.1 ≠ T) → Q (.ref T) { s with heap := h', toks := tk })
    (h : ConfP y → ∀ h' tk T t1 t2 D b, Fr h₀ L h' m → News h₀ L h' ((T, tup2 (.str (Str.ofString "good") t1) (.int 0 t2)) :: (D, baObj b) :: newsF (oneD w.params n1 n2 n3 (.ref D) (.str ec te) (.bool true))) → (∀ p ∈ news, p.1 ≠ T) → (∀ p ∈ news, p.1 ≠ D) → T ≠ D → KBw.bInts b = setL y → Q (.ref T) { s with heap := h', toks := tk }) :
    wpC (model PySem.Challenge.rw_kj0039_01.row.prog w) { handled := none, depth := dp, frames := fr, guards := gd, units := un } (call (.ref 298) [.ref x, .bool false, .str y t]) Q E s := by
  subst hfr
  obtain ⟨pre, post, e1, hn, _, _⟩ := U.split
  have hdx : (dx, oneD w.params n1 n2 n3 v1 (.str ec te) (.bool v3)) ∈ news := by rw [e1]; exact List.mem_append.mpr (.inr (.head _))
  have sub2 : ∀ p ∈ ([(x, oneObj dx), (dx, oneD w.params n1 n2 n3 v1 (.str ec te) (.bool v3))] : List (Addr × Obj)), p ∈ news := fun p hp => by
    rcases List.mem_cons.mp hp with rfl | hp
    · exact hx
    · rw [List.mem_singleton.mp hp]; exact hdx
  refine wpC_call (lset_s_code (n1 := n1) (n2 := n2) (n3 := n3) (v1 := v1) (ec := ec) (te := te) (v3 := v3) (dx := dx) F.keep X₀ T (fun p hp => ⟨(N _ (sub2 p hp)).1, (N _ (sub2 p hp)).2.2⟩) hroom rfl (law_fun F hf hk) (law_off hf N sub2) hy ⟨fun hc h' tk T t1 t2 hT hT' kp => ?_, fun hc h' tk T t1 t2 D b hT hT' hD hD' hb hd kp => ?_⟩)
  · obtain ⟨F', N'⟩ := law_back hf F N kp
    exact h1 hc h' tk T t1 t2 F' (add_news N' hT' (fresh_base F hT) (ne_local F hT)) (fresh_ne N hT)
  · obtain ⟨F', N'⟩ := law_backU hf F N U kp hd
    refine h hc h' tk T t1 t2 D b F' (add_news (add_news N' hD' (fresh_base F hD) (ne_local F hD)) hT' (fresh_base F hT) (ne_local F hT)) (fresh_ne N hT) (fresh_ne N hD) ?_ hb
    exact obj_ne hT' hD' (by simp)
theorem lset_b_L {w : World} {mean : ExcName → Option Value} {mg mb : Str → Option Value} {dp un : Nat} {fr : Option (List Env)} {env : Env} {gd : Option (List Code)} {E : Value → Shared → Prop} {s : Shared} {h₀ : Heap} {L : Addr} {m : Str → Option Value} {news : List (Addr × Obj)} {Q : Value → Shared → Prop} {x dx : Addr} {n1 n2 n3 te t : Tok} {ec : Str} {v1 : Value} {v3 : Bool} {bb : Array UInt8} {ks : List Int} {newsF : Obj → List (Addr × Obj)}
    (F : Fr h₀ L s.heap m) (X₀ : (Mine.hh.heap_1_39 w.params).In h₀) (N : News h₀ L s.heap news) (T : Top Mine.hh.view_1_40 (looseW Mine.hh.view_1_40 [Str.ofString "PyFATException", Str.ofString "errno", Str.ofString "EightDotThree"]) mean mg mb h₀) (hfr : fr = some [env]) (hf : env.frame = some L) (hk : env.scope.kind ≠ .module) (hroom : dp + 40 < recursionLimit) (hx : (x, oneObj dx) ∈ news) (U : UpdF dx (oneD w.params n1 n2 n3 v1 (.str ec te) (.bool v3)) news newsF) (hks : KBw.bInts bb = ks) (hlen : ks.length ≤ 30) (h1 : ks.length ≠ 11 → ∀ h' tk T t1 t2, Fr h₀ L h' m → News h₀ L h' ((T, tup2 (.str (Str.ofString "size") t1) (.int 0 t2)) :: news) → (∀ p ∈ news, p.1 ≠ T) → Q (.ref T) { s with heap := h', toks := tk }) (h2 : ks.length = 11 → (ks.getD 0 0 = 0 ∨ ks.getD 0 0 = 229) → ∀ h' tk T t1 t2, Fr h₀ L h' m → News h₀ L h' ((T, tup2 (.str (Str.ofString "mark") t1) (.int (ks.getD 0 0) t2)) :: news) → (∀ p ∈ news, p.1 ≠ T) → Q (.ref T) { s with heap := h', toks := tk })
    (h : ks.length = 11 → (ks.getD 0 0 ≠ 0 ∧ ks.getD 0 0 ≠ 229) → ∀ h' tk T t1 t2 D, Fr h₀ L h' m → News h₀ L h' ((T, tup2 (.str (Str.ofString "good") t1) (.int 0 t2)) :: (D, baObj bb) :: newsF (oneD w.params n1 n2 n3 (.ref D) (.str ec te) (.bool true))) → (∀ p ∈ news, p.1 ≠ T) → (∀ p ∈ news, p.1 ≠ D) → T ≠ D → Q (.ref T) { s with heap := h', toks := tk }) :
    wpC (model PySem.Challenge.rw_kj0039_01.row.prog w) { handled := none, depth := dp, frames := fr, guards := gd, units := un } (call (.ref 298) [.ref x, .bool true, .bytes bb t]) Q E s := by
  subst hfr
  obtain ⟨pre, post, e1, hn, _, _⟩ := U.split
  have hdx : (dx, oneD w.params n1 n2 n3 v1 (.str ec te) (.bool v3)) ∈ news := by rw [e1]; exact List.mem_append.mpr (.inr (.head _))
  have sub2 : ∀ p ∈ ([(x, oneObj dx), (dx, oneD w.params n1 n2 n3 v1 (.str ec te) (.bool v3))] : List (Addr × Obj)), p ∈ news := fun p hp => by
    rcases List.mem_cons.mp hp with rfl | hp
    · exact hx
    · rw [List.mem_singleton.mp hp]; exact hdx
  refine wpC_call (lset_b_code (n1 := n1) (n2 := n2) (n3 := n3) (v1 := v1) (v2 := .str ec te) (v3 := v3) (dx := dx) F.keep X₀ T (fun p hp => ⟨(N _ (sub2 p hp)).1, (N _ (sub2 p hp)).2.2⟩) hroom rfl (law_fun F hf hk) (law_off hf N sub2) hks hlen ⟨fun hc h' tk T t1 t2 hT hT' kp => ?_, fun hc hm h' tk T t1 t2 hT hT' kp => ?_, fun hc hm h' tk T t1 t2 D hT hT' hD hD' hd kp => ?_⟩)
  · obtain ⟨F', N'⟩ := law_back hf F N kp
    exact h1 hc h' tk T t1 t2 F' (add_news N' hT' (fresh_base F hT) (ne_local F hT)) (fresh_ne N hT)
  · obtain ⟨F', N'⟩ := law_back hf F N kp
    exact h2 hc hm h' tk T t1 t2 F' (add_news N' hT' (fresh_base F hT) (ne_local F hT)) (fresh_ne N hT)
  · obtain ⟨F', N'⟩ := law_backU hf F N U kp hd
    refine h hc hm h' tk T t1 t2 D F' (add_news (add_news N' hD' (fresh_base F hD) (ne_local F hD)) hT' (fresh_base F hT) (ne_local F hT)) (fresh_ne N hT) (fresh_ne N hD) ?_
    exact obj_ne hT' hD' (by simp)
end Mine
namespace Mine
theorem zr_D2d : True := by
  w_top off
  k_with_none
  k_with "O" => first | decide | ((with_reducible refine rmk (by assumption) ?_); rfl) | ((with_reducible refine rm0 (by assumption) ?_); rfl) | ((with_reducible refine lel (by assumption) ?_); rfl) | ((with_reducible refine llt (by assumption) ?_); rfl) | ((with_reducible refine ltt (by assumption) ?_); rfl) | ((with_reducible refine ltl (by assumption) ?_); rfl) | ((with_reducible refine ilt (by assumption) ?_); rfl) | (with_reducible exact rmz (by assumption)) | (with_reducible assumption)
  exact True.intro
open PySem.Calls
section
variable {w : World} {A : Around} {E : Value → Shared → Prop} {s : Shared} {b : Array UInt8} {t : Tok}
theorem lb_hint {Q : Bool → Shared → Prop} (h : Q false s) : wpAny (model PG w) A (Builtin.List.listLengthHint (.bytes b t)) Q E s := by
  have hT : s.TypeIs (.bytes b t) "bytes" := rfl
  unfold Builtin.List.listLengthHint
  refine wpAny_bind (wpAny_specialOf hT FB.slot_bytes_len.lookup ?_)
  generalize hid : ("bytes.__len__" : String) = id0
  wp_delta
  rw [show splitId id0 = some ("bytes", "__len__") from by subst hid; decide +kernel]
  subst hid
  refine wpAny_bind (wpAny_isInstance (T := "bytes") (b := true) hT (by rw [isSubtype_type]; kernel_rfl) ?_)
  refine wpAny_ite_split (fun hab => absurd hab (by decide)) (fun _ => ?_)
  refine wpAny_ite_split (fun _ => ?_) (fun hab => absurd (by decide +kernel) hab)
  refine wpAny_bind (wpAny_typeOf hT ?_)
  exact wpAny_pure h
noncomputable abbrev ByteOf (b : Array UInt8) (i : Nat) (v : Value) : Prop := ∃ c u, b[i]? = some c ∧ v = .int (c.toNat : Int) u
theorem lb_extend {R : Result → Shared → Prop} (hh : A.handled = none) (S : Addr) (res : Value) (c₀ : Nat) (hS : s.heap.get? S = some { cls := .type "list", data := .seq #[] c₀ })
    (hR : ∀ h' tk acc' c', (∀ a o, a ≠ S → s.heap.get? a = some o → h'.get? a = some o) → h'.get? S = some { cls := .type "list", dict := none, data := .seq acc' c', slots := #[] } → ItemsOf (ByteOf b) acc' b.size → R (.ok (.ret res)) { s with heap := h', toks := tk }) (hn : b.size ≤ sizeLine) :
    wpAny (model PG w) A.in1 (Builtin.List.listExtendWith (.ref S) (.bytes b t) res)
      (fun fin s' => match fin with | .done f => R (.ok f) s' | .again c' => c'.quiet = true ∧ codeAny (model PG w) A c' R s') (fun e s' => R (.error e) s') s := by
  have hSI : S ≠ s.heap.objs.size := Nat.ne_of_lt (Heap.lt_size hS)
  have hSf : S ∉ [s.heap.objs.size] := fun q => hSI (List.mem_singleton.mp q)
  have W := KBw.walks (prog := PG) (w := w) (A := A.in1) hh s.heap.objs.size b t
  have key : ∀ (h : Heap) (c₁ tk : Nat), KBw.IsBytesIter h s.heap.objs.size b t 0 → (∀ a o, a ≠ S → s.heap.get? a = some o → h.get? a = some o) →
      h.get? S = some { cls := .type "list", data := .seq #[] c₁ } → codeAny (model PG w) A (.builtin "list.extend.loop" ⟨[.ref S, .ref s.heap.objs.size, res], []⟩) R { s with heap := h, toks := tk } := by
    intro h c₁ tk hst hk hS₁
    refine codeAny_extend_loopS W.toS hn S hSf res b.size 0 _ #[] c₁ rfl (Nat.zero_le _) hst hS₁ (ItemsOf.nil _) fun s' acc' c' hm hS' hacc => ?_
    rw [Moved.eq_with hm]
    refine hR s'.heap s'.toks acc' c' (fun a o hb e => hm.heap a o (fun hmem => ?_) (hk a o hb e)) hS' hacc
    rcases List.mem_cons.mp hmem with e' | hmem
    · exact hb e'
    · exact absurd (Heap.lt_size e) (by rw [List.mem_singleton.mp hmem]; exact Nat.lt_irrefl _)
  have st0 : ∀ h : Heap, (∀ a o, a ≠ S → (s.heap.push { cls := .type "bytes_iterator", data := .fields #[.bytes b t, .int 0 0] }).get? a = some o → h.get? a = some o) → KBw.IsBytesIter h s.heap.objs.size b t 0 := fun h hk => ⟨_, hk _ _ (Ne.symm hSI) (Heap.get?_push_size _ rfl), rfl, rfl⟩
  unfold Builtin.List.listExtendWith
  refine wpAny_bind (wpAny_typeOf (T := "bytes") (show s.TypeIs (.bytes b t) "bytes" from rfl) ?_)
  have h1 : Builtin.List.listSameRef (.ref S) (.bytes b t) = false := rfl
  have h2 : (Value.type "bytes" == Value.type "list") = false := by decide
  have h3 : (Value.type "bytes" == Value.type "tuple") = false := by decide
  simp only [h1, h2, h3, Bool.or_false, Bool.false_eq_true, if_false]
  refine wpAny_bind (KBw.pyIter_bytes ?_)
  have hS₁ := Heap.get?_push_of_some ({ cls := .type "bytes_iterator", data := .fields #[.bytes b t, .int 0 0] } : Obj) hS
  refine wpAny_bind (wpAny_holding (lb_hint ?_))
  refine wpAny_ite_split (fun _ => ?_) (fun _ => wpAny_pure ⟨plainId_quiet PySem.F.plain_extend_loop _, key _ c₀ _ (st0 _ fun a o _ e => e) (fun a o _ e => Heap.get?_push_of_some _ e) hS₁⟩)
  refine wpAny_bind (wpAny_rule ?_)
  refine wpAny_bind ?_
  show wpAny _ _ (updateSeq S (·.push .none) >>= fun _ => updateSeq S (·.pop)) _ _ _
  refine wpAny_bind (wpAny_updateSeq hS₁ rfl ?_)
  have hS₂ := Heap.get?_update_self (Obj.mapSeq (·.push Value.none)) hS₁ rfl
  refine wpAny_updateSeq (hz := by seq_fits) hS₂ rfl ?_
  have hS₃ := Heap.get?_update_self (Obj.mapSeq (·.pop)) hS₂ rfl
  refine wpAny_pure ⟨plainId_quiet PySem.F.plain_extend_loop _, key _ _ _ (st0 _ fun a o hb e => ?_) (fun a o hb e => ?_) hS₃⟩
  · exact (Heap.get?_update_other _ _ (Ne.symm hb)).trans ((Heap.get?_update_other _ _ (Ne.symm hb)).trans e)
  · exact (Heap.get?_update_other _ _ (Ne.symm hb)).trans ((Heap.get?_update_other _ _ (Ne.symm hb)).trans (Heap.get?_push_of_some _ e))
theorem lb_init {R : Result → Shared → Prop} (hh : A.handled = none) (S : Addr) (hS : s.heap.get? S = some { cls := .type "list", data := .seq #[] })
    (hR : ∀ h' tk acc' c', (∀ a o, a ≠ S → s.heap.get? a = some o → h'.get? a = some o) → h'.get? S = some { cls := .type "list", dict := none, data := .seq acc' c', slots := #[] } → ItemsOf (ByteOf b) acc' b.size → R (.ok (.ret .none)) { s with heap := h', toks := tk }) (hn : b.size ≤ sizeLine) :
    wpAny (model PG w) A.in1 (Builtin.«list.__init__» ⟨[.ref S, .bytes b t], []⟩)
      (fun fin s' => match fin with | .done f => R (.ok f) s' | .again c' => c'.quiet = true ∧ codeAny (model PG w) A c' R s') (fun e s' => R (.error e) s') s := by
  show wpAny _ _ (do let old ← Builtin.List.listItems (.ref S); Builtin.List.listUpdate (.ref S) (fun _ => #[]); letGo old.toList.reverse; Builtin.List.listExtendWith (.ref S) (.bytes b t) .none) _ _ s
  refine wpAny_bind ?_
  unfold Builtin.List.listItems
  refine wpAny_bind (wpAny_seqItems hS rfl (wpAny_pure ?_))
  show wpAny _ _ (updateSeq S (fun _ => #[]) >>= fun _ => letGo (#[] : Array Value).toList.reverse >>= fun _ => Builtin.List.listExtendWith (.ref S) (.bytes b t) .none) _ _ s
  refine wpAny_bind (wpAny_updateSeq hS rfl ?_)
  have hS₂ := Heap.get?_update_self (Obj.mapSeq (fun _ => (#[] : Array Value))) hS rfl
  have oth : ∀ a o, a ≠ S → s.heap.get? a = some o → (s.heap.update S (Obj.mapSeq (fun _ => (#[] : Array Value)))).get? a = some o :=
    fun a o hb e => (Heap.get?_update_other _ _ (Ne.symm hb)).trans e
  refine wpAny_bind (wpAny_letGo ?_)
  refine lb_extend hh S .none _ hS₂ (fun h' tk acc' c' hk hS' hacc => ?_) hn
  exact hR h' tk acc' c' (fun a o hb e => hk a o hb (oth a o hb e)) hS' hacc
theorem lb_call {Q : Value → Shared → Prop} (hh : A.handled = none) (hn : b.size ≤ sizeLine)
    (hQ : ∀ h' tk acc' c', (∀ a o, s.heap.get? a = some o → h'.get? a = some o) → h'.get? s.heap.objs.size = some { cls := .type "list", dict := none, data := .seq acc' c', slots := #[] } → ItemsOf (ByteOf b) acc' b.size → Q (.ref s.heap.objs.size) { s with heap := h', toks := tk }) :
    wpAny (model PG w) A (call (.type "list") [.bytes b t]) Q E s := by
  refine callType_codes (Q₁ := fun obj s₁ => obj = .ref s.heap.objs.size ∧ s₁ = { s with heap := s.heap.push { cls := .type "list", data := .seq #[] } }) PySem.F.called_list (PySem.F.typeCall_list_1 _) PySem.F.entry_list_init
    (code_list_new _ ⟨rfl, rfl⟩) fun obj s₁ h₁ => ?_
  obtain ⟨rfl, rfl⟩ := h₁
  have hS : (s.heap.push { cls := .type "list", data := .seq #[] }).get? s.heap.objs.size = some { cls := .type "list", data := .seq #[] } := Heap.get?_push_size _ rfl
  refine ⟨⟨_, hS, rfl⟩, PySem.F.args_list_init_2 _ _, lb_init (A := A.in1) hh _ hS (fun h' tk acc' c' hk hS' hacc => ?_) hn⟩
  exact ⟨rfl, hQ h' tk acc' c' (fun a o e => hk a o (Nat.ne_of_lt (Heap.lt_size e)) (Heap.get?_push_of_some _ e)) hS' hacc⟩
theorem list_bytes {Q : Value → Shared → Prop} {h₀ : Heap} {L : Addr} {m : Str → Option Value} {news : List (Addr × Obj)} {ns : List Int} (hh : A.handled = none) (F : Fr h₀ L s.heap m) (N : News h₀ L s.heap news) (hk : KBw.bInts b = ns) (hn : ns.length ≤ 30)
    (h : ∀ (D : Addr) c h' tk (vs : List Value), Fr h₀ L h' m → News h₀ L h' ((D, listOf vs.toArray c) :: news) → (∀ q ∈ news, q.1 ≠ D) → IntsAre vs ns → Q (.ref D) { s with heap := h', toks := tk }) :
    wpAny (model PG w) A (call (.type "list") [.bytes b t]) Q E s := by
  have hl : b.size = ns.length := by rw [← hk, KBw.ints_length]
  refine lb_call hh (by rw [sizeLine_eq]; (first | k_extra "O" | omega)) fun h' tk acc' c' hk' hD hacc => ?_
  refine h _ c' h' tk acc'.toList (F.keeps hk') (news_pushed F N hk' (by first | (rw [Array.toArray_toList]; exact hD) | simpa using hD) rfl) (fun q hq => Nat.ne_of_lt (Heap.lt_size (N q hq).1)) ?_
  refine ints_of (by rw [Array.length_toList, hacc.1, hl]) fun j v e => ?_
  obtain ⟨c, u, e1, e2⟩ := hacc.2 j v (by rw [← Array.getElem?_toList]; exact e)
  exact ⟨_, u, by rw [← hk]; exact KBw.ints_get e1, e2⟩
end
end Mine
namespace Mine
theorem zr_D2e : True := by
  w_top off
  k_with_none
  k_with "O" => first | decide | ((with_reducible refine rmk (by assumption) ?_); rfl) | ((with_reducible refine rm0 (by assumption) ?_); rfl) | ((with_reducible refine lel (by assumption) ?_); rfl) | ((with_reducible refine llt (by assumption) ?_); rfl) | ((with_reducible refine ltt (by assumption) ?_); rfl) | ((with_reducible refine ltl (by assumption) ?_); rfl) | ((with_reducible refine ilt (by assumption) ?_); rfl) | (with_reducible exact rmz (by assumption)) | (with_reducible assumption)
  exact True.intro
open PySem.Calls
theorem lset_t_L {w : World} {mean : ExcName → Option Value} {mg mb : Str → Option Value} {dp un : Nat} {fr : Option (List Env)} {env : Env} {gd : Option (List Code)} {E : Value → Shared → Prop} {s : Shared} {h₀ : Heap} {L : Addr} {m : Str → Option Value} {news : List (Addr × Obj)} {Q : Value → Shared → Prop} {x dx : Addr} {n1 n2 n3 : Tok} {v1 v2 v3 v : Value} {bw : Bool}
    (F : Fr h₀ L s.heap m) (X₀ : (Mine.hh.heap_1_39 w.params).In h₀) (N : News h₀ L s.heap news) (T : Top Mine.hh.view_1_40 (looseW Mine.hh.view_1_40 [Str.ofString "PyFATException", Str.ofString "errno", Str.ofString "EightDotThree"]) mean mg mb h₀) (hfr : fr = some [env]) (hf : env.frame = some L) (hk : env.scope.kind ≠ .module) (hroom : dp + 40 < recursionLimit) (hx : (x, oneObj dx) ∈ news) (hdx : (dx, oneD w.params n1 n2 n3 v1 v2 v3) ∈ news) (hv : bw = true → NotInst w "bytes" v s.heap) (hv' : bw = false → NotInst w "str" v s.heap)
    (h : ∀ h' tk T t1 t2, Fr h₀ L h' m → News h₀ L h' ((T, tup2 (.str (Str.ofString "type") t1) (.int 0 t2)) :: news) → (∀ p ∈ news, p.1 ≠ T) → Q (.ref T) { s with heap := h', toks := tk }) :
    wpAny (model PySem.Challenge.rw_kj0039_01.row.prog w) { handled := none, depth := dp, frames := fr, guards := gd, units := un } (call (.ref 298) [.ref x, .bool bw, v]) Q E s := by
  cases bw
  · exact lset_ts_L F X₀ N T hfr hf hk hroom hx hdx (hv' rfl) h
  · exact lset_tb_L F X₀ N T hfr hf hk hroom hx hdx (hv rfl) h
theorem st_octs {n0 : Int} {ns : List Int} {x dx D R : Addr} {b : Array UInt8} {ws : List Value} {e : Nat} (h1 : Oct1 n0) (h2 : ∀ n ∈ ns, OctOk n) (hl : (n0 :: ns).length = 11) (hm : (n0 :: ns).getD 0 0 ≠ 0 ∧ (n0 :: ns).getD 0 0 ≠ 229) (hb : KBw.bInts b = n0 :: ns) (hi : IntsAre ws (n0 :: ns)) : LawSt (.ref R) (.ref D) true x dx D R (baObj b) (listOf ws.toArray e) := by
  have hok : OctsOk (n0 :: ns) := fun n hn => by
    rcases List.mem_cons.mp hn with rfl | hn
    · have := hm.1
      rw [List.getD_cons_zero] at this
      unfold Oct1 at h1
      unfold OctOk
      (first | k_extra "O" | omega)
    · exact h2 n hn
  have f : fixL (n0 :: ns) = n0 :: ns := fix_ok hok
  exact .inr ⟨b, n0 :: ns, ws, e, rfl, rfl, rfl, rfl, rfl, hb, hl, by rw [f]; exact hok, by rw [f]; exact hi⟩
end Mine
namespace Mine
theorem zr_D2f : True := by
  w_top off
  k_with_none
  k_with "O" => first | decide | ((with_reducible refine rmk (by assumption) ?_); rfl) | ((with_reducible refine rm0 (by assumption) ?_); rfl) | ((with_reducible refine lel (by assumption) ?_); rfl) | ((with_reducible refine llt (by assumption) ?_); rfl) | ((with_reducible refine ltt (by assumption) ?_); rfl) | ((with_reducible refine ltl (by assumption) ?_); rfl) | ((with_reducible refine ilt (by assumption) ?_); rfl) | (with_reducible exact rmz (by assumption)) | (with_reducible assumption)
  exact True.intro
open PySem.Calls
noncomputable def LawJ (w : World) (m : Str → Option Value) (nx : List (Addr × Obj)) : Prop :=
  ∃ (x dx D H : Addr) (oD oH : Obj) (n1 n2 n3 te : Tok) (ec : Str) (hv v1 : Value) (v3 : Bool), m (Str.ofString "one") = some (.ref x) ∧ m (Str.ofString "held") = some hv ∧
    nx = [(x, oneObj dx), (dx, oneD w.params n1 n2 n3 v1 (.str ec te) (.bool v3)), (D, oD), (H, oH)] ∧ LawSt hv v1 v3 x dx D H oD oH
theorem map2 {m : Str → Option Value} {a b : Str} {u v : Value} (ha : m a = some u) (hb : m b = some v) : m = fun y => if y = a then some u else if y = b then some v else m y := by
  funext y
  by_cases e1 : y = a
  · rw [if_pos e1, e1, ha]
  · by_cases e2 : y = b
    · rw [if_neg e1, if_pos e2, e2, hb]
    · rw [if_neg e1, if_neg e2]
theorem map3 {m : Str → Option Value} {a b c : Str} {u v t : Value} (ha : m a = some u) (hb : m b = some v) (hc : m c = some t) : m = fun y => if y = a then some u else if y = b then some v else if y = c then some t else m y := by
  funext y
  by_cases e1 : y = a
  · rw [if_pos e1, e1, ha]
  · rw [if_neg e1]
    exact congrFun (map2 hb hc) y
noncomputable abbrev lawScope : Scope := { kind := .function, names := [(Str.ofString "script", NameKind.local), (Str.ofString "one", NameKind.local), (Str.ofString "held", NameKind.local), (Str.ofString "number", NameKind.local), (Str.ofString "box", NameKind.local), (Str.ofString "kind", NameKind.local), (Str.ofString "text", NameKind.local), (Str.ofString "due", NameKind.local), (Str.ofString "told", NameKind.local), (Str.ofString "row", NameKind.local), (Str.ofString "octets", NameKind.local), (Str.ofString "bytewise", NameKind.local), (Str.ofString "value", NameKind.local), (Str.ofString "EightDotThree", NameKind.globalImplicit), (Str.ofString "_law_holds", NameKind.globalImplicit), (Str.ofString "abs", NameKind.globalImplicit), (Str.ofString "_law_take", NameKind.globalImplicit), (Str.ofString "_law_text", NameKind.globalImplicit), (Str.ofString "_law_conform", NameKind.globalImplicit), (Str.ofString "isinstance", NameKind.globalImplicit), (Str.ofString "bool", NameKind.globalImplicit), (Str.ofString "_law_laid", NameKind.globalImplicit), (Str.ofString "_law_set", NameKind.globalImplicit), (Str.ofString "_law_octets", NameKind.globalImplicit), (Str.ofString "len", NameKind.globalImplicit), (Str.ofString "list", NameKind.globalImplicit)], isGenerator := false, isCoroutine := false }
section
theorem zw_D2f_58 : True := by
  k_with_none
  k_with "O" => first | decide | ((with_reducible refine rmk (by assumption) ?_); rfl) | ((with_reducible refine rm0 (by assumption) ?_); rfl) | ((with_reducible refine lel (by assumption) ?_); rfl) | ((with_reducible refine llt (by assumption) ?_); rfl) | ((with_reducible refine ltt (by assumption) ?_); rfl) | ((with_reducible refine ltl (by assumption) ?_); rfl) | ((with_reducible refine ilt (by assumption) ?_); rfl) | (with_reducible exact rmz (by assumption)) | (with_reducible assumption)
  k_with "ks" => repeat' (first | (k_unfold; (try dsimp only)) | (k_end; wrow_close) | ((fail_if_success (with_reducible show wpAny _ _ (pyIter _) (fun it s₂ => codeC _ _ _ _ s₂) _ _)); (fail_if_success (with_reducible show wpAny _ _ (exec (Stmt.While _ _ _ _) _) _ _ _)); (first | k_extra "H" | walk1)) | ((fail_if_success (with_reducible show wpAny _ _ (pyIter _) (fun it s₂ => codeC _ _ _ _ s₂) _ _)); (fail_if_success (with_reducible show wpAny _ _ (exec (Stmt.While _ _ _ _) _) _ _ _)); dsimp only; (first | k_extra "H" | walk1)) | fail "no step")
  exact True.intro
set_option maxHeartbeats 2000000 in
/-- the turn's last statement. -/
theorem law_tail {w : World} {mean : ExcName → Option Value} {mg mb : Str → Option Value} {dp un : Nat} {gd : Option (List Code)} {g h' : Heap} {L' x dx D H I l : Addr} {n1 n2 n3 te : Tok} {ec : Str} {hv v1 : Value} {v3 : Bool} {oD oH o1 o2 : Obj} {m : Str → Option Value} {nx : List (Addr × Obj)} {S0 : Shared} {Q0 : Flow → Shared → Prop} {tk : Nat} {p1 p2 p3 p4 p5 p6 p7 p8 : Pos}
    (F : Fr g L' h' m) (X' : (Mine.hh.heap_1_39 w.params).In g) (N : News g L' h' nx) (T' : Top Mine.hh.view_1_40 (looseW Mine.hh.view_1_40 [Str.ofString "PyFATException", Str.ofString "errno", Str.ofString "EightDotThree"]) mean mg mb g) (hroom : dp + 70 < recursionLimit) (hun : un + 150 < cLine) (hone : m (Str.ofString "one") = some (.ref x)) (hheld : m (Str.ofString "held") = some hv)
    (hx : (x, oneObj dx) ∈ nx) (hdx : (dx, oneD w.params n1 n2 n3 v1 (.str ec te) (.bool v3)) ∈ nx) (hD : (D, oD) ∈ nx) (hH : (H, oH) ∈ nx) (hI : (I, o1) ∈ nx) (hl : (l, o2) ∈ nx) (St : LawSt hv v1 v3 x dx D H oD oH) (d1 : @Ne Nat D I) (d2 : @Ne Nat D l)
    (own : OwnOff [(I, o1), (l, o2)] [x, dx, D, H]) :
    wpC (model PySem.Challenge.rw_kj0039_01.row.prog w) (Around.deeper { handled := none, depth := dp, frames := some [], guards := gd, units := un } (envOf (Str.ofString "law") lawScope L' 319 (.ref 318))) (execs [.If (.UnaryOp .Not (.Call (.Name (Str.ofString "_law_holds") p1) [.Name (Str.ofString "one") p2, .Name (Str.ofString "held") p3] [] p4) p5) [.Return (some (.Constant (.bool false) 0 p6)) p7] [] p8] (envOf (Str.ofString "law") lawScope L' 319 (.ref 318)))
      (TPost g (envOf (Str.ofString "law") lawScope L' 319 (.ref 318)).locals (fun m nx => LawJ w m nx) [(I, o1), (l, o2)] S0 Q0) (fun _ _ => False) { S0 with heap := h', toks := tk } := by
  revert X'; k_fill; intro X'
  rw [map2 hone hheld] at F
  clear hone hheld
  refine wpC_any ?_
  (try k_fold)
  walk_at "ks"
  (rename Fr _ _ _ _ => Ff)
  (rename News _ _ _ _ => Nf)
  refine' law_fin (I := I) (o1 := o1) (o2 := o2) Ff X' Nf T' ?f1 ?f2 ?f3 ?k5 ?u hx hdx hD hH hI hl St d1 d2 ?_
  case f1 => rfl
  case f2 => rfl
  case f3 => show ScopeKind.function ≠ ScopeKind.module; decide
  case k5 => dsimp only [Around.deeper]; (first | k_extra "O" | omega)
  case u => dsimp only [Around.deeper]; (first | k_extra "O" | omega)
  intro h' tk oD' F' N' st'
  clear Nf
  walk_at "ks"
  show TEnd _ _ _ _ _ _
  (rename Fr _ _ _ _ => Fe)
  (rename News _ _ _ _ => Ne)
  refine' TEnd.intro Fe Ne ⟨x, dx, D, H, oD', oH, n1, n2, n3, te, ec, hv, v1, v3, ?j1, ?j2, rfl, st'⟩ ?b1 ?b2 own
  case j1 => with_unfolding_all rfl
  case j2 => with_unfolding_all rfl
  case b1 => exact fun p hp => List.mem_append_left [_, _] hp
  case b2 => exact fun p hp => List.mem_append_right [_, _, _, _] hp
end
section
theorem zw_D2f_59 : True := by
  k_with_none
  k_with "O" => first | decide | ((with_reducible refine rmk (by assumption) ?_); rfl) | ((with_reducible refine rm0 (by assumption) ?_); rfl) | ((with_reducible refine lel (by assumption) ?_); rfl) | ((with_reducible refine llt (by assumption) ?_); rfl) | ((with_reducible refine ltt (by assumption) ?_); rfl) | ((with_reducible refine ltl (by assumption) ?_); rfl) | ((with_reducible refine ilt (by assumption) ?_); rfl) | (with_reducible exact rmz (by assumption)) | (with_reducible assumption)
  k_with "ks" => repeat' (first | (k_unfold; (try dsimp only)) | (k_end; wrow_close) | ((fail_if_success (with_reducible show wpAny _ _ (pyIter _) (fun it s₂ => codeC _ _ _ _ s₂) _ _)); (fail_if_success (with_reducible show wpAny _ _ (exec (Stmt.While _ _ _ _) _) _ _ _)); (first | k_extra "H" | walk1)) | ((fail_if_success (with_reducible show wpAny _ _ (pyIter _) (fun it s₂ => codeC _ _ _ _ s₂) _ _)); (fail_if_success (with_reducible show wpAny _ _ (exec (Stmt.While _ _ _ _) _) _ _ _)); dsimp only; (first | k_extra "H" | walk1)) | fail "no step")
  k_with "H" => (k_here; (with_reducible show wpAny _ _ (call (Value.ref 298) _) _ _ _); k_dflt (refine' lset_t_L ?k1 ?k2 ?k3 ?k4 ?f1 ?f2 ?f3 ?k5 ?k6 ?k7 ?k8 ?k9 ?_; (case k1 => k_asm); (case k2 => k_asm); (case k3 => k_asm); (case k4 => k_asm); (case f1 => rfl); (case f2 => rfl); (case f3 => (show ScopeKind.function ≠ ScopeKind.module; decide)); (case k5 => (dsimp only [Around.deeper]; (first | k_extra "O" | omega))); (case k6 => with_reducible assumption); (case k7 => with_reducible assumption); (case k8 => with_reducible assumption); (case k9 => with_reducible assumption); k_whole); intro _ _ _ _ _ _ _ _)
  exact True.intro
set_option maxHeartbeats 2000000 in
/-- the deed with a value of another kind. -/
theorem law_vset {w : World} {mean : ExcName → Option Value} {mg mb : Str → Option Value} {dp un : Nat} {gd : Option (List Code)} {g h' : Heap} {L' x dx : Addr} {n1 n2 n3 : Tok} {v1 v2 v : Value} {v3 bw : Bool} {m : Str → Option Value} {nx : List (Addr × Obj)} {S0 : Shared} {tk : Nat} {p1 p2 p3 p4 p5 p6 p7 p8 p9 q1 q2 q3 : Pos} {Qv : Flow → Shared → Prop}
    (F : Fr g L' h' m) (X' : (Mine.hh.heap_1_39 w.params).In g) (N : News g L' h' nx) (T' : Top Mine.hh.view_1_40 (looseW Mine.hh.view_1_40 [Str.ofString "PyFATException", Str.ofString "errno", Str.ofString "EightDotThree"]) mean mg mb g) (hroom : dp + 70 < recursionLimit) (hun : un + 150 < cLine) (hone : m (Str.ofString "one") = some (.ref x)) (hbw : m (Str.ofString "bytewise") = some (.bool bw)) (hval : m (Str.ofString "value") = some v)
    (hx : (x, oneObj dx) ∈ nx) (hdx : (dx, oneD w.params n1 n2 n3 v1 v2 (.bool v3)) ∈ nx) (hb : bw = true → NotInst w "bytes" v h') (hs : bw = false → NotInst w "str" v h')
    (hQ : ∀ h'' tk'', Fr g L' h'' m → News g L' h'' nx → Qv .next { S0 with heap := h'', toks := tk'' }) :
    wpC (model PySem.Challenge.rw_kj0039_01.row.prog w) (Around.deeper { handled := none, depth := dp, frames := some [], guards := gd, units := un } (envOf (Str.ofString "law") lawScope L' 319 (.ref 318))) (execs [.If (.Compare (.Call (.Name (Str.ofString "_law_set") p1) [.Name (Str.ofString "one") p2, .Name (Str.ofString "bytewise") p3, .Name (Str.ofString "value") p4] [] p5) [.NotEq] [.Tuple [.Constant (.str (Str.ofString "type")) 0 p6, .Constant (.int 0) 0 p7] 0 p8] p9) [.Return (some (.Constant (.bool false) 0 q1)) q2] [] q3] (envOf (Str.ofString "law") lawScope L' 319 (.ref 318)))
      Qv (fun _ _ => False) { S0 with heap := h', toks := tk } := by
  revert X'; k_fill; intro X'
  have em := map3 hone hbw hval
  rw [em] at F hQ
  clear em hone hbw hval
  refine wpC_any ?_
  (try k_fold)
  walk_at "ks"
  (rename Fr _ _ _ _ => Fe)
  (rename News _ _ _ _ => Ne)
  exact hQ _ _ Fe fun p hp => Ne p (.tail _ (.tail _ hp))
end
end Mine
namespace Mine
theorem zr_D3 : True := by
  w_top off
  k_with_none
  k_with "O" => first | decide | ((with_reducible refine rmk (by assumption) ?_); rfl) | ((with_reducible refine rm0 (by assumption) ?_); rfl) | ((with_reducible refine lel (by assumption) ?_); rfl) | ((with_reducible refine llt (by assumption) ?_); rfl) | ((with_reducible refine ltt (by assumption) ?_); rfl) | ((with_reducible refine ltl (by assumption) ?_); rfl) | ((with_reducible refine ilt (by assumption) ?_); rfl) | (with_reducible exact rmz (by assumption)) | (with_reducible assumption)
  exact True.intro
open PySem.Calls
theorem mark_good : (Str.ofString "mark" == Str.ofString "good") = false := by decide +kernel
theorem ite_mark {b : Bool} {P Q : Prop} (h : Q) : if (Str.ofString "mark" == Str.ofString "good" && b) = true then P else Q := by
  rw [mark_good, Bool.false_and, if_neg Bool.false_ne_true]
  exact h
theorem news_dup {g h : Heap} {L : Addr} {a b : Addr × Obj} (N : News g L h [a, b]) : News g L h [a, b, a, a] := fun q hq => N q (by
  rcases List.mem_cons.mp hq with rfl | hq
  · exact .head _
  rcases List.mem_cons.mp hq with rfl | hq
  · exact .tail _ (.head _)
  rcases List.mem_cons.mp hq with rfl | hq
  · exact .head _
  · rw [List.mem_singleton.mp hq]; exact .head _)
theorem own8 {I l x dx D H : Nat} {o1 o2 : Obj} (a1 : I ≠ x) (a2 : I ≠ dx) (a3 : I ≠ D) (a4 : I ≠ H) (b1 : l ≠ x) (b2 : l ≠ dx) (b3 : l ≠ D) (b4 : l ≠ H) : OwnOff [((I : Addr), o1), ((l : Addr), o2)] [(x : Addr), dx, D, H] := fun p hp b hb => by
  have hb' : b = x ∨ b = dx ∨ b = D ∨ b = H := by simpa using hb
  rcases List.mem_cons.mp hp with rfl | hp
  · rcases hb' with rfl | rfl | rfl | rfl <;> assumption
  · have := List.mem_singleton.mp hp
    subst this
    rcases hb' with rfl | rfl | rfl | rfl <;> assumption
theorem st_text {y : Str} {x dx D R : Addr} {b : Array UInt8} {ws : List Value} {e : Nat} (hal : ∀ c ∈ y.cps.toList, c ∈ alph) (hc : conformB y.cps.toList = true) (hb : KBw.bInts b = setL y) (hi : IntsAre ws (laidL y.cps.toList)) : LawSt (.ref R) (.ref D) true x dx D R (baObj b) (listOf ws.toArray e) := by
  have hP := (conf_law hal).1.mpr hc
  obtain ⟨p1, p2⟩ := pad_law hal hP
  have p3 := (pad_ok hP).1
  have f := set_fix (y := y) (by rw [p1]; exact p2) p3
  exact .inr ⟨b, setL y, ws, e, rfl, rfl, rfl, rfl, rfl, hb, set_len p3, by rw [f, p1]; exact p2, by rw [f, p1]; exact hi⟩
theorem laid_len {y : Str} (hal : ∀ c ∈ y.cps.toList, c ∈ alph) (hc : conformB y.cps.toList = true) : (laidL y.cps.toList).length = 11 := by
  have hP := (conf_law hal).1.mpr hc
  rw [← (pad_law hal hP).1]
  exact (pad_ok hP).1
theorem news_tl {g h : Heap} {L : Addr} {p : Addr × Obj} {r : List (Addr × Obj)} (N : News g L h (p :: r)) : News g L h r := fun q hq => N q (.tail _ hq)
section
theorem zw_D3_60 : True := by
  k_with_none
  k_with "O" => first | decide | ((with_reducible refine rmk (by assumption) ?_); rfl) | ((with_reducible refine rm0 (by assumption) ?_); rfl) | ((with_reducible refine lel (by assumption) ?_); rfl) | ((with_reducible refine llt (by assumption) ?_); rfl) | ((with_reducible refine ltt (by assumption) ?_); rfl) | ((with_reducible refine ltl (by assumption) ?_); rfl) | ((with_reducible refine ilt (by assumption) ?_); rfl) | (with_reducible exact rmz (by assumption)) | (with_reducible assumption)
  k_with "ks" => repeat' (first | (k_unfold; (try dsimp only)) | (k_end; wrow_close) | ((fail_if_success (with_reducible show wpAny _ _ (pyIter _) (fun it s₂ => codeC _ _ _ _ s₂) _ _)); (fail_if_success (with_reducible show wpAny _ _ (exec (Stmt.While _ _ _ _) _) _ _ _)); (first | k_extra "H" | walk1)) | ((fail_if_success (with_reducible show wpAny _ _ (pyIter _) (fun it s₂ => codeC _ _ _ _ s₂) _ _)); (fail_if_success (with_reducible show wpAny _ _ (exec (Stmt.While _ _ _ _) _) _ _ _)); dsimp only; (first | k_extra "H" | walk1)) | fail "no step")
  k_with "H" => (k_here; (with_reducible show wpAny _ _ (call (Value.ref 312) _) _ _ _); k_dflt (refine' holds_none_L ?k1 ?k2 ?k3 ?k4 ?f1 ?f2 ?f3 ?k5 ?k6 ?k7 ?_; (case k1 => k_asm); (case k2 => k_asm); (case k3 => k_asm); (case k4 => k_asm); (case f1 => rfl); (case f2 => rfl); (case f3 => (show ScopeKind.function ≠ ScopeKind.module; decide)); (case k5 => (dsimp only [Around.deeper]; (first | k_extra "O" | omega))); (case k6 => k_mem); (case k7 => k_mem); k_whole); intro _ _ _ zzN; (try dsimp only at zzN); (try k_sweep))
  k_with "H" => (k_here; (with_reducible show wpAny _ _ (call (Value.ref 223) _ _) _ _ _); k_dflt (refine' make_one_K ?k1 ?k2 ?k3 ?k4 ?k5 ?_; (case k1 => k_asm); (case k2 => k_asm); (case k3 => k_asm); (case k4 => k_asm); (case k5 => (dsimp only [Around.deeper]; (first | k_extra "O" | omega))); k_whole); intro _ _ _ _ _ _ _ _ _ _ _ zzl1 zzl2; (try k_lt zzl1); (try k_lt2 zzl2); (try k_sweep))
  k_with "H" => (k_here; (with_reducible show wpAny _ _ (call (Value.ref 234) _) _ _ _); k_dflt (refine' take_K ?k1 ?k2 ?k3 ?k4 ?k5 ?k6 ?k7 ?k8 ?k9 ?_; (case k1 => k_asm); (case k2 => k_asm); (case k3 => k_asm); (case k4 => k_asm); (case k5 => (dsimp only [Around.deeper]; (first | k_extra "O" | omega))); (case k9 => k_updF); (case k6 => (first | k_extra "O" | omega)); (case k7 => (first | k_extra "O" | omega)); (case k8 => (first | k_extra "O" | omega)); k_whole); intro _ _ _ _ _ _ _ _ _ _ zzN; (try dsimp only at zzN); (try k_sweep))
  k_with "H" => (k_here; (with_reducible show wpAny _ _ (call (Value.ref 248) _) _ _ _); k_dflt (refine' text_K ?k1 ?k2 ?k3 ?k4 ?k5 ?k6 ?k7 ?_; (case k1 => k_asm); (case k2 => k_asm); (case k3 => k_asm); (case k4 => k_asm); (case k5 => (dsimp only [Around.deeper]; (first | k_extra "O" | omega))); (case k6 => k_updF); (case k7 => (first | k_extra "O" | omega)); k_whole); intro _ _ _ _ _ _ _ _ _ _ zzN; (try dsimp only at zzN); (try k_sweep))
  k_with "H" => (k_here; (with_reducible show wpAny _ _ (call (Value.ref 267) _) _ _ _); k_dflt (refine' conform_K ?k1 ?k2 ?k3 ?k4 ?k5 ?k6 ?k7 ?k8 ?_; (case k1 => k_asm); (case k2 => k_asm); (case k3 => k_asm); (case k4 => k_asm); (case k5 => (dsimp only [Around.deeper]; (first | k_extra "O" | omega))); (case k6 => (first | k_extra "O" | omega)); (case k7 => with_reducible assumption); (case k8 => (dsimp only [Around.deeper]; (first | k_extra "O" | omega))); k_whole); intro _ _ _ zzN; (try dsimp only at zzN); (try k_sweep))
  k_with "H" => (k_here; (with_reducible show wpAny _ _ (call (Value.ref 197) _) _ _ _); k_dflt (refine' conf1_L ?k1 ?k2 ?k3 ?k4 ?f1 ?f2 ?f3 ?k5 ?k6 ?k7 ?_; (case k1 => k_asm); (case k2 => k_asm); (case k3 => k_asm); (case k4 => k_asm); (case f1 => rfl); (case f2 => rfl); (case f3 => (show ScopeKind.function ≠ ScopeKind.module; decide)); (case k5 => (dsimp only [Around.deeper]; (first | k_extra "O" | omega))); (case k6 => (first | k_extra "O" | omega)); (case k7 => with_reducible assumption); k_whole); intro _ _ _ zzN; (try dsimp only at zzN); (try k_sweep))
  k_with "H" => (k_here; (with_reducible show wpAny _ _ (call (Value.ref 279) _) _ _ _); k_dflt (refine' laid_K ?k1 ?k2 ?k3 ?k4 ?k5 ?k6 ?k7 ?k8 ?_; (case k1 => k_asm); (case k2 => k_asm); (case k3 => k_asm); (case k4 => k_asm); (case k5 => (dsimp only [Around.deeper]; (first | k_extra "O" | omega))); (case k6 => (first | k_extra "O" | omega)); (case k7 => with_reducible assumption); (case k8 => (dsimp only [Around.deeper]; (first | k_extra "O" | omega))); k_whole); intro _ _ _ _ _ _ zzN zzl1 _; (try k_lt zzl1); (try dsimp only at zzN); (try k_sweep))
  k_with "H" => (k_here; (with_reducible show wpAny _ _ (call (Value.ref 255) _) _ _ _); k_dflt (refine' octets_K ?k1 ?k2 ?k3 ?k4 ?k5 ?k6 ?k7 ?_; (case k1 => k_asm); (case k2 => k_asm); (case k3 => k_asm); (case k4 => k_asm); (case k5 => (dsimp only [Around.deeper]; (first | k_extra "O" | omega))); (case k6 => k_updF); (case k7 => (first | k_extra "O" | omega)); k_whole); intro _ _ _ _ _ _ _ _ _ _ _ _ _ zzN; (try dsimp only at zzN); (try k_sweep))
  k_with "ite" => (with_reducible refine ite_mark ?_)
  k_with "H" => (k_here; (with_reducible show wpAny _ _ (call (Value.type "list") [Value.bytes _ _]) _ _ _); k_dflt (refine' list_bytes ?k1 ?k2 ?k3 ?k4 ?k5 ?_; (case k1 => rfl); (case k2 => k_asm); (case k3 => k_asm); (case k4 => with_reducible assumption); (case k5 => (rw [List.length_cons]; (first | k_extra "O" | omega)))); intro _ _ _ _ _ _ _ _ _)
  exact True.intro
set_option maxHeartbeats 4000000 in
theorem law_code {w : World} {mean : ExcName → Option Value} {mg mb : Str → Option Value} {dp un : Nat} {fr : Option (List Env)} {gd : Option (List Code)} {R : Result → Shared → Prop} {s : Shared} {h₀ : Heap} {l : Addr} {vs : List Value} {ns : List Int}
    (S : ∀ b o, h₀.get? b = some o → s.heap.get? b = some o) (X₀ : (Mine.hh.heap_1_39 w.params).In h₀) (T : Top Mine.hh.view_1_40 (looseW Mine.hh.view_1_40 [Str.ofString "PyFATException", Str.ofString "errno", Str.ofString "EightDotThree"]) mean mg mb h₀)
    (N : ∀ p ∈ ([] : List (Addr × Obj)), s.heap.get? p.1 = some p.2 ∧ h₀.get? p.1 = none)
    (hroom : dp + 70 < recursionLimit) (hfr : fr = some []) (hl : s.heap.IsList l vs.toArray) (hI : IntsAre vs ns) (hlen : ns.length ≤ 63) (hun : un + 150 < cLine)
    (hR : ∀ h' tk, (∀ a o, s.heap.get? a = some o → h'.get? a = some o) → R (.ok (.ret (.bool true))) { s with heap := h', toks := tk }) :
    codeC (model PySem.Challenge.rw_kj0039_01.row.prog w) { handled := none, depth := dp, frames := fr, guards := gd, units := un } (.call (.ref 319) ⟨[.ref l], []⟩) R s := by
  revert X₀; k_fill; intro X₀
  refine' enterC (f := 319) (mm := (fun zq => List.lookup zq [(Str.ofString "script", .ref l)])) S X₀ T N ?ho ?hcd ?hr ?hb ?hmm ?hloc ?_ ?c1 ?c2 ?c3 ?c4
  case ho => k_is
  case hcd => k_is
  case hr => show dp < recursionLimit; (first | k_extra "O" | omega)
  case hb => exact BindsTo.of_eq rfl
  case hmm => first | rfl | kernel_rfl | with_unfolding_all rfl
  case hloc => exact locs rfl
  case c1 => exact rfl
  case c2 => exact rfl
  case c3 => exact rfl
  case c4 => decide
  intro g L' h₁ tkA k1 k2 k3 F' N' X' T' k4 k5
  (try dsimp only)
  refine foldC fun qz ez hqz hez => ?_
  subst hfr
  obtain ⟨fo, fdo, hlk, hdat⟩ : ∃ o fd, (Mine.hh.heap_1_39 w.params).lookup 298 = some o ∧ o.data = Data.func fd := ⟨_, _, by k_is, rfl⟩
  have hlg : g.IsList l vs.toArray := hl.at fun o e => k1 _ _ e List.not_mem_nil
  refine C_stmt ?_
  (try k_fold)
  walk_at "ks"
  refine C_stmt ?_
  (try k_fold)
  walk_at "ks"
  refine C_stmt ?_
  (try k_fold)
  walk_at "ks"
  refine C_execs_cons (C_For ?_)
  (try k_fold)
  walk_at "ks"
  (rename Fr _ _ _ _ => F9)
  (rename News _ _ _ _ => N9)
  (rename IntsAre _ (List.take 10 ns) => hI2)
  refine' C_for_list (fun _ m nx => LawJ w m nx) (by rfl) (by rfl) (by rfl) (News.isList N9 (.head _)) ((N9 _ (.head _)).2.1) ((N9 _ (.head _)).2.2) ?hln F9 (news_dup (news_tl N9)) ?hj ?_ ?_
  case hln =>
    intro p hp
    (rename (_ < _ ∧ _ < _) => lt2)
    rcases List.mem_cons.mp hp with rfl | hp
    · exact Nat.ne_of_lt lt2.1
    rcases List.mem_cons.mp hp with rfl | hp
    · exact Nat.ne_of_lt lt2.2
    rcases List.mem_cons.mp hp with rfl | hp
    · exact Nat.ne_of_lt lt2.1
    · rw [List.mem_singleton.mp hp]; exact Nat.ne_of_lt lt2.1
  case hj => exact ⟨_, _, _, _, _, _, _, _, _, _, _, _, _, _, by with_unfolding_all rfl, by with_unfolding_all rfl, rfl, .inl ⟨rfl, rfl, rfl, rfl, rfl, rfl, rfl⟩⟩
  · rintro i v m₁ nx h tk own ⟨I, o1, o2, rfl, hne⟩ hv ⟨x, dx, D, H, oD, oH, n1, n2, n3, te, ec, hv0, v1, v3, hone, hheld, rfl, hst⟩ hoff F N
    obtain ⟨k, kt, rfl, hk⟩ := IntsAre.at hI2 i v hv
    have hz0 : 0 ≤ (if k < 0 then -k else k).fmod (10 ^ Int.toNat 60) := Int.fmod_nonneg_of_pos _ (by decide)
    rw [map2 hone hheld] at F
    simp only [List.cons_append, List.nil_append] at N
    have e1 : @Ne Nat I x := hoff _ (.head _) _ (.head _)
    have e2 : @Ne Nat I dx := hoff _ (.head _) _ (.tail _ (.head _))
    have e3 : @Ne Nat I D := hoff _ (.head _) _ (.tail _ (.tail _ (.head _)))
    have e4 : @Ne Nat I H := hoff _ (.head _) _ (.tail _ (.tail _ (.tail _ (.head _))))
    have f1 : @Ne Nat _ x := hoff _ (.tail _ (.head _)) _ (.head _)
    have f2 : @Ne Nat _ dx := hoff _ (.tail _ (.head _)) _ (.tail _ (.head _))
    have f3 : @Ne Nat _ D := hoff _ (.tail _ (.head _)) _ (.tail _ (.tail _ (.head _)))
    have f4 : @Ne Nat _ H := hoff _ (.tail _ (.head _)) _ (.tail _ (.tail _ (.tail _ (.head _))))
    dsimp only at f1 f2 f3 f4
    have e5 : @Ne Nat x dx := obj_ne (N _ (.head _)).1 (N _ (.tail _ (.head _))).1 (by simp)
    have e6 : @Ne Nat D dx := obj_ne (N _ (.tail _ (.tail _ (.head _)))).1 (N _ (.tail _ (.head _))).1 (hst.ne.1 _ _)
    have e7 : @Ne Nat H dx := obj_ne (N _ (.tail _ (.tail _ (.tail _ (.head _))))).1 (N _ (.tail _ (.head _))).1 (hst.ne.2 _ _)
    refine C_stmt ?_
    (try k_fold)
    walk_at "ks"
    (rename News _ _ _ _ => N9)
    generalize (if k < 0 then -k else k).fmod (10 ^ Int.toNat 60) = z0 at hz0 N9
    refine C_stmt ?_
    (try k_fold)
    walk_at "ks"
    refine C_execs_cons (C_If (wpC_any ?_))
    (try k_fold)
    walk_at "ks"
    · refine C_stmt ?_
      (try k_fold)
      walk_at "ks"
      refine C_stmt ?_
      (try k_fold)
      walk_at "ks"
      refine C_stmt ?_
      (try k_fold)
      walk_at "ks"
      refine C_stmt ?_
      (try k_fold)
      walk_at "ks"
      · exfalso
        (rename ((_ != _) = true) => q)
        simp at q
      refine C_stmt ?_
      (try k_fold)
      walk_at "ks"
      · (rename (∀ c ∈ _, c ∈ alph) => hal)
        (rename (conformB _ = true) => hct)
        have hl11 := laid_len hal hct
        (rename (∀ p ∈ _, Prod.fst p ≠ _) => lR)
        have r1 : @Ne Nat dx _ := lR (dx, _) (by k_mem)
        have r2 : @Ne Nat x _ := lR (x, _) (by k_mem)
        have r3 : @Ne Nat I _ := lR (I, o1) (by k_mem)
        have r4 : @Ne Nat _ _ := lR (_, o2) (by k_mem)
        clear lR
        refine C_stmt ?_
        (try k_fold)
        walk_at "ks"
        · (try (k_unfold; dsimp only))
          show TEnd _ _ _ _ _ _
          (rename Fr _ _ _ _ => Fe)
          (rename News _ _ _ _ => Ne)
          refine' TEnd.intro Fe Ne ⟨x, dx, D, H, oD, oH, n1, n2, n3, te, ec, hv0, v1, v3, ?j1, ?j2, rfl, hst⟩ ?b1 ?b2 hoff
          case j1 => with_unfolding_all rfl
          case j2 => with_unfolding_all rfl
          case b1 => exact fun p hp => .tail _ (.tail _ (List.mem_append_left [_, _] hp))
          case b2 => exact fun p hp => List.mem_append_right [_, _, _, _, _, _] hp
        clear hl11
        refine C_execs_cons (C_If (C_isTrue_Compare1 (C_Call ?_)))
        (try k_fold)
        walk_at "ks"
        refine C_callWith_fn hdat ?_
        (try k_fold)
        walk_at "ks"
        · (rename Fr _ _ _ _ => Fe)
          exact (X'.keeps Fe.keep) _ _ hlk
        (rename Fr _ _ _ _ => Fe)
        (rename News _ _ _ _ => Ne)
        show wpC _ _ (call (Value.ref 298) [Value.ref x, Value.bool false, Value.str _ _]) _ _ _
        refine' lset_s_L Fe X' Ne T' ?f1 ?f2 ?f3 ?k5 ?k6 ?k7 ?k8 ?hn ?hp
        case f1 => rfl
        case f2 => rfl
        case f3 => show ScopeKind.function ≠ ScopeKind.module; decide
        case k5 => dsimp only [Around.deeper]; (first | k_extra "O" | omega)
        case k6 => k_mem
        case k7 => k_updF
        case k8 => (first | k_extra "O" | omega)
        case hn => exact fun hc => absurd ((conf_law hal).1.mpr hct) hc
        case hp =>
          intro _ h' tk T t1 t2 D2 b2 F' N' lT lD hTD hb2
          (try dsimp only at N')
          clear Ne
          walk_at "ks"
          refine wpC_any ?_
          (try k_fold)
          walk_at "ks"
          refine wpC_any ?_
          (try k_fold)
          walk_at "ks"
          (rename Fr _ _ _ _ => Ff)
          (rename News _ _ _ _ => Nf)
          (rename IntsAre _ (laidL _) => hRi)
          have s1 : @Ne Nat I D2 := lD (I, o1) (by k_mem)
          have s2 : @Ne Nat _ D2 := lD (_, o2) (by k_mem)
          refine' law_tail Ff X' Nf T' hroom hun ?o1 ?o2 ?m1 ?m2 ?m3 ?m4 ?m5 ?m6 (st_text hal hct hb2 hRi) (Ne.symm s1) (Ne.symm s2) (own8 e1 e2 s1 r3 f1 f2 s2 r4)
          case o1 => with_unfolding_all rfl
          case o2 => with_unfolding_all rfl
          case m1 => k_mem
          case m2 => k_mem
          case m3 => k_mem
          case m4 => k_mem
          case m5 => k_mem
          case m6 => k_mem
      · (rename (∀ c ∈ _, c ∈ alph) => hal)
        (rename (conformB _ = false) => hcf)
        refine C_stmt ?_
        (try k_fold)
        walk_at "ks"
        refine C_execs_cons (C_If (C_isTrue_Compare1 (C_Call ?_)))
        (try k_fold)
        walk_at "ks"
        refine C_callWith_fn hdat ?_
        (try k_fold)
        walk_at "ks"
        · (rename Fr _ _ _ _ => Fe)
          exact (X'.keeps Fe.keep) _ _ hlk
        (rename Fr _ _ _ _ => Fe)
        (rename News _ _ _ _ => Ne)
        show wpC _ _ (call (Value.ref 298) [Value.ref x, Value.bool false, Value.str _ _]) _ _ _
        refine' lset_s_L Fe X' Ne T' ?f1 ?f2 ?f3 ?k5 ?k6 ?k7 ?k8 ?hn ?hp
        case f1 => rfl
        case f2 => rfl
        case f3 => show ScopeKind.function ≠ ScopeKind.module; decide
        case k5 => dsimp only [Around.deeper]; (first | k_extra "O" | omega)
        case k6 => k_mem
        case k7 => k_updF
        case k8 => (first | k_extra "O" | omega)
        case hp => exact fun hc => absurd ((conf_law hal).1.mp hc) (by rw [hcf]; decide)
        case hn =>
          intro _ h' tk T t1 t2 F' N' lT
          clear Ne
          walk_at "ks"
          refine wpC_any ?_
          (try k_fold)
          walk_at "ks"
          refine wpC_any ?_
          (try k_fold)
          walk_at "ks"
          (rename Fr _ _ _ _ => Ff)
          (rename News _ _ _ _ => Nf)
          refine' law_tail Ff X' Nf T' hroom hun ?o1 ?o2 ?m1 ?m2 ?m3 ?m4 ?m5 ?m6 hst (Ne.symm e3) (Ne.symm f3) (own8 e1 e2 e3 e4 f1 f2 f3 f4)
          case o1 => with_unfolding_all rfl
          case o2 => with_unfolding_all rfl
          case m1 => k_mem
          case m2 => k_mem
          case m3 => k_mem
          case m4 => k_mem
          case m5 => k_mem
          case m6 => k_mem
    · refine C_execs_cons (C_If (wpC_any ?_))
      (try k_fold)
      walk_at "ks"
      · skip
        refine C_stmt ?_
        (try k_fold)
        walk_at "ks"
        (rename Oct1 _ => ho1)
        (rename (∀ n ∈ _, OctOk n) => hon)
        have hin := in_of ho1 hon
        have hbi := KBa.ints_make hin
        refine C_stmt ?_
        (try k_fold)
        walk_at "ks"
        refine C_stmt ?_
        (try k_fold)
        walk_at "ks"
        · skip
          refine C_execs_cons (C_If (C_isTrue_Compare1 (C_Call ?_)))
          (try k_fold)
          walk_at "ks"
          refine C_callWith_fn hdat ?_
          (try k_fold)
          walk_at "ks"
          · (rename Fr _ _ _ _ => Fe)
            exact (X'.keeps Fe.keep) _ _ hlk
          (rename Fr _ _ _ _ => Fe)
          (rename News _ _ _ _ => Ne)
          show wpC _ _ (call (Value.ref 298) [Value.ref x, Value.bool true, Value.bytes _ _]) _ _ _
          refine' lset_b_L Fe X' Ne T' ?f1 ?f2 ?f3 ?k5 ?k6 ?k7 hbi ?k8 ?hn ?hm ?hp
          case f1 => rfl
          case f2 => rfl
          case f3 => show ScopeKind.function ≠ ScopeKind.module; decide
          case k5 => dsimp only [Around.deeper]; (first | k_extra "O" | omega)
          case k6 => k_mem
          case k7 => k_updF
          case k8 => rw [List.length_cons]; (first | k_extra "O" | omega)
          case hp => intro hc _; exfalso; (first | k_extra "O" | omega)
          case hm => intro hc _; exfalso; (first | k_extra "O" | omega)
          case hn =>
            intro _ h' tk T t1 t2 F' N' lT
            clear Ne
            walk_at "ks"
            refine wpC_any ?_
            (try k_fold)
            walk_at "ks"
            refine wpC_any ?_
            (try k_fold)
            walk_at "ks"
            refine wpC_any ?_
            (try k_fold)
            walk_at "ks"
            (rename Fr _ _ _ _ => Ff)
            (rename News _ _ _ _ => Nf)
            refine' law_tail Ff X' Nf T' hroom hun ?o1 ?o2 ?m1 ?m2 ?m3 ?m4 ?m5 ?m6 hst (Ne.symm e3) (Ne.symm f3) (own8 e1 e2 e3 e4 f1 f2 f3 f4)
            case o1 => with_unfolding_all rfl
            case o2 => with_unfolding_all rfl
            case m1 => k_mem
            case m2 => k_mem
            case m3 => k_mem
            case m4 => k_mem
            case m5 => k_mem
            case m6 => k_mem
        · skip
          refine C_execs_cons (C_If (C_isTrue_Compare1 (C_Call ?_)))
          (try k_fold)
          walk_at "ks"
          refine C_callWith_fn hdat ?_
          (try k_fold)
          walk_at "ks"
          · (rename Fr _ _ _ _ => Fe)
            exact (X'.keeps Fe.keep) _ _ hlk
          (rename Fr _ _ _ _ => Fe)
          (rename News _ _ _ _ => Ne)
          show wpC _ _ (call (Value.ref 298) [Value.ref x, Value.bool true, Value.bytes _ _]) _ _ _
          refine' lset_b_L Fe X' Ne T' ?f1 ?f2 ?f3 ?k5 ?k6 ?k7 hbi ?k8 ?hn ?hm ?hp
          case f1 => rfl
          case f2 => rfl
          case f3 => show ScopeKind.function ≠ ScopeKind.module; decide
          case k5 => dsimp only [Around.deeper]; (first | k_extra "O" | omega)
          case k6 => k_mem
          case k7 => k_updF
          case k8 => rw [List.length_cons]; (first | k_extra "O" | omega)
          case hp =>
            intro hc hm'
            (rename (List.getD _ (Int.toNat 0) 0 = _) => k0)
            first | exact absurd k0 hm'.1 | exact absurd k0 hm'.2
          case hn => intro hc; exfalso; (first | k_extra "O" | omega)
          case hm =>
            intro _ _ h' tk T t1 t2 F' N' lT
            clear Ne
            walk_at "ks"
            refine wpC_any ?_
            (try k_fold)
            walk_at "ks"
            refine wpC_any ?_
            (try k_fold)
            walk_at "ks"
            refine wpC_any ?_
            (try k_fold)
            walk_at "ks"
            (rename Fr _ _ _ _ => Ff)
            (rename News _ _ _ _ => Nf)
            refine' law_tail Ff X' Nf T' hroom hun ?o1 ?o2 ?m1 ?m2 ?m3 ?m4 ?m5 ?m6 hst (Ne.symm e3) (Ne.symm f3) (own8 e1 e2 e3 e4 f1 f2 f3 f4)
            case o1 => with_unfolding_all rfl
            case o2 => with_unfolding_all rfl
            case m1 => k_mem
            case m2 => k_mem
            case m3 => k_mem
            case m4 => k_mem
            case m5 => k_mem
            case m6 => k_mem
            · exfalso
              (rename (¬ _ = _) => q)
              exact q rfl
        · skip
          refine C_execs_cons (C_If (C_isTrue_Compare1 (C_Call ?_)))
          (try k_fold)
          walk_at "ks"
          refine C_callWith_fn hdat ?_
          (try k_fold)
          walk_at "ks"
          · (rename Fr _ _ _ _ => Fe)
            exact (X'.keeps Fe.keep) _ _ hlk
          (rename Fr _ _ _ _ => Fe)
          (rename News _ _ _ _ => Ne)
          show wpC _ _ (call (Value.ref 298) [Value.ref x, Value.bool true, Value.bytes _ _]) _ _ _
          refine' lset_b_L Fe X' Ne T' ?f1 ?f2 ?f3 ?k5 ?k6 ?k7 hbi ?k8 ?hn ?hm ?hp
          case f1 => rfl
          case f2 => rfl
          case f3 => show ScopeKind.function ≠ ScopeKind.module; decide
          case k5 => dsimp only [Around.deeper]; (first | k_extra "O" | omega)
          case k6 => k_mem
          case k7 => k_updF
          case k8 => rw [List.length_cons]; (first | k_extra "O" | omega)
          case hp =>
            intro hc hm'
            (rename (List.getD _ (Int.toNat 0) 0 = _) => k0)
            first | exact absurd k0 hm'.1 | exact absurd k0 hm'.2
          case hn => intro hc; exfalso; (first | k_extra "O" | omega)
          case hm =>
            intro _ _ h' tk T t1 t2 F' N' lT
            clear Ne
            walk_at "ks"
            refine wpC_any ?_
            (try k_fold)
            walk_at "ks"
            refine wpC_any ?_
            (try k_fold)
            walk_at "ks"
            refine wpC_any ?_
            (try k_fold)
            walk_at "ks"
            (rename Fr _ _ _ _ => Ff)
            (rename News _ _ _ _ => Nf)
            refine' law_tail Ff X' Nf T' hroom hun ?o1 ?o2 ?m1 ?m2 ?m3 ?m4 ?m5 ?m6 hst (Ne.symm e3) (Ne.symm f3) (own8 e1 e2 e3 e4 f1 f2 f3 f4)
            case o1 => with_unfolding_all rfl
            case o2 => with_unfolding_all rfl
            case m1 => k_mem
            case m2 => k_mem
            case m3 => k_mem
            case m4 => k_mem
            case m5 => k_mem
            case m6 => k_mem
            · exfalso
              (rename (¬ _ = _) => q)
              exact q rfl
        · skip
          refine C_execs_cons (C_If (C_isTrue_Compare1 (C_Call ?_)))
          (try k_fold)
          walk_at "ks"
          refine C_callWith_fn hdat ?_
          (try k_fold)
          walk_at "ks"
          · (rename Fr _ _ _ _ => Fe)
            exact (X'.keeps Fe.keep) _ _ hlk
          (rename Fr _ _ _ _ => Fe)
          (rename News _ _ _ _ => Ne)
          show wpC _ _ (call (Value.ref 298) [Value.ref x, Value.bool true, Value.bytes _ _]) _ _ _
          refine' lset_b_L Fe X' Ne T' ?f1 ?f2 ?f3 ?k5 ?k6 ?k7 hbi ?k8 ?hn ?hm ?hp
          case f1 => rfl
          case f2 => rfl
          case f3 => show ScopeKind.function ≠ ScopeKind.module; decide
          case k5 => dsimp only [Around.deeper]; (first | k_extra "O" | omega)
          case k6 => k_mem
          case k7 => k_updF
          case k8 => rw [List.length_cons]; (first | k_extra "O" | omega)
          case hn => intro hc; exfalso; (first | k_extra "O" | omega)
          case hm =>
            intro hc hm'
            (rename (List.getD _ (Int.toNat 0) 0 ≠ 0) => g0)
            (rename (List.getD _ (Int.toNat 0) 0 ≠ 229) => g2)
            exact (hm'.elim (fun z => absurd z g0) fun z => absurd z g2)
          case hp =>
            intro hc hm' h' tk T t1 t2 D2 F' N' lT lD hTD
            clear Ne
            walk_at "ks"
            refine wpC_any ?_
            (try k_fold)
            walk_at "ks"
            refine wpC_any ?_
            (try k_fold)
            walk_at "ks"
            refine wpC_any ?_
            (try k_fold)
            walk_at "ks"
            (rename Fr _ _ _ _ => Ff)
            (rename News _ _ _ _ => Nf)
            (rename IntsAre _ (_ :: _) => hRi)
            (rename (∀ p ∈ _, Prod.fst p ≠ _) => lR)
            have s1 : @Ne Nat I D2 := lD (I, o1) (by k_mem)
            have s2 : @Ne Nat _ D2 := lD (_, o2) (by k_mem)
            have r3 : @Ne Nat I _ := lR (I, o1) (by k_mem)
            have r4 : @Ne Nat _ _ := lR (_, o2) (by k_mem)
            clear lR
            refine' law_tail Ff X' Nf T' hroom hun ?o1 ?o2 ?m1 ?m2 ?m3 ?m4 ?m5 ?m6 (st_octs ho1 hon hc hm' hbi hRi) (Ne.symm s1) (Ne.symm s2) (own8 e1 e2 s1 r3 f1 f2 s2 r4)
            case o1 => with_unfolding_all rfl
            case o2 => with_unfolding_all rfl
            case m1 => k_mem
            case m2 => k_mem
            case m3 => k_mem
            case m4 => k_mem
            case m5 => k_mem
            case m6 => k_mem
      · skip
        refine C_stmt ?_
        (try k_fold)
        walk_at "ks"
        refine C_stmt ?_
        (try k_fold)
        walk_at "ks"
        all_goals
          (rename Fr _ _ _ _ => Fe)
          (rename News _ _ _ _ => Ne)
          refine' law_vset Fe X' Ne T' hroom hun ?o1 ?o2 ?o3 ?k6 ?k7 ?k8 ?k9 ?_
          case o1 => with_unfolding_all rfl
          case o2 => with_unfolding_all rfl
          case o3 => with_unfolding_all rfl
          case k6 => k_mem
          case k7 => k_mem
          case k8 => (intro qb; first | exact nib_none | exact nib_int | exact nib_bool | exact nib_str | exact nib_list (News.isList Ne (by k_mem)) | (exfalso; simp only [beq_iff_eq] at qb; first | contradiction | (first | k_extra "O" | omega)))
          case k9 => (intro qb; first | exact nis_none | exact nis_int | exact nis_bool | exact nis_bytes | exact nis_list (News.isList Ne (by k_mem)) | (exfalso; simp only [beq_eq_false_iff_ne] at qb; first | contradiction | (first | k_extra "O" | omega)))
          clear Fe Ne
          intro h' tk Fg Ng
          dsimp only
          refine wpC_any (wpAny_execs_nil ?_)
          dsimp only
          (rename Fr _ _ _ _ => Ff)
          (rename News _ _ _ _ => Nf)
          refine' law_tail Ff X' Nf T' hroom hun ?o1 ?o2 ?m1 ?m2 ?m3 ?m4 ?m5 ?m6 hst (Ne.symm e3) (Ne.symm f3) (own8 e1 e2 e3 e4 f1 f2 f3 f4)
          case o1 => with_unfolding_all rfl
          case o2 => with_unfolding_all rfl
          case m1 => k_mem
          case m2 => k_mem
          case m3 => k_mem
          case m4 => k_mem
          case m5 => k_mem
          case m6 => k_mem
  · intro m₁ nx h tk hj F N
    refine wpC_any ?_
    (try k_fold)
    walk_at "ks"
    (try (k_unfold; dsimp only))
    show qz _ _
    rw [hqz]
    (try dsimp only)
    exact hR _ _ fun a o e => F.keep _ _ (k1 _ _ e List.not_mem_nil)
end
end Mine
namespace Mine
theorem zr_E1 : True := by
  w_top off
  k_with_none
  k_with "O" => first | decide | ((with_reducible refine rmk (by assumption) ?_); rfl) | ((with_reducible refine rm0 (by assumption) ?_); rfl) | ((with_reducible refine lel (by assumption) ?_); rfl) | ((with_reducible refine llt (by assumption) ?_); rfl) | ((with_reducible refine ltt (by assumption) ?_); rfl) | ((with_reducible refine ltl (by assumption) ?_); rfl) | ((with_reducible refine ilt (by assumption) ?_); rfl) | (with_reducible exact rmz (by assumption)) | (with_reducible assumption)
  exact True.intro
open PySem.Calls
set_option maxHeartbeats 2000000 in
theorem row0 : PySem.Challenge.rw_kj0039_01.Holds := by
  refine Mine.hh.walked ?_
  k_fill
  intro w s₀ s₁ mg mb G Y fa o pm cd doc dV kV ho hd hcd hD hmg hg args vals as hpre hlay hrd hwl hlo
  have KX := kIn_of Y
  have X := (Ground.X G).1
  have V := (Ground.X G).2
  refine Ground.open G ?_
  intro T B D TE TW
  have hT : fa = 319 := by
    have e := mg_of KX T.g (n := Str.ofString "law") (v := .ref 319) (by k_is)
    have e2 := hmg.symm.trans e
    cases e2
    rfl
  subst hT
  clear hmg hd hcd hD
  wrow_args hpre hlay hrd hwl hlo
  (rename IntsAre _ _ => hI)
  (rename Heap.IsList _ _ _ => hL)
  refine wpC_call (law_code (s := s₁) (fun _ _ e => e) KX T (fun p hp => absurd hp List.not_mem_nil) ?r1 rfl hL hI ?r2 ?r3 fun h' tk hk => ?_)
  case r1 => show _ < recursionLimit; decide +kernel
  case r2 => (first | k_extra "O" | omega)
  case r3 => decide +kernel
  refine GoodW.toG ⟨.inl ⟨.bool true, ofPy (PyData.bool true), [], rfl, ?a1, ?a2, ?a3, ?a4⟩, hk, rfl, hg⟩
  case a1 => intro cls; rfl
  case a2 => exact readsW_of_reads (Reads.bool _)
  case a3 =>
    generalize ofPy (PyData.list _) = aa
    first | rfl | with_unfolding_all rfl
  case a4 => intro _; exact ⟨List.nodup_nil, fun a ha => absurd ha List.not_mem_nil⟩
end Mine
theorem PySem.Challenge.cw_kj0039_01_holds : PySem.Challenge.rw_kj0039_01.Holds :=
  Mine.row0
