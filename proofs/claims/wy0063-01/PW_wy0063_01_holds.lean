import PyProof.Rows.All
import Wide.All
import OpenK.AllK
import Wide.FinOn
import PySem.Challenge.RW_wy0063_01
set_option Elab.async false
set_option maxRecDepth 100000
set_option maxHeartbeats 8000000
set_option linter.unusedVariables false
namespace Mine
open PySem PySem.W PyProof.Rows
open_top hd for PySem.Challenge.rw_wy0063_01

noncomputable abbrev PR : Program := PySem.Challenge.rw_wy0063_01.row.prog
noncomputable abbrev LL : List Str := (looseW hd.view_39 [Str.ofString "length_hint"] ++ List.map (fun x => x.name) (recsOf hd.view_39) ++
      List.map (fun x => x.fst) (litsOf hd.view_39) ++ List.map (fun x => x.name) (clssOf hd.view_39 (looseW hd.view_39 [Str.ofString "length_hint"])))

def findDef (n : Str) : List Stmt → Option (List Stmt × Scope)
  | [] => none
  | .FunctionDef nm _ b _ _ _ sc _ _ _ :: r => if nm == n then some (b, sc) else findDef n r
  | _ :: r => findDef n r
noncomputable def lawDef : List Stmt × Scope := (findDef "law" PySem.Challenge.pw_wy0063_01.main.body).getD ([], default)
def forPart : List Stmt → List Stmt
  | .For _ _ b _ _ :: _ => b
  | _ => []
noncomputable def forBody : List Stmt := forPart (lawDef.1.drop 4)
noncomputable def stAt (i : Nat) : Stmt := forBody.getD i (.Pass default)
noncomputable def lawScope : Scope := lawDef.2
noncomputable def lawEnv (L fa : Addr) : Env := envOfC "law" lawScope L fa (.ref 94)
noncomputable def lawA (L fa : Addr) : Around := callerA.deeper (lawEnv L fa)
end Mine
namespace Mine
open PySem PySem.W PyProof.Rows PySem.Calls PySem.Spec PyProof.V
/-- what the walk of the law's top asks of its loop -/
def Loop : Prop :=
  ∀ {w : World} {h₀ h : Heap} {L fa : Nat} {mg mb : Str → Option Value} {mean : ExcName → Option Value} {s : Shared} {tk : Nat} {l : Addr} {vs : List Value} {ns : List Int} {m m' : Str → Option Value} {px ip pos : Pos} {Q : Flow → Shared → Prop} {E : Value → Shared → Prop} {body : List Stmt} {sc : Scope}
    {news : List (Addr × Obj)} {nR nH : Nat} {rA hA nA tA : Nat} {oV oT oP oK oH oN obN obT : Obj} {v1 v2 v3 : Option Value},
    forBody = body → lawScope = sc →
    (hd.heap_39 w.params).In h₀ → Top topProg LL mean mg mb h₀ → Below callerA h₀ [] h₀ → CodeHd h₀ 94 92 → h₀.IsList l vs.toArray → IntsAre vs ns → ns.length ≤ 63 →
    Fr h₀ L h m → m (Str.ofString "script") = some (.ref l) →
    News h₀ L h news → Fr h₀ L h (fun y => if y = Str.ofString "row" then some (.ref rA) else m' y) →
    (L+1+1+1+1+1+1, oV) ∈ news → (L+1+1+1+1+1, oT) ∈ news → (L+1+1+1+1, oP) ∈ news → (L+1+1+1, oK) ∈ news → (L+1+1, oH) ∈ news → (L+1, oN) ∈ news → (92, tabObj #[]) ∈ news →
    oH.data = .cell (some (.ref hA)) → oN.data = .cell (some (.ref nA)) → oT.data = .cell (some (.ref tA)) →
    oV.data = .cell v1 → oP.data = .cell v2 → oK.data = .cell v3 →
    (rA, W.listOf (List.toArray []) nR) ∈ news → (hA, W.listOf (List.toArray []) nH) ∈ news → (nA, obN) ∈ news → (tA, obT) ∈ news →
    obN.IsDictOf (PySem.strKind PR w) [] → (nA == sysModules) = false → obT.IsDictOf (PySem.strKind PR w) [] → (tA == sysModules) = false →
    (92 < L ∧ L+1+1+1+1+1+1 < rA ∧ L+1+1+1+1+1+1 < hA ∧ hA < tA ∧ L+1+1+1+1+1+1 < nA ∧ rA ≠ hA ∧ rA ≠ tA ∧ nA ≠ hA ∧ nA ≠ tA ∧ rA ≠ nA) →
    (∀ h' tk' m' ps, Fr h₀ L h' m' → News h₀ L h' [(92, tabObj ps)] → Q .next { s with heap := h', toks := tk' }) →
    wpAny (model PR w) (callerA.deeper (envOfC "law" sc L fa (.ref 94))) (exec (.For (.Name (Str.ofString "number") px) (.Name (Str.ofString "script") ip) body [] pos) (envOfC "law" sc L fa (.ref 94))) Q E { s with heap := h, toks := tk }
theorem top_walk (LO : Loop) : PySem.Challenge.rw_wy0063_01.Holds := by
  unfold Loop at LO
  refine hd ?_
  w_top off
  k_go0
  (all_goals try k_fold)
  w_top off
  repeat' (first | (k_unfold; (try dsimp only)) | ((fail_if_success (with_reducible show wpAny _ _ (exec (Stmt.For _ _ _ _ _) _) _ _ _)); (first | (k_end; wrow_close) | walk1 | (dsimp only; walk1) | (leave1; try dsimp only))))
  with_reducible refine' LO ?hb ?hs ?X ?T ?B ?C ?hl ?hi ?hlen ?F ?hm ?N ?F2 ?mV ?mT ?mP ?mK ?mH ?mN ?m92 ?dH ?dN ?dT ?dV ?dP ?dK ?lR ?lH ?lN ?lT ?iN ?gN ?iT ?gT ?q ?_
  case hs => (conv => lhs; whnf)
  case hb => (conv => lhs; whnf)
  case X => assumption
  case T => assumption
  case B => assumption
  case C => assumption
  case hl => assumption
  case hi => assumption
  case F => assumption
  case N => assumption
  case F2 => assumption
  case mV => k_mem
  case mT => k_mem
  case mP => k_mem
  case mK => k_mem
  case mH => k_mem
  case mN => k_mem
  case m92 => k_mem
  case dH => assumption
  case dN => assumption
  case dT => assumption
  case dV => first | assumption | exact rfl
  case dP => first | assumption | exact rfl
  case dK => first | assumption | exact rfl
  case lR => k_mem
  case lH => k_mem
  case lN => k_mem
  case lT => k_mem
  case iN => assumption
  case iT => assumption
  case gN => assumption
  case gT => assumption
  case q => refine ⟨?_, ?_, ?_, ?_, ?_, ?_, ?_, ?_, ?_, ?_⟩ <;> omega
  case hlen => omega
  case hm => (with_unfolding_all exact rfl)
  intro h' tk' m' ps' F' N'
  w_top off
  k_steps
  all_goals w_report
end Mine
namespace Mine
open PySem PySem.W PyProof.Rows PySem.Calls PySem.Spec
theorem leN {a b : Nat} (h : a ≤ b) : a ≤ b := h
theorem cds_ne {cds : List (Addr × Obj)} {lo a : Addr} (h : ∀ p ∈ cds, lo < p.1) (ha : a ≤ lo) : ∀ p ∈ cds, p.1 ≠ a := fun p hp e => absurd (h p hp) (by rw [e]; exact Nat.not_lt.mpr ha)

/-! frames of any make -/
theorem frame_mem {env : Env} {outer : List Env} {L b : Addr} (hf : env.frame = some L) (hm : b ∈ (env :: outer).filterMap (·.frame)) : b = L ∨ b ∈ outer.filterMap (·.frame) := by
  obtain ⟨e, he, hb⟩ := List.mem_filterMap.mp hm
  cases he with
  | head => exact .inl (Option.some.inj (hb.symm.trans hf))
  | tail _ he => exact .inr (List.mem_filterMap.mpr ⟨e, he, hb⟩)

section
variable {prog : Program} {w : World} {A₀ A : Around} {s : Shared} {base h₀ : Heap} {L : Addr} {m : Str → Option Value} {env : Env} {news : List (Addr × Obj)} {K : Frag} {p : Program} {loose : List Str} {mean : ExcName → Option Value} {mg mb : Str → Option Value}
    {R : Result → Shared → Prop} {name qual : Str} {params : Arguments} {body : List Stmt} {scope : Scope} {dV kV doc pm cdv ct oc : Value} {an od : Option Addr} {osl : Array (Option Value)} {f : Addr} {args : Args} {binds : List (Str × Value)}

/-- a helper that holds a try, called from the one frame that stands (whatever its cells) -/
theorem enterS0 (B : Below A₀ base [] h₀) (F : Fr h₀ L s.heap m) (X₀ : K.In h₀) (N : News h₀ L s.heap news) (T : Top p loose mean mg mb h₀) (hA : A.frames = some [env]) (hf : env.frame = some L) (hke : env.scope.kind = .function)
    (ho : K.lookup f = some ⟨oc, od, .func (fnOf name qual params body scope dV kV doc pm an cdv ct), osl⟩) (hcd : codeIn K cdv qual = true) (hroom : A.depth < recursionLimit)
    (hbind : BindsTo s (fnOf name qual params body scope dV kV doc pm an cdv ct) args binds) (hloc : ∀ y ∈ binds, scope.names.lookup y.1 = some .local)
    (h : ∀ g L' h₁, Fr h₀ L g m → Fr g L' h₁ (fun y => binds.reverse.lookup y) → News g L' h₁ news → Below A base [env] g → K.In g → Top p loose mean mg mb g → KtsDicts ([env].filterMap (·.frame)) g →
      wpAny (model prog w) (A.deeper (envOf qual scope L' f cdv)) (execs body (envOf qual scope L' f cdv))
        (fun fl s' => LeaveS0 ([env].filterMap (·.frame)) h₀ L m g R (match fl with | .ret v => v | _ => .none) s')
        (fun e s' => wpAny (model prog w) (A.deeper (envOf qual scope L' f cdv)) (leaving (envOf qual scope L' f cdv) e) (fun _ s'' => R (.error e) s'') (fun e' s'' => R (.error e') s'') s')
        { s with heap := h₁, toks := s.toks + binds.length })
    (hco : scope.isCoroutine = false) (hgen : scope.isGenerator = false) (hk : scope.kind = .function)
    (hcell : ∀ x ∈ scope.names, x.2 ≠ .cell) : codeAny (model prog w) A (.call (.ref f) args) R s := by
  obtain ⟨FG, BG, st, _⟩ := groundX (R := R) B F N hA hf hke
  have XH := X₀.keeps F.keep
  have nL₀ : h₀.get? L = none := kts_self F
  obtain ⟨oL, es, ep, hLg, hLd, hLk, hLf⟩ := FG.ns
  refine codeAny_call_def (fd := fnOf name qual params body scope dV kV doc pm an cdv ct) (body := body) (binds := binds) hroom (XH _ _ ho) rfl (T.nolimit.keeps F.keep) (codeRec_of XH hcd) rfl hbind hcell hloc (fun h₁ hns hk₁ => ?_) hco hgen hk
  refine wpAny_mono (h _ s.heap.objs.size h₁ FG ⟨hns, fun b o e => hk₁ b o (of_hideAll _ e), Nat.le_of_eq (hideAll_size _ _)⟩
    (fun p hp => ⟨hk₁ _ _ (N p hp).1, Nat.ne_of_lt (Heap.lt_size (N p hp).1), hideAll_none _ (List.mem_map_of_mem hp)⟩) BG (X₀.keeps st) (T.keeps st) (fun b hb => ?_)) (fun fl s' hl => ?_) fun _ _ y => y
  · rcases frame_mem hf hb with rfl | z
    · exact ⟨oL, es, ep, hLg, hLd⟩
    · cases z
  · obtain ⟨g', L', m', news', T', F', N', k⟩ := hl
    obtain ⟨sl, hs⟩ := T'.up hLg
    refine k ⟨⟨_, es, ep, F'.keep _ _ hs, hLd, hLk, hLf⟩, fun b o e => F'.keep b o (T'.other b o (st b o e) fun q => ?_), F.above⟩ fun q hq => ⟨(N' q hq).1, fun z => ?_, ?_⟩
    · rcases frame_mem hf q with z | z
      · rw [z, nL₀] at e; cases e
      · cases z
    · have := (N' q hq).2.2; rw [z, hs] at this; cases this
    · cases z : h₀.get? q.1 with
      | none => rfl
      | some o =>
        obtain ⟨sl', hs'⟩ := T'.up (st _ _ z)
        have := (N' q hq).2.2
        rw [hs'] at this; cases this
end

section
variable {M : Model} {A : Around} {E : Value → Shared → Prop} {s' : Shared} {base g g₂ h : Heap} {outer : List Env} {env : Env} {L e t : Addr} {m : Str → Option Value} {Q : Unit → Shared → Prop} {news : List (Addr × Obj)}
theorem leave_onN_any {cls : Value} (K : Below A base outer g) (F : Fr g L g₂ m) (hf : env.frame = some L) (R : RaisedSN base g₂ (env :: outer) e cls news s'.heap) (hsm : g₂.UpToSlots s'.heap)
    (hQ : ∀ h', RaisedSN base g outer e cls news h' → RaisedN base outer e cls news h' → g.UpToSlots h' → Q () { s' with heap := h' }) :
    wpAny M (A.deeper env) (leaving env (.ref e)) Q E s' := by
  obtain ⟨B, a0, hB, hBG, hl, hfl⟩ := R
  refine wpAny_leaves_onW (Around.frames_deeper K.stack) hf hfl fun h' x1 x2 => ?_
  have R : RaisedSN base g outer e cls news h' := ⟨B, a0, hB, fun b o q nm => hBG b o (F.keep b o q) fun hm => by
      rcases frame_mem hf hm with z | z
      · rw [z, kts_self F] at q; cases q
      · exact nm z, fun q hq => ⟨(hl q hq).1, kts_none F.keep (hl q hq).2.1, (hl q hq).2.2⟩, x1⟩
  exact hQ h' R R.toN ((Heap.UpToSlots.of_keeps F.keep).trans (hsm.trans x2))
theorem leave_onS_any {cls : Value} {vs : List Value} (K : Below A base outer g) (F : Fr g L g₂ m) (hf : env.frame = some L) (R : RaisedS base g₂ (env :: outer) e cls t vs news s'.heap) (hsm : g₂.UpToSlots s'.heap)
    (hQ : ∀ h', RaisedS base g outer e cls t vs news h' → RaisedK base outer e cls t vs news h' → g.UpToSlots h' → Q () { s' with heap := h' }) :
    wpAny M (A.deeper env) (leaving env (.ref e)) Q E s' := by
  obtain ⟨⟨B, hB, hBG, hl, hfl, hnew⟩, htup⟩ := R
  refine wpAny_leaves_onW (Around.frames_deeper K.stack) hf hfl fun h' x1 x2 => ?_
  have R : RaisedS base g outer e cls t vs news h' := ⟨⟨B, hB, fun b o q nm => hBG b o (F.keep b o q) fun hm => by
      rcases frame_mem hf hm with z | z
      · rw [z, kts_self F] at q; cases q
      · exact nm z, fun q hq => ⟨(hl q hq).1, kts_none F.keep (hl q hq).2.1, (hl q hq).2.2⟩, x1, hnew⟩, htup.of_slots x2⟩
  exact hQ h' R R.toK ((Heap.UpToSlots.of_keeps F.keep).trans (hsm.trans x2))
end
end Mine
namespace Mine
open PySem PySem.W PyProof.Rows PySem.Calls PySem.Spec
section
variable {M : Model} {A : Around} {E : Value → Shared → Prop} {s : Shared}
theorem noteFrame_first {base : Heap} {env : Env} {outer : List Env} {L e : Addr} {oe : Obj} {vs : Array Value} {a0 : Value} {Q : Unit → Shared → Prop}
    (hfr : A.frames = some (env :: outer)) (hl : s.heap.FunFrames base (env :: outer)) (hf : env.frame = some L)
    (he : s.heap.get? e = some oe) (hkb : base.StaysIn s.heap) (hen : base.get? e = none) (hd : oe.data = .fields vs) (h1 : vs[1]? = some .none) (h0 : vs[0]? = some a0)
    (h : ∀ h', Heap.NotedW base (env :: outer) e oe.cls a0 (rawInt L) s.heap h' → Q () { s with heap := h' }) : wpAny M A (noteFrame (.ref e) env) Q E s := by
  unfold noteFrame
  simp only [hf]
  refine wpAny_bind (wpAny_field he hd h1 ?_)
  rw [if_neg (by decide)]
  exact wpAny_entryW hfr hl hf he hkb hen hd (Array.getElem?_eq_some_iff.mp h1).1 h0 h
end

section
variable {prog : Program} {w : World} {A₀ : Around} {E : Value → Shared → Prop} {s' : Shared} {base g g₀ h : Heap} {outer : List Env} {L a e : Addr} {m : Str → Option Value} {name : Str} {scope : Scope} {cd : Value}
  {b₀ : Stmt} {suite : List Stmt} {pos np : Pos} {rest : List ExceptHandler} {Q : Flow → Shared → Prop} {news : List (Addr × Obj)} {KF : Frag}
  {p : Program} {loose : List Str} {mean : ExcName → Option Value} {mg mb : Str → Option Value} {x : Str} {X T' : String}

/-- an exception that a step of the frame's own try has raised, taken by the first clause -/
theorem caught_new (hx : Heap.NewExc h s'.heap e X) (F : Fr g L h m) (N : News g L h news) (K : Below A₀ base outer g) (XB : KF.In base) (TB : Top p loose mean mg mb base)
    (D : KtsDicts (outer.filterMap (·.frame)) g) (T0 : KtsTurn (outer.filterMap (·.frame)) g₀ g)
    (ex : nsIn KF mainGlobals x = some none) (hv : bootBuiltins x = some (.type T')) (hn' : x ≠ "__name__")
    (hexc : isSubtype (.type T') (.type "BaseException") = pure true) (hnt : isSubtype (.type ((Manifest.find? T').elim "type" fun y => y.metatype)) (.type "tuple") = pure false) (hsub : isSubtype (.type X) (.type T') = pure true)
    (k : ∀ h' g', KtsTurn (outer.filterMap (·.frame)) g₀ g' → Fr g' L h' m → News g' L h' news → Below A₀ base outer g' → KF.In g' → Top p loose mean mg mb g' → KtsDicts (outer.filterMap (·.frame)) g' →
      wpAny (model prog w) ((A₀.deeper (envOf name scope L a cd)).mark (some (.ref e))) (execs (b₀ :: suite) (envOf name scope L a cd)) Q E { s' with heap := h' })
    (hk : scope.kind = .function := by rfl) (hx' : (envOf name scope L a cd).kindOf x = some .globalImplicit := by rfl) (hd : (x == ("__debug__" : Str)) = false := by decide)
    (hE : PassesOwnAt (model prog w) ((A₀.deeper (envOf name scope L a cd)).mark (some (.ref e))) (A₀.deeper (envOf name scope L a cd)) (envOf name scope L a cd) E := by passes_own) :
    wpAny (model prog w) (A₀.deeper (envOf name scope L a cd)) (noteFrame (.ref e) (envOf name scope L a cd))
      (fun _ s₂ => wpAny (model prog w) (A₀.deeper (envOf name scope L a cd)) (setFlight (.ref e) none) (fun _ s₃ =>
        wpAny (model prog w) (A₀.deeper (envOf name scope L a cd)) (handleBy (.ref e) (envOf name scope L a cd) (.ExceptHandler (some (.Name x np)) none (b₀ :: suite) pos :: rest)) Q E s₃) E s₂) E s' := by
  have K' := K.push (name := name) (a := a) (cd := cd) F hk
  let fs := (envOf name scope L a cd :: outer).filterMap (·.frame)
  have hin : ∀ env ∈ (envOf name scope L a cd :: outer), ∀ b, env.frame = some b → b ∈ fs := fun env he b hb => List.mem_filterMap.mpr ⟨env, he, hb⟩
  have st : base.StaysIn (hideAll h fs) := fun b o q => hideAll_get _ (K'.stays b o q) fun hm => by
    rw [(K'.frames.mem hm).1] at q; cases q
  have hBG : ∀ b o, h.get? b = some o → b ∉ fs → (hideAll h fs).get? b = some o := fun b o q nm => hideAll_get _ q nm
  have hl : ∀ q ∈ news, (hideAll h fs).get? q.1 = some q.2 ∧ g.get? q.1 = none := fun q hq => by
    refine ⟨hideAll_get _ (N q hq).1 fun hm => ?_, (N q hq).2.2⟩
    rcases frame_mem (env := envOf name scope L a cd) rfl hm with z | z
    · exact (N q hq).2.1 z
    · obtain ⟨o, ho, _⟩ := (K.frames.mem z).2
      rw [(N q hq).2.2] at ho; cases ho
  obtain ⟨ob, tp, he, hcls, hdata⟩ := hx.there
  have hen : (hideAll h fs).get? e = none := by
    cases q : (hideAll h fs).get? e with
    | none => rfl
    | some o => have := of_hideAll _ q; rw [hx.new] at this; cases this
  have hL : (hideAll h fs).get? L = none := hideAll_none _ (hin _ (.head _) L rfl)
  refine noteFrame_first (a0 := tp) K'.stack ((funFrames_hide K'.frames hin).of_keeps fun b o hb _ => ⟨o, hx.keeps b o hb, rfl⟩) rfl he (fun b o hb => hx.keeps b o (of_hideAll _ hb)) hen hdata rfl rfl fun h₄ hN => ?_
  obtain ⟨n1, n2, n3, hsm₄⟩ := hN
  have hheld₄ : Heap.HeldW (hideAll h fs) (envOf name scope L a cd :: outer) e (.type X) tp L h₄ := ⟨n1, hen, n2, by rw [← hcls]; exact n3⟩
  have sm₀ : h.UpToSlots s'.heap := Heap.UpToSlots.of_keeps hx.keeps
  refine wpAny_landsW hheld₄ fun h₅ hheld hsm₅' => ?_
  have sm₅ : h.UpToSlots h₅ := (sm₀.trans hsm₄).trans hsm₅'
  obtain ⟨g₅, T₅, F₅, K₅⟩ := kts_ground K F hBG hheld.1 sm₅
  have X₅ : KF.In g₅ := XB.keeps K₅.stays
  have P₅ : TopRead p loose mg mb g₅ := topRead_of (TB.keeps K₅.stays)
  obtain ⟨ob', hob, hobc⟩ := hheld.there
  refine wpAny_handleBy_builtin (X := X) (T := T') (b := true) hexc hnt hsub (name_B F₅ X₅ P₅ ex hv hn' ⟨rfl, ⟨ob', hob, hobc⟩, ?_⟩ hk hx' hd)
  refine lands_againW hheld fun h₆ hfl₆ hsm₆ => ?_
  obtain ⟨g₆, T₆, F₆, K₆⟩ := kts_ground K F hBG hfl₆.1 (sm₅.trans hsm₆)
  have Nl : News g₆ L h₆ news := fun q hq => ⟨hfl₆.1 _ _ (hl q hq).1, (fun z => by have := (hl q hq).1; rw [z, hL] at this; cases this), T₆.none_ _ (hl q hq).2⟩
  exact wpAny_passesOwnAt hE (k h₆ g₆ (T0.trans T₆) F₆ Nl K₆ (XB.keeps K₆.stays) (TB.keeps K₆.stays) (D.turn T₆))
end
end Mine
namespace Mine
open PySem PySem.W PyProof.Rows PySem.Calls PySem.Spec
section
variable {prog : Program} {w : World} {A : Around} {E : Value → Shared → Prop} {s : Shared}
theorem setItem_neg {l : Addr} {items : Array Value} {n : Nat} {k : Int} {t : Tok} {v : Value} {Q : Unit → Shared → Prop} (ho : s.heap.get? l = some (W.listOf items n)) (h0 : k < 0) (h1 : -(items.size : Int) ≤ k) (hfit : -(2 ^ 63) ≤ k)
    (hQ : Q () { s with heap := s.heap.update l (Obj.mapSeq (·.setIfInBounds (k + items.size).toNat v)) }) : wpAny (model prog w) A (setItem (.ref l) (.int k t) v) Q E s := by
  have hl : s.heap.IsList l items := PySem.IsL.isList (n := n) ho
  unfold setItem
  try with_reducible refine wpAny_holding ?_
  first | refine wpAny_bind (wpAny_pure ?_) | skip
  refine wpAny_bind (wpAny_sequenceKey hl.typeIs (by decide) ?_)
  refine wpAny_bind (wpAny_callSpecial?_slot (name := Str.ofString "__setitem__") hl.typeIs slot_list_setitem
    (wpAny_call_entry slot_list_setitem hl.typeIs entry_list_setitem ?_ (args_list_setitem _ _ _)))
  show wpAny _ _ (Builtin.List.listSubscript? (.int k t) >>= _) _ _ s
  refine wpAny_bind (wpAny_listSubscript_int (fitsIndex_neg h0 hfit) ?_)
  clear hfit
  have hidx := seqIndex_neg h0 h1
  have hj : (k + items.size).toNat < items.size := by omega
  cases k with
  | ofNat j => exact absurd h0 (by simp only [Int.ofNat_eq_natCast]; omega)
  | negSucc j =>
    show wpAny _ _ ((Builtin.List.listItems (.ref l) >>= fun xs => pure ((seqIndex? (Int.negSucc j) xs.size).bind fun i => xs[i]?.map (i, ·))) >>= _) _ _ s
    refine wpAny_bind (wpAny_bind ?_)
    show wpAny _ _ (seqItems? (.ref l) >>= _) _ _ s
    refine wpAny_bind (wpAny_seqItems ho rfl (wpAny_pure (wpAny_pure ?_)))
    rw [hidx, Option.bind_some, Array.getElem?_eq_getElem hj]
    show wpAny _ _ (setSeqItemAt l _ v >>= _) _ _ s
    refine wpAny_bind (wpAny_setSeqItemAt ho rfl ?_)
    first
      | exact wpAny_bind (wpAny_pure (wpAny_pure ⟨.none, rfl, wpAny_pure hQ⟩))
      | exact wpAny_pure ⟨.none, rfl, wpAny_pure hQ⟩
theorem setItem_out {l : Addr} {items : Array Value} {k : Int} {t : Tok} {v : Value} {Q : Unit → Shared → Prop} (hA : A.handled = none) (hl : s.heap.IsList l items)
    (hout : k < -(items.size : Int) ∨ (items.size : Int) ≤ k) (hlo : -(2 ^ 63) ≤ k) (hhi : k < 2 ^ 63)
    (hE : ∀ h' tk e, Heap.NewExc s.heap h' e "IndexError" → E (.ref e) { s with heap := h', toks := tk }) : wpAny (model prog w) A (setItem (.ref l) (.int k t) v) Q E s := by
  obtain ⟨o, ho, hc, ne, hd⟩ := id hl
  unfold setItem
  try with_reducible refine wpAny_holding ?_
  first | refine wpAny_bind (wpAny_pure ?_) | skip
  refine wpAny_bind (wpAny_sequenceKey hl.typeIs (by decide) ?_)
  refine wpAny_bind (wpAny_callSpecial?_slot (name := Str.ofString "__setitem__") hl.typeIs slot_list_setitem
    (wpAny_call_entry slot_list_setitem hl.typeIs entry_list_setitem ?_ (args_list_setitem _ _ _)))
  show wpAny _ _ (Builtin.List.listSubscript? (.int k t) >>= _) _ _ s
  refine wpAny_bind (wpAny_listSubscript_int (fitsIndex_both hlo hhi) ?_)
  clear hlo hhi
  cases k with
  | ofNat j =>
    have hx : items[j]? = none := by
      rcases hout with h | h
      · exact absurd h (by simp only [Int.ofNat_eq_natCast]; omega)
      · exact Array.getElem?_eq_none (by have : (items.size : Int) ≤ (j : Int) := h; omega)
    show wpAny _ _ ((seqItemAt l j >>= fun r => pure (r.map (j, ·))) >>= _) _ _ s
    refine wpAny_bind (wpAny_bind (wpAny_seqItemAt ho hd (wpAny_pure ?_)))
    rw [hx]
    exact wpAny_bind (wpAny_rule (wpAny_bind (by exact_raiseError plainExc_IndexError hA hE)))
  | negSucc j =>
    have hidx : seqIndex? (Int.negSucc j) items.size = none := by
      rcases hout with h | h
      · exact seqIndex_below h
      · exact absurd h (by have := Int.negSucc_lt_zero j; omega)
    show wpAny _ _ ((Builtin.List.listItems (.ref l) >>= fun xs => pure ((seqIndex? (Int.negSucc j) xs.size).bind fun i => xs[i]?.map (i, ·))) >>= _) _ _ s
    refine wpAny_bind (wpAny_bind ?_)
    show wpAny _ _ (seqItems? (.ref l) >>= _) _ _ s
    refine wpAny_bind (wpAny_seqItems ho hd (wpAny_pure (wpAny_pure ?_)))
    rw [hidx]
    exact wpAny_bind (wpAny_rule (wpAny_bind (by exact_raiseError plainExc_IndexError hA hE)))

theorem list_delitem_out (l : Addr) (items : Array Value) (n : Nat) (i : Int) (u : Tok) (hfit : Builtin.List.listFitsIndex i = true) (hk : seqIndex? i items.size = none) :
    Meets (Builtin.«list.__delitem__» ⟨[.ref l, .int i u], []⟩)
      (fun A R s => s.heap.get? l = some { cls := .type "list", dict := none, data := .seq items n, slots := #[] } ∧ raisesNew "IndexError" A R s) :=
  .of_wp fun prog w A R s h => by
    obtain ⟨hp, g, d, tk, os⟩ := s; obtain ⟨hl, h⟩ := h
    have hf : ¬ (!Builtin.List.listFitsIndex i) = true := by simp [hfit]
    have f1 := AutoSeq1.idx_int
    wp_walk using wpAny_loadPart' hl
    simp only [hk]
    wp_walk
    exact_raiseError plainExc_IndexError h.1 h.2
theorem delItem_out {l : Addr} {items : Array Value} {n : Nat} {i : Int} {u : Tok} {Q : Unit → Shared → Prop} (hA : A.handled = none) (hl : s.heap.get? l = some (W.listOf items n)) (hfit : Builtin.List.listFitsIndex i = true) (hk : seqIndex? i items.size = none)
    (hE : ∀ h' tk e, Heap.NewExc s.heap h' e "IndexError" → E (.ref e) { s with heap := h', toks := tk }) : wpAny (model prog w) A (delItem (.ref l) (.int i u)) Q E s :=
  delItem_meets ⟨_, hl, rfl⟩ (by decide) F.slot_list_delitem F.entry_list_delitem (F.args_list_delitem_2 _ _) (list_delitem_out l items n i u hfit hk) ⟨hl, hA, hE⟩
end
end Mine
namespace Mine
open PySem PySem.W PyProof.Rows PySem.Calls PySem.Spec PyProof.V
section
variable {prog : Program} {w : World} {K : Type} [DecidableEq K] {knd : KeyKind prog w K} {A : Around} {E : Value → Shared → Prop} {s : Shared} {d : Addr} {key : Value} {k : K} {kvs : List (K × Value)}
theorem delItem_missing {Q : Unit → Shared → Prop} (hkey : knd.is k key = true) (hd : (d == sysModules) = false) (hh : A.handled = none) (hm : s.heap.DictOf knd d kvs) (hv : valueAt kvs k = none)
    (h : ∀ h' e, Heap.NewExc s.heap h' e "KeyError" → E (.ref e) { s with heap := h', toks := s.toks + 1 }) : wpAny (model prog w) A (delItem (.ref d) key) Q E s := by
  unfold delItem
  try with_reducible refine wpAny_holding ?_
  refine wpAny_bind (wpAny_sequenceKey hm.typeIs (by decide) ?_)
  refine wpAny_bind (wpAny_callSpecial?_slot (name := Str.ofString "__delitem__") hm.typeIs PySem.F.slot_dict_delitem
    (wpAny_call_entry PySem.F.slot_dict_delitem hm.typeIs PySem.F.entry_dict_delitem ?_ (PySem.F.args_dict_delitem_2 _ _)))
  unfold Builtin.«dict.__delitem__»
  refine wpAny_bind ?_
  unfold Builtin.Dict.dictSlotArgs
  refine wpAny_bind (wpAny_notOrdered_dict hm.typeIs ?_)
  show wpAny _ _ (pure (Value.ref d, key)) _ _ s
  refine wpAny_pure ?_
  show wpAny _ _ (Builtin.Dict.takeOut d key >>= _) _ _ s
  refine wpAny_bind (wpAny_takeOut_pairs_none hkey hm hv ?_)
  show wpAny _ _ (Builtin.Dict.missedRemoval d key >>= _) _ _ _
  refine wpAny_bind (wpAny_missedRemoval_other hd ?_)
  exact wpAny_bind (wpAny_rule (wpAny_raise_newExc (A := A.in1) plainExc_KeyError hh h))
end

section
variable {M : Model} {A : Around} {E : Value → Shared → Prop} {s : Shared} {Q : Value → Shared → Prop}
/-- «is» on two small ints: the cache, or two marks -/
theorem is_ints {p q : Int} {t u : Tok} (ht : t ≠ 0) (hu : u ≠ 0) (hp : smallInt p = true) (hne : p ≠ q → t ≠ u) (h : Q (.bool (p == q)) s) : wpAny M A (compareOp .Is (.int p t) (.int q u)) Q E s := by
  show wpAny M A (do return .bool (← isSame (.int p t) (.int q u))) Q E s
  refine wpAny_bind ?_
  have h0 : (t == 0 || u == 0) = false := by
    rw [Bool.or_eq_false_iff]
    exact ⟨beq_eq_false_iff_ne.mpr ht, beq_eq_false_iff_ne.mpr hu⟩
  show wpAny M A (if (p == q && smallInt p) = true then isSame.cachedInt t u else isSame.created (p == q) t u) _ E s
  by_cases e : p = q
  · subst e
    rw [if_pos (by simp [hp])]
    unfold isSame.cachedInt
    rw [if_neg (by rw [h0]; decide)]
    refine wpAny_bind (wpAny_rule (wpAny_pure (wpAny_pure ?_)))
    simpa using h
  · rw [if_neg (by simp [e])]
    unfold isSame.created
    rw [if_neg (by rw [h0]; decide)]
    have hb : (p == q) = false := beq_eq_false_iff_ne.mpr e
    rw [hb] at h ⊢
    rw [if_neg (by simpa using hne e)]
    exact wpAny_pure (wpAny_pure h)
end
end Mine
namespace Mine
open PySem PySem.W PyProof.Rows PySem.Calls PySem.Spec PyProof.V
/-- a code's table of inner codes, each of them in the ledger's tail -/
def CodesOk (xs : List (Addr × Obj)) (q : Str) (ps : Array Value) (cds : List (Addr × Obj)) : Prop :=
  TriplesOk ps.toList ∧ (∀ pos cv, codeAmong pos ps.toList = some cv → ∃ c oc vs t, cv = .ref c ∧ (c, oc) ∈ cds ∧ oc.data = .fields vs ∧ vs[1]? = some (.str q t)) ∧ ∀ p ∈ xs, p ∈ cds
theorem codesOk_nil (q : Str) : CodesOk [] q #[] [] := ⟨trivial, (fun _ _ e => by cases e), fun _ h => nomatch h⟩
theorem triples_snoc {a b : Int} {t u : Tok} {c : Value} : ∀ l : List Value, TriplesOk l → TriplesOk (l ++ [.int a t, .int b u, c])
  | [], _ => trivial
  | .int _ _ :: .int _ _ :: _ :: rest, h => triples_snoc rest h
  | [.int _ _], h => h.elim
  | [.int _ _, .int _ _], h => h.elim
  | .none :: _, h => h.elim
  | .bool _ :: _, h => h.elim
  | .float _ _ :: _, h => h.elim
  | .str _ _ :: _, h => h.elim
  | .bytes _ _ :: _, h => h.elim
  | .ref _ :: _, h => h.elim
  | .type _ :: _, h => h.elim
  | .builtin _ :: _, h => h.elim
  | .ellipsis :: _, h => h.elim
  | .notImplemented :: _, h => h.elim
  | .int _ _ :: .none :: _, h => h.elim
  | .int _ _ :: .bool _ :: _, h => h.elim
  | .int _ _ :: .float _ _ :: _, h => h.elim
  | .int _ _ :: .str _ _ :: _, h => h.elim
  | .int _ _ :: .bytes _ _ :: _, h => h.elim
  | .int _ _ :: .ref _ :: _, h => h.elim
  | .int _ _ :: .type _ :: _, h => h.elim
  | .int _ _ :: .builtin _ :: _, h => h.elim
  | .int _ _ :: .ellipsis :: _, h => h.elim
  | .int _ _ :: .notImplemented :: _, h => h.elim
theorem among_snoc {a b : Int} {t u : Tok} {c : Value} {pos : Pos} {cv : Value} (l : List Value) (h : TriplesOk l) (e : codeAmong pos (l ++ [.int a t, .int b u, c]) = some cv) : codeAmong pos l = some cv ∨ cv = c := by
  fun_induction TriplesOk l with
  | case1 =>
    simp only [List.nil_append, codeAmong] at e
    split at e
    · exact .inr (Option.some.inj e).symm
    · cases e
  | case2 a' t' b' u' x rest ih =>
    simp only [List.cons_append, codeAmong] at e ⊢
    split at e
    · rename_i hc; rw [if_pos hc]; exact .inl e
    · rename_i hc; rw [if_neg hc]; exact ih h e
  | case3 => exact h.elim
theorem CodesOk.more {xs : List (Addr × Obj)} {q : Str} {ps : Array Value} {cds : List (Addr × Obj)} (x : CodesOk xs q ps cds) {c : Addr} {oc : Obj} {vs : Array Value} {t : Tok} {line col : Int} {a b : Tok} (hd : oc.data = .fields vs) (hv : vs[1]? = some (.str q t)) :
    CodesOk xs q (ps ++ #[.int line a, .int col b, .ref c]) (cds ++ [(c, oc)]) := by
  have e : (ps ++ #[Value.int line a, .int col b, .ref c]).toList = ps.toList ++ [.int line a, .int col b, .ref c] := by simp
  refine ⟨by rw [e]; exact triples_snoc _ x.1, fun pos cv he => ?_, fun p hp => List.mem_append_left _ (x.2.2 p hp)⟩
  rw [e] at he
  rcases among_snoc _ x.1 he with h | h
  · obtain ⟨c', oc', vs', t', e1, e2, e3, e4⟩ := x.2.1 pos cv h
    exact ⟨c', oc', vs', t', e1, List.mem_append_left _ e2, e3, e4⟩
  · exact ⟨c, oc, vs, t, h, List.mem_append_right _ (.head _), hd, hv⟩

/-- the ledger with the table of codes last, a tail behind it -/
inductive UpdT (d : Addr) (o : Obj) (tl : List (Addr × Obj)) : List (Addr × Obj) → (Obj → List (Addr × Obj) → List (Addr × Obj)) → Prop
  | head : (∀ p ∈ tl, p.1 ≠ d) → UpdT d o tl ((d, o) :: tl) (fun o' t' => (d, o') :: t')
  | tail {p r g} : p.1 ≠ d → UpdT d o tl r g → UpdT d o tl (p :: r) (fun o' t' => p :: g o' t')
theorem UpdT.split {d : Addr} {o : Obj} {tl : List (Addr × Obj)} : ∀ {l g}, UpdT d o tl l g → ∃ pre, l = pre ++ (d, o) :: tl ∧ (∀ o' t', g o' t' = pre ++ (d, o') :: t') ∧ (∀ p ∈ pre, p.1 ≠ d) ∧ ∀ p ∈ tl, p.1 ≠ d
  | _, _, .head h => ⟨[], rfl, fun _ _ => rfl, (fun _ h => nomatch h), h⟩
  | _, _, .tail (p := p) h r =>
    let ⟨pre, a, b, c, e⟩ := r.split
    ⟨p :: pre, by rw [a]; rfl, fun o' t' => by show p :: _ = _; rw [b]; rfl, (fun q hq => by rcases List.mem_cons.mp hq with rfl | hq; exact h; exact c q hq), e⟩
theorem updF_split {d : Addr} {o : Obj} : ∀ {pre post : List (Addr × Obj)}, (∀ p ∈ pre, p.1 ≠ d) → (∀ p ∈ post, p.1 ≠ d) → UpdF d o (pre ++ (d, o) :: post) (fun o' => pre ++ (d, o') :: post)
  | [], _, _, h => .head h
  | _ :: _, _, a, h => .tail (a _ (.head _)) (updF_split (fun q hq => a q (.tail _ hq)) h)

section
variable {M : Model} {A : Around} {E : Value → Shared → Prop} {s : Shared} {h₀ : Heap} {L a c P lo : Addr} {m mg mb : Str → Option Value} {cn : Str} {cs : Scope} {ccd : Value} {cl : List (Str × Addr)} {news cds : List (Addr × Obj)} {g : Obj → List (Addr × Obj) → List (Addr × Obj)}
  {p : Program} {loose : List Str} {mean : ExcName → Option Value} {name qual : Str} {params : Arguments} {body : Expr} {scope : Scope} {ps : Array Value} {pos : Pos} {firstLine : Nat} {clos : List (Str × Addr)}
/-- a lambda made, be its code new or at hand -/
theorem lam_any {xs : List (Addr × Obj)} {Q : Value → Shared → Prop} (F : Fr h₀ L s.heap m) (N : News h₀ L s.heap news) (T : Top p loose mean mg mb h₀) (C : CodeHd h₀ c P) (hcd : ccd = .ref c) (U : UpdT P (tabObj ps) cds news g) (Ok : CodesOk xs qual ps cds)
    (hlo : ∀ q ∈ cds, lo < q.1) (hl : ∃ q ∈ news, q.1 = lo)
    (hcl : closureFor scope (envX cn cs L a ccd cl) = pure clos)
    (h : ∀ f c' oc vs t ctv cds' ps' h' tk, Fr h₀ L h' m →
      News h₀ L h' ((f, kla_obj name qual params body scope clos ((mg "__name__").getD .none) c' ctv) :: g (tabObj ps') cds') → CodesOk xs qual ps' cds' → (∀ q ∈ cds', lo < q.1) → (∀ q ∈ cds, q ∈ cds') →
      (c', oc) ∈ cds' → oc.data = .fields vs → vs[1]? = some (.str qual t) → (∀ q ∈ news, q.1 < f) → Q (.ref f) { s with heap := h', toks := tk }) :
    wpAny M A (makeFunction name qual params (.expr body) scope (envX cn cs L a ccd cl) [] [] [] pos firstLine) Q E s := by
  obtain ⟨pre, rfl, hg, h1, h2⟩ := U.split
  cases hf : codeAmong pos ps.toList with
  | none =>
    refine kla_nest F N T C hcd (updF_split h1 h2) Ok.1 hf hcl fun f c' oc vs t ctv h' tk F' N' d1 d2 l1 l2 => ?_
    have lf : ∀ q ∈ pre ++ (P, tabObj ps) :: cds, q.1 < f := fun q hq => Nat.lt_trans (l1 q hq) l2
    obtain ⟨ql, hql, rfl⟩ := hl
    refine h f c' oc vs t ctv (cds ++ [(c', oc)]) (ps ++ #[rawInt pos.line, rawInt pos.col, .ref c']) h' tk F' (fun q hq => N' q ?_) (Ok.more d1 d2) (fun q hq => ?_) (fun q hq => List.mem_append_left _ hq) (List.mem_append_right _ (.head _)) d1 d2 lf
    · rcases List.mem_cons.mp hq with rfl | hq
      · exact .head _
      · rw [hg] at hq
        rcases List.mem_append.mp hq with hq | hq
        · exact .tail _ (.tail _ (List.mem_append_left _ hq))
        · rcases List.mem_cons.mp hq with rfl | hq
          · exact .tail _ (.tail _ (List.mem_append_right _ (.head _)))
          · rcases List.mem_append.mp hq with hq | hq
            · exact .tail _ (.tail _ (List.mem_append_right _ (.tail _ hq)))
            · rw [List.mem_singleton.mp hq]; exact .tail _ (.head _)
    · rcases List.mem_append.mp hq with hq | hq
      · exact hlo q hq
      · rw [List.mem_singleton.mp hq]; exact l1 ql hql
  | some cv =>
    obtain ⟨c', oc, vs, t, rfl, hm, hd, hv⟩ := Ok.2.1 pos cv hf
    refine kla_hit F N T C hcd (List.mem_append_right _ (.head _)) Ok.1 hf hcl fun f ctv h' tk F' N' l1 => ?_
    refine h f c' oc vs t ctv cds ps h' tk F' (fun q hq => N' q ?_) Ok hlo (fun q hq => hq) hm hd hv l1
    rw [hg] at hq
    exact hq
end
end Mine
namespace Mine
open PySem PySem.W PyProof.Rows PySem.Calls PySem.Spec PyProof.V
theorem ints_erase : ∀ {vs : List Value} {ns : List Int}, IntsAre vs ns → ∀ j : Nat, IntsAre (vs.eraseIdx j) (ns.eraseIdx j)
  | _, _, .nil, _ => .nil
  | _, _, .cons _ _ h, 0 => h
  | _, _, .cons i t h, j + 1 => .cons i t (ints_erase h j)
section
variable {prog : Program} {w : World} {A : Around} {E : Value → Shared → Prop} {s : Shared} {h₀ : Heap} {L D : Addr} {m : Str → Option Value} {news : List (Addr × Obj)} {g : Obj → List (Addr × Obj)} {vs : List Value} {ns : List Int} {n : Nat} {k x : Int} {t u : Tok}
theorem setItem_pos {Q : Unit → Shared → Prop} (F : Fr h₀ L s.heap m) (N : News h₀ L s.heap news) (U : UpdF D (W.listOf vs.toArray n) news g) (hi : IntsAre vs ns) (h0 : 0 ≤ k) (h1 : k < ns.length) (hfit : k < 2 ^ 63)
    (h : ∀ h', Fr h₀ L h' m → News h₀ L h' (g (W.listOf (vs.set k.toNat (.int x u)).toArray n)) → IntsAre (vs.set k.toNat (.int x u)) (ns.set k.toNat x) → (ns.set k.toNat x).length = ns.length → Q () { s with heap := h' }) :
    wpAny (model prog w) A (setItem (.ref D) (.int k t) (.int x u)) Q E s := by
  obtain ⟨pre, post, rfl, hg, a, b⟩ := U.split
  have z := N (D, W.listOf vs.toArray n) (List.mem_append.mpr (.inr (.head _)))
  have hl : vs.length = ns.length := hi.length
  have hs : vs.toArray.size = ns.length := by rw [List.size_toArray]; exact hl
  refine ki_setAt z.1 h0 hfit (by omega) (h _ (F.change (Heap.SameBut.update ..) z.2.1 z.2.2) ?_ (ints_set hi _) (List.length_set ..))
  rw [hg]
  refine ki_turn _ N a b ?_ (by simp)
  show vs.toArray.setIfInBounds k.toNat (.int x u) = (vs.set k.toNat (.int x u)).toArray
  apply Array.toList_inj.mp
  simp
theorem setItem_back {Q : Unit → Shared → Prop} (F : Fr h₀ L s.heap m) (N : News h₀ L s.heap news) (U : UpdF D (W.listOf vs.toArray n) news g) (hi : IntsAre vs ns) (h0 : k < 0) (h1 : -(ns.length : Int) ≤ k) (hfit : -(2 ^ 63) ≤ k)
    (h : ∀ h', Fr h₀ L h' m → News h₀ L h' (g (W.listOf (vs.set (k + ns.length).toNat (.int x u)).toArray n)) → IntsAre (vs.set (k + ns.length).toNat (.int x u)) (ns.set (k + ns.length).toNat x) → (ns.set (k + ns.length).toNat x).length = ns.length → Q () { s with heap := h' }) :
    wpAny (model prog w) A (setItem (.ref D) (.int k t) (.int x u)) Q E s := by
  obtain ⟨pre, post, rfl, hg, a, b⟩ := U.split
  have z := N (D, W.listOf vs.toArray n) (List.mem_append.mpr (.inr (.head _)))
  have hl : vs.length = ns.length := hi.length
  have hs : vs.toArray.size = ns.length := by rw [List.size_toArray]; exact hl
  refine setItem_neg z.1 h0 (by omega) hfit (h _ (F.change (Heap.SameBut.update ..) z.2.1 z.2.2) ?_ (ints_set hi _) (List.length_set ..))
  rw [hg, hs]
  refine ki_turn _ N a b ?_ (by simp)
  show vs.toArray.setIfInBounds _ (.int x u) = (vs.set _ (.int x u)).toArray
  apply Array.toList_inj.mp
  simp
theorem delItem_any {Q : Unit → Shared → Prop} {j : Nat} (F : Fr h₀ L s.heap m) (N : News h₀ L s.heap news) (U : UpdF D (W.listOf vs.toArray n) news g) (hi : IntsAre vs ns) (hfit : Builtin.List.listFitsIndex k = true) (hj : seqIndex? k ns.length = some j) (hsz : ns.length ≤ 63)
    (h : ∀ h', Fr h₀ L h' m → News h₀ L h' (g (W.listOf (vs.eraseIdx j).toArray (n + 1))) → IntsAre (vs.eraseIdx j) (ns.eraseIdx j) → (ns.eraseIdx j).length ≤ ns.length → Q () { s with heap := h' }) :
    wpAny (model prog w) A (delItem (.ref D) (.int k t)) Q E s := by
  obtain ⟨pre, post, rfl, hg, a, b⟩ := U.split
  have z := N (D, W.listOf vs.toArray n) (List.mem_append.mpr (.inr (.head _)))
  have hl : vs.length = ns.length := hi.length
  have hs : vs.toArray.size = ns.length := by rw [List.size_toArray]; exact hl
  refine delItem_at (hsz := by rw [hs, sizeLine_eq]; omega) z.1 hfit (by rw [hs]; exact hj) fun h' hs' ho' => h h' (F.change hs' z.2.1 z.2.2) ?_ (ints_erase hi _) (by rw [List.length_eraseIdx]; split <;> omega)
  rw [hg]
  exact N.setAt a b hs' ho'
theorem delItem_pos {Q : Unit → Shared → Prop} (F : Fr h₀ L s.heap m) (N : News h₀ L s.heap news) (U : UpdF D (W.listOf vs.toArray n) news g) (hi : IntsAre vs ns) (h0 : 0 ≤ k) (h1 : k < ns.length) (hsz : ns.length ≤ 63)
    (h : ∀ h', Fr h₀ L h' m → News h₀ L h' (g (W.listOf (vs.eraseIdx k.toNat).toArray (n + 1))) → IntsAre (vs.eraseIdx k.toNat) (ns.eraseIdx k.toNat) → (ns.eraseIdx k.toNat).length ≤ ns.length → Q () { s with heap := h' }) :
    wpAny (model prog w) A (delItem (.ref D) (.int k t)) Q E s := delItem_any F N U hi (fitsIndex_of h0 (by omega)) (seqIndex_of h0 h1) hsz h
theorem delItem_back {Q : Unit → Shared → Prop} (F : Fr h₀ L s.heap m) (N : News h₀ L s.heap news) (U : UpdF D (W.listOf vs.toArray n) news g) (hi : IntsAre vs ns) (h0 : k < 0) (h1 : -(ns.length : Int) ≤ k) (hsz : ns.length ≤ 63)
    (h : ∀ h', Fr h₀ L h' m → News h₀ L h' (g (W.listOf (vs.eraseIdx (k + ns.length).toNat).toArray (n + 1))) → IntsAre (vs.eraseIdx (k + ns.length).toNat) (ns.eraseIdx (k + ns.length).toNat) → (ns.eraseIdx (k + ns.length).toNat).length ≤ ns.length → Q () { s with heap := h' }) :
    wpAny (model prog w) A (delItem (.ref D) (.int k t)) Q E s := delItem_any F N U hi (fitsIndex_neg h0 (by omega)) (seqIndex_neg h0 h1) hsz h
theorem setItem_off {v : Value} {Q : Unit → Shared → Prop} (hA : A.handled = none) (N : News h₀ L s.heap news) (hm : (D, W.listOf vs.toArray n) ∈ news) (hi : IntsAre vs ns) (hout : k < -(ns.length : Int) ∨ (ns.length : Int) ≤ k) (hb : -3 ≤ k ∧ k ≤ 100)
    (hE : ∀ h' tk e, Heap.NewExc s.heap h' e "IndexError" → E (.ref e) { s with heap := h', toks := tk }) : wpAny (model prog w) A (setItem (.ref D) (.int k t) v) Q E s := by
  have hs : vs.toArray.size = ns.length := by rw [List.size_toArray]; exact hi.length
  exact setItem_out hA (PySem.IsL.isList (n := n) (N _ hm).1) (by rw [hs]; exact hout) (by omega) (by omega) hE
theorem delItem_off {Q : Unit → Shared → Prop} (hA : A.handled = none) (N : News h₀ L s.heap news) (hm : (D, W.listOf vs.toArray n) ∈ news) (hi : IntsAre vs ns) (hout : k < -(ns.length : Int) ∨ (ns.length : Int) ≤ k) (hb : -3 ≤ k ∧ k ≤ 100)
    (hE : ∀ h' tk e, Heap.NewExc s.heap h' e "IndexError" → E (.ref e) { s with heap := h', toks := tk }) : wpAny (model prog w) A (delItem (.ref D) (.int k t)) Q E s := by
  have hs : vs.toArray.size = ns.length := by rw [List.size_toArray]; exact hi.length
  refine delItem_out hA (N _ hm).1 (fitsIndex_both (by omega) (by omega)) ?_ hE
  rw [hs]
  rcases hout with h | h
  · exact seqIndex_below h
  · unfold seqIndex?
    have h0 : ¬ k < 0 := by omega
    have h2 : (decide (0 ≤ k) && decide (k < (ns.length : Int))) = false := by
      rw [Bool.and_eq_false_iff]; right; exact decide_eq_false (by omega)
    simp [h0]
    omega
theorem getItem_off {Q : Value → Shared → Prop} {value slice : PySem.Expr} (hA : A.handled = none) (N : News h₀ L s.heap news) (hm : (D, W.listOf vs.toArray n) ∈ news) (hi : IntsAre vs ns) (hout : k < -(ns.length : Int) ∨ (ns.length : Int) ≤ k) (hb : -3 ≤ k ∧ k ≤ 100)
    (hE : ∀ h' tk e, Heap.NewExc s.heap h' e "IndexError" → E (.ref e) { s with heap := h', toks := tk })
    (hs : subscripted slice false (.ref D) (.int k t) = operate [.ref D, .int k t] (getItem (.ref D) (.int k t)) := by with_unfolding_all rfl) : wpAny (model prog w) A (subscriptTail value slice (.ref D) (.int k t)) Q E s := by
  have hs' : vs.toArray.size = ns.length := by rw [List.size_toArray]; exact hi.length
  exact item_outK hA (PySem.IsL.isList (n := n) (N _ hm).1) (by rw [hs']; exact hout) (by omega) (by omega) hE hs
theorem getItem_back {Q : Value → Shared → Prop} {value slice : PySem.Expr} (N : News h₀ L s.heap news) (hm : (D, W.listOf vs.toArray n) ∈ news) (hi : IntsAre vs ns) (h0 : k < 0) (h1 : -(ns.length : Int) ≤ k) (hfit : -3 ≤ k)
    (h : ∀ t, Q (.int (ns.getD (ns.length + k).toNat 0) t) s)
    (hs : subscripted slice false (.ref D) (.int k t) = operate [.ref D, .int k t] (getItem (.ref D) (.int k t)) := by with_unfolding_all rfl) : wpAny (model prog w) A (subscriptTail value slice (.ref D) (.int k t)) Q E s := by
  have hl : vs.length = ns.length := hi.length
  have hlt : (k + ns.length).toNat < ns.length := by omega
  obtain ⟨t', hx⟩ := hi.get (k + ns.length).toNat ns[(k + ns.length).toNat] (by simp [hlt])
  have e : ns.getD (ns.length + k).toNat 0 = ns[(k + ns.length).toNat] := by rw [Int.add_comm]; simp [hlt]
  have hsz : vs.toArray.size = ns.length := by rw [List.size_toArray]; exact hl
  refine tail_any (PySem.IsL.isList (n := n) (N _ hm).1).typeIs slot_list_getitem.lookup (wpAny_getItem_list_neg (PySem.IsL.isList (n := n) (N _ hm).1) h0 (by rw [hsz]; exact h1) (by omega) (by rw [hsz]; simpa using hx) ?_) hs
  rw [← e]
  exact h t'
end
end Mine
namespace Mine
open PySem PySem.W PyProof.Rows PySem.Calls PySem.Spec PyProof.V
section
variable {prog : Program} {w : World} {A : Around} {E : Value → Shared → Prop} {s : Shared} {h₀ : Heap} {L l : Addr} {m : Str → Option Value} {news : List (Addr × Obj)} {value slice : PySem.Expr} {vs : List Value} {ns : List Int} {n : Nat} {y : Int} {t : Tok} {Q : Value → Shared → Prop}
theorem slice_upto (F : Fr h₀ L s.heap m) (N : News h₀ L s.heap news) (hm : (l, W.listOf vs.toArray n) ∈ news) (hi : IntsAre vs ns) (h0 : 0 ≤ y) (hz : ns.length ≤ 64)
    (h : ∀ D ws h', Fr h₀ L h' m → News h₀ L h' ((D, W.listOf (List.toArray ws) 0) :: news) → (∀ p ∈ news, p.1 < D) → IntsAre ws (ns.take y.toNat) → Q (.ref D) { s with heap := h' })
    (hs : subscripted slice false (.ref l) (.ref s.heap.objs.size) = operate [.ref s.heap.objs.size, .ref l] (getItem (.ref l) (.ref s.heap.objs.size))) (ht : ∀ r, letTemporaryGo value (.ref l) r = pure ()) :
    wpAny (model prog w) A (subscriptTail value slice (.ref l) (.ref s.heap.objs.size)) Q E { s with heap := s.heap.push { cls := .type "slice", data := .fields #[.none, .int y t, .none] } } :=
  kmk_slice_ints (lo := none) (hi := some y) F N (PySem.IsL.isList (n := n) (N _ hm).1) (.none) (.int _ _) hi (kmk_upto hi h0) rfl (fun D ws h' F' N' l1 I' _ _ => h D ws h' F' N' l1 I') hs ht (kmk_sz hi (by rw [sizeLine_eq]; omega))
theorem slice_from (F : Fr h₀ L s.heap m) (N : News h₀ L s.heap news) (hm : (l, W.listOf vs.toArray n) ∈ news) (hi : IntsAre vs ns) (h0 : 0 ≤ y) (hz : ns.length ≤ 64)
    (h : ∀ D ws h', Fr h₀ L h' m → News h₀ L h' ((D, W.listOf (List.toArray ws) 0) :: news) → (∀ p ∈ news, p.1 < D) → IntsAre ws (ns.drop y.toNat) → Q (.ref D) { s with heap := h' })
    (hs : subscripted slice false (.ref l) (.ref s.heap.objs.size) = operate [.ref s.heap.objs.size, .ref l] (getItem (.ref l) (.ref s.heap.objs.size))) (ht : ∀ r, letTemporaryGo value (.ref l) r = pure ()) :
    wpAny (model prog w) A (subscriptTail value slice (.ref l) (.ref s.heap.objs.size)) Q E { s with heap := s.heap.push { cls := .type "slice", data := .fields #[.int y t, .none, .none] } } :=
  kmk_slice_ints (lo := some y) (hi := none) F N (PySem.IsL.isList (n := n) (N _ hm).1) (.int _ _) (.none) hi (kmk_from hi h0) rfl (fun D ws h' F' N' l1 I' _ _ => h D ws h' F' N' l1 I') hs ht (kmk_sz hi (by rw [sizeLine_eq]; omega))
end
end Mine
namespace Mine
open PySem PySem.W PyProof.Rows PySem.Calls PySem.Spec PyProof.V
theorem allLt_mem {d : Nat} {l : List (Addr × Obj)} (h : AllLt d l) : ∀ p ∈ l, p.1 < d := by
  induction l with
  | nil => intro p hp; cases hp
  | cons a r ih =>
    intro p hp
    rcases List.mem_cons.mp hp with rfl | hp
    · exact h.1
    · exact ih h.2 p hp
theorem ints_as {vs : List Value} {a b : List Int} (h : IntsAre vs a) (e : a = b) : IntsAre vs b := e ▸ h
theorem set_made {rs : List Int} {v : Int} {a b j : Nat} (hj : j < rs.length) (ha : a = j) (hb : b = j + 1) : rs.take a ++ [v] ++ rs.drop b = rs.set j v := by
  subst ha; subst hb
  rw [List.set_eq_take_append_cons_drop, if_pos hj]; simp
theorem erase_made {rs : List Int} {a b j : Nat} (ha : a = j) (hb : b = j + 1) : rs.take a ++ rs.drop b = rs.eraseIdx j := by
  subst ha; subst hb
  rw [List.eraseIdx_eq_take_drop_succ]
end Mine
namespace Mine
open PySem PySem.W PyProof.Rows PySem.Calls PySem.Spec PyProof.V
theorem keeps_refl (s : Shared) (tk : Nat) : Keeps s { s with toks := tk } := ⟨s.heap, tk, rfl, fun _ _ e => e⟩
theorem paired_pick {va : Int} : ∀ {vs : List Value} {ns : List Int} {ys : List Value}, IntsAre vs ns →
    Paired (fun v y => ∃ a t, v = Value.int a t ∧ y = Value.int a t) (vs.filter fun v => match v with | .int a _ => a == va | _ => false) ys → IntsAre ys (ns.filter (· == va))
  | _, _, _, .nil, h => by cases h; exact .nil
  | _, _, ys, .cons (vs := vs) (ns := ns) i t h, hp => by
    rw [List.filter_cons] at hp ⊢
    by_cases e : (i == va) = true
    · rw [if_pos e]
      rw [if_pos e] at hp
      cases hp with
      | cons hF hp' =>
        obtain ⟨a, t', e1, rfl⟩ := hF
        cases e1
        exact .cons _ _ (paired_pick h hp')
    · rw [if_neg e]
      rw [if_neg e] at hp
      exact paired_pick h hp
section
variable {prog : Program} {w : World} {A : Around} {E : Value → Shared → Prop} {s : Shared} {h₀ : Heap} {L a : Addr} {m : Str → Option Value} {cn : Str} {cs : Scope} {ccd : Value} {cl0 : List (Str × Addr)} {news : List (Addr × Obj)}
/-- [x for x in <the list> if x == v], v in a cell -/
theorem comp_eq {iter : Expr} {x v : Str} {p1 p2 p3 p4 p5 pos : Pos} {scope : Scope} {cl : List (Str × Addr)} {cv rA : Addr} {ov : Obj} {va : Int} {tv : Tok} {vs : List Value} {ns : List Int} {nR : Nat} {Q : Value → Shared → Prop}
    (hh : A.handled = none) (F : Fr h₀ L s.heap m) (N : News h₀ L s.heap news)
    (hmR : (rA, W.listOf vs.toArray nR) ∈ news) (hi : IntsAre vs ns) (hz : ns.length ≤ 64) (hmv : (cv, ov) ∈ news) (hdv : ov.data = .cell (some (.int va tv)))
    (hclos : closureFor scope (envX cn cs L a ccd cl0) = pure cl) (hcell : ∀ y ∈ scope.names, y.2 ≠ .cell) (hkind : scope.kind = .function)
    (hnames : ∀ y ∈ scope.names, y.2 = .local → scope.names.lookup y.1 = some .local) (hx : scope.names.lookup x = some .local)
    (hks : ∀ C, (compEnvC scope cl C (envX cn cs L a ccd cl0)).scope.kind = .function) (hkx : ∀ C, (compEnvC scope cl C (envX cn cs L a ccd cl0)).kindOf x = some .local) (hkv : ∀ C, (compEnvC scope cl C (envX cn cs L a ccd cl0)).kindOf v = some .cell) (hcv : cl.lookup v = some cv)
    (hdx : (x == ("__debug__" : Str)) = false) (hdbv : (v == ("__debug__" : Str)) = false)
    (hiter : ∀ Q : Value → Shared → Prop, Q (.ref rA) s → wpAny (model prog w) A (eval iter (envX cn cs L a ccd cl0)) Q E s)
    (h : ∀ D ws n' h' tk, Fr h₀ L h' m → News h₀ L h' ((D, W.listOf (List.toArray ws) n') :: news) → (∀ p ∈ news, p.1 ≠ D) → IntsAre ws (ns.filter (· == va)) → (ns.filter (· == va)).length ≤ ns.length → Q (.ref D) { s with heap := h', toks := tk })
    (hs : ∀ z, foldedSetIterable iter (envX cn cs L a ccd cl0) z = pure z) :
    wpAny (model prog w) A (eval (.ListComp (.Name x p1) [⟨.Name x p2, iter, [.Compare (.Name x p3) [.Eq] [.Name v p4] p5], 0⟩] scope pos) (envX cn cs L a ccd cl0)) Q E s := by
  have hls : s.heap.IsList rA vs.toArray := PySem.IsL.isList (n := nR) (N _ hmR).1
  have hne : rA ≠ s.heap.objs.size := Nat.ne_of_lt (Heap.lt_size (N _ hmR).1)
  refine wpAny_ListComp_free (fun u => match u with | .int b _ => b == va | _ => false) (fun u y => ∃ b t, u = Value.int b t ∧ y = Value.int b t) hclos hcell hkind hnames hx
    (hiter _ (wpAny_pyIter_list hls ?_)) hs
  have hlv : s.heap.get? cv = some ov := (N _ hmv).1
  have old : ∀ b, b < s.heap.objs.size → b ∉ [s.heap.objs.size] := fun b hb hm => by
    have e := List.mem_singleton.mp hm
    omega
  have cell : ∀ (s₃ : Shared), (∀ b o, b ∉ [s.heap.objs.size] → (s.heap.push { cls := .type "list_iterator", data := .fields #[.ref rA, .int 0 0] }).get? b = some o → s₃.heap.get? b = some o) → s₃.heap.IsCell cv (some (.int va tv)) := fun s₃ hold =>
    ⟨ov, hold cv ov (old cv (Heap.lt_size hlv)) (Heap.get?_push_of_some _ hlv), hdv⟩
  refine ⟨s.heap.objs.size, [s.heap.objs.size, rA], [s.heap.objs.size], vs.toArray.size, (fun i u => vs.toArray[i]? = some u), _, rfl, Walks.list hh s.heap.objs.size rA hne vs.toArray, kmk_sz hi (by rw [sizeLine_eq]; omega),
    ⟨⟨_, Heap.get?_push_size _ rfl, rfl, rfl⟩, hls.push _⟩, ?_, ⟨?_, ?_⟩, ?_⟩
  · intro b hb
    show b < (s.heap.push _).objs.size
    rw [Heap.size_push]
    rcases List.mem_cons.mp hb with rfl | hb
    · exact Nat.lt_succ_self _
    · rw [List.mem_singleton.mp hb]; exact Nat.lt_succ_of_lt (Heap.lt_size (N _ hmR).1)
  · intro C i u s₃ m₃ E' _ hP hn hm hold _
    have hP' : vs[i]? = some u := by simpa using hP
    obtain ⟨b, t, rfl⟩ : ∃ b t, u = .int b t := by
      have hlt : i < ns.length := by rw [← hi.length]; exact (List.getElem?_eq_some_iff.mp hP').1
      obtain ⟨t, e⟩ := hi.get i ns[i] (by simp [hlt])
      rw [e] at hP'
      exact ⟨_, t, (Option.some.inj hP').symm⟩
    refine wpAny_tests_one (wpAny_isTrue_Compare1 (wpAny_Name (wpAny_loadName_local (hks C) (hkx C) hn hm (wpAny_Name (wpAny_loadName_cell (hks C) (hkv C) hcv (cell s₃ hold) (eq_int ?_)) hdbv)) hdx))
    exact wpAny_of_eq (by rfl : truthy (.bool (b == va)) = pure (b == va)) (show (b == va) = (b == va) ∧ Keeps s₃ s₃ from ⟨rfl, keeps_refl s₃ s₃.toks⟩)
  · intro C i u s₃ m₃ E' _ hP hp hn hm hold _
    have hP' : vs[i]? = some u := by simpa using hP
    obtain ⟨b, t, rfl⟩ : ∃ b t, u = .int b t := by
      have hlt : i < ns.length := by rw [← hi.length]; exact (List.getElem?_eq_some_iff.mp hP').1
      obtain ⟨t, e⟩ := hi.get i ns[i] (by simp [hlt])
      rw [e] at hP'
      exact ⟨_, t, (Option.some.inj hP').symm⟩
    exact wpAny_Name (wpAny_loadName_local (hks C) (hkx C) hn hm ⟨⟨b, t, rfl, rfl⟩, keeps_refl s₃ s₃.toks⟩) hdx
  · intro D h' tk ys us hnew _ hpl hlen hP hF hk
    obtain ⟨n', hD⟩ := hpl
    have eu : us = vs := by
      have := list_of_places (items := vs.toArray) hlen hP
      simpa using this
    subst eu
    have keep : ∀ b o, s.heap.get? b = some o → h'.get? b = some o := fun b o e => hk b o (old b (Heap.lt_size e)) (Heap.get?_push_of_some _ e)
    have nD : s.heap.get? D = none := by
      cases q : s.heap.get? D with
      | none => rfl
      | some o' => rw [Heap.get?_push_of_some _ q] at hnew; cases hnew
    obtain ⟨oL, _, _, hL, _⟩ := id F.ns
    refine h D ys.toList n' h' tk ⟨F.ns.keeps keep, fun b o e => keep b o (F.keep b o e), F.above⟩ (fun q hq => ?_) (fun q hq z => ?_) (paired_pick hi hF) (List.length_filter_le ..)
    · rcases List.mem_cons.mp hq with rfl | hq
      · refine ⟨by simpa using hD, fun z => ?_, ?_⟩
        · have z' : D = L := z
          rw [z', hL] at nD; cases nD
        · cases q : h₀.get? D with
          | none => rfl
          | some o' => rw [F.keep _ _ q] at nD; cases nD
      · exact ⟨keep _ _ (N q hq).1, (N q hq).2⟩
    · rw [← z, (N q hq).1] at nD; cases nD
end
end Mine
namespace Mine
open PySem PySem.W PyProof.Rows PySem.Calls PySem.Spec PyProof.V
theorem paired_pickB {pz : Int → Bool} : ∀ {vs : List Value} {ns : List Int} {ys : List Value}, IntsAre vs ns →
    Paired (fun v y => ∃ a t, v = Value.int a t ∧ y = Value.int a t) (vs.filter fun v => match v with | .int a _ => pz a | _ => false) ys → IntsAre ys (ns.filter pz)
  | _, _, _, .nil, h => by cases h; exact .nil
  | _, _, ys, .cons (vs := vs) (ns := ns) i t h, hp => by
    rw [List.filter_cons] at hp ⊢
    by_cases e : pz i = true
    · rw [if_pos e]
      rw [if_pos e] at hp
      cases hp with
      | cons hF hp' =>
        obtain ⟨a, t', e1, rfl⟩ := hF
        cases e1
        exact .cons _ _ (paired_pickB h hp')
    · rw [if_neg e]
      rw [if_neg e] at hp
      exact paired_pickB h hp
theorem ints_of_places : ∀ {vs : List Value} {k : Nat}, (∀ j v, vs[j]? = some v → ∃ t, v = Value.int ((k + j : Nat) : Int) t) → IntsAre vs ((List.range' k vs.length).map fun (j : Nat) => (j : Int))
  | [], _, _ => .nil
  | v :: r, k, h => by
    obtain ⟨t, e⟩ := h 0 v rfl
    subst e
    show IntsAre _ (((k : Nat) : Int) :: _)
    refine .cons _ _ (ints_of_places (k := k + 1) fun j u hj => ?_)
    obtain ⟨t', e'⟩ := h (j + 1) u hj
    exact ⟨t', by rw [e']; congr 2; omega⟩
def RangeAt (h₀ : Heap) (L : Addr) (m : Str → Option Value) (news : List (Addr × Obj)) (s : Shared) (n : Nat) (xv : Value) (s₁ : Shared) : Prop :=
  ∃ r0 h1 tk1 t u v', xv = .ref r0 ∧ s₁ = { s with heap := h1, toks := tk1 } ∧ Fr h₀ L h1 m ∧ News h₀ L h1 news ∧ IsRange h1 r0 0 n 1 t u v'
section
variable {prog : Program} {w : World} {A : Around} {E : Value → Shared → Prop} {s : Shared} {h₀ : Heap} {L a : Addr} {m : Str → Option Value} {cn : Str} {cs : Scope} {ccd : Value} {cl0 : List (Str × Addr)} {news : List (Addr × Obj)}
/-- y = [x for x in range(<n>) if r[x] == v], r and v in cells -/
theorem comp_idx_store {iter : Expr} {x v r : Str} {p1 p2 p3 p4 p5 p6 p7 pos : Pos} {scope : Scope} {cl : List (Str × Addr)} {cv cr rA : Addr} {ov orr : Obj} {va : Int} {tv : Tok} {vs : List Value} {ns : List Int} {nR : Nat} {Q : Flow → Shared → Prop} {y : Str} {py spos : Pos}
    (hh : A.handled = none) (_F : Fr h₀ L s.heap m) (_N : News h₀ L s.heap news)
    (hmR : (rA, W.listOf vs.toArray nR) ∈ news) (hi : IntsAre vs ns) (hz : ns.length ≤ 64) (hmv : (cv, ov) ∈ news) (hdv : ov.data = .cell (some (.int va tv))) (hmr : (cr, orr) ∈ news) (hdr : orr.data = .cell (some (.ref rA)))
    (hclos : closureFor scope (envX cn cs L a ccd cl0) = pure cl) (hcell : ∀ y ∈ scope.names, y.2 ≠ .cell) (hkind : scope.kind = .function)
    (hnames : ∀ y ∈ scope.names, y.2 = .local → scope.names.lookup y.1 = some .local) (hx : scope.names.lookup x = some .local)
    (hks : ∀ C, (compEnvC scope cl C (envX cn cs L a ccd cl0)).scope.kind = .function) (hkx : ∀ C, (compEnvC scope cl C (envX cn cs L a ccd cl0)).kindOf x = some .local) (hkv : ∀ C, (compEnvC scope cl C (envX cn cs L a ccd cl0)).kindOf v = some .cell) (hcv : cl.lookup v = some cv)
    (hkr : ∀ C, (compEnvC scope cl C (envX cn cs L a ccd cl0)).kindOf r = some .cell) (hcr : cl.lookup r = some cr)
    (hdx : (x == ("__debug__" : Str)) = false) (hdbv : (v == ("__debug__" : Str)) = false) (hdbr : (r == ("__debug__" : Str)) = false)
    (hiter : wpAny (model prog w) A (eval iter (envX cn cs L a ccd cl0)) (RangeAt h₀ L m news s ns.length) E s)
    (h : ∀ D ws n' h' tk, Fr h₀ L h' (fun z => if z = y then some (.ref D) else m z) → News h₀ L h' ((D, W.listOf (List.toArray ws) n') :: news) → (∀ p ∈ news, p.1 ≠ D) → IntsAre ws (((List.range ns.length).map fun (j : Nat) => (j : Int)).filter fun k => ns.getD k.toNat 0 == va) → ws.length ≤ 64 → Q .next { s with heap := h', toks := tk })
    (hsw : swapsWith (.ListComp (.Name x p1) [⟨.Name x p2, iter, [.Compare (.Subscript (.Name r p3) (.Name x p4) p5) [.Eq] [.Name v p6] p7], 0⟩] scope pos) (some (.Name y py)) spos.line (envX cn cs L a ccd cl0) = pure true)
    (hkind0 : cs.kind = .function) (hy : (envX cn cs L a ccd cl0).kindOf y = some .local)
    (hs : ∀ z, foldedSetIterable iter (envX cn cs L a ccd cl0) z = pure z) :
    wpAny (model prog w) A (exec (.Assign [.Name y py] (.ListComp (.Name x p1) [⟨.Name x p2, iter, [.Compare (.Subscript (.Name r p3) (.Name x p4) p5) [.Eq] [.Name v p6] p7], 0⟩] scope pos) spos) (envX cn cs L a ccd cl0)) Q E s := by
  refine wpAny_Assign_ListComp_free (fun u => match u with | .int b _ => ns.getD b.toNat 0 == va | _ => false) (fun u y => ∃ b t, u = Value.int b t ∧ y = Value.int b t) hsw hclos hcell hkind hnames hx hy (by show (cs.kind == .class || (cs.kind == .module && L != mainGlobals)) = false; rw [hkind0]; rfl)
    (wpAny_mono hiter (fun xv s₁ hx1 => ?_) fun _ _ e => e) hs
  obtain ⟨r0, h1, tk1, t, u, v', rfl, rfl, F1, N1, hr⟩ := hx1
  have hsz : Builtin.Range.rangeSize 0 ns.length 1 = ((ns.length : Nat) : Int) := by have := PyProof.Rows.rangeSize_nat 0 ns.length; simpa using this
  refine wpAny_pyIter_range hr (by simpa using PySem.small_one (a := 0) (b := (ns.length : Int)) (by omega) (by omega) (by omega) (by omega)) ?_
  have hlv : h1.get? cv = some ov := (N1 _ hmv).1
  have hlr : h1.get? cr = some orr := (N1 _ hmr).1
  have hlR : h1.get? rA = some (W.listOf vs.toArray nR) := (N1 _ hmR).1
  have old : ∀ b, b < h1.objs.size → b ∉ [h1.objs.size] := fun b hb hm => by
    have e := List.mem_singleton.mp hm
    omega
  have W0 : Walks prog w A h1.objs.size [h1.objs.size] [h1.objs.size] ns.length (fun i v => i < ns.length ∧ ∃ t, v = .int (0 + i * 1) t)
      (fun i h => IsRangeIter h h1.objs.size (0 + (i : Nat) * 1) ((ns.length : Int) - (i : Nat)) 1) := (Walks.range hh _ 0 1 ns.length).bound
  obtain ⟨oL, _, _, hL1, _⟩ := id F1.ns
  have hns1 : (h1.push { cls := .type "range_iterator", data := .fields #[rawInt 0, rawInt (Builtin.Range.rangeSize 0 ns.length 1), rawInt 1] }).Ns L m := F1.ns.push _
  refine ⟨h1.objs.size, [h1.objs.size], [h1.objs.size], ns.length, _, _, m, rfl, W0, by rw [sizeLine_eq]; omega, (by show IsRangeIter _ _ _ _ _; rw [hsz]; simpa using Heap.get?_push_size _ rfl), ?_, ?_, ?_, ⟨?_, ?_⟩, ?_⟩
  · intro b hb
    show b < (h1.push _).objs.size
    rw [Heap.size_push, List.mem_singleton.mp hb]; exact Nat.lt_succ_self _
  · exact old L (Heap.lt_size hL1)
  · exact hns1
  · rintro C i u s₃ m₃ E' _ ⟨hlt, t', rfl⟩ hn hm hold _
    have ei : (0 : Int) + (i : Int) * 1 = (i : Int) := by omega
    rw [ei] at hm ⊢
    have up : ∀ b o, h1.get? b = some o → s₃.heap.get? b = some o := fun b o e => hold b o (old b (Heap.lt_size e)) (Heap.get?_push_of_some _ e)
    obtain ⟨t2, hx2⟩ := hi.get i ns[i] (by simp [hlt])
    have eg : ns.getD ((i : Int)).toNat 0 = ns[i] := by simp [hlt]
    refine wpAny_tests_one (wpAny_isTrue_Compare1 (Subscript_ (wpAny_Name (wpAny_loadName_cell (hks C) (hkr C) hcr ⟨orr, up _ _ hlr, hdr⟩ (wpAny_Name (wpAny_loadName_local (hks C) (hkx C) hn hm
      (item_listL (l := vs) (x := .int ns[i] t2) (PySem.IsL.isList (n := nR) (up _ _ hlR)) (by omega) (by omega) (by simpa using hx2)
        (wpAny_Name (wpAny_loadName_cell (hks C) (hkv C) hcv ⟨ov, up _ _ hlv, hdv⟩ (eq_int ?_)) hdbv))) hdx)) hdbr)))
    refine wpAny_of_eq (by rfl : truthy (.bool (ns[i] == va)) = pure (ns[i] == va)) (show (ns[i] == va) = _ ∧ Keeps s₃ s₃ from ⟨?_, keeps_refl s₃ s₃.toks⟩)
    show (ns[i] == va) = (ns.getD ((i : Int)).toNat 0 == va)
    rw [eg]
  · rintro C i u s₃ m₃ E' _ ⟨hlt, t', rfl⟩ hp hn hm hold _
    exact wpAny_Name (wpAny_loadName_local (hks C) (hkx C) hn hm ⟨⟨_, t', rfl, rfl⟩, keeps_refl s₃ s₃.toks⟩) hdx
  · intro D h' tk ys us hnew _ hpl hlen hP hF hns' hk
    obtain ⟨n', hD⟩ := hpl
    have hints : IntsAre us ((List.range ns.length).map fun (j : Nat) => (j : Int)) := by
      have := ints_of_places (vs := us) (k := 0) fun j v hj => by
        obtain ⟨_, t', e⟩ := hP j v hj
        exact ⟨t', by rw [e]; congr 1; omega⟩
      rw [hlen] at this
      rwa [List.range_eq_range']
    have keep : ∀ b o, b ≠ L → h1.get? b = some o → h'.get? b = some o := fun b o hb e => hk b o hb (old b (Heap.lt_size e)) (Heap.get?_push_of_some _ e)
    have nD : h1.get? D = none := by
      cases q : h1.get? D with
      | none => rfl
      | some o' =>
        have := Heap.get?_push_of_some { cls := .type "range_iterator", data := .fields #[rawInt 0, rawInt (Builtin.Range.rangeSize 0 ns.length 1), rawInt 1] } q
        rw [hnew] at this; cases this
    refine h D ys.toList n' h' tk ⟨hns', fun b o e => keep b o (fun z => by rw [z] at e; exact absurd (Nat.lt_of_lt_of_le (Heap.lt_size e) F1.above) (Nat.lt_irrefl _)) (F1.keep b o e), F1.above⟩ (fun q hq => ?_) (fun q hq z => ?_) (paired_pickB hints hF) (by have e1 := (paired_pickB hints hF).length; have e2 := List.length_filter_le (fun k : Int => ns.getD k.toNat 0 == va) ((List.range ns.length).map fun (j : Nat) => (j : Int)); rw [List.length_map, List.length_range] at e2; omega)
    · rcases List.mem_cons.mp hq with rfl | hq
      · refine ⟨by simpa using hD, fun z => ?_, ?_⟩
        · have z' : D = L := z
          rw [z', hL1] at nD; cases nD
        · cases q : h₀.get? D with
          | none => rfl
          | some o' => rw [F1.keep _ _ q] at nD; cases nD
      · exact ⟨keep _ _ (N1 q hq).2.1 (N1 q hq).1, (N1 q hq).2⟩
    · rw [← z, (N1 q hq).1] at nD; cases nD
end
end Mine
namespace Mine
open PySem PySem.W PyProof.Rows PySem.Calls PySem.Spec PyProof.V
section
variable {prog : Program} {w : World} {A : Around} {E : Value → Shared → Prop} {s : Shared} {h₀ : Heap} {L D l : Addr} {m : Str → Option Value} {news : List (Addr × Obj)} {Q : Value → Shared → Prop} {ws : List Value} {x : Value} {n1 n2 : Nat}
theorem add_some (F : Fr h₀ L s.heap m) (N : News h₀ L s.heap news) (hD : (D, W.listOf (List.toArray ws) n1) ∈ news) (hl : (l, W.listOf (List.toArray [x]) n2) ∈ news) (hz : ws.length ≤ 64)
    (h : ∀ D2 h', Fr h₀ L h' m → News h₀ L h' ((D2, W.listOf (List.toArray (ws ++ [x])) 0) :: news) → (∀ p ∈ news, p.1 < D2) → Q (.ref D2) { s with heap := h' }) :
    wpAny (model prog w) A (binaryOp .Add (.ref D) (.ref l)) Q E s :=
  add_lists (vs := ws) (ws := [x]) (hsz := by rw [sizeLine_eq]; simp; omega) F N (PySem.IsL.isList (n := n1) (N _ hD).1) (PySem.IsL.isList (n := n2) (N _ hl).1) fun h' F' N' => h _ h' F' N' fun p hp => Heap.lt_size (N p hp).1
theorem first_item {value slice : PySem.Expr} {t : Tok} (N : News h₀ L s.heap news) (hD : (D, W.listOf (List.toArray (ws ++ [x])) n1) ∈ news) (h : Q (ws.headD x) s)
    (hs : subscripted slice false (.ref D) (.int 0 t) = operate [.ref D, .int 0 t] (getItem (.ref D) (.int 0 t)) := by with_unfolding_all rfl) :
    wpAny (model prog w) A (subscriptTail value slice (.ref D) (.int 0 t)) Q E s :=
  tail_any (PySem.IsL.isList (n := n1) (N _ hD).1).typeIs slot_list_getitem.lookup (wpAny_getItem_list (PySem.IsL.isList (n := n1) (N _ hD).1) (by omega) (by omega) (by cases ws <;> rfl) h) hs
end
end Mine
namespace Mine
open PySem PySem.W PyProof.Rows
local macro_rules | `(tactic| walk_at "subscriptTail Name Slice ref ref") => `(tactic| (k_here; k_dflt (first
  | (refine' slice_upto ?F ?N ?hm ?hi ?h0 ?hz ?_ ?s ?t; (case F => k_asm); (case N => k_asm); (case hm => k_mem); (case hi => assumption); (case h0 => omega); (case hz => omega); (case s => with_unfolding_all rfl); (case t => (intro _; with_unfolding_all rfl)); k_whole; intro D' ws' h' F' N' l1' I'; (try k_lt l1'); (try k_sweep))
  | (refine' slice_from ?F ?N ?hm ?hi ?h0 ?hz ?_ ?s ?t; (case F => k_asm); (case N => k_asm); (case hm => k_mem); (case hi => assumption); (case h0 => omega); (case hz => omega); (case s => with_unfolding_all rfl); (case t => (intro _; with_unfolding_all rfl)); k_whole; intro D' ws' h' F' N' l1' I'; (try k_lt l1'); (try k_sweep)))))
local macro_rules | `(tactic| walk_at "spliced") => `(tactic| (k_here; (with_reducible show wpAny _ _ (spliced (backTo _ (starEach (PySem.Expr.ListComp _ _ _ _ :: _) _))) _ _ _); k_dflt (refine spliced_more ?_)))
local macro_rules | `(tactic| walk_at "eval ListComp") => `(tactic| (k_here; (with_reducible show wpAny _ _ (eval (PySem.Expr.ListComp _ [⟨_, _, [PySem.Expr.Compare (PySem.Expr.Name _ _) _ _ _], _⟩] _ _) _) _ _ _); k_dflt (refine' comp_eq ?hh ?F ?N ?hmR ?hi ?hz ?hmv ?hdv ?c1 ?c2 ?c3 ?c4 ?c5 ?k1 ?k2 ?k3 ?k4 ?d1 ?d2 ?it ?_ ?hs; (case hh => exact rfl); (case F => k_asm); (case N => k_asm); (case c1 => exact rfl); (case k4 => exact rfl); (case it => (intro Q9 h9; refine' nameX_C ?n ?c ?m ?d h9; (case c => exact rfl); (case n => k_asm); (case m => k_mem); (case d => k_asm))); (case hmR => k_mem); (case hi => assumption); (case hz => omega); (case hmv => k_mem); (case hdv => k_asm); (case c2 => decide); (case c3 => exact rfl); (case c4 => decide); (case c5 => exact rfl); (case k1 => (intro _; exact rfl)); (case k2 => (intro _; exact rfl)); (case k3 => (intro _; exact rfl)); (case d1 => decide); (case d2 => decide); (case hs => (intro _; exact rfl)); k_whole; intro D' ws' n' h' tk' F' N' l1' I' le'; (try k_sweep))))
local macro_rules | `(tactic| walk_at "exec Assign cons ListComp") => `(tactic| (k_here; k_dflt (refine' comp_idx_store ?hh ?F ?N ?hmR ?hi ?hz ?hmv ?hdv ?hmr ?hdr ?c1 ?c2 ?c3 ?c4 ?c5 ?k1 ?k2 ?k3 ?k4 ?k5 ?k6 ?d1 ?d2 ?d3 ?_ ?_ ?sw ?kk ?ky ?hs; (case hh => exact rfl); (case F => k_asm); (case N => k_asm); (case c1 => exact rfl); (case k4 => exact rfl); (case k6 => exact rfl); (case hmr => k_mem); (case hdr => k_asm); (case hmR => k_mem); (case hi => assumption); (case hz => omega); (case hmv => k_mem); (case hdv => k_asm); (case c2 => decide); (case c3 => exact rfl); (case c4 => decide); (case c5 => exact rfl); (case k1 => (intro _; exact rfl)); (case k2 => (intro _; exact rfl)); (case k3 => (intro _; exact rfl)); (case k5 => (intro _; exact rfl)); (case d1 => decide); (case d2 => decide); (case d3 => decide); (case sw => exact rfl); (case kk => exact rfl); (case ky => exact rfl); (case hs => (intro _; exact rfl)); rotate_left; intro D' ws' n' h' tk' F' N' l1' I' le'; (try k_sweep); rotate_left)))
local macro_rules | `(tactic| walk_at "RangeAt") => `(tactic| (k_dflt (exact ⟨_, _, _, _, _, _, rfl, rfl, by assumption, by assumption, by assumption⟩)))
local macro_rules | `(tactic| walk_at "binaryOp Add ref ref") => `(tactic| (k_here; k_dflt (refine' add_some ?F ?N ?hD ?hl ?hz ?_; (case F => k_asm); (case N => k_asm); (case hl => k_mem); (case hD => k_mem); (case hz => omega); k_whole; intro D' h' F' N' l1'; (try k_lt l1'); (try k_sweep))))
local macro_rules | `(tactic| walk_at "subscriptTail BinOp") => `(tactic| (k_here; (with_reducible show wpAny _ _ (subscriptTail _ _ (Value.ref _) (Value.int 0 _)) _ _ _); k_dflt (refine' first_item ?N ?hD ?_ ?hs; (case N => k_asm); (case hD => k_mem); (case hs => with_unfolding_all rfl); k_whole)))
theorem row0 {w : World} {h₀ : Heap} {L fa : Nat} {mg mb : Str → Option Value} {mean : ExcName → Option Value} {E : Value → Shared → Prop} {Q : Value → Shared → Prop} {s : Shared}
  {m : Str → Option Value} {va pl : Int} {t0 t1 t2 : Nat} {rs : List Int} {vR : List Value} {nR : Nat} {rA : Nat} {news : List (Addr × Obj)}
  (X : (hd.heap_39 w.params).In h₀) (T : Top topProg LL mean mg mb h₀) (B : Below callerA h₀ [] h₀)
  (hR : IntsAre vR rs) (hlen : rs.length ≤ 63) (hpl : -3 ≤ pl ∧ pl ≤ (rs.length : Int) + 1)
  (F : Fr h₀ L s.heap m) (N : News h₀ L s.heap ((rA, W.listOf vR.toArray nR) :: news))
  (hin : ∀ t D ws n' h' tk, (0 ≤ pl ∧ pl < rs.length) → Fr h₀ L h' m → News h₀ L h' ((t, { cls := .type "tuple", data := .seq #[.none, .ref D] }) :: (D, W.listOf (List.toArray ws) n') :: (rA, W.listOf vR.toArray nR) :: news) → (∀ p ∈ news, p.1 < D) → (∀ p ∈ news, p.1 < t) → IntsAre ws (rs.set pl.toNat va) → Q (.ref t) { s with heap := h', toks := tk })
  (hback : ∀ t D ws n' h' tk, (pl < 0 ∧ -(rs.length : Int) ≤ pl) → Fr h₀ L h' m → News h₀ L h' ((t, { cls := .type "tuple", data := .seq #[.none, .ref D] }) :: (D, W.listOf (List.toArray ws) n') :: (rA, W.listOf vR.toArray nR) :: news) → (∀ p ∈ news, p.1 < D) → (∀ p ∈ news, p.1 < t) → IntsAre ws (rs.set (pl + rs.length).toNat va) → Q (.ref t) { s with heap := h', toks := tk })
  (hout : ∀ t u h' tk, (pl < -(rs.length : Int) ∨ (rs.length : Int) ≤ pl) → Fr h₀ L h' m → News h₀ L h' ((t, { cls := .type "tuple", data := .seq #[.str "place" u, .ref rA] }) :: (rA, W.listOf vR.toArray nR) :: news) → Q (.ref t) { s with heap := h', toks := tk })
  : wpAny (model PR w) (lawA L fa) (call (.ref 90) [.ref rA, .int 0 t0, .int pl t1, .int va t2]) Q E s := by
  unfold lawA lawEnv
  have hs : lawScope = lawScope := rfl
  conv at hs => rhs; whnf
  rw [hs]; clear hs
  show wpAny _ _ _ _ _ _
  w_top off
  k_steps
  all_goals first
    | (refine' hout _ _ _ _ ?a ?F ?N; (case a => omega); (case F => assumption); (case N => refine' kst_newsOf ?src ?sub; (case src => assumption); (case sub => (repeat (refine' List.forall_mem_cons.mpr ⟨?memz, ?_⟩; (case memz => (repeat (first | exact List.Mem.head _ | refine' List.Mem.tail _ ?_))))); (intro p hp; (repeat refine' List.Mem.tail _ ?_); exact hp))))
    | (refine' hin _ _ _ _ _ _ ?a ?F ?N ?l ?l2 ?I; (case a => omega); (case F => assumption); (case N => refine' kst_newsOf ?src ?sub; (case src => assumption); (case sub => (repeat (refine' List.forall_mem_cons.mpr ⟨?memz, ?_⟩; (case memz => (repeat (first | exact List.Mem.head _ | refine' List.Mem.tail _ ?_))))); (intro p hp; (repeat refine' List.Mem.tail _ ?_); exact hp))); (case l => exact allLt_mem (by grind)); (case l2 => exact allLt_mem (by grind)); (case I => refine ints_as (by assumption) ?_; exact set_made (by omega) (by omega) (by omega)))
    | (refine' hback _ _ _ _ _ _ ?a ?F ?N ?l ?l2 ?I; (case a => omega); (case F => assumption); (case N => refine' kst_newsOf ?src ?sub; (case src => assumption); (case sub => (repeat (refine' List.forall_mem_cons.mpr ⟨?memz, ?_⟩; (case memz => (repeat (first | exact List.Mem.head _ | refine' List.Mem.tail _ ?_))))); (intro p hp; (repeat refine' List.Mem.tail _ ?_); exact hp))); (case l => exact allLt_mem (by grind)); (case l2 => exact allLt_mem (by grind)); (case I => refine ints_as (by assumption) ?_; exact set_made (by omega) (by omega) (by omega)))
theorem row1 {w : World} {h₀ : Heap} {L fa : Nat} {mg mb : Str → Option Value} {mean : ExcName → Option Value} {E : Value → Shared → Prop} {Q : Value → Shared → Prop} {s : Shared}
  {m : Str → Option Value} {va pl : Int} {t0 t1 t2 : Nat} {rs : List Int} {vR : List Value} {nR : Nat} {rA : Nat} {news : List (Addr × Obj)}
  (X : (hd.heap_39 w.params).In h₀) (T : Top topProg LL mean mg mb h₀) (B : Below callerA h₀ [] h₀)
  (hR : IntsAre vR rs) (hlen : rs.length ≤ 63) (hpl : -3 ≤ pl ∧ pl ≤ (rs.length : Int) + 1)
  (F : Fr h₀ L s.heap m) (N : News h₀ L s.heap ((rA, W.listOf vR.toArray nR) :: news))
  (hin : ∀ t u h' tk, (0 ≤ pl ∧ pl < rs.length) → Fr h₀ L h' m → News h₀ L h' ((t, { cls := .type "tuple", data := .seq #[.int (rs.getD pl.toNat 0) u, .ref rA] }) :: (rA, W.listOf vR.toArray nR) :: news) → Q (.ref t) { s with heap := h', toks := tk })
  (hback : ∀ t u h' tk, (pl < 0 ∧ -(rs.length : Int) ≤ pl) → Fr h₀ L h' m → News h₀ L h' ((t, { cls := .type "tuple", data := .seq #[.int (rs.getD (rs.length + pl).toNat 0) u, .ref rA] }) :: (rA, W.listOf vR.toArray nR) :: news) → Q (.ref t) { s with heap := h', toks := tk })
  (hout : ∀ t u h' tk, (pl < -(rs.length : Int) ∨ (rs.length : Int) ≤ pl) → Fr h₀ L h' m → News h₀ L h' ((t, { cls := .type "tuple", data := .seq #[.str "place" u, .ref rA] }) :: (rA, W.listOf vR.toArray nR) :: news) → Q (.ref t) { s with heap := h', toks := tk })
  : wpAny (model PR w) (lawA L fa) (call (.ref 90) [.ref rA, .int 1 t0, .int pl t1, .int va t2]) Q E s := by
  unfold lawA lawEnv
  have hs : lawScope = lawScope := rfl
  conv at hs => rhs; whnf
  rw [hs]; clear hs
  show wpAny _ _ _ _ _ _
  w_top off
  k_steps
  all_goals first
    | (refine' hout _ _ _ _ ?a ?F ?N; (case a => omega); (case F => assumption); (case N => refine' kst_newsOf ?src ?sub; (case src => assumption); (case sub => (repeat (refine' List.forall_mem_cons.mpr ⟨?memz, ?_⟩; (case memz => (repeat (first | exact List.Mem.head _ | refine' List.Mem.tail _ ?_))))); (intro p hp; (repeat refine' List.Mem.tail _ ?_); exact hp))))
    | (refine' hin _ _ _ _ ?a ?F ?N; (case a => omega); (case F => assumption); (case N => refine' kst_newsOf ?src ?sub; (case src => assumption); (case sub => (repeat (refine' List.forall_mem_cons.mpr ⟨?memz, ?_⟩; (case memz => (repeat (first | exact List.Mem.head _ | refine' List.Mem.tail _ ?_))))); (intro p hp; (repeat refine' List.Mem.tail _ ?_); exact hp))))
    | (refine' hback _ _ _ _ ?a ?F ?N; (case a => omega); (case F => assumption); (case N => refine' kst_newsOf ?src ?sub; (case src => assumption); (case sub => (repeat (refine' List.forall_mem_cons.mpr ⟨?memz, ?_⟩; (case memz => (repeat (first | exact List.Mem.head _ | refine' List.Mem.tail _ ?_))))); (intro p hp; (repeat refine' List.Mem.tail _ ?_); exact hp))))
theorem row2 {w : World} {h₀ : Heap} {L fa : Nat} {mg mb : Str → Option Value} {mean : ExcName → Option Value} {E : Value → Shared → Prop} {Q : Value → Shared → Prop} {s : Shared}
  {m : Str → Option Value} {va pl : Int} {t0 t1 t2 : Nat} {rs : List Int} {vR : List Value} {nR : Nat} {rA : Nat} {news : List (Addr × Obj)}
  (X : (hd.heap_39 w.params).In h₀) (T : Top topProg LL mean mg mb h₀) (B : Below callerA h₀ [] h₀)
  (hR : IntsAre vR rs) (hlen : rs.length ≤ 63) (hpl : -3 ≤ pl ∧ pl ≤ (rs.length : Int) + 1)
  (F : Fr h₀ L s.heap m) (N : News h₀ L s.heap ((rA, W.listOf vR.toArray nR) :: news))
  (hin : ∀ t D ws n' h' tk, (0 ≤ pl ∧ pl < rs.length) → Fr h₀ L h' m → News h₀ L h' ((t, { cls := .type "tuple", data := .seq #[.none, .ref D] }) :: (D, W.listOf (List.toArray ws) n') :: (rA, W.listOf vR.toArray nR) :: news) → (∀ p ∈ news, p.1 < D) → (∀ p ∈ news, p.1 < t) → IntsAre ws (rs.eraseIdx pl.toNat) → Q (.ref t) { s with heap := h', toks := tk })
  (hback : ∀ t D ws n' h' tk, (pl < 0 ∧ -(rs.length : Int) ≤ pl) → Fr h₀ L h' m → News h₀ L h' ((t, { cls := .type "tuple", data := .seq #[.none, .ref D] }) :: (D, W.listOf (List.toArray ws) n') :: (rA, W.listOf vR.toArray nR) :: news) → (∀ p ∈ news, p.1 < D) → (∀ p ∈ news, p.1 < t) → IntsAre ws (rs.eraseIdx (pl + rs.length).toNat) → Q (.ref t) { s with heap := h', toks := tk })
  (hout : ∀ t u h' tk, (pl < -(rs.length : Int) ∨ (rs.length : Int) ≤ pl) → Fr h₀ L h' m → News h₀ L h' ((t, { cls := .type "tuple", data := .seq #[.str "place" u, .ref rA] }) :: (rA, W.listOf vR.toArray nR) :: news) → Q (.ref t) { s with heap := h', toks := tk })
  : wpAny (model PR w) (lawA L fa) (call (.ref 90) [.ref rA, .int 2 t0, .int pl t1, .int va t2]) Q E s := by
  unfold lawA lawEnv
  have hs : lawScope = lawScope := rfl
  conv at hs => rhs; whnf
  rw [hs]; clear hs
  show wpAny _ _ _ _ _ _
  w_top off
  k_steps
  all_goals first
    | (refine' hout _ _ _ _ ?a ?F ?N; (case a => omega); (case F => assumption); (case N => refine' kst_newsOf ?src ?sub; (case src => assumption); (case sub => (repeat (refine' List.forall_mem_cons.mpr ⟨?memz, ?_⟩; (case memz => (repeat (first | exact List.Mem.head _ | refine' List.Mem.tail _ ?_))))); (intro p hp; (repeat refine' List.Mem.tail _ ?_); exact hp))))
    | (refine' hin _ _ _ _ _ _ ?a ?F ?N ?l ?l2 ?I; (case a => omega); (case F => assumption); (case N => refine' kst_newsOf ?src ?sub; (case src => assumption); (case sub => (repeat (refine' List.forall_mem_cons.mpr ⟨?memz, ?_⟩; (case memz => (repeat (first | exact List.Mem.head _ | refine' List.Mem.tail _ ?_))))); (intro p hp; (repeat refine' List.Mem.tail _ ?_); exact hp))); (case l => exact allLt_mem (by grind)); (case l2 => exact allLt_mem (by grind)); (case I => refine ints_as (by assumption) ?_; exact erase_made (by omega) (by omega)))
    | (refine' hback _ _ _ _ _ _ ?a ?F ?N ?l ?l2 ?I; (case a => omega); (case F => assumption); (case N => refine' kst_newsOf ?src ?sub; (case src => assumption); (case sub => (repeat (refine' List.forall_mem_cons.mpr ⟨?memz, ?_⟩; (case memz => (repeat (first | exact List.Mem.head _ | refine' List.Mem.tail _ ?_))))); (intro p hp; (repeat refine' List.Mem.tail _ ?_); exact hp))); (case l => exact allLt_mem (by grind)); (case l2 => exact allLt_mem (by grind)); (case I => refine ints_as (by assumption) ?_; exact erase_made (by omega) (by omega)))
theorem row3 {w : World} {h₀ : Heap} {L fa : Nat} {mg mb : Str → Option Value} {mean : ExcName → Option Value} {E : Value → Shared → Prop} {Q : Value → Shared → Prop} {s : Shared}
  {m : Str → Option Value} {va pl : Int} {t0 t1 t2 : Nat} {rs : List Int} {vR : List Value} {nR : Nat} {rA : Nat} {news : List (Addr × Obj)}
  (X : (hd.heap_39 w.params).In h₀) (T : Top topProg LL mean mg mb h₀) (B : Below callerA h₀ [] h₀)
  (hR : IntsAre vR rs) (hlen : rs.length ≤ 63) (hpl : -3 ≤ pl ∧ pl ≤ (rs.length : Int) + 1)
  (F : Fr h₀ L s.heap m) (N : News h₀ L s.heap ((rA, W.listOf vR.toArray nR) :: news))
  (hres : ∀ t u h' tk, Fr h₀ L h' m → News h₀ L h' ((t, { cls := .type "tuple", data := .seq #[.int ((rs.filter (· == va)).length : Nat) u, .ref rA] }) :: (rA, W.listOf vR.toArray nR) :: news) → Q (.ref t) { s with heap := h', toks := tk })
  : wpAny (model PR w) (lawA L fa) (call (.ref 90) [.ref rA, .int 3 t0, .int pl t1, .int va t2]) Q E s := by
  unfold lawA lawEnv
  have hs : lawScope = lawScope := rfl
  conv at hs => rhs; whnf
  rw [hs]; clear hs
  show wpAny _ _ _ _ _ _
  w_top off
  k_steps
  all_goals first
    | (refine' hres _ _ _ _ ?F ?N; (case F => assumption); (case N => refine' kst_newsOf ?src ?sub; (case src => assumption); (case sub => (repeat (refine' List.forall_mem_cons.mpr ⟨?memz, ?_⟩; (case memz => (repeat (first | exact List.Mem.head _ | refine' List.Mem.tail _ ?_))))); (intro p hp; (repeat refine' List.Mem.tail _ ?_); exact hp))))
theorem row4 {w : World} {h₀ : Heap} {L fa : Nat} {mg mb : Str → Option Value} {mean : ExcName → Option Value} {E : Value → Shared → Prop} {Q : Value → Shared → Prop} {s : Shared}
  {m : Str → Option Value} {va pl : Int} {t0 t1 t2 : Nat} {rs : List Int} {vR : List Value} {nR : Nat} {rA : Nat} {news : List (Addr × Obj)}
  (X : (hd.heap_39 w.params).In h₀) (T : Top topProg LL mean mg mb h₀) (B : Below callerA h₀ [] h₀)
  (hR : IntsAre vR rs) (hlen : rs.length ≤ 63) (hpl : -3 ≤ pl ∧ pl ≤ (rs.length : Int) + 1)
  (F : Fr h₀ L s.heap m) (N : News h₀ L s.heap ((rA, W.listOf vR.toArray nR) :: news))
  (hres : ∀ t ws u h' tk, IntsAre ws (((List.range rs.length).map fun (j : Nat) => (j : Int)).filter fun k => rs.getD k.toNat 0 == va) → Fr h₀ L h' m → News h₀ L h' ((t, { cls := .type "tuple", data := .seq #[ws.headD (.str "none" u), .ref rA] }) :: (rA, W.listOf vR.toArray nR) :: news) → Q (.ref t) { s with heap := h', toks := tk })
  : wpAny (model PR w) (lawA L fa) (call (.ref 90) [.ref rA, .int 4 t0, .int pl t1, .int va t2]) Q E s := by
  unfold lawA lawEnv
  have hs : lawScope = lawScope := rfl
  conv at hs => rhs; whnf
  rw [hs]; clear hs
  show wpAny _ _ _ _ _ _
  w_top off
  k_steps
  all_goals first
    | (refine' hres _ _ _ _ _ ?I ?F ?N; (case F => assumption); (case N => refine' kst_newsOf ?src ?sub; (case src => assumption); (case sub => (repeat (refine' List.forall_mem_cons.mpr ⟨?memz, ?_⟩; (case memz => (repeat (first | exact List.Mem.head _ | refine' List.Mem.tail _ ?_))))); (intro p hp; (repeat refine' List.Mem.tail _ ?_); exact hp))); (case I => assumption))
end Mine
namespace Mine
open PySem PySem.W PyProof.Rows PySem.Calls PySem.Spec PyProof.V
section
variable {prog : Program} {w : World} {A : Around} {E : Value → Shared → Prop} {s : Shared} {h₀ : Heap} {L a b : Addr} {m : Str → Option Value} {news : List (Addr × Obj)} {Q : Value → Shared → Prop} {vs us : List Value} {ns : List Int} {n1 n2 : Nat}
theorem ne_same (N : News h₀ L s.heap news) (ha : (a, W.listOf (List.toArray vs) n1) ∈ news) (hb : (b, W.listOf (List.toArray us) n2) ∈ news) (hi : IntsAre vs ns) (hi' : IntsAre us ns) (hu : A.units + 64 < cLine)
    (h : Q (.bool false) s) : wpAny (model prog w) A (compareOp .NotEq (.ref a) (.ref b)) Q E s :=
  ne_intsK (PySem.IsL.isList (n := n1) (N _ ha).1) hi (PySem.IsL.isList (n := n2) (N _ hb).1) hi' hu (by simpa using h)
end
end Mine
namespace Mine
open PySem PySem.W PyProof.Rows PySem.Calls PySem.Spec PyProof.V
/-- held's items: ints with tokens of their own; one with the value's token is the value -/
def Items (va : Int) (tva tk : Nat) (vs : List Value) : Prop := ∀ x ∈ vs, ∃ i t, x = Value.int i t ∧ 0 < t ∧ t ≤ tk ∧ (t = tva → i = va)
theorem Items.more {va : Int} {tva tk tk' : Nat} {vs : List Value} (h : Items va tva tk vs) (le : tk ≤ tk') : Items va tva tk' vs := fun x hx => by
  obtain ⟨i, t, a, b, c, d⟩ := h x hx; exact ⟨i, t, a, b, Nat.le_trans c le, d⟩
theorem Items.set {va : Int} {tva tk : Nat} {vs : List Value} (h : Items va tva tk vs) (h0 : 0 < tva) (h1 : tva ≤ tk) (j : Nat) : Items va tva tk (vs.set j (.int va tva)) := fun x hx => by
  rcases List.mem_or_eq_of_mem_set hx with q | q
  · exact h x q
  · exact ⟨va, tva, q, h0, h1, fun _ => rfl⟩
theorem Items.erase {va : Int} {tva tk : Nat} {vs : List Value} (h : Items va tva tk vs) (j : Nat) : Items va tva tk (vs.eraseIdx j) := fun x hx => h x (List.mem_of_mem_eraseIdx hx)
theorem Items.snoc {va : Int} {tva tk : Nat} {vs : List Value} (h : Items va tva tk vs) (h0 : 0 < tva) (h1 : tva ≤ tk) : Items va tva tk (vs ++ [.int va tva]) := fun x hx => by
  rcases List.mem_append.mp hx with q | q
  · exact h x q
  · rw [List.mem_singleton.mp q]; exact ⟨va, tva, rfl, h0, h1, fun _ => rfl⟩
/-- an item list of the turns before, seen from a turn with a value of its own -/
theorem Items.fresh {va vb : Int} {tva tvb tk : Nat} {vs : List Value} (h : Items va tva tk vs) (hlt : tk < tvb) : Items vb tvb tk vs := fun x hx => by
  obtain ⟨i, t, a, b, c, d⟩ := h x hx; exact ⟨i, t, a, b, c, fun e => absurd c (by rw [e]; exact Nat.not_le.mpr hlt)⟩

/-- the law's cells and objects at a turn, sort, value and place told -/
inductive Mid (w : World) (h₀ : Heap) (L : Nat) (xs : List (Addr × Obj)) (n sr va pl : Int) (vk : Option Value) (rs : List Int) (DN DT : List (Str × Int)) (tk : Nat) (h : Heap) : Prop
  | mk {m : Str → Option Value} {t tsr tva tpl : Nat} {vR vH : List Value} {nR nH : Nat} {rA hA nA tA : Nat} {oV oT oP oK oH oN obN obT : Obj} {ps : Array Value} {cds : List (Addr × Obj)} {kN kT : List (Str × Value)}
    (hR : IntsAre vR rs) (hH : IntsAre vH rs) (hit : Items va tva tk vH) (hv0 : 0 < tva) (hv1 : tva ≤ tk)
    (iN : obN.IsDictOf (PySem.strKind PR w) kN) (fN : PyProof.V.FlatPairs PyData.str kN (kdpD DN)) (gN : (nA == sysModules) = false)
    (iT : obT.IsDictOf (PySem.strKind PR w) kT) (fT : PyProof.V.FlatPairs PyData.str kT (kdpD DT)) (gT : (tA == sysModules) = false)
    (F : Fr h₀ L h (fun y => if y = Str.ofString "row" then some (.ref rA) else if y = Str.ofString "sort" then some (.int sr tsr) else if y = Str.ofString "number" then some (.int n t) else m y))
    (N : News h₀ L h ((L+1+1+1+1+1+1, oV) :: (L+1+1+1+1+1, oT) :: (L+1+1+1+1, oP) :: (L+1+1+1, oK) :: (L+1+1, oH) :: (L+1, oN) :: (rA, W.listOf vR.toArray nR) :: (hA, W.listOf vH.toArray nH) :: (nA, obN) :: (tA, obT) :: (92, tabObj ps) :: cds))
    (dH : oH.data = .cell (some (.ref hA))) (dN : oN.data = .cell (some (.ref nA))) (dT : oT.data = .cell (some (.ref tA)))
    (dV : oV.data = .cell (some (.int va tva))) (dP : oP.data = .cell (some (.int pl tpl))) (dK : oK.data = .cell vk)
    (l1 : 92 < L) (l2 : L+1+1+1+1+1+1 < rA) (l3 : L+1+1+1+1+1+1 < hA) (l4 : hA < tA) (l5 : L+1+1+1+1+1+1 < nA) (l6 : rA ≠ hA) (l7 : rA ≠ tA) (l8 : nA ≠ hA) (l9 : nA ≠ tA) (l11 : rA ≠ nA) (l10 : ∀ p ∈ cds, tA < p.1)
    (hok : CodesOk xs (Str.ofString "law.<locals>.<lambda>") ps cds) : Mid w h₀ L xs n sr va pl vk rs DN DT tk h
theorem Mid.more {w : World} {h₀ : Heap} {L : Nat} {xs : List (Addr × Obj)} {n sr va pl : Int} {vk : Option Value} {rs : List Int} {DN DT : List (Str × Int)} {tk tk' : Nat} {h : Heap} (x : Mid w h₀ L xs n sr va pl vk rs DN DT tk h) (le : tk ≤ tk') : Mid w h₀ L xs n sr va pl vk rs DN DT tk' h := by
  cases x with
  | mk hR hH hit hv0 hv1 iN fN gN iT fT gT F N dH dN dT dV dP dK l1 l2 l3 l4 l5 l6 l7 l8 l9 l11 l10 hok => exact .mk hR hH (hit.more le) hv0 (Nat.le_trans hv1 le) iN fN gN iT fT gT F N dH dN dT dV dP dK l1 l2 l3 l4 l5 l6 l7 l8 l9 l11 l10 hok
theorem fr_hoist {h₀ h : Heap} {L : Nat} {f : Str → Option Value} {a b c : Str} {u v x : Value} (F : Fr h₀ L h f) (e1 : f a = some u) (e2 : f b = some v) (e3 : f c = some x) : Fr h₀ L h (fun y => if y = a then some u else if y = b then some v else if y = c then some x else f y) := by
  have : f = (fun y => if y = a then some u else if y = b then some v else if y = c then some x else f y) := by
    funext y
    split
    · rename_i e; rw [e, e1]
    · split
      · rename_i e; rw [e, e2]
      · split
        · rename_i e; rw [e, e3]
        · rfl
  rw [this] at F; exact F
theorem execs_app {M : Model} {A : Around} {env : Env} {E : Value → Shared → Prop} {Q : Flow → Shared → Prop} {l1 l2 : List Stmt} {s : Shared}
    (h : wpAny M A (execs l1 env) (fun f s' => match f with | .next => wpAny M A (execs l2 env) Q E s' | f => Q f s') E s) : wpAny M A (execs (l1 ++ l2) env) Q E s := by
  intro Γ p hΓ
  replace h := h Γ p hΓ
  induction l1 generalizing p s with
  | nil => exact h Γ p hΓ
  | cons st r ih =>
    rw [List.cons_append, execs_cons, Sem.wp_bind']
    rw [execs_cons, Sem.wp_bind'] at h
    refine Sem.wp_mono M Γ _ (fun f p' s' h' => ?_) (fun _ _ _ h' => h') _ _ h
    cases f with
    | next => exact ih _ h'
    | _ => exact h'
end Mine
namespace Mine
open PySem PySem.W PyProof.Rows PySem.Calls PySem.Spec PyProof.V
theorem is_ints' {M : Model} {A : Around} {E : Value → Shared → Prop} {s : Shared} {Q : Value → Shared → Prop} {p q : Int} {t u : Tok} (ht : t ≠ 0) (hu : u ≠ 0) (hp : smallInt q = true) (hne : t = u → p = q) (h : Q (.bool (p == q)) s) : wpAny M A (compareOp .Is (.int p t) (.int q u)) Q E s := by
  by_cases e : p = q
  · subst e; exact is_ints ht hu hp (fun x => absurd rfl x) h
  · show wpAny M A (do return .bool (← isSame (.int p t) (.int q u))) Q E s
    refine wpAny_bind ?_
    have h0 : (t == 0 || u == 0) = false := by
      rw [Bool.or_eq_false_iff]
      exact ⟨beq_eq_false_iff_ne.mpr ht, beq_eq_false_iff_ne.mpr hu⟩
    show wpAny M A (if (p == q && smallInt p) = true then isSame.cachedInt t u else isSame.created (p == q) t u) _ E s
    rw [if_neg (by simp [e])]
    unfold isSame.created
    rw [if_neg (by rw [h0]; decide)]
    have hb : (p == q) = false := beq_eq_false_iff_ne.mpr e
    rw [hb] at h ⊢
    rw [if_neg (by simpa using fun x => e (hne x))]
    exact wpAny_pure (wpAny_pure h)
local macro_rules | `(tactic| walk_at "compareOp Is int int") => `(tactic| (k_here; (with_reducible show wpAny _ _ (compareOp CmpOp.Is (Value.int _ _) (Value.int _ _)) _ _ _); k_dflt (refine is_ints' ?_ ?_ ?_ ?_ ?_; (assumption); (assumption); (assumption); (assumption))))
abbrev countEnv (L a : Addr) (cd : Value) : Env := envOf (Str.ofString "countOf") { kind := .function, names := [(Str.ofString "a", .local), (Str.ofString "b", .local), (Str.ofString "count", .local), (Str.ofString "i", .local)], isGenerator := false, isCoroutine := false } L a cd
theorem count_for {w : World} {A : Around} {E : Value → Shared → Prop} {Q : Flow → Shared → Prop} {s : Shared} {g : Heap} {L a l : Nat} {cd : Value} {m : Str → Option Value} {news : List (Addr × Obj)} {vs : List Value} {ns : List Int} {nn : Nat} {va : Int} {tva t0 tk : Nat}
  {p1 p2 p3 p4 p5 p6 p7 p8 p9 p10 p11 p12 p13 p14 : Pos}
  (hh : A.handled = none) (hm : (l, W.listOf vs.toArray nn) ∈ news) (hi : IntsAre vs ns) (hit : Items va tva tk vs) (hv0 : 0 < tva) (hva : 0 ≤ va ∧ va ≤ 6) (hlen : ns.length ≤ 63)
  (F : Fr g L s.heap (fun y => if y = Str.ofString "count" then some (.int 0 t0) else if y = Str.ofString "a" then some (.ref l) else if y = Str.ofString "b" then some (.int va tva) else m y)) (N : News g L s.heap news)
  (hQ : ∀ h' tk' t' (m' : Str → Option Value), Fr g L h' (fun y => if y = Str.ofString "count" then some (.int ((ns.filter (· == va)).length : Int) t') else m' y) → News g L h' news → Q .next { s with heap := h', toks := tk' })
  (hE : PassesOwn (model PR w) A (countEnv L a cd) E) :
  wpAny (model PR w) A (exec (.For (.Name (Str.ofString "i") p1) (.Name (Str.ofString "a") p2) [.If (.BoolOp .Or [.Compare (.Name (Str.ofString "i") p3) [.Is] [.Name (Str.ofString "b") p4] p5, .Compare (.Name (Str.ofString "i") p6) [.Eq] [.Name (Str.ofString "b") p7] p8] p9)
      [.AugAssign (.Name (Str.ofString "count") p10) .Add (.Constant (.int 1) 0 p11) p12] [] p13] [] p14) (countEnv L a cd)) Q E s := by
  refine For_invVF (h₀ := g) F (by rfl) (by rfl) ?_ (by intro _; rfl) hE
  w_top off
  iterate 1 (first | (k_unfold; (try dsimp only)) | (k_end; wrow_close) | walk1 | (dsimp only; walk1) | (leave1; try dsimp only))
  refine kdl_iter (J := fun i m' nx => nx = news ∧ ∃ m'' t, m' = fun y => if y = Str.ofString "count" then some (.int (((ns.take i).filter (· == va)).length : Int) t) else if y = Str.ofString "a" then some (.ref l) else if y = Str.ofString "b" then some (.int va tva) else m'' y) (vs := vs) (nn := nn) hh hm F N ⟨rfl, m, t0, rfl⟩ ?_ ?_
  · intro i v m₁ news₁ h tk₁ own hv hoff hl hJ F₁ N₁
    obtain ⟨rfl, m'', t, rfl⟩ := hJ
    obtain ⟨j, tj, rfl, hj0, _, hjv⟩ := hit v (List.mem_of_getElem? hv)
    have hi' : i < ns.length := by rw [← hi.length]; exact (List.getElem?_eq_some_iff.mp hv).1
    obtain ⟨t9, hx⟩ := hi.get i (ns[i]'hi') (List.getElem?_eq_getElem hi')
    have ej : j = ns[i]'hi' := by rw [hx] at hv; cases hv; rfl
    have es : ns.take (i + 1) = ns.take i ++ [j] := by rw [List.take_add_one, List.getElem?_eq_getElem hi', ej] <;> rfl
    have z1 : tj ≠ 0 := Nat.ne_of_gt hj0
    have z2 : tva ≠ 0 := Nat.ne_of_gt hv0
    have z3 : smallInt va = true := by simp [smallInt]; omega
    have hle : ((ns.take i).filter (· == va)).length ≤ 63 := Nat.le_trans (List.length_filter_le _ _) (Nat.le_trans (List.length_take_le _ _) (by omega))
    rw [es]
    w_top off
    iterate 6 (first | (k_unfold; (try dsimp only)) | (k_end; wrow_close) | walk1 | (dsimp only; walk1) | (leave1; try dsimp only))
    refine is_ints' ?_ ?_ ?_ ?_ ?_
    · assumption
    · assumption
    · assumption
    · assumption
    w_top off
    k_steps
    · have hz : j = va := by assumption
      have ec : (((ns.take i ++ [j]).filter (· == va)).length : Int) = ((ns.take i).filter (· == va)).length + 1 := by simp [List.filter_append, hz]
      rw [ec]
      refine InvEndG.intro (fr_hoist (a := Str.ofString "count") (b := Str.ofString "a") (c := Str.ofString "b") (by assumption) rfl rfl rfl) (by assumption) ⟨hl, rfl, _, _, rfl⟩ hoff (fun p hp => List.mem_append_left _ hp) (fun p hp => List.mem_append_right _ hp)
    · exact absurd (by assumption : j = va) (by assumption)
    · have hz : ¬ j = va := by assumption
      have ec : (((ns.take i ++ [j]).filter (· == va)).length : Int) = ((ns.take i).filter (· == va)).length := by simp [List.filter_append, hz]
      rw [ec]
      refine InvEndG.intro (fr_hoist (a := Str.ofString "count") (b := Str.ofString "a") (c := Str.ofString "b") F₁ rfl rfl rfl) N₁ ⟨hl, rfl, _, _, rfl⟩ hoff (fun p hp => List.mem_append_left _ hp) (fun p hp => List.mem_append_right _ hp)
  · rintro m₁ news₁ h tk₁ ⟨rfl, m'', t, rfl⟩ F₁ N₁
    rw [hi.length, List.take_length] at F₁
    exact hQ h tk₁ t _ F₁ N₁
end Mine
namespace Mine
open PySem PySem.W PyProof.Rows PySem.Calls PySem.Spec PyProof.V
/-- the turns of «for i, j in enumerate(list): … else: …», the list in the ledger, the ledger as it was -/
def EnumAt (prog : Program) (w : World) (A : Around) (env : Env) (target : Expr) (body orelse : List Stmt) (Q : Flow → Shared → Prop) (E : Value → Shared → Prop) (it : Value) (s : Shared) : Prop :=
  codeAny (model prog w) A (.forLoop target it body orelse env) (fun r s' => match r with | .ok f => Q f s' | .error e => cameBackBy (model prog w) A env E e s') s
section
variable {prog : Program} {w : World} {A : Around} {E : Value → Shared → Prop} {Q : Flow → Shared → Prop} {s : Shared} {env : Env} {g : Heap} {m : Str → Option Value} {news : List (Addr × Obj)}
theorem for_enum {target iter : Expr} {body orelse : List Stmt} {pos : Pos} (hs : ∀ x, foldedSetIterable iter env x = pure x)
    (h : wpAny (model prog w) A (eval iter env) (fun x s₁ => wpAny (model prog w) A (pyIter x) (fun it s₂ => EnumAt prog w A env target body orelse Q E it s₂) E s₁) E s) :
    wpAny (model prog w) A (exec (.For target iter body orelse pos) env) Q E s := wpAny_For h hs
theorem enum_turns {xi xc : Str} {pi pc pt : Pos} {x1 : Nat} {body orelse : List Stmt} {l : Addr} {vs : List Value} {nn : Nat} (J : Nat → (Str → Option Value) → Prop)
    (hh : A.handled = none) (hxi : env.kindOf xi = some .local) (hxc : env.kindOf xc = some .local) (hp : (env.scope.kind == .class || (env.scope.kind == .module && env.locals != env.globals)) = false)
    (hm : (l, W.listOf vs.toArray nn) ∈ news) (F : Fr g env.locals s.heap m) (N : News g env.locals s.heap news) (h0 : J 0 m) (hE : PassesOwn (model prog w) A env E)
    (step : ∀ i v t m₁ h tk, vs[i]? = some v → J i m₁ → Fr g env.locals h (fun y => if y = xc then some v else if y = xi then some (.int (i : Nat) t) else m₁ y) → News g env.locals h news →
      wpAny (model prog w) A (execs body env) (fun f s₂ => match f with
        | .next => ∃ m₂, s₂ = { s with heap := h, toks := s₂.toks } ∧ Fr g env.locals h m₂ ∧ J (i + 1) m₂
        | .ret v => Q (.ret v) s₂
        | _ => False) E { s with heap := h, toks := tk })
    (done : ∀ m₁ h tk, J vs.length m₁ → Fr g env.locals h m₁ → News g env.locals h news → wpAny (model prog w) A (execs orelse env) Q E { s with heap := h, toks := tk }) :
    wpAny (model prog w) A (call (.type "enumerate") [.ref l]) (fun x s₁ => wpAny (model prog w) A (pyIter x) (fun it s₂ => EnumAt prog w A env (.Tuple [.Name xi pi, .Name xc pc] x1 pt) body orelse Q E it s₂) E s₁) E s := by
  have hol := (N _ hm).1
  have hl : s.heap.IsList l vs.toArray := ⟨_, hol, rfl, nn, rfl⟩
  have hlt : l < s.heap.objs.size := Heap.lt_size hol
  have hLs : env.locals < s.heap.objs.size := F.ns.lt
  have hgn : ∀ b, s.heap.objs.size ≤ b → g.get? b = none := fun b hb => ktu_new F hb
  refine call_enumerate_list hl fun h' hE' hI hsz hk => ?_
  refine wpAny_pyIter_enum hE' ?_
  have W := WalksT.enumerate (prog := prog) (w := w) hh (s.heap.objs.size + 1) s.heap.objs.size l (Nat.succ_ne_self _) (Nat.ne_of_lt (Nat.lt_succ_of_lt hlt)) (Nat.ne_of_lt hlt) vs.toArray
  have hLf : ∀ b ∈ [s.heap.objs.size + 1, s.heap.objs.size, l], env.locals ≠ b := fun b hb e => by
    rcases List.mem_cons.mp hb with q | hb
    · exact Nat.ne_of_lt (Nat.lt_succ_of_lt hLs) (e.trans q)
    · rcases List.mem_cons.mp hb with q | hb
      · exact Nat.ne_of_lt hLs (e.trans q)
      · exact (N _ hm).2.1 ((List.mem_singleton.mp hb).symm.trans e.symm)
  have hwl : ∀ b o, s.heap.get? b = some o → b ∉ [s.heap.objs.size + 1, s.heap.objs.size] := fun b o e hb => by
    have := Heap.lt_size e
    rcases List.mem_cons.mp hb with q | hb
    · rw [q] at this; exact absurd this (Nat.not_lt.mpr (Nat.le_succ _))
    · rw [List.mem_singleton.mp hb] at this; exact absurd this (Nat.lt_irrefl _)
  have hgw : ∀ b o, g.get? b = some o → b ∉ [s.heap.objs.size + 1, s.heap.objs.size] := fun b o e => hwl b o (F.keep b o e)
  have hLw : env.locals ∉ [s.heap.objs.size + 1, s.heap.objs.size] := fun hb => hLf _ (by rcases List.mem_cons.mp hb with q | hb; rw [q]; exact List.mem_cons_self; rw [List.mem_singleton.mp hb]; simp) rfl
  have hnw : ∀ p ∈ news, p.1 ∉ [s.heap.objs.size + 1, s.heap.objs.size] := fun p hp => hwl _ _ (N p hp).1
  unfold EnumAt
  refine codeAny_forLoop_any
    (fun k s' => ∃ (h' : Heap) (tk : Nat) (m' : Str → Option Value) (i : Nat), s' = { s with heap := h', toks := tk } ∧ ((∃ old, IsEnum h' (s.heap.objs.size + 1) s.heap.objs.size i old) ∧ h'.IsListIter s.heap.objs.size l i ∧ h'.IsList l vs.toArray) ∧ Fr g env.locals h' m' ∧ News g env.locals h' news ∧ J i m' ∧ i ≤ vs.toArray.size ∧ k = vs.toArray.size + 1 - i) ?_ (vs.toArray.size + 1)
    ⟨h', s.toks, m, 0, rfl, ⟨⟨_, hE'⟩, hI, hl.at fun o e => hk _ _ e⟩, F.keeps hk, N.grown hk, h0, Nat.zero_le _, rfl⟩
  rintro k s' ⟨H, tk, m', i, rfl, hst', F', N', hJ, hi, rfl⟩
  have next : ∀ h₁ : Heap, (∀ b o, b ∉ [s.heap.objs.size + 1, s.heap.objs.size] → H.get? b = some o → h₁.get? b = some o) → Fr g env.locals h₁ m' ∧ News g env.locals h₁ news := fun h₁ hk₁ =>
    ⟨⟨F'.ns.at' fun o e => hk₁ _ o hLw e, fun b o e => hk₁ b o (hgw b o e) (F'.keep b o e), F'.above⟩, fun p hp => ⟨hk₁ _ _ (hnw p hp) (N' p hp).1, (N' p hp).2⟩⟩
  by_cases hlt : i < vs.toArray.size
  · refine W.item i _ _ _ hlt hst' fun T vals h₁ tk₁ hPt _ hT hMid hk₁ => ?_
    obtain ⟨t, v, hv, rfl⟩ := hPt
    refine W.go _ x1 pt i T _ _ _ hMid fun h₂ hst₂ hk₂ => ?_
    have ht₂ : h₂.IsTuple T #[.int i t, v] := hT.at fun o e => hk₂ T o (W.apart i T h₁ hMid) e
    refine wpAny_assign_Tuple hh ht₂ rfl rfl fun h₃ hx₃ => ?_
    replace hx₃ : Heap.ExtBut h₂.objs.size h₂ h₃ := hx₃
    have up₃ : ∀ b o, h₂.get? b = some o → h₃.get? b = some o := fun b o x => hx₃ b o (Nat.ne_of_lt (Heap.lt_size x)) x
    obtain ⟨F₃, N₃⟩ := next h₃ fun b o hb x => up₃ b o (hk₂ b o hb (hk₁ b o hb x))
    show wpAny _ A (do holding [v] (assign (.Name xi pi) env (.int i t)); do holding [] (assign (.Name xc pc) env v); pure ()) _ _ _
    refine wpAny_bind (wpAny_holding (wpAny_assign_Name (wpAny_storeName_local hxi F₃.ns (fun h₄ hn₄ hs₄ => ?_) hp)))
    replace hs₄ : Heap.SameBut env.locals h₃ h₄ := hs₄
    have F₄ := F₃.set hn₄ hs₄
    refine wpAny_bind (wpAny_holding (wpAny_assign_Name (wpAny_storeName_local hxc F₄.ns (fun h₅ hn₅ hs₅ => wpAny_pure ?_) hp)))
    replace hs₅ : Heap.SameBut env.locals h₄ h₅ := hs₅
    have F₅ := F₄.set hn₅ hs₅
    have N₅ : News g env.locals h₅ news := (N₃.set hs₄).set hs₅
    have hst₅ := W.frame _ _ _ hst₂ fun b hb o e => hs₅.extBut b o (fun q => hLf b hb q.symm) (hs₄.extBut b o (fun q => hLf b hb q.symm) (up₃ b o e))
    show wpAny _ A (execs body env) _ _ { s with heap := h₅, toks := _ }
    refine wpAny_mono (wpAny_passesOwn hE (step i v t m' h₅ _ (by simpa using hv) hJ F₅ N₅)) (fun f s₃ h₆ => ?_) fun _ _ e => e
    cases f with
    | ret v => exact h₆
    | brk => exact h₆.elim
    | cont => exact h₆.elim
    | next =>
      obtain ⟨m₂, e₆, F₆, hJ₆⟩ := h₆
      rw [e₆]
      exact ⟨vs.toArray.size + 1 - (i + 1), by omega, h₅, s₃.toks, m₂, i + 1, rfl, hst₅, F₆, N₅, hJ₆, hlt, rfl⟩
  · have hin : i = vs.toArray.size := by omega
    subst hin
    refine W.done _ _ _ hst' fun h₁ tk₁ hk₁ => ?_
    obtain ⟨F₁, N₁⟩ := next h₁ hk₁
    show wpAny _ A (execs orelse env) _ _ { s with heap := h₁, toks := tk₁ }
    exact wpAny_passesOwn hE (done m' h₁ tk₁ (by simpa using hJ) F₁ N₁)
end
end Mine
namespace Mine
open PySem PySem.W PyProof.Rows PySem.Calls PySem.Spec PyProof.V
/-- where a value stands first -/
def FirstAt (rs : List Int) (va : Int) (i : Nat) : Prop := rs[i]? = some va ∧ ∀ j, j < i → rs[j]? ≠ some va
theorem places_from {rs : List Int} {va : Int} : ∀ {l : List Nat} {i : Nat} {r : List Int}, ((l.map fun (j : Nat) => (j : Int)).filter fun k => rs.getD k.toNat 0 == va) = (i : Int) :: r →
    ∃ p q, l = p ++ i :: q ∧ rs.getD i 0 = va ∧ ∀ j ∈ p, rs.getD j 0 ≠ va := by
  intro l
  induction l with
  | nil => intro i r e; simp at e
  | cons a t ih =>
    intro i r e
    rw [List.map_cons, List.filter_cons] at e
    by_cases h : (rs.getD ((a : Int)).toNat 0 == va) = true
    · rw [if_pos h] at e
      have e1 := (List.cons.inj e).1
      have : a = i := by omega
      subst this
      exact ⟨[], t, rfl, by simpa using h, fun j hj => nomatch hj⟩
    · rw [if_neg h] at e
      obtain ⟨p, q, rfl, h1, h2⟩ := ih e
      refine ⟨a :: p, q, rfl, h1, fun j hj => ?_⟩
      rcases List.mem_cons.mp hj with rfl | hj
      · simpa using h
      · exact h2 j hj
theorem first_of {rs : List Int} {va : Int} {ws : List Value} (I : IntsAre ws (((List.range rs.length).map fun (j : Nat) => (j : Int)).filter fun k => rs.getD k.toNat 0 == va)) :
    (ws = [] ∧ va ∉ rs) ∨ ∃ (i : Nat) (t : Tok) (r : List Value), ws = .int i t :: r ∧ FirstAt rs va i := by
  cases hf : (((List.range rs.length).map fun (j : Nat) => (j : Int)).filter fun k => rs.getD k.toNat 0 == va) with
  | nil =>
    rw [hf] at I
    have hl := I.length
    refine .inl ⟨List.length_eq_zero_iff.mp hl, fun hm => ?_⟩
    obtain ⟨i, hi, e⟩ := List.mem_iff_getElem.mp hm
    have := List.filter_eq_nil_iff.mp hf (i : Int) (List.mem_map.mpr ⟨i, List.mem_range.mpr hi, rfl⟩)
    apply this
    simp [List.getD_eq_getElem?_getD, List.getElem?_eq_getElem hi, e]
  | cons k r =>
    have hk : k ∈ ((List.range rs.length).map fun (j : Nat) => (j : Int)).filter fun k => rs.getD k.toNat 0 == va := by rw [hf]; exact List.mem_cons_self
    obtain ⟨i, hi, rfl⟩ := List.mem_map.mp (List.mem_filter.mp hk).1
    obtain ⟨p, q, e, h1, h2⟩ := places_from hf
    rw [hf] at I
    obtain ⟨t, hx⟩ := I.get 0 (i : Int) (by simp)
    have hi' : i < rs.length := List.mem_range.mp hi
    refine .inr ⟨i, t, ws.tail, ?_, ?_, fun j hj => ?_⟩
    · cases ws with
      | nil => simp at hx
      | cons a b => simp at hx; rw [hx]; rfl
    · rw [List.getD_eq_getElem?_getD, List.getElem?_eq_getElem hi'] at h1
      rw [List.getElem?_eq_getElem hi']; simpa using h1
    · have hjp : j ∈ p := by
        have hz : (List.range rs.length)[p.length]? = some i := by rw [e]; simp
        have hz' : p.length = i := by
          rw [List.getElem?_range] at hz <;> first | exact Option.some.inj hz | skip
          all_goals (have := congrArg List.length e; simp at this; omega)
        have h3 : (List.range rs.length)[j]? = some j := List.getElem?_range (by omega)
        rw [e, List.getElem?_append_left (by omega)] at h3
        exact List.mem_of_getElem? h3
      have h4 := h2 j hjp
      intro h5
      apply h4
      rw [List.getD_eq_getElem?_getD, h5]; rfl
theorem row4b {w : World} {h₀ : Heap} {L fa : Nat} {mg mb : Str → Option Value} {mean : ExcName → Option Value} {E : Value → Shared → Prop} {Q : Value → Shared → Prop} {s : Shared}
  {m : Str → Option Value} {va pl : Int} {t0 t1 t2 : Nat} {rs : List Int} {vR : List Value} {nR : Nat} {rA : Nat} {news : List (Addr × Obj)}
  (X : (hd.heap_39 w.params).In h₀) (T : Top topProg LL mean mg mb h₀) (B : Below callerA h₀ [] h₀)
  (hR : IntsAre vR rs) (hlen : rs.length ≤ 63) (hpl : -3 ≤ pl ∧ pl ≤ (rs.length : Int) + 1)
  (F : Fr h₀ L s.heap m) (N : News h₀ L s.heap ((rA, W.listOf vR.toArray nR) :: news))
  (hnone : ∀ t u h' tk, va ∉ rs → Fr h₀ L h' m → News h₀ L h' ((t, { cls := .type "tuple", data := .seq #[.str "none" u, .ref rA] }) :: (rA, W.listOf vR.toArray nR) :: news) → Q (.ref t) { s with heap := h', toks := tk })
  (hfound : ∀ (i : Nat) t u h' tk, FirstAt rs va i → Fr h₀ L h' m → News h₀ L h' ((t, { cls := .type "tuple", data := .seq #[.int i u, .ref rA] }) :: (rA, W.listOf vR.toArray nR) :: news) → Q (.ref t) { s with heap := h', toks := tk })
  : wpAny (model PR w) (lawA L fa) (call (.ref 90) [.ref rA, .int 4 t0, .int pl t1, .int va t2]) Q E s := by
  refine row4 X T B hR hlen hpl F N fun t ws u h' tk I F' N' => ?_
  rcases first_of I with ⟨rfl, hn⟩ | ⟨i, t', r, rfl, hf⟩
  · exact hnone t u h' tk hn F' N'
  · exact hfound i t t' h' tk hf F' N'
end Mine
namespace Mine
open PySem PySem.W PyProof.Rows PySem.Calls PySem.Spec PyProof.V
abbrev indexEnv (L a : Addr) (cd : Value) : Env := envOf (Str.ofString "indexOf") { kind := .function, names := [(Str.ofString "a", .local), (Str.ofString "b", .local), (Str.ofString "i", .local), (Str.ofString "j", .local), (Str.ofString "enumerate", .globalImplicit), (Str.ofString "ValueError", .globalImplicit)], isGenerator := false, isCoroutine := false } L a cd
section
variable {w : World} {A : Around} {E : Value → Shared → Prop} {Q : Flow → Shared → Prop} {s : Shared} {g : Heap} {L a l : Nat} {cd : Value} {m : Str → Option Value} {news : List (Addr × Obj)} {vs : List Value} {ns : List Int} {nn : Nat} {va : Int} {tva tk : Nat}
  {p1 p2 p3 p4 p5 p6 p7 p8 p9 p10 p11 p12 p13 p14 : Pos}
/-- one turn's body -/
theorem index_body {j : Int} {tj ti i : Nat} {Q : Flow → Shared → Prop} (F : Fr g L s.heap (fun y => if y = Str.ofString "j" then some (.int j tj) else if y = Str.ofString "i" then some (.int i ti) else if y = Str.ofString "a" then some (.ref l) else if y = Str.ofString "b" then some (.int va tva) else m y)) (N : News g L s.heap news)
  (z1 : tj ≠ 0) (z2 : tva ≠ 0) (z3 : smallInt va = true) (z4 : tj = tva → j = va)
  (hy : j = va → ∀ tk, Q (.ret (.int i ti)) { s with toks := tk }) (hn : j ≠ va → ∀ tk, Q .next { s with toks := tk }) :
  wpAny (model PR w) A (execs [.If (.BoolOp .Or [.Compare (.Name (Str.ofString "j") p3) [.Is] [.Name (Str.ofString "b") p4] p5, .Compare (.Name (Str.ofString "j") p6) [.Eq] [.Name (Str.ofString "b") p7] p8] p9)
      [.Return (some (.Name (Str.ofString "i") p10)) p11] [] p13] (indexEnv L a cd)) Q E s := by
  w_top off
  iterate 6 (first | (k_unfold; (try dsimp only)) | (k_end; wrow_close) | walk1 | (dsimp only; walk1) | (leave1; try dsimp only))
  refine is_ints' z1 z2 z3 z4 ?_
  w_top off
  k_steps
  all_goals first
    | exact hy (by assumption) s.toks
    | exact absurd (by assumption : j = va) (by assumption)
    | exact hn (by assumption) s.toks
    | exact wpAny_execs_nil (hn (by assumption) s.toks)
theorem fr_hoist2 {h₀ h : Heap} {L : Nat} {f : Str → Option Value} {b c d e : Str} {x y u v : Value} (F : Fr h₀ L h (fun z => if z = d then some x else if z = e then some y else f z)) (e2 : f b = some u) (e3 : f c = some v) :
    Fr h₀ L h (fun z => if z = d then some x else if z = e then some y else if z = b then some u else if z = c then some v else f z) := by
  have : f = (fun z => if z = b then some u else if z = c then some v else f z) := by
    funext z
    split
    · rename_i q; rw [q, e2]
    · split
      · rename_i q; rw [q, e3]
      · rfl
  rw [this] at F; exact F
theorem index_call {x1 : Nat} {pt : Pos} {orelse : List Stmt} (hh : A.handled = none) (hm : (l, W.listOf vs.toArray nn) ∈ news) (hi : IntsAre vs ns) (hit : Items va tva tk vs) (hv0 : 0 < tva) (hva : 0 ≤ va ∧ va ≤ 6)
  (F : Fr g L s.heap m) (e1 : m (Str.ofString "a") = some (.ref l)) (e2 : m (Str.ofString "b") = some (.int va tva)) (N : News g L s.heap news) (hE : PassesOwn (model PR w) A (indexEnv L a cd) E)
  (helse : ∀ h' tk' m', va ∉ ns → Fr g L h' m' → News g L h' news → wpAny (model PR w) A (execs orelse (indexEnv L a cd)) Q E { s with heap := h', toks := tk' })
  (hret : ∀ (i : Nat) t h' tk' m', FirstAt ns va i → Fr g L h' m' → News g L h' news → Q (.ret (.int i t)) { s with heap := h', toks := tk' }) :
  wpAny (model PR w) A (call (.type "enumerate") [.ref l]) (fun x s₁ => wpAny (model PR w) A (pyIter x) (fun it s₂ => EnumAt PR w A (indexEnv L a cd) (.Tuple [.Name (Str.ofString "i") p1, .Name (Str.ofString "j") p2] x1 pt)
    [.If (.BoolOp .Or [.Compare (.Name (Str.ofString "j") p3) [.Is] [.Name (Str.ofString "b") p4] p5, .Compare (.Name (Str.ofString "j") p6) [.Eq] [.Name (Str.ofString "b") p7] p8] p9)
      [.Return (some (.Name (Str.ofString "i") p10)) p11] [] p13] orelse Q E it s₂) E s₁) E s := by
  refine enum_turns (fun i m₁ => m₁ (Str.ofString "a") = some (.ref l) ∧ m₁ (Str.ofString "b") = some (.int va tva) ∧ ∀ j, j < i → ns[j]? ≠ some va) hh (by rfl) (by rfl) (by rfl) hm F N ⟨e1, e2, fun j hj => absurd hj (Nat.not_lt_zero _)⟩ hE ?_ ?_
  · rintro i v t m₁ h tk₁ hv ⟨h1, h2, h3⟩ F₁ N₁
    obtain ⟨j, tj, rfl, hj0, _, hjv⟩ := hit v (List.mem_of_getElem? hv)
    have hi' : i < ns.length := by rw [← hi.length]; exact (List.getElem?_eq_some_iff.mp hv).1
    obtain ⟨t9, hx⟩ := hi.get i (ns[i]'hi') (List.getElem?_eq_getElem hi')
    have ej : ns[i]? = some j := by rw [List.getElem?_eq_getElem hi']; rw [hx] at hv; cases hv; rfl
    refine index_body (s := { s with heap := h, toks := tk₁ }) (fr_hoist2 F₁ h1 h2) N₁ (Nat.ne_of_gt hj0) (Nat.ne_of_gt hv0) (by simp [smallInt]; omega) hjv ?_ ?_
    · rintro rfl tk₂
      exact hret i t h tk₂ _ ⟨ej, h3⟩ F₁ N₁
    · intro hne tk₂
      refine ⟨_, rfl, F₁, ?_, ?_, fun k hk => ?_⟩
      · show (if _ then _ else if _ then _ else _) = _; rw [if_neg (by decide), if_neg (by decide)]; exact h1
      · show (if _ then _ else if _ then _ else _) = _; rw [if_neg (by decide), if_neg (by decide)]; exact h2
      · rcases Nat.lt_succ_iff_lt_or_eq.mp hk with q | rfl
        · exact h3 k q
        · rw [ej]; exact fun q => hne (Option.some.inj q)
  · rintro m₁ h tk₁ ⟨_, _, h3⟩ F₁ N₁
    refine helse h tk₁ m₁ (fun hm => ?_) F₁ N₁
    obtain ⟨i, hi', e⟩ := List.mem_iff_getElem.mp hm
    exact h3 i (by rw [hi.length]; exact hi') (by rw [List.getElem?_eq_getElem hi', e])
end
theorem first_absurd {rs : List Int} {va : Int} {i : Nat} (h : FirstAt rs va i) (hn : va ∉ rs) : False := hn (List.mem_of_getElem? h.1)
theorem first_same {rs : List Int} {va : Int} {i j : Nat} (h : FirstAt rs va i) (h' : FirstAt rs va j) : j = i := by
  rcases Nat.lt_trichotomy i j with q | q | q
  · exact absurd h.1 (h'.2 i q)
  · exact q.symm
  · exact absurd h'.1 (h.2 j q)
end Mine
namespace Mine
open PySem PySem.W PyProof.Rows PySem.Calls PySem.Spec PyProof.V
/-- held's items at a turn's head: ints, each with a mark of its own -/
def Items0 (tk : Nat) (vs : List Value) : Prop := ∀ x ∈ vs, ∃ i t, x = Value.int i t ∧ 0 < t ∧ t ≤ tk
theorem Items.zero {va : Int} {tva tk : Nat} {vs : List Value} (h : Items va tva tk vs) : Items0 tk vs := fun x hx => by
  obtain ⟨i, t, a, b, c, _⟩ := h x hx; exact ⟨i, t, a, b, c⟩
theorem Items0.more {tk tk' : Nat} {vs : List Value} (h : Items0 tk vs) (le : tk ≤ tk') : Items0 tk' vs := fun x hx => by
  obtain ⟨i, t, a, b, c⟩ := h x hx; exact ⟨i, t, a, b, Nat.le_trans c le⟩
theorem Items0.at {va : Int} {tva tk tk' : Nat} {vs : List Value} (h : Items0 tk vs) (hlt : tk < tva) (le : tva ≤ tk') : Items va tva tk' vs := fun x hx => by
  obtain ⟨i, t, a, b, c⟩ := h x hx
  exact ⟨i, t, a, b, Nat.le_trans c (Nat.le_trans (Nat.le_of_lt hlt) le), fun e => absurd c (by rw [e]; exact Nat.not_le.mpr hlt)⟩
/-- the law's cells and objects at a turn's head, the number told -/
inductive Head (w : World) (h₀ : Heap) (L : Nat) (xs : List (Addr × Obj)) (n : Int) (rs : List Int) (DN DT : List (Str × Int)) (tk : Nat) (h : Heap) : Prop
  | mk {m : Str → Option Value} {t : Nat} {vR vH : List Value} {nR nH : Nat} {rA hA nA tA : Nat} {oV oT oP oK oH oN obN obT : Obj} {ps : Array Value} {cds : List (Addr × Obj)} {kN kT : List (Str × Value)} {v1 v2 v3 : Option Value}
    (hR : IntsAre vR rs) (hH : IntsAre vH rs) (hit : Items0 tk vH)
    (iN : obN.IsDictOf (PySem.strKind PR w) kN) (fN : PyProof.V.FlatPairs PyData.str kN (kdpD DN)) (gN : (nA == sysModules) = false)
    (iT : obT.IsDictOf (PySem.strKind PR w) kT) (fT : PyProof.V.FlatPairs PyData.str kT (kdpD DT)) (gT : (tA == sysModules) = false)
    (F : Fr h₀ L h (fun y => if y = Str.ofString "number" then some (.int n t) else if y = Str.ofString "row" then some (.ref rA) else m y))
    (N : News h₀ L h ((L+1+1+1+1+1+1, oV) :: (L+1+1+1+1+1, oT) :: (L+1+1+1+1, oP) :: (L+1+1+1, oK) :: (L+1+1, oH) :: (L+1, oN) :: (rA, W.listOf vR.toArray nR) :: (hA, W.listOf vH.toArray nH) :: (nA, obN) :: (tA, obT) :: (92, tabObj ps) :: cds))
    (dH : oH.data = .cell (some (.ref hA))) (dN : oN.data = .cell (some (.ref nA))) (dT : oT.data = .cell (some (.ref tA)))
    (dV : oV.data = .cell v1) (dP : oP.data = .cell v2) (dK : oK.data = .cell v3)
    (q1 : 92 < L) (q2 : L+1+1+1+1+1+1 < rA) (q3 : L+1+1+1+1+1+1 < hA) (q4 : hA < tA) (q5 : L+1+1+1+1+1+1 < nA) (q6 : rA ≠ hA) (q7 : rA ≠ tA) (q8 : nA ≠ hA) (q9 : nA ≠ tA) (q11 : rA ≠ nA) (q10 : ∀ p ∈ cds, tA < p.1)
    (hok : CodesOk xs (Str.ofString "law.<locals>.<lambda>") ps cds) : Head w h₀ L xs n rs DN DT tk h
end Mine
namespace Mine
open PySem
theorem fm_facts (n d : Int) (hd : d ≠ 0) : n.fdiv d * d + n.fmod d = n ∧ ¬ n.fmod d * d < 0 ∧ ¬ ((if d < 0 then -d else d) ≤ if n.fmod d < 0 then -n.fmod d else n.fmod d) := by
  refine ⟨by rw [Int.mul_comm]; exact Int.mul_fdiv_add_fmod n d, ?_, ?_⟩
  · rcases Int.lt_or_gt_of_ne hd with h | h
    · have e : n.fmod d = -((-n).fmod (-d)) := by rw [Int.neg_fmod_neg]; omega
      have h1 := Int.fmod_nonneg_of_pos (-n) (show 0 < -d by omega)
      rw [e]
      have := Int.mul_nonneg h1 (show 0 ≤ -d by omega)
      rw [Int.neg_mul]; rw [Int.mul_neg] at this; omega
    · have := Int.mul_nonneg (Int.fmod_nonneg_of_pos n h) (Int.le_of_lt h); omega
  · rcases Int.lt_or_gt_of_ne hd with h | h
    · have e : n.fmod d = -((-n).fmod (-d)) := by rw [Int.neg_fmod_neg]; omega
      have h1 := Int.fmod_nonneg_of_pos (-n) (show 0 < -d by omega)
      have h2 := Int.fmod_lt_of_pos (-n) (show 0 < -d by omega)
      rw [e]; split <;> split <;> omega
    · have h1 := Int.fmod_nonneg_of_pos n h
      have h2 := Int.fmod_lt_of_pos n h
      split <;> split <;> omega
end Mine
namespace Mine
open PySem PySem.W PyProof.Rows PySem.Calls PySem.Spec PyProof.V
theorem plain_update_loop : plainId "dict.update.loop" = true := by decide +kernel
theorem entry_update_loop : entryFor table "dict.update.loop" = some Builtin.«dict.update.loop» := entryFor_of_fast (by kernel_rfl)
theorem list_keys_none : typeLookup (.type "list") (Str.ofString "keys") = pure none := by rw [typeLookup_type, builtinLookup_eq_fast]; kernel_rfl
section
variable {prog : Program} {w : World} {A : Around} {E : Value → Shared → Prop} {s : Shared}
theorem list_no_keys {a : Addr} {xs : Array Value} {k : Nat} {Q : Option Value → Shared → Prop}
    (hx : s.heap.get? a = some { cls := .type "list", dict := none, data := .seq xs k, slots := #[] }) (hA : A.handled = none)
    (h : ∀ h' tk, (∀ b o, s.heap.get? b = some o → h'.get? b = some o) → Q none { s with heap := h', toks := tk }) :
    wpAny (model prog w) A (getAttr? (.ref a) (Str.ofString "keys")) Q E s := by
  obtain ⟨hp, g, d, tk, os⟩ := s
  have hT : ∀ tk', (⟨hp, g, d, tk', os⟩ : Shared).TypeIs (.ref a) "list" := fun _ => ⟨_, hx, rfl⟩
  have f1 := sub_AttributeError
  have f3 := PySem.F.slot_list_getattribute.lookup
  have f4 := PySem.F.slot_list_getattribute.bind (.ref a)
  have f5 := am_list_getattr_none
  unfold getAttr? getAttrBy? getAttrBy
  repeat (any_goals (first | with_reducible assumption | with_reducible exact hT _ | ((with_reducible show wpAny _ _ (call (Value.builtin "list.__getattribute__") _ _) _ _ _); refine call_meets PySem.F.slot_list_getattribute (hT _) am_entry_list_getattribute (PySem.F.args_list_getattribute_2 _ _) (meets_getattribute_miss_list a xs k #[] (Str.ofString "keys") _ list_keys_none (by decide) (by decide)) ⟨hx, hA, fun h' tk' e hx' => ?_⟩) | wp_step))
  obtain ⟨t', u', he⟩ := hx'.there
  have hTe : ∀ tk'', (⟨h', g, d, tk'', os⟩ : Shared).TypeIs (.ref e) "AttributeError" := fun _ => ⟨_, he, rfl⟩
  show wpAny _ _ (getattributeRaised _ _ _ _ _ _ _) _ _ _
  unfold getattributeRaised
  repeat (any_goals (first | with_reducible assumption | with_reducible exact hTe _ | wp_step))
  exact h _ _ hx'.keeps
end
section
variable {prog : Program} {w : World} {K : Type} [DecidableEq K] {knd : KeyKind prog w K} {A : Around} {R : Result → Shared → Prop}
theorem dictOf_at {h h' : Heap} {a : Addr} {kvs : List (K × Value)} (hm : h.DictOf knd a kvs) (e : ∀ o, h.get? a = some o → h'.get? a = some o) : h'.DictOf knd a kvs :=
  let ⟨o, es, ep, ho, r⟩ := hm; ⟨o, es, ep, e _ ho, r⟩
def PairAt (knd : KeyKind prog w K) (d I : Addr) (h : Heap) (v : Value) (p : K × Value) : Prop := ∃ T key, v = .ref T ∧ T ≠ d ∧ T ≠ I ∧ knd.is p.1 key = true ∧ h.IsTuple T #[key, p.2]
theorem PairAt.keep {d I : Addr} {h h' : Heap} {v : Value} {p : K × Value} (x : PairAt knd d I h v p) (hk : ∀ b o, b ≠ d → b ≠ I → h.get? b = some o → h'.get? b = some o) : PairAt knd d I h' v p := by
  obtain ⟨T, key, e, h1, h2, h3, o, ho, hc⟩ := x
  exact ⟨T, key, e, h1, h2, h3, o, hk _ _ h1 h2 ho, hc⟩
theorem code_update_loop (hh : A.handled = none) {d I l : Addr} {items : Array Value} {kvs : List (K × Value)} {res : Value} (hlI : l ≠ I) (hdI : d ≠ I) (hdl : d ≠ l) (hsz : kvs.length ≤ sizeLine) (hlen : kvs.length = items.size) :
    ∀ (k i : Nat) (j : Int) (s : Shared), items.size - i = k → i ≤ items.size → s.heap.IsListIter I l i ∧ s.heap.IsList l items → s.heap.DictOf knd d (merged [] (kvs.take i)) →
    (∀ (j : Nat) (v : Value), items[j]? = some v → ∃ p : K × Value, kvs[j]? = some p ∧ PairAt knd d I s.heap v p) →
    (∀ h' tk, h'.DictOf knd d (merged [] kvs) → (∀ b o, b ≠ d → b ≠ I → s.heap.get? b = some o → h'.get? b = some o) → R (.ok (.ret res)) { s with heap := h', toks := tk }) →
    codeAny (model prog w) A (.builtin "dict.update.loop" ⟨[.ref d, .ref I, rawInt j, res], []⟩) R s := by
  have W := Walks.list (prog := prog) (w := w) (A := A.in1) hh I l hlI items
  intro k
  induction k with
  | zero =>
    intro i j s hk hi hst hd hP hR
    have hin : i = items.size := by omega
    subst hin
    refine codeAny_builtin entry_update_loop ?_
    rw [Around.under_plainId plain_update_loop _]
    show wpAny _ A.in1 (pyNext (.ref I) >>= _) _ _ s
    refine wpAny_bind (W.done s _ _ hst fun h' tk hk' => ?_)
    show wpAny _ A.in1 (Builtin.Dict.addKeywords d [] >>= fun _ => ret res) _ _ _
    refine wpAny_bind (wpAny_pure (wpAny_pure (hR h' tk ?_ ?_)))
    · rw [List.take_of_length_le (by omega)] at hd
      exact dictOf_at hd fun o e => hk' d o (by simpa using hdI) e
    · exact fun b o _ hb e => hk' b o (by simpa using hb) e
  | succ k ih =>
    intro i j s hk hi hst hd hP hR
    have hlt : i < items.size := by omega
    refine codeAny_builtin entry_update_loop ?_
    rw [Around.under_plainId plain_update_loop _]
    show wpAny _ A.in1 (pyNext (.ref I) >>= _) _ _ s
    refine wpAny_bind (W.item i s _ _ hlt hst fun v h' tk hv hst' hk' => ?_)
    obtain ⟨p, hp, T, key, rfl, hTd, hTI, hkey, o, ho, hc, n, hdat⟩ := hP i v hv
    have ho' := hk' T o (by simpa using hTI) ho
    refine wpAny_bind (wpAny_holding (wpAny_bind (wpAny_tryCatch ?_)))
    unfold Builtin.Dict.pairItems
    refine wpAny_bind (wpAny_typeOf (T := "tuple") ⟨o, ho', hc⟩ ?_)
    rw [if_pos (by decide)]
    refine wpAny_bind (wpAny_seqItems ho' hdat ?_)
    refine wpAny_pure ?_
    have hd' : h'.DictOf knd d (merged [] (kvs.take i)) := dictOf_at hd fun o e => hk' d o (by simpa using hdI) e
    show wpAny _ A.in1 (holding [key, p.2] (dictSet d key p.2)) _ _ _
    have hml : (merged [] (kvs.take i)).length ≤ sizeLine := by
      have e1 := merged_length_le [] (kvs.take i)
      have e2 : (kvs.take i).length ≤ kvs.length := by rw [List.length_take]; omega
      simp only [List.length_nil] at e1
      omega
    refine wpAny_holding (wpAny_dictSet_pairs (hsz := hml) hkey hd' fun h'' hd'' hs'' => ?_)
    have keep : ∀ b o, b ≠ d → b ≠ I → s.heap.get? b = some o → h''.get? b = some o := fun b o hbd hbI e => hs''.extBut b o hbd (hk' b o (by simpa using hbI) e)
    refine wpAny_pure ⟨plainId_quiet plain_update_loop _, ?_⟩
    refine ih (i + 1) (j + 1) _ (by omega) hlt ⟨hst'.1.at fun o e => hs''.extBut I o (Ne.symm hdI) e, hst'.2.at fun o e => hs''.extBut l o (Ne.symm hdl) e⟩ ?_ ?_ ?_
    · rw [merged_take_succ [] kvs i p hp]; exact hd''
    · intro j' v' hj'
      obtain ⟨p', hp', q⟩ := hP j' v' hj'
      exact ⟨p', hp', q.keep keep⟩
    · intro h3 tk3 hd3 hk3
      exact hR h3 tk3 hd3 fun b o hbd hbI e => hk3 b o hbd hbI (keep b o hbd hbI e)
end
section
variable {prog : Program} {w : World} {K : Type} [DecidableEq K] {knd : KeyKind prog w K} {A : Around} {E : Value → Shared → Prop} {s : Shared}
/-- dict(<a list of pairs>) -/
theorem call_dict_pairs {l : Addr} {n : Nat} {vs : List Value} {kvs : List (K × Value)} {Q : Value → Shared → Prop} (hh : A.handled = none) (hl : s.heap.get? l = some (W.listOf vs.toArray n)) (hsz : kvs.length ≤ sizeLine) (hlen : kvs.length = vs.length) (hnd : (kvs.map (·.1)).Nodup)
    (hP : ∀ (j : Nat) (v : Value), vs[j]? = some v → ∃ p : K × Value, kvs[j]? = some p ∧ ∃ T key, v = .ref T ∧ knd.is p.1 key = true ∧ s.heap.IsTuple T #[key, p.2])
    (h : ∀ h' tk, h'.DictOf knd s.heap.objs.size kvs → (∀ b o, s.heap.get? b = some o → h'.get? b = some o) → Q (.ref s.heap.objs.size) { s with heap := h', toks := tk }) :
    wpAny (model prog w) A (call (.type "dict") [.ref l]) Q E s := by
  refine callType_codes (Q₁ := fun obj s₁ => obj = .ref s.heap.objs.size ∧ s₁ = { s with heap := s.heap.push { cls := .type "dict", data := .dict #[] } }) PySem.F.kt_called_dict (PySem.F.kt_typeCall_dict_1 _) PySem.F.entry_dict_init (kt_code_dict_new _ ⟨rfl, rfl⟩) ?_
  rintro obj s₁ ⟨rfl, rfl⟩
  have hnew : (s.heap.push { cls := .type "dict", data := .dict #[] }).DictOf knd s.heap.objs.size [] := Heap.DictOf.new s.heap
  have hlt : l < s.heap.objs.size := Heap.lt_size hl
  have hl' : (s.heap.push { cls := .type "dict", data := .dict #[] }).get? l = some (W.listOf vs.toArray n) := Heap.get?_push_of_some _ hl
  have hdl : s.heap.objs.size ≠ l := fun e => absurd hlt (by rw [e]; exact Nat.lt_irrefl _)
  refine ⟨hnew.typeIs, PySem.F.args_dict_init_2 _ _, ?_⟩
  unfold Builtin.«dict.__init__»
  refine wpAny_bind ?_
  unfold Builtin.Dict.selfAndRest
  refine wpAny_bind (wpAny_notOrdered_dict hnew.typeIs ?_)
  show wpAny _ _ (pure (s.heap.objs.size, [Value.ref l])) _ _ _
  refine wpAny_pure ?_
  show wpAny _ _ (Builtin.Dict.updateFrom "dict.__init__" s.heap.objs.size (.ref l) [] .none) _ _ _
  unfold Builtin.Dict.updateFrom
  refine wpAny_bind (wpAny_typeOf (T := "list") ⟨_, hl', rfl⟩ ?_)
  rw [if_pos (by decide)]
  refine wpAny_bind (list_no_keys (A := A.in1.in1) hl' hh fun h1 tk1 hk1 => ?_)
  rw [if_pos (by rfl)]
  refine wpAny_bind (wpAny_rule (wpAny_bind ?_))
  have hl1 := hk1 _ _ hl'
  refine wpAny_pyIter_list (PySem.IsL.isList (n := n) hl1) ?_
  have hlt1 : ∀ b o, h1.get? b = some o → b ≠ h1.objs.size := fun b o e => Nat.ne_of_lt (Heap.lt_size e)
  have up : ∀ b o, (s.heap.push { cls := .type "dict", data := .dict #[] }).get? b = some o → (h1.push { cls := .type "list_iterator", data := .fields #[.ref l, .int 0 0] }).get? b = some o := fun b o e => Heap.get?_push_of_some _ (hk1 _ _ e)
  have hnew1 : (h1.push { cls := .type "list_iterator", data := .fields #[.ref l, .int 0 0] }).DictOf knd s.heap.objs.size [] := dictOf_at hnew fun o e => up _ _ e
  have hdlt : s.heap.objs.size ≠ h1.objs.size := by
    obtain ⟨o, _, _, ho, _⟩ := hnew
    exact hlt1 _ o (hk1 _ _ ho)
  refine wpAny_pure ⟨plainId_quiet plain_update_loop _, ?_⟩
  refine code_update_loop (knd := knd) (A := A.in1) (items := vs.toArray) (kvs := kvs) hh (hlt1 _ _ hl1) hdlt hdl hsz (by simpa using hlen) vs.toArray.size 0 0 _ (by omega) (Nat.zero_le _)
    ?_ ?_ ?_ ?_
  · exact ⟨⟨_, Heap.get?_push_size _ rfl, rfl, rfl⟩, (PySem.IsL.isList (n := n) hl1).push _⟩
  · exact hnew1
  · intro j v hj
    obtain ⟨p, hp, T, key, rfl, hkey, o, ho, hc⟩ := hP j v (by simpa using hj)
    have hTlt := Heap.lt_size ho
    refine ⟨p, hp, T, key, rfl, Nat.ne_of_lt hTlt, ?_, hkey, o, up _ _ (Heap.get?_push_of_some _ ho), hc⟩
    exact hlt1 T o (hk1 _ _ (Heap.get?_push_of_some _ ho))
  · intro h' tk hd' hk'
    rw [merged_nil_of_nodup kvs hnd] at hd'
    refine ⟨rfl, h h' tk hd' fun b o e => hk' b o (Nat.ne_of_lt (Heap.lt_size e)) ?_ (up _ _ (Heap.get?_push_of_some _ e))⟩
    exact hlt1 b o (hk1 _ _ (Heap.get?_push_of_some _ e))
end
end Mine
namespace Mine
open PySem PySem.W PyProof.Rows PySem.Calls PySem.Spec PyProof.V PyProof.Rows.LCg
abbrev tupOf (vs : List Value) : Obj := { cls := .type "tuple", data := .seq vs.toArray }
/-- a list of pairs (a text, an int), its tuples among «tups» -/
inductive PairRows (tups : List (Addr × Obj)) : List Value → List (Str × Int) → Prop
  | nil : PairRows tups [] []
  | cons {T : Addr} {t u : Tok} {k : Str} {x : Int} {ws : List Value} {c : List (Str × Int)} : (T, tupOf [.str k t, .int x u]) ∈ tups → PairRows tups ws c → PairRows tups (.ref T :: ws) ((k, x) :: c)
theorem PairRows.mono {a b : List (Addr × Obj)} (hs : ∀ p ∈ a, p ∈ b) {ws : List Value} {c : List (Str × Int)} (h : PairRows a ws c) : PairRows b ws c := by
  induction h with
  | nil => exact .nil
  | cons hm _ ih => exact .cons (hs _ hm) ih
theorem PairRows.snoc {tups : List (Addr × Obj)} {T : Addr} {t u : Tok} {k : Str} {x : Int} (hm : (T, tupOf [.str k t, .int x u]) ∈ tups) {ws : List Value} {c : List (Str × Int)} (h : PairRows tups ws c) : PairRows tups (ws ++ [.ref T]) (c ++ [(k, x)]) := by
  induction h with
  | nil => exact .cons hm .nil
  | cons hm' _ ih => exact .cons hm' ih
theorem PairRows.length {tups : List (Addr × Obj)} {ws : List Value} {c : List (Str × Int)} (h : PairRows tups ws c) : ws.length = c.length := by
  induction h with
  | nil => rfl
  | cons _ _ ih => simp [ih]
theorem PairRows.kvs {prog : Program} {w : World} {tups : List (Addr × Obj)} {ws : List Value} {c : List (Str × Int)} (h : PairRows tups ws c) :
    ∃ kvs : List (Str × Value), FlatPairs PyData.str kvs (kdpD c) ∧ kvs.length = ws.length ∧ kvs.map (·.1) = c.map (·.1) ∧
      ∀ (j : Nat) (v : Value), ws[j]? = some v → ∃ p : Str × Value, kvs[j]? = some p ∧ ∃ T key, v = .ref T ∧ (PySem.strKind prog w).is p.1 key = true ∧ (T, tupOf [key, p.2]) ∈ tups := by
  induction h with
  | nil => exact ⟨[], .nil, rfl, rfl, fun j v hj => by simp at hj⟩
  | @cons T t u k x ws c hm hr ih =>
    obtain ⟨kvs, f, l, e, hp⟩ := ih
    refine ⟨(k, .int x u) :: kvs, .cons (PyProof.V.Flat.int x u) f, by simp [l], by simp [e], fun j v hj => ?_⟩
    cases j with
    | zero =>
      have e' : Value.ref T = v := Option.some.inj hj
      exact ⟨_, rfl, T, .str k t, e'.symm, strKind_is prog w k t, hm⟩
    | succ j => exact hp j v hj
theorem del_snoc_same {c : List (Str × Int)} {i : Nat} {key : Str} {x : Int} (h : c[i]? = some (key, x)) : kdzDel (c.take (i + 1)) key = kdzDel (c.take i) key := by
  unfold kdzDel
  rw [List.take_add_one, h, List.filter_append]
  simp
theorem del_snoc_else {c : List (Str × Int)} {i : Nat} {key k : Str} {x : Int} (h : c[i]? = some (k, x)) (hne : k ≠ key) : kdzDel (c.take (i + 1)) key = kdzDel (c.take i) key ++ [(k, x)] := by
  unfold kdzDel
  rw [List.take_add_one, h, List.filter_append]
  simp [hne]
theorem look_at {c : List (Str × Int)} (hn : (c.map (·.1)).Nodup) {i : Nat} {k : Str} {x : Int} (h : c[i]? = some (k, x)) : kdpHas c k = true ∧ kdpLook c k 0 = x := by
  induction c generalizing i with
  | nil => simp at h
  | cons p c ih =>
    have hn' := List.nodup_cons.mp (by simpa using hn : (p.1 :: c.map (·.1)).Nodup)
    cases i with
    | zero =>
      have e : p = (k, x) := by simpa using h
      subst e
      exact ⟨by simp [kdpHas], by simp [kdpLook]⟩
    | succ i =>
      have h' : c[i]? = some (k, x) := by simpa using h
      obtain ⟨a, b⟩ := ih hn'.2 h'
      have hk : p.1 ≠ k := fun e => hn'.1 (e ▸ List.mem_map.mpr ⟨(k, x), List.mem_of_getElem? h', rfl⟩)
      refine ⟨by unfold kdpHas at a ⊢; simp [a], ?_⟩
      unfold kdpLook at b ⊢
      rw [List.find?_cons, decide_eq_false hk]
      exact b
theorem Off1.notMem {D : Addr} : ∀ {l : List (Addr × Obj)}, Off1 D l → ∀ p ∈ l, p.1 ≠ D
  | [], _, _, h => nomatch h
  | _ :: _, x, p, h => by
    rcases List.mem_cons.mp h with rfl | h
    · exact x.1
    · exact Off1.notMem x.2 p h
theorem CodesOk.wider {xs : List (Addr × Obj)} {q : Str} {ps : Array Value} {cds cds' : List (Addr × Obj)} (x : CodesOk xs q ps cds) (hs : ∀ p ∈ cds, p ∈ cds') : CodesOk xs q ps cds' :=
  ⟨x.1, (fun pos cv e => let ⟨c, oc, vs, t, a, b, d⟩ := x.2.1 pos cv e; ⟨c, oc, vs, t, a, hs _ b, d⟩), fun p hp => hs _ (x.2.2 p hp)⟩
section
variable {prog : Program} {w : World} {A : Around} {E : Value → Shared → Prop} {s : Shared} {h₀ : Heap} {L : Addr} {m : Str → Option Value} {news : List (Addr × Obj)}
/-- [(x, nm[x]) for x in nm if x != v], nm (a dict by texts, of ints) and v in cells -/
theorem comp_names {env : Env} {x v nm : Str} {p1 p2 p3 p4 p5 p6 p7 p8 p9 p10 pos : Pos} {kk : Nat} {scope : Scope} {cl : List (Str × Addr)} {cK cN nA : Addr} {oK oN obN : Obj} {key : Str} {tkey : Tok} {kN : List (Str × Value)} {c : List (Str × Int)} {Q : Value → Shared → Prop}
    (hh : A.handled = none) (F : Fr h₀ L s.heap m) (N : News h₀ L s.heap news)
    (hmN : (nA, obN) ∈ news) (iN : obN.IsDictOf (PySem.strKind prog w) kN) (fN : FlatPairs PyData.str kN (kdpD c)) (gN : (nA == sysModules) = false) (hz : c.length ≤ 64) (hnd : (c.map (·.1)).Nodup)
    (hmv : (cK, oK) ∈ news) (hdv : oK.data = .cell (some (.str key tkey))) (hmn : (cN, oN) ∈ news) (hdn : oN.data = .cell (some (.ref nA)))
    (hclos : closureFor scope env = pure cl) (hcell : ∀ y ∈ scope.names, y.2 ≠ .cell) (hkind : scope.kind = .function)
    (hnames : ∀ y ∈ scope.names, y.2 = .local → scope.names.lookup y.1 = some .local) (hx : scope.names.lookup x = some .local)
    (hks : ∀ C, (compEnvC scope cl C env).scope.kind = .function) (hkx : ∀ C, (compEnvC scope cl C env).kindOf x = some .local) (hkv : ∀ C, (compEnvC scope cl C env).kindOf v = some .cell) (hcv : cl.lookup v = some cK)
    (hkn : ∀ C, (compEnvC scope cl C env).kindOf nm = some .cell) (hcn : cl.lookup nm = some cN)
    (hdx : (x == ("__debug__" : Str)) = false) (hdbv : (v == ("__debug__" : Str)) = false) (hdbn : (nm == ("__debug__" : Str)) = false)
    (hiter : ∀ Q : Value → Shared → Prop, Q (.ref nA) s → wpAny (model prog w) A (eval (.Name nm p7) env) Q E s)
    (h : ∀ D ws n' h' tk tups, Fr h₀ L h' m → News h₀ L h' ((D, W.listOf (List.toArray ws) n') :: (tups ++ news)) → (∀ p ∈ news, p.1 ≠ D) → PairRows tups ws (kdzDel c key) → (∀ q ∈ tups, ∀ p ∈ news, p.1 < q.1) → ws.length ≤ 64 → Q (.ref D) { s with heap := h', toks := tk })
    (hs : ∀ z, foldedSetIterable (.Name nm p7) env z = pure z) :
    wpAny (model prog w) A (eval (.ListComp (.Tuple [.Name x p1, .Subscript (.Name nm p2) (.Name x p3) p4] kk p5) [⟨.Name x p6, .Name nm p7, [.Compare (.Name x p8) [.NotEq] [.Name v p9] p10], 0⟩] scope pos) env) Q E s := by
  rw [eval_ListComp]
  refine wpAny_comprehension_free (use := none) rfl hs hclos hkind hnames (hiter _ ?_)
  obtain ⟨ep, hat⟩ := KdkAt.of iN
  have hlen : kN.length = c.length := by rw [← fN.length, kdpD_length]
  have hnlt : nA < s.heap.objs.size := Heap.lt_size (N _ hmN).1
  have hne : nA ≠ s.heap.objs.size := Nat.ne_of_lt hnlt
  refine wpAny_pyIter_dict gN (hat.dictAt (N _ hmN).1) ?_
  have up : ∀ b o, s.heap.get? b = some o → (s.heap.push { cls := .type "dict_keyiterator", data := .fields #[.ref nA, .int 0 0, .int kN.length 0, .int ep 0] }).get? b = some o := fun b o e => Heap.get?_push_of_some _ e
  have main : ∀ g : Heap, ∀ (k i : Nat) (ys : List Value) (tups : List (Addr × Obj)), i + k = c.length → PairRows tups ys (kdzDel (c.take i) key) → (∀ q ∈ tups, ∀ p ∈ news, p.1 < q.1) →
      LCt.CompRestT prog w A h₀ L m env (.Compare (.Name x p8) [.NotEq] [.Name v p9] p10) (.Tuple [.Name x p1, .Subscript (.Name nm p2) (.Name x p3) p4] kk p5) x scope cl { s with heap := g } (fun nw => (nA, obN) ∈ nw) (fun i v => ∃ k x, kN[i]? = some (k, x) ∧ (PySem.strKind prog w).is k v = true)
        (fun ys nw => ∃ tups, nw = tups ++ news ∧ PairRows tups ys (kdzDel c key) ∧ (∀ q ∈ tups, ∀ p ∈ news, p.1 < q.1)) k i ys (tups ++ news) := by
    intro g k
    induction k with
    | zero =>
      intro i ys tups hi pr ap
      have hi' : i = c.length := by omega
      refine LCt.CompRestT.zero ⟨tups, rfl, ?_, ap⟩
      rw [hi', List.take_length] at pr
      exact pr
    | succ k ih =>
      intro i ys tups hi pr ap
      refine LCt.CompRestT.succ ?_
      rintro vv I oI C oC D m₂ h tk E' ⟨k', x', hkx', hkis⟩ hC hmx F' N' off' ne'
      obtain ⟨t, rfl⟩ := Value.isStrOf_shape hkis
      have hci : ∃ n, c[i]? = some (k', n) := by
        obtain ⟨dv, hd, _⟩ := fN.at hkx'
        have hd' : (c[i]?).map (fun p => (PyData.str p.1, PyData.int p.2)) = some (PyData.str k', dv) := by rw [← List.getElem?_map]; exact hd
        cases hcj : c[i]? with
        | none => rw [hcj] at hd'; cases hd'
        | some p =>
          rw [hcj] at hd'
          have e1 : PyData.str p.1 = PyData.str k' := congrArg Prod.fst (Option.some.inj hd')
          injection e1 with e1
          exact ⟨p.2, by rw [← e1]⟩
      obtain ⟨n, hci⟩ := hci
      obtain ⟨hhas, hlook⟩ := look_at hnd hci
      have hn : h.Ns C m₂ := hC.ns (N' _ (.tail _ (.head _))).1
      have sub : ∀ p ∈ news, p ∈ (I, oI) :: (C, oC) :: (D, lst ys) :: (tups ++ news) := fun p hp => .tail _ (.tail _ (.tail _ (List.mem_append_right _ hp)))
      refine wpAny_isTrue_Compare1 (wpAny_Name (wpAny_loadName_local (hks C) (hkx C) hn hmx (lcf_cell N' hcv (sub _ hmv) hdv (PyProof.Rows.ne_str ?_) (hks C) (hkv C) hdbv)) hdx)
      refine wpAny_of_eq (by rfl : truthy (.bool (k' != key)) = pure (k' != key)) ?_
      by_cases e : k' = key
      · rw [if_neg (by simp [e])]
        refine CompEnd.intro F' N' (tups ++ news) (fun p hp => hp) off' (List.mem_append_right _ hmN) (ih (i + 1) ys tups (by omega) ?_ ap)
        rw [del_snoc_same (e ▸ hci)]
        exact pr
      · rw [if_pos (by simpa using e)]
        refine Tuple_ (wpAny_items_cons (wpAny_Name (wpAny_loadName_local (hks C) (hkx C) hn hmx ?_) hdx) rfl)
        refine wpAny_items_cons (Subscript_ (lcf_cell N' hcn (sub _ hmn) hdn (wpAny_Name (wpAny_loadName_local (hks C) (hkx C) hn hmx ?_) hdx) (hks C) (hkn C) hdbn)) rfl
        refine kdp_item (c := c) ⟨gN, kN, Heap.dictOf_iff.mpr ⟨obN, (N' _ (sub _ hmN)).1, iN⟩, fN⟩ hhas ?_
        intro t'
        rw [hlook]
        refine wpAny_items_nil (newTuple_N F' N' (fun h' F'' N'' => ?_) (by rw [sizeLine_eq]; simp))
        have hT : ∀ p ∈ (I, oI) :: (C, oC) :: (D, lst ys) :: (tups ++ news), p.1 < h.objs.size := fun p hp => Heap.lt_size (N' p hp).1
        refine CompEnd.intro F'' N'' ((h.objs.size, tupOf [.str k' t, .int n t']) :: (tups ++ news)) (fun p hp => ?_) ?_ (.tail _ (List.mem_append_right _ hmN)) ?_
        · simp only [List.mem_cons] at hp ⊢
          rcases hp with a | a | a | a | a
          · exact .inr (.inl a)
          · exact .inr (.inr (.inl a))
          · exact .inr (.inr (.inr (.inl a)))
          · exact .inl a
          · exact .inr (.inr (.inr (.inr a)))
        · refine ⟨⟨fun z => ?_, fun z => ?_, fun z => ?_⟩, off'⟩
          · exact Nat.lt_irrefl _ (z ▸ hT _ (.head _))
          · exact Nat.lt_irrefl _ (z ▸ hT _ (.tail _ (.head _)))
          · exact Nat.lt_irrefl _ (z ▸ hT _ (.tail _ (.tail _ (.head _))))
        · refine ih (i + 1) (ys ++ [.ref h.objs.size]) ((h.objs.size, tupOf [.str k' t, .int n t']) :: tups) (by omega) ?_ ?_
          · rw [del_snoc_else hci e]
            exact (pr.mono fun p hp => .tail _ hp).snoc (.head _)
          · intro q hq p hp
            rcases List.mem_cons.mp hq with rfl | hq
            · exact hT p (sub p hp)
            · exact ap q hq p hp
  refine LCt.block_T (S := fun nw => (nA, obN) ∈ nw) (Walks.dictKeys (knd := PySem.strKind prog w) hh s.heap.objs.size nA hne kN ep) (by rw [hlen, sizeLine_eq]; omega) (fun i h st => by obtain ⟨o, e, _⟩ := st.1; exact ⟨o, e⟩) (fun i h h' o nw st e e' k N S => ?_) hcell hkind hx ?_ (fun b hb => ?_)
    (F.keeps up) (N.grown up) (Nat.ne_of_lt F.ns.lt) (next_is_new F) (fun p hp => Nat.ne_of_lt (Heap.lt_size (N p hp).1)) hmN (by rw [hlen]; exact main _ c.length 0 [] [] (by omega) .nil (fun q hq => nomatch hq)) ?_
  · exact ⟨by obtain ⟨o', q, r⟩ := st.1; rw [e] at q; cases q; exact ⟨o, e', r⟩, hat.dictAt (N _ S).1⟩
  · exact ⟨⟨_, Heap.get?_push_size _ rfl, rfl, rfl⟩, hat.dictAt (up _ _ (N _ hmN).1)⟩
  · show b < (s.heap.push _).objs.size
    rw [Heap.size_push]
    rcases List.mem_cons.mp hb with rfl | hb
    · exact Nat.lt_succ_self _
    · rw [List.mem_singleton.mp hb]; exact Nat.lt_succ_of_lt hnlt
  · rintro D C h1 tk m' ys news' F' N' o1 hn hC₀ hD₀ hCL hDL hCD offC ⟨tups, rfl, pr, ap⟩
    refine ⟨m', hn, fun h'' hs'' => h D ys ys.length h'' tk tups (F'.change hs'' hCL hC₀) (fun p hp => ?_) (fun p hp => ?_) pr ap ?_⟩
    · refine ⟨hs''.extBut _ _ ?_ (N' p hp).1, (N' p hp).2⟩
      rcases List.mem_cons.mp hp with rfl | hp
      · exact Ne.symm hCD
      · exact offC p hp
    · intro z
      have z' : p.1 = D := z
      have := Off1.notMem o1 _ (List.mem_append_right tups hp)
      exact this z'
    · rw [pr.length]; exact Nat.le_trans (kdzDel_len c key) hz
/-- the same, the ledger's tail grown by the tuples -/
theorem comp_namesT {xs : List (Addr × Obj)} {env : Env} {x v nm : Str} {p1 p2 p3 p4 p5 p6 p7 p8 p9 p10 pos : Pos} {kk : Nat} {scope : Scope} {cl : List (Str × Addr)} {cK cN nA P lo : Addr} {oK oN obN : Obj} {key : Str} {tkey : Tok} {kN : List (Str × Value)} {c : List (Str × Int)} {Q : Value → Shared → Prop}
    {cds : List (Addr × Obj)} {g : Obj → List (Addr × Obj) → List (Addr × Obj)} {qual : Str} {ps : Array Value}
    (hh : A.handled = none) (F : Fr h₀ L s.heap m) (N : News h₀ L s.heap news) (U : UpdT P (tabObj ps) cds news g) (Ok : CodesOk xs qual ps cds) (hlo : ∀ q ∈ cds, lo < q.1) (hl : ∃ q ∈ news, q.1 = lo)
    (hmN : (nA, obN) ∈ news) (iN : obN.IsDictOf (PySem.strKind prog w) kN) (fN : FlatPairs PyData.str kN (kdpD c)) (gN : (nA == sysModules) = false) (hz : c.length ≤ 64) (hnd : (c.map (·.1)).Nodup)
    (hmv : (cK, oK) ∈ news) (hdv : oK.data = .cell (some (.str key tkey))) (hmn : (cN, oN) ∈ news) (hdn : oN.data = .cell (some (.ref nA)))
    (hclos : closureFor scope env = pure cl) (hcell : ∀ y ∈ scope.names, y.2 ≠ .cell) (hkind : scope.kind = .function)
    (hnames : ∀ y ∈ scope.names, y.2 = .local → scope.names.lookup y.1 = some .local) (hx : scope.names.lookup x = some .local)
    (hks : ∀ C, (compEnvC scope cl C env).scope.kind = .function) (hkx : ∀ C, (compEnvC scope cl C env).kindOf x = some .local) (hkv : ∀ C, (compEnvC scope cl C env).kindOf v = some .cell) (hcv : cl.lookup v = some cK)
    (hkn : ∀ C, (compEnvC scope cl C env).kindOf nm = some .cell) (hcn : cl.lookup nm = some cN)
    (hdx : (x == ("__debug__" : Str)) = false) (hdbv : (v == ("__debug__" : Str)) = false) (hdbn : (nm == ("__debug__" : Str)) = false)
    (hiter : ∀ Q : Value → Shared → Prop, Q (.ref nA) s → wpAny (model prog w) A (eval (.Name nm p7) env) Q E s)
    (h : ∀ (D : Nat) ws n' h' tk cds', Fr h₀ L h' m → News h₀ L h' ((D, W.listOf (List.toArray ws) n') :: g (tabObj ps) cds') → (@Ne Nat cN D) → PairRows cds' ws (kdzDel c key) → CodesOk xs qual ps cds' → (∀ q ∈ cds', lo < q.1) → ws.length ≤ 64 → Q (.ref D) { s with heap := h', toks := tk })
    (hs : ∀ z, foldedSetIterable (.Name nm p7) env z = pure z) :
    wpAny (model prog w) A (eval (.ListComp (.Tuple [.Name x p1, .Subscript (.Name nm p2) (.Name x p3) p4] kk p5) [⟨.Name x p6, .Name nm p7, [.Compare (.Name x p8) [.NotEq] [.Name v p9] p10], 0⟩] scope pos) env) Q E s := by
  refine comp_names hh F N hmN iN fN gN hz hnd hmv hdv hmn hdn hclos hcell hkind hnames hx hks hkx hkv hcv hkn hcn hdx hdbv hdbn hiter (fun D ws n' h' tk tups F' N' off pr ap le => ?_) hs
  obtain ⟨pre, rfl, hg, _, _⟩ := U.split
  obtain ⟨ql, hql, rfl⟩ := hl
  refine h D ws n' h' tk (tups ++ cds) F' (fun q hq => N' q ?_) (off _ hmn) (pr.mono fun p hp => List.mem_append_left _ hp) (Ok.wider fun p hp => List.mem_append_right _ hp) (fun q hq => ?_) le
  · rcases List.mem_cons.mp hq with rfl | hq
    · exact .head _
    · rw [hg] at hq
      refine .tail _ ?_
      rcases List.mem_append.mp hq with hq | hq
      · exact List.mem_append_right _ (List.mem_append_left _ hq)
      · rcases List.mem_cons.mp hq with rfl | hq
        · exact List.mem_append_right _ (List.mem_append_right _ (.head _))
        · rcases List.mem_append.mp hq with hq | hq
          · exact List.mem_append_left _ hq
          · exact List.mem_append_right _ (List.mem_append_right _ (.tail _ hq))
  · rcases List.mem_append.mp hq with hq | hq
    · exact ap q hq _ hql
    · exact hlo q hq
/-- dict(<a list of pairs>), the pairs in the ledger -/
theorem dict_rows {l : Addr} {n : Nat} {ws : List Value} {c : List (Str × Int)} {Q : Value → Shared → Prop} (hh : A.handled = none) (F : Fr h₀ L s.heap m) (N : News h₀ L s.heap news) (hbig : h₀.NoLimit) (hl : (l, W.listOf (List.toArray ws) n) ∈ news)
    (pr : PairRows news ws c) (hnd : (c.map (·.1)).Nodup) (hz : ws.length ≤ 65)
    (h : ∀ (d : Nat) h' tk o kvs, Fr h₀ L h' m → News h₀ L h' ((d, o) :: news) → (∀ p ∈ news, p.1 < d) → (d == sysModules) = false → o.IsDictOf (PySem.strKind prog w) kvs → FlatPairs PyData.str kvs (kdpD c) → Q (.ref d) { s with heap := h', toks := tk }) :
    wpAny (model prog w) A (call (.type "dict") [.ref l]) Q E s := by
  obtain ⟨kvs, fl, len, ek, hp⟩ := pr.kvs (prog := prog) (w := w)
  refine call_dict_pairs (knd := PySem.strKind prog w) (kvs := kvs) hh (N _ hl).1 (by rw [len, sizeLine_eq]; omega) len (by rw [ek]; exact hnd) (fun j v hj => ?_) fun h' tk hd hk => ?_
  · obtain ⟨p, h1, T, key, e, h2, h3⟩ := hp j v hj
    exact ⟨p, h1, T, key, e, h2, tupOf [key, p.2], (N _ h3).1, rfl, 0, rfl⟩
  · obtain ⟨o, ho, hio⟩ := Heap.dictOf_iff.mp hd
    have lt : ∀ p ∈ news, p.1 < s.heap.objs.size := fun p hp => Heap.lt_size (N p hp).1
    refine h s.heap.objs.size h' tk o kvs (F.keeps hk) (fun p hp => ?_) lt (F.notModules (modules_low hbig)) hio fl
    rcases List.mem_cons.mp hp with rfl | hp
    · exact ⟨ho, Ne.symm (Nat.ne_of_lt F.ns.lt), next_is_new F⟩
    · exact ⟨hk _ _ (N p hp).1, (N p hp).2⟩
end
end Mine
namespace Mine
open PySem PySem.W PyProof.Rows PySem.Calls PySem.Spec PyProof.V
/-- two dicts that tell the same, whatever their order -/
def Same (DN DT : List (Str × Int)) : Prop := (DN.map (·.1)).Nodup ∧ DN.Perm DT
theorem Same.nodupT {DN DT : List (Str × Int)} (h : Same DN DT) : (DT.map (·.1)).Nodup := (h.2.map _).nodup_iff.mp h.1
theorem Same.length {DN DT : List (Str × Int)} (h : Same DN DT) : DT.length = DN.length := h.2.length_eq.symm
theorem has_mem {c : List (Str × Int)} {k : Str} : kdpHas c k = true ↔ k ∈ c.map (·.1) := by
  unfold kdpHas
  rw [List.any_eq_true, List.mem_map]
  exact ⟨fun ⟨p, hp, e⟩ => ⟨p, hp, of_decide_eq_true e⟩, fun ⟨p, hp, e⟩ => ⟨p, hp, decide_eq_true e⟩⟩
theorem Same.has {DN DT : List (Str × Int)} (h : Same DN DT) (k : Str) : kdpHas DT k = kdpHas DN k := by
  rw [Bool.eq_iff_iff, has_mem, has_mem]
  exact ((h.2.map _).mem_iff).symm
theorem look_mem {c : List (Str × Int)} (hn : (c.map (·.1)).Nodup) {k : Str} {x : Int} (h : (k, x) ∈ c) : kdpHas c k = true ∧ kdpLook c k 0 = x := by
  obtain ⟨i, hi, e⟩ := List.getElem_of_mem h
  exact look_at hn (i := i) (by rw [List.getElem?_eq_getElem hi, e])
theorem mem_look {c : List (Str × Int)} (hn : (c.map (·.1)).Nodup) {k : Str} (h : kdpHas c k = true) : (k, kdpLook c k 0) ∈ c := by
  obtain ⟨⟨k', x⟩, hp, rfl⟩ := List.mem_map.mp (has_mem.mp h)
  rw [(look_mem hn hp).2]; exact hp
theorem Same.look {DN DT : List (Str × Int)} (h : Same DN DT) {k : Str} (hk : kdpHas DN k = true) : kdpLook DT k 0 = kdpLook DN k 0 :=
  (look_mem h.nodupT (h.2.mem_iff.mp (mem_look h.1 hk))).2
theorem del_absent {c : List (Str × Int)} {k : Str} (h : kdpHas c k = false) : kdzDel c k = c := by
  unfold kdzDel
  rw [List.filter_eq_self]
  intro p hp
  have : ¬ p.1 = k := fun e => by
    have := has_mem.mpr (List.mem_map.mpr ⟨p, hp, e⟩)
    rw [h] at this; cases this
  simp [this]
theorem del_nodup {c : List (Str × Int)} {k : Str} (h : (c.map (·.1)).Nodup) : ((kdzDel c k).map (·.1)).Nodup := h.sublist ((List.filter_sublist (l := c)).map _)
theorem del_not {c : List (Str × Int)} {k : Str} : k ∉ (kdzDel c k).map (·.1) := by
  intro h
  obtain ⟨p, hp, e⟩ := List.mem_map.mp h
  have := (List.mem_filter.mp hp).2
  simp [e] at this
theorem put_nodup {c : List (Str × Int)} {k : Str} {x : Int} (h : (c.map (·.1)).Nodup) : ((kdzDel c k ++ [(k, x)]).map (·.1)).Nodup := by
  rw [List.map_append, List.nodup_append]
  refine ⟨del_nodup h, by simp, fun a ha b hb e => ?_⟩
  have hb' : b = k := by simpa using hb
  exact del_not (hb' ▸ e ▸ ha)
theorem put_perm {k : Str} {x : Int} : ∀ {c : List (Str × Int)}, (c.map (·.1)).Nodup → (kdpPut c k x).Perm (kdzDel c k ++ [(k, x)])
  | [], _ => by simp [kdpPut, kdzDel]
  | (k', y) :: c, h => by
    have h' := List.nodup_cons.mp (by simpa using h : (k' :: c.map (·.1)).Nodup)
    have ih := put_perm (k := k) (x := x) (c := c) h'.2
    by_cases e : k' = k
    · subst e
      have hno : kdpHas c k' = false := by
        rw [Bool.eq_false_iff]; intro q; exact h'.1 (has_mem.mp q)
      have e1 : kdpPut ((k', y) :: c) k' x = (k', x) :: c := by
        unfold kdpPut
        rw [if_pos (by simp)]
        simp only [List.map_cons, decide_true, if_true]
        congr 1
        refine (List.map_congr_left fun p hp => ?_).trans (List.map_id c)
        have : ¬ p.1 = k' := fun e => h'.1 (e ▸ List.mem_map.mpr ⟨p, hp, rfl⟩)
        simp [this]
      have e2 : kdzDel ((k', y) :: c) k' = c := by
        have := del_absent hno
        unfold kdzDel at this ⊢
        simp only [List.filter_cons, decide_true, Bool.not_true, Bool.false_eq_true, if_false]
        exact this
      rw [e1, e2]
      exact (List.perm_append_comm (l₁ := [(k', x)]) (l₂ := c))
    · have e1 : kdpPut ((k', y) :: c) k x = (k', y) :: kdpPut c k x := by
        unfold kdpPut
        simp only [List.any_cons, decide_eq_false e, Bool.false_or]
        split
        · simp [e]
        · simp
      have e2 : kdzDel ((k', y) :: c) k = (k', y) :: kdzDel c k := by
        unfold kdzDel
        simp [e]
      rw [e1, e2]
      exact ih.cons _
theorem Same.put {DN DT : List (Str × Int)} (h : Same DN DT) (k : Str) (x : Int) : Same (kdzDel DN k ++ [(k, x)]) (kdpPut DT k x) :=
  ⟨put_nodup h.1, (((h.2.filter _).append_right _).trans (put_perm h.nodupT).symm)⟩
theorem Same.del {DN DT : List (Str × Int)} (h : Same DN DT) (k : Str) : Same (kdzDel DN k) (kdzDel DT k) := ⟨del_nodup h.1, h.2.filter _⟩
theorem Same.del_no {DN DT : List (Str × Int)} (h : Same DN DT) {k : Str} (hk : kdpHas DN k = false) : Same (kdzDel DN k) DT := by
  rw [del_absent hk]; exact h
theorem rows_same {Db : List (Str × Int)} (hn : (Db.map (·.1)).Nodup) : ∀ {Da : List (Str × Int)}, (∀ p ∈ Da, p ∈ Db) → KeqRows (kdpD Db) (kdpD Da) true
  | [], _ => .nil
  | (k, x) :: Da, h => by
    obtain ⟨a, b⟩ := look_mem hn (h _ (.head _))
    have e : PySem.Spec.lookup (PyData.str k) (kdpD Db) = some (PyData.int x) := by rw [kdpD_item a, b]
    have r := KeqRows.hit (v := PyData.int x) e (rows_same hn (Da := Da) fun p hp => h p (.tail _ hp))
    have e2 : (PyData.eqv (PyData.int x) (PyData.int x) && true) = true := by simp [PyData.eqv]
    rw [e2] at r
    exact r
theorem Same.rows {DN DT : List (Str × Int)} (h : Same DN DT) : KeqRows (kdpD DN) (kdpD DT) true := rows_same h.1 fun _ hp => h.2.mem_iff.mpr hp
end Mine
namespace Mine
open PySem PySem.W PyProof.Rows PySem.Calls PySem.Spec PyProof.V
section
variable {prog : Program} {w : World} {A : Around} {E : Value → Shared → Prop} {s : Shared} {h₀ : Heap} {L d : Addr} {m : Str → Option Value} {news : List (Addr × Obj)} {o : Obj} {kvs : List (Str × Value)} {c : List (Str × Int)} {k : Str} {tk : Tok} {x : Int}
theorem in_told {b : Bool} {Q : Value → Shared → Prop} (T : StrTab prog w s.heap d (kdpD c)) (hk : kdpHas c k = b) (h : Q (.bool b) { s with toks := s.toks + 1 }) : wpAny (model prog w) A (compareOp .In (.str k tk) (.ref d)) Q E s :=
  kdp_in T (by rw [hk]; exact h)
theorem item_told {value slice : PySem.Expr} {Q : Value → Shared → Prop} (T : StrTab prog w s.heap d (kdpD c)) (hk : kdpHas c k = true) (hl : kdpLook c k 0 = x) (h : ∀ t, Q (.int x t) { s with toks := s.toks + 1 })
    (hs : subscripted slice false (.ref d) (.str k tk) = operate [.ref d, .str k tk] (getItem (.ref d) (.str k tk)) := by with_unfolding_all rfl) (hg : ∀ r, letTemporaryGo value (.ref d) r = pure () := by intro _; with_unfolding_all rfl) :
    wpAny (model prog w) A (subscriptTail value slice (.ref d) (.str k tk)) Q E s :=
  kdp_item T hk (by rw [hl]; exact h) hs hg
theorem item_gone {value slice : PySem.Expr} {Q : Value → Shared → Prop} (hh : A.handled = none) (T : StrTab prog w s.heap d (kdpD c)) (hk : kdpHas c k = false) (h : ∀ h' tk' e, Heap.NewExc s.heap h' e "KeyError" → E (.ref e) { s with heap := h', toks := tk' })
    (hs : subscripted slice false (.ref d) (.str k tk) = operate [.ref d, .str k tk] (getItem (.ref d) (.str k tk)) := by with_unfolding_all rfl) (hg : ∀ r, letTemporaryGo value (.ref d) r = pure () := by intro _; with_unfolding_all rfl) :
    wpAny (model prog w) A (subscriptTail value slice (.ref d) (.str k tk)) Q E s :=
  item_strTab_missing T hh (kdpD_none hk) (fun h' e x => h h' _ e x) hs hg
theorem del_gone {Q : Unit → Shared → Prop} (hh : A.handled = none) (T : StrTab prog w s.heap d (kdpD c)) (hk : kdpHas c k = false) (h : ∀ h' tk' e, Heap.NewExc s.heap h' e "KeyError" → E (.ref e) { s with heap := h', toks := tk' }) :
    wpAny (model prog w) A (delItem (.ref d) (.str k tk)) Q E s := by
  obtain ⟨lo, kvs, hd, hf⟩ := T
  exact delItem_missing (strKind_is prog w k tk) lo hh hd (hf.none_of_lookup PyProof.V.same_str (kdpD_none hk)) fun h' e x => h h' _ e x
theorem get_told {dv : Value} {Q : Value → Shared → Prop} {dd : PyData} (T : StrTab prog w s.heap d (kdpD c)) (hk : kdpHas c k = true) (hd : Flat dv dd) (h : ∀ t, Q (.int (kdpLook c k 0) t) { s with toks := s.toks + 1 }) :
    wpAny (model prog w) A (call (.builtin "dict.get") [.ref d, .str k tk, dv]) Q E s :=
  call_get2_strTab T hd fun v hv => by
    rw [kdpD_item hk] at hv
    obtain ⟨t, ht⟩ := PyProof.V.Flat.int_inv hv
    rw [ht]
    exact h t
theorem get_gone {y : Str} {ty : Tok} {Q : Value → Shared → Prop} (T : StrTab prog w s.heap d (kdpD c)) (hk : kdpHas c k = false) (h : ∀ t, Q (.str y t) { s with toks := s.toks + 1 }) :
    wpAny (model prog w) A (call (.builtin "dict.get") [.ref d, .str k tk, .str y ty]) Q E s :=
  call_get2_strTab T (PyProof.V.Flat.str y ty) fun v hv => by
    rw [kdpD_none hk] at hv
    obtain ⟨t, ht⟩ := PyProof.V.Flat.str_inv hv
    rw [ht]
    exact h t
end
end Mine
namespace Mine
open PySem PySem.W PyProof.Rows PySem.Calls PySem.Spec PyProof.V
section
variable {prog : Program} {w : World} {A : Around} {E : Value → Shared → Prop} {s : Shared} {a b : Addr} {DN DT : List (Str × Int)}
theorem dicts_same {Q : Value → Shared → Prop} (T : StrTab prog w s.heap a (kdpD DT)) (U : StrTab prog w s.heap b (kdpD DN)) (hS : Same DN DT) (hu : A.units < cLine) (h : Q (.bool false) s) :
    wpAny (model prog w) A (compareOp .NotEq (.ref a) (.ref b)) Q E s :=
  kne_tabs (r := true) PyProof.V.same_str T U (by rw [kdpD_length, kdpD_length, hS.length]) hu hS.rows h
end
end Mine
namespace Mine
open PySem PySem.W PyProof.Rows PySem.Calls PySem.Spec PyProof.V
theorem fn_no_len : typeLookup (.type "function") (Str.ofString "__len__") = pure none := am_miss_of_fast (by kernel_rfl)
theorem fn_no_hint : typeLookup (.type "function") (Str.ofString "__length_hint__") = pure none := am_miss_of_fast (by kernel_rfl)
theorem type_no_hint : typeLookup (.type "type") (Str.ofString "__length_hint__") = pure none := am_miss_of_fast (by kernel_rfl)
section
variable {prog : Program} {w : World} {A : Around} {E : Value → Shared → Prop} {s : Shared}
theorem len_fn {f : Addr} {Q : Value → Shared → Prop} (hh : A.handled = none) (hT : s.TypeIs (.ref f) "function") (hE : ∀ h' tk e, Heap.NewExc s.heap h' e "TypeError" → E (.ref e) { s with heap := h', toks := tk }) :
    wpAny (model prog w) A (call (.builtin "len") [.ref f]) Q E s := by
  refine call_function_entry kind_len plain_len entry_len (args_len1 _) ?_
  unfold Builtin.«len»
  refine wpAny_bind (m := oneArg "len" _) (wpAny_pure ?_)
  refine wpAny_bind (m := callSpecial? (.ref f) (Str.ofString "__len__")) (wpAny_callSpecial?_none hT fn_no_len ?_)
  refine wpAny_bind (wpAny_rule (wpAny_bind (wpAny_typeNameOf' hT (by decide) ?_)))
  exact wpAny_raiseTypeError (A := A.in1) hh hE (by rw [sizeLine_eq]; decide)
end
structure NewAny (h h' : Heap) (e : Addr) (cls : String) : Prop where
  keeps : ∀ b o, h.get? b = some o → h'.get? b = some o
  new : h.get? e = none
  there : ∃ ob vs tp, h'.get? e = some ob ∧ ob.cls = .type cls ∧ ob.data = .fields vs ∧ vs[0]? = some tp ∧ vs[1]? = some .none
theorem NewAny.of {h h' : Heap} {e : Addr} {cls : String} (x : Heap.NewExc h h' e cls) : NewAny h h' e cls :=
  ⟨x.keeps, x.new, by obtain ⟨ob, t, he, hc, hd⟩ := x.there; exact ⟨ob, _, t, he, hc, hd, rfl, rfl⟩⟩
section
variable {M : Model} {A : Around} {E : Value → Shared → Prop} {s' : Shared} {base g h : Heap} {outer : List Env} {L a e : Addr} {m : Str → Option Value} {name : Str} {scope : Scope} {cd : Value} {Q : Unit → Shared → Prop} {news : List (Addr × Obj)}
/-- an exception that the interpreter raises in the frame whose own try takes it -/
theorem noted_new {cls : String} (K : Below A base outer g) (hx : NewAny h s'.heap e cls) (F : Fr g L h m) (N : News g L h news)
    (hQ : ∀ G h', Fr g L G m → RaisedSN base G (envOf name scope L a cd :: outer) e (.type cls) news h' → G.UpToSlots h' → Q () { s' with heap := h' }) (hk : scope.kind = .function := by rfl) :
    wpAny M (A.deeper (envOf name scope L a cd)) (noteFrame (.ref e) (envOf name scope L a cd)) (fun _ s₂ => wpAny M (A.deeper (envOf name scope L a cd)) (setFlight (.ref e) none) Q E s₂) E s' := by
  have K' := K.push (name := name) (a := a) (cd := cd) F hk
  have hin : ∀ env ∈ (envOf name scope L a cd :: outer), ∀ b, env.frame = some b → b ∈ (envOf name scope L a cd :: outer).filterMap (·.frame) := fun env he b hb => List.mem_filterMap.mpr ⟨env, he, hb⟩
  have st : base.StaysIn (hideAll h ((envOf name scope L a cd :: outer).filterMap (·.frame))) := fun b o q => hideAll_get _ (K'.stays b o q) fun hm => by
    rw [(K'.frames.mem hm).1] at q; cases q
  have hl : ∀ q ∈ news, (hideAll h ((envOf name scope L a cd :: outer).filterMap (·.frame))).get? q.1 = some q.2 ∧ g.get? q.1 = none ∧ base.get? q.1 = none := fun q hq => by
    refine ⟨hideAll_get _ (N q hq).1 fun hm => ?_, (N q hq).2.2, fresh_of_stays K.stays (N q hq).2.2⟩
    obtain ⟨env, he, hf⟩ := List.mem_filterMap.mp hm
    rcases List.mem_cons.mp he with rfl | he
    · exact (N q hq).2.1 (Option.some.inj hf).symm
    · obtain ⟨o, ho, _⟩ := (K.frames.mem (List.mem_filterMap.mpr ⟨env, he, hf⟩)).2
      rw [(N q hq).2.2] at ho; cases ho
  obtain ⟨ob, vs, tp, he, hcls, hd, h0, h1⟩ := hx.there
  have hen : (hideAll h ((envOf name scope L a cd :: outer).filterMap (·.frame))).get? e = none := by
    cases q : (hideAll h ((envOf name scope L a cd :: outer).filterMap (·.frame))).get? e with
    | none => rfl
    | some o => have := of_hideAll _ q; rw [hx.new] at this; cases this
  unfold noteFrame
  have hf : (envOf name scope L a cd).frame = some L := rfl
  simp only [hf]
  refine wpAny_bind (wpAny_field he hd (x := .none) h1 ?_)
  rw [if_neg (by decide)]
  refine wpAny_newEntryW (a0 := tp) K'.stack ((funFrames_hide K'.frames hin).of_keeps fun b o hb _ => ⟨o, hx.keeps b o hb, rfl⟩) rfl he (fun b o hb => hx.keeps b o (of_hideAll _ hb)) hen hd (Array.getElem?_eq_some_iff.mp h1).1 h0 fun h' hL => ?_
  obtain ⟨k1, k2, k3, k4⟩ := hL
  have hnL : L ∉ news.map (·.1) := fun hm => by
    obtain ⟨q, hq, e'⟩ := List.mem_map.mp hm
    exact (N q hq).2.1 e'
  refine hQ (hideAll h (news.map (·.1))) h' ⟨F.ns.at' fun o q => hideAll_get _ q hnL, fun b o q => hideAll_get _ (F.keep b o q) fun hm => ?_, F.above⟩
    ⟨_, tp, st, fun b o q nm => hideAll_get _ (of_hideAll _ q) nm, fun q hq => ⟨(hl q hq).1, hideAll_none _ (List.mem_map_of_mem hq), (hl q hq).2.2⟩, k1, hen, k2, by rw [← hcls]; exact k3⟩
    (((Heap.UpToSlots.of_keeps fun b o q => of_hideAll _ q).trans (Heap.UpToSlots.of_keeps hx.keeps)).trans k4)
  obtain ⟨q', hq, e'⟩ := List.mem_map.mp hm
  rw [← e', (N q' hq).2.2] at q; cases q
end
end Mine
namespace Mine
open PySem PySem.W PyProof.Rows PySem.Calls PySem.Spec PyProof.V
section
variable {prog : Program} {w : World} {A : Around} {E : Value → Shared → Prop} {s : Shared}
theorem type_fn {f : Addr} {o : Obj} {Q : Value → Shared → Prop} (ho : s.heap.get? f = some o) (hc : o.cls = .type "function") (h : Q (.type "function") s) : wpAny (model prog w) A (call (.type "type") [.ref f]) Q E s :=
  kto_cont ⟨o, ho, hc⟩ (by decide) h
theorem type_getattr_none : typeLookup (.type "type") "__getattr__" = pure none := by rw [typeLookup_type, builtinLookup_eq_fast]; kernel_rfl
theorem raiseErrStr_attr {α : Type} {msg : Str} {Q : α → Shared → Prop} (hh : A.handled = none)
    (h : ∀ h' tk' e t, (∀ b o, s.heap.get? b = some o → h'.get? b = some o) → s.heap.get? e = none → h'.get? e = some { cls := .type "AttributeError", data := .fields #[t, .none, .none, .none, .bool false, .none, unsetMember, unsetMember] } → E (.ref e) { s with heap := h', toks := tk' })
    (hm : msg.length ≤ sizeLine) : wpAny (model prog w) A (raiseErrorStr "AttributeError" msg : Sem α) Q E s := by
  unfold raiseErrorStr
  refine wpAny_bind (wpAny_mkStr (wpAny_bind ?_) hm)
  unfold newExc newTuple
  refine wpAny_bind (wpAny_newObj_type ?_ (by size_fits))
  refine wpAny_bind (m := firstArgMember _ _) (wpAny_of_eq (a := Value.none) (by simp only [firstArgMember, attrError_no_first]; rfl) ?_)
  rw [ownMembersOf_AttributeError]
  refine wpAny_newObj_type ?_ (by size_fits)
  unfold raiseNew
  refine wpAny_bind (wpAny_handled ?_)
  rw [hh]
  first
    | refine wpAny_throw ?_
    | refine wpAny_bind (wpAny_pure (wpAny_throw ?_))
  exact h _ _ _ _ (fun b o hb => Heap.get?_push_of_some _ (Heap.get?_push_of_some _ hb)) (Heap.get?_none_of_le (by simp)) (Heap.get?_push_size _ rfl)
theorem fn_hint_entry {tk : Nat} {Q : Fin → Shared → Prop} (hh : A.handled = none)
    (h : ∀ h' tk' e t, (∀ b o, s.heap.get? b = some o → h'.get? b = some o) → s.heap.get? e = none → h'.get? e = some { cls := .type "AttributeError", data := .fields #[t, .none, .none, .none, .bool false, .none, unsetMember, unsetMember] } → E (.ref e) { s with heap := h', toks := tk' }) :
    wpAny (model prog w) A (Builtin.«type.__getattribute__» ⟨[.type "function", .str (Str.ofString "__length_hint__") tk], []⟩) Q E s := by
  obtain ⟨hp, g, d, tk0, os⟩ := s
  have hT : ∀ tk', (⟨hp, g, d, tk', os⟩ : Shared).TypeIs (.type "function") "type" := fun _ => kitMeta_of (by rfl)
  have f1 := fn_no_hint
  have f2 := type_no_hint
  have f3 : opaqueClassAbove (.type "function") = pure none := by unfold opaqueClassAbove; dsimp only; rw [show Manifest.isStub "function" = false from by decide +kernel]; rfl
  have hm : ((Manifest.find? "function").elim "type" fun x => x.metatype) = "type" := by decide +kernel
  have f4 : typeLookup (Value.type ((Manifest.find? "function").elim "type" fun x => x.metatype)) (Str.ofString "__length_hint__") = pure none := by rw [hm]; exact type_no_hint
  repeat (any_goals (first | assumption | exact hT _ | refine raiseErrStr_attr hh h (by decide +kernel) | wp_step))
theorem fn_hint {Q : Value → Shared → Prop} (hh : A.handled = none)
    (hE : ∀ h' tk' e, NewAny s.heap h' e "AttributeError" → E (.ref e) { s with heap := h', toks := tk' }) :
    wpAny (model prog w) A (getAttr (.type "function") (Str.ofString "__length_hint__") true) Q E s := by
  obtain ⟨hp, g, d, tk, os⟩ := s
  have hT : ∀ tk', (⟨hp, g, d, tk', os⟩ : Shared).TypeIs (.type "function") "type" := fun _ => kitMeta_of (by rfl)
  have f1 := sub_AttributeError
  have f3 := KF.slot_tga.lookup
  have f4 := KF.slot_tga.bind (.type "function")
  have f5 := type_getattr_none
  unfold getAttr getAttrBy
  repeat (any_goals (first | with_reducible assumption | with_reducible exact hT _ | ((with_reducible show wpAny _ _ (call (Value.builtin "type.__getattribute__") _ _) _ _ _); refine wpAny_call_entry KF.slot_tga (hT _) KF.entry_tga (fn_hint_entry hh fun h' tk' e t hk hn he => ?_) (KF.args_tga _ _)) | ((with_reducible show wpAny _ _ (typeOf (Value.type "function")) _ _ _); refine wpAny_typeOf (T := "type") (hT _) ?_) | wp_step))
  refine hE _ _ e ⟨fun b o hb => (Heap.get?_update_other _ _ fun z => ?_).trans (hk b o hb), hn, _, _, t, Heap.get?_update_self _ he rfl, rfl, rfl, rfl, rfl⟩
  rw [← z] at hb; rw [show hp.get? e = none from hn] at hb; cases hb
end
end Mine
namespace Mine
open PySem PySem.W PyProof.Rows PySem.Calls PySem.Spec PyProof.V
local macro_rules | `(tactic| k_all) => `(tactic| (refine cds_ne (by assumption) (leN ?_); (try dsimp only); omega))
local macro_rules | `(tactic| k_updF) => `(tactic| first | (refine' UpdT.head ?a; (case a => k_all)) | (refine' UpdT.tail ?a ?b; (case a => k_ne); (case b => k_updF)))
local macro_rules | `(tactic| walk_at "eval Lambda") => `(tactic| (k_here; k_dflt (refine' kla_eval ?d0 ?_; (case d0 => exact rfl)); (k_dflt (refine' lam_any ?F ?N ?T ?C ?cd ?U ?Ok ?hlo ?hl ?cl ?_; (case F => k_asm); (case N => k_asm); (case T => k_asm); (case cd => exact rfl); (case C => kn_code); (case U => k_updF); (case Ok => assumption); (case hlo => assumption); (case hl => (refine' ⟨(_, ?o), ?m, rfl⟩; (case m => k_mem))); (case cl => exact rfl); k_whole)); intro f' c' oc' vs' t' ct' cds' ps' h' tk' F' N' ok' lo' sub' hc' d1' d2' l1'; (try dsimp only at N'); (try k_lt l1')))
local macro_rules | `(tactic| walk_at "callWith ref") => `(tactic| (k_here; (with_reducible show wpAny _ _ (callWith _ (Value.ref _) _ (backTo _ (starEach (_ :: _) _)) []) _ _ _); k_dflt (refine' callWith_K ?k1 ?k2 ?_; (case k1 => k_asm); (case k2 => k_is); k_whole)))
local macro_rules | `(tactic| walk_at "eval Name") => `(tactic| (k_here; (with_reducible show wpAny _ _ (eval (Expr.Name _ _) (envOfC _ _ _ _ _)) _ _ _); k_dflt (refine' nameX_L ?F ?v ?_ ?a ?b; (case a => rfl); (case b => rfl); (case F => k_asm); (case v => rfl); k_whole)))
theorem segK {w : World} {h₀ h : Heap} {L fa : Nat} {xs : List (Addr × Obj)} {mg mb : Str → Option Value} {mean : ExcName → Option Value} {E : Value → Shared → Prop} {Q : Flow → Shared → Prop} {s : Shared} {tk : Nat} {n sr va pl : Int} {vk : Option Value} {rs : List Int} {DN DT : List (Str × Int)}
  (X : (hd.heap_39 w.params).In h₀) (T : Top topProg LL mean mg mb h₀) (B : Below callerA h₀ [] h₀) (C : CodeHd h₀ 94 92) (hlen : rs.length ≤ 63)  
  (M : Mid w h₀ L xs n sr va pl vk rs DN DT tk h)
  (hQ : ∀ h' tk' (c : Str) (t : Nat), c.length = 1 → Mid w h₀ L xs n sr va pl (some (.str c t)) rs DN DT tk h' → Q .next { s with heap := h', toks := tk' })
  : wpAny (model PR w) (lawA L fa) (execs (stAt 7 :: []) (lawEnv L fa)) Q E { s with heap := h, toks := tk } := by
  cases M with
  | mk hR hH hit hv0 hv1 iN fN gN iT fT gT F N dH dN dT dV dP dK q1 q2 q3 q4 q5 q6 q7 q8 q9 q11 q10 hok =>
  conv in (stAt 7) => whnf
  unfold lawA lawEnv
  have hs : lawScope = lawScope := rfl
  conv at hs => rhs; whnf
  rw [hs]; clear hs
  show wpAny _ _ _ _ _ _
  w_top off
  k_steps
  refine' hQ _ _ _ _ ?len (Mid.mk hR hH hit hv0 hv1 iN fN gN iT fT gT (fr_hoist ?F ?e1 ?e2 ?e3) ?N dH dN dT dV dP ?dK q1 q2 q3 q4 q5 q6 q7 q8 q9 q11 q10 hok)
  case F => assumption
  case e1 => exact rfl
  case e2 => exact rfl
  case e3 => exact rfl
  case dK => assumption
  case len => assumption
  case N => assumption
theorem segD {w : World} {h₀ h : Heap} {L fa : Nat} {xs : List (Addr × Obj)} {mg mb : Str → Option Value} {mean : ExcName → Option Value} {E : Value → Shared → Prop} {Q : Flow → Shared → Prop} {s : Shared} {tk : Nat} {n sr va pl : Int} {vk : Option Value} {rs : List Int} {DN DT : List (Str × Int)}
  (X : (hd.heap_39 w.params).In h₀) (T : Top topProg LL mean mg mb h₀) (B : Below callerA h₀ [] h₀) (C : CodeHd h₀ 94 92) (hlen : rs.length ≤ 63)  (hva : 0 ≤ va ∧ va ≤ 6) (hE : PassesOwn (model PR w) (lawA L fa) (lawEnv L fa) E)
  (M : Mid w h₀ L xs n sr va pl vk rs DN DT tk h)
  (hQ : ∀ h' tk', Mid w h₀ L xs n sr va pl vk rs DN DT tk h' → Q .next { s with heap := h', toks := tk' })
  : wpAny (model PR w) (lawA L fa) (execs (stAt 10 :: []) (lawEnv L fa)) Q E { s with heap := h, toks := tk } := by
  cases M with
  | mk hR hH hit hv0 hv1 iN fN gN iT fT gT F N dH dN dT dV dP dK q1 q2 q3 q4 q5 q6 q7 q8 q9 q11 q10 hok =>
  rename_i m t tsr tva tpl vR vH nR nH rA hA nA tA oV oT oP oK oH oN obN obT ps cds kN kT
  conv in (stAt 10) => whnf
  unfold lawA lawEnv
  have hs : lawScope = lawScope := rfl
  conv at hs => rhs; whnf
  rw [hs]; clear hs
  show wpAny _ _ _ _ _ _
  refine wpAny_execs_cons ?_
  refine For_invVF (h₀ := h₀) F (by rfl) (by rfl) ?_ (by intro _; rfl) (by exact hE)
  w_top off
  iterate 16 (first | (k_unfold; (try dsimp only)) | (k_end; wrow_close) | walk1 | (dsimp only; walk1) | (leave1; try dsimp only))
  rename News _ _ _ _ => Nl
  rename Fr _ _ _ _ => Fl
  refine kdl_iter (vs := [_, _]) (J := fun i m' nx => (∃ m'' : Str → Option Value, m' = fun y => if y = Str.ofString "row" then some (.ref rA) else if y = Str.ofString "sort" then some (.int sr tsr) else if y = Str.ofString "number" then some (.int n t) else m'' y) ∧ nx = _) rfl (.head _) Fl Nl ⟨⟨_, rfl⟩, rfl⟩ ?_ ?_
  · intro i v m₁ news₁ h₁ tk₁ own hv hoff hl hJ F₁ N₁
    obtain ⟨⟨m₂, rfl⟩, rfl⟩ := hJ
    have hd : ∃ d td, v = Value.int d td ∧ (d = 1 + va ∨ d = 0 - 1 - va) := by
      match i, hv with
      | 0, hv => exact ⟨_, _, (Option.some.inj hv).symm, .inl rfl⟩
      | 1, hv => exact ⟨_, _, (Option.some.inj hv).symm, .inr rfl⟩
      | k + 2, hv => cases hv
    obtain ⟨d, td, rfl, hd⟩ := hd
    have hd0 : d ≠ 0 := by omega
    obtain ⟨f1, f2, f3⟩ := fm_facts n d hd0
    w_top off
    k_steps
    all_goals first
      | exact absurd f1 (by assumption)
      | exact absurd (by assumption) f2
      | exact absurd (by assumption) f3
      | exact absurd (by omega : -n + n = 0) (by assumption)
      | (rename Fr _ _ _ _ => Fz; rename News _ _ _ _ => Nz; exact InvEndG.intro (fr_hoist Fz rfl rfl rfl) Nz ⟨hl, ⟨_, rfl⟩, rfl⟩ hoff (fun p hp => List.Mem.tail _ (List.mem_append_left _ hp)) (fun p hp => List.Mem.tail _ (List.mem_append_right _ hp)))
  · rintro m₁ news₁ h₁ tk₁ ⟨⟨m₂, rfl⟩, rfl⟩ F₁ N₁
    refine wpAny_execs_nil (hQ h₁ tk₁ (Mid.mk hR hH hit hv0 hv1 iN fN gN iT fT gT F₁ (fun p hp => N₁ p (.tail _ hp)) dH dN dT dV dP dK q1 q2 q3 q4 q5 q6 q7 q8 q9 q11 q10 hok))
theorem segH3 {w : World} {h₀ h : Heap} {L fa : Nat} {xs : List (Addr × Obj)} {mg mb : Str → Option Value} {mean : ExcName → Option Value} {E : Value → Shared → Prop} {Q : Flow → Shared → Prop} {s : Shared} {tk : Nat} {n va pl : Int} {kc : Str} {ktk : Nat} {rs : List Int} {DN DT : List (Str × Int)}
  (X : (hd.heap_39 w.params).In h₀) (T : Top topProg LL mean mg mb h₀) (B : Below callerA h₀ [] h₀) (C : CodeHd h₀ 94 92) (hlen : rs.length ≤ 63)  (hDN : DN.length ≤ 63) (hS : Same DN DT)
  (M : Mid w h₀ L xs n 3 va pl (some (.str kc ktk)) rs DN DT tk h)
  (hQ : ∀ h' tk' DN' DT', DN'.length ≤ DN.length + 1 → Same DN' DT' → Mid w h₀ L xs n 3 va pl (some (.str kc ktk)) rs DN' DT' tk h' → Q .next { s with heap := h', toks := tk' })
  : wpAny (model PR w) (lawA L fa) (execs (stAt 8 :: []) (lawEnv L fa)) Q E { s with heap := h, toks := tk } := by
  cases M with
  | mk hR hH hit hv0 hv1 iN fN gN iT fT gT F N dH dN dT dV dP dK q1 q2 q3 q4 q5 q6 q7 q8 q9 q11 q10 hok =>
  rename_i m t tsr tva tpl vR vH nR nH rA hA nA tA oV oT oP oK oH oN obN obT ps cds kN kT
  have hndN := hS.1
  have hndT := hS.nodupT
  have hlT := hS.length
  conv in (stAt 8) => whnf
  unfold lawA lawEnv
  have hs : lawScope = lawScope := rfl
  conv at hs => rhs; whnf
  rw [hs]; clear hs
  show wpAny _ _ _ _ _ _
  w_top off
  k_steps
  refine' hQ _ _ DN DT (by omega) hS (Mid.mk hR hH hit hv0 hv1 iN fN gN iT fT gT (fr_hoist ?Fq ?e1q ?e2q ?e3q) ?Nq dH dN dT dV dP dK q1 q2 q3 q4 q5 q6 q7 q8 q9 q11 ?l10q ?hokq)
  case hokq => assumption
  case l10q => assumption
  case Fq => assumption
  case e1q => exact rfl
  case e2q => exact rfl
  case e3q => exact rfl
  case Nq => (refine' kst_newsOf ?src ?sub; (case src => assumption); (case sub => ((repeat (refine' List.forall_mem_cons.mpr ⟨?memz, ?_⟩; (case memz => (repeat (first | exact List.Mem.head _ | refine' List.Mem.tail _ ?_))))); (intro p hp; (repeat refine' List.Mem.tail _ ?_); exact hp))))
theorem segH4 {w : World} {h₀ h : Heap} {L fa : Nat} {xs : List (Addr × Obj)} {mg mb : Str → Option Value} {mean : ExcName → Option Value} {E : Value → Shared → Prop} {Q : Flow → Shared → Prop} {s : Shared} {tk : Nat} {n va pl : Int} {kc : Str} {ktk : Nat} {rs : List Int} {DN DT : List (Str × Int)}
  (X : (hd.heap_39 w.params).In h₀) (T : Top topProg LL mean mg mb h₀) (B : Below callerA h₀ [] h₀) (C : CodeHd h₀ 94 92) (hlen : rs.length ≤ 63)  (hDN : DN.length ≤ 63) (hS : Same DN DT)
  (M : Mid w h₀ L xs n 4 va pl (some (.str kc ktk)) rs DN DT tk h)
  (hQ : ∀ h' tk' DN' DT', DN'.length ≤ DN.length + 1 → Same DN' DT' → Mid w h₀ L xs n 4 va pl (some (.str kc ktk)) rs DN' DT' tk h' → Q .next { s with heap := h', toks := tk' })
  : wpAny (model PR w) (lawA L fa) (execs (stAt 8 :: []) (lawEnv L fa)) Q E { s with heap := h, toks := tk } := by
  cases M with
  | mk hR hH hit hv0 hv1 iN fN gN iT fT gT F N dH dN dT dV dP dK q1 q2 q3 q4 q5 q6 q7 q8 q9 q11 q10 hok =>
  rename_i m t tsr tva tpl vR vH nR nH rA hA nA tA oV oT oP oK oH oN obN obT ps cds kN kT
  have hndN := hS.1
  have hndT := hS.nodupT
  have hlT := hS.length
  conv in (stAt 8) => whnf
  unfold lawA lawEnv
  have hs : lawScope = lawScope := rfl
  conv at hs => rhs; whnf
  rw [hs]; clear hs
  show wpAny _ _ _ _ _ _
  w_top off
  k_steps
  refine' hQ _ _ DN DT (by omega) hS (Mid.mk hR hH hit hv0 hv1 iN fN gN iT fT gT (fr_hoist ?Fq ?e1q ?e2q ?e3q) ?Nq dH dN dT dV dP dK q1 q2 q3 q4 q5 q6 q7 q8 q9 q11 ?l10q ?hokq)
  case hokq => assumption
  case l10q => assumption
  case Fq => assumption
  case e1q => exact rfl
  case e2q => exact rfl
  case e3q => exact rfl
  case Nq => (refine' kst_newsOf ?src ?sub; (case src => assumption); (case sub => ((repeat (refine' List.forall_mem_cons.mpr ⟨?memz, ?_⟩; (case memz => (repeat (first | exact List.Mem.head _ | refine' List.Mem.tail _ ?_))))); (intro p hp; (repeat refine' List.Mem.tail _ ?_); exact hp))))
section
local macro_rules | `(tactic| walk_at "execs cons") => `(tactic| (k_here; refine wpAny_execs_cons ?_))
local macro_rules | `(tactic| walk_at "execs nil") => `(tactic| (k_here; refine wpAny_execs_nil ?_))
theorem segA {w : World} {h₀ h : Heap} {L fa : Nat} {xs : List (Addr × Obj)} {mg mb : Str → Option Value} {mean : ExcName → Option Value} {E : Value → Shared → Prop} {Q : Flow → Shared → Prop} {s : Shared} {tk : Nat} {n : Int} {rs : List Int} {DN DT : List (Str × Int)}
  (X : (hd.heap_39 w.params).In h₀) (T : Top topProg LL mean mg mb h₀) (B : Below callerA h₀ [] h₀) (C : CodeHd h₀ 94 92) (hlen : rs.length ≤ 62) 
  (M : Head w h₀ L xs n rs DN DT tk h)
  (hQ : ∀ h' tk' rs' va pl v3, rs'.length ≤ rs.length + 1 → (0 ≤ va ∧ va ≤ 6) → (-3 ≤ pl ∧ pl ≤ (rs'.length : Int) + 1) → Mid w h₀ L xs n (n.fmod 5) va pl v3 rs' DN DT tk' h' → Q .next { s with heap := h', toks := tk' })
  : wpAny (model PR w) (lawA L fa) (execs (stAt 0 :: stAt 1 :: stAt 2 :: []) (lawEnv L fa)) Q E { s with heap := h, toks := tk } := by
  cases M with
  | mk hR hH hit iN fN gN iT fT gT F N dH dN dT dV dP dK q1 q2 q3 q4 q5 q6 q7 q8 q9 q11 q10 hok =>
  conv in (stAt 0) => whnf
  conv in (stAt 1) => whnf
  conv in (stAt 2) => whnf
  unfold lawA lawEnv
  have hs : lawScope = lawScope := rfl
  conv at hs => rhs; whnf
  rw [hs]; clear hs
  show wpAny _ _ _ _ _ _
  w_top off
  k_steps
  · (rename News _ _ _ _ => Nz; rw [List.push_toArray] at Nz; refine' hQ _ _ (rs ++ [(n.fdiv 5).fmod 7]) ((n.fdiv 5).fmod 7) (((n.fdiv 5).fdiv 7).fmod ((rs.length : Int) + 5) - 3) _ ?lenza ?hvbza ?hpbza (Mid.mk ?hRza ?hHza ?hitza ?hv0za ?hv1za iN fN gN iT fT gT (fr_hoist ?Fza ?e1za ?e2za ?e3za) ?Nza dH dN dT ?dVza ?dPza dK q1 ?l2za q3 q4 q5 ?l6za ?l7za q8 q9 ?l11za q10 hok); (case lenza => simp); (case hvbza => exact ⟨Int.fmod_nonneg_of_pos _ (by decide), by have := Int.fmod_lt_of_pos (n.fdiv 5) (show (0 : Int) < 7 by decide); omega⟩); (case hpbza => have h1 := Int.fmod_nonneg_of_pos ((n.fdiv 5).fdiv 7) (show (0 : Int) < (rs.length : Int) + 5 by omega); have h2 := Int.fmod_lt_of_pos ((n.fdiv 5).fdiv 7) (show (0 : Int) < (rs.length : Int) + 5 by omega); (try rw [List.length_append]); (try simp only [List.length_cons, List.length_nil]); omega); (case Fza => assumption); (case e1za => exact rfl); (case e2za => exact rfl); (case e3za => exact rfl); (case dVza => assumption); (case dPza => assumption); (case hitza => exact (hit.at (tva := tk+1+1+1+1+1+1+1) (by (try dsimp only); omega) (by (try dsimp only); omega)).snoc (by (try dsimp only); omega) (by (try dsimp only); omega)); (case hHza => exact IntsAre.append hH (.cons _ _ .nil)); (case Nza => (refine' kst_newsOf ?srcza ?subza; (case srcza => assumption); (case subza => ((repeat (refine' List.forall_mem_cons.mpr ⟨?memz, ?_⟩; (case memz => (repeat (first | exact List.Mem.head _ | refine' List.Mem.tail _ ?_))))); (intro p hp; (repeat refine' List.Mem.tail _ ?_); exact hp))))); (case hRza => assumption); (all_goals (first | assumption | ((try dsimp only); omega))))
  · (refine' hQ _ _ (rs) ((n.fdiv 5).fmod 7) (((n.fdiv 5).fdiv 7).fmod ((rs.length : Int) + 5) - 3) _ ?lenzb ?hvbzb ?hpbzb (Mid.mk ?hRzb ?hHzb ?hitzb ?hv0zb ?hv1zb iN fN gN iT fT gT (fr_hoist ?Fzb ?e1zb ?e2zb ?e3zb) ?Nzb dH dN dT ?dVzb ?dPzb dK q1 ?l2zb q3 q4 q5 ?l6zb ?l7zb q8 q9 ?l11zb q10 hok); (case lenzb => simp); (case hvbzb => exact ⟨Int.fmod_nonneg_of_pos _ (by decide), by have := Int.fmod_lt_of_pos (n.fdiv 5) (show (0 : Int) < 7 by decide); omega⟩); (case hpbzb => have h1 := Int.fmod_nonneg_of_pos ((n.fdiv 5).fdiv 7) (show (0 : Int) < (rs.length : Int) + 5 by omega); have h2 := Int.fmod_lt_of_pos ((n.fdiv 5).fdiv 7) (show (0 : Int) < (rs.length : Int) + 5 by omega); (try rw [List.length_append]); (try simp only [List.length_cons, List.length_nil]); omega); (case Fzb => assumption); (case e1zb => exact rfl); (case e2zb => exact rfl); (case e3zb => exact rfl); (case dVzb => assumption); (case dPzb => assumption); (case hitzb => exact hit.at (tva := tk+1+1+1+1+1+1+1) (by (try dsimp only); omega) (by (try dsimp only); omega)); (case hHzb => exact hH); (case Nzb => (refine' kst_newsOf ?srczb ?subzb; (case srczb => assumption); (case subzb => ((repeat (refine' List.forall_mem_cons.mpr ⟨?memz, ?_⟩; (case memz => (repeat (first | exact List.Mem.head _ | refine' List.Mem.tail _ ?_))))); (intro p hp; (repeat refine' List.Mem.tail _ ?_); exact hp))))); (case hRzb => assumption); (all_goals (first | assumption | ((try dsimp only); omega))))
end
section
local macro_rules | `(tactic| walk_at "call ref") => `(tactic| (k_here; k_dflt (refine wpAny_call ?_; refine' kla_code ?k1 ?k2 ?k3 ?k4 ?k5 ?kA ?kF ?kK ?k6 ?k7 ?k8 ?k9 ?kB ?_ ?c2 ?c3 ?c4 ?c5; (case k4 => k_asm); (case k6 => k_mem); (case kA => exact rfl); (case kF => exact rfl); (case kK => exact rfl); (case k1 => k_asm); (case k2 => k_asm); (case k3 => k_asm); (case k5 => k_asm); (case k7 => (refine' codeRec_news ?kn ?km ?kd ?kv; (case kn => k_asm); (case km => (repeat refine' List.Mem.tail _ ?_); solve_by_elim); (case kd => assumption); (case kv => assumption))); (case k8 => k_room); (case k9 => exact rfl); (case c5 => decide); (case kB => exact locs rfl); (case c2 => exact rfl); (case c3 => exact rfl); (case c4 => exact rfl); k_whole; intro g' L' h' FG' F' N' B' X' T'; (try dsimp only); (try k_lift B'); (try k_fold))))
local macro_rules | `(tactic| walk_at "call ref") => `(tactic| (k_here; (first | (with_reducible show wpAny _ _ (PySem.call (Value.ref 85) _ _) _ _ _) | (with_reducible show wpAny _ _ (PySem.call (Value.ref 78) _ _) _ _ _)); k_dflt (refine wpAny_call ?_; refine' enterS0 ?k1 ?k2 ?k3 ?k4 ?k5 ?kA ?kF ?kK ?k6 ?k7 ?k8 ?k9 ?kB ?_ ?c2 ?c3 ?c4 ?c5; (case kA => exact rfl); (case kF => exact rfl); (case kK => exact rfl); (case k2 => k_asm); (case k1 => k_asm); (case k3 => k_asm); (case k4 => k_asm); (case k5 => k_asm); (case k6 => k_is); (case k7 => k_is); (case k8 => k_room); (case k9 => first | exact BindsTo.of_eq rfl | (refine' binds_K ?xK ?x1 ?xo ?x2 ?x3 ?x4; (case x1 => exact rfl); (case xK => (refine' Frag.In.keeps ?xa (Fr.keep ?xb); (case xb => with_reducible assumption); (case xa => with_reducible assumption))); (case xo => k_is); (case x2 => exact rfl); (case x3 => exact rfl); (case x4 => exact rfl))); (case kB => exact locs rfl); (case c2 => exact rfl); (case c3 => exact rfl); (case c4 => exact rfl); (case c5 => decide); k_whole; intro g' L' h' FG' F' N' B' X' T' D'; (try dsimp only); (try k_lift B'); (try k_fold))))
local macro_rules | `(tactic| walk_at "leaving ref") => `(tactic| (k_here; (with_reducible rename KtsDicts _ _ => kdX); first
  | (refine' leave_onN_any ?k1 ?k2 ?kf ?k3 ?k4 ?_; (case k3 => assumption); (case k2 => assumption); (case kf => exact rfl); (case k1 => assumption); (case k4 => assumption); k_whole; intro h' S' R' U'; (try dsimp only at S' R' U' ⊢))
  | (refine' leave_onS_any ?k1 ?k2 ?kf ?k3 ?k4 ?_; (case k3 => assumption); (case k2 => assumption); (case kf => exact rfl); (case k1 => assumption); (case k4 => assumption); k_whole; intro h' S' R' U'; (try dsimp only at S' R' U' ⊢))))
local macro_rules | `(tactic| walk_at "setItem ref int int") => `(tactic| (k_here; k_dflt (first
  | (refine' setItem_pos ?F ?N ?U ?hi ?h0 ?h1 ?hf ?_; (case F => k_asm); (case N => k_asm); (case U => k_updF); (case hi => assumption); (case h0 => omega); (case h1 => omega); (case hf => omega); k_whole; intro h' F' N' I' le'; (try dsimp only at N'); (try k_sweep))
  | (refine' setItem_back ?F ?N ?U ?hi ?h0 ?h1 ?hf ?_; (case F => k_asm); (case N => k_asm); (case U => k_updF); (case hi => assumption); (case h0 => omega); (case h1 => omega); (case hf => omega); k_whole; intro h' F' N' I' le'; (try dsimp only at N'); (try k_sweep))
  | (refine' setItem_off ?A ?N ?hm ?hi ?ho ?hb ?_; (case A => exact rfl); (case N => k_asm); (case hm => k_mem); (case hi => assumption); (case ho => omega); (case hb => omega); k_whole; intro h' tk' e' x'))))
local macro_rules | `(tactic| walk_at "delItem ref int") => `(tactic| (k_here; k_dflt (first
  | (refine' delItem_pos ?F ?N ?U ?hi ?h0 ?h1 ?hf ?_; (case F => k_asm); (case N => k_asm); (case U => k_updF); (case hi => assumption); (case h0 => omega); (case h1 => omega); (case hf => omega); k_whole; intro h' F' N' I' le'; (try dsimp only at N'); (try k_sweep))
  | (refine' delItem_back ?F ?N ?U ?hi ?h0 ?h1 ?hf ?_; (case F => k_asm); (case N => k_asm); (case U => k_updF); (case hi => assumption); (case h0 => omega); (case h1 => omega); (case hf => omega); k_whole; intro h' F' N' I' le'; (try dsimp only at N'); (try k_sweep))
  | (refine' delItem_off ?A ?N ?hm ?hi ?ho ?hb ?_; (case A => exact rfl); (case N => k_asm); (case hm => k_mem); (case hi => assumption); (case ho => omega); (case hb => omega); k_whole; intro h' tk' e' x'))))
section
local macro_rules | `(tactic| walk_at "call ref") => `(tactic| (k_here; (with_reducible show wpAny _ _ (PySem.call (Value.ref 90) [_, Value.int 0 _, _, _] _) _ _ _); k_dflt (refine' row0 ?X ?T ?B ?hR ?hl ?hp ?F ?N ?_ ?_ ?_; (case X => k_asm); (case T => k_asm); (case B => k_asm); (case F => k_asm); (case N => (refine' kst_newsOf ?src ?sub; (case src => k_asm); (case sub => refine' List.forall_mem_cons.mpr ⟨?m, fun p hp => hp⟩; (case m => k_mem)))); (case hR => assumption); (case hl => omega); (case hp => omega)); (intro t' D' ws' n' h' tk' c' F' N' l1' l2' I'; (try k_lt l1'); (try k_lt l2'); (try k_sweep)); rotate_left; (intro t' D' ws' n' h' tk' c' F' N' l1' l2' I'; (try k_lt l1'); (try k_lt l2'); (try k_sweep)); rotate_left; (intro t' u' h' tk' c' F' N'; (try k_sweep)); rotate_left))
local macro_rules | `(tactic| walk_at "call ref") => `(tactic| (k_here; (with_reducible show wpAny _ _ (PySem.call (Value.ref 90) [_, Value.int 2 _, _, _] _) _ _ _); k_dflt (refine' row2 ?X ?T ?B ?hR ?hl ?hp ?F ?N ?_ ?_ ?_; (case X => k_asm); (case T => k_asm); (case B => k_asm); (case F => k_asm); (case N => (refine' kst_newsOf ?src ?sub; (case src => k_asm); (case sub => refine' List.forall_mem_cons.mpr ⟨?m, fun p hp => hp⟩; (case m => k_mem)))); (case hR => assumption); (case hl => omega); (case hp => omega)); (intro t' D' ws' n' h' tk' c' F' N' l1' l2' I'; (try k_lt l1'); (try k_lt l2'); (try k_sweep)); rotate_left; (intro t' D' ws' n' h' tk' c' F' N' l1' l2' I'; (try k_lt l1'); (try k_lt l2'); (try k_sweep)); rotate_left; (intro t' u' h' tk' c' F' N'; (try k_sweep)); rotate_left))
local macro_rules | `(tactic| walk_at "call ref") => `(tactic| (k_here; (with_reducible show wpAny _ _ (PySem.call (Value.ref 90) [_, Value.int 1 _, _, _] _) _ _ _); k_dflt (refine' row1 ?X ?T ?B ?hR ?hl ?hp ?F ?N ?_ ?_ ?_; (case X => k_asm); (case T => k_asm); (case B => k_asm); (case F => k_asm); (case N => (refine' kst_newsOf ?src ?sub; (case src => k_asm); (case sub => refine' List.forall_mem_cons.mpr ⟨?m, fun p hp => hp⟩; (case m => k_mem)))); (case hR => assumption); (case hl => omega); (case hp => omega)); (intro t' u' h' tk' c' F' N'; (try k_sweep)); rotate_left; (intro t' u' h' tk' c' F' N'; (try k_sweep)); rotate_left; (intro t' u' h' tk' c' F' N'; (try k_sweep)); rotate_left))
local macro_rules | `(tactic| walk_at "call ref") => `(tactic| (k_here; (with_reducible show wpAny _ _ (PySem.call (Value.ref 90) [_, Value.int 3 _, _, _] _) _ _ _); k_dflt (refine' row3 ?X ?T ?B ?hR ?hl ?hp ?F ?N ?_; (case X => k_asm); (case T => k_asm); (case B => k_asm); (case F => k_asm); (case N => (refine' kst_newsOf ?src ?sub; (case src => k_asm); (case sub => refine' List.forall_mem_cons.mpr ⟨?m, fun p hp => hp⟩; (case m => k_mem)))); (case hR => assumption); (case hl => omega); (case hp => omega)); (intro t' u' h' tk' F' N'; (try k_sweep))))
local macro_rules | `(tactic| walk_at "compareOp NotEq ref ref") => `(tactic| (k_here; (with_reducible show wpAny _ _ (compareOp CmpOp.NotEq (Value.ref _) (Value.ref _)) _ _ _); k_dflt (refine' ne_same ?N ?ha ?hb ?hi ?hj ?hu ?_; (case N => k_asm); (case ha => k_mem); (case hb => k_mem); (case hi => assumption); (case hj => assumption); (case hu => units_room); k_whole)))
local macro_rules | `(tactic| walk_at "subscriptTail Name Name ref int") => `(tactic| (k_here; (with_reducible show wpAny _ _ (subscriptTail _ _ (Value.ref _) (Value.int _ _)) _ _ _); k_dflt (first
  | (refine' getItem_back ?N ?hm ?hi ?h0 ?h1 ?hf ?_ ?hs; (case N => k_asm); (case hm => k_mem); (case hi => assumption); (case h0 => omega); (case h1 => omega); (case hf => omega); (case hs => with_unfolding_all rfl); k_whole; intro t')
  | (refine' getItem_off ?A ?N ?hm ?hi ?ho ?hb ?_ ?hs; (case A => exact rfl); (case N => k_asm); (case hm => k_mem); (case hi => assumption); (case ho => omega); (case hb => omega); (case hs => with_unfolding_all rfl); k_whole; intro h' tk' e' x'))))
theorem g0 {w : World} {h₀ h : Heap} {L fa : Nat} {xs : List (Addr × Obj)} {mg mb : Str → Option Value} {mean : ExcName → Option Value} {E : Value → Shared → Prop} {Q : Flow → Shared → Prop} {s : Shared} {tk : Nat} {n va pl : Int} {vk : Option Value} {rs : List Int} {DN DT : List (Str × Int)}
  (X : (hd.heap_39 w.params).In h₀) (T : Top topProg LL mean mg mb h₀) (B : Below callerA h₀ [] h₀) (C : CodeHd h₀ 94 92) (hlen : rs.length ≤ 63) (hpl : -3 ≤ pl ∧ pl ≤ (rs.length : Int) + 1) 
  (M : Mid w h₀ L xs n 0 va pl vk rs DN DT tk h)
  (hQ : ∀ h' tk' rs', rs'.length ≤ rs.length → Mid w h₀ L xs n 0 va pl vk rs' DN DT tk h' → Q .next { s with heap := h', toks := tk' })
  : wpAny (model PR w) (lawA L fa) (execs (stAt 3 :: stAt 4 :: stAt 5 :: stAt 6 :: []) (lawEnv L fa)) Q E { s with heap := h, toks := tk } := by
  cases M with
  | mk hR hH hit hv0 hv1 iN fN gN iT fT gT F N dH dN dT dV dP dK q1 q2 q3 q4 q5 q6 q7 q8 q9 q11 q10 hok =>
  conv in (stAt 3) => whnf
  conv in (stAt 4) => whnf
  conv in (stAt 5) => whnf
  conv in (stAt 6) => whnf
  unfold lawA lawEnv
  have hs : lawScope = lawScope := rfl
  conv at hs => rhs; whnf
  rw [hs]; clear hs
  show wpAny _ _ _ _ _ _
  w_top off
  k_steps
  all_goals first
    | (rename_i a; exact absurd rfl a)
    | (refine' hQ _ _ (rs.set pl.toNat va) ?lenz1 (Mid.mk ?hRz1 ?hHz1 ?hitz1 hv0 hv1 iN fN gN iT fT gT (fr_hoist ?Fz1 ?e1z1 ?e2z1 ?e3z1) ?Nz1 dH dN dT dV dP dK q1 ?l2z1 q3 q4 q5 ?l6z1 ?l7z1 q8 q9 ?l11z1 ?l10z1 ?hokz1); (case lenz1 => first | exact Nat.le_refl _ | (simp [List.length_eraseIdx]; done) | (simp [List.length_eraseIdx]; split <;> omega)); (case Fz1 => assumption); (case e1z1 => exact rfl); (case e2z1 => exact rfl); (case e3z1 => exact rfl); (case hitz1 => exact hit.set hv0 hv1 pl.toNat);  (case hokz1 => assumption); (case l10z1 => assumption); (case Nz1 => (refine' kst_newsOf ?srcz1 ?subz1; (case srcz1 => assumption); (case subz1 => ((repeat (refine' List.forall_mem_cons.mpr ⟨?memz, ?_⟩; (case memz => (repeat (first | exact List.Mem.head _ | refine' List.Mem.tail _ ?_))))); (intro p hp; (repeat refine' List.Mem.tail _ ?_); exact hp))))); (case hRz1 => assumption); (case hHz1 => assumption); (all_goals (first | assumption | omega)))
    | (refine' hQ _ _ (rs.set (pl + rs.length).toNat va) ?lenz2 (Mid.mk ?hRz2 ?hHz2 ?hitz2 hv0 hv1 iN fN gN iT fT gT (fr_hoist ?Fz2 ?e1z2 ?e2z2 ?e3z2) ?Nz2 dH dN dT dV dP dK q1 ?l2z2 q3 q4 q5 ?l6z2 ?l7z2 q8 q9 ?l11z2 ?l10z2 ?hokz2); (case lenz2 => first | exact Nat.le_refl _ | (simp [List.length_eraseIdx]; done) | (simp [List.length_eraseIdx]; split <;> omega)); (case Fz2 => assumption); (case e1z2 => exact rfl); (case e2z2 => exact rfl); (case e3z2 => exact rfl); (case hitz2 => exact hit.set hv0 hv1 (pl + rs.length).toNat);  (case hokz2 => assumption); (case l10z2 => assumption); (case Nz2 => (refine' kst_newsOf ?srcz2 ?subz2; (case srcz2 => assumption); (case subz2 => ((repeat (refine' List.forall_mem_cons.mpr ⟨?memz, ?_⟩; (case memz => (repeat (first | exact List.Mem.head _ | refine' List.Mem.tail _ ?_))))); (intro p hp; (repeat refine' List.Mem.tail _ ?_); exact hp))))); (case hRz2 => assumption); (case hHz2 => assumption); (all_goals (first | assumption | omega)))
    | (refine' hQ _ _ (rs) ?lenz3 (Mid.mk ?hRz3 ?hHz3 ?hitz3 hv0 hv1 iN fN gN iT fT gT (fr_hoist ?Fz3 ?e1z3 ?e2z3 ?e3z3) ?Nz3 dH dN dT dV dP dK q1 ?l2z3 q3 q4 q5 ?l6z3 ?l7z3 q8 q9 ?l11z3 ?l10z3 ?hokz3); (case lenz3 => first | exact Nat.le_refl _ | (simp [List.length_eraseIdx]; done) | (simp [List.length_eraseIdx]; split <;> omega)); (case Fz3 => assumption); (case e1z3 => exact rfl); (case e2z3 => exact rfl); (case e3z3 => exact rfl); (case hitz3 => exact hit);  (case hokz3 => assumption); (case l10z3 => assumption); (case Nz3 => (refine' kst_newsOf ?srcz3 ?subz3; (case srcz3 => assumption); (case subz3 => ((repeat (refine' List.forall_mem_cons.mpr ⟨?memz, ?_⟩; (case memz => (repeat (first | exact List.Mem.head _ | refine' List.Mem.tail _ ?_))))); (intro p hp; (repeat refine' List.Mem.tail _ ?_); exact hp))))); (case hRz3 => assumption); (case hHz3 => assumption); (all_goals (first | assumption | omega)))
theorem g1 {w : World} {h₀ h : Heap} {L fa : Nat} {xs : List (Addr × Obj)} {mg mb : Str → Option Value} {mean : ExcName → Option Value} {E : Value → Shared → Prop} {Q : Flow → Shared → Prop} {s : Shared} {tk : Nat} {n va pl : Int} {vk : Option Value} {rs : List Int} {DN DT : List (Str × Int)}
  (X : (hd.heap_39 w.params).In h₀) (T : Top topProg LL mean mg mb h₀) (B : Below callerA h₀ [] h₀) (C : CodeHd h₀ 94 92) (hlen : rs.length ≤ 63) (hpl : -3 ≤ pl ∧ pl ≤ (rs.length : Int) + 1) 
  (M : Mid w h₀ L xs n 1 va pl vk rs DN DT tk h)
  (hQ : ∀ h' tk' rs', rs'.length ≤ rs.length → Mid w h₀ L xs n 1 va pl vk rs' DN DT tk h' → Q .next { s with heap := h', toks := tk' })
  : wpAny (model PR w) (lawA L fa) (execs (stAt 3 :: stAt 4 :: stAt 5 :: stAt 6 :: []) (lawEnv L fa)) Q E { s with heap := h, toks := tk } := by
  cases M with
  | mk hR hH hit hv0 hv1 iN fN gN iT fT gT F N dH dN dT dV dP dK q1 q2 q3 q4 q5 q6 q7 q8 q9 q11 q10 hok =>
  conv in (stAt 3) => whnf
  conv in (stAt 4) => whnf
  conv in (stAt 5) => whnf
  conv in (stAt 6) => whnf
  unfold lawA lawEnv
  have hs : lawScope = lawScope := rfl
  conv at hs => rhs; whnf
  rw [hs]; clear hs
  show wpAny _ _ _ _ _ _
  w_top off
  k_steps
  all_goals first
    | (rename_i a; exact absurd rfl a)
    | (refine' hQ _ _ (rs) ?lenz4 (Mid.mk ?hRz4 ?hHz4 ?hitz4 hv0 hv1 iN fN gN iT fT gT (fr_hoist ?Fz4 ?e1z4 ?e2z4 ?e3z4) ?Nz4 dH dN dT dV dP dK q1 ?l2z4 q3 q4 q5 ?l6z4 ?l7z4 q8 q9 ?l11z4 ?l10z4 ?hokz4); (case lenz4 => first | exact Nat.le_refl _ | (simp [List.length_eraseIdx]; done) | (simp [List.length_eraseIdx]; split <;> omega)); (case Fz4 => assumption); (case e1z4 => exact rfl); (case e2z4 => exact rfl); (case e3z4 => exact rfl); (case hitz4 => exact hit);  (case hokz4 => assumption); (case l10z4 => assumption); (case Nz4 => (refine' kst_newsOf ?srcz4 ?subz4; (case srcz4 => assumption); (case subz4 => ((repeat (refine' List.forall_mem_cons.mpr ⟨?memz, ?_⟩; (case memz => (repeat (first | exact List.Mem.head _ | refine' List.Mem.tail _ ?_))))); (intro p hp; (repeat refine' List.Mem.tail _ ?_); exact hp))))); (case hRz4 => assumption); (case hHz4 => assumption); (all_goals (first | assumption | omega)))
theorem g2 {w : World} {h₀ h : Heap} {L fa : Nat} {xs : List (Addr × Obj)} {mg mb : Str → Option Value} {mean : ExcName → Option Value} {E : Value → Shared → Prop} {Q : Flow → Shared → Prop} {s : Shared} {tk : Nat} {n va pl : Int} {vk : Option Value} {rs : List Int} {DN DT : List (Str × Int)}
  (X : (hd.heap_39 w.params).In h₀) (T : Top topProg LL mean mg mb h₀) (B : Below callerA h₀ [] h₀) (C : CodeHd h₀ 94 92) (hlen : rs.length ≤ 63) (hpl : -3 ≤ pl ∧ pl ≤ (rs.length : Int) + 1) 
  (M : Mid w h₀ L xs n 2 va pl vk rs DN DT tk h)
  (hQ : ∀ h' tk' rs', rs'.length ≤ rs.length → Mid w h₀ L xs n 2 va pl vk rs' DN DT tk h' → Q .next { s with heap := h', toks := tk' })
  : wpAny (model PR w) (lawA L fa) (execs (stAt 3 :: stAt 4 :: stAt 5 :: stAt 6 :: []) (lawEnv L fa)) Q E { s with heap := h, toks := tk } := by
  cases M with
  | mk hR hH hit hv0 hv1 iN fN gN iT fT gT F N dH dN dT dV dP dK q1 q2 q3 q4 q5 q6 q7 q8 q9 q11 q10 hok =>
  conv in (stAt 3) => whnf
  conv in (stAt 4) => whnf
  conv in (stAt 5) => whnf
  conv in (stAt 6) => whnf
  unfold lawA lawEnv
  have hs : lawScope = lawScope := rfl
  conv at hs => rhs; whnf
  rw [hs]; clear hs
  show wpAny _ _ _ _ _ _
  w_top off
  k_steps
  all_goals first
    | (rename_i a; exact absurd rfl a)
    | (refine' hQ _ _ (rs.eraseIdx pl.toNat) ?lenz5 (Mid.mk ?hRz5 ?hHz5 ?hitz5 hv0 hv1 iN fN gN iT fT gT (fr_hoist ?Fz5 ?e1z5 ?e2z5 ?e3z5) ?Nz5 dH dN dT dV dP dK q1 ?l2z5 q3 q4 q5 ?l6z5 ?l7z5 q8 q9 ?l11z5 ?l10z5 ?hokz5); (case lenz5 => first | exact Nat.le_refl _ | (simp [List.length_eraseIdx]; done) | (simp [List.length_eraseIdx]; split <;> omega)); (case Fz5 => assumption); (case e1z5 => exact rfl); (case e2z5 => exact rfl); (case e3z5 => exact rfl); (case hitz5 => exact hit.erase pl.toNat);  (case hokz5 => assumption); (case l10z5 => assumption); (case Nz5 => (refine' kst_newsOf ?srcz5 ?subz5; (case srcz5 => assumption); (case subz5 => ((repeat (refine' List.forall_mem_cons.mpr ⟨?memz, ?_⟩; (case memz => (repeat (first | exact List.Mem.head _ | refine' List.Mem.tail _ ?_))))); (intro p hp; (repeat refine' List.Mem.tail _ ?_); exact hp))))); (case hRz5 => assumption); (case hHz5 => assumption); (all_goals (first | assumption | omega)))
    | (refine' hQ _ _ (rs.eraseIdx (pl + rs.length).toNat) ?lenz6 (Mid.mk ?hRz6 ?hHz6 ?hitz6 hv0 hv1 iN fN gN iT fT gT (fr_hoist ?Fz6 ?e1z6 ?e2z6 ?e3z6) ?Nz6 dH dN dT dV dP dK q1 ?l2z6 q3 q4 q5 ?l6z6 ?l7z6 q8 q9 ?l11z6 ?l10z6 ?hokz6); (case lenz6 => first | exact Nat.le_refl _ | (simp [List.length_eraseIdx]; done) | (simp [List.length_eraseIdx]; split <;> omega)); (case Fz6 => assumption); (case e1z6 => exact rfl); (case e2z6 => exact rfl); (case e3z6 => exact rfl); (case hitz6 => exact hit.erase (pl + rs.length).toNat);  (case hokz6 => assumption); (case l10z6 => assumption); (case Nz6 => (refine' kst_newsOf ?srcz6 ?subz6; (case srcz6 => assumption); (case subz6 => ((repeat (refine' List.forall_mem_cons.mpr ⟨?memz, ?_⟩; (case memz => (repeat (first | exact List.Mem.head _ | refine' List.Mem.tail _ ?_))))); (intro p hp; (repeat refine' List.Mem.tail _ ?_); exact hp))))); (case hRz6 => assumption); (case hHz6 => assumption); (all_goals (first | assumption | omega)))
    | (refine' hQ _ _ (rs) ?lenz7 (Mid.mk ?hRz7 ?hHz7 ?hitz7 hv0 hv1 iN fN gN iT fT gT (fr_hoist ?Fz7 ?e1z7 ?e2z7 ?e3z7) ?Nz7 dH dN dT dV dP dK q1 ?l2z7 q3 q4 q5 ?l6z7 ?l7z7 q8 q9 ?l11z7 ?l10z7 ?hokz7); (case lenz7 => first | exact Nat.le_refl _ | (simp [List.length_eraseIdx]; done) | (simp [List.length_eraseIdx]; split <;> omega)); (case Fz7 => assumption); (case e1z7 => exact rfl); (case e2z7 => exact rfl); (case e3z7 => exact rfl); (case hitz7 => exact hit);  (case hokz7 => assumption); (case l10z7 => assumption); (case Nz7 => (refine' kst_newsOf ?srcz7 ?subz7; (case srcz7 => assumption); (case subz7 => ((repeat (refine' List.forall_mem_cons.mpr ⟨?memz, ?_⟩; (case memz => (repeat (first | exact List.Mem.head _ | refine' List.Mem.tail _ ?_))))); (intro p hp; (repeat refine' List.Mem.tail _ ?_); exact hp))))); (case hRz7 => assumption); (case hHz7 => assumption); (all_goals (first | assumption | omega)))
local macro_rules | `(tactic| walk_at "exec For") => `(tactic| (k_here; k_dflt (refine' count_for ?hh ?hm ?hi ?hit ?hv0 ?hva ?hlen (fr_hoist ?F ?e1 ?e2 ?e3) ?N ?_ ?hE; (case hh => exact rfl); (case F => k_asm); (case e1 => exact rfl); (case e2 => exact rfl); (case e3 => exact rfl); (case N => k_asm); (case hm => k_mem); (case hi => assumption); (case hit => assumption); (case hv0 => assumption); (case hva => assumption); (case hlen => assumption); (case hE => passes_own)); intro h' tk' t' m' F' N'; (try dsimp only)))
theorem g3 {w : World} {h₀ h : Heap} {L fa : Nat} {xs : List (Addr × Obj)} {mg mb : Str → Option Value} {mean : ExcName → Option Value} {E : Value → Shared → Prop} {Q : Flow → Shared → Prop} {s : Shared} {tk : Nat} {n va pl : Int} {vk : Option Value} {rs : List Int} {DN DT : List (Str × Int)}
  (X : (hd.heap_39 w.params).In h₀) (T : Top topProg LL mean mg mb h₀) (B : Below callerA h₀ [] h₀) (C : CodeHd h₀ 94 92) (hlen : rs.length ≤ 63) (hpl : -3 ≤ pl ∧ pl ≤ (rs.length : Int) + 1) (hva : 0 ≤ va ∧ va ≤ 6)
  (M : Mid w h₀ L xs n 3 va pl vk rs DN DT tk h)
  (hQ : ∀ h' tk' rs', rs'.length ≤ rs.length → Mid w h₀ L xs n 3 va pl vk rs' DN DT tk h' → Q .next { s with heap := h', toks := tk' })
  : wpAny (model PR w) (lawA L fa) (execs (stAt 3 :: stAt 4 :: stAt 5 :: stAt 6 :: []) (lawEnv L fa)) Q E { s with heap := h, toks := tk } := by
  cases M with
  | mk hR hH hit hv0 hv1 iN fN gN iT fT gT F N dH dN dT dV dP dK q1 q2 q3 q4 q5 q6 q7 q8 q9 q11 q10 hok =>
  conv in (stAt 3) => whnf
  conv in (stAt 4) => whnf
  conv in (stAt 5) => whnf
  conv in (stAt 6) => whnf
  unfold lawA lawEnv
  have hs : lawScope = lawScope := rfl
  conv at hs => rhs; whnf
  rw [hs]; clear hs
  show wpAny _ _ _ _ _ _
  w_top off
  k_steps
  all_goals first
    | (rename_i a; exact absurd rfl a)
    | (refine' hQ _ _ (rs) ?lenz1 (Mid.mk ?hRz1 ?hHz1 ?hitz1 hv0 hv1 iN fN gN iT fT gT (fr_hoist ?Fz1 ?e1z1 ?e2z1 ?e3z1) ?Nz1 dH dN dT dV dP dK q1 ?l2z1 q3 q4 q5 ?l6z1 ?l7z1 q8 q9 ?l11z1 ?l10z1 ?hokz1); (case lenz1 => first | exact Nat.le_refl _ | (simp [List.length_eraseIdx]; done) | (simp [List.length_eraseIdx]; split <;> omega)); (case Fz1 => assumption); (case e1z1 => exact rfl); (case e2z1 => exact rfl); (case e3z1 => exact rfl); (case hitz1 => exact hit);  (case hokz1 => assumption); (case l10z1 => assumption); (case Nz1 => (refine' kst_newsOf ?srcz1 ?subz1; (case srcz1 => assumption); (case subz1 => ((repeat (refine' List.forall_mem_cons.mpr ⟨?memz, ?_⟩; (case memz => (repeat (first | exact List.Mem.head _ | refine' List.Mem.tail _ ?_))))); (intro p hp; (repeat refine' List.Mem.tail _ ?_); exact hp))))); (case hRz1 => assumption); (case hHz1 => assumption); (all_goals (first | assumption | omega)))
end
section
local macro_rules | `(tactic| walk_at "call ref") => `(tactic| (k_here; (with_reducible show wpAny _ _ (PySem.call (Value.ref 90) [_, Value.int 4 _, _, _] _) _ _ _); k_dflt (refine' row4b ?X ?T ?B ?hR ?hl ?hp ?F ?N ?_ ?_; (case X => k_asm); (case T => k_asm); (case B => k_asm); (case F => k_asm); (case N => (refine' kst_newsOf ?src ?sub; (case src => k_asm); (case sub => refine' List.forall_mem_cons.mpr ⟨?m, fun p hp => hp⟩; (case m => k_mem)))); (case hR => assumption); (case hl => omega); (case hp => omega)); (intro t' u' h' tk' hn' F' N'; (try k_sweep)); rotate_left; (intro i' t' u' h' tk' hf' F' N'; (try k_sweep)); rotate_left))
local macro_rules | `(tactic| walk_at "exec For") => `(tactic| (k_here; (with_reducible show wpAny _ _ (exec (Stmt.For (Expr.Tuple _ _ _) _ _ _ _) _) _ _ _); k_dflt (refine for_enum (fun _ => rfl) ?_)))
local macro_rules | `(tactic| walk_at "call type:enumerate") => `(tactic| (k_here; k_dflt (refine' index_call ?hh ?hm ?hi ?hit ?hv0 ?hva ?F ?e1 ?e2 ?N ?hE ?_ ?_; (case hh => exact rfl); (case F => k_asm); (case e1 => exact rfl); (case e2 => exact rfl); (case N => k_asm); (case hm => k_mem); (case hi => assumption); (case hit => assumption); (case hv0 => assumption); (case hva => assumption); (case hE => passes_own)); (first | ((with_reducible rename FirstAt _ _ _ => hf0); (intro h' tk' m' hn' F' N'; exact (first_absurd hf0 hn').elim); (with_reducible rename FirstAt _ _ _ => hf0); (intro i' t' h' tk' m' hf' F' N'; have hij := first_same hf0 hf'; subst hij)) | (intro h' tk' m' hn' F' N'; rotate_left; (intro i' t' h' tk' m' hf' F' N'; exact (first_absurd hf' (by assumption)).elim)))))
theorem g4 {w : World} {h₀ h : Heap} {L fa : Nat} {xs : List (Addr × Obj)} {mg mb : Str → Option Value} {mean : ExcName → Option Value} {E : Value → Shared → Prop} {Q : Flow → Shared → Prop} {s : Shared} {tk : Nat} {n va pl : Int} {vk : Option Value} {rs : List Int} {DN DT : List (Str × Int)}
  (X : (hd.heap_39 w.params).In h₀) (T : Top topProg LL mean mg mb h₀) (B : Below callerA h₀ [] h₀) (C : CodeHd h₀ 94 92) (hlen : rs.length ≤ 63) (hpl : -3 ≤ pl ∧ pl ≤ (rs.length : Int) + 1) (hva : 0 ≤ va ∧ va ≤ 6)
  (M : Mid w h₀ L xs n 4 va pl vk rs DN DT tk h)
  (hQ : ∀ h' tk' rs', rs'.length ≤ rs.length → Mid w h₀ L xs n 4 va pl vk rs' DN DT tk h' → Q .next { s with heap := h', toks := tk' })
  : wpAny (model PR w) (lawA L fa) (execs (stAt 3 :: stAt 4 :: stAt 5 :: stAt 6 :: []) (lawEnv L fa)) Q E { s with heap := h, toks := tk } := by
  cases M with
  | mk hR hH hit hv0 hv1 iN fN gN iT fT gT F N dH dN dT dV dP dK q1 q2 q3 q4 q5 q6 q7 q8 q9 q11 q10 hok =>
  conv in (stAt 3) => whnf
  conv in (stAt 4) => whnf
  conv in (stAt 5) => whnf
  conv in (stAt 6) => whnf
  unfold lawA lawEnv
  have hs : lawScope = lawScope := rfl
  conv at hs => rhs; whnf
  rw [hs]; clear hs
  show wpAny _ _ _ _ _ _
  w_top off
  k_steps
  all_goals first
    | (rename_i a; exact absurd rfl a)
    | (refine' hQ _ _ (rs) ?lenz1 (Mid.mk ?hRz1 ?hHz1 ?hitz1 hv0 hv1 iN fN gN iT fT gT (fr_hoist ?Fz1 ?e1z1 ?e2z1 ?e3z1) ?Nz1 dH dN dT dV dP dK q1 ?l2z1 q3 q4 q5 ?l6z1 ?l7z1 q8 q9 ?l11z1 ?l10z1 ?hokz1); (case lenz1 => first | exact Nat.le_refl _ | (simp [List.length_eraseIdx]; done) | (simp [List.length_eraseIdx]; split <;> omega)); (case Fz1 => assumption); (case e1z1 => exact rfl); (case e2z1 => exact rfl); (case e3z1 => exact rfl); (case hitz1 => exact hit);  (case hokz1 => assumption); (case l10z1 => assumption); (case Nz1 => (refine' kst_newsOf ?srcz1 ?subz1; (case srcz1 => assumption); (case subz1 => ((repeat (refine' List.forall_mem_cons.mpr ⟨?memz, ?_⟩; (case memz => (repeat (first | exact List.Mem.head _ | refine' List.Mem.tail _ ?_))))); (intro p hp; (repeat refine' List.Mem.tail _ ?_); exact hp))))); (case hRz1 => assumption); (case hHz1 => assumption); (all_goals (first | assumption | omega)))
end
section
local macro_rules | `(tactic| walk_at "eval ListComp") => `(tactic| (k_here; k_dflt (refine' comp_namesT (P := 92) ?hh ?F ?N ?U ?Ok ?hlo ?hl ?hmN ?iN ?fN ?gN ?hz ?hnd ?hmv ?hdv ?hmn ?hdn ?c1 ?c2 ?c3 ?c4 ?c5 ?k1 ?k2 ?k3 ?k4 ?k5 ?k6 ?d1 ?d2 ?d3 ?it ?_ ?hs; (case hh => exact rfl); (case F => k_asm); (case N => k_asm); (case U => k_updF); (case Ok => assumption); (case hlo => assumption); (case hl => (refine' ⟨(_, ?o), ?m, rfl⟩; (case m => k_mem))); (case c1 => exact rfl); (case k4 => exact rfl); (case k6 => exact rfl); (case it => (intro Q9 h9; refine' nameX_C ?n ?c ?m ?d h9; (case c => exact rfl); (case n => k_asm); (case m => k_mem); (case d => k_asm))); (case hmN => k_mem); (case iN => assumption); (case fN => assumption); (case gN => assumption); (case hz => omega); (case hnd => assumption); (case hmv => k_mem); (case hdv => k_asm); (case hmn => k_mem); (case hdn => k_asm); (case c2 => decide); (case c3 => exact rfl); (case c4 => decide); (case c5 => exact rfl); (case k1 => (intro _; exact rfl)); (case k2 => (intro _; exact rfl)); (case k3 => (intro _; exact rfl)); (case k5 => (intro _; exact rfl)); (case d1 => decide); (case d2 => decide); (case d3 => decide); (case hs => (intro _; exact rfl)); k_whole; intro D' ws' n' h' tk' cds' F' N' l1' pr' ok' lo' le'; (try dsimp only at N'))))
local macro_rules | `(tactic| walk_at "binaryOp Add ref ref") => `(tactic| (k_here; (with_reducible show wpAny _ _ (binaryOp Operator.Add (Value.ref _) (Value.ref _)) _ _ _); k_dflt (refine' add_some ?F ?N ?hD ?hl ?hz ?_; (case F => k_asm); (case N => k_asm); (case hD => k_mem); (case hl => k_mem); (case hz => omega); k_whole; intro D2' h' F' N' l2'; (try k_lt l2'))))
local macro_rules | `(tactic| walk_at "call type:dict") => `(tactic| (k_here; (with_reducible show wpAny _ _ (call (Value.type "dict") [Value.ref _]) _ _ _); k_dflt (refine' dict_rows ?hh ?F ?N ?hbig ?hl ?pr ?hnd ?hz ?_; (case hh => exact rfl); (case F => k_asm); (case N => k_asm); (case hbig => exact Top.nolimit (by k_asm)); (case hl => k_mem); (case pr => (first | (refine' PairRows.snoc ?pt (PairRows.mono ?ps ?pa); (case pa => assumption); (case pt => k_mem); (case ps => (intro q9 hq9; (repeat (first | exact hq9 | refine List.Mem.tail _ ?_))))) | (refine' PairRows.mono ?ps2 ?pa2; (case pa2 => assumption); (case ps2 => (intro q9 hq9; (repeat (first | exact hq9 | refine List.Mem.tail _ ?_))))))); (case hnd => (first | exact put_nodup (by assumption) | exact del_nodup (by assumption))); (case hz => (first | omega | (rw [List.length_append]; simp; omega))); k_whole; intro d' h' tk' o' kvs' F' N' l1' lo' hd' hf'; (try k_lt l1'))))
local macro_rules | `(tactic| walk_at "zz0") => `(tactic| skip)
theorem segH0 {w : World} {h₀ h : Heap} {L fa : Nat} {xs : List (Addr × Obj)} {mg mb : Str → Option Value} {mean : ExcName → Option Value} {E : Value → Shared → Prop} {Q : Flow → Shared → Prop} {s : Shared} {tk : Nat} {n va pl : Int} {kc : Str} {ktk : Nat} {rs : List Int} {DN DT : List (Str × Int)}
  (X : (hd.heap_39 w.params).In h₀) (T : Top topProg LL mean mg mb h₀) (B : Below callerA h₀ [] h₀) (C : CodeHd h₀ 94 92) (hlen : rs.length ≤ 63)  (hDN : DN.length ≤ 63) (hS : Same DN DT)
  (M : Mid w h₀ L xs n 0 va pl (some (.str kc ktk)) rs DN DT tk h)
  (hQ : ∀ h' tk' DN' DT', DN'.length ≤ DN.length + 1 → Same DN' DT' → Mid w h₀ L xs n 0 va pl (some (.str kc ktk)) rs DN' DT' tk h' → Q .next { s with heap := h', toks := tk' })
  : wpAny (model PR w) (lawA L fa) (execs (stAt 8 :: []) (lawEnv L fa)) Q E { s with heap := h, toks := tk } := by
  cases M with
  | mk hR hH hit hv0 hv1 iN fN gN iT fT gT F N dH dN dT dV dP dK q1 q2 q3 q4 q5 q6 q7 q8 q9 q11 q10 hok =>
  rename_i m t tsr tva tpl vR vH nR nH rA hA nA tA oV oT oP oK oH oN obN obT ps cds kN kT
  have hndN := hS.1
  have hndT := hS.nodupT
  have hlT := hS.length
  conv in (stAt 8) => whnf
  unfold lawA lawEnv
  have hs : lawScope = lawScope := rfl
  conv at hs => rhs; whnf
  rw [hs]; clear hs
  show wpAny _ _ _ _ _ _
  w_top off
  k_steps
  refine' hQ _ _ (kdzDel DN kc ++ [(kc, n)]) (kdpPut DT kc n) ?len (hS.put kc n) (Mid.mk hR hH hit hv0 hv1 ?iN ?fN ?gN ?iT ?fT ?gT (fr_hoist ?F ?e1 ?e2 ?e3) ?N dH ?dN dT dV dP dK q1 q2 q3 q4 ?l5 q6 q7 ?l8 ?l9 ?l11 ?l10 ?hok)
  case len => rw [List.length_append]; have := kdzDel_len DN kc; simp; omega
  case hok => assumption
  case l10 => assumption
  case F => assumption
  case e1 => exact rfl
  case e2 => exact rfl
  case e3 => exact rfl
  case fN => assumption
  case fT => assumption
  case iN => assumption
  case iT => assumption
  case N => (refine' kst_newsOf ?src ?sub; (case src => assumption); (case sub => ((repeat (refine' List.forall_mem_cons.mpr ⟨?memz, ?_⟩; (case memz => (repeat (first | exact List.Mem.head _ | refine' List.Mem.tail _ ?_))))); (intro p hp; (repeat refine' List.Mem.tail _ ?_); exact hp))))
  case dN => assumption
  all_goals first | assumption | omega
section
local macro_rules | `(tactic| walk_at "storeName") => `(tactic| (k_here; k_dflt (refine' storeX_C ?Fq ?Nq ?cq ?Uq ?dq ?_ ?aq ?bq; (case aq => rfl); (case bq => rfl); (case Fq => k_asm); (case Nq => k_asm); (case cq => rfl); (case Uq => k_updF); (case dq => k_asm); k_whole; intro h' o' F' N' d'; (try dsimp only at N'); (try k_sweep))))
local macro_rules | `(tactic| walk_at "compareOp In str ref") => `(tactic| (k_here; k_dflt (refine' in_told ?T ?hk ?_; (case T => k_tabat); (case hk => assumption); k_whole)))
local macro_rules | `(tactic| walk_at "call builtin:dict.get") => `(tactic| (k_here; (with_reducible show wpAny _ _ (PySem.call (Value.builtin "dict.get") [Value.ref _, Value.str _ _, Value.str _ _] _) _ _ _); k_dflt (first | (refine' get_told ?T ?hk ?hd ?_; (case T => k_tabat); (case hk => assumption); (case hd => exact PyProof.V.Flat.str _ _); k_whole; intro t') | (refine' get_gone ?T2 ?hk2 ?_; (case T2 => k_tabat); (case hk2 => assumption); k_whole; intro t'))))
local macro_rules | `(tactic| walk_at "subscriptTail") => `(tactic| (k_here; (with_reducible show wpAny _ _ (subscriptTail _ _ (Value.ref _) (Value.str _ _)) _ _ _); k_dflt (first | (refine' item_told ?T ?hk ?hl ?_ ?hs ?hg; (case T => k_tabat); (case hk => assumption); (case hl => assumption); (case hs => with_unfolding_all rfl); (case hg => (intro _; with_unfolding_all rfl)); k_whole; intro t') | (refine' item_gone ?hh2 ?T2 ?hk2 ?_ ?hs2 ?hg2; (case hh2 => exact rfl); (case T2 => k_tabat); (case hk2 => assumption); (case hs2 => with_unfolding_all rfl); (case hg2 => (intro _; with_unfolding_all rfl)); k_whole; intro h' tk' e' x'))))
local macro_rules | `(tactic| walk_at "delItem ref str") => `(tactic| (k_here; (with_reducible show wpAny _ _ (delItem (Value.ref _) (Value.str _ _)) _ _ _); k_dflt (refine' del_gone ?hh ?T ?hk ?_; (case hh => exact rfl); (case T => k_tabat); (case hk => assumption); k_whole; intro h' tk' e' x')))
local macro_rules | `(tactic| walk_at "callWith ref") => `(tactic| (k_here; (with_reducible show wpAny _ _ (callWith _ (Value.ref _) _ (backTo _ (starEach (Expr.Lambda _ _ _ _ :: _) _)) []) _ _ _); k_dflt (refine' callWith_K ?k1 ?k2 ?_; (case k1 => k_asm); (case k2 => k_is); k_whole; (try dsimp only [List.nil_append, List.cons_append]))))
theorem segH1 {w : World} {h₀ h : Heap} {L fa : Nat} {xs : List (Addr × Obj)} {mg mb : Str → Option Value} {mean : ExcName → Option Value} {E : Value → Shared → Prop} {Q : Flow → Shared → Prop} {s : Shared} {tk : Nat} {n va pl : Int} {kc : Str} {ktk : Nat} {rs : List Int} {DN DT : List (Str × Int)}
  (X : (hd.heap_39 w.params).In h₀) (T : Top topProg LL mean mg mb h₀) (B : Below callerA h₀ [] h₀) (C : CodeHd h₀ 94 92) (hlen : rs.length ≤ 63)  (hDN : DN.length ≤ 63) (hS : Same DN DT)
  (M : Mid w h₀ L xs n 1 va pl (some (.str kc ktk)) rs DN DT tk h)
  (hQ : ∀ h' tk' DN' DT', DN'.length ≤ DN.length + 1 → Same DN' DT' → Mid w h₀ L xs n 1 va pl (some (.str kc ktk)) rs DN' DT' tk h' → Q .next { s with heap := h', toks := tk' })
  : wpAny (model PR w) (lawA L fa) (execs (stAt 8 :: []) (lawEnv L fa)) Q E { s with heap := h, toks := tk } := by
  cases M with
  | mk hR hH hit hv0 hv1 iN fN gN iT fT gT F N dH dN dT dV dP dK q1 q2 q3 q4 q5 q6 q7 q8 q9 q11 q10 hok =>
  rename_i m t tsr tva tpl vR vH nR nH rA hA nA tA oV oT oP oK oH oN obN obT ps cds kN kT
  have hndN := hS.1
  have hndT := hS.nodupT
  have hlT := hS.length
  conv in (stAt 8) => whnf
  unfold lawA lawEnv
  have hs : lawScope = lawScope := rfl
  conv at hs => rhs; whnf
  rw [hs]; clear hs
  show wpAny _ _ _ _ _ _
  cases hkN : kdpHas DN kc with
  | true =>
    have hkT : kdpHas DT kc = true := (hS.has kc).trans hkN
    have hlk : kdpLook DT kc 0 = kdpLook DN kc 0 := hS.look hkN
    w_top off
    k_steps
    all_goals first | (rename_i a; exact absurd rfl a) | skip
    refine' hQ _ _ DN DT (by omega) hS (Mid.mk hR hH hit hv0 hv1 iN fN gN iT fT gT (fr_hoist ?Fq ?e1q ?e2q ?e3q) ?Nq dH dN dT dV dP dK q1 q2 q3 q4 q5 q6 q7 q8 q9 q11 ?l10q ?hokq)
    case hokq => assumption
    case l10q => assumption
    case Fq => assumption
    case e1q => exact rfl
    case e2q => exact rfl
    case e3q => exact rfl
    case Nq => (refine' kst_newsOf ?src ?sub; (case src => assumption); (case sub => ((repeat (refine' List.forall_mem_cons.mpr ⟨?memz, ?_⟩; (case memz => (repeat (first | exact List.Mem.head _ | refine' List.Mem.tail _ ?_))))); (intro p hp; (repeat refine' List.Mem.tail _ ?_); exact hp))))
  | false =>
    have hkT : kdpHas DT kc = false := (hS.has kc).trans hkN
    w_top off
    k_steps
    refine' hQ _ _ DN DT (by omega) hS (Mid.mk hR hH hit hv0 hv1 iN fN gN iT fT gT (fr_hoist ?Fq ?e1q ?e2q ?e3q) ?Nq dH dN dT dV dP dK q1 q2 q3 q4 q5 q6 q7 q8 q9 q11 ?l10q ?hokq)
    case hokq => assumption
    case l10q => assumption
    case Fq => assumption
    case e1q => exact rfl
    case e2q => exact rfl
    case e3q => exact rfl
    case Nq => (refine' kst_newsOf ?src ?sub; (case src => assumption); (case sub => ((repeat (refine' List.forall_mem_cons.mpr ⟨?memz, ?_⟩; (case memz => (repeat (first | exact List.Mem.head _ | refine' List.Mem.tail _ ?_))))); (intro p hp; (repeat refine' List.Mem.tail _ ?_); exact hp))))
theorem segH2a {w : World} {h₀ h : Heap} {L fa : Nat} {xs : List (Addr × Obj)} {mg mb : Str → Option Value} {mean : ExcName → Option Value} {E : Value → Shared → Prop} {Q : Flow → Shared → Prop} {s : Shared} {tk : Nat} {n va pl : Int} {kc : Str} {ktk : Nat} {rs : List Int} {DN DT : List (Str × Int)}
  (X : (hd.heap_39 w.params).In h₀) (T : Top topProg LL mean mg mb h₀) (B : Below callerA h₀ [] h₀) (C : CodeHd h₀ 94 92) (hlen : rs.length ≤ 63)  (hDN : DN.length ≤ 63) (hS : Same DN DT) (hkN : kdpHas DN kc = true)
  (M : Mid w h₀ L xs n 2 va pl (some (.str kc ktk)) rs DN DT tk h)
  (hQ : ∀ h' tk' DN' DT', DN'.length ≤ DN.length + 1 → Same DN' DT' → Mid w h₀ L xs n 2 va pl (some (.str kc ktk)) rs DN' DT' tk h' → Q .next { s with heap := h', toks := tk' })
  : wpAny (model PR w) (lawA L fa) (execs (stAt 8 :: []) (lawEnv L fa)) Q E { s with heap := h, toks := tk } := by
  cases M with
  | mk hR hH hit hv0 hv1 iN fN gN iT fT gT F N dH dN dT dV dP dK q1 q2 q3 q4 q5 q6 q7 q8 q9 q11 q10 hok =>
  rename_i m t tsr tva tpl vR vH nR nH rA hA nA tA oV oT oP oK oH oN obN obT ps cds kN kT
  have hndN := hS.1
  have hndT := hS.nodupT
  have hlT := hS.length
  conv in (stAt 8) => whnf
  unfold lawA lawEnv
  have hs : lawScope = lawScope := rfl
  conv at hs => rhs; whnf
  rw [hs]; clear hs
  show wpAny _ _ _ _ _ _
  have hkT : kdpHas DT kc = true := (hS.has kc).trans hkN
  w_top off
  k_steps
  refine' hQ _ _ (kdzDel DN kc) (kdzDel DT kc) ?lenq (hS.del kc) (Mid.mk hR hH hit hv0 hv1 ?iNq ?fNq ?gNq ?iTq ?fTq gT (fr_hoist ?Fq ?e1q ?e2q ?e3q) ?Nq dH ?dNq dT dV dP dK q1 q2 q3 q4 ?l5q q6 q7 ?l8q ?l9q ?l11q ?l10q ?hokq)
  case lenq => have := kdzDel_len DN kc; omega
  case hokq => assumption
  case l10q => assumption
  case Fq => assumption
  case e1q => exact rfl
  case e2q => exact rfl
  case e3q => exact rfl
  case fNq => assumption
  case iNq => assumption
  case fTq => assumption
  case iTq => assumption
  case Nq => (refine' kst_newsOf ?src ?sub; (case src => assumption); (case sub => ((repeat (refine' List.forall_mem_cons.mpr ⟨?memz, ?_⟩; (case memz => (repeat (first | exact List.Mem.head _ | refine' List.Mem.tail _ ?_))))); (intro p hp; (repeat refine' List.Mem.tail _ ?_); exact hp))))
  case dNq => assumption
  all_goals first | assumption | omega
theorem segH2b {w : World} {h₀ h : Heap} {L fa : Nat} {xs : List (Addr × Obj)} {mg mb : Str → Option Value} {mean : ExcName → Option Value} {E : Value → Shared → Prop} {Q : Flow → Shared → Prop} {s : Shared} {tk : Nat} {n va pl : Int} {kc : Str} {ktk : Nat} {rs : List Int} {DN DT : List (Str × Int)}
  (X : (hd.heap_39 w.params).In h₀) (T : Top topProg LL mean mg mb h₀) (B : Below callerA h₀ [] h₀) (C : CodeHd h₀ 94 92) (hlen : rs.length ≤ 63)  (hDN : DN.length ≤ 63) (hS : Same DN DT) (hkN : kdpHas DN kc = false)
  (M : Mid w h₀ L xs n 2 va pl (some (.str kc ktk)) rs DN DT tk h)
  (hQ : ∀ h' tk' DN' DT', DN'.length ≤ DN.length + 1 → Same DN' DT' → Mid w h₀ L xs n 2 va pl (some (.str kc ktk)) rs DN' DT' tk h' → Q .next { s with heap := h', toks := tk' })
  : wpAny (model PR w) (lawA L fa) (execs (stAt 8 :: []) (lawEnv L fa)) Q E { s with heap := h, toks := tk } := by
  cases M with
  | mk hR hH hit hv0 hv1 iN fN gN iT fT gT F N dH dN dT dV dP dK q1 q2 q3 q4 q5 q6 q7 q8 q9 q11 q10 hok =>
  rename_i m t tsr tva tpl vR vH nR nH rA hA nA tA oV oT oP oK oH oN obN obT ps cds kN kT
  have hndN := hS.1
  have hndT := hS.nodupT
  have hlT := hS.length
  conv in (stAt 8) => whnf
  unfold lawA lawEnv
  have hs : lawScope = lawScope := rfl
  conv at hs => rhs; whnf
  rw [hs]; clear hs
  show wpAny _ _ _ _ _ _
  have hkT : kdpHas DT kc = false := (hS.has kc).trans hkN
  w_top off
  k_steps
  refine' hQ _ _ (kdzDel DN kc) DT ?lenq (hS.del_no hkN) (Mid.mk hR hH hit hv0 hv1 ?iNq ?fNq ?gNq iT fT gT (fr_hoist ?Fq ?e1q ?e2q ?e3q) ?Nq dH ?dNq dT dV dP dK q1 q2 q3 q4 ?l5q q6 q7 ?l8q ?l9q ?l11q ?l10q ?hokq)
  case lenq => have := kdzDel_len DN kc; omega
  case hokq => assumption
  case l10q => assumption
  case Fq => assumption
  case e1q => exact rfl
  case e2q => exact rfl
  case e3q => exact rfl
  case fNq => assumption
  case iNq => assumption
  case Nq => (refine' kst_newsOf ?src ?sub; (case src => assumption); (case sub => ((repeat (refine' List.forall_mem_cons.mpr ⟨?memz, ?_⟩; (case memz => (repeat (first | exact List.Mem.head _ | refine' List.Mem.tail _ ?_))))); (intro p hp; (repeat refine' List.Mem.tail _ ?_); exact hp))))
  case dNq => assumption
  all_goals first | assumption | omega
end
end
section
local macro_rules | `(tactic| walk_at "compareOp NotEq ref ref") => `(tactic| (k_here; (with_reducible show wpAny _ _ (compareOp CmpOp.NotEq (Value.ref _) (Value.ref _)) _ _ _); k_dflt (refine' dicts_same ?Tq ?Uq ?Sq ?uq ?_; (case Tq => k_tabat); (case Uq => k_tabat); (case Sq => assumption); (case uq => k_units); k_whole)))
local macro_rules | `(tactic| walk_at "call builtin:len") => `(tactic| (k_here; (with_reducible show wpAny _ _ (PySem.call (Value.builtin "len") [Value.ref _] _) _ _ _); k_dflt (refine' len_fn ?hhq ?Tq ?_; (case hhq => exact rfl); (case Tq => (refine' ⟨kla_obj _ _ _ _ _ _ _ _ _, ?gq, ?cq⟩; (case gq => exact (News.get (by k_asm) (by k_mem))); (case cq => exact rfl))); k_whole; intro h' tk' e' x')))
local macro_rules | `(tactic| walk_at "noteFrame ref") => `(tactic| (k_here; (first | (rename NewAny _ _ _ _ => nxX) | ((rename Heap.NewExc _ _ _ _ => nyX); have nxX := NewAny.of nyX; clear nyX)); k_dflt (refine' noted_new ?Kq ?xq ?Fq ?Nq ?_; (case xq => exact nxX); (case Kq => assumption); (case Fq => assumption); (case Nq => assumption); k_whole); clear nxX; intro G' h' FG' R' U'; (try dsimp only at R' U' ⊢)))
local macro_rules | `(tactic| walk_at "call type:type") => `(tactic| (k_here; k_dflt (refine' type_fn ?gq ?cq ?_; (case gq => exact (News.get (by k_asm) (by k_mem))); (case cq => exact rfl); k_whole)))
local macro_rules | `(tactic| walk_at "getAttr") => `(tactic| (k_here; k_dflt (refine' fn_hint ?hhq ?_; (case hhq => exact rfl); k_whole; intro h' tk' e' x')))
theorem segJ {w : World} {h₀ h : Heap} {L fa : Nat} {xs : List (Addr × Obj)} {mg mb : Str → Option Value} {mean : ExcName → Option Value} {E : Value → Shared → Prop} {Q : Flow → Shared → Prop} {s : Shared} {tk : Nat} {n sr va pl : Int} {kc : Str} {ktk : Nat} {rs : List Int} {DN DT : List (Str × Int)}
  (X : (hd.heap_39 w.params).In h₀) (T : Top topProg LL mean mg mb h₀) (B : Below callerA h₀ [] h₀) (C : CodeHd h₀ 94 92) (hlen : rs.length ≤ 63)  (hDN : DN.length ≤ 64) (hS : Same DN DT) (hva : -3 ≤ pl ∧ pl ≤ 90)
  (M : Mid w h₀ L xs n sr va pl (some (.str kc ktk)) rs DN DT tk h)
  (hQ : ∀ h' tk', Mid w h₀ L xs n sr va pl (some (.str kc ktk)) rs DN DT tk h' → Q .next { s with heap := h', toks := tk' })
  : wpAny (model PR w) (lawA L fa) (execs (stAt 9 :: []) (lawEnv L fa)) Q E { s with heap := h, toks := tk } := by
  cases M with
  | mk hR hH hit hv0 hv1 iN fN gN iT fT gT F N dH dN dT dV dP dK q1 q2 q3 q4 q5 q6 q7 q8 q9 q11 q10 hok =>
  rename_i m t tsr tva tpl vR vH nR nH rA hA nA tA oV oT oP oK oH oN obN obT ps cds kN kT
  conv in (stAt 9) => whnf
  unfold lawA lawEnv
  have hs : lawScope = lawScope := rfl
  conv at hs => rhs; whnf
  rw [hs]; clear hs
  show wpAny _ _ _ _ _ _
  w_top off
  k_steps
  · rename_i a; exact absurd rfl a
  refine' hQ _ _ (Mid.mk hR hH hit hv0 hv1 iN fN gN iT fT gT (fr_hoist ?Fq ?e1q ?e2q ?e3q) ?Nq dH dN dT dV dP dK q1 q2 q3 q4 q5 q6 q7 q8 q9 q11 ?l10q ?hokq)
  case hokq => assumption
  case l10q => assumption
  case Fq => assumption
  case e1q => exact rfl
  case e2q => exact rfl
  case e3q => exact rfl
  case Nq => (refine' kst_newsOf ?src ?sub; (case src => assumption); (case sub => ((repeat (refine' List.forall_mem_cons.mpr ⟨?memz, ?_⟩; (case memz => (repeat (first | exact List.Mem.head _ | refine' List.Mem.tail _ ?_))))); (intro p hp; (repeat refine' List.Mem.tail _ ?_); exact hp))))
end
end
end Mine
namespace Mine
open PySem PySem.W PyProof.Rows PySem.Calls PySem.Spec PyProof.V
theorem cut {M : Model} {A : Around} {env : Env} {Q : Flow → Shared → Prop} {l1 l2 : List Stmt} {s : Shared} {h : Heap} {tk : Nat} (P : Heap → Prop)
    (h1 : ∀ Q' : Flow → Shared → Prop, (∀ h' tk', P h' → Q' .next { s with heap := h', toks := tk' }) → wpAny M A (execs l1 env) Q' (fun _ _ => False) { s with heap := h, toks := tk })
    (h2 : ∀ h' tk', tk ≤ tk' → P h' → wpAny M A (execs l2 env) Q (fun _ _ => False) { s with heap := h', toks := tk' }) :
    wpAny M A (execs (l1 ++ l2) env) Q (fun _ _ => False) { s with heap := h, toks := tk } := by
  refine execs_app (wpAny_with_toks (n := tk) (Nat.le_refl _) (wpAny_noRaise (h1 _ fun h' tk' hp htk => ?_)))
  exact h2 h' tk' htk hp
theorem body_split : forBody = [stAt 0, stAt 1, stAt 2] ++ ([stAt 3, stAt 4, stAt 5, stAt 6] ++ ([stAt 7] ++ ([stAt 8] ++ ([stAt 9] ++ [stAt 10])))) := by rfl
theorem sorts (n : Int) : n.fmod 5 = 0 ∨ n.fmod 5 = 1 ∨ n.fmod 5 = 2 ∨ n.fmod 5 = 3 ∨ n.fmod 5 = 4 := by
  have h1 := Int.fmod_nonneg_of_pos n (show (0 : Int) < 5 by decide)
  have h2 := Int.fmod_lt_of_pos n (show (0 : Int) < 5 by decide)
  omega
section
variable {w : World} {h₀ : Heap} {L fa : Nat} {xs : List (Addr × Obj)} {mg mb : Str → Option Value} {mean : ExcName → Option Value} {s : Shared} {n : Int}
theorem segG {h : Heap} {tk : Nat} {sr va pl : Int} {vk : Option Value} {rs : List Int} {DN DT : List (Str × Int)} {Q : Flow → Shared → Prop}
    (X : (hd.heap_39 w.params).In h₀) (T : Top topProg LL mean mg mb h₀) (B : Below callerA h₀ [] h₀) (C : CodeHd h₀ 94 92) (hlen : rs.length ≤ 63) (hpl : -3 ≤ pl ∧ pl ≤ (rs.length : Int) + 1) (hva : 0 ≤ va ∧ va ≤ 6)
    (hsr : sr = 0 ∨ sr = 1 ∨ sr = 2 ∨ sr = 3 ∨ sr = 4) (M : Mid w h₀ L xs n sr va pl vk rs DN DT tk h)
    (hQ : ∀ h' tk', (∃ rs', rs'.length ≤ rs.length ∧ Mid w h₀ L xs n sr va pl vk rs' DN DT tk h') → Q .next { s with heap := h', toks := tk' }) :
    wpAny (model PR w) (lawA L fa) (execs [stAt 3, stAt 4, stAt 5, stAt 6] (lawEnv L fa)) Q (fun _ _ => False) { s with heap := h, toks := tk } := by
  rcases hsr with e | e | e | e | e <;> subst e
  · with_reducible exact g0 X T B C hlen hpl M fun h' tk' rs' a b => hQ h' tk' ⟨rs', a, b⟩
  · with_reducible exact g1 X T B C hlen hpl M fun h' tk' rs' a b => hQ h' tk' ⟨rs', a, b⟩
  · with_reducible exact g2 X T B C hlen hpl M fun h' tk' rs' a b => hQ h' tk' ⟨rs', a, b⟩
  · with_reducible exact g3 X T B C hlen hpl hva M fun h' tk' rs' a b => hQ h' tk' ⟨rs', a, b⟩
  · with_reducible exact g4 X T B C hlen hpl hva M fun h' tk' rs' a b => hQ h' tk' ⟨rs', a, b⟩
theorem segH {h : Heap} {tk : Nat} {sr va pl : Int} {kc : Str} {ktk : Nat} {rs : List Int} {DN DT : List (Str × Int)} {Q : Flow → Shared → Prop}
    (X : (hd.heap_39 w.params).In h₀) (T : Top topProg LL mean mg mb h₀) (B : Below callerA h₀ [] h₀) (C : CodeHd h₀ 94 92) (hlen : rs.length ≤ 63) (hDN : DN.length ≤ 63) (hS : Same DN DT)
    (hsr : sr = 0 ∨ sr = 1 ∨ sr = 2 ∨ sr = 3 ∨ sr = 4) (M : Mid w h₀ L xs n sr va pl (some (.str kc ktk)) rs DN DT tk h)
    (hQ : ∀ h' tk', (∃ DN' DT', DN'.length ≤ DN.length + 1 ∧ Same DN' DT' ∧ Mid w h₀ L xs n sr va pl (some (.str kc ktk)) rs DN' DT' tk h') → Q .next { s with heap := h', toks := tk' }) :
    wpAny (model PR w) (lawA L fa) (execs [stAt 8] (lawEnv L fa)) Q (fun _ _ => False) { s with heap := h, toks := tk } := by
  rcases hsr with e | e | e | e | e <;> subst e
  · exact segH0 X T B C hlen hDN hS M fun h' tk' DN' DT' a b c => hQ h' tk' ⟨DN', DT', a, b, c⟩
  · exact segH1 X T B C hlen hDN hS M fun h' tk' DN' DT' a b c => hQ h' tk' ⟨DN', DT', a, b, c⟩
  · cases hk : kdpHas DN kc with
    | true => exact segH2a X T B C hlen hDN hS hk M fun h' tk' DN' DT' a b c => hQ h' tk' ⟨DN', DT', a, b, c⟩
    | false => exact segH2b X T B C hlen hDN hS hk M fun h' tk' DN' DT' a b c => hQ h' tk' ⟨DN', DT', a, b, c⟩
  · exact segH3 X T B C hlen hDN hS M fun h' tk' DN' DT' a b c => hQ h' tk' ⟨DN', DT', a, b, c⟩
  · exact segH4 X T B C hlen hDN hS M fun h' tk' DN' DT' a b c => hQ h' tk' ⟨DN', DT', a, b, c⟩
/-- a turn of the law's loop -/
theorem turn {h : Heap} {tk : Nat} {rs : List Int} {DN DT : List (Str × Int)} {Q : Flow → Shared → Prop}
    (X : (hd.heap_39 w.params).In h₀) (T : Top topProg LL mean mg mb h₀) (B : Below callerA h₀ [] h₀) (C : CodeHd h₀ 94 92) (hlen : rs.length ≤ 62) (hDN : DN.length ≤ 62) (hS : Same DN DT)
    (M : Head w h₀ L xs n rs DN DT tk h)
    (hQ : ∀ h' tk' sr va pl vk rs' DN' DT', rs'.length ≤ rs.length + 1 → DN'.length ≤ DN.length + 1 → Same DN' DT' → Mid w h₀ L xs n sr va pl vk rs' DN' DT' tk' h' → Q .next { s with heap := h', toks := tk' }) :
    wpAny (model PR w) (lawA L fa) (execs forBody (lawEnv L fa)) Q (fun _ _ => False) { s with heap := h, toks := tk } := by
  rw [body_split]
  with_reducible refine execs_app (segA X T B C hlen M fun h1 tk1 rs1 va pl v3 l1 hva hpl M1 => ?_)
  dsimp only
  have hpl' : -3 ≤ pl ∧ pl ≤ 90 := by omega
  refine cut (fun h' => ∃ rs', rs'.length ≤ rs1.length ∧ Mid w h₀ L xs n (n.fmod 5) va pl v3 rs' DN DT tk1 h') (fun Q' hQ' => segG X T B C (by omega) hpl hva (sorts n) M1 hQ') ?_
  rintro h2 tk2 le2 ⟨rs2, l2, M2⟩
  have M2' := M2.more le2
  refine cut (fun h' => ∃ (c : Str) (t : Nat), Mid w h₀ L xs n (n.fmod 5) va pl (some (.str c t)) rs2 DN DT tk2 h') (fun Q' hQ' => segK X T B C (by omega) M2' fun h' tk' c t _ m => hQ' h' tk' ⟨c, t, m⟩) ?_
  rintro h3 tk3 le3 ⟨kc, ktk, M3⟩
  have M3' := M3.more le3
  refine cut (fun h' => ∃ DN' DT', DN'.length ≤ DN.length + 1 ∧ Same DN' DT' ∧ Mid w h₀ L xs n (n.fmod 5) va pl (some (.str kc ktk)) rs2 DN' DT' tk3 h') (fun Q' hQ' => segH X T B C (by omega) (by omega) hS (sorts n) M3' hQ') ?_
  rintro h4 tk4 le4 ⟨DN4, DT4, l4, hS4, M4⟩
  have M4' := M4.more le4
  refine cut (fun h' => Mid w h₀ L xs n (n.fmod 5) va pl (some (.str kc ktk)) rs2 DN4 DT4 tk4 h') (fun Q' hQ' => segJ X T B C (by omega) (by omega) hS4 hpl' M4' fun h' tk' m => hQ' h' tk' m) ?_
  intro h5 tk5 le5 M5
  have M5' := M5.more le5
  refine wpAny_with_toks (n := tk5) (Nat.le_refl _) (wpAny_noRaise (segD X T B C (by omega) hva PassesOwn.never M5' fun h6 tk6 M6 le6 => ?_))
  exact hQ h6 tk6 _ _ _ _ rs2 DN4 DT4 (by omega) l4 hS4 (M6.more le6)
end
end Mine
namespace Mine
open PySem PySem.W PyProof.Rows PySem.Calls PySem.Spec PyProof.V
/-- the law's cells and objects between the turns -/
inductive Pre (w : World) (h₀ : Heap) (L : Nat) (xs : List (Addr × Obj)) (rs : List Int) (DN DT : List (Str × Int)) (tk : Nat) (h : Heap) : Prop
  | mk {m : Str → Option Value} {vR vH : List Value} {nR nH : Nat} {rA hA nA tA : Nat} {oV oT oP oK oH oN obN obT : Obj} {ps : Array Value} {cds : List (Addr × Obj)} {kN kT : List (Str × Value)} {v1 v2 v3 : Option Value}
    (hR : IntsAre vR rs) (hH : IntsAre vH rs) (hit : Items0 tk vH)
    (iN : obN.IsDictOf (PySem.strKind PR w) kN) (fN : PyProof.V.FlatPairs PyData.str kN (kdpD DN)) (gN : (nA == sysModules) = false)
    (iT : obT.IsDictOf (PySem.strKind PR w) kT) (fT : PyProof.V.FlatPairs PyData.str kT (kdpD DT)) (gT : (tA == sysModules) = false)
    (F : Fr h₀ L h (fun y => if y = Str.ofString "row" then some (.ref rA) else m y))
    (N : News h₀ L h ((L+1+1+1+1+1+1, oV) :: (L+1+1+1+1+1, oT) :: (L+1+1+1+1, oP) :: (L+1+1+1, oK) :: (L+1+1, oH) :: (L+1, oN) :: (rA, W.listOf vR.toArray nR) :: (hA, W.listOf vH.toArray nH) :: (nA, obN) :: (tA, obT) :: (92, tabObj ps) :: cds))
    (dH : oH.data = .cell (some (.ref hA))) (dN : oN.data = .cell (some (.ref nA))) (dT : oT.data = .cell (some (.ref tA)))
    (dV : oV.data = .cell v1) (dP : oP.data = .cell v2) (dK : oK.data = .cell v3)
    (q1 : 92 < L) (q2 : L+1+1+1+1+1+1 < rA) (q3 : L+1+1+1+1+1+1 < hA) (q4 : hA < tA) (q5 : L+1+1+1+1+1+1 < nA) (q6 : rA ≠ hA) (q7 : rA ≠ tA) (q8 : nA ≠ hA) (q9 : nA ≠ tA) (q11 : rA ≠ nA) (q10 : ∀ p ∈ cds, tA < p.1)
    (hok : CodesOk xs (Str.ofString "law.<locals>.<lambda>") ps cds) : Pre w h₀ L xs rs DN DT tk h
section
variable {w : World} {h₀ h : Heap} {L : Nat} {xs : List (Addr × Obj)} {rs : List Int} {DN DT : List (Str × Int)} {tk : Nat}
theorem Mid.pre {n sr va pl : Int} {vk : Option Value} (x : Mid w h₀ L xs n sr va pl vk rs DN DT tk h) : Pre w h₀ L xs rs DN DT tk h := by
  cases x with
  | mk hR hH hit hv0 hv1 iN fN gN iT fT gT F N dH dN dT dV dP dK l1 l2 l3 l4 l5 l6 l7 l8 l9 l11 l10 hok => exact .mk hR hH hit.zero iN fN gN iT fT gT F N dH dN dT dV dP dK l1 l2 l3 l4 l5 l6 l7 l8 l9 l11 l10 hok
theorem Pre.more {tk' : Nat} (x : Pre w h₀ L xs rs DN DT tk h) (le : tk ≤ tk') : Pre w h₀ L xs rs DN DT tk' h := by
  cases x with
  | mk hR hH hit iN fN gN iT fT gT F N dH dN dT dV dP dK l1 l2 l3 l4 l5 l6 l7 l8 l9 l11 l10 hok => exact .mk hR hH (hit.more le) iN fN gN iT fT gT F N dH dN dT dV dP dK l1 l2 l3 l4 l5 l6 l7 l8 l9 l11 l10 hok
theorem Pre.fr (x : Pre w h₀ L xs rs DN DT tk h) : ∃ m, Fr h₀ L h m := by
  cases x with
  | mk hR hH hit iN fN gN iT fT gT F N => exact ⟨_, F⟩
theorem Pre.keep {h' : Heap} (x : Pre w h₀ L xs rs DN DT tk h) (hk : ∀ b o, h.get? b = some o → h'.get? b = some o) : Pre w h₀ L xs rs DN DT tk h' := by
  cases x with
  | mk hR hH hit iN fN gN iT fT gT F N dH dN dT dV dP dK l1 l2 l3 l4 l5 l6 l7 l8 l9 l11 l10 hok => exact .mk hR hH hit iN fN gN iT fT gT (F.keeps hk) (N.grown hk) dH dN dT dV dP dK l1 l2 l3 l4 l5 l6 l7 l8 l9 l11 l10 hok
/-- the number stored -/
theorem Pre.store {M : Model} {A : Around} {E : Value → Shared → Prop} {Q : Unit → Shared → Prop} {s : Shared} {env : Env} {n : Int} {t tk1 : Nat} (x : Pre w h₀ L xs rs DN DT tk h) (hL : env.locals = L) (hx : env.kindOf (Str.ofString "number") = some .local)
    (hp : (env.scope.kind == .class || (env.scope.kind == .module && env.locals != env.globals)) = false)
    (k : ∀ h' tk', Head w h₀ L xs n rs DN DT tk h' → Q () { s with heap := h', toks := tk' }) : wpAny M A (storeName env (Str.ofString "number") (.int n t)) Q E { s with heap := h, toks := tk1 } := by
  subst hL
  cases x with
  | mk hR hH hit iN fN gN iT fT gT F N dH dN dT dV dP dK l1 l2 l3 l4 l5 l6 l7 l8 l9 l11 l10 hok =>
    exact wpAny_storeName_local hx F.ns (fun h₂ hn₂ hs₂ => k h₂ _ (.mk hR hH hit iN fN gN iT fT gT (F.set hn₂ hs₂) (N.set hs₂) dH dN dT dV dP dK l1 l2 l3 l4 l5 l6 l7 l8 l9 l11 l10 hok)) hp
/-- the loop's iterator goes on: all else stands -/
theorem Pre.next {h' : Heap} {I l : Addr} {oI oI' : Obj} {i : Nat} (x : Pre w h₀ L [(I, oI)] rs DN DT tk h) (hd : oI.data = .fields #[.ref l, .int i 0])
    (hk : ∀ b o, b ≠ I → h.get? b = some o → h'.get? b = some o) (hI : h'.get? I = some oI') : Pre w h₀ L [(I, oI')] rs DN DT tk h' := by
  cases x with
  | @mk m vR vH nR nH rA hA nA tA oV oT oP oK oH oN obN obT ps cds kN kT v1 v2 v3 hR hH hit iN fN gN iT fT gT F N dH dN dT dV dP dK l1 l2 l3 l4 l5 l6 l7 l8 l9 l11 l10 hok =>
    have hmI : (I, oI) ∈ cds := hok.2.2 _ (.head _)
    have hlt : @LT.lt Nat _ tA I := l10 _ hmI
    have zI := N _ (.tail _ (.tail _ (.tail _ (.tail _ (.tail _ (.tail _ (.tail _ (.tail _ (.tail _ (.tail _ (.tail _ hmI)))))))))))
    have hIL : I ≠ L := zI.2.1
    have hI0 : h₀.get? I = none := zI.2.2
    have same : ∀ p : Addr × Obj, h.get? p.1 = some p.2 → p.1 = I → p.2 = oI := fun p e q => by rw [q] at e; exact Option.some.inj (e.symm.trans zI.1)
    have hrA : rA ≠ I := fun e => by
      have z := N (rA, W.listOf vR.toArray nR) (by simp)
      have := same (rA, W.listOf vR.toArray nR) z.1 e
      rw [← show (W.listOf vR.toArray nR) = oI from this] at hd
      cases hd
    have hnA : nA ≠ I := fun e => by
      have z := N (nA, obN) (by simp)
      have := same (nA, obN) z.1 e
      obtain ⟨es, ep, _, hdd, _⟩ := iN
      rw [show obN = oI from this, hd] at hdd
      cases hdd
    refine .mk (nR := nR) (nH := nH) (cds := (I, oI') :: cds.filter (fun p => decide (p.1 ≠ I))) hR hH hit iN fN gN iT fT gT ⟨F.ns.at' fun o e => hk L o (Ne.symm hIL) e, fun b o e => hk b o (fun q => by rw [q, hI0] at e; cases e) (F.keep b o e), F.above⟩ (fun p hp => ?_)
      dH dN dT dV dP dK l1 l2 l3 l4 l5 l6 l7 l8 l9 l11 (fun p hp => ?_) ⟨hok.1, fun pos cv e => ?_, fun p hp => ?_⟩
    · have old : p ≠ (I, oI') → p.1 ≠ I → p ∈ ((L+1+1+1+1+1+1, oV) :: (L+1+1+1+1+1, oT) :: (L+1+1+1+1, oP) :: (L+1+1+1, oK) :: (L+1+1, oH) :: (L+1, oN) :: (rA, W.listOf vR.toArray nR) :: (hA, W.listOf vH.toArray nH) :: (nA, obN) :: (tA, obT) :: (92, tabObj ps) :: cds) → h'.get? p.1 = some p.2 ∧ p.1 ≠ L ∧ h₀.get? p.1 = none :=
        fun _ hpI hm => ⟨hk _ _ hpI (N p hm).1, (N p hm).2⟩
      simp only [List.mem_cons, List.mem_filter, decide_eq_true_eq] at hp
      have nn : ∀ (a : Nat) (o : Obj), p = (a, o) → a ≠ I → p ∈ ((L+1+1+1+1+1+1, oV) :: (L+1+1+1+1+1, oT) :: (L+1+1+1+1, oP) :: (L+1+1+1, oK) :: (L+1+1, oH) :: (L+1, oN) :: (rA, W.listOf vR.toArray nR) :: (hA, W.listOf vH.toArray nH) :: (nA, obN) :: (tA, obT) :: (92, tabObj ps) :: cds) → h'.get? p.1 = some p.2 ∧ p.1 ≠ L ∧ h₀.get? p.1 = none := fun a o e ha hm => by
        refine old (fun q => ha ?_) (fun q => ha ?_) hm
        · rw [e] at q; exact congrArg Prod.fst q
        · rw [e] at q; exact q
      rcases hp with e | e | e | e | e | e | e | e | e | e | e | e | ⟨hm, hne⟩
      · exact nn _ _ e (by omega) (by rw [e]; simp)
      · exact nn _ _ e (by omega) (by rw [e]; simp)
      · exact nn _ _ e (by omega) (by rw [e]; simp)
      · exact nn _ _ e (by omega) (by rw [e]; simp)
      · exact nn _ _ e (by omega) (by rw [e]; simp)
      · exact nn _ _ e (by omega) (by rw [e]; simp)
      · exact nn _ _ e hrA (by rw [e]; simp)
      · exact nn _ _ e (by omega) (by rw [e]; simp)
      · exact nn _ _ e hnA (by rw [e]; simp)
      · exact nn _ _ e (by omega) (by rw [e]; simp)
      · exact nn _ _ e (by omega) (by rw [e]; simp)
      · rw [e]; exact ⟨hI, hIL, hI0⟩
      · exact ⟨hk _ _ hne (N p (by simp [hm])).1, (N p (by simp [hm])).2⟩
    · rcases List.mem_cons.mp hp with rfl | hp
      · exact hlt
      · exact l10 p (List.mem_filter.mp hp).1
    · obtain ⟨c, oc, vs, t, e1, e2, e3, e4⟩ := hok.2.1 pos cv e
      refine ⟨c, oc, vs, t, e1, .tail _ (List.mem_filter.mpr ⟨e2, decide_eq_true fun q => ?_⟩), e3, e4⟩
      have z := N (c, oc) (by simp [e2])
      have := same (c, oc) z.1 q
      rw [show oc = oI from this, hd] at e3
      injection e3 with e3
      rw [← e3] at e4
      cases e4
    · rw [List.mem_singleton.mp hp]; exact .head _
/-- the iterator into the ledger -/
theorem Pre.add {I : Addr} {oI : Obj} (x : Pre w h₀ L [] rs DN DT tk h) (hI : h.get? I = some oI) (hIL : I ≠ L) (hI0 : h₀.get? I = none) (hlt : ∀ b o, h.get? b = some o → b ≠ I → @LT.lt Nat _ b I)
    {vs : Array Value} (hd : oI.data = .fields vs) : Pre w h₀ L [(I, oI)] rs DN DT tk h := by
  cases x with
  | @mk m vR vH nR nH rA hA nA tA oV oT oP oK oH oN obN obT ps cds kN kT v1 v2 v3 hR hH hit iN fN gN iT fT gT F N dH dN dT dV dP dK l1 l2 l3 l4 l5 l6 l7 l8 l9 l11 l10 hok =>
    have zT := N (tA, obT) (by simp)
    have htI : tA ≠ I := fun e => by
      have : obT = oI := Option.some.inj ((show h.get? I = some obT from e ▸ zT.1).symm.trans hI)
      obtain ⟨es, ep, _, hdd, _⟩ := iT
      rw [this, hd] at hdd
      cases hdd
    refine .mk (nR := nR) (nH := nH) (cds := (I, oI) :: cds) hR hH hit iN fN gN iT fT gT F (fun p hp => ?_) dH dN dT dV dP dK l1 l2 l3 l4 l5 l6 l7 l8 l9 l11 (fun p hp => ?_) ⟨hok.1, fun pos cv e => ?_, fun p hp => ?_⟩
    · by_cases e : p = (I, oI)
      · rw [e]; exact ⟨hI, hIL, hI0⟩
      · refine N p ?_
        simp only [List.mem_cons] at hp ⊢
        rcases hp with a | a | a | a | a | a | a | a | a | a | a | a | a
        all_goals first | exact absurd a e | simp [a]
    · rcases List.mem_cons.mp hp with rfl | hp
      · exact hlt tA obT zT.1 htI
      · exact l10 p hp
    · obtain ⟨c, oc, vs, t, e1, e2, e3, e4⟩ := hok.2.1 pos cv e
      exact ⟨c, oc, vs, t, e1, .tail _ e2, e3, e4⟩
    · rw [List.mem_singleton.mp hp]; exact .head _
end
end Mine
namespace Mine
open PySem PySem.W PyProof.Rows PySem.Calls PySem.Spec PyProof.V
theorem law_loop {w : World} {h₀ h : Heap} {L fa : Nat} {mg mb : Str → Option Value} {mean : ExcName → Option Value} {s : Shared} {tk : Nat} {l : Addr} {vs : List Value} {ns : List Int} {m : Str → Option Value} {px ip pos : Pos} {Q : Flow → Shared → Prop} {E : Value → Shared → Prop}
    (X : (hd.heap_39 w.params).In h₀) (T : Top topProg LL mean mg mb h₀) (B : Below callerA h₀ [] h₀) (C : CodeHd h₀ 94 92) (hl : h₀.IsList l vs.toArray) (hi : IntsAre vs ns) (hlen : ns.length ≤ 63)
    (F : Fr h₀ L h m) (hm : m (Str.ofString "script") = some (.ref l)) (P : Pre w h₀ L [] [] [] [] tk h)
    (hQ : ∀ h' tk' m' ps, Fr h₀ L h' m' → News h₀ L h' [(92, tabObj ps)] → Q .next { s with heap := h', toks := tk' }) :
    wpAny (model PR w) (lawA L fa) (exec (.For (.Name (Str.ofString "number") px) (.Name (Str.ofString "script") ip) forBody [] pos) (lawEnv L fa)) Q E { s with heap := h, toks := tk } := by
  refine wpAny_noRaise (wpAny_For ?_ (by intro _; rfl))
  refine wpAny_Name (wpAny_loadName_local (by rfl) (by rfl) F.ns hm ?_) (by decide)
  have hls : h.IsList l vs.toArray := hl.at fun o e => F.keep l o e
  refine wpAny_pyIter_list hls ?_
  have hlh : l < h.objs.size := by obtain ⟨_, e, _⟩ := hls; exact Heap.lt_size e
  have hne : l ≠ h.objs.size := Nat.ne_of_lt hlh
  have W := Walks.list (prog := PR) (w := w) (A := lawA L fa) (by rfl) h.objs.size l hne vs.toArray
  have hsz : vs.toArray.size = ns.length := by rw [List.size_toArray]; exact hi.length
  rw [hsz] at W
  have hI0 : h₀.get? h.objs.size = none := next_is_new F
  have hIL : h.objs.size ≠ L := Ne.symm (Nat.ne_of_lt F.ns.lt)
  have up : ∀ b o, h.get? b = some o → (h.push { cls := .type "list_iterator", data := .fields #[.ref l, .int 0 0] }).get? b = some o := fun b o e => Heap.get?_push_of_some _ e
  have gI : (h.push { cls := .type "list_iterator", data := .fields #[.ref l, .int 0 0] }).get? h.objs.size = some { cls := .type "list_iterator", data := .fields #[.ref l, .int 0 0] } := Heap.get?_push_size _ rfl
  refine codeAny_forLoop_any
    (fun k s' => ∃ h' tk i rs DN DT oI, s' = { s with heap := h', toks := tk } ∧ h'.get? h.objs.size = some oI ∧ oI.cls = .type "list_iterator" ∧ oI.data = .fields #[.ref l, .int ((i : Nat) : Int) 0] ∧ Pre w h₀ L [(h.objs.size, oI)] rs DN DT tk h' ∧ rs.length ≤ i ∧ DN.length ≤ i ∧ Same DN DT ∧ i ≤ ns.length ∧ k = ns.length + 1 - i) ?_ (ns.length + 1)
    ⟨_, tk, 0, [], [], [], _, rfl, gI, rfl, rfl, (P.keep up).add gI hIL hI0 (fun b o e hb => ?_) rfl, Nat.zero_le _, Nat.zero_le _, ⟨List.nodup_nil, .nil⟩, Nat.zero_le _, rfl⟩
  · rintro k s' ⟨H, tk1, i, rs, DN, DT, oI, rfl, gI', hc, hd', P', hr, hD, hS, hin, rfl⟩
    obtain ⟨m1, F1⟩ := P'.fr
    have hst : H.IsListIter h.objs.size l i ∧ H.IsList l vs.toArray := ⟨⟨oI, gI', hc, hd'⟩, hl.at fun o e => F1.keep l o e⟩
    by_cases hlt : i < ns.length
    · refine wpAny_with_toks (n := tk1) (Nat.le_refl _) (W.item i _ _ _ hlt hst fun v h₁ tk₁ hv hst₁ hk₁ htk₁ => ?_)
      obtain ⟨oI', gI1, hc1, hd1⟩ := hst₁.1
      have P1 : Pre w h₀ L [(h.objs.size, oI')] rs DN DT tk1 h₁ := P'.next hd' (fun b o hb e => hk₁ b o (by simpa using hb) e) gI1
      have P2 : Pre w h₀ L [(h.objs.size, oI')] rs DN DT tk₁ h₁ := P1.more htk₁
      obtain ⟨n, t, rfl, hn⟩ := hi.at i v (by simpa using hv)
      show wpAny _ _ (pure ()) _ _ _
      refine wpAny_pure ?_
      refine wpAny_assign_Name ?_
      refine wpAny_with_toks (n := tk₁) (Nat.le_refl _) (P2.store (env := lawEnv L fa) rfl rfl rfl fun h₂ tk₂ H₂ htk₂ => ?_)
      have H₂' : Head w h₀ L [(h.objs.size, oI')] n rs DN DT tk₂ h₂ := by
        cases H₂ with
        | mk hR hH hit iN fN gN iT fT gT F N dH dN dT dV dP dK l1 l2 l3 l4 l5 l6 l7 l8 l9 l11 l10 hok => exact .mk hR hH (hit.more htk₂) iN fN gN iT fT gT F N dH dN dT dV dP dK l1 l2 l3 l4 l5 l6 l7 l8 l9 l11 l10 hok
      refine wpAny_noRaise (turn X T B C (by omega) (by omega) hS H₂' fun h₃ tk₃ sr va pl vk rs3 DN3 DT3 a b c M3 => ?_)
      have P3 := M3.pre
      have g3 : h₃.get? h.objs.size = some oI' := by
        cases P3 with
        | mk hR hH hit iN fN gN iT fT gT F N dH dN dT dV dP dK l1 l2 l3 l4 l5 l6 l7 l8 l9 l11 l10 hok => exact (N _ (.tail _ (.tail _ (.tail _ (.tail _ (.tail _ (.tail _ (.tail _ (.tail _ (.tail _ (.tail _ (.tail _ (hok.2.2 _ (.head _)))))))))))))).1
      exact ⟨ns.length + 1 - (i + 1), by omega, h₃, tk₃, i + 1, rs3, DN3, DT3, oI', rfl, g3, hc1, hd1, P3, by omega, by omega, c, hlt, rfl⟩
    · have hin' : i = ns.length := by omega
      subst hin'
      refine W.done _ _ _ hst fun h₁ tk₁ hk₁ => ?_
      have F2 : Fr h₀ L h₁ m1 := ⟨F1.ns.at' fun o e => hk₁ L o (by simpa using Ne.symm hIL) e, fun b o e => hk₁ b o (fun q => by rw [List.mem_singleton.mp q, hI0] at e; cases e) (F1.keep b o e), F1.above⟩
      show wpAny _ _ (execs [] (lawEnv L fa)) _ _ _
      have N2 : ∃ ps, News h₀ L h₁ [(92, tabObj ps)] := by
        cases P' with
        | @mk m vR vH nR nH rA hA nA tA oV oT oP oK oH oN obN obT ps cds kN kT v1 v2 v3 hR hH hit iN fN gN iT fT gT F N dH dN dT dV dP dK l1 l2 l3 l4 l5 l6 l7 l8 l9 l11 l10 hok =>
          have z := N (92, tabObj ps) (by simp)
          have hI' : @LT.lt Nat _ tA h.objs.size := l10 _ (hok.2.2 _ (.head _))
          refine ⟨ps, fun p hp => ?_⟩
          rw [List.mem_singleton.mp hp]
          exact ⟨hk₁ _ _ (fun q => by have q' : @Eq Nat 92 h.objs.size := List.mem_singleton.mp q; omega) z.1, z.2⟩
      obtain ⟨ps, N2⟩ := N2
      exact wpAny_execs_nil (hQ h₁ tk₁ m1 ps F2 N2)
  · have hb' := Heap.lt_size e
    have : (h.push { cls := .type "list_iterator", data := .fields #[.ref l, .int 0 0] }).objs.size = h.objs.size + 1 := Heap.size_push ..
    rw [this] at hb'
    exact Nat.lt_of_le_of_ne (Nat.le_of_lt_succ hb') hb
end Mine
namespace Mine
open PySem PySem.W PyProof.Rows PySem.Calls PySem.Spec PyProof.V
theorem law_loop2 {w : World} {h₀ h : Heap} {L fa : Nat} {mg mb : Str → Option Value} {mean : ExcName → Option Value} {s : Shared} {tk : Nat} {l : Addr} {vs : List Value} {ns : List Int} {m : Str → Option Value} {px ip pos : Pos} {Q : Flow → Shared → Prop} {E : Value → Shared → Prop} {body : List Stmt} {sc : Scope}
    (hb : forBody = body) (hs : lawScope = sc)
    (X : (hd.heap_39 w.params).In h₀) (T : Top topProg LL mean mg mb h₀) (B : Below callerA h₀ [] h₀) (C : CodeHd h₀ 94 92) (hl : h₀.IsList l vs.toArray) (hi : IntsAre vs ns) (hlen : ns.length ≤ 63)
    (F : Fr h₀ L h m) (hm : m (Str.ofString "script") = some (.ref l)) (P : Pre w h₀ L [] [] [] [] tk h)
    (hQ : ∀ h' tk' m' ps, Fr h₀ L h' m' → News h₀ L h' [(92, tabObj ps)] → Q .next { s with heap := h', toks := tk' }) :
    wpAny (model PR w) (callerA.deeper (envOfC "law" sc L fa (.ref 94))) (exec (.For (.Name (Str.ofString "number") px) (.Name (Str.ofString "script") ip) body [] pos) (envOfC "law" sc L fa (.ref 94))) Q E { s with heap := h, toks := tk } := by
  subst hb hs
  exact law_loop X T B C hl hi hlen F hm P hQ
theorem Pre.start {w : World} {h₀ h : Heap} {L tk : Nat} {news : List (Addr × Obj)} {m : Str → Option Value} {nR nH : Nat} {rA hA nA tA : Nat} {oV oT oP oK oH oN obN obT : Obj} {v1 v2 v3 : Option Value}
    (N : News h₀ L h news) (F : Fr h₀ L h (fun y => if y = Str.ofString "row" then some (.ref rA) else m y))
    (mV : (L+1+1+1+1+1+1, oV) ∈ news) (mT : (L+1+1+1+1+1, oT) ∈ news) (mP : (L+1+1+1+1, oP) ∈ news) (mK : (L+1+1+1, oK) ∈ news) (mH : (L+1+1, oH) ∈ news) (mN : (L+1, oN) ∈ news) (m92 : (92, tabObj #[]) ∈ news)
    (dH : oH.data = .cell (some (.ref hA))) (dN : oN.data = .cell (some (.ref nA))) (dT : oT.data = .cell (some (.ref tA)))
    (dV : oV.data = .cell v1) (dP : oP.data = .cell v2) (dK : oK.data = .cell v3)
    (lR : (rA, W.listOf (List.toArray []) nR) ∈ news) (lH : (hA, W.listOf (List.toArray []) nH) ∈ news) (lN : (nA, obN) ∈ news) (lT : (tA, obT) ∈ news)
    (iN : obN.IsDictOf (PySem.strKind PR w) []) (gN : (nA == sysModules) = false) (iT : obT.IsDictOf (PySem.strKind PR w) []) (gT : (tA == sysModules) = false)
    (q : 92 < L ∧ L+1+1+1+1+1+1 < rA ∧ L+1+1+1+1+1+1 < hA ∧ hA < tA ∧ L+1+1+1+1+1+1 < nA ∧ rA ≠ hA ∧ rA ≠ tA ∧ nA ≠ hA ∧ nA ≠ tA ∧ rA ≠ nA) : Pre w h₀ L [] [] [] [] tk h := by
  obtain ⟨q1, q2, q3, q4, q5, q6, q7, q8, q9, q11⟩ := q
  refine .mk (vR := []) (vH := []) (nR := nR) (nH := nH) (cds := []) (kN := []) (kT := []) .nil .nil (fun x hx => nomatch hx) iN .nil gN iT .nil gT F (fun p hp => ?_) dH dN dT dV dP dK q1 q2 q3 q4 q5 q6 q7 q8 q9 q11 (fun x hx => nomatch hx) (codesOk_nil _)
  simp only [List.mem_cons, List.not_mem_nil, or_false] at hp
  rcases hp with e | e | e | e | e | e | e | e | e | e | e <;> rw [e] <;> exact N _ (by assumption)
end Mine
namespace Mine
open PySem PySem.W PyProof.Rows PySem.Calls PySem.Spec PyProof.V
theorem loop_holds : Loop := by
  intro _w _h₀ _h _L _fa _mg _mb _mean _s _tk _l _vs _ns _m _m' _px _ip _pos _Q _E _body _sc _news _nR _nH _rA _hA _nA _tA _oV _oT _oP _oK _oH _oN _obN _obT _v1 _v2 _v3 hb hs X T B C hl hi hlen F hm N F2 mV mT mP mK mH mN m92 dH dN dT dV dP dK lR lH lN lT iN gN iT gT q hQ
  exact law_loop2 hb hs X T B C hl hi hlen F hm (Pre.start N F2 mV mT mP mK mH mN m92 dH dN dT dV dP dK lR lH lN lT iN gN iT gT q) hQ
end Mine
theorem PySem.Challenge.cw_wy0063_01_holds : PySem.Challenge.rw_wy0063_01.Holds := by
  exact Mine.top_walk Mine.loop_holds
