import PyProof.Rows.All
import Wide.All
import OpenK.AllK
import Wide.FinOn
import Lean
import PySem.Challenge.RW_fc0145_02
open PySem PySem.W PyProof.Rows PySem.Calls
set_option Elab.async false
set_option maxRecDepth 100000
set_option maxHeartbeats 8000000
set_option rowWalk.seconds 0
set_option linter.unusedVariables false
set_option linter.unusedSimpArgs false
namespace Mine
open_top hd for PySem.Challenge.rw_fc0145_02
end Mine
namespace Mine

/-- what an instance's dict answers, name by name -/
def Att (es : List DictEntry) (f : Str → Option Value) : Prop := ∀ name, getL name es = some (f name)

abbrev nN : Str := Str.ofString "next_on_list"
abbrev nP : Str := Str.ofString "prev_on_list"

theorem any_ref_putL (name : Str) (hsh : Int) (tk : Tok) (v : Value) : ∀ es : List DictEntry, es.any (·.refKey) = false → (putL name hsh (.str name tk) v es).any (·.refKey) = false
  | [], _ => rfl
  | e :: r, h => by
    rw [List.any_cons, Bool.or_eq_false_iff] at h
    unfold putL
    split
    · rw [List.any_cons, Bool.or_eq_false_iff]; exact ⟨h.1, h.2⟩
    · rw [List.any_cons, Bool.or_eq_false_iff]; exact ⟨h.1, any_ref_putL name hsh tk v r h.2⟩

theorem find_putL (name x : Str) (hsh : Int) (tk : Tok) (v : Value) : ∀ es : List DictEntry,
    ((putL name hsh (.str name tk) v es).find? (·.key.isStr x)).map (·.val) = if x = name then some v else (es.find? (·.key.isStr x)).map (·.val)
  | [] => by
    simp only [putL, List.find?_cons, Value.isStr, List.find?_nil]
    by_cases h : x = name
    · subst h; simp
    · have hb : (name == x) = false := beq_eq_false_iff_ne.mpr fun q => h q.symm
      simp [h, hb]
  | e :: r => by
    have ih := find_putL name x hsh tk v r
    unfold putL
    split
    · rename_i he
      simp only [List.find?_cons]
      by_cases h : x = name
      · subst h; simp [he]
      · have : e.key.isStr x = false := by
          cases q : e.key.isStr x
          · rfl
          · exact absurd (Value.isStr_inj _ _ _ q he) h
        simp [this, h]
    · rename_i he
      simp only [List.find?_cons]
      by_cases h : x = name
      · subst h
        simp only [he]
        simpa using ih
      · cases q : e.key.isStr x
        · simpa [h] using ih
        · simp [h]

theorem getL_iff (x : Str) (es : List DictEntry) (hr : es.any (·.refKey) = false) : getL x es = some ((es.find? (·.key.isStr x)).map (·.val)) := by
  unfold getL
  split
  · rename_i q; rw [q]; rfl
  · rename_i q; rw [q, hr]; rfl

structure Atts (es : List DictEntry) (f : Str → Option Value) : Prop where
  noref : es.any (·.refKey) = false
  at_ : ∀ x, (es.find? (·.key.isStr x)).map (·.val) = f x
  size : es.length + (if f nN = none then 1 else 0) + (if f nP = none then 1 else 0) ≤ 10

theorem Atts.get {es : List DictEntry} {f : Str → Option Value} (h : Atts es f) (x : Str) : getL x es = some (f x) := by
  rw [getL_iff x es h.noref, h.at_]
theorem putL_length (name : Str) (hsh : Int) (tk : Tok) (v : Value) : ∀ es : List DictEntry,
    (putL name hsh (.str name tk) v es).length = es.length + if (es.find? (·.key.isStr name)).map (·.val) = none then 1 else 0
  | [] => rfl
  | e :: r => by
    have ih := putL_length name hsh tk v r
    unfold putL
    split
    · rename_i he; simp [he]
    · rename_i he; simp only [List.length_cons, ih, List.find?_cons, he]; omega
def updA (f : Str → Option Value) (n : Str) (v : Value) : Str → Option Value := fun x => if x = n then some v else f x
theorem Atts.put {es : List DictEntry} {f : Str → Option Value} (h : Atts es f) (name : Str) (hsh : Int) (tk : Tok) (v : Value) (hn : name = nN ∨ name = nP) :
    Atts (putL name hsh (.str name tk) v es) (updA f name v) := by
  refine ⟨any_ref_putL name hsh tk v es h.noref, fun x => ?_, ?_⟩
  · rw [find_putL, h.at_]; rfl
  · have hz := h.size
    have ne : nN ≠ nP := by decide +kernel
    rw [putL_length, h.at_]
    unfold updA
    rcases hn with rfl | rfl
    · rw [if_neg (Ne.symm ne)]
      simp only [if_true, reduceCtorEq, if_false]
      omega
    · rw [if_neg ne]
      simp only [if_true, reduceCtorEq, if_false]
      omega
theorem Atts.short {es : List DictEntry} {f : Str → Option Value} (h : Atts es f) : es.length ≤ 10 := by have := h.size; omega
end Mine
namespace Mine

theorem mem_frames {env : Env} {outer : List Env} {L b : Addr} (hf : env.frame = some L) (hm : b ∈ (env :: outer).filterMap (·.frame)) : b = L ∨ b ∈ outer.filterMap (·.frame) := by
  obtain ⟨e, he, hb⟩ := List.mem_filterMap.mp hm
  rcases List.mem_cons.mp he with rfl | he
  · rw [hf] at hb; exact .inl (Option.some.inj hb).symm
  · exact .inr (List.mem_filterMap.mpr ⟨e, he, hb⟩)

section
variable {prog : Program} {w : World} {A₀ A : Around} {s : Shared} {base h₀ g₀ : Heap} {outer : List Env} {env : Env} {L : Addr} {m : Str → Option Value} {news : List (Addr × Obj)} {K : Frag} {p : Program} {loose : List Str} {mean : ExcName → Option Value} {mg mb : Str → Option Value}
    {R : Result → Shared → Prop} {name qual : Str} {params : Arguments} {body : List Stmt} {scope : Scope} {dV kV doc pm cdv ct oc : Value} {an od : Option Addr} {osl : Array (Option Value)} {f : Addr} {args : Args} {binds : List (Str × Value)}

/-- a call whose frames below may have their slots written (a try inside catches): the base turns with it -/
theorem codeS (B : Below A₀ base outer h₀) (F : Fr h₀ L s.heap m) (X₀ : K.In h₀) (N : News h₀ L s.heap news) (T : Top p loose mean mg mb h₀) (XB : K.In base) (TB : Top p loose mean mg mb base) (D : KtsDicts (outer.filterMap (·.frame)) h₀)
    (T0 : KtsTurn (outer.filterMap (·.frame)) g₀ h₀) (hA : A.frames = some (env :: outer)) (hf : env.frame = some L) (hke : env.scope.kind = .function)
    (ho : K.lookup f = some ⟨oc, od, .func (fnOf name qual params body scope dV kV doc pm an cdv ct), osl⟩) (hcd : codeIn K cdv qual = true) (hroom : A.depth < recursionLimit)
    (hbind : BindsTo s (fnOf name qual params body scope dV kV doc pm an cdv ct) args binds) (hloc : ∀ y ∈ binds, scope.names.lookup y.1 = some .local)
    (h : ∀ g L' h₁, Fr g L' h₁ (fun y => binds.reverse.lookup y) → News g L' h₁ news → Below A base (env :: outer) g → K.In g → Top p loose mean mg mb g → KtsDicts ((env :: outer).filterMap (·.frame)) g →
      wpAny (model prog w) (A.deeper (envOf qual scope L' f cdv)) (execs body (envOf qual scope L' f cdv))
        (fun fl s' => LeaveS ((env :: outer).filterMap (·.frame)) A₀ base outer K p loose mean mg mb g₀ h₀ L m g R (match fl with | .ret v => v | _ => .none) s')
        (fun e s' => wpAny (model prog w) (A.deeper (envOf qual scope L' f cdv)) (leaving (envOf qual scope L' f cdv) e) (fun _ s'' => R (.error e) s'') (fun e' s'' => R (.error e') s'') s')
        { s with heap := h₁, toks := s.toks + binds.length })
    (hco : scope.isCoroutine = false) (hgen : scope.isGenerator = false) (hk : scope.kind = .function)
    (hcell : ∀ x ∈ scope.names, x.2 ≠ .cell) : codeAny (model prog w) A (.call (.ref f) args) R s := by
  have X := X₀.keeps F.keep
  refine codeAny_call_def (fd := fnOf name qual params body scope dV kV doc pm an cdv ct) (body := body) (binds := binds) hroom (X _ _ ho) rfl (T.nolimit.keeps F.keep) (codeRec_of X hcd) rfl hbind hcell hloc (fun h₁ hns hk₁ => ?_) hco hgen hk
  obtain ⟨FG, BG, st, lv⟩ := groundX (R := R) B F N hA hf hke
  obtain ⟨oL, es, ep, hLg, hLd, hLk, hLf⟩ := FG.ns
  have nL₀ : h₀.get? L = none := kts_self F
  refine wpAny_mono (h _ s.heap.objs.size h₁ ⟨hns, fun b o e => hk₁ b o (of_hideAll _ e), Nat.le_of_eq (hideAll_size _ _)⟩
    (fun p hp => ⟨hk₁ _ _ (N p hp).1, Nat.ne_of_lt (Heap.lt_size (N p hp).1), hideAll_none _ (List.mem_map_of_mem hp)⟩) BG (X₀.keeps st) (T.keeps st) (fun b hb => by
      rcases mem_frames hf hb with rfl | hb
      · exact ⟨oL, es, ep, hLg, hLd⟩
      · obtain ⟨o, es', n', ho', hd'⟩ := D b hb
        exact ⟨o, es', n', st b o ho', hd'⟩)) (fun fl s' hl => ?_) fun _ _ y => y
  rcases hl with hl | ⟨g', L', m', news', T', F', N', k⟩
  · exact lv _ _ hl
  obtain ⟨sl, hs⟩ := T'.up hLg
  obtain ⟨T₁, S₁⟩ := kts_turn_at (h := s'.heap) (fs := outer.filterMap (·.frame)) (g := h₀)
    (fun b hb => by
      obtain ⟨_, o, ho', _⟩ := B.frames.mem hb
      exact ⟨o, ho'⟩)
    (fun b o e nmem => F'.keep b o (T'.other b o (st b o e) (fun q => by
      rcases mem_frames hf q with z | z
      · rw [z, nL₀] at e
        cases e
      · exact nmem z)))
    (fun b o e hm => by
      obtain ⟨sl', hs'⟩ := T'.up (st b o e)
      exact ⟨sl', F'.keep _ _ hs'⟩)
  have B₃ : Below A₀ base outer (ktsHeap s'.heap (outer.filterMap (·.frame)) h₀) := ⟨B.stack, fun b o e => T₁.other b o (B.stays b o e) (fun hm => by
    rw [(B.frames.mem hm).1] at e
    cases e), B.frames.of_keeps fun b o e _ => by
    obtain ⟨sl', hs'⟩ := T₁.up e
    exact ⟨_, hs', rfl⟩⟩
  refine k _ (T0.trans T₁) ⟨⟨{ oL with slots := sl }, es, ep, F'.keep _ _ hs, hLd, hLk, hLf⟩, S₁, by rw [T₁.size]; exact F.above⟩ (fun p hp => ⟨(N' p hp).1, fun q => ?_, ?_⟩) B₃ (XB.keeps B₃.stays) (TB.keeps B₃.stays) (D.turn T₁)
  · have := (N' p hp).2.2; rw [q, hs] at this; cases this
  · refine T₁.none_ _ ?_
    cases q : h₀.get? p.1 with
    | none => rfl
    | some o =>
      obtain ⟨sl', hs'⟩ := T'.up (st _ _ q)
      have := (N' p hp).2.2
      rw [hs'] at this
      cases this

/-- with no frame below, the base that has turned is the old one -/
theorem unturn {h₀ h₀' h' : Heap} {L : Addr} {m : Str → Option Value} (T : KtsTurn [] h₀ h₀') (F : Fr h₀' L h' m) : Fr h₀ L h' m :=
  ⟨F.ns, fun b o e => F.keep b o (T.other b o e (fun q => nomatch q)), T.size ▸ F.above⟩
theorem unturnN {h₀ h₀' h' : Heap} {L : Addr} {news : List (Addr × Obj)} (T : KtsTurn [] h₀ h₀') (N : News h₀' L h' news) : News h₀ L h' news := fun q hq =>
  ⟨(N q hq).1, (N q hq).2.1, by
    cases z : h₀.get? q.1 with
    | none => rfl
    | some o => have := T.other _ _ z (fun q => nomatch q); rw [(N q hq).2.2] at this; cases this⟩
end

/-! an attribute that an own instance has not -/
section
variable {prog : Program} {w : World} {A : Around} {E : Value → Shared → Prop} {s : Shared} {K : Frag} {x C : Addr} {ox : Obj} {od : Option Obj} {name : Str} {expr : Bool} {Q : Value → Shared → Prop}

theorem findObj_miss {od' : Obj} (hh : hasDictIn K C = true) (ha : findIn K (.ref C) name = some none) (hc : copiedNames.contains name = false) (hl : lookIn name od' = some none) :
    findObj K C (some od') name = some .missing := by
  obtain ⟨cd, hcd, hd⟩ := any_some hh
  unfold findObj
  have ho : W.ownOf cd (some od') name = some none := by unfold W.ownOf; rw [if_pos hd]; exact hl
  rw [hcd, Option.bind_some, ha, Option.bind_some]
  simp only [Option.bind_some, ho, hc, Bool.false_and, Bool.false_eq_true, if_false]

def nameOk (K : Frag) (C : Addr) : Bool := (clsIn K C).any fun cd => decide (cd.name.cps.foldl (fun k c => k + (Str.utf8Of c).length) 0 ≤ 100) && decide ((s!"'{cd.name.toString}' object has no attribute '").length ≤ 90)

theorem get_missK (hA : A.handled = none) (X : K.In s.heap) (I : InstAt s.heap x ox C od) (hga : findIn K (.ref C) "__getattribute__" = some (some (.builtin "object.__getattribute__")))
    (hf : findObj K C od name = some .missing) (hk : findIn K (.ref C) "__getattr__" = some none) (hcls : nameOk K C = true)
    (hsz : name.length + 100 ≤ sizeLine)
    (h : ∀ h' tk e, Heap.NewExcOf s.heap h' e "AttributeError" → E (.ref e) { s with heap := h', toks := tk }) :
    wpAny (model prog w) A (getAttr (.ref x) name expr) Q E s := by
  refine get_open X I hga ?_
  obtain ⟨hh', gg, d, t, os⟩ := s
  have L0 := I.type (M := model prog w)
  have L1 := looks_find (M := model prog w) X I hf
  have L2 := looks_findIn (M := model prog w) X hk
  obtain ⟨cd, hcd, hn⟩ := any_some hcls
  rw [Bool.and_eq_true] at hn
  have hn1 := of_decide_eq_true hn.1
  have hn2 := of_decide_eq_true hn.2
  have L3 := looks_clsIn (M := model prog w) X hcd
  refine wpAny_bind (wpAny_pure (wpAny_bind (L0.at (wpAny_bind (L1.at (wpAny_bind (L2.at ?_)))))))
  show wpAny _ _ (Builtin.ObjectAttr.noSuchAttribute _ _) _ _ _
  unfold Builtin.ObjectAttr.noSuchAttribute typeNameOfCut shownTypeOf
  refine wpAny_bind (wpAny_bind (wpAny_bind (L0.at ?_)))
  rw [if_neg (by simp)]
  refine wpAny_bind (wpAny_pure (wpAny_pure ?_))
  unfold typeNameCut
  refine wpAny_bind (L3.at ?_)
  dsimp only
  rw [if_pos hn1]
  refine wpAny_pure ?_
  refine wpAny_raiseAttrError hA (fun h' tk e hx => ?_) (attrMsg_fits hn2 hsz)
  obtain ⟨t', u', he⟩ := hx.there
  have f1 := sub_AttributeError
  unfold noteIf noteAttr
  rw [if_pos rfl]
  dsimp only
  unfold lacksNameAndObj isInstance
  repeat (any_goals (first | assumption | wp_step))
  exact h _ _ _ hx.of
end
end Mine
namespace Mine

section
variable {prog : Program} {w : World} {A₀ : Around} {E : Value → Shared → Prop} {s' : Shared} {base g g₀ G : Heap} {outer : List Env} {L a e : Addr} {m : Str → Option Value} {name : Str} {scope : Scope} {cd : Value}
  {n : Str} {b₀ : Stmt} {suite : List Stmt} {pos np : Pos} {rest : List ExceptHandler} {Q : Flow → Shared → Prop} {news : List (Addr × Obj)} {KF : Frag}
  {p : Program} {loose : List Str} {mean : ExcName → Option Value} {mg mb : Str → Option Value} {x : Str} {X T' : String}

/-- an exception that a step of this frame has raised is caught by this frame's own clause; frames may lie below -/
theorem caught_own (hx : Heap.NewExcOf G s'.heap e X) (F : Fr g L G m) (N : News g L G news) (K : Below A₀ base outer g) (XB : KF.In base) (TB : Top p loose mean mg mb base)
    (D : KtsDicts (outer.filterMap (·.frame)) g) (T0 : KtsTurn (outer.filterMap (·.frame)) g₀ g)
    (ex : nsIn KF mainGlobals x = some none) (hv : bootBuiltins x = some (.type T')) (hn' : x ≠ "__name__")
    (hexc : isSubtype (.type T') (.type "BaseException") = pure true) (hnt : isSubtype (.type ((Manifest.find? T').elim "type" fun y => y.metatype)) (.type "tuple") = pure false) (hsub : isSubtype (.type X) (.type T') = pure true)
    (k : ∀ h' g', KtsTurn (outer.filterMap (·.frame)) g₀ g' → Fr g' L h' m → News g' L h' news → Below A₀ base outer g' → KF.In g' → Top p loose mean mg mb g' → KtsDicts (outer.filterMap (·.frame)) g' →
      wpAny (model prog w) ((A₀.deeper (envOf name scope L a cd)).mark (some (.ref e))) (execs (b₀ :: suite) (envOf name scope L a cd)) Q E { s' with heap := h' })
    (hk : scope.kind = .function := by rfl) (hx' : (envOf name scope L a cd).kindOf x = some .globalImplicit := by rfl) (hd : (x == ("__debug__" : Str)) = false := by decide)
    (hE : PassesOwnAt (model prog w) ((A₀.deeper (envOf name scope L a cd)).mark (some (.ref e))) (A₀.deeper (envOf name scope L a cd)) (envOf name scope L a cd) E := by passes_own) :
    wpAny (model prog w) (A₀.deeper (envOf name scope L a cd)) (noteFrame (.ref e) (envOf name scope L a cd))
      (fun _ s₂ => wpAny (model prog w) (A₀.deeper (envOf name scope L a cd)) (setFlight (.ref e) none) (fun _ s₃ =>
        wpAny (model prog w) (A₀.deeper (envOf name scope L a cd)) (handleBy (.ref e) (envOf name scope L a cd) (.ExceptHandler (some (.Name x np)) none (b₀ :: suite) pos :: rest)) Q E s₃) E s₂) E s' := by
  have K' := K.push (name := name) (a := a) (cd := cd) F hk
  have hin : ∀ env ∈ (envOf name scope L a cd :: outer), ∀ b, env.frame = some b → b ∈ (envOf name scope L a cd :: outer).filterMap (·.frame) := fun env he b hb => List.mem_filterMap.mpr ⟨env, he, hb⟩
  have hBG : ∀ b o, G.get? b = some o → b ∉ (envOf name scope L a cd :: outer).filterMap (·.frame) → (hideAll G ((envOf name scope L a cd :: outer).filterMap (·.frame))).get? b = some o := fun b o q nm => hideAll_get _ q nm
  have hl : ∀ q ∈ news, (hideAll G ((envOf name scope L a cd :: outer).filterMap (·.frame))).get? q.1 = some q.2 := fun q hq => by
    refine hideAll_get _ (N q hq).1 fun hm => ?_
    rcases kts_mem hm with z | z
    · exact (N q hq).2.1 z
    · obtain ⟨_, o, ho, _⟩ := K.frames.mem z
      rw [(N q hq).2.2] at ho; cases ho
  have hen : (hideAll G ((envOf name scope L a cd :: outer).filterMap (·.frame))).get? e = none := by
    cases q : (hideAll G ((envOf name scope L a cd :: outer).filterMap (·.frame))).get? e with
    | none => rfl
    | some o => have := of_hideAll _ q; rw [hx.new] at this; cases this
  obtain ⟨ob, vs, he, hcls, hdat, h1⟩ := hx.there
  have hvs : ∃ a0, vs[0]? = some a0 := by
    have : 1 < vs.size := (Array.getElem?_eq_some_iff.mp h1).1
    exact ⟨vs[0], Array.getElem?_eq_getElem (by omega)⟩
  obtain ⟨a0, h0⟩ := hvs
  have note : ∀ Q' : Unit → Shared → Prop, (∀ h₄, Heap.HeldW (hideAll G ((envOf name scope L a cd :: outer).filterMap (·.frame))) (envOf name scope L a cd :: outer) e (.type X) a0 L h₄ → s'.heap.UpToSlots h₄ → Q' () { s' with heap := h₄ }) →
      wpAny (model prog w) (A₀.deeper (envOf name scope L a cd)) (noteFrame (.ref e) (envOf name scope L a cd)) Q' E s' := fun Q' hQ => by
    unfold noteFrame
    refine wpAny_bind (wpAny_field he hdat h1 ?_)
    rw [if_neg (by decide)]
    refine wpAny_entryW (base := hideAll G ((envOf name scope L a cd :: outer).filterMap (·.frame))) (env := envOf name scope L a cd) (outer := outer) (L := L) (Around.frames_deeper K.stack) ?_ rfl he ?_ hen hdat (Array.getElem?_eq_some_iff.mp h1).1 h0 fun h' hN => ?_
    · exact (funFrames_hide K'.frames hin).of_keeps fun b o hb _ => ⟨o, hx.keeps b o hb, rfl⟩
    · exact fun b o hb => hx.keeps b o (of_hideAll _ hb)
    · obtain ⟨k1, k2, k3, k4⟩ := hN
      rw [hcls] at k3
      exact hQ h' ⟨k1, hen, k2, k3⟩ k4
  refine note _ fun h₄ hheld₄ hsm₄ => ?_
  refine wpAny_landsW hheld₄ fun h₅ hheld hsm₅' => ?_
  have hsm₅ : G.UpToSlots h₅ := (Heap.UpToSlots.of_keeps hx.keeps).trans (hsm₄.trans hsm₅')
  obtain ⟨g₅, T₅, F₅, K₅⟩ := kts_ground K F hBG hheld.1 hsm₅
  have X₅ : KF.In g₅ := XB.keeps K₅.stays
  have P₅ : TopRead p loose mg mb g₅ := topRead_of (TB.keeps K₅.stays)
  obtain ⟨ob', hob', hobc'⟩ := hheld.there
  refine wpAny_handleBy_builtin (X := X) (T := T') (b := true) hexc hnt hsub (name_B F₅ X₅ P₅ ex hv hn' ⟨rfl, ⟨ob', hob', hobc'⟩, ?_⟩ hk hx' hd)
  rw [if_pos rfl]
  refine lands_againW hheld fun h₆ hfl₆ hsm₆ => ?_
  obtain ⟨g₆, T₆, F₆, K₆⟩ := kts_ground K F hBG hfl₆.1 (hsm₅.trans hsm₆)
  have Nl : News g₆ L h₆ news := fun q hq => ⟨hfl₆.1 _ _ (hl q hq), (N q hq).2.1, T₆.none_ _ (N q hq).2.2⟩
  exact wpAny_passesOwnAt hE (k h₆ g₆ (T0.trans T₆) F₆ Nl K₆ (XB.keeps K₆.stays) (TB.keeps K₆.stays) (D.turn T₆))
end

theorem attrErr_exc : isSubtype (.type "AttributeError") (.type "BaseException") = pure true := by rw [isSubtype_type]; kernel_rfl
theorem attrErr_nt : isSubtype (.type ((Manifest.find? "AttributeError").elim "type" fun y => y.metatype)) (.type "tuple") = pure false := by rw [isSubtype_type]; kernel_rfl
theorem attrErr_boot : bootBuiltins (Str.ofString "AttributeError") = some (.type "AttributeError") := by boot_by_name
end Mine
namespace Mine

/-- the ledger with another object at an address -/
def setL (news : List (Addr × Obj)) (d : Addr) (o : Obj) : List (Addr × Obj) := news.map fun p => if p.1 = d then (d, o) else p

theorem setL_append (a b : List (Addr × Obj)) (d : Addr) (o : Obj) : setL (a ++ b) d o = setL a d o ++ setL b d o := List.map_append ..
theorem setL_off {a : List (Addr × Obj)} {d : Addr} (o : Obj) (h : ∀ p ∈ a, p.1 ≠ d) : setL a d o = a := by
  unfold setL
  conv => rhs; rw [← List.map_id a]
  exact List.map_congr_left fun p hp => by rw [if_neg (h p hp)]; rfl
theorem setL_other {news : List (Addr × Obj)} {d a : Addr} {o ob : Obj} (h : (a, ob) ∈ news) (ne : a ≠ d) : (a, ob) ∈ setL news d o :=
  List.mem_map.mpr ⟨_, h, if_neg ne⟩
theorem setL_self {news : List (Addr × Obj)} {d : Addr} {o ob : Obj} (h : (d, ob) ∈ news) : (d, o) ∈ setL news d o :=
  List.mem_map.mpr ⟨_, h, if_pos rfl⟩
theorem news_sub {h₀ h : Heap} {L : Addr} {a b : List (Addr × Obj)} (N : News h₀ L h b) (s : ∀ p ∈ a, p ∈ b) : News h₀ L h a := fun p hp => N p (s p hp)

section
variable {prog : Program} {w : World} {A : Around} {E : Value → Shared → Prop} {s : Shared} {K : Frag} {x C dx L : Addr} {h₀ : Heap} {m : Str → Option Value} {news : List (Addr × Obj)} {es : List DictEntry} {n : Nat} {name : Str} {v : Value} {f : Str → Option Value}

theorem setAttr_L {Q : Unit → Shared → Prop} (F : Fr h₀ L s.heap m) (X₀ : K.In h₀) (N : News h₀ L s.heap news) (hx : (x, instObj C dx) ∈ news) (hdx : (dx, dictOf es n) ∈ news) (A1 : Atts es f) (hn : name = nN ∨ name = nP)
    (hs : findIn K (.ref C) "__setattr__" = some (some (.builtin "object.__setattr__"))) (hp : plainOver K C = true) (ht : takerIn K C name = some none) (hh : hasDictIn K C = true)
    (h : ∀ h' es' n', Atts es' (updA f name v) → Fr h₀ L h' m → News h₀ L h' (setL news dx (dictOf es' n')) → Q () { s with heap := h', toks := s.toks + 2 }) :
    wpAny (model prog w) A (setAttr (.ref x) name v) Q E s := by
  have A2 := A1.put name (PyData.keyHash w.params name) (s.toks + 1) v hn
  have N' : News h₀ L s.heap ((dx, dictOf es n) :: news.filter fun p => decide (p.1 ≠ dx)) := news_sub N fun p hp => by
    rcases List.mem_cons.mp hp with rfl | hp
    · exact hdx
    · exact (List.mem_filter.mp hp).1
  have U : Upd dx (dictOf es n) (dictOf (putL name (PyData.keyHash w.params name) (.str name (s.toks + 1)) v es) (putN name es n)) ((dx, dictOf es n) :: news.filter fun p => decide (p.1 ≠ dx)) ((dx, dictOf (putL name (PyData.keyHash w.params name) (.str name (s.toks + 1)) v es) (putN name es n)) :: news.filter fun p => decide (p.1 ≠ dx)) :=
    .head fun p hp => by have := (List.mem_filter.mp hp).2; simpa using this
  refine set_dict F X₀ N' (InstAt.of_news N hx hdx) rfl hs hp ht hh (by rw [A1.get]; rfl) rfl U (Nat.le_trans A2.short (by decide)) fun h' F' N₂ => ?_
  refine h h' _ (putN name es n) A2 F' fun p hp => ?_
  obtain ⟨q, hq, rfl⟩ := List.mem_map.mp hp
  by_cases e : q.1 = dx
  · rw [if_pos e]; exact N₂ _ (.head _)
  · rw [if_neg e]; exact N₂ _ (.tail _ (List.mem_filter.mpr ⟨hq, by simpa using e⟩))
end

/-! the nodes: addresses, their classes, what they hold, and how they are linked -/
def fAt (g : Str → Option Value) (n p : Option Addr) : Str → Option Value := fun s => if s = nN then n.map .ref else if s = nP then p.map .ref else g s
theorem nN_ne : nN ≠ nP := by decide +kernel
theorem updA_N (g : Str → Option Value) (n p : Option Addr) (y : Addr) : updA (fAt g n p) nN (.ref y) = fAt g (some y) p := by
  funext s
  unfold updA fAt
  by_cases h : s = nN
  · simp [h]
  · simp [h]
theorem updA_P (g : Str → Option Value) (n p : Option Addr) (y : Addr) : updA (fAt g n p) nP (.ref y) = fAt g n (some y) := by
  funext s
  unfold updA fAt
  by_cases h : s = nP
  · subst h; simp [Ne.symm nN_ne]
  · simp [h]
def upO (f : Addr → Option Addr) (x y : Addr) : Addr → Option Addr := fun z => if z = x then some y else f z
theorem upO_self (f : Addr → Option Addr) (x y : Addr) : upO f x y x = some y := if_pos rfl
theorem upO_ne {f : Addr → Option Addr} {x y z : Addr} (h : z ≠ x) : upO f x y z = f z := if_neg h

/-- an instance or a dict -/
def isND (o : Obj) : Bool := match o.data with | .plain => true | .dict _ _ => true | _ => false
theorem setL_kinds {l : List (Addr × Obj)} {d : Addr} {es : List DictEntry} {n : Nat} (h : ∀ p ∈ l, isND p.2 = true) : ∀ p ∈ setL l d (dictOf es n), isND p.2 = true := fun p hp => by
  obtain ⟨q, hq, rfl⟩ := List.mem_map.mp hp
  split
  · rfl
  · exact h q hq
structure NS (tl : List (Addr × Obj)) (mk dmk : Addr) (ids : List Addr) (da Ca : Addr → Addr) (at_ : Addr → Str → Option Value) (nx pv : Addr → Option Addr) : Prop where
  mkI : (mk, instObj 200 dmk) ∈ tl
  mkD : (dmk, dictOf [] 0) ∈ tl
  mkS : ∀ x ∈ ids, da x ≠ mk ∧ da x ≠ dmk
  inst : ∀ x ∈ ids, (x, instObj (Ca x) (da x)) ∈ tl
  dict : ∀ x ∈ ids, ∃ es n, (da x, dictOf es n) ∈ tl ∧ Atts es (fAt (at_ x) (nx x) (pv x))
  cls : ∀ x ∈ ids, Ca x = 108 ∨ Ca x = 245
  inj : ∀ x ∈ ids, ∀ y ∈ ids, da x = da y → x = y
  sep : ∀ x ∈ ids, ∀ y ∈ ids, da x ≠ y
  kinds : ∀ p ∈ tl, isND p.2 = true

section
variable {tl : List (Addr × Obj)} {mk dmk x y : Addr} {ids : List Addr} {da Ca : Addr → Addr} {at_ : Addr → Str → Option Value} {nx pv : Addr → Option Addr} {es : List DictEntry} {n : Nat}
theorem NS.setN (S : NS tl mk dmk ids da Ca at_ nx pv) (hx : x ∈ ids) (A2 : Atts es (fAt (at_ x) (some y) (pv x))) : NS (setL tl (da x) (dictOf es n)) mk dmk ids da Ca at_ (upO nx x y) pv where
  mkI := setL_other S.mkI (Ne.symm (S.mkS x hx).1)
  mkD := setL_other S.mkD (Ne.symm (S.mkS x hx).2)
  mkS := S.mkS
  inst z hz := setL_other (S.inst z hz) (Ne.symm (S.sep x hx z hz))
  dict z hz := by
    obtain ⟨es', n', h1, h2⟩ := S.dict z hz
    by_cases e : z = x
    · subst e; exact ⟨es, n, setL_self h1, by rw [upO_self]; exact A2⟩
    · exact ⟨es', n', setL_other h1 (fun q => e (S.inj z hz x hx q)), by rw [upO_ne e]; exact h2⟩
  cls := S.cls
  inj := S.inj
  sep := S.sep
  kinds := setL_kinds S.kinds
theorem NS.setP (S : NS tl mk dmk ids da Ca at_ nx pv) (hx : x ∈ ids) (A2 : Atts es (fAt (at_ x) (nx x) (some y))) : NS (setL tl (da x) (dictOf es n)) mk dmk ids da Ca at_ nx (upO pv x y) where
  mkI := setL_other S.mkI (Ne.symm (S.mkS x hx).1)
  mkD := setL_other S.mkD (Ne.symm (S.mkS x hx).2)
  mkS := S.mkS
  inst z hz := setL_other (S.inst z hz) (Ne.symm (S.sep x hx z hz))
  dict z hz := by
    obtain ⟨es', n', h1, h2⟩ := S.dict z hz
    by_cases e : z = x
    · subst e; exact ⟨es, n, setL_self h1, by rw [upO_self]; exact A2⟩
    · exact ⟨es', n', setL_other h1 (fun q => e (S.inj z hz x hx q)), by rw [upO_ne e]; exact h2⟩
  cls := S.cls
  inj := S.inj
  sep := S.sep
  kinds := setL_kinds S.kinds
end

/-- the rest of the ledger lies off the nodes' dicts -/
def Off (pre : List (Addr × Obj)) (da : Addr → Addr) (ids : List Addr) : Prop := ∀ p ∈ pre, ∀ x ∈ ids, p.1 ≠ da x
theorem Off.at {pre : List (Addr × Obj)} {da : Addr → Addr} {ids : List Addr} {x : Addr} (P : Off pre da ids) (hx : x ∈ ids) : ∀ p ∈ pre, p.1 ≠ da x := fun p hp => P p hp x hx
end Mine
namespace Mine
theorem rstB4 : True := by
  w_top off
  trivial
noncomputable abbrev VW : Program := hd.view_39
noncomputable abbrev LO : List Str := looseW hd.view_39 [Str.ofString "CircularListType", Str.ofString "OutgoingRoute"]
noncomputable abbrev KK (w : World) : Frag := hd.heap_39 w.params
noncomputable abbrev PR : Program := PySem.Challenge.rw_fc0145_02.row.prog

theorem fillK : PySem.Challenge.rw_fc0145_02.Holds → (∀ w : World, (hd.heap_39 w.params).In default) → True := by
  k_fill
  intros
  trivial

abbrev frs (outer : List Env) : List Addr := outer.filterMap (·.frame)

/-- what is known where a method is called: the frame, the ledger, the base and what lies below -/
structure Cx (w : World) (A₀ : Around) (base : Heap) (outer : List Env) (mean : ExcName → Option Value) (mg mb : Str → Option Value) (g₀ h₀ : Heap) (L : Addr) (h : Heap) (m : Str → Option Value) (news : List (Addr × Obj)) : Prop where
  F : Fr h₀ L h m
  N : News h₀ L h news
  B : Below A₀ base outer h₀
  X : (hd.heap_39 w.params).In h₀
  T : Top VW LO mean mg mb h₀
  XB : (hd.heap_39 w.params).In base
  TB : Top VW LO mean mg mb base
  D : KtsDicts (outer.filterMap (·.frame)) h₀
  T0 : KtsTurn (outer.filterMap (·.frame)) g₀ h₀

abbrev Ar (d u : Nat) (fr : List Env) (gs : Option (List Code)) : Around := ⟨none, d, some fr, gs, u⟩

section
variable {w : World} {A₀ : Around} {base g₀ h₀ : Heap} {outer : List Env} {env : Env} {L : Addr} {m mg mb : Str → Option Value} {mean : ExcName → Option Value}
  {s : Shared} {pre tl : List (Addr × Obj)} {d u : Nat} {gs : Option (List Code)} {Q : Value → Shared → Prop} {E : Value → Shared → Prop}
  {mk dmk x y : Addr} {ids : List Addr} {da Ca : Addr → Addr} {at_ : Addr → Str → Option Value} {nx pv : Addr → Option Addr}


theorem get_missN {prog : Program} {w : World} {A : Around} {E : Value → Shared → Prop} {s : Shared} {K : Frag} {x C L : Addr} {h₀ : Heap} {m : Str → Option Value} {ox : Obj} {es : List DictEntry} {n : Nat} {name : Str} {expr : Bool} {Q : Value → Shared → Prop}
    (hA : A.handled = none) (F : Fr h₀ L s.heap m) (X₀ : K.In h₀) (I : InstAt s.heap x ox C (some (dictOf es n))) (hg : plainGet K C name = true) (hh : hasDictIn K C = true)
    (ha : findIn K (.ref C) name = some none) (hcls : nameOk K C = true) (hl : getL name es = some none) (hsz : name.length + 100 ≤ sizeLine)
    (h : ∀ h' tk e, Heap.NewExcOf s.heap h' e "AttributeError" → E (.ref e) { s with heap := h', toks := tk }) (hc : copiedNames.contains name = false := by decide +kernel) :
    wpAny (model prog w) A (getAttr (.ref x) name expr) Q E s :=
  get_missK hA (X₀.keeps F.keep) I (plainGet_of hg).1 (findObj_miss hh ha hc hl) (plainGet_of hg).2 hcls hsz h

local macro_rules | `(tactic| k_steps) => `(tactic| repeat' (first | (k_unfold; (try dsimp only)) | walk1 | (dsimp only; walk1) | fail "no step"))
-- the words of this file: ktr_unf enters a def, ktr_rel closes an end
local macro_rules | `(tactic| ktr_unf) => `(tactic| (refine wpAny_call ?_; refine' codeS ?B ?F ?X ?N ?T ?XB ?TB ?D ?T0 ?kA ?hf ?hke ?k6 ?k7 ?k8 ?k9 ?kB ?_ ?c2 ?c3 ?c4 ?c5; (case F => assumption); (case N => assumption); (case B => assumption); (case X => assumption); (case T => assumption); (case XB => assumption); (case TB => assumption); (case D => assumption); (case T0 => assumption); (case kA => exact rfl); (case hf => first | assumption | exact rfl); (case hke => first | assumption | exact rfl); (case k6 => k_is); (case k7 => k_is); (case k8 => (show _ < recursionLimit; first | omega | (dsimp only [Ar]; omega))); (case k9 => exact BindsTo.of_eq rfl); (case kB => exact locs rfl); (case c2 => exact rfl); (case c3 => exact rfl); (case c4 => exact rfl); (case c5 => decide); k_whole))
local macro_rules | `(tactic| ktr_rel) => `(tactic| exact ⟨by assumption, by assumption, by assumption, by assumption, by assumption, by assumption, by assumption, by assumption, by assumption⟩)
local macro_rules | `(tactic| k_mem) => `(tactic| assumption)
local macro_rules | `(tactic| k_get) => `(tactic| assumption)
local macro_rules | `(tactic| walk_at "setAttr ref") => `(tactic| (k_here; k_dflt (refine' setAttr_L ?k1 ?k2 ?k3 ?k4 ?k5 ?k6 ?k7 ?k8 ?k9 ?k10 ?k11 ?_; (case k1 => k_asm); (case k2 => k_asm); (case k3 => k_asm); (case k4 => assumption); (case k5 => assumption); (case k6 => assumption); (case k7 => first | exact Or.inl rfl | exact Or.inr rfl); (case k8 => k_is); (case k9 => k_is); (case k10 => k_is); (case k11 => k_is); k_whole); intro h' es' n' a' F' N'; (try k_sweep)))
theorem sizeOkN : nN.length + 100 ≤ sizeLine := by rw [sizeLine_eq]; decide +kernel
theorem sizeOkP : nP.length + 100 ≤ sizeLine := by rw [sizeLine_eq]; decide +kernel
local macro_rules | `(tactic| walk_at "getAttr ref") => `(tactic| (k_here; k_dflt (refine' get_missN ?k0 ?k1 ?k2 ?k3 ?k4 ?k5 ?k6 ?k7 ?k8 ?k9 ?_; (case k0 => exact rfl); (case k1 => k_asm); (case k2 => k_asm); (case k3 => k_inst); (case k4 => k_is); (case k5 => k_is); (case k6 => k_is); (case k7 => exact rfl); (case k8 => k_get); (case k9 => first | exact sizeOkN | exact sizeOkP); k_whole); intro h' tk' e' x'))
local macro_rules | `(tactic| walk_at "noteFrame ref") => `(tactic| (k_here; (with_reducible rename Heap.NewExcOf _ _ _ _ => neX); k_dflt (refine' caught_own neX ?F ?N ?K ?XB ?TB ?D ?T0 ?ex attrErr_boot ?hn attrErr_exc attrErr_nt sub_AttributeError ?_; (case F => assumption); (case N => assumption); (case K => assumption); (case XB => assumption); (case TB => assumption); (case D => assumption); (case T0 => assumption); (case ex => k_is); (case hn => decide); k_whole); intro h' g' T' F' N' B' X' P' D'))
theorem memR {a b : List (Addr × Obj)} {p : Addr × Obj} (h : p ∈ b) : p ∈ a ++ b := List.mem_append_right _ h


theorem next_some (C : Cx w A₀ base outer mean mg mb g₀ h₀ L s.heap m (pre ++ tl)) (S : NS tl mk dmk ids da Ca at_ nx pv) (hd : d + 5 < recursionLimit) (hf : env.frame = some L) (hke : env.scope.kind = .function)
    (hx : x ∈ ids) (hn : nx x = some y)
    (h : ∀ h₀' h' tk, Cx w A₀ base outer mean mg mb g₀ h₀' L h' m (pre ++ tl) → Q (.ref y) { s with heap := h', toks := tk }) :
    wpAny (model PR w) (Ar d u (env :: outer) gs) (call (.ref 148) [.ref mk, .ref x] []) Q E s := by
  obtain ⟨F, N, B, X, T, XB, TB, D, T0⟩ := C
  have I := memR (a := pre) (S.inst x hx)
  obtain ⟨es, n, hdm, hat⟩ := S.dict x hx
  have I2 := memR (a := pre) hdm
  have hg : getL nN es = some (some (.ref y)) := by rw [hat.get]; unfold fAt; rw [if_pos rfl, hn]; rfl
  ktr_unf
  intro g' L' h' F' N' B' X' T' D'
  (try dsimp only); (try k_fold)
  rcases S.cls x hx with hC | hC <;> rw [hC] at I <;> k_steps
  all_goals exact h _ _ _ (by ktr_rel)

theorem prev_some (C : Cx w A₀ base outer mean mg mb g₀ h₀ L s.heap m (pre ++ tl)) (S : NS tl mk dmk ids da Ca at_ nx pv) (hd : d + 5 < recursionLimit) (hf : env.frame = some L) (hke : env.scope.kind = .function)
    (hx : x ∈ ids) (hn : pv x = some y)
    (h : ∀ h₀' h' tk, Cx w A₀ base outer mean mg mb g₀ h₀' L h' m (pre ++ tl) → Q (.ref y) { s with heap := h', toks := tk }) :
    wpAny (model PR w) (Ar d u (env :: outer) gs) (call (.ref 162) [.ref mk, .ref x] []) Q E s := by
  obtain ⟨F, N, B, X, T, XB, TB, D, T0⟩ := C
  have I := memR (a := pre) (S.inst x hx)
  obtain ⟨es, n, hdm, hat⟩ := S.dict x hx
  have I2 := memR (a := pre) hdm
  have hg : getL nP es = some (some (.ref y)) := by rw [hat.get]; unfold fAt; rw [if_neg (Ne.symm nN_ne), if_pos rfl, hn]; rfl
  ktr_unf
  intro g' L' h' F' N' B' X' T' D'
  (try dsimp only); (try k_fold)
  rcases S.cls x hx with hC | hC <;> rw [hC] at I <;> k_steps
  all_goals exact h _ _ _ (by ktr_rel)

theorem set_next (C : Cx w A₀ base outer mean mg mb g₀ h₀ L s.heap m (pre ++ tl)) (P : Off pre da ids) (S : NS tl mk dmk ids da Ca at_ nx pv) (hd : d + 5 < recursionLimit) (hf : env.frame = some L) (hke : env.scope.kind = .function)
    (hx : x ∈ ids)
    (h : ∀ h₀' h' tk tl', Cx w A₀ base outer mean mg mb g₀ h₀' L h' m (pre ++ tl') → NS tl' mk dmk ids da Ca at_ (upO nx x y) pv → Q .none { s with heap := h', toks := tk }) :
    wpAny (model PR w) (Ar d u (env :: outer) gs) (call (.ref 155) [.ref mk, .ref x, .ref y] []) Q E s := by
  obtain ⟨F, N, B, X, T, XB, TB, D, T0⟩ := C
  have I := memR (a := pre) (S.inst x hx)
  obtain ⟨es, n, hdm, hat⟩ := S.dict x hx
  have I2 := memR (a := pre) hdm
  have hoff := P.at hx
  ktr_unf
  intro g' L' h' F' N' B' X' T' D'
  (try dsimp only); (try k_fold)
  rcases S.cls x hx with hC | hC <;> rw [hC] at I <;> k_steps
  all_goals (
    rename_i a' F2 N2 kF kN _ _
    rw [updA_N] at a'
    rw [setL_append, setL_off _ hoff] at kN
    exact h h₀ _ _ _ ⟨kF, kN, B, X, T, XB, TB, D, T0⟩ (S.setN hx a'))

theorem set_prev (C : Cx w A₀ base outer mean mg mb g₀ h₀ L s.heap m (pre ++ tl)) (P : Off pre da ids) (S : NS tl mk dmk ids da Ca at_ nx pv) (hd : d + 5 < recursionLimit) (hf : env.frame = some L) (hke : env.scope.kind = .function)
    (hx : x ∈ ids)
    (h : ∀ h₀' h' tk tl', Cx w A₀ base outer mean mg mb g₀ h₀' L h' m (pre ++ tl') → NS tl' mk dmk ids da Ca at_ nx (upO pv x y) → Q .none { s with heap := h', toks := tk }) :
    wpAny (model PR w) (Ar d u (env :: outer) gs) (call (.ref 169) [.ref mk, .ref x, .ref y] []) Q E s := by
  obtain ⟨F, N, B, X, T, XB, TB, D, T0⟩ := C
  have I := memR (a := pre) (S.inst x hx)
  obtain ⟨es, n, hdm, hat⟩ := S.dict x hx
  have I2 := memR (a := pre) hdm
  have hoff := P.at hx
  ktr_unf
  intro g' L' h' F' N' B' X' T' D'
  (try dsimp only); (try k_fold)
  rcases S.cls x hx with hC | hC <;> rw [hC] at I <;> k_steps
  all_goals (
    rename_i a' F2 N2 kF kN _ _
    rw [updA_P] at a'
    rw [setL_append, setL_off _ hoff] at kN
    exact h h₀ _ _ _ ⟨kF, kN, B, X, T, XB, TB, D, T0⟩ (S.setP hx a'))

theorem next_none (C : Cx w A₀ base outer mean mg mb g₀ h₀ L s.heap m (pre ++ tl)) (S : NS tl mk dmk ids da Ca at_ nx pv) (hd : d + 5 < recursionLimit) (hf : env.frame = some L) (hke : env.scope.kind = .function)
    (hx : x ∈ ids) (hn : nx x = none)
    (h : ∀ h₀' h' tk, Cx w A₀ base outer mean mg mb g₀ h₀' L h' m (pre ++ tl) → Q .none { s with heap := h', toks := tk }) :
    wpAny (model PR w) (Ar d u (env :: outer) gs) (call (.ref 148) [.ref mk, .ref x] []) Q E s := by
  obtain ⟨F, N, B, X, T, XB, TB, D, T0⟩ := C
  have I := memR (a := pre) (S.inst x hx)
  obtain ⟨es, n, hdm, hat⟩ := S.dict x hx
  have I2 := memR (a := pre) hdm
  have hg : getL nN es = some none := by rw [hat.get]; unfold fAt; rw [if_pos rfl, hn]; rfl
  ktr_unf
  intro g' L' h' F' N' B' X' T' D'
  have T1 : KtsTurn (frs (env :: outer)) g' g' := KtsTurn.refl
  (try dsimp only); (try k_fold)
  rcases S.cls x hx with hC | hC <;> rw [hC] at I <;> k_steps
  all_goals exact h _ _ _ (by ktr_rel)

theorem prev_none (C : Cx w A₀ base outer mean mg mb g₀ h₀ L s.heap m (pre ++ tl)) (S : NS tl mk dmk ids da Ca at_ nx pv) (hd : d + 5 < recursionLimit) (hf : env.frame = some L) (hke : env.scope.kind = .function)
    (hx : x ∈ ids) (hn : pv x = none)
    (h : ∀ h₀' h' tk, Cx w A₀ base outer mean mg mb g₀ h₀' L h' m (pre ++ tl) → Q .none { s with heap := h', toks := tk }) :
    wpAny (model PR w) (Ar d u (env :: outer) gs) (call (.ref 162) [.ref mk, .ref x] []) Q E s := by
  obtain ⟨F, N, B, X, T, XB, TB, D, T0⟩ := C
  have I := memR (a := pre) (S.inst x hx)
  obtain ⟨es, n, hdm, hat⟩ := S.dict x hx
  have I2 := memR (a := pre) hdm
  have hg : getL nP es = some none := by rw [hat.get]; unfold fAt; rw [if_neg (Ne.symm nN_ne), if_pos rfl, hn]; rfl
  ktr_unf
  intro g' L' h' F' N' B' X' T' D'
  have T1 : KtsTurn (frs (env :: outer)) g' g' := KtsTurn.refl
  (try dsimp only); (try k_fold)
  rcases S.cls x hx with hC | hC <;> rw [hC] at I <;> k_steps
  all_goals exact h _ _ _ (by ktr_rel)
end
end Mine
namespace Mine
theorem rstB5 : True := by
  w_top off
  trivial
theorem fillK5 : PySem.Challenge.rw_fc0145_02.Holds → (∀ w : World, (hd.heap_39 w.params).In default) → True := by
  k_fill
  intros
  trivial
local macro_rules | `(tactic| k_steps) => `(tactic| repeat' (first | (k_unfold; (try dsimp only)) | walk1 | (dsimp only; walk1) | fail "no step"))
local macro_rules | `(tactic| ktr_unf) => `(tactic| (refine wpAny_call ?_; refine' codeS ?B ?F ?X ?N ?T ?XB ?TB ?D ?T0 ?kA ?hf ?hke ?k6 ?k7 ?k8 ?k9 ?kB ?_ ?c2 ?c3 ?c4 ?c5; (case F => assumption); (case N => assumption); (case B => assumption); (case X => assumption); (case T => assumption); (case XB => assumption); (case TB => assumption); (case D => assumption); (case T0 => assumption); (case kA => exact rfl); (case hf => first | assumption | exact rfl); (case hke => first | assumption | exact rfl); (case k6 => k_is); (case k7 => k_is); (case k8 => (show _ < recursionLimit; first | omega | (dsimp only [Ar]; omega))); (case k9 => exact BindsTo.of_eq rfl); (case kB => exact locs rfl); (case c2 => exact rfl); (case c3 => exact rfl); (case c4 => exact rfl); (case c5 => decide); k_whole))
local macro_rules | `(tactic| ktr_rel) => `(tactic| exact ⟨by assumption, by assumption, by assumption, by assumption, by assumption, by assumption, by assumption, by assumption, by assumption⟩)
local macro_rules | `(tactic| k_mem) => `(tactic| assumption)

section
variable {w : World} {A₀ : Around} {base g₀ h₀ : Heap} {outer : List Env} {env : Env} {L : Addr} {m mg mb : Str → Option Value} {mean : ExcName → Option Value}
  {s : Shared} {pre tl : List (Addr × Obj)} {d u : Nat} {gs : Option (List Code)} {Q : Value → Shared → Prop} {E : Value → Shared → Prop}
  {mk dmk x y : Addr} {ids : List Addr} {da Ca : Addr → Addr} {at_ : Addr → Str → Option Value} {nx pv : Addr → Option Addr} {h : Heap}

theorem mI (_C : Cx w A₀ base outer mean mg mb g₀ h₀ L h m (pre ++ tl)) (S : NS tl mk dmk ids da Ca at_ nx pv) : (mk, instObj 200 dmk) ∈ pre ++ tl := memR S.mkI
theorem mD (_C : Cx w A₀ base outer mean mg mb g₀ h₀ L h m (pre ++ tl)) (S : NS tl mk dmk ids da Ca at_ nx pv) : (dmk, dictOf [] 0) ∈ pre ++ tl := memR S.mkD

local macro_rules | `(tactic| walk_at "call ref") => `(tactic| (k_here; (with_reducible show wpAny _ _ (call (Value.ref 148) _ _) _ _ _); (first | (refine' next_some ?C ?S ?d ?f ?k ?x ?n ?_; (case C => ktr_rel); (case S => assumption); (case d => first | omega | (dsimp only [Ar]; omega)); (case f => first | assumption | exact rfl); (case k => first | assumption | exact rfl); (case x => assumption); (case n => assumption); k_whole; intro h₀' h' tk' C'; obtain ⟨F', N', B', X', T', XB', TB', D', T0'⟩ := C') | (refine' next_none ?C ?S ?d ?f ?k ?x ?n ?_; (case C => ktr_rel); (case S => assumption); (case d => first | omega | (dsimp only [Ar]; omega)); (case f => first | assumption | exact rfl); (case k => first | assumption | exact rfl); (case x => assumption); (case n => assumption); k_whole; intro h₀' h' tk' C'; obtain ⟨F', N', B', X', T', XB', TB', D', T0'⟩ := C'))))
local macro_rules | `(tactic| walk_at "call ref") => `(tactic| (k_here; (with_reducible show wpAny _ _ (call (Value.ref 162) _ _) _ _ _); (first | (refine' prev_some ?C ?S ?d ?f ?k ?x ?n ?_; (case C => ktr_rel); (case S => assumption); (case d => first | omega | (dsimp only [Ar]; omega)); (case f => first | assumption | exact rfl); (case k => first | assumption | exact rfl); (case x => assumption); (case n => assumption); k_whole; intro h₀' h' tk' C'; obtain ⟨F', N', B', X', T', XB', TB', D', T0'⟩ := C') | (refine' prev_none ?C ?S ?d ?f ?k ?x ?n ?_; (case C => ktr_rel); (case S => assumption); (case d => first | omega | (dsimp only [Ar]; omega)); (case f => first | assumption | exact rfl); (case k => first | assumption | exact rfl); (case x => assumption); (case n => assumption); k_whole; intro h₀' h' tk' C'; obtain ⟨F', N', B', X', T', XB', TB', D', T0'⟩ := C'))))

theorem is_nodes {M : Model} {A : Around} (N : News h₀ L s.heap (pre ++ tl)) (S : NS tl mk dmk ids da Ca at_ nx pv) (hx : x ∈ ids) (hy : y ∈ ids) (ne : x ≠ y) (h : Q (.bool false) s) : wpAny M A (compareOp .Is (.ref x) (.ref y)) Q E s :=
  wpAny_is_ref_other ne (N _ (memR (S.inst x hx))).1 (N _ (memR (S.inst y hy))).1 (by intro e; cases e) h
theorem isNot_nodes {M : Model} {A : Around} (N : News h₀ L s.heap (pre ++ tl)) (S : NS tl mk dmk ids da Ca at_ nx pv) (hx : x ∈ ids) (hy : y ∈ ids) (ne : x ≠ y) (h : Q (.bool true) s) : wpAny M A (compareOp .IsNot (.ref x) (.ref y)) Q E s :=
  wpAny_isNot_ref_other ne (N _ (memR (S.inst x hx))).1 (N _ (memR (S.inst y hy))).1 (by intro e; cases e) h
local macro_rules | `(tactic| walk_at "compareOp Is ref ref") => `(tactic| (k_here; refine' is_nodes ?N ?S ?x ?y ?ne ?_; (case N => assumption); (case S => assumption); (case x => assumption); (case y => assumption); (case ne => first | assumption | (apply Ne.symm; assumption)); k_whole))
local macro_rules | `(tactic| walk_at "compareOp IsNot ref ref") => `(tactic| (k_here; refine' isNot_nodes ?N ?S ?x ?y ?ne ?_; (case N => assumption); (case S => assumption); (case x => assumption); (case y => assumption); (case ne => first | assumption | (apply Ne.symm; assumption)); k_whole))

theorem off_none (C : Cx w A₀ base outer mean mg mb g₀ h₀ L s.heap m (pre ++ tl)) (S : NS tl mk dmk ids da Ca at_ nx pv) (hd : d + 6 < recursionLimit) (hf : env.frame = some L) (hke : env.scope.kind = .function)
    (hx : x ∈ ids) (hn : nx x = none) (hp : pv x = none)
    (h : ∀ h₀' h' tk, Cx w A₀ base outer mean mg mb g₀ h₀' L h' m (pre ++ tl) → Q (.bool false) { s with heap := h', toks := tk }) :
    wpAny (model PR w) (Ar d u (env :: outer) gs) (call (.ref 176) [.ref mk, .ref x] []) Q E s := by
  have i1 := mI C S
  have i2 := mD C S
  obtain ⟨F, N, B, X, T, XB, TB, D, T0⟩ := C
  ktr_unf
  intro g' L' h' F' N' B' X' T' D'
  have T1 : KtsTurn (frs (env :: outer)) g' g' := KtsTurn.refl
  (try dsimp only); (try k_fold)
  k_steps
  all_goals exact h _ _ _ (by ktr_rel)

theorem off_self (C : Cx w A₀ base outer mean mg mb g₀ h₀ L s.heap m (pre ++ tl)) (S : NS tl mk dmk ids da Ca at_ nx pv) (hd : d + 6 < recursionLimit) (hf : env.frame = some L) (hke : env.scope.kind = .function)
    (hx : x ∈ ids) (hn : nx x = some x) (hp : pv x = some x)
    (h : ∀ h₀' h' tk, Cx w A₀ base outer mean mg mb g₀ h₀' L h' m (pre ++ tl) → Q (.bool false) { s with heap := h', toks := tk }) :
    wpAny (model PR w) (Ar d u (env :: outer) gs) (call (.ref 176) [.ref mk, .ref x] []) Q E s := by
  have i1 := mI C S
  have i2 := mD C S
  obtain ⟨F, N, B, X, T, XB, TB, D, T0⟩ := C
  ktr_unf
  intro g' L' h' F' N' B' X' T' D'
  have T1 : KtsTurn (frs (env :: outer)) g' g' := KtsTurn.refl
  (try dsimp only); (try k_fold)
  k_steps
  all_goals exact h _ _ _ (by ktr_rel)

theorem on_list (C : Cx w A₀ base outer mean mg mb g₀ h₀ L s.heap m (pre ++ tl)) (S : NS tl mk dmk ids da Ca at_ nx pv) (hd : d + 6 < recursionLimit) (hf : env.frame = some L) (hke : env.scope.kind = .function)
    (hx : x ∈ ids) (hn : nx x = some y) (hy : y ≠ x) (hyi : y ∈ ids)
    (h : ∀ h₀' h' tk, Cx w A₀ base outer mean mg mb g₀ h₀' L h' m (pre ++ tl) → Q (.bool true) { s with heap := h', toks := tk }) :
    wpAny (model PR w) (Ar d u (env :: outer) gs) (call (.ref 176) [.ref mk, .ref x] []) Q E s := by
  have i1 := mI C S
  have i2 := mD C S
  obtain ⟨F, N, B, X, T, XB, TB, D, T0⟩ := C
  ktr_unf
  intro g' L' h' F' N' B' X' T' D'
  have T1 : KtsTurn (frs (env :: outer)) g' g' := KtsTurn.refl
  (try dsimp only); (try k_fold)
  k_steps
  all_goals exact h _ _ _ (by ktr_rel)

end
end Mine
namespace Mine
theorem rstB6 : True := by
  w_top off
  trivial
theorem fillK6 : PySem.Challenge.rw_fc0145_02.Holds → (∀ w : World, (hd.heap_39 w.params).In default) → True := by
  k_fill
  intros
  trivial
local macro_rules | `(tactic| k_steps) => `(tactic| repeat' (first | (k_unfold; (try dsimp only)) | walk1 | (dsimp only; walk1) | fail "no step"))
local macro_rules | `(tactic| ktr_unf) => `(tactic| (refine wpAny_call ?_; refine' codeS ?B ?F ?X ?N ?T ?XB ?TB ?D ?T0 ?kA ?hf ?hke ?k6 ?k7 ?k8 ?k9 ?kB ?_ ?c2 ?c3 ?c4 ?c5; (case F => assumption); (case N => assumption); (case B => assumption); (case X => assumption); (case T => assumption); (case XB => assumption); (case TB => assumption); (case D => assumption); (case T0 => assumption); (case kA => exact rfl); (case hf => first | assumption | exact rfl); (case hke => first | assumption | exact rfl); (case k6 => k_is); (case k7 => k_is); (case k8 => (show _ < recursionLimit; first | omega | (dsimp only [Ar]; omega))); (case k9 => exact BindsTo.of_eq rfl); (case kB => exact locs rfl); (case c2 => exact rfl); (case c3 => exact rfl); (case c4 => exact rfl); (case c5 => decide); k_whole))
local macro_rules | `(tactic| ktr_rel) => `(tactic| exact ⟨by assumption, by assumption, by assumption, by assumption, by assumption, by assumption, by assumption, by assumption, by assumption⟩)
local macro_rules | `(tactic| k_mem) => `(tactic| assumption)

local macro_rules | `(tactic| walk_at "call ref") => `(tactic| (k_here; (with_reducible show wpAny _ _ (call (Value.ref 148) _ _) _ _ _); (first | (refine' next_some ?C ?S ?d ?f ?k ?x ?n ?_; (case C => ktr_rel); (case S => assumption); (case d => first | omega | (dsimp only [Ar]; omega)); (case f => first | assumption | exact rfl); (case k => first | assumption | exact rfl); (case x => assumption); (case n => assumption); k_whole; intro h₀' h' tk' C'; obtain ⟨F', N', B', X', T', XB', TB', D', T0'⟩ := C') | (refine' next_none ?C ?S ?d ?f ?k ?x ?n ?_; (case C => ktr_rel); (case S => assumption); (case d => first | omega | (dsimp only [Ar]; omega)); (case f => first | assumption | exact rfl); (case k => first | assumption | exact rfl); (case x => assumption); (case n => assumption); k_whole; intro h₀' h' tk' C'; obtain ⟨F', N', B', X', T', XB', TB', D', T0'⟩ := C'))))
local macro_rules | `(tactic| walk_at "call ref") => `(tactic| (k_here; (with_reducible show wpAny _ _ (call (Value.ref 162) _ _) _ _ _); (first | (refine' prev_some ?C ?S ?d ?f ?k ?x ?n ?_; (case C => ktr_rel); (case S => assumption); (case d => first | omega | (dsimp only [Ar]; omega)); (case f => first | assumption | exact rfl); (case k => first | assumption | exact rfl); (case x => assumption); (case n => assumption); k_whole; intro h₀' h' tk' C'; obtain ⟨F', N', B', X', T', XB', TB', D', T0'⟩ := C') | (refine' prev_none ?C ?S ?d ?f ?k ?x ?n ?_; (case C => ktr_rel); (case S => assumption); (case d => first | omega | (dsimp only [Ar]; omega)); (case f => first | assumption | exact rfl); (case k => first | assumption | exact rfl); (case x => assumption); (case n => assumption); k_whole; intro h₀' h' tk' C'; obtain ⟨F', N', B', X', T', XB', TB', D', T0'⟩ := C'))))
local macro_rules | `(tactic| walk_at "call ref") => `(tactic| (k_here; (with_reducible show wpAny _ _ (call (Value.ref 176) _ _) _ _ _); (first | (refine' off_none ?C ?S ?d ?f ?k ?x ?n ?n2 ?_; (case C => ktr_rel); (case S => assumption); (case d => first | omega | (dsimp only [Ar]; omega)); (case f => first | assumption | exact rfl); (case k => first | assumption | exact rfl); (case x => assumption); (case n => assumption); (case n2 => assumption); k_whole; intro h₀' h' tk' C'; obtain ⟨F', N', B', X', T', XB', TB', D', T0'⟩ := C') | (refine' off_self ?C ?S ?d ?f ?k ?x ?n ?n2 ?_; (case C => ktr_rel); (case S => assumption); (case d => first | omega | (dsimp only [Ar]; omega)); (case f => first | assumption | exact rfl); (case k => first | assumption | exact rfl); (case x => assumption); (case n => assumption); (case n2 => assumption); k_whole; intro h₀' h' tk' C'; obtain ⟨F', N', B', X', T', XB', TB', D', T0'⟩ := C') | (refine' on_list ?C ?S ?d ?f ?k ?x ?n ?n2 ?n3 ?_; (case C => ktr_rel); (case S => assumption); (case d => first | omega | (dsimp only [Ar]; omega)); (case f => first | assumption | exact rfl); (case k => first | assumption | exact rfl); (case x => assumption); (case n => assumption); (case n2 => assumption); (case n3 => assumption); k_whole; intro h₀' h' tk' C'; obtain ⟨F', N', B', X', T', XB', TB', D', T0'⟩ := C'))))
local macro_rules | `(tactic| walk_at "call ref") => `(tactic| (k_here; (with_reducible show wpAny _ _ (call (Value.ref 155) _ _) _ _ _); refine' set_next ?C ?P ?S ?d ?f ?k ?x ?_; (case C => ktr_rel); (case P => assumption); (case S => assumption); (case d => first | omega | (dsimp only [Ar]; omega)); (case f => first | assumption | exact rfl); (case k => first | assumption | exact rfl); (case x => assumption); k_whole; intro h₀' h' tk' tl' C' S'; have j1' := mI C' S'; have j2' := mD C' S'; obtain ⟨F', N', B', X', T', XB', TB', D', T0'⟩ := C'))
local macro_rules | `(tactic| walk_at "call ref") => `(tactic| (k_here; (with_reducible show wpAny _ _ (call (Value.ref 169) _ _) _ _ _); refine' set_prev ?C ?P ?S ?d ?f ?k ?x ?_; (case C => ktr_rel); (case P => assumption); (case S => assumption); (case d => first | omega | (dsimp only [Ar]; omega)); (case f => first | assumption | exact rfl); (case k => first | assumption | exact rfl); (case x => assumption); k_whole; intro h₀' h' tk' tl' C' S'; have j1' := mI C' S'; have j2' := mD C' S'; obtain ⟨F', N', B', X', T', XB', TB', D', T0'⟩ := C'))
local macro_rules | `(tactic| walk_at "compareOp Is ref ref") => `(tactic| (k_here; refine' is_nodes ?N ?S ?x ?y ?ne ?_; (case N => assumption); (case S => assumption); (case x => assumption); (case y => assumption); (case ne => first | assumption | (apply Ne.symm; assumption)); k_whole))
local macro_rules | `(tactic| walk_at "compareOp IsNot ref ref") => `(tactic| (k_here; refine' isNot_nodes ?N ?S ?x ?y ?ne ?_; (case N => assumption); (case S => assumption); (case x => assumption); (case y => assumption); (case ne => first | assumption | (apply Ne.symm; assumption)); k_whole))
section
variable {w : World} {A₀ : Around} {base g₀ h₀ : Heap} {outer : List Env} {env : Env} {L : Addr} {m mg mb : Str → Option Value} {mean : ExcName → Option Value}
  {s : Shared} {pre tl : List (Addr × Obj)} {d u : Nat} {gs : Option (List Code)} {Q : Value → Shared → Prop} {E : Value → Shared → Prop}
  {mk dmk x y n p : Addr} {ids : List Addr} {da Ca : Addr → Addr} {at_ : Addr → Str → Option Value} {nx pv : Addr → Option Addr} {h : Heap}


theorem ins_before0 (C : Cx w A₀ base outer mean mg mb g₀ h₀ L s.heap m (pre ++ tl)) (P : Off pre da ids) (S : NS tl mk dmk ids da Ca at_ nx pv) (hd : d + 7 < recursionLimit) (hf : env.frame = some L) (hke : env.scope.kind = .function)
    (hx : x ∈ ids) (hni : n ∈ ids) (hpi : p ∈ ids) (hnx : n ≠ x) (hp : pv x = some p) (h1 : nx n = none) (h2 : pv n = none)
    (h : ∀ h₀' h' tk tl', Cx w A₀ base outer mean mg mb g₀ h₀' L h' m (pre ++ tl') → NS tl' mk dmk ids da Ca at_ (upO (upO nx n x) p n) (upO (upO pv x n) n p) → Q .none { s with heap := h', toks := tk }) :
    wpAny (model PR w) (Ar d u (env :: outer) gs) (call (.ref 190) [.ref mk, .ref x, .ref n] []) Q E s := by
  have i1 := mI C S
  have i2 := mD C S
  obtain ⟨F, N, B, X, T, XB, TB, D, T0⟩ := C
  ktr_unf
  intro g' L' h' F' N' B' X' T' D'
  have T1 : KtsTurn (frs (env :: outer)) g' g' := KtsTurn.refl
  (try dsimp only); (try k_fold)
  k_steps
  all_goals exact h _ _ _ _ (by ktr_rel) (by assumption)

theorem ins_after0 (C : Cx w A₀ base outer mean mg mb g₀ h₀ L s.heap m (pre ++ tl)) (P : Off pre da ids) (S : NS tl mk dmk ids da Ca at_ nx pv) (hd : d + 7 < recursionLimit) (hf : env.frame = some L) (hke : env.scope.kind = .function)
    (hx : x ∈ ids) (hni : n ∈ ids) (hpi : p ∈ ids) (hnx : n ≠ x) (hp : nx x = some p) (h1 : nx n = none) (h2 : pv n = none)
    (h : ∀ h₀' h' tk tl', Cx w A₀ base outer mean mg mb g₀ h₀' L h' m (pre ++ tl') → NS tl' mk dmk ids da Ca at_ (upO (upO nx x n) n p) (upO (upO pv n x) p n) → Q .none { s with heap := h', toks := tk }) :
    wpAny (model PR w) (Ar d u (env :: outer) gs) (call (.ref 183) [.ref mk, .ref x, .ref n] []) Q E s := by
  have i1 := mI C S
  have i2 := mD C S
  obtain ⟨F, N, B, X, T, XB, TB, D, T0⟩ := C
  ktr_unf
  intro g' L' h' F' N' B' X' T' D'
  have T1 : KtsTurn (frs (env :: outer)) g' g' := KtsTurn.refl
  (try dsimp only); (try k_fold)
  k_steps
  all_goals exact h _ _ _ _ (by ktr_rel) (by assumption)

theorem ins_before1 (C : Cx w A₀ base outer mean mg mb g₀ h₀ L s.heap m (pre ++ tl)) (P : Off pre da ids) (S : NS tl mk dmk ids da Ca at_ nx pv) (hd : d + 7 < recursionLimit) (hf : env.frame = some L) (hke : env.scope.kind = .function)
    (hx : x ∈ ids) (hni : n ∈ ids) (hpi : p ∈ ids) (hnx : n ≠ x) (hp : pv x = some p) (h1 : nx n = some n) (h2 : pv n = some n)
    (h : ∀ h₀' h' tk tl', Cx w A₀ base outer mean mg mb g₀ h₀' L h' m (pre ++ tl') → NS tl' mk dmk ids da Ca at_ (upO (upO nx n x) p n) (upO (upO pv x n) n p) → Q .none { s with heap := h', toks := tk }) :
    wpAny (model PR w) (Ar d u (env :: outer) gs) (call (.ref 190) [.ref mk, .ref x, .ref n] []) Q E s := by
  have i1 := mI C S
  have i2 := mD C S
  obtain ⟨F, N, B, X, T, XB, TB, D, T0⟩ := C
  ktr_unf
  intro g' L' h' F' N' B' X' T' D'
  have T1 : KtsTurn (frs (env :: outer)) g' g' := KtsTurn.refl
  (try dsimp only); (try k_fold)
  k_steps
  all_goals exact h _ _ _ _ (by ktr_rel) (by assumption)

theorem ins_after1 (C : Cx w A₀ base outer mean mg mb g₀ h₀ L s.heap m (pre ++ tl)) (P : Off pre da ids) (S : NS tl mk dmk ids da Ca at_ nx pv) (hd : d + 7 < recursionLimit) (hf : env.frame = some L) (hke : env.scope.kind = .function)
    (hx : x ∈ ids) (hni : n ∈ ids) (hpi : p ∈ ids) (hnx : n ≠ x) (hp : nx x = some p) (h1 : nx n = some n) (h2 : pv n = some n)
    (h : ∀ h₀' h' tk tl', Cx w A₀ base outer mean mg mb g₀ h₀' L h' m (pre ++ tl') → NS tl' mk dmk ids da Ca at_ (upO (upO nx x n) n p) (upO (upO pv n x) p n) → Q .none { s with heap := h', toks := tk }) :
    wpAny (model PR w) (Ar d u (env :: outer) gs) (call (.ref 183) [.ref mk, .ref x, .ref n] []) Q E s := by
  have i1 := mI C S
  have i2 := mD C S
  obtain ⟨F, N, B, X, T, XB, TB, D, T0⟩ := C
  ktr_unf
  intro g' L' h' F' N' B' X' T' D'
  have T1 : KtsTurn (frs (env :: outer)) g' g' := KtsTurn.refl
  (try dsimp only); (try k_fold)
  k_steps
  all_goals exact h _ _ _ _ (by ktr_rel) (by assumption)

theorem unlink_on (C : Cx w A₀ base outer mean mg mb g₀ h₀ L s.heap m (pre ++ tl)) (P : Off pre da ids) (S : NS tl mk dmk ids da Ca at_ nx pv) (hd : d + 7 < recursionLimit) (hf : env.frame = some L) (hke : env.scope.kind = .function)
    (hx : x ∈ ids) (hni : n ∈ ids) (hpi : p ∈ ids) (hnx : n ≠ x) (hn : nx x = some n) (hp : pv x = some p)
    (h : ∀ h₀' h' tk tl', Cx w A₀ base outer mean mg mb g₀ h₀' L h' m (pre ++ tl') → NS tl' mk dmk ids da Ca at_ (upO (upO nx p n) x x) (upO (upO pv n p) x x) → Q .none { s with heap := h', toks := tk }) :
    wpAny (model PR w) (Ar d u (env :: outer) gs) (call (.ref 197) [.ref mk, .ref x] []) Q E s := by
  have i1 := mI C S
  have i2 := mD C S
  obtain ⟨F, N, B, X, T, XB, TB, D, T0⟩ := C
  ktr_unf
  intro g' L' h' F' N' B' X' T' D'
  have T1 : KtsTurn (frs (env :: outer)) g' g' := KtsTurn.refl
  (try dsimp only); (try k_fold)
  k_steps
  all_goals exact h _ _ _ _ (by ktr_rel) (by assumption)
end
end Mine
namespace Mine
theorem rstB7 : True := by
  w_top off
  trivial
theorem fillK7 : PySem.Challenge.rw_fc0145_02.Holds → (∀ w : World, (hd.heap_39 w.params).In default) → True := by
  k_fill
  intros
  trivial
local macro_rules | `(tactic| k_steps) => `(tactic| repeat' (first | (k_unfold; (try dsimp only)) | walk1 | (dsimp only; walk1) | fail "no step"))
local macro_rules | `(tactic| ktr_unf) => `(tactic| (refine wpAny_call ?_; refine' codeS ?B ?F ?X ?N ?T ?XB ?TB ?D ?T0 ?kA ?hf ?hke ?k6 ?k7 ?k8 ?k9 ?kB ?_ ?c2 ?c3 ?c4 ?c5; (case F => assumption); (case N => assumption); (case B => assumption); (case X => assumption); (case T => assumption); (case XB => assumption); (case TB => assumption); (case D => assumption); (case T0 => assumption); (case kA => exact rfl); (case hf => first | assumption | exact rfl); (case hke => first | assumption | exact rfl); (case k6 => k_is); (case k7 => k_is); (case k8 => (show _ < recursionLimit; first | omega | (dsimp only [Ar]; omega))); (case k9 => exact BindsTo.of_eq rfl); (case kB => exact locs rfl); (case c2 => exact rfl); (case c3 => exact rfl); (case c4 => exact rfl); (case c5 => decide); k_whole))
local macro_rules | `(tactic| ktr_rel) => `(tactic| exact ⟨by assumption, by assumption, by assumption, by assumption, by assumption, by assumption, by assumption, by assumption, by assumption⟩)
local macro_rules | `(tactic| k_mem) => `(tactic| assumption)

local macro_rules | `(tactic| walk_at "call ref") => `(tactic| (k_here; (with_reducible show wpAny _ _ (call (Value.ref 148) _ _) _ _ _); (first | (refine' next_some ?C ?S ?d ?f ?k ?x ?n ?_; (case C => ktr_rel); (case S => assumption); (case d => first | omega | (dsimp only [Ar]; omega)); (case f => first | assumption | exact rfl); (case k => first | assumption | exact rfl); (case x => assumption); (case n => assumption); k_whole; intro h₀' h' tk' C'; obtain ⟨F', N', B', X', T', XB', TB', D', T0'⟩ := C') | (refine' next_none ?C ?S ?d ?f ?k ?x ?n ?_; (case C => ktr_rel); (case S => assumption); (case d => first | omega | (dsimp only [Ar]; omega)); (case f => first | assumption | exact rfl); (case k => first | assumption | exact rfl); (case x => assumption); (case n => assumption); k_whole; intro h₀' h' tk' C'; obtain ⟨F', N', B', X', T', XB', TB', D', T0'⟩ := C'))))
local macro_rules | `(tactic| walk_at "call ref") => `(tactic| (k_here; (with_reducible show wpAny _ _ (call (Value.ref 162) _ _) _ _ _); (first | (refine' prev_some ?C ?S ?d ?f ?k ?x ?n ?_; (case C => ktr_rel); (case S => assumption); (case d => first | omega | (dsimp only [Ar]; omega)); (case f => first | assumption | exact rfl); (case k => first | assumption | exact rfl); (case x => assumption); (case n => assumption); k_whole; intro h₀' h' tk' C'; obtain ⟨F', N', B', X', T', XB', TB', D', T0'⟩ := C') | (refine' prev_none ?C ?S ?d ?f ?k ?x ?n ?_; (case C => ktr_rel); (case S => assumption); (case d => first | omega | (dsimp only [Ar]; omega)); (case f => first | assumption | exact rfl); (case k => first | assumption | exact rfl); (case x => assumption); (case n => assumption); k_whole; intro h₀' h' tk' C'; obtain ⟨F', N', B', X', T', XB', TB', D', T0'⟩ := C'))))
local macro_rules | `(tactic| walk_at "call ref") => `(tactic| (k_here; (with_reducible show wpAny _ _ (call (Value.ref 176) _ _) _ _ _); (first | (refine' off_none ?C ?S ?d ?f ?k ?x ?n ?n2 ?_; (case C => ktr_rel); (case S => assumption); (case d => first | omega | (dsimp only [Ar]; omega)); (case f => first | assumption | exact rfl); (case k => first | assumption | exact rfl); (case x => assumption); (case n => assumption); (case n2 => assumption); k_whole; intro h₀' h' tk' C'; obtain ⟨F', N', B', X', T', XB', TB', D', T0'⟩ := C') | (refine' off_self ?C ?S ?d ?f ?k ?x ?n ?n2 ?_; (case C => ktr_rel); (case S => assumption); (case d => first | omega | (dsimp only [Ar]; omega)); (case f => first | assumption | exact rfl); (case k => first | assumption | exact rfl); (case x => assumption); (case n => assumption); (case n2 => assumption); k_whole; intro h₀' h' tk' C'; obtain ⟨F', N', B', X', T', XB', TB', D', T0'⟩ := C') | (refine' on_list ?C ?S ?d ?f ?k ?x ?n ?n2 ?n3 ?_; (case C => ktr_rel); (case S => assumption); (case d => first | omega | (dsimp only [Ar]; omega)); (case f => first | assumption | exact rfl); (case k => first | assumption | exact rfl); (case x => assumption); (case n => assumption); (case n2 => assumption); (case n3 => assumption); k_whole; intro h₀' h' tk' C'; obtain ⟨F', N', B', X', T', XB', TB', D', T0'⟩ := C'))))
local macro_rules | `(tactic| walk_at "call ref") => `(tactic| (k_here; (with_reducible show wpAny _ _ (call (Value.ref 155) _ _) _ _ _); refine' set_next ?C ?P ?S ?d ?f ?k ?x ?_; (case C => ktr_rel); (case P => assumption); (case S => assumption); (case d => first | omega | (dsimp only [Ar]; omega)); (case f => first | assumption | exact rfl); (case k => first | assumption | exact rfl); (case x => assumption); k_whole; intro h₀' h' tk' tl' C' S'; have j1' := mI C' S'; have j2' := mD C' S'; obtain ⟨F', N', B', X', T', XB', TB', D', T0'⟩ := C'))
local macro_rules | `(tactic| walk_at "call ref") => `(tactic| (k_here; (with_reducible show wpAny _ _ (call (Value.ref 169) _ _) _ _ _); refine' set_prev ?C ?P ?S ?d ?f ?k ?x ?_; (case C => ktr_rel); (case P => assumption); (case S => assumption); (case d => first | omega | (dsimp only [Ar]; omega)); (case f => first | assumption | exact rfl); (case k => first | assumption | exact rfl); (case x => assumption); k_whole; intro h₀' h' tk' tl' C' S'; have j1' := mI C' S'; have j2' := mD C' S'; obtain ⟨F', N', B', X', T', XB', TB', D', T0'⟩ := C'))
local macro_rules | `(tactic| walk_at "compareOp Is ref ref") => `(tactic| (k_here; refine' is_nodes ?N ?S ?x ?y ?ne ?_; (case N => assumption); (case S => assumption); (case x => assumption); (case y => assumption); (case ne => first | assumption | (apply Ne.symm; assumption)); k_whole))
local macro_rules | `(tactic| walk_at "compareOp IsNot ref ref") => `(tactic| (k_here; refine' isNot_nodes ?N ?S ?x ?y ?ne ?_; (case N => assumption); (case S => assumption); (case x => assumption); (case y => assumption); (case ne => first | assumption | (apply Ne.symm; assumption)); k_whole))
local macro_rules | `(tactic| walk_at "call ref") => `(tactic| (k_here; (with_reducible show wpAny _ _ (call (Value.ref 190) _ _) _ _ _); (first | (refine' ins_before0 ?C ?P ?S ?d ?f ?k ?x0 ?x1 ?x2 ?x3 ?x4 ?x5 ?x6 ?_; (case C => ktr_rel); (case P => assumption); (case S => assumption); (case d => first | omega | (dsimp only [Ar]; omega)); (case f => first | assumption | exact rfl); (case k => first | assumption | exact rfl); (case x6 => assumption); (case x5 => assumption); (case x4 => assumption); (case x3 => assumption); (case x2 => assumption); (case x1 => assumption); (case x0 => assumption); k_whole; intro h₀' h' tk' tl' C' S'; have j1' := mI C' S'; have j2' := mD C' S'; obtain ⟨F', N', B', X', T', XB', TB', D', T0'⟩ := C') | (refine' ins_before1 ?C ?P ?S ?d ?f ?k ?x0 ?x1 ?x2 ?x3 ?x4 ?x5 ?x6 ?_; (case C => ktr_rel); (case P => assumption); (case S => assumption); (case d => first | omega | (dsimp only [Ar]; omega)); (case f => first | assumption | exact rfl); (case k => first | assumption | exact rfl); (case x6 => assumption); (case x5 => assumption); (case x4 => assumption); (case x3 => assumption); (case x2 => assumption); (case x1 => assumption); (case x0 => assumption); k_whole; intro h₀' h' tk' tl' C' S'; have j1' := mI C' S'; have j2' := mD C' S'; obtain ⟨F', N', B', X', T', XB', TB', D', T0'⟩ := C'))))
local macro_rules | `(tactic| walk_at "call ref") => `(tactic| (k_here; (with_reducible show wpAny _ _ (call (Value.ref 183) _ _) _ _ _); (first | (refine' ins_after0 ?C ?P ?S ?d ?f ?k ?x0 ?x1 ?x2 ?x3 ?x4 ?x5 ?x6 ?_; (case C => ktr_rel); (case P => assumption); (case S => assumption); (case d => first | omega | (dsimp only [Ar]; omega)); (case f => first | assumption | exact rfl); (case k => first | assumption | exact rfl); (case x6 => assumption); (case x5 => assumption); (case x4 => assumption); (case x3 => assumption); (case x2 => assumption); (case x1 => assumption); (case x0 => assumption); k_whole; intro h₀' h' tk' tl' C' S'; have j1' := mI C' S'; have j2' := mD C' S'; obtain ⟨F', N', B', X', T', XB', TB', D', T0'⟩ := C') | (refine' ins_after1 ?C ?P ?S ?d ?f ?k ?x0 ?x1 ?x2 ?x3 ?x4 ?x5 ?x6 ?_; (case C => ktr_rel); (case P => assumption); (case S => assumption); (case d => first | omega | (dsimp only [Ar]; omega)); (case f => first | assumption | exact rfl); (case k => first | assumption | exact rfl); (case x6 => assumption); (case x5 => assumption); (case x4 => assumption); (case x3 => assumption); (case x2 => assumption); (case x1 => assumption); (case x0 => assumption); k_whole; intro h₀' h' tk' tl' C' S'; have j1' := mI C' S'; have j2' := mD C' S'; obtain ⟨F', N', B', X', T', XB', TB', D', T0'⟩ := C'))))
local macro_rules | `(tactic| walk_at "call ref") => `(tactic| (k_here; (with_reducible show wpAny _ _ (call (Value.ref 197) _ _) _ _ _); (first | (refine' unlink_on ?C ?P ?S ?d ?f ?k ?x0 ?x1 ?x2 ?x3 ?x4 ?x5 ?_; (case C => ktr_rel); (case P => assumption); (case S => assumption); (case d => first | omega | (dsimp only [Ar]; omega)); (case f => first | assumption | exact rfl); (case k => first | assumption | exact rfl); (case x5 => assumption); (case x4 => assumption); (case x3 => assumption); (case x2 => assumption); (case x1 => assumption); (case x0 => assumption); k_whole; intro h₀' h' tk' tl' C' S'; have j1' := mI C' S'; have j2' := mD C' S'; obtain ⟨F', N', B', X', T', XB', TB', D', T0'⟩ := C'))))
local macro_rules | `(tactic| k_get) => `(tactic| assumption)

def listAt (mk h : Addr) : Str → Option Value := fun s => if s = Str.ofString "list_type" then some (.ref mk) else if s = Str.ofString "head" then some (.ref h) else none
def routeAt (v : Value) : Str → Option Value := fun s => if s = Str.ofString "sink" then some .none else if s = Str.ofString "_path" then some v else if s = Str.ofString "_for_route_refresh" then some (.bool false) else none
theorem fAt_of {g : Str → Option Value} {a b : Option Addr} {s : Str} {v : Option Value} (h1 : s ≠ nN) (h2 : s ≠ nP) (h : g s = v) : fAt g a b s = v := by
  unfold fAt; rw [if_neg h1, if_neg h2, h]
theorem listAt_lt {mk h : Addr} {a b : Option Addr} : fAt (listAt mk h) a b (Str.ofString "list_type") = some (.ref mk) := fAt_of (by decide +kernel) (by decide +kernel) (if_pos rfl)
theorem listAt_hd {mk h : Addr} {a b : Option Addr} : fAt (listAt mk h) a b (Str.ofString "head") = some (.ref h) := fAt_of (by decide +kernel) (by decide +kernel) (by unfold listAt; rw [if_neg (by decide +kernel), if_pos rfl])
theorem listAt_no {mk h : Addr} {a b : Option Addr} {s : Str} (h1 : s ≠ nN) (h2 : s ≠ nP) (h3 : s ≠ Str.ofString "list_type") (h4 : s ≠ Str.ofString "head") : fAt (listAt mk h) a b s = none := fAt_of h1 h2 (by unfold listAt; rw [if_neg h3, if_neg h4])

/-- a head: a List whose type is mk -/
structure Hd (mk : Addr) (ids : List Addr) (Ca : Addr → Addr) (at_ : Addr → Str → Option Value) (h : Addr) : Prop where
  mem : h ∈ ids
  cls : Ca h = 108
  att : at_ h = listAt mk h

structure HdL (news : List (Addr × Obj)) (mk h dh : Addr) (es : List DictEntry) (n : Nat) : Prop where
  i : (h, instObj 108 dh) ∈ news
  d : (dh, dictOf es n) ∈ news
  lt : getL (Str.ofString "list_type") es = some (some (.ref mk))
  hd : getL (Str.ofString "head") es = some (some (.ref h))
  no : ∀ s : Str, s ≠ nN → s ≠ nP → s ≠ Str.ofString "list_type" → s ≠ Str.ofString "head" → getL s es = some none
section
variable {w : World} {A₀ : Around} {base g₀ h₀ : Heap} {outer : List Env} {env : Env} {L : Addr} {m mg mb : Str → Option Value} {mean : ExcName → Option Value}
  {s : Shared} {pre tl : List (Addr × Obj)} {d u : Nat} {gs : Option (List Code)} {Q : Value → Shared → Prop} {E : Value → Shared → Prop}
  {mk dmk x y n p hh : Addr} {ids : List Addr} {da Ca : Addr → Addr} {at_ : Addr → Str → Option Value} {nx pv : Addr → Option Addr} {h : Heap}


theorem hdL (_C : Cx w A₀ base outer mean mg mb g₀ h₀ L h m (pre ++ tl)) (S : NS tl mk dmk ids da Ca at_ nx pv) (H : Hd mk ids Ca at_ hh) : ∃ es n, HdL (pre ++ tl) mk hh (da hh) es n := by
  obtain ⟨es, n, h1, h2⟩ := S.dict hh H.mem
  have h3 := S.inst hh H.mem
  rw [H.cls] at h3
  rw [H.att] at h2
  exact ⟨es, n, memR h3, memR h1, (h2.get _).trans (congrArg some listAt_lt), (h2.get _).trans (congrArg some listAt_hd), fun s a b c e => (h2.get s).trans (congrArg some (listAt_no a b c e))⟩

theorem append0 (C : Cx w A₀ base outer mean mg mb g₀ h₀ L s.heap m (pre ++ tl)) (P : Off pre da ids) (S : NS tl mk dmk ids da Ca at_ nx pv) (hd : d + 8 < recursionLimit) (hf : env.frame = some L) (hke : env.scope.kind = .function)
    (H : Hd mk ids Ca at_ hh) (hni : n ∈ ids) (hpi : p ∈ ids) (hnx : n ≠ hh) (hp : pv hh = some p) (h1 : nx n = none) (h2 : pv n = none)
    (h : ∀ h₀' h' tk tl', Cx w A₀ base outer mean mg mb g₀ h₀' L h' m (pre ++ tl') → NS tl' mk dmk ids da Ca at_ (upO (upO nx n hh) p n) (upO (upO pv hh n) n p) → Q .none { s with heap := h', toks := tk }) :
    wpAny (model PR w) (Ar d u (env :: outer) gs) (call (.ref 70) [.ref hh, .ref n] []) Q E s := by
  have i1 := mI C S
  have i2 := mD C S
  obtain ⟨es, nn, hl⟩ := hdL C S H
  have l1 := hl.i
  have l2 := hl.d
  have l3 := hl.lt
  have l4 := hl.hd
  have hx := H.mem
  obtain ⟨F, N, B, X, T, XB, TB, D, T0⟩ := C
  ktr_unf
  intro g' L' h' F' N' B' X' T' D'
  have T1 : KtsTurn (frs (env :: outer)) g' g' := KtsTurn.refl
  (try dsimp only); (try k_fold)
  k_steps
  all_goals exact h _ _ _ _ (by ktr_rel) (by assumption)

theorem prepend0 (C : Cx w A₀ base outer mean mg mb g₀ h₀ L s.heap m (pre ++ tl)) (P : Off pre da ids) (S : NS tl mk dmk ids da Ca at_ nx pv) (hd : d + 8 < recursionLimit) (hf : env.frame = some L) (hke : env.scope.kind = .function)
    (H : Hd mk ids Ca at_ hh) (hni : n ∈ ids) (hpi : p ∈ ids) (hnx : n ≠ hh) (hp : nx hh = some p) (h1 : nx n = none) (h2 : pv n = none)
    (h : ∀ h₀' h' tk tl', Cx w A₀ base outer mean mg mb g₀ h₀' L h' m (pre ++ tl') → NS tl' mk dmk ids da Ca at_ (upO (upO nx hh n) n p) (upO (upO pv n hh) p n) → Q .none { s with heap := h', toks := tk }) :
    wpAny (model PR w) (Ar d u (env :: outer) gs) (call (.ref 77) [.ref hh, .ref n] []) Q E s := by
  have i1 := mI C S
  have i2 := mD C S
  obtain ⟨es, nn, hl⟩ := hdL C S H
  have l1 := hl.i
  have l2 := hl.d
  have l3 := hl.lt
  have l4 := hl.hd
  have hx := H.mem
  obtain ⟨F, N, B, X, T, XB, TB, D, T0⟩ := C
  ktr_unf
  intro g' L' h' F' N' B' X' T' D'
  have T1 : KtsTurn (frs (env :: outer)) g' g' := KtsTurn.refl
  (try dsimp only); (try k_fold)
  k_steps
  all_goals exact h _ _ _ _ (by ktr_rel) (by assumption)

theorem append1 (C : Cx w A₀ base outer mean mg mb g₀ h₀ L s.heap m (pre ++ tl)) (P : Off pre da ids) (S : NS tl mk dmk ids da Ca at_ nx pv) (hd : d + 8 < recursionLimit) (hf : env.frame = some L) (hke : env.scope.kind = .function)
    (H : Hd mk ids Ca at_ hh) (hni : n ∈ ids) (hpi : p ∈ ids) (hnx : n ≠ hh) (hp : pv hh = some p) (h1 : nx n = some n) (h2 : pv n = some n)
    (h : ∀ h₀' h' tk tl', Cx w A₀ base outer mean mg mb g₀ h₀' L h' m (pre ++ tl') → NS tl' mk dmk ids da Ca at_ (upO (upO nx n hh) p n) (upO (upO pv hh n) n p) → Q .none { s with heap := h', toks := tk }) :
    wpAny (model PR w) (Ar d u (env :: outer) gs) (call (.ref 70) [.ref hh, .ref n] []) Q E s := by
  have i1 := mI C S
  have i2 := mD C S
  obtain ⟨es, nn, hl⟩ := hdL C S H
  have l1 := hl.i
  have l2 := hl.d
  have l3 := hl.lt
  have l4 := hl.hd
  have hx := H.mem
  obtain ⟨F, N, B, X, T, XB, TB, D, T0⟩ := C
  ktr_unf
  intro g' L' h' F' N' B' X' T' D'
  have T1 : KtsTurn (frs (env :: outer)) g' g' := KtsTurn.refl
  (try dsimp only); (try k_fold)
  k_steps
  all_goals exact h _ _ _ _ (by ktr_rel) (by assumption)

theorem prepend1 (C : Cx w A₀ base outer mean mg mb g₀ h₀ L s.heap m (pre ++ tl)) (P : Off pre da ids) (S : NS tl mk dmk ids da Ca at_ nx pv) (hd : d + 8 < recursionLimit) (hf : env.frame = some L) (hke : env.scope.kind = .function)
    (H : Hd mk ids Ca at_ hh) (hni : n ∈ ids) (hpi : p ∈ ids) (hnx : n ≠ hh) (hp : nx hh = some p) (h1 : nx n = some n) (h2 : pv n = some n)
    (h : ∀ h₀' h' tk tl', Cx w A₀ base outer mean mg mb g₀ h₀' L h' m (pre ++ tl') → NS tl' mk dmk ids da Ca at_ (upO (upO nx hh n) n p) (upO (upO pv n hh) p n) → Q .none { s with heap := h', toks := tk }) :
    wpAny (model PR w) (Ar d u (env :: outer) gs) (call (.ref 77) [.ref hh, .ref n] []) Q E s := by
  have i1 := mI C S
  have i2 := mD C S
  obtain ⟨es, nn, hl⟩ := hdL C S H
  have l1 := hl.i
  have l2 := hl.d
  have l3 := hl.lt
  have l4 := hl.hd
  have hx := H.mem
  obtain ⟨F, N, B, X, T, XB, TB, D, T0⟩ := C
  ktr_unf
  intro g' L' h' F' N' B' X' T' D'
  have T1 : KtsTurn (frs (env :: outer)) g' g' := KtsTurn.refl
  (try dsimp only); (try k_fold)
  k_steps
  all_goals exact h _ _ _ _ (by ktr_rel) (by assumption)

theorem remove_on (C : Cx w A₀ base outer mean mg mb g₀ h₀ L s.heap m (pre ++ tl)) (P : Off pre da ids) (S : NS tl mk dmk ids da Ca at_ nx pv) (hd : d + 8 < recursionLimit) (hf : env.frame = some L) (hke : env.scope.kind = .function)
    (H : Hd mk ids Ca at_ hh) (hx : x ∈ ids) (hni : n ∈ ids) (hpi : p ∈ ids) (hnx : n ≠ x) (hn : nx x = some n) (hp : pv x = some p)
    (h : ∀ h₀' h' tk tl', Cx w A₀ base outer mean mg mb g₀ h₀' L h' m (pre ++ tl') → NS tl' mk dmk ids da Ca at_ (upO (upO nx p n) x x) (upO (upO pv n p) x x) → Q .none { s with heap := h', toks := tk }) :
    wpAny (model PR w) (Ar d u (env :: outer) gs) (call (.ref 91) [.ref hh, .ref x] []) Q E s := by
  have i1 := mI C S
  have i2 := mD C S
  obtain ⟨es, nn, hl⟩ := hdL C S H
  have l1 := hl.i
  have l2 := hl.d
  have l3 := hl.lt
  have l4 := hl.hd
  have hx' := H.mem
  obtain ⟨F, N, B, X, T, XB, TB, D, T0⟩ := C
  ktr_unf
  intro g' L' h' F' N' B' X' T' D'
  have T1 : KtsTurn (frs (env :: outer)) g' g' := KtsTurn.refl
  (try dsimp only); (try k_fold)
  k_steps
  all_goals exact h _ _ _ _ (by ktr_rel) (by assumption)

theorem is_empty_t (C : Cx w A₀ base outer mean mg mb g₀ h₀ L s.heap m (pre ++ tl)) (P : Off pre da ids) (S : NS tl mk dmk ids da Ca at_ nx pv) (hd : d + 8 < recursionLimit) (hf : env.frame = some L) (hke : env.scope.kind = .function)
    (H : Hd mk ids Ca at_ hh) (hn : nx hh = some hh) (hp : pv hh = some hh)
    (h : ∀ h₀' h' tk tl', Cx w A₀ base outer mean mg mb g₀ h₀' L h' m (pre ++ tl') → NS tl' mk dmk ids da Ca at_ nx pv → Q (.bool true) { s with heap := h', toks := tk }) :
    wpAny (model PR w) (Ar d u (env :: outer) gs) (call (.ref 49) [.ref hh] []) Q E s := by
  have i1 := mI C S
  have i2 := mD C S
  obtain ⟨es, nn, hl⟩ := hdL C S H
  have l1 := hl.i
  have l2 := hl.d
  have l3 := hl.lt
  have l4 := hl.hd
  have hx := H.mem
  obtain ⟨F, N, B, X, T, XB, TB, D, T0⟩ := C
  ktr_unf
  intro g' L' h' F' N' B' X' T' D'
  have T1 : KtsTurn (frs (env :: outer)) g' g' := KtsTurn.refl
  (try dsimp only); (try k_fold)
  k_steps
  all_goals exact h _ _ _ _ (by ktr_rel) (by assumption)

theorem is_empty_f (C : Cx w A₀ base outer mean mg mb g₀ h₀ L s.heap m (pre ++ tl)) (P : Off pre da ids) (S : NS tl mk dmk ids da Ca at_ nx pv) (hd : d + 8 < recursionLimit) (hf : env.frame = some L) (hke : env.scope.kind = .function)
    (H : Hd mk ids Ca at_ hh) (hn : nx hh = some x) (hne : x ≠ hh) (hxi : x ∈ ids)
    (h : ∀ h₀' h' tk tl', Cx w A₀ base outer mean mg mb g₀ h₀' L h' m (pre ++ tl') → NS tl' mk dmk ids da Ca at_ nx pv → Q (.bool false) { s with heap := h', toks := tk }) :
    wpAny (model PR w) (Ar d u (env :: outer) gs) (call (.ref 49) [.ref hh] []) Q E s := by
  have i1 := mI C S
  have i2 := mD C S
  obtain ⟨es, nn, hl⟩ := hdL C S H
  have l1 := hl.i
  have l2 := hl.d
  have l3 := hl.lt
  have l4 := hl.hd
  have hx := H.mem
  obtain ⟨F, N, B, X, T, XB, TB, D, T0⟩ := C
  ktr_unf
  intro g' L' h' F' N' B' X' T' D'
  have T1 : KtsTurn (frs (env :: outer)) g' g' := KtsTurn.refl
  (try dsimp only); (try k_fold)
  k_steps
  all_goals exact h _ _ _ _ (by ktr_rel) (by assumption)
end
end Mine
namespace Mine
theorem rstB8 : True := by
  w_top off
  trivial
theorem fillK8 : PySem.Challenge.rw_fc0145_02.Holds → (∀ w : World, (hd.heap_39 w.params).In default) → True := by
  k_fill
  intros
  trivial
local macro_rules | `(tactic| k_steps) => `(tactic| repeat' (first | (k_unfold; (try dsimp only)) | walk1 | (dsimp only; walk1) | fail "no step"))
local macro_rules | `(tactic| ktr_unf) => `(tactic| (refine wpAny_call ?_; refine' codeS ?B ?F ?X ?N ?T ?XB ?TB ?D ?T0 ?kA ?hf ?hke ?k6 ?k7 ?k8 ?k9 ?kB ?_ ?c2 ?c3 ?c4 ?c5; (case F => assumption); (case N => assumption); (case B => assumption); (case X => assumption); (case T => assumption); (case XB => assumption); (case TB => assumption); (case D => assumption); (case T0 => assumption); (case kA => exact rfl); (case hf => first | assumption | exact rfl); (case hke => first | assumption | exact rfl); (case k6 => k_is); (case k7 => k_is); (case k8 => (show _ < recursionLimit; first | omega | (dsimp only [Ar]; omega))); (case k9 => exact BindsTo.of_eq rfl); (case kB => exact locs rfl); (case c2 => exact rfl); (case c3 => exact rfl); (case c4 => exact rfl); (case c5 => decide); k_whole))
local macro_rules | `(tactic| ktr_rel) => `(tactic| exact ⟨by assumption, by assumption, by assumption, by assumption, by assumption, by assumption, by assumption, by assumption, by assumption⟩)
local macro_rules | `(tactic| k_mem) => `(tactic| assumption)

local macro_rules | `(tactic| walk_at "call ref") => `(tactic| (k_here; (with_reducible show wpAny _ _ (call (Value.ref 148) _ _) _ _ _); (first | (refine' next_some ?C ?S ?d ?f ?k ?x ?n ?_; (case C => ktr_rel); (case S => assumption); (case d => first | omega | (dsimp only [Ar]; omega)); (case f => first | assumption | exact rfl); (case k => first | assumption | exact rfl); (case x => assumption); (case n => assumption); k_whole; intro h₀' h' tk' C'; obtain ⟨F', N', B', X', T', XB', TB', D', T0'⟩ := C') | (refine' next_none ?C ?S ?d ?f ?k ?x ?n ?_; (case C => ktr_rel); (case S => assumption); (case d => first | omega | (dsimp only [Ar]; omega)); (case f => first | assumption | exact rfl); (case k => first | assumption | exact rfl); (case x => assumption); (case n => assumption); k_whole; intro h₀' h' tk' C'; obtain ⟨F', N', B', X', T', XB', TB', D', T0'⟩ := C'))))
local macro_rules | `(tactic| walk_at "call ref") => `(tactic| (k_here; (with_reducible show wpAny _ _ (call (Value.ref 162) _ _) _ _ _); (first | (refine' prev_some ?C ?S ?d ?f ?k ?x ?n ?_; (case C => ktr_rel); (case S => assumption); (case d => first | omega | (dsimp only [Ar]; omega)); (case f => first | assumption | exact rfl); (case k => first | assumption | exact rfl); (case x => assumption); (case n => assumption); k_whole; intro h₀' h' tk' C'; obtain ⟨F', N', B', X', T', XB', TB', D', T0'⟩ := C') | (refine' prev_none ?C ?S ?d ?f ?k ?x ?n ?_; (case C => ktr_rel); (case S => assumption); (case d => first | omega | (dsimp only [Ar]; omega)); (case f => first | assumption | exact rfl); (case k => first | assumption | exact rfl); (case x => assumption); (case n => assumption); k_whole; intro h₀' h' tk' C'; obtain ⟨F', N', B', X', T', XB', TB', D', T0'⟩ := C'))))
local macro_rules | `(tactic| walk_at "call ref") => `(tactic| (k_here; (with_reducible show wpAny _ _ (call (Value.ref 176) _ _) _ _ _); (first | (refine' off_none ?C ?S ?d ?f ?k ?x ?n ?n2 ?_; (case C => ktr_rel); (case S => assumption); (case d => first | omega | (dsimp only [Ar]; omega)); (case f => first | assumption | exact rfl); (case k => first | assumption | exact rfl); (case x => assumption); (case n => assumption); (case n2 => assumption); k_whole; intro h₀' h' tk' C'; obtain ⟨F', N', B', X', T', XB', TB', D', T0'⟩ := C') | (refine' off_self ?C ?S ?d ?f ?k ?x ?n ?n2 ?_; (case C => ktr_rel); (case S => assumption); (case d => first | omega | (dsimp only [Ar]; omega)); (case f => first | assumption | exact rfl); (case k => first | assumption | exact rfl); (case x => assumption); (case n => assumption); (case n2 => assumption); k_whole; intro h₀' h' tk' C'; obtain ⟨F', N', B', X', T', XB', TB', D', T0'⟩ := C') | (refine' on_list ?C ?S ?d ?f ?k ?x ?n ?n2 ?n3 ?_; (case C => ktr_rel); (case S => assumption); (case d => first | omega | (dsimp only [Ar]; omega)); (case f => first | assumption | exact rfl); (case k => first | assumption | exact rfl); (case x => assumption); (case n => assumption); (case n2 => assumption); (case n3 => assumption); k_whole; intro h₀' h' tk' C'; obtain ⟨F', N', B', X', T', XB', TB', D', T0'⟩ := C'))))
local macro_rules | `(tactic| walk_at "call ref") => `(tactic| (k_here; (with_reducible show wpAny _ _ (call (Value.ref 155) _ _) _ _ _); refine' set_next ?C ?P ?S ?d ?f ?k ?x ?_; (case C => ktr_rel); (case P => assumption); (case S => assumption); (case d => first | omega | (dsimp only [Ar]; omega)); (case f => first | assumption | exact rfl); (case k => first | assumption | exact rfl); (case x => assumption); k_whole; intro h₀' h' tk' tl' C' S'; have j1' := mI C' S'; have j2' := mD C' S'; obtain ⟨F', N', B', X', T', XB', TB', D', T0'⟩ := C'))
local macro_rules | `(tactic| walk_at "call ref") => `(tactic| (k_here; (with_reducible show wpAny _ _ (call (Value.ref 169) _ _) _ _ _); refine' set_prev ?C ?P ?S ?d ?f ?k ?x ?_; (case C => ktr_rel); (case P => assumption); (case S => assumption); (case d => first | omega | (dsimp only [Ar]; omega)); (case f => first | assumption | exact rfl); (case k => first | assumption | exact rfl); (case x => assumption); k_whole; intro h₀' h' tk' tl' C' S'; have j1' := mI C' S'; have j2' := mD C' S'; obtain ⟨F', N', B', X', T', XB', TB', D', T0'⟩ := C'))
local macro_rules | `(tactic| walk_at "compareOp Is ref ref") => `(tactic| (k_here; refine' is_nodes ?N ?S ?x ?y ?ne ?_; (case N => assumption); (case S => assumption); (case x => assumption); (case y => assumption); (case ne => first | assumption | (apply Ne.symm; assumption)); k_whole))
local macro_rules | `(tactic| walk_at "compareOp IsNot ref ref") => `(tactic| (k_here; refine' isNot_nodes ?N ?S ?x ?y ?ne ?_; (case N => assumption); (case S => assumption); (case x => assumption); (case y => assumption); (case ne => first | assumption | (apply Ne.symm; assumption)); k_whole))
local macro_rules | `(tactic| walk_at "call ref") => `(tactic| (k_here; (with_reducible show wpAny _ _ (call (Value.ref 148) _ _) _ _ _); (first | (refine' next_some ?C ?S ?d ?f ?k ?x ?n ?_; (case C => ktr_rel); (case S => assumption); (case d => first | omega | (dsimp only [Ar]; omega)); (case f => first | assumption | exact rfl); (case k => first | assumption | exact rfl); (case x => assumption); (case n => assumption); k_whole; intro h₀' h' tk' C'; obtain ⟨F', N', B', X', T', XB', TB', D', T0'⟩ := C') | (refine' next_none ?C ?S ?d ?f ?k ?x ?n ?_; (case C => ktr_rel); (case S => assumption); (case d => first | omega | (dsimp only [Ar]; omega)); (case f => first | assumption | exact rfl); (case k => first | assumption | exact rfl); (case x => assumption); (case n => assumption); k_whole; intro h₀' h' tk' C'; obtain ⟨F', N', B', X', T', XB', TB', D', T0'⟩ := C'))))
local macro_rules | `(tactic| walk_at "call ref") => `(tactic| (k_here; (with_reducible show wpAny _ _ (call (Value.ref 162) _ _) _ _ _); (first | (refine' prev_some ?C ?S ?d ?f ?k ?x ?n ?_; (case C => ktr_rel); (case S => assumption); (case d => first | omega | (dsimp only [Ar]; omega)); (case f => first | assumption | exact rfl); (case k => first | assumption | exact rfl); (case x => assumption); (case n => assumption); k_whole; intro h₀' h' tk' C'; obtain ⟨F', N', B', X', T', XB', TB', D', T0'⟩ := C') | (refine' prev_none ?C ?S ?d ?f ?k ?x ?n ?_; (case C => ktr_rel); (case S => assumption); (case d => first | omega | (dsimp only [Ar]; omega)); (case f => first | assumption | exact rfl); (case k => first | assumption | exact rfl); (case x => assumption); (case n => assumption); k_whole; intro h₀' h' tk' C'; obtain ⟨F', N', B', X', T', XB', TB', D', T0'⟩ := C'))))
local macro_rules | `(tactic| walk_at "call ref") => `(tactic| (k_here; (with_reducible show wpAny _ _ (call (Value.ref 176) _ _) _ _ _); (first | (refine' off_none ?C ?S ?d ?f ?k ?x ?n ?n2 ?_; (case C => ktr_rel); (case S => assumption); (case d => first | omega | (dsimp only [Ar]; omega)); (case f => first | assumption | exact rfl); (case k => first | assumption | exact rfl); (case x => assumption); (case n => assumption); (case n2 => assumption); k_whole; intro h₀' h' tk' C'; obtain ⟨F', N', B', X', T', XB', TB', D', T0'⟩ := C') | (refine' off_self ?C ?S ?d ?f ?k ?x ?n ?n2 ?_; (case C => ktr_rel); (case S => assumption); (case d => first | omega | (dsimp only [Ar]; omega)); (case f => first | assumption | exact rfl); (case k => first | assumption | exact rfl); (case x => assumption); (case n => assumption); (case n2 => assumption); k_whole; intro h₀' h' tk' C'; obtain ⟨F', N', B', X', T', XB', TB', D', T0'⟩ := C') | (refine' on_list ?C ?S ?d ?f ?k ?x ?n ?n2 ?n3 ?_; (case C => ktr_rel); (case S => assumption); (case d => first | omega | (dsimp only [Ar]; omega)); (case f => first | assumption | exact rfl); (case k => first | assumption | exact rfl); (case x => assumption); (case n => assumption); (case n2 => assumption); (case n3 => assumption); k_whole; intro h₀' h' tk' C'; obtain ⟨F', N', B', X', T', XB', TB', D', T0'⟩ := C'))))
local macro_rules | `(tactic| walk_at "call ref") => `(tactic| (k_here; (with_reducible show wpAny _ _ (call (Value.ref 155) _ _) _ _ _); refine' set_next ?C ?P ?S ?d ?f ?k ?x ?_; (case C => ktr_rel); (case P => assumption); (case S => assumption); (case d => first | omega | (dsimp only [Ar]; omega)); (case f => first | assumption | exact rfl); (case k => first | assumption | exact rfl); (case x => assumption); k_whole; intro h₀' h' tk' tl' C' S'; have j1' := mI C' S'; have j2' := mD C' S'; obtain ⟨F', N', B', X', T', XB', TB', D', T0'⟩ := C'))
local macro_rules | `(tactic| walk_at "call ref") => `(tactic| (k_here; (with_reducible show wpAny _ _ (call (Value.ref 169) _ _) _ _ _); refine' set_prev ?C ?P ?S ?d ?f ?k ?x ?_; (case C => ktr_rel); (case P => assumption); (case S => assumption); (case d => first | omega | (dsimp only [Ar]; omega)); (case f => first | assumption | exact rfl); (case k => first | assumption | exact rfl); (case x => assumption); k_whole; intro h₀' h' tk' tl' C' S'; have j1' := mI C' S'; have j2' := mD C' S'; obtain ⟨F', N', B', X', T', XB', TB', D', T0'⟩ := C'))
local macro_rules | `(tactic| walk_at "compareOp Is ref ref") => `(tactic| (k_here; refine' is_nodes ?N ?S ?x ?y ?ne ?_; (case N => assumption); (case S => assumption); (case x => assumption); (case y => assumption); (case ne => first | assumption | (apply Ne.symm; assumption)); k_whole))
local macro_rules | `(tactic| walk_at "compareOp IsNot ref ref") => `(tactic| (k_here; refine' isNot_nodes ?N ?S ?x ?y ?ne ?_; (case N => assumption); (case S => assumption); (case x => assumption); (case y => assumption); (case ne => first | assumption | (apply Ne.symm; assumption)); k_whole))
local macro_rules | `(tactic| walk_at "call ref") => `(tactic| (k_here; (with_reducible show wpAny _ _ (call (Value.ref 91) _ _) _ _ _); (first | (refine' remove_on ?C ?P ?S ?d ?f ?k ?H ?x0 ?x1 ?x2 ?x3 ?x4 ?x5 ?_; (case C => ktr_rel); (case P => assumption); (case S => assumption); (case d => first | omega | (dsimp only [Ar]; omega)); (case f => first | assumption | exact rfl); (case k => first | assumption | exact rfl); (case H => assumption); (case x5 => assumption); (case x4 => assumption); (case x3 => assumption); (case x2 => assumption); (case x1 => assumption); (case x0 => assumption); k_whole; intro h₀' h' tk' tl' C' S'; have j1' := mI C' S'; have j2' := mD C' S'; obtain ⟨F', N', B', X', T', XB', TB', D', T0'⟩ := C'))))
local macro_rules | `(tactic| k_get) => `(tactic| assumption)
section
variable {w : World} {A₀ : Around} {base g₀ h₀ : Heap} {outer : List Env} {env : Env} {L : Addr} {m mg mb : Str → Option Value} {mean : ExcName → Option Value}
  {s : Shared} {pre tl : List (Addr × Obj)} {d u : Nat} {gs : Option (List Code)} {Q : Value → Shared → Prop} {E : Value → Shared → Prop}
  {mk dmk x y n p hh : Addr} {ids : List Addr} {da Ca : Addr → Addr} {at_ : Addr → Str → Option Value} {nx pv : Addr → Option Addr} {h : Heap}


theorem pop_none (C : Cx w A₀ base outer mean mg mb g₀ h₀ L s.heap m (pre ++ tl)) (P : Off pre da ids) (S : NS tl mk dmk ids da Ca at_ nx pv) (hd : d + 9 < recursionLimit) (hf : env.frame = some L) (hke : env.scope.kind = .function)
    (H : Hd mk ids Ca at_ hh) (hn : nx hh = some hh)
    (h : ∀ h₀' h' tk tl', Cx w A₀ base outer mean mg mb g₀ h₀' L h' m (pre ++ tl') → NS tl' mk dmk ids da Ca at_ nx pv → Q .none { s with heap := h', toks := tk }) :
    wpAny (model PR w) (Ar d u (env :: outer) gs) (call (.ref 98) [.ref hh] []) Q E s := by
  have i1 := mI C S
  have i2 := mD C S
  obtain ⟨es, nn, hl⟩ := hdL C S H
  have l1 := hl.i
  have l2 := hl.d
  have l3 := hl.lt
  have l4 := hl.hd
  have hx := H.mem
  obtain ⟨F, N, B, X, T, XB, TB, D, T0⟩ := C
  ktr_unf
  intro g' L' h' F' N' B' X' T' D'
  have T1 : KtsTurn (frs (env :: outer)) g' g' := KtsTurn.refl
  (try dsimp only); (try k_fold)
  k_steps
  all_goals exact h _ _ _ _ (by ktr_rel) (by assumption)

theorem pop_some (C : Cx w A₀ base outer mean mg mb g₀ h₀ L s.heap m (pre ++ tl)) (P : Off pre da ids) (S : NS tl mk dmk ids da Ca at_ nx pv) (hd : d + 9 < recursionLimit) (hf : env.frame = some L) (hke : env.scope.kind = .function)
    (H : Hd mk ids Ca at_ hh) (hx : x ∈ ids) (hxh : x ≠ hh) (hnh : nx hh = some x) (hni : n ∈ ids) (hpi : p ∈ ids) (hnx : n ≠ x) (hn : nx x = some n) (hp : pv x = some p)
    (h : ∀ h₀' h' tk tl', Cx w A₀ base outer mean mg mb g₀ h₀' L h' m (pre ++ tl') → NS tl' mk dmk ids da Ca at_ (upO (upO nx p n) x x) (upO (upO pv n p) x x) → Q (.ref x) { s with heap := h', toks := tk }) :
    wpAny (model PR w) (Ar d u (env :: outer) gs) (call (.ref 98) [.ref hh] []) Q E s := by
  have i1 := mI C S
  have i2 := mD C S
  obtain ⟨es, nn, hl⟩ := hdL C S H
  have l1 := hl.i
  have l2 := hl.d
  have l3 := hl.lt
  have l4 := hl.hd
  have no0 := hl.no (Str.ofString "remove") (by decide +kernel) (by decide +kernel) (by decide +kernel) (by decide +kernel)
  have hx' := H.mem
  obtain ⟨F, N, B, X, T, XB, TB, D, T0⟩ := C
  ktr_unf
  intro g' L' h' F' N' B' X' T' D'
  have T1 : KtsTurn (frs (env :: outer)) g' g' := KtsTurn.refl
  (try dsimp only); (try k_fold)
  k_steps
  all_goals exact h _ _ _ _ (by ktr_rel) (by assumption)

theorem isOn_none (C : Cx w A₀ base outer mean mg mb g₀ h₀ L s.heap m (pre ++ tl)) (P : Off pre da ids) (S : NS tl mk dmk ids da Ca at_ nx pv) (hd : d + 8 < recursionLimit) (hf : env.frame = some L) (hke : env.scope.kind = .function)
    (H : Hd mk ids Ca at_ hh) (hx : x ∈ ids) (hn : nx x = none) (hp : pv x = none)
    (h : ∀ h₀' h' tk tl', Cx w A₀ base outer mean mg mb g₀ h₀' L h' m (pre ++ tl') → NS tl' mk dmk ids da Ca at_ nx pv → Q (.bool false) { s with heap := h', toks := tk }) :
    wpAny (model PR w) (Ar d u (env :: outer) gs) (call (.ref 63) [.ref hh, .ref x] []) Q E s := by
  have i1 := mI C S
  have i2 := mD C S
  obtain ⟨es, nn, hl⟩ := hdL C S H
  have l1 := hl.i
  have l2 := hl.d
  have l3 := hl.lt
  have l4 := hl.hd
  have hx' := H.mem
  obtain ⟨F, N, B, X, T, XB, TB, D, T0⟩ := C
  ktr_unf
  intro g' L' h' F' N' B' X' T' D'
  have T1 : KtsTurn (frs (env :: outer)) g' g' := KtsTurn.refl
  (try dsimp only); (try k_fold)
  k_steps
  all_goals exact h _ _ _ _ (by ktr_rel) (by assumption)

theorem isOn_self (C : Cx w A₀ base outer mean mg mb g₀ h₀ L s.heap m (pre ++ tl)) (P : Off pre da ids) (S : NS tl mk dmk ids da Ca at_ nx pv) (hd : d + 8 < recursionLimit) (hf : env.frame = some L) (hke : env.scope.kind = .function)
    (H : Hd mk ids Ca at_ hh) (hx : x ∈ ids) (hn : nx x = some x) (hp : pv x = some x)
    (h : ∀ h₀' h' tk tl', Cx w A₀ base outer mean mg mb g₀ h₀' L h' m (pre ++ tl') → NS tl' mk dmk ids da Ca at_ nx pv → Q (.bool false) { s with heap := h', toks := tk }) :
    wpAny (model PR w) (Ar d u (env :: outer) gs) (call (.ref 63) [.ref hh, .ref x] []) Q E s := by
  have i1 := mI C S
  have i2 := mD C S
  obtain ⟨es, nn, hl⟩ := hdL C S H
  have l1 := hl.i
  have l2 := hl.d
  have l3 := hl.lt
  have l4 := hl.hd
  have hx' := H.mem
  obtain ⟨F, N, B, X, T, XB, TB, D, T0⟩ := C
  ktr_unf
  intro g' L' h' F' N' B' X' T' D'
  have T1 : KtsTurn (frs (env :: outer)) g' g' := KtsTurn.refl
  (try dsimp only); (try k_fold)
  k_steps
  all_goals exact h _ _ _ _ (by ktr_rel) (by assumption)
end
end Mine
namespace Mine
theorem rstB9 : True := by
  w_top off
  trivial
theorem fillK9 : PySem.Challenge.rw_fc0145_02.Holds → (∀ w : World, (hd.heap_39 w.params).In default) → True := by
  k_fill
  intros
  trivial
local macro_rules | `(tactic| k_steps) => `(tactic| repeat' (first | (k_unfold; (try dsimp only)) | walk1 | (dsimp only; walk1) | fail "no step"))
local macro_rules | `(tactic| ktr_unf) => `(tactic| (refine wpAny_call ?_; refine' codeS ?B ?F ?X ?N ?T ?XB ?TB ?D ?T0 ?kA ?hf ?hke ?k6 ?k7 ?k8 ?k9 ?kB ?_ ?c2 ?c3 ?c4 ?c5; (case F => assumption); (case N => assumption); (case B => assumption); (case X => assumption); (case T => assumption); (case XB => assumption); (case TB => assumption); (case D => assumption); (case T0 => assumption); (case kA => exact rfl); (case hf => first | assumption | exact rfl); (case hke => first | assumption | exact rfl); (case k6 => k_is); (case k7 => k_is); (case k8 => (show _ < recursionLimit; first | omega | (dsimp only [Ar]; omega))); (case k9 => exact BindsTo.of_eq rfl); (case kB => exact locs rfl); (case c2 => exact rfl); (case c3 => exact rfl); (case c4 => exact rfl); (case c5 => decide); k_whole))
local macro_rules | `(tactic| ktr_rel) => `(tactic| exact ⟨by assumption, by assumption, by assumption, by assumption, by assumption, by assumption, by assumption, by assumption, by assumption⟩)
local macro_rules | `(tactic| k_mem) => `(tactic| assumption)

local macro_rules | `(tactic| walk_at "call ref") => `(tactic| (k_here; (with_reducible show wpAny _ _ (call (Value.ref 148) _ _) _ _ _); (first | (refine' next_some ?C ?S ?d ?f ?k ?x ?n ?_; (case C => ktr_rel); (case S => assumption); (case d => first | omega | (dsimp only [Ar]; omega)); (case f => first | assumption | exact rfl); (case k => first | assumption | exact rfl); (case x => assumption); (case n => assumption); k_whole; intro h₀' h' tk' C'; obtain ⟨F', N', B', X', T', XB', TB', D', T0'⟩ := C') | (refine' next_none ?C ?S ?d ?f ?k ?x ?n ?_; (case C => ktr_rel); (case S => assumption); (case d => first | omega | (dsimp only [Ar]; omega)); (case f => first | assumption | exact rfl); (case k => first | assumption | exact rfl); (case x => assumption); (case n => assumption); k_whole; intro h₀' h' tk' C'; obtain ⟨F', N', B', X', T', XB', TB', D', T0'⟩ := C'))))
local macro_rules | `(tactic| walk_at "call ref") => `(tactic| (k_here; (with_reducible show wpAny _ _ (call (Value.ref 162) _ _) _ _ _); (first | (refine' prev_some ?C ?S ?d ?f ?k ?x ?n ?_; (case C => ktr_rel); (case S => assumption); (case d => first | omega | (dsimp only [Ar]; omega)); (case f => first | assumption | exact rfl); (case k => first | assumption | exact rfl); (case x => assumption); (case n => assumption); k_whole; intro h₀' h' tk' C'; obtain ⟨F', N', B', X', T', XB', TB', D', T0'⟩ := C') | (refine' prev_none ?C ?S ?d ?f ?k ?x ?n ?_; (case C => ktr_rel); (case S => assumption); (case d => first | omega | (dsimp only [Ar]; omega)); (case f => first | assumption | exact rfl); (case k => first | assumption | exact rfl); (case x => assumption); (case n => assumption); k_whole; intro h₀' h' tk' C'; obtain ⟨F', N', B', X', T', XB', TB', D', T0'⟩ := C'))))
local macro_rules | `(tactic| walk_at "call ref") => `(tactic| (k_here; (with_reducible show wpAny _ _ (call (Value.ref 176) _ _) _ _ _); (first | (refine' off_none ?C ?S ?d ?f ?k ?x ?n ?n2 ?_; (case C => ktr_rel); (case S => assumption); (case d => first | omega | (dsimp only [Ar]; omega)); (case f => first | assumption | exact rfl); (case k => first | assumption | exact rfl); (case x => assumption); (case n => assumption); (case n2 => assumption); k_whole; intro h₀' h' tk' C'; obtain ⟨F', N', B', X', T', XB', TB', D', T0'⟩ := C') | (refine' off_self ?C ?S ?d ?f ?k ?x ?n ?n2 ?_; (case C => ktr_rel); (case S => assumption); (case d => first | omega | (dsimp only [Ar]; omega)); (case f => first | assumption | exact rfl); (case k => first | assumption | exact rfl); (case x => assumption); (case n => assumption); (case n2 => assumption); k_whole; intro h₀' h' tk' C'; obtain ⟨F', N', B', X', T', XB', TB', D', T0'⟩ := C') | (refine' on_list ?C ?S ?d ?f ?k ?x ?n ?n2 ?n3 ?_; (case C => ktr_rel); (case S => assumption); (case d => first | omega | (dsimp only [Ar]; omega)); (case f => first | assumption | exact rfl); (case k => first | assumption | exact rfl); (case x => assumption); (case n => assumption); (case n2 => assumption); (case n3 => assumption); k_whole; intro h₀' h' tk' C'; obtain ⟨F', N', B', X', T', XB', TB', D', T0'⟩ := C'))))
local macro_rules | `(tactic| walk_at "call ref") => `(tactic| (k_here; (with_reducible show wpAny _ _ (call (Value.ref 155) _ _) _ _ _); refine' set_next ?C ?P ?S ?d ?f ?k ?x ?_; (case C => ktr_rel); (case P => assumption); (case S => assumption); (case d => first | omega | (dsimp only [Ar]; omega)); (case f => first | assumption | exact rfl); (case k => first | assumption | exact rfl); (case x => assumption); k_whole; intro h₀' h' tk' tl' C' S'; have j1' := mI C' S'; have j2' := mD C' S'; obtain ⟨F', N', B', X', T', XB', TB', D', T0'⟩ := C'))
local macro_rules | `(tactic| walk_at "call ref") => `(tactic| (k_here; (with_reducible show wpAny _ _ (call (Value.ref 169) _ _) _ _ _); refine' set_prev ?C ?P ?S ?d ?f ?k ?x ?_; (case C => ktr_rel); (case P => assumption); (case S => assumption); (case d => first | omega | (dsimp only [Ar]; omega)); (case f => first | assumption | exact rfl); (case k => first | assumption | exact rfl); (case x => assumption); k_whole; intro h₀' h' tk' tl' C' S'; have j1' := mI C' S'; have j2' := mD C' S'; obtain ⟨F', N', B', X', T', XB', TB', D', T0'⟩ := C'))
local macro_rules | `(tactic| walk_at "compareOp Is ref ref") => `(tactic| (k_here; refine' is_nodes ?N ?S ?x ?y ?ne ?_; (case N => assumption); (case S => assumption); (case x => assumption); (case y => assumption); (case ne => first | assumption | (apply Ne.symm; assumption)); k_whole))
local macro_rules | `(tactic| walk_at "compareOp IsNot ref ref") => `(tactic| (k_here; refine' isNot_nodes ?N ?S ?x ?y ?ne ?_; (case N => assumption); (case S => assumption); (case x => assumption); (case y => assumption); (case ne => first | assumption | (apply Ne.symm; assumption)); k_whole))
local macro_rules | `(tactic| walk_at "call ref") => `(tactic| (k_here; (with_reducible show wpAny _ _ (call (Value.ref 148) _ _) _ _ _); (first | (refine' next_some ?C ?S ?d ?f ?k ?x ?n ?_; (case C => ktr_rel); (case S => assumption); (case d => first | omega | (dsimp only [Ar]; omega)); (case f => first | assumption | exact rfl); (case k => first | assumption | exact rfl); (case x => assumption); (case n => assumption); k_whole; intro h₀' h' tk' C'; obtain ⟨F', N', B', X', T', XB', TB', D', T0'⟩ := C') | (refine' next_none ?C ?S ?d ?f ?k ?x ?n ?_; (case C => ktr_rel); (case S => assumption); (case d => first | omega | (dsimp only [Ar]; omega)); (case f => first | assumption | exact rfl); (case k => first | assumption | exact rfl); (case x => assumption); (case n => assumption); k_whole; intro h₀' h' tk' C'; obtain ⟨F', N', B', X', T', XB', TB', D', T0'⟩ := C'))))
local macro_rules | `(tactic| walk_at "call ref") => `(tactic| (k_here; (with_reducible show wpAny _ _ (call (Value.ref 162) _ _) _ _ _); (first | (refine' prev_some ?C ?S ?d ?f ?k ?x ?n ?_; (case C => ktr_rel); (case S => assumption); (case d => first | omega | (dsimp only [Ar]; omega)); (case f => first | assumption | exact rfl); (case k => first | assumption | exact rfl); (case x => assumption); (case n => assumption); k_whole; intro h₀' h' tk' C'; obtain ⟨F', N', B', X', T', XB', TB', D', T0'⟩ := C') | (refine' prev_none ?C ?S ?d ?f ?k ?x ?n ?_; (case C => ktr_rel); (case S => assumption); (case d => first | omega | (dsimp only [Ar]; omega)); (case f => first | assumption | exact rfl); (case k => first | assumption | exact rfl); (case x => assumption); (case n => assumption); k_whole; intro h₀' h' tk' C'; obtain ⟨F', N', B', X', T', XB', TB', D', T0'⟩ := C'))))
local macro_rules | `(tactic| walk_at "call ref") => `(tactic| (k_here; (with_reducible show wpAny _ _ (call (Value.ref 176) _ _) _ _ _); (first | (refine' off_none ?C ?S ?d ?f ?k ?x ?n ?n2 ?_; (case C => ktr_rel); (case S => assumption); (case d => first | omega | (dsimp only [Ar]; omega)); (case f => first | assumption | exact rfl); (case k => first | assumption | exact rfl); (case x => assumption); (case n => assumption); (case n2 => assumption); k_whole; intro h₀' h' tk' C'; obtain ⟨F', N', B', X', T', XB', TB', D', T0'⟩ := C') | (refine' off_self ?C ?S ?d ?f ?k ?x ?n ?n2 ?_; (case C => ktr_rel); (case S => assumption); (case d => first | omega | (dsimp only [Ar]; omega)); (case f => first | assumption | exact rfl); (case k => first | assumption | exact rfl); (case x => assumption); (case n => assumption); (case n2 => assumption); k_whole; intro h₀' h' tk' C'; obtain ⟨F', N', B', X', T', XB', TB', D', T0'⟩ := C') | (refine' on_list ?C ?S ?d ?f ?k ?x ?n ?n2 ?n3 ?_; (case C => ktr_rel); (case S => assumption); (case d => first | omega | (dsimp only [Ar]; omega)); (case f => first | assumption | exact rfl); (case k => first | assumption | exact rfl); (case x => assumption); (case n => assumption); (case n2 => assumption); (case n3 => assumption); k_whole; intro h₀' h' tk' C'; obtain ⟨F', N', B', X', T', XB', TB', D', T0'⟩ := C'))))
local macro_rules | `(tactic| walk_at "call ref") => `(tactic| (k_here; (with_reducible show wpAny _ _ (call (Value.ref 155) _ _) _ _ _); refine' set_next ?C ?P ?S ?d ?f ?k ?x ?_; (case C => ktr_rel); (case P => assumption); (case S => assumption); (case d => first | omega | (dsimp only [Ar]; omega)); (case f => first | assumption | exact rfl); (case k => first | assumption | exact rfl); (case x => assumption); k_whole; intro h₀' h' tk' tl' C' S'; have j1' := mI C' S'; have j2' := mD C' S'; obtain ⟨F', N', B', X', T', XB', TB', D', T0'⟩ := C'))
local macro_rules | `(tactic| walk_at "call ref") => `(tactic| (k_here; (with_reducible show wpAny _ _ (call (Value.ref 169) _ _) _ _ _); refine' set_prev ?C ?P ?S ?d ?f ?k ?x ?_; (case C => ktr_rel); (case P => assumption); (case S => assumption); (case d => first | omega | (dsimp only [Ar]; omega)); (case f => first | assumption | exact rfl); (case k => first | assumption | exact rfl); (case x => assumption); k_whole; intro h₀' h' tk' tl' C' S'; have j1' := mI C' S'; have j2' := mD C' S'; obtain ⟨F', N', B', X', T', XB', TB', D', T0'⟩ := C'))
local macro_rules | `(tactic| walk_at "compareOp Is ref ref") => `(tactic| (k_here; refine' is_nodes ?N ?S ?x ?y ?ne ?_; (case N => assumption); (case S => assumption); (case x => assumption); (case y => assumption); (case ne => first | assumption | (apply Ne.symm; assumption)); k_whole))
local macro_rules | `(tactic| walk_at "compareOp IsNot ref ref") => `(tactic| (k_here; refine' isNot_nodes ?N ?S ?x ?y ?ne ?_; (case N => assumption); (case S => assumption); (case x => assumption); (case y => assumption); (case ne => first | assumption | (apply Ne.symm; assumption)); k_whole))
section
variable {w : World} {A₀ : Around} {base g₀ h₀ : Heap} {outer : List Env} {env : Env} {L : Addr} {m mg mb : Str → Option Value} {mean : ExcName → Option Value}
  {s : Shared} {pre tl : List (Addr × Obj)} {d u : Nat} {gs : Option (List Code)} {Q : Value → Shared → Prop} {E : Value → Shared → Prop}
  {mk dmk x y n p hh : Addr} {ids : List Addr} {da Ca : Addr → Addr} {at_ : Addr → Str → Option Value} {nx pv : Addr → Option Addr} {h : Heap}


theorem node_init0 (C : Cx w A₀ base outer mean mg mb g₀ h₀ L s.heap m (pre ++ tl)) (P : Off pre da ids) (S : NS tl mk dmk ids da Ca at_ nx pv) (hd : d + 7 < recursionLimit) (hf : env.frame = some L) (hke : env.scope.kind = .function)
    (hx : x ∈ ids) (h1 : nx x = none) (h2 : pv x = none)
    (h : ∀ h₀' h' tk tl', Cx w A₀ base outer mean mg mb g₀ h₀' L h' m (pre ++ tl') → NS tl' mk dmk ids da Ca at_ (upO nx x x) (upO pv x x) → Q .none { s with heap := h', toks := tk }) :
    wpAny (model PR w) (Ar d u (env :: outer) gs) (call (.ref 141) [.ref mk, .ref x] []) Q E s := by
  have i1 := mI C S
  have i2 := mD C S
  obtain ⟨F, N, B, X, T, XB, TB, D, T0⟩ := C
  ktr_unf
  intro g' L' h' F' N' B' X' T' D'
  have T1 : KtsTurn (frs (env :: outer)) g' g' := KtsTurn.refl
  (try dsimp only); (try k_fold)
  k_steps
  all_goals exact h _ _ _ _ (by ktr_rel) (by assumption)

theorem allNe {l : List (Addr × Obj)} {d : Addr} (h : ∀ p ∈ l, p.1 < d) : ∀ p ∈ l, p.1 ≠ d := fun p hp => Nat.ne_of_lt (h p hp)
local macro_rules | `(tactic| ktr_room) => `(tactic| (refine' codeS ?B ?F ?X ?N ?T ?XB ?TB ?D ?T0 ?kA ?hf ?hke ?k6 ?k7 ?k8 ?k9 ?kB ?_ ?c2 ?c3 ?c4 ?c5; (case F => assumption); (case N => assumption); (case B => assumption); (case X => assumption); (case T => assumption); (case XB => assumption); (case TB => assumption); (case D => assumption); (case T0 => assumption); (case kA => exact rfl); (case hf => first | assumption | exact rfl); (case hke => first | assumption | exact rfl); (case k6 => k_is); (case k7 => k_is); (case k8 => (show _ < recursionLimit; first | omega | (dsimp only [Ar]; omega))); (case k9 => exact BindsTo.of_eq rfl); (case kB => exact locs rfl); (case c2 => exact rfl); (case c3 => exact rfl); (case c4 => exact rfl); (case c5 => decide); k_whole))
local macro_rules | `(tactic| k_all) => `(tactic| exact allNe (by assumption))


def upF {α : Type} (f : Addr → α) (x : Addr) (v : α) : Addr → α := fun z => if z = x then v else f z
theorem upF_self {α : Type} (f : Addr → α) (x : Addr) (v : α) : upF f x v x = v := if_pos rfl
theorem upF_ne {α : Type} {f : Addr → α} {x z : Addr} {v : α} (h : z ≠ x) : upF f x v z = f z := if_neg h

theorem NS.lt {mk dmk : Addr} {ids : List Addr} {da Ca : Addr → Addr} {at_ : Addr → Str → Option Value} {nx pv : Addr → Option Addr} {tl : List (Addr × Obj)} {dx : Addr}
    (S : NS tl mk dmk ids da Ca at_ nx pv) (q : ∀ p ∈ tl, p.1 < dx) : mk < dx ∧ dmk < dx ∧ (∀ z ∈ ids, z < dx) ∧ ∀ z ∈ ids, da z < dx :=
  ⟨q _ S.mkI, q _ S.mkD, fun z hz => q _ (S.inst z hz), fun z hz => by obtain ⟨es, n, h1, _⟩ := S.dict z hz; exact q _ h1⟩

theorem NS.cons {mk dmk x dx C n : Addr} {ids : List Addr} {da Ca : Addr → Addr} {at_ : Addr → Str → Option Value} {nx pv : Addr → Option Addr} {tl : List (Addr × Obj)} {es : List DictEntry} {g : Str → Option Value}
    (S : NS tl mk dmk ids da Ca at_ nx pv) (q : ∀ p ∈ tl, p.1 < dx) (q2 : dx < x) (hC : C = 108 ∨ C = 245) (hA : Atts es (fAt g none none)) :
    NS ((x, instObj C dx) :: (dx, dictOf es n) :: tl) mk dmk (x :: ids) (upF da x dx) (upF Ca x C) (upF at_ x g) (upF nx x none) (upF pv x none) := by
  obtain ⟨a1, a2, a3, a4⟩ := S.lt q
  have nz : ∀ z ∈ ids, z ≠ x := fun z hz => Nat.ne_of_lt (Nat.lt_trans (a3 z hz) q2)
  have t : ∀ {p : Addr × Obj}, p ∈ tl → p ∈ (x, instObj C dx) :: (dx, dictOf es n) :: tl := fun h => .tail _ (.tail _ h)
  refine ⟨t S.mkI, t S.mkD, fun z hz => ?_, fun z hz => ?_, fun z hz => ?_, fun z hz => ?_, fun z hz y hy e => ?_, fun z hz y hy => ?_, fun p hp => ?_⟩
  · rcases List.mem_cons.mp hz with rfl | hz2
    · rw [upF_self]; exact ⟨Nat.ne_of_gt a1, Nat.ne_of_gt a2⟩
    · rw [upF_ne (nz z hz2)]; exact S.mkS z hz2
  · rcases List.mem_cons.mp hz with rfl | hz2
    · rw [upF_self, upF_self]; exact .head _
    · rw [upF_ne (nz z hz2), upF_ne (nz z hz2)]; exact t (S.inst z hz2)
  · rcases List.mem_cons.mp hz with rfl | hz2
    · simp only [upF_self]; exact ⟨es, n, .tail _ (.head _), hA⟩
    · simp only [upF_ne (nz z hz2)]
      obtain ⟨es', n', h1, h2⟩ := S.dict z hz2
      exact ⟨es', n', t h1, h2⟩
  · rcases List.mem_cons.mp hz with rfl | hz2
    · rw [upF_self]; exact hC
    · rw [upF_ne (nz z hz2)]; exact S.cls z hz2
  · rcases List.mem_cons.mp hz with rfl | hz2 <;> rcases List.mem_cons.mp hy with rfl | hy2
    · rfl
    · rw [upF_self, upF_ne (nz y hy2)] at e; exact absurd (a4 y hy2) (by rw [← e]; exact Nat.lt_irrefl _)
    · rw [upF_self, upF_ne (nz z hz2)] at e; exact absurd (a4 z hz2) (by rw [e]; exact Nat.lt_irrefl _)
    · rw [upF_ne (nz z hz2), upF_ne (nz y hy2)] at e; exact S.inj z hz2 y hy2 e
  · rcases List.mem_cons.mp hz with rfl | hz2 <;> rcases List.mem_cons.mp hy with rfl | hy2
    · rw [upF_self]; exact Nat.ne_of_lt q2
    · rw [upF_self]; exact Nat.ne_of_gt (a3 y hy2)
    · rw [upF_ne (nz z hz2)]; exact Nat.ne_of_lt (Nat.lt_trans (a4 z hz2) q2)
    · rw [upF_ne (nz z hz2)]; exact S.sep z hz2 y hy2
  · rcases List.mem_cons.mp hp with rfl | hp2
    · rfl
    · rcases List.mem_cons.mp hp2 with rfl | hp3
      · rfl
      · exact S.kinds p hp3

theorem Off.cons {pre : List (Addr × Obj)} {da : Addr → Addr} {ids : List Addr} {x dx : Addr} (P : Off pre da ids) (q : ∀ p ∈ pre, p.1 < dx) (nz : ∀ z ∈ ids, z ≠ x) : Off pre (upF da x dx) (x :: ids) := fun p hp z hz => by
  rcases List.mem_cons.mp hz with rfl | hz2
  · rw [upF_self]; exact Nat.ne_of_lt (q p hp)
  · rw [upF_ne (nz z hz2)]; exact P p hp z hz2

theorem atts_list {mk x : Addr} {h1 h2 : Int} {t1 t2 : Tok} : Atts [⟨h1, .str (Str.ofString "list_type") t1, .ref mk⟩, ⟨h2, .str (Str.ofString "head") t2, .ref x⟩] (fAt (listAt mk x) none none) := by
  refine ⟨rfl, fun s => ?_, ?_⟩
  · by_cases a : s = Str.ofString "list_type"
    · subst a; rw [listAt_lt]; simp [Value.isStr]
    · by_cases b : s = Str.ofString "head"
      · subst b
        rw [listAt_hd, List.find?_cons_of_neg (by simp only [Value.isStr]; decide +kernel)]
        simp [Value.isStr]
      · have e1 : (Str.ofString "list_type" == s) = false := beq_eq_false_iff_ne.mpr (Ne.symm a)
        have e2 : (Str.ofString "head" == s) = false := beq_eq_false_iff_ne.mpr (Ne.symm b)
        have : fAt (listAt mk x) none none s = none := by
          unfold fAt listAt
          by_cases c : s = nN
          · rw [if_pos c]; rfl
          · rw [if_neg c]
            by_cases d : s = nP
            · rw [if_pos d]; rfl
            · rw [if_neg d, if_neg a, if_neg b]
        rw [this]
        simp [Value.isStr, e1, e2]
  · show 2 + (if _ then 1 else 0) + (if _ then 1 else 0) ≤ 10
    split <;> split <;> decide

theorem news_mid {h₀ h : Heap} {L : Addr} {p q : Addr × Obj} {pre tl : List (Addr × Obj)} (N : News h₀ L h (p :: q :: (pre ++ tl))) : News h₀ L h (pre ++ p :: q :: tl) := news_sub N fun z hz => by
  rcases List.mem_append.mp hz with hz | hz
  · exact .tail _ (.tail _ (List.mem_append_left _ hz))
  · rcases List.mem_cons.mp hz with rfl | hz
    · exact .head _
    · rcases List.mem_cons.mp hz with rfl | hz
      · exact .tail _ (.head _)
      · exact .tail _ (.tail _ (List.mem_append_right _ hz))

theorem fold_new {mk dmk x dx C n L : Addr} {ids : List Addr} {da Ca : Addr → Addr} {at_ : Addr → Str → Option Value} {nx pv : Addr → Option Addr} {pre tl : List (Addr × Obj)} {es : List DictEntry} {g : Str → Option Value} {h₀ h : Heap}
    (N : News h₀ L h ((x, instObj C dx) :: (dx, dictOf es n) :: (pre ++ tl))) (S : NS tl mk dmk ids da Ca at_ nx pv) (q : ∀ p ∈ pre ++ tl, p.1 < dx) (q2 : dx < x) (hC : C = 108 ∨ C = 245) (hA : Atts es (fAt g none none)) :
    ∃ tl', News h₀ L h (pre ++ tl') ∧ NS tl' mk dmk (x :: ids) (upF da x dx) (upF Ca x C) (upF at_ x g) (upF nx x none) (upF pv x none) :=
  ⟨_, news_mid N, NS.cons S (fun p hp => q p (List.mem_append_right _ hp)) q2 hC hA⟩

theorem init_spec {R : Result → Shared → Prop} {x dx : Addr} (C : Cx w A₀ base outer mean mg mb g₀ h₀ L s.heap m ((x, instObj 108 dx) :: (dx, dictOf [] 0) :: (pre ++ tl))) (P : Off pre da ids) (S : NS tl mk dmk ids da Ca at_ nx pv) (hd : d + 12 < recursionLimit) (hf : env.frame = some L) (hke : env.scope.kind = .function)
    (q1 : ∀ p ∈ pre ++ tl, p.1 < dx) (q2 : dx < x)
    (h : ∀ h₀' h' tk tl', Cx w A₀ base outer mean mg mb g₀ h₀' L h' m (pre ++ tl') → NS tl' mk dmk (x :: ids) (upF da x dx) (upF Ca x 108) (upF at_ x (listAt mk x)) (upO (upF nx x none) x x) (upO (upF pv x none) x x) → R (.ok (.ret .none)) { s with heap := h', toks := tk }) :
    codeAny (model PR w) (Ar d u (env :: outer) gs) (.call (.ref 42) ⟨[.ref x, .ref mk], []⟩) R s := by
  have i1 : (mk, instObj 200 dmk) ∈ pre ++ tl := memR S.mkI
  have i2 : (dmk, dictOf [] 0) ∈ pre ++ tl := memR S.mkD
  obtain ⟨F, N, B, X, T, XB, TB, D, T0⟩ := C
  replace q2 := ltN q2
  ktr_room
  intro g' L' h' F' N' B' X' T' D'
  have T1 : KtsTurn (frs (env :: outer)) g' g' := KtsTurn.refl
  (try dsimp only); (try k_fold)
  k_steps
  rename_i F2 N2
  obtain ⟨tl2, N3, S2⟩ := fold_new N2 S q1 q2 (.inl rfl) (g := listAt mk x) atts_list
  have P2 : Off pre (upF da x dx) (x :: ids) := P.cons (fun p hp => q1 p (List.mem_append_left _ hp)) fun z hz => Nat.ne_of_lt (Nat.lt_trans (q1 _ (memR (S.inst z hz))) q2)
  refine node_init0 ⟨F2, N3, B', X', T', XB, TB, D', T1⟩ P2 S2 ?_ rfl rfl (.head _) (upF_self ..) (upF_self ..) fun g3 h3 tk3 tl3 C3 S3 => ?_
  · dsimp only [Ar]; omega
  obtain ⟨F4, N4, B4, X4, T4, XB4, TB4, D4, T04⟩ := C3
  (try dsimp only)
  k_steps
  exact h _ _ _ _ (by ktr_rel) S3

theorem create_spec (C : Cx w A₀ base outer mean mg mb g₀ h₀ L s.heap m (pre ++ tl)) (P : Off pre da ids) (S : NS tl mk dmk ids da Ca at_ nx pv) (hd : d + 15 < recursionLimit) (hf : env.frame = some L) (hke : env.scope.kind = .function)
    (h : ∀ h₀' h' tk tl' x dx, Cx w A₀ base outer mean mg mb g₀ h₀' L h' m (pre ++ tl') → NS tl' mk dmk (x :: ids) (upF da x dx) (upF Ca x 108) (upF at_ x (listAt mk x)) (upO (upF nx x none) x x) (upO (upF pv x none) x x) → (∀ p ∈ pre ++ tl, p.1 < dx) → dx < x → Q (.ref x) { s with heap := h', toks := tk }) :
    wpAny (model PR w) (Ar d u (env :: outer) gs) (call (.ref 127) [.ref mk] []) Q E s := by
  have i1 := mI C S
  have i2 := mD C S
  obtain ⟨F, N, B, X, T, XB, TB, D, T0⟩ := C
  ktr_unf
  intro g' L' h' F' N' B' X' T' D'
  have T1 : KtsTurn (frs (env :: outer)) g' g' := KtsTurn.refl
  (try dsimp only); (try k_fold)
  k_steps
  refine call_cls F' X' N' (by k_is) (by k_is) (by k_is) fun x dx h2 F2 N2 l1 l2 => ?_
  refine init_spec (s := { s with heap := h2, toks := _ }) ⟨F2, N2, B', X', T', XB, TB, D', T1⟩ P S ?_ rfl rfl l1 l2 fun g3 h3 tk3 tl3 C3 S3 => ?_
  · show d + 1 + 1 + 12 < recursionLimit
    omega
  refine ⟨rfl, ?_⟩
  obtain ⟨F4, N4, B4, X4, T4, XB4, TB4, D4, T04⟩ := C3
  (try dsimp only)
  k_steps
  exact h _ _ _ _ _ _ (by ktr_rel) S3 l1 l2
end
end Mine
namespace Mine
theorem rstB10 : True := by
  w_top off
  trivial
theorem fillK10 : PySem.Challenge.rw_fc0145_02.Holds → (∀ w : World, (hd.heap_39 w.params).In default) → True := by
  k_fill
  intros
  trivial
theorem inHeap {K : Frag} {h₀ h : Heap} {L : Addr} {m : Str → Option Value} (F : Fr h₀ L h m) (X : K.In h₀) : K.In h := X.keeps F.keep
local macro_rules | `(tactic| k_steps) => `(tactic| repeat' (first | (k_unfold; (try dsimp only)) | walk1 | (dsimp only; walk1) | fail "no step"))
local macro_rules | `(tactic| ktr_unf) => `(tactic| (refine wpAny_call ?_; refine' codeS ?B ?F ?X ?N ?T ?XB ?TB ?D ?T0 ?kA ?hf ?hke ?k6 ?k7 ?k8 ?k9 ?kB ?_ ?c2 ?c3 ?c4 ?c5; (case F => assumption); (case N => assumption); (case B => assumption); (case X => assumption); (case T => assumption); (case XB => assumption); (case TB => assumption); (case D => assumption); (case T0 => assumption); (case kA => exact rfl); (case hf => first | assumption | exact rfl); (case hke => first | assumption | exact rfl); (case k6 => k_is); (case k7 => k_is); (case k8 => (show _ < recursionLimit; first | omega | (dsimp only [Ar]; omega))); (case k9 => exact BindsTo.of_eq rfl); (case kB => exact locs rfl); (case c2 => exact rfl); (case c3 => exact rfl); (case c4 => exact rfl); (case c5 => decide); k_whole))
local macro_rules | `(tactic| ktr_rel) => `(tactic| exact ⟨by assumption, by assumption, by assumption, by assumption, by assumption, by assumption, by assumption, by assumption, by assumption⟩)
local macro_rules | `(tactic| k_mem) => `(tactic| assumption)

local macro_rules | `(tactic| walk_at "call ref") => `(tactic| (k_here; (with_reducible show wpAny _ _ (call (Value.ref 148) _ _) _ _ _); (first | (refine' next_some ?C ?S ?d ?f ?k ?x ?n ?_; (case C => ktr_rel); (case S => assumption); (case d => first | omega | (dsimp only [Ar]; omega)); (case f => first | assumption | exact rfl); (case k => first | assumption | exact rfl); (case x => assumption); (case n => assumption); k_whole; intro h₀' h' tk' C'; obtain ⟨F', N', B', X', T', XB', TB', D', T0'⟩ := C') | (refine' next_none ?C ?S ?d ?f ?k ?x ?n ?_; (case C => ktr_rel); (case S => assumption); (case d => first | omega | (dsimp only [Ar]; omega)); (case f => first | assumption | exact rfl); (case k => first | assumption | exact rfl); (case x => assumption); (case n => assumption); k_whole; intro h₀' h' tk' C'; obtain ⟨F', N', B', X', T', XB', TB', D', T0'⟩ := C'))))
local macro_rules | `(tactic| walk_at "call ref") => `(tactic| (k_here; (with_reducible show wpAny _ _ (call (Value.ref 162) _ _) _ _ _); (first | (refine' prev_some ?C ?S ?d ?f ?k ?x ?n ?_; (case C => ktr_rel); (case S => assumption); (case d => first | omega | (dsimp only [Ar]; omega)); (case f => first | assumption | exact rfl); (case k => first | assumption | exact rfl); (case x => assumption); (case n => assumption); k_whole; intro h₀' h' tk' C'; obtain ⟨F', N', B', X', T', XB', TB', D', T0'⟩ := C') | (refine' prev_none ?C ?S ?d ?f ?k ?x ?n ?_; (case C => ktr_rel); (case S => assumption); (case d => first | omega | (dsimp only [Ar]; omega)); (case f => first | assumption | exact rfl); (case k => first | assumption | exact rfl); (case x => assumption); (case n => assumption); k_whole; intro h₀' h' tk' C'; obtain ⟨F', N', B', X', T', XB', TB', D', T0'⟩ := C'))))
local macro_rules | `(tactic| walk_at "call ref") => `(tactic| (k_here; (with_reducible show wpAny _ _ (call (Value.ref 176) _ _) _ _ _); (first | (refine' off_none ?C ?S ?d ?f ?k ?x ?n ?n2 ?_; (case C => ktr_rel); (case S => assumption); (case d => first | omega | (dsimp only [Ar]; omega)); (case f => first | assumption | exact rfl); (case k => first | assumption | exact rfl); (case x => assumption); (case n => assumption); (case n2 => assumption); k_whole; intro h₀' h' tk' C'; obtain ⟨F', N', B', X', T', XB', TB', D', T0'⟩ := C') | (refine' off_self ?C ?S ?d ?f ?k ?x ?n ?n2 ?_; (case C => ktr_rel); (case S => assumption); (case d => first | omega | (dsimp only [Ar]; omega)); (case f => first | assumption | exact rfl); (case k => first | assumption | exact rfl); (case x => assumption); (case n => assumption); (case n2 => assumption); k_whole; intro h₀' h' tk' C'; obtain ⟨F', N', B', X', T', XB', TB', D', T0'⟩ := C') | (refine' on_list ?C ?S ?d ?f ?k ?x ?n ?n2 ?n3 ?_; (case C => ktr_rel); (case S => assumption); (case d => first | omega | (dsimp only [Ar]; omega)); (case f => first | assumption | exact rfl); (case k => first | assumption | exact rfl); (case x => assumption); (case n => assumption); (case n2 => assumption); (case n3 => assumption); k_whole; intro h₀' h' tk' C'; obtain ⟨F', N', B', X', T', XB', TB', D', T0'⟩ := C'))))
local macro_rules | `(tactic| walk_at "call ref") => `(tactic| (k_here; (with_reducible show wpAny _ _ (call (Value.ref 155) _ _) _ _ _); refine' set_next ?C ?P ?S ?d ?f ?k ?x ?_; (case C => ktr_rel); (case P => assumption); (case S => assumption); (case d => first | omega | (dsimp only [Ar]; omega)); (case f => first | assumption | exact rfl); (case k => first | assumption | exact rfl); (case x => assumption); k_whole; intro h₀' h' tk' tl' C' S'; have j1' := mI C' S'; have j2' := mD C' S'; obtain ⟨F', N', B', X', T', XB', TB', D', T0'⟩ := C'))
local macro_rules | `(tactic| walk_at "call ref") => `(tactic| (k_here; (with_reducible show wpAny _ _ (call (Value.ref 169) _ _) _ _ _); refine' set_prev ?C ?P ?S ?d ?f ?k ?x ?_; (case C => ktr_rel); (case P => assumption); (case S => assumption); (case d => first | omega | (dsimp only [Ar]; omega)); (case f => first | assumption | exact rfl); (case k => first | assumption | exact rfl); (case x => assumption); k_whole; intro h₀' h' tk' tl' C' S'; have j1' := mI C' S'; have j2' := mD C' S'; obtain ⟨F', N', B', X', T', XB', TB', D', T0'⟩ := C'))
local macro_rules | `(tactic| walk_at "compareOp Is ref ref") => `(tactic| (k_here; refine' is_nodes ?N ?S ?x ?y ?ne ?_; (case N => assumption); (case S => assumption); (case x => assumption); (case y => assumption); (case ne => first | assumption | (apply Ne.symm; assumption)); k_whole))
local macro_rules | `(tactic| walk_at "compareOp IsNot ref ref") => `(tactic| (k_here; refine' isNot_nodes ?N ?S ?x ?y ?ne ?_; (case N => assumption); (case S => assumption); (case x => assumption); (case y => assumption); (case ne => first | assumption | (apply Ne.symm; assumption)); k_whole))
local macro_rules | `(tactic| ktr_room) => `(tactic| (refine' codeS ?B ?F ?X ?N ?T ?XB ?TB ?D ?T0 ?kA ?hf ?hke ?k6 ?k7 ?k8 ?k9 ?kB ?_ ?c2 ?c3 ?c4 ?c5; (case F => assumption); (case N => assumption); (case B => assumption); (case X => assumption); (case T => assumption); (case XB => assumption); (case TB => assumption); (case D => assumption); (case T0 => assumption); (case kA => exact rfl); (case hf => first | assumption | exact rfl); (case hke => first | assumption | exact rfl); (case k6 => k_is); (case k7 => k_is); (case k8 => (show _ < recursionLimit; first | omega | (dsimp only [Ar]; omega) | (change _ + 1 < recursionLimit; dsimp only [Ar]; omega))); (case k9 => first | exact BindsTo.of_eq rfl | exact binds_K (inHeap (by assumption) (by assumption)) rfl (by k_is) rfl rfl rfl); (case kB => exact locs rfl); (case c2 => exact rfl); (case c3 => exact rfl); (case c4 => exact rfl); (case c5 => decide); k_whole))
local macro_rules | `(tactic| k_all) => `(tactic| exact allNe (by assumption))
local macro_rules | `(tactic| k_get) => `(tactic| assumption)
local macro_rules | `(tactic| k_handed) => `(tactic| assumption)
section
variable {w : World} {A₀ : Around} {base g₀ h₀ : Heap} {outer : List Env} {env : Env} {L : Addr} {m mg mb : Str → Option Value} {mean : ExcName → Option Value}
  {s : Shared} {pre tl : List (Addr × Obj)} {d u : Nat} {gs : Option (List Code)} {Q : Value → Shared → Prop} {E : Value → Shared → Prop}
  {mk dmk x y n p hh : Addr} {ids : List Addr} {da Ca : Addr → Addr} {at_ : Addr → Str → Option Value} {nx pv : Addr → Option Addr} {h : Heap}


theorem str_ne {a b : Str} (h : (a == b) = false) : ¬ a = b := beq_eq_false_iff_ne.mp h
theorem atts_route {v : Value} {h1 h2 h3 : Int} {t1 t2 t3 : Tok} : Atts [⟨h1, .str (Str.ofString "sink") t1, .none⟩, ⟨h2, .str (Str.ofString "_path") t2, v⟩, ⟨h3, .str (Str.ofString "_for_route_refresh") t3, .bool false⟩] (fAt (routeAt v) none none) := by
  have n1 : ¬ Str.ofString "sink" = nN := by decide +kernel
  have n2 : ¬ Str.ofString "sink" = nP := by decide +kernel
  have n3 : ¬ Str.ofString "_path" = nN := by decide +kernel
  have n4 : ¬ Str.ofString "_path" = nP := by decide +kernel
  have n5 : ¬ Str.ofString "_for_route_refresh" = nN := by decide +kernel
  have n6 : ¬ Str.ofString "_for_route_refresh" = nP := by decide +kernel
  have n7 : ¬ Str.ofString "_path" = Str.ofString "sink" := by decide +kernel
  have n8 : ¬ Str.ofString "_for_route_refresh" = Str.ofString "sink" := by decide +kernel
  have n9 : ¬ Str.ofString "_for_route_refresh" = Str.ofString "_path" := by decide +kernel
  refine ⟨rfl, fun s => ?_, ?_⟩
  · simp only [List.find?_cons, List.find?_nil, Value.isStr]
    unfold fAt routeAt
    by_cases a : s = Str.ofString "sink"
    · subst a; simp only [if_neg n1, if_neg n2, if_true, beq_self_eq_true]; rfl
    · have e1 : (Str.ofString "sink" == s) = false := beq_eq_false_iff_ne.mpr (Ne.symm a)
      by_cases b : s = Str.ofString "_path"
      · subst b; simp only [e1, if_neg n3, if_neg n4, if_neg n7, if_true, beq_self_eq_true]; rfl
      · have e2 : (Str.ofString "_path" == s) = false := beq_eq_false_iff_ne.mpr (Ne.symm b)
        by_cases c : s = Str.ofString "_for_route_refresh"
        · subst c; simp only [e1, e2, if_neg n5, if_neg n6, if_neg n8, if_neg n9, if_true, beq_self_eq_true]; rfl
        · have e3 : (Str.ofString "_for_route_refresh" == s) = false := beq_eq_false_iff_ne.mpr (Ne.symm c)
          simp only [e1, e2, e3, if_neg a, if_neg b, if_neg c]
          by_cases d : s = nN
          · rw [if_pos d]; rfl
          · rw [if_neg d]
            by_cases e : s = nP
            · rw [if_pos e]; rfl
            · rw [if_neg e]; rfl
  · show 3 + (if _ then 1 else 0) + (if _ then 1 else 0) ≤ 10
    split <;> split <;> decide

theorem route_int {k : Int} {t : Tok} (C : Cx w A₀ base outer mean mg mb g₀ h₀ L s.heap m (pre ++ tl)) (S : NS tl mk dmk ids da Ca at_ nx pv) (hd : d + 15 < recursionLimit) (hf : env.frame = some L) (hke : env.scope.kind = .function) (hk : 1 ≤ k)
    (h : ∀ h₀' h' tk tl' x dx, Cx w A₀ base outer mean mg mb g₀ h₀' L h' m (pre ++ tl') → NS tl' mk dmk (x :: ids) (upF da x dx) (upF Ca x 245) (upF at_ x (routeAt (.int k t))) (upF nx x none) (upF pv x none) → (∀ p ∈ pre ++ tl, p.1 < dx) → dx < x → Q (.ref x) { s with heap := h', toks := tk }) :
    wpAny (model PR w) (Ar d u (env :: outer) gs) (call (.ref 245) [.int k t] []) Q E s := by
  obtain ⟨F, N, B, X, T, XB, TB, D, T0⟩ := C
  refine call_cls F X N (by k_is) (by k_is) (by k_is) fun x dx h2 F2 N2 l1 l2 => ?_
  have l3 := ltN l2
  ktr_room
  intro g' L' h' F' N' B' X' T' D'
  have T1 : KtsTurn (frs (env :: outer)) g' g' := KtsTurn.refl
  (try dsimp only); (try k_fold)
  k_steps
  all_goals try (exfalso; omega)
  rename_i kF kN _ _
  obtain ⟨tl2, N3, S2⟩ := fold_new kN S l1 l2 (.inr rfl) (g := routeAt (.int k t)) atts_route
  exact h h₀ _ _ _ _ _ ⟨kF, N3, B, X, T, XB, TB, D, T0⟩ S2 l1 l2

theorem routeAt_path {v : Value} {a b : Option Addr} : fAt (routeAt v) a b (Str.ofString "_path") = some v := fAt_of (by decide +kernel) (by decide +kernel) (by unfold routeAt; rw [if_neg (by decide +kernel), if_pos rfl])

theorem path_spec {v : Value} {expr : Bool} (C : Cx w A₀ base outer mean mg mb g₀ h₀ L s.heap m (pre ++ tl)) (S : NS tl mk dmk ids da Ca at_ nx pv) (hd : d + 5 < recursionLimit) (hf : env.frame = some L) (hke : env.scope.kind = .function) (hx : x ∈ ids) (hC : Ca x = 245) (ha : at_ x = routeAt v) (hv : handedIn v = true)
    (h : ∀ h₀' h' tk, Cx w A₀ base outer mean mg mb g₀ h₀' L h' m (pre ++ tl) → Q v { s with heap := h', toks := tk }) :
    wpAny (model PR w) (Ar d u (env :: outer) gs) (getAttr (.ref x) (Str.ofString "path") expr) Q E s := by
  obtain ⟨es, n, h1, h2⟩ := S.dict x hx
  have h3 := S.inst x hx
  rw [hC] at h3
  rw [ha] at h2
  have i1 : (x, instObj 245 (da x)) ∈ pre ++ tl := memR h3
  have i2 : (da x, dictOf es n) ∈ pre ++ tl := memR h1
  have i3 : getL (Str.ofString "_path") es = some (some v) := (h2.get _).trans (congrArg some routeAt_path)
  obtain ⟨F, N, B, X, T, XB, TB, D, T0⟩ := C
  refine get_prop F X (InstAt.of_news N i1 i2) (by k_is) (by k_is) (by k_is) (by k_is) (by k_is) (by k_is) ?_
  ktr_room
  intro g' L' h' F' N' B' X' T' D'
  have T1 : KtsTurn (frs (env :: outer)) g' g' := KtsTurn.refl
  (try dsimp only); (try k_fold)
  k_steps
  rw [handedOut_of hv]
  exact wpAny_pure (h h₀ _ _ ⟨by assumption, by assumption, B, X, T, XB, TB, D, T0⟩)
end
end Mine
namespace Mine
def defBody : Stmt → List Stmt
  | .FunctionDef _ _ b _ _ _ _ _ _ _ => b
  | _ => []
def forBody : Stmt → List Stmt
  | .For _ _ b _ _ => b
  | _ => []
def defScope : Stmt → Scope
  | .FunctionDef _ _ _ _ _ _ sc _ _ _ => sc
  | _ => default
noncomputable def lawDef : Stmt := PySem.Challenge.pw_fc0145_02.main.body.getLast (by intro h; cases h)
noncomputable def lawBody : List Stmt := defBody lawDef
noncomputable def lawScope : Scope := defScope lawDef
noncomputable abbrev lawEnv (L fa : Addr) (cd : Value) : Env := envOfC (Str.ofString "law") lawScope L fa cd
end Mine
namespace Mine
theorem rstL4 : True := by
  w_top off
  trivial
theorem fillL4 : PySem.Challenge.rw_fc0145_02.Holds → (∀ w : World, (hd.heap_39 w.params).In default) → True := by
  k_fill
  intros
  trivial
local macro_rules | `(tactic| walk_at "subscriptTail Name Slice ref ref") => `(tactic| (k_here; (with_reducible show wpAny _ _ (subscriptTail _ (PySem.Expr.Slice _ _ none _) (Value.ref _) (Value.ref _)) _ _ _); k_dflt (refine' kmk_slice_ints ?F ?N ?l ?p ?q ?i ?m ?c ?_ ?s ?t ?z; (case F => k_asm); (case N => k_asm); (case l => kmk_list); (case p => kmk_part); (case q => kmk_part); (case i => l_ints); (case m => first | with_reducible exact kmk_from (by l_ints) (by kmk_sign) | with_reducible exact kmk_upto (by l_ints) (by kmk_sign) | with_reducible exact kmk_run (by l_ints) (by kmk_sign) (by kmk_sign) | kmk_nums); (case c => exact rfl); (case s => with_unfolding_all rfl); (case t => kmk_pure); (case z => kmk_size)); intro D' ws' h' F' N' l1 hI' hC' hL'; (try simp only [Int.reduceNeg, Int.neg_neg, Int.reduceToNat] at hI' hC' hL'); (try k_lt l1); (try k_sweep)))
local macro_rules | `(tactic| k_steps) => `(tactic| repeat' (first | (k_unfold; (try dsimp only)) | walk1 | (dsimp only; walk1) | fail "no step"))
section
variable {w : World} {base : Heap} {L fa sc : Addr} {cd : Value} {mg mb : Str → Option Value} {mean : ExcName → Option Value} {s : Shared} {Q : Flow → Shared → Prop} {E : Value → Shared → Prop}
  {vs : List Value} {ns : List Int} {o1 o2 o3 o4 : Obj}


noncomputable def st (i : Nat) : Stmt := lawBody[i]!
theorem lawBody_eq : lawBody = [st 0, st 1, st 2] ++ [st 3] ++ [st 4] ++ [st 5, st 6] ++ [st 7] ++ [st 8] ++ [st 9] ++ [st 10] ++ [st 11] ++ [st 12, st 13, st 14, st 15] := by kernel_rfl

theorem segA (B : Below callerA base [] base) (F : Fr base L s.heap (fun y => if y = Str.ofString "script" then some (.ref sc) else none)) (X : (hd.heap_39 w.params).In base) (T : Top VW LO mean mg mb base)
    (N : News base L s.heap [(L + 1 + 1 + 1 + 1, o4), (L + 1 + 1 + 1, o3), (L + 1 + 1, o2), (L + 1, o1)])
    (d4 : o4.data = .cell none) (d3 : o3.data = .cell none) (d2 : o2.data = .cell none) (d1 : o1.data = .cell none)
    (hL : base.IsList sc vs.toArray) (hI : IntsAre vs ns) (hn : ns.length ≤ 63)
    (hQ : ∀ h' tk m' cl pl cvs cs o1' o2' t t1, Fr base L h' m' → m' (Str.ofString "cells") = some (.ref cl) → m' (Str.ofString "turned") = some (.int ((cs.getD 0 0).fdiv 8) t) →
      News base L h' [(pl, listOf #[] 0), (cl, listOf cvs.toArray 0), (L + 1 + 1 + 1 + 1, o4), (L + 1 + 1 + 1, o3), (L + 1 + 1, o2'), (L + 1, o1')] → IntsAre cvs cs → cs.length = 14 →
      o1'.data = .cell (some (.int (2 + (cs.getD 0 0).fmod 8) t1)) → o2'.data = .cell (some (.ref pl)) → @LT.lt Nat _ (L + 1 + 1 + 1 + 1) cl → @LT.lt Nat _ cl pl → Q .next { s with heap := h', toks := tk }) :
    wpAny (model PR w) (callerA.deeper (lawEnv L fa cd)) (execs [st 0, st 1, st 2] (lawEnv L fa cd)) Q E s := by
  conv => pattern (st 0); whnf
  conv => pattern (st 1); whnf
  conv => pattern (st 2); whnf
  unfold lawEnv
  conv => pattern (occs := *) lawScope; all_goals whnf
  k_steps
  rename_i pl _ l1a _ _ l1b _ _ oc1 dc1 _ _ oc2 Fx Nx dc2
  exact hQ _ _ _ _ _ _ _ _ _ _ _ Fx rfl rfl (news_sub Nx (by k_allIn)) (by assumption) (by simp only [List.length_append, List.length_map, List.length_drop, List.length_take, List.length_cons, List.length_nil]; omega) dc1 dc2 (by omega) (by omega)
end
end Mine
namespace Mine
theorem rstL5 : True := by
  w_top off
  trivial
theorem fillL5 : PySem.Challenge.rw_fc0145_02.Holds → (∀ w : World, (hd.heap_39 w.params).In default) → True := by
  k_fill
  intros
  trivial
local macro_rules | `(tactic| k_steps) => `(tactic| repeat' (first | (k_unfold; (try dsimp only)) | walk1 | (dsimp only; walk1) | fail "no step"))

theorem fr_know {h₀ h : Heap} {L : Addr} {m : Str → Option Value} {x : Str} {v : Value} (F : Fr h₀ L h m) (e : m x = some v) : Fr h₀ L h (fun y => if y = x then some v else m y) := by
  have : (fun y => if y = x then some v else m y) = m := by
    funext y
    by_cases h : y = x
    · subst h; rw [if_pos rfl, e]
    · rw [if_neg h]
  rw [this]; exact F

def kn : List (Str × Value) → (Str → Option Value) → Str → Option Value
  | [], m => m
  | (k, v) :: r, m => fun y => if y = k then some v else kn r m y
theorem kn_eq {m : Str → Option Value} : ∀ kvs : List (Str × Value), (∀ p ∈ kvs, m p.1 = some p.2) → kn kvs m = m
  | [], _ => rfl
  | (k, v) :: r, e => by
    have ih := kn_eq r fun p hp => e p (.tail _ hp)
    funext y
    show (if y = k then some v else kn r m y) = m y
    rw [ih]
    by_cases h : y = k
    · subst h; rw [if_pos rfl]; exact (e _ (.head _)).symm
    · rw [if_neg h]
theorem fr_kn {h₀ h : Heap} {L : Addr} {m : Str → Option Value} (F : Fr h₀ L h m) (kvs : List (Str × Value)) (e : ∀ p ∈ kvs, m p.1 = some p.2) : Fr h₀ L h (kn kvs m) := by rw [kn_eq kvs e]; exact F
theorem all1 {P : Str × Value → Prop} {a : Str × Value} (h : P a) : ∀ p ∈ [a], P p := fun p hp => by rcases List.mem_singleton.mp hp with rfl; exact h
theorem allC {P : Str × Value → Prop} {a : Str × Value} {l : List (Str × Value)} (h : P a) (r : ∀ p ∈ l, P p) : ∀ p ∈ a :: l, P p := fun p hp => by rcases List.mem_cons.mp hp with rfl | hp; exact h; exact r p hp

abbrev tupObj (vs : List Value) : Obj := { cls := .type "tuple", data := .seq vs.toArray }
/-- the values are pairs of ints, borne by the tuples of pt -/
def PairsIn (pt : List (Addr × Obj)) : List Value → List (Int × Int) → Prop
  | [], [] => True
  | v :: vs, p :: ps => (∃ a t u, v = .ref a ∧ (a, tupObj [.int p.1 t, .int p.2 u]) ∈ pt) ∧ PairsIn pt vs ps
  | _, _ => False
theorem PairsIn.mono {pt pt' : List (Addr × Obj)} (s : ∀ p ∈ pt, p ∈ pt') : ∀ {vs : List Value} {ps : List (Int × Int)}, PairsIn pt vs ps → PairsIn pt' vs ps
  | [], [], _ => trivial
  | _ :: _, _ :: _, ⟨⟨a, t, u, e, h⟩, r⟩ => ⟨⟨a, t, u, e, s _ h⟩, PairsIn.mono s r⟩
  | [], _ :: _, h => h.elim
  | _ :: _, [], h => h.elim
theorem PairsIn.snoc {pt : List (Addr × Obj)} {a : Addr} {x y : Int} {t u : Tok} (hm : (a, tupObj [.int x t, .int y u]) ∈ pt) : ∀ {vs : List Value} {ps : List (Int × Int)}, PairsIn pt vs ps → PairsIn pt (vs ++ [.ref a]) (ps ++ [(x, y)])
  | [], [], _ => ⟨⟨a, t, u, rfl, hm⟩, trivial⟩
  | _ :: _, _ :: _, ⟨q, r⟩ => ⟨q, PairsIn.snoc hm r⟩
  | [], _ :: _, h => h.elim
  | _ :: _, [], h => h.elim
theorem PairsIn.length {pt : List (Addr × Obj)} : ∀ {vs : List Value} {ps : List (Int × Int)}, PairsIn pt vs ps → vs.length = ps.length
  | [], [], _ => rfl
  | _ :: _, _ :: _, ⟨_, r⟩ => by rw [List.length_cons, List.length_cons, PairsIn.length r]
  | [], _ :: _, h => h.elim
  | _ :: _, [], h => h.elim

section
variable {w : World} {base : Heap} {L fa : Addr} {cd : Value} {mg mb : Str → Option Value} {mean : ExcName → Option Value} {s : Shared} {Q : Flow → Shared → Prop} {E : Value → Shared → Prop}
  {m : Str → Option Value} {cvs : List Value} {cs : List Int} {o1 o2 o3 o4 : Obj} {c1 c2 c3 c4 cl pl : Addr} {cn tu : Int} {t1 tt : Tok}

theorem AllLt_mem {d : Addr} {l : List (Addr × Obj)} {p : Addr × Obj} (h : AllLt d l) (hp : p ∈ l) : @LT.lt Nat _ p.1 d := by
  induction l with
  | nil => exact nomatch hp
  | cons a r ih =>
    rcases List.mem_cons.mp hp with e | hp
    · rw [e]; exact h.1
    · exact ih h.2 hp
theorem off_ins {own : List (Addr × Obj)} {l1 l2 : List Addr} {b : Addr} (h : OwnOff own (l1 ++ l2)) (hb : ∀ p ∈ own, p.1 ≠ b) : OwnOff own (l1 ++ b :: l2) := fun p hp c hc => by
  rcases List.mem_append.mp hc with hc | hc
  · exact h p hp c (List.mem_append_left _ hc)
  · rcases List.mem_cons.mp hc with rfl | hc
    · exact hb p hp
    · exact h p hp c (List.mem_append_right _ hc)
theorem tup_open {h₀ h : Heap} {L D : Addr} {x y : Int} {t u : Tok} {rest : List (Addr × Obj)} {P : Prop} (N : News h₀ L h ((D, tupObj [.int x t, .int y u]) :: rest))
    (k : ∀ x' y' t' u', x' = x → y' = y → News h₀ L h ((D, tupObj [.int x' t', .int y' u']) :: rest) → P) : P := k x y t u rfl rfl N
/-- loop 3's word -/
def J3 (D : Addr) (ws : List Value) (pl cl L : Addr) (cvs : List Value) (o1 o2 o3 o4 : Obj) (cn tu : Int) (tt : Tok) (i : Nat) (m : Str → Option Value) (nx : List (Addr × Obj)) : Prop :=
  m (Str.ofString "cells") = some (.ref cl) ∧ m (Str.ofString "turned") = some (.int tu tt) ∧ ∃ (pvs : List Value) (ps : List (Int × Int)) (k : Nat) (pt : List (Addr × Obj)),
    nx = (D, listOf ws.toArray 0) :: (pl, listOf pvs.toArray k) :: (cl, listOf cvs.toArray 0) :: (L + 1 + 1 + 1 + 1, o4) :: (L + 1 + 1 + 1, o3) :: (L + 1 + 1, o2) :: (L + 1, o1) :: pt ∧
    PairsIn pt pvs ps ∧ (∀ p ∈ ps, (0 ≤ p.1 ∧ p.1 < cn) ∧ 0 ≤ p.2 ∧ p.2 < cn) ∧ ps.length ≤ i ∧ ∀ p ∈ pt, @LT.lt Nat _ pl p.1 ∧ ∃ vs, p.2 = tupObj vs

local macro_rules | `(tactic| k_all) => `(tactic| assumption)
theorem seg3 (B : Below callerA base [] base) (F : Fr base L s.heap m) (X : (hd.heap_39 w.params).In base) (T : Top VW LO mean mg mb base)
    (hc : m (Str.ofString "cells") = some (.ref cl)) (ht : m (Str.ofString "turned") = some (.int tu tt))
    (N : News base L s.heap [(pl, listOf #[] 0), (cl, listOf cvs.toArray 0), (L + 1 + 1 + 1 + 1, o4), (L + 1 + 1 + 1, o3), (L + 1 + 1, o2), (L + 1, o1)])
    (hI : IntsAre cvs cs) (hlen : cs.length = 14) (d1 : o1.data = .cell (some (.int cn t1))) (d2 : o2.data = .cell (some (.ref pl))) (hcn : 2 ≤ cn ∧ cn ≤ 9) (l1 : @LT.lt Nat _ (L + 1 + 1 + 1 + 1) cl) (l2 : @LT.lt Nat _ cl pl)
    (hE : PassesOwn (model PR w) (callerA.deeper (lawEnv L fa cd)) (lawEnv L fa cd) E)
    (hQ : ∀ h' tk m' pvs ps k pt, Fr base L h' m' → m' (Str.ofString "cells") = some (.ref cl) →
      News base L h' ((pl, listOf pvs.toArray k) :: (cl, listOf cvs.toArray 0) :: (L + 1 + 1 + 1 + 1, o4) :: (L + 1 + 1 + 1, o3) :: (L + 1 + 1, o2) :: (L + 1, o1) :: pt) →
      PairsIn pt pvs ps → (∀ p ∈ ps, (0 ≤ p.1 ∧ p.1 < cn) ∧ 0 ≤ p.2 ∧ p.2 < cn) → ps.length ≤ 10 → (∀ p ∈ pt, @LT.lt Nat _ pl p.1 ∧ ∃ vs, p.2 = tupObj vs) → Q .next { s with heap := h', toks := tk }) :
    wpAny (model PR w) (callerA.deeper (lawEnv L fa cd)) (exec (st 3) (lawEnv L fa cd)) Q E s := by
  conv => pattern (st 3); whnf
  unfold lawEnv
  conv => pattern (occs := *) lawScope; all_goals whnf
  have F1 := fr_kn F [(Str.ofString "cells", .ref cl), (Str.ofString "turned", .int tu tt)] (allC hc (all1 ht))
  dsimp only [kn] at F1
  clear F
  refine For_invVF F1 (by rfl) (by rfl) ?_ (hE := hE)
  k_steps
  rename_i D ws h1 F2 N2 hI2 hC2 _ l3
  refine kdl_iter (vs := ws) (nn := 0) (J3 D ws pl cl L cvs o1 o2 o3 o4 cn tu tt) rfl (.head _) F2 N2 ⟨rfl, rfl, [], [], 0, [], rfl, trivial, fun _ h => (nomatch h), Nat.le_refl _, fun _ h => (nomatch h)⟩ ?_ ?_
  · rintro i v m₁ news₁ h tk own hv hoff _ ⟨hm1, hm2, pvs, ps, k, pt, rfl, hP, hB, hlen1, hpt⟩ F3 N3
    have hi : i < ws.length := (List.getElem?_eq_some_iff.mp hv).1
    obtain ⟨t, hx⟩ := hI2.get i _ (List.getElem?_eq_getElem (by rw [← hI2.length]; exact hi))
    have hv' := hv.symm.trans hx
    cases hv'
    rw [← kn_eq [(Str.ofString "cells", .ref cl), (Str.ofString "turned", .int tu tt)] (allC hm1 (all1 hm2))] at F3
    dsimp only [kn] at F3
    simp only [List.cons_append] at N3
    have hoff1 : ∀ p ∈ pt ++ own, p.1 ≠ pl := fun p hp => by
      rcases List.mem_append.mp hp with hp | hp
      · exact Nat.ne_of_gt (hpt p hp).1
      · exact hoff p hp pl (by simp)
    have hw10 : ws.length ≤ 10 := by rw [hI2.length, hC2]; omega
    have hsz : pvs.length ≤ 10 := by rw [hP.length]; omega
    k_steps
    · rename_i D2 _ lD h5 F5 N5
      rw [List.push_toArray] at N5
      have hA := lD.2.2.2.2.2.2.2.2
      have hD : @LT.lt Nat _ pl D2 := lD.2.2.1
      refine tup_open N5 fun x' y' t' u' ex ey N6 => ?_
      clear N5
      have bx : 0 ≤ x' ∧ x' < cn := by rw [ex]; exact ⟨Int.fmod_nonneg_of_pos _ (by omega), Int.fmod_lt_of_pos _ (by omega)⟩
      have by' : 0 ≤ y' ∧ y' < cn := by rw [ey]; exact ⟨Int.fmod_nonneg_of_pos _ (by omega), Int.fmod_lt_of_pos _ (by omega)⟩
      clear ex ey
      refine InvEndG.intro F5 N6 (nx := (D, listOf ws.toArray 0) :: (pl, listOf (pvs ++ [Value.ref D2]).toArray (k + 1)) :: (cl, listOf cvs.toArray 0) :: (L + 1 + 1 + 1 + 1, o4) :: (L + 1 + 1 + 1, o3) :: (L + 1 + 1, o2) :: (L + 1, o1) :: (D2, tupObj [.int x' t', .int y' u']) :: pt)
        ⟨.head _, rfl, rfl, pvs ++ [Value.ref D2], ps ++ [(x', y')], k + 1, (D2, tupObj [.int x' t', .int y' u']) :: pt, rfl, PairsIn.snoc (.head _) (hP.mono fun _ h => .tail _ h), ?_, ?_, ?_⟩ ?_ ?_ ?_
      · intro p hp
        rcases List.mem_append.mp hp with hp | hp
        · exact hB p hp
        · rcases List.mem_singleton.mp hp with rfl
          exact ⟨bx, by'⟩
      · rw [List.length_append, List.length_singleton]; omega
      · intro p hp
        rcases List.mem_cons.mp hp with rfl | hp
        · exact ⟨hD, _, rfl⟩
        · exact hpt p hp
      · exact off_ins (l1 := [D, pl, cl, L + 1 + 1 + 1 + 1, L + 1 + 1 + 1, L + 1 + 1, L + 1]) (l2 := pt.map (·.1)) hoff fun p hp => Nat.ne_of_lt (AllLt_mem hA (List.mem_append_right _ hp))
      · intro p hp; simp only [List.mem_cons, List.mem_append] at hp ⊢; grind
      · intro p hp; simp only [List.mem_cons, List.mem_append]; grind
    · rename_i F5 N5 _
      refine InvEndG.intro F5 N5 (nx := (D, listOf ws.toArray 0) :: (pl, listOf pvs.toArray k) :: (cl, listOf cvs.toArray 0) :: (L + 1 + 1 + 1 + 1, o4) :: (L + 1 + 1 + 1, o3) :: (L + 1 + 1, o2) :: (L + 1, o1) :: pt)
        ⟨.head _, rfl, rfl, pvs, ps, k, pt, rfl, hP, hB, by omega, hpt⟩ hoff ?_ ?_
      · intro p hp; simp only [List.mem_cons, List.mem_append] at hp ⊢; grind
      · intro p hp; simp only [List.mem_cons, List.mem_append]; grind
  · rintro m₁ news₁ h tk ⟨hm1, hm2, pvs, ps, k, pt, rfl, hP, hB, hlen1, hpt⟩ F3 N3
    have hw10 : ws.length ≤ 10 := by rw [hI2.length, hC2]; omega
    exact hQ _ _ _ pvs ps k pt F3 hm1 (news_sub N3 fun p hp => .tail _ hp) hP hB (by omega) hpt
end
end Mine
namespace Mine
theorem rstL6 : True := by
  w_top off
  trivial
theorem fillL6 : PySem.Challenge.rw_fc0145_02.Holds → (∀ w : World, (hd.heap_39 w.params).In default) → True := by
  k_fill
  intros
  trivial
local macro_rules | `(tactic| k_steps) => `(tactic| repeat' (first | (k_unfold; (try dsimp only)) | walk1 | (dsimp only; walk1) | fail "no step"))

local macro_rules | `(tactic| walk_at "eval ListComp") => `(tactic| (k_here; k_dflt (refine LCg.ListComp_U (F₀ := by k_asm) (by with_unfolding_all rfl) (by decide) (by rfl) (by decide) (by rfl) ?_)))
local macro_rules | `(tactic| walk_at "CompSrc") => `(tactic| (k_here; k_dflt (refine LCg.CompSrc.ledger (by rfl) (by k_asm) (by k_asm) (by k_mem) (by first | size_fits | exact Nat.le_of_ble_eq_true rfl) ?_; intro g'; lcg_lit)))
theorem compEnd_new {h₀ : Heap} {L I C D d : Addr} {m : Str → Option Value} {s₁ : Shared} {oI oC oD o : Obj} {S : List (Addr × Obj) → Prop} {rest : Value → List (Addr × Obj) → Prop} {y : Value} {h' : Heap} {tk : Nat} {news : List (Addr × Obj)}
    (F : Fr h₀ L h' m) (N : News h₀ L h' ((d, o) :: (I, oI) :: (C, oC) :: (D, oD) :: news)) (off : LCg.Off3 I C D news) (h1 : @LT.lt Nat _ I d) (h2 : @LT.lt Nat _ C d) (h3 : @LT.lt Nat _ D d) (hS : S ((d, o) :: news)) (r : rest y ((d, o) :: news)) :
    LCg.CompEnd h₀ L m s₁ I oI C oC D oD S rest y { s₁ with heap := h', toks := tk } :=
  LCg.CompEnd.intro F N ((d, o) :: news) (fun p hp => by
    rcases List.mem_cons.mp hp with rfl | hp
    · exact .tail _ (.head _)
    · rcases List.mem_cons.mp hp with rfl | hp
      · exact .tail _ (.tail _ (.head _))
      · rcases List.mem_cons.mp hp with rfl | hp
        · exact .tail _ (.tail _ (.tail _ (.head _)))
        · rcases List.mem_cons.mp hp with rfl | hp
          · exact .head _
          · exact .tail _ (.tail _ (.tail _ (.tail _ hp)))) ⟨⟨Nat.ne_of_gt h1, Nat.ne_of_gt h2, Nat.ne_of_gt h3⟩, off⟩ hS r
local macro_rules | `(tactic| walk_at "CompEnd") => `(tactic| (refine compEnd_new (by assumption) (by assumption) (by assumption) (by omega) (by omega) (by omega) (.inr ⟨_, by k_mem, rfl, _, rfl⟩) ?_; (try simp only [List.nil_append, List.cons_append])))
theorem ints14 {cvs : List Value} {cs : List Int} (h : IntsAre cvs cs) (l : cs.length = 14) : ∃ x0 x1 x2 x3 x4 x5 x6 x7 x8 x9 x10 x11 x12 x13 : Int, ∃ t0 t1 t2 t3 t4 t5 t6 t7 t8 t9 t10 t11 t12 t13 : Tok,
    cs = [x0, x1, x2, x3, x4, x5, x6, x7, x8, x9, x10, x11, x12, x13] ∧ cvs = [.int x0 t0, .int x1 t1, .int x2 t2, .int x3 t3, .int x4 t4, .int x5 t5, .int x6 t6, .int x7 t7, .int x8 t8, .int x9 t9, .int x10 t10, .int x11 t11, .int x12 t12, .int x13 t13] := by
  cases h with | nil => cases l | cons x0 t0 h
  cases h with | nil => cases l | cons x1 t1 h
  cases h with | nil => cases l | cons x2 t2 h
  cases h with | nil => cases l | cons x3 t3 h
  cases h with | nil => cases l | cons x4 t4 h
  cases h with | nil => cases l | cons x5 t5 h
  cases h with | nil => cases l | cons x6 t6 h
  cases h with | nil => cases l | cons x7 t7 h
  cases h with | nil => cases l | cons x8 t8 h
  cases h with | nil => cases l | cons x9 t9 h
  cases h with | nil => cases l | cons x10 t10 h
  cases h with | nil => cases l | cons x11 t11 h
  cases h with | nil => cases l | cons x12 t12 h
  cases h with | nil => cases l | cons x13 t13 h
  cases h with
  | nil => exact ⟨x0, x1, x2, x3, x4, x5, x6, x7, x8, x9, x10, x11, x12, x13, t0, t1, t2, t3, t4, t5, t6, t7, t8, t9, t10, t11, t12, t13, rfl, rfl⟩
  | cons x14 t14 h => simp at l


theorem News.lt_size {h₀ h : Heap} {L : Addr} {news : List (Addr × Obj)} (N : News h₀ L h news) {p : Addr × Obj} (hp : p ∈ news) : @LT.lt Nat _ p.1 h.objs.size := by
  have := (N p hp).1
  unfold Heap.get? at this
  refine Nat.lt_of_not_le fun hc => ?_
  rw [Array.getElem?_eq_none hc] at this
  cases this

section
variable {w : World} {base : Heap} {L fa : Addr} {cd : Value} {mg mb : Str → Option Value} {mean : ExcName → Option Value} {s : Shared} {Q : Flow → Shared → Prop} {E : Value → Shared → Prop}
  {m : Str → Option Value} {cvs pvs : List Value} {cs : List Int} {o1 o2 o3 o4 : Obj} {cl pl : Addr} {cn : Int} {t1 : Tok} {ps : List (Int × Int)} {k : Nat} {pt : List (Addr × Obj)}

theorem PairsIn.snoc2 {vs : List Value} {D3 D1 : Addr} {xa ya xb yb : Int} {ta ua tb ub : Tok} (hP : PairsIn pt vs ps) :
    PairsIn ((D3, tupObj [.int xa ta, .int ya ua]) :: (D1, tupObj [.int xb tb, .int yb ub]) :: pt) (vs ++ [.ref D3, .ref D1]) (ps ++ [(xa, ya), (xb, yb)]) := by
  have a1 := PairsIn.snoc (pt := (D3, tupObj [.int xa ta, .int ya ua]) :: (D1, tupObj [.int xb tb, .int yb ub]) :: pt) (a := D3) (.head _) (hP.mono fun p hp => .tail _ (.tail _ hp))
  have a2 := PairsIn.snoc (pt := (D3, tupObj [.int xa ta, .int ya ua]) :: (D1, tupObj [.int xb tb, .int yb ub]) :: pt) (a := D1) (.tail _ (.head _)) a1
  rw [List.append_assoc, List.append_assoc] at a2
  exact a2

theorem seg4_fin {pl' D0 D1 D3 D5 : Addr} {q0 q5 q : Obj} {xa ya xb yb : Int} {ta ua tb ub : Tok} {cn' : Str} {cs' : Scope} {a' : Addr} {ccd : Value} {ce : List (Str × Addr)} {M : Model} {A : Around} {x : Str} {vs : List Value} {Q' : Unit → Shared → Prop}
    (F : Fr base L s.heap m) (N : News base L s.heap ((pl', listOf vs.toArray 0) :: (D0, q0) :: (D1, tupObj [.int xb tb, .int yb ub]) :: (D3, tupObj [.int xa ta, .int ya ua]) :: (D5, q5) :: (pl, q) :: (cl, listOf cvs.toArray 0) :: (L + 1 + 1 + 1 + 1, o4) :: (L + 1 + 1 + 1, o3) :: (L + 1 + 1, o2) :: (L + 1, o1) :: pt))
    (d2 : o2.data = .cell (some (.ref pl))) (hce : ce.lookup x = some (L + 1 + 1)) (l1 : @LT.lt Nat _ (L + 1 + 1 + 1 + 1) cl) (l2 : @LT.lt Nat _ cl pl')
    (b1 : @LT.lt Nat _ cl D1) (b3 : @LT.lt Nat _ cl D3) (hpt : ∀ p ∈ pt, @LT.lt Nat _ cl p.1)
    (h : ∀ h' o2', Fr base L h' m → News base L h' ((pl', listOf vs.toArray 0) :: (cl, listOf cvs.toArray 0) :: (L + 1 + 1 + 1 + 1, o4) :: (L + 1 + 1 + 1, o3) :: (L + 1 + 1, o2') :: (L + 1, o1) :: (D3, tupObj [.int xa ta, .int ya ua]) :: (D1, tupObj [.int xb tb, .int yb ub]) :: pt) → o2'.data = .cell (some (.ref pl')) → Q' () { s with heap := h' })
    (hk : cs'.kind = .function := by rfl) (hx : (envX cn' cs' L a' ccd ce).kindOf x = some .cell := by rfl) : wpAny M A (storeName (envX cn' cs' L a' ccd ce) x (.ref pl')) Q' E s := by
  have N1 : News base L s.heap ((L + 1 + 1, o2) :: (pl', listOf vs.toArray 0) :: (cl, listOf cvs.toArray 0) :: (L + 1 + 1 + 1 + 1, o4) :: (L + 1 + 1 + 1, o3) :: (L + 1, o1) :: (D3, tupObj [.int xa ta, .int ya ua]) :: (D1, tupObj [.int xb tb, .int yb ub]) :: pt) :=
    news_sub N fun p hp => by simp only [List.mem_cons] at hp ⊢; grind
  refine storeX_C F N1 hce (.head fun p hp => ?_) d2 (fun h' o' F' N' d' => h h' o' F' (news_sub N' fun p hp => by simp only [List.mem_cons] at hp ⊢; grind) d') hk hx
  simp only [List.mem_cons] at hp
  rcases hp with rfl | rfl | rfl | rfl | rfl | rfl | rfl | hp
  iterate 7 (show @Ne Nat _ _; dsimp only; omega)
  have := hpt p hp
  show @Ne Nat _ _
  omega

theorem seg4 (B : Below callerA base [] base) (F : Fr base L s.heap m) (X : (hd.heap_39 w.params).In base) (T : Top VW LO mean mg mb base)
    (hc : m (Str.ofString "cells") = some (.ref cl))
    (N : News base L s.heap ((pl, listOf pvs.toArray k) :: (cl, listOf cvs.toArray 0) :: (L + 1 + 1 + 1 + 1, o4) :: (L + 1 + 1 + 1, o3) :: (L + 1 + 1, o2) :: (L + 1, o1) :: pt))
    (hI : IntsAre cvs cs) (hlen : cs.length = 14) (d1 : o1.data = .cell (some (.int cn t1))) (d2 : o2.data = .cell (some (.ref pl))) (hcn : 2 ≤ cn ∧ cn ≤ 9) (l1 : @LT.lt Nat _ (L + 1 + 1 + 1 + 1) cl) (l2 : @LT.lt Nat _ cl pl)
    (hP : PairsIn pt pvs ps) (hB : ∀ p ∈ ps, (0 ≤ p.1 ∧ p.1 < cn) ∧ 0 ≤ p.2 ∧ p.2 < cn) (hpl : ps.length ≤ 10) (hpt : ∀ p ∈ pt, @LT.lt Nat _ pl p.1 ∧ ∃ vs, p.2 = tupObj vs)
    (hE : PassesOwn (model PR w) (callerA.deeper (lawEnv L fa cd)) (lawEnv L fa cd) E)
    (hQ : ∀ h' tk m' pl' pvs ps k pt o2', Fr base L h' m' → m' (Str.ofString "cells") = some (.ref cl) →
      News base L h' ((pl', listOf pvs.toArray k) :: (cl, listOf cvs.toArray 0) :: (L + 1 + 1 + 1 + 1, o4) :: (L + 1 + 1 + 1, o3) :: (L + 1 + 1, o2') :: (L + 1, o1) :: pt) → o2'.data = .cell (some (.ref pl')) → @LT.lt Nat _ cl pl' →
      PairsIn pt pvs ps → (∀ p ∈ ps, (0 ≤ p.1 ∧ p.1 < cn) ∧ 0 ≤ p.2 ∧ p.2 < cn) → ps.length ≤ 12 → (∀ p ∈ pt, @LT.lt Nat _ cl p.1 ∧ p.1 ≠ pl' ∧ ∃ vs, p.2 = tupObj vs) → Q .next { s with heap := h', toks := tk }) :
    wpAny (model PR w) (callerA.deeper (lawEnv L fa cd)) (exec (st 4) (lawEnv L fa cd)) Q E s := by
  have hI0 := hI
  obtain ⟨x0, x1, x2, x3, x4, x5, x6, x7, x8, x9, x10, x11, x12, x13, s0, s1, s2, s3, s4, s5, s6, s7, s8, s9, s10, s11, s12, s13, rfl, rfl⟩ := ints14 hI hlen
  conv => pattern (st 4); whnf
  unfold lawEnv
  conv => pattern (occs := *) lawScope; all_goals whnf
  have F1 := fr_kn F [(Str.ofString "cells", .ref cl)] (all1 hc)
  dsimp only [kn] at F1
  clear F
  have hoff : ∀ p ∈ pt, p.1 ≠ pl := fun p hp => Nat.ne_of_gt (hpt p hp).1
  have hsz : pvs.length ≤ 10 := by rw [hP.length]; exact hpl
  k_steps
  · rename_i D3 _ l3 _ _ _ _ _ _ _ _ _ _ _ _ _ _ D1 _ _ _ lD1 D0 h1 _ _ N5 _ h6 F6 N6
    dsimp only at N6 ⊢
    have gcl : @LT.lt Nat _ cl h1.objs.size := News.lt_size N5 (p := (cl, _)) (by k_mem)
    have gD3 : @LT.lt Nat _ D3 h1.objs.size := News.lt_size N5 (p := (D3, _)) (by k_mem)
    have gD1 : @LT.lt Nat _ D1 h1.objs.size := News.lt_size N5 (p := (D1, _)) (by k_mem)
    have gpt : ∀ p ∈ pt, @LT.lt Nat _ p.1 h1.objs.size := fun p hp => News.lt_size N5 (p := p) (by repeat (first | exact hp | refine List.Mem.tail _ ?_))
    generalize hh : h1.objs.size = pl' at *
    refine seg4_fin F6 N6 d2 (by rfl) l1 gcl (by omega) (by omega) (fun p hp => by have := (hpt p hp).1; omega) fun h7 o2' F7 N7 d7 => ?_
    k_steps
    have hQ1 := hQ _ ‹Nat› _ pl' _ (ps ++ [(x11.fmod cn, (x11.fdiv cn).fmod cn), (x12.fmod cn, (x12.fdiv cn).fmod cn)]) _ _ o2' F7 rfl N7 d7 gcl
    refine hQ1 ?_ ?_ ?_ ?_
    · exact PairsIn.snoc2 hP
    · intro p hp
      have by' := fun z : Int => (⟨Int.fmod_nonneg_of_pos z (by omega), Int.fmod_lt_of_pos z (by omega)⟩ : 0 ≤ z.fmod cn ∧ z.fmod cn < cn)
      rcases List.mem_append.mp hp with hp | hp
      · exact hB p hp
      · simp only [List.mem_cons, List.not_mem_nil, or_false] at hp
        rcases hp with rfl | rfl
        · exact ⟨by' _, by' _⟩
        · exact ⟨by' _, by' _⟩
    · rw [List.length_append]; simp only [List.length_cons, List.length_nil]; omega
    · intro p hp
      rcases List.mem_cons.mp hp with rfl | hp
      · refine ⟨?_, ?_, _, rfl⟩
        · show @LT.lt Nat _ _ _; dsimp only; omega
        · show @Ne Nat _ _; dsimp only; omega
      · rcases List.mem_cons.mp hp with rfl | hp
        · refine ⟨?_, ?_, _, rfl⟩
          · show @LT.lt Nat _ _ _; dsimp only; omega
          · show @Ne Nat _ _; dsimp only; omega
        · have a := (hpt p hp).1
          have b := gpt p hp
          refine ⟨?_, ?_, (hpt p hp).2⟩
          · show @LT.lt Nat _ _ _; omega
          · show @Ne Nat _ _; omega
  · refine hQ _ _ _ pl pvs ps k pt o2 F1 rfl N d2 l2 hP hB (by omega) (fun p hp => ⟨?_, hoff p hp, (hpt p hp).2⟩)
    have := (hpt p hp).1
    show @LT.lt Nat _ _ _
    omega
end
end Mine
namespace Mine
theorem fillL7 : PySem.Challenge.rw_fc0145_02.Holds → (∀ w : World, (hd.heap_39 w.params).In default) → True := by
  k_fill
  intros
  trivial
local macro_rules | `(tactic| k_steps) => `(tactic| repeat' (first | (k_unfold; (try dsimp only)) | walk1 | (dsimp only; walk1) | fail "no step"))


section
variable {w : World} {base : Heap} {L fa : Addr} {cd : Value} {mg mb : Str → Option Value} {mean : ExcName → Option Value} {s : Shared} {Q : Flow → Shared → Prop} {E : Value → Shared → Prop}
  {m : Str → Option Value} {cvs pvs : List Value} {cs : List Int} {o1 o2 o3 o4 : Obj} {cl pl : Addr} {cn : Int} {t1 : Tok} {ps : List (Int × Int)} {k : Nat} {pt : List (Addr × Obj)}


structure Stop (P : Prop) : Prop where
  it : P
theorem stop_it {P : Prop} (h : Stop P) : P := h.it
theorem Cx.law {mean : ExcName → Option Value} {h : Heap} {news : List (Addr × Obj)} (F : Fr base L h m) (N : News base L h news) (B : Below callerA base [] base) (X : (hd.heap_39 w.params).In base) (T : Top VW LO mean mg mb base) :
    Cx w callerA base [] mean mg mb base base L h m news := ⟨F, N, B, X, T, X, T, ktsDicts_nil, KtsTurn.refl⟩

theorem NS.ext1 {tl : List (Addr × Obj)} {mk dmk : Addr} {ids : List Addr} {da Ca da' Ca' : Addr → Addr} {at_ at_' : Addr → Str → Option Value} {nx pv nx' pv' : Addr → Option Addr}
    (S : NS tl mk dmk ids da Ca at_ nx pv) (e1 : ∀ x ∈ ids, da x = da' x) (e2 : ∀ x ∈ ids, Ca x = Ca' x) (e3 : ∀ x ∈ ids, at_ x = at_' x) (e4 : ∀ x ∈ ids, nx x = nx' x) (e5 : ∀ x ∈ ids, pv x = pv' x) : NS tl mk dmk ids da' Ca' at_' nx' pv' where
  mkI := S.mkI
  mkD := S.mkD
  mkS x hx := e1 x hx ▸ S.mkS x hx
  inst x hx := by rw [← e1 x hx, ← e2 x hx]; exact S.inst x hx
  dict x hx := by rw [← e1 x hx, ← e3 x hx, ← e4 x hx, ← e5 x hx]; exact S.dict x hx
  cls x hx := by rw [← e2 x hx]; exact S.cls x hx
  inj x hx y hy e := S.inj x hx y hy (by rw [e1 x hx, e1 y hy]; exact e)
  sep x hx y hy := by rw [← e1 x hx]; exact S.sep x hx y hy
  kinds := S.kinds
theorem create_ns {tl : List (Addr × Obj)} {mk dmk x dx : Addr} (S : NS tl mk dmk [x] (upF (fun _ => 0) x dx) (upF (fun _ => 108) x 108) (upF (fun _ _ => none) x (listAt mk x)) (upO (upF (fun _ => none) x none) x x) (upO (upF (fun _ => none) x none) x x)) :
    NS tl mk dmk [x] (fun _ => dx) (fun _ => 108) (fun _ => listAt mk x) (upO (fun _ => none) x x) (upO (fun _ => none) x x) :=
  S.ext1 (fun y hy => by rcases List.mem_singleton.mp hy with rfl; exact upF_self ..) (fun y hy => by rcases List.mem_singleton.mp hy with rfl; exact upF_self ..) (fun y hy => by rcases List.mem_singleton.mp hy with rfl; exact upF_self ..)
    (fun y hy => by rcases List.mem_singleton.mp hy with rfl; rw [upO_self, upO_self]) (fun y hy => by rcases List.mem_singleton.mp hy with rfl; rw [upO_self, upO_self])

theorem create_law {mk dmk : Addr} {pre : List (Addr × Obj)} {env : Env} {Q : Value → Shared → Prop} (F : Fr base L s.heap m) (N : News base L s.heap ((mk, instObj 200 dmk) :: (dmk, dictOf [] 0) :: pre)) (B : Below callerA base [] base) (X : (hd.heap_39 w.params).In base) (T : Top VW LO mean mg mb base) (hf : env.frame = some L) (hke : env.scope.kind = .function)
    (h : ∀ h' tk tl' x dx, Fr base L h' m → News base L h' (pre ++ tl') → NS tl' mk dmk [x] (fun _ => dx) (fun _ => 108) (fun _ => listAt mk x) (upO (fun _ => none) x x) (upO (fun _ => none) x x) → (∀ p ∈ pre, p.1 < dx) → dx < x → Q (.ref x) { s with heap := h', toks := tk }) :
    wpAny (model PR w) (callerA.deeper env) (call (.ref 127) [.ref mk] []) Q E s := by
  have N1 : News base L s.heap (pre ++ [(mk, instObj 200 dmk), (dmk, dictOf [] 0)]) := news_sub N fun p hp => by simp only [List.mem_cons, List.mem_append] at hp ⊢; grind
  have S : NS [(mk, instObj 200 dmk), (dmk, dictOf [] 0)] mk dmk [] (fun _ => 0) (fun _ => 108) (fun _ _ => none) (fun _ => none) (fun _ => none) :=
    ⟨.head _, .tail _ (.head _), nofun, nofun, nofun, nofun, nofun, nofun, fun p hp => by
      rcases List.mem_cons.mp hp with rfl | hp
      · rfl
      · rcases List.mem_singleton.mp hp with rfl; rfl⟩
  refine create_spec (outer := []) (Cx.law F N1 B X T) (fun p _ x hx => (by cases hx)) S ?_ hf hke fun h₀' h' tk tl' x dx C' S' q1 q2 => ?_
  · decide
  · exact h h' tk tl' x dx (unturn C'.T0 C'.F) (unturnN C'.T0 C'.N) (create_ns S') (fun p hp => q1 p (List.mem_append_left _ hp)) q2

/-- a comprehension over a range, by a word over what is built -/
theorem comp_inv {prog : Program} {w : World} {A : Around} {h₀ : Heap} {L : Addr} {m : Str → Option Value} {env : Env} {elt : Expr} {x : Str} {scope : Scope} {cl : List (Str × Addr)} {s : Shared} {S : List (Addr × Obj) → Prop} {P : Nat → Value → Prop} {Fin : List Value → List (Addr × Obj) → Prop} {news : List (Addr × Obj)} {n : Nat}
    (J : Nat → List Value → List (Addr × Obj) → Prop) (j0 : J 0 [] news)
    (turn : ∀ i v I oI C oC D m₂ ys nw h tk (E' : Value → Shared → Prop), i < n → P i v → J i ys nw → LCg.NsObj oC m₂ → m₂ x = some v → Fr h₀ L h m → News h₀ L h ((I, oI) :: (C, oC) :: (D, LCg.lst ys) :: nw) → LCg.Off3 I C D nw → ((@Ne Nat I C) ∧ (@Ne Nat I D) ∧ (@Ne Nat C D)) →
      wpAny (model prog w) A (eval elt (compEnvC scope cl C env)) (LCg.CompEnd h₀ L m { s with heap := h, toks := tk } I oI C oC D (LCg.lst ys) S (fun y nw' => J (i + 1) (ys ++ [y]) nw')) E' { s with heap := h, toks := tk })
    (fin : ∀ ys nw, J n ys nw → Fin ys nw) : LCg.CompRest prog w A h₀ L m env elt x scope cl s S P Fin n 0 [] news := by
  have key : ∀ (j i : Nat) (ys : List Value) (nw : List (Addr × Obj)), i + j = n → J i ys nw → LCg.CompRest prog w A h₀ L m env elt x scope cl s S P Fin j i ys nw := by
    intro j
    induction j with
    | zero =>
      intro i ys nw hi hy
      have e : i = n := by omega
      subst e
      exact LCg.CompRest.zero (fin ys nw hy)
    | succ j ih =>
      intro i ys nw hi hy
      refine LCg.CompRest.succ ?_
      intro v I oI C oC D m₂ h tk E' hv hC hx F N off ne
      refine wpAny_mono (turn i v I oI C oC D m₂ ys nw h tk E' (by omega) hv hy hC hx F N off ne) (fun y s₂ hq => ?_) fun _ _ e => e
      obtain ⟨h', tk', nw', e, F', N', off', hS, hn⟩ := hq
      exact ⟨h', tk', nw', e, F', N', off', hS, ih (i + 1) _ _ (by omega) hn⟩
  exact key n 0 [] news (by omega) j0

theorem NS.sub {tl : List (Addr × Obj)} {mk dmk : Addr} {ids ids' : List Addr} {da Ca : Addr → Addr} {at_ : Addr → Str → Option Value} {nx pv : Addr → Option Addr}
    (S : NS tl mk dmk ids da Ca at_ nx pv) (q : ∀ x ∈ ids', x ∈ ids) : NS tl mk dmk ids' da Ca at_ nx pv where
  mkI := S.mkI
  mkD := S.mkD
  mkS x hx := S.mkS x (q x hx)
  inst x hx := S.inst x (q x hx)
  dict x hx := S.dict x (q x hx)
  cls x hx := S.cls x (q x hx)
  inj x hx y hy e := S.inj x (q x hx) y (q y hy) e
  sep x hx y hy := S.sep x (q x hx) y (q y hy)
  kinds := S.kinds
/-- the entries that matter can be kept alone -/
theorem NS.filt {tl : List (Addr × Obj)} {mk dmk : Addr} {ids : List Addr} {da Ca : Addr → Addr} {at_ : Addr → Str → Option Value} {nx pv : Addr → Option Addr} (f : Addr → Bool)
    (S : NS tl mk dmk ids da Ca at_ nx pv) (h1 : f mk = true) (h2 : f dmk = true) (h3 : ∀ x ∈ ids, f x = true) (h4 : ∀ x ∈ ids, f (da x) = true) : NS (tl.filter fun p => f p.1) mk dmk ids da Ca at_ nx pv where
  mkI := List.mem_filter.mpr ⟨S.mkI, h1⟩
  mkD := List.mem_filter.mpr ⟨S.mkD, h2⟩
  mkS := S.mkS
  inst x hx := List.mem_filter.mpr ⟨S.inst x hx, h3 x hx⟩
  dict x hx := by
    obtain ⟨es, n, a, b⟩ := S.dict x hx
    exact ⟨es, n, List.mem_filter.mpr ⟨a, h4 x hx⟩, b⟩
  cls := S.cls
  inj := S.inj
  sep := S.sep
  kinds p hp := S.kinds p (List.mem_filter.mp hp).1

/-- the law's nodes: the list's head and the works, in their order -/
structure Nodes (pre tl : List (Addr × Obj)) (mk dmk hd : Addr) (xs : List Addr) (da Ca : Addr → Addr) (at_ : Addr → Str → Option Value) (nx pv : Addr → Option Addr) : Prop where
  S : NS tl mk dmk (hd :: xs) da Ca at_ nx pv
  P : Off pre da (hd :: xs)
  hC : Ca hd = 108
  hA : at_ hd = listAt mk hd
  rt : ∀ j x, xs[j]? = some x → Ca x = 245 ∧ ∃ t, at_ x = routeAt (.int (Int.ofNat j + 1) t)
  nd : (hd :: xs).Nodup

theorem Nodes.grow {pre tl tl' : List (Addr × Obj)} {mk dmk hd x dx I C D : Addr} {xs : List Addr} {da Ca : Addr → Addr} {at_ : Addr → Str → Option Value} {nx pv : Addr → Option Addr} {k : Int} {t : Tok} {oI oC oD : Obj}
    (Z : Nodes pre tl mk dmk hd xs da Ca at_ nx pv) (hk : k = Int.ofNat xs.length + 1) (off : LCg.Off3 I C D (pre ++ tl))
    (S' : NS tl' mk dmk (x :: hd :: xs) (upF da x dx) (upF Ca x 245) (upF at_ x (routeAt (.int k t))) (upF nx x none) (upF pv x none))
    (q1 : ∀ p ∈ (I, oI) :: (C, oC) :: (D, oD) :: (pre ++ tl), p.1 < dx) (q2 : dx < x) :
    ∃ tl2, (∀ p ∈ tl2, p ∈ tl') ∧ LCg.Off3 I C D (pre ++ tl2) ∧ Nodes pre tl2 mk dmk hd (xs ++ [x]) (upF da x dx) (upF Ca x 245) (upF at_ x (routeAt (.int k t))) (upF nx x none) (upF pv x none) := by
  have q3 : ∀ p ∈ pre ++ tl, p.1 < dx := fun p hp => q1 p (.tail _ (.tail _ (.tail _ hp)))
  have qI : I < dx := q1 (I, oI) (.head _)
  have qC : C < dx := q1 (C, oC) (.tail _ (.head _))
  have qD : D < dx := q1 (D, oD) (.tail _ (.tail _ (.head _)))
  have nx' : ∀ z ∈ hd :: xs, z < dx := fun z hz => q3 _ (List.mem_append_right _ (Z.S.inst z hz))
  have nz : ∀ z ∈ hd :: xs, z ≠ x := fun z hz => Nat.ne_of_lt (Nat.lt_trans (nx' z hz) q2)
  let f : Addr → Bool := fun a => decide (a ≠ I ∧ a ≠ C ∧ a ≠ D)
  have om := off.mem
  have fold : ∀ p ∈ tl, f p.1 = true := fun p hp => decide_eq_true (om p (List.mem_append_right _ hp))
  have fnew : ∀ a, dx ≤ a → f a = true := fun a ha => decide_eq_true ⟨Nat.ne_of_gt (Nat.lt_of_lt_of_le qI ha), Nat.ne_of_gt (Nat.lt_of_lt_of_le qC ha), Nat.ne_of_gt (Nat.lt_of_lt_of_le qD ha)⟩
  refine ⟨tl'.filter fun p => f p.1, fun p hp => (List.mem_filter.mp hp).1, LCg.Off3.of fun p hp => ?_, ?_, ?_, ?_, ?_, ?_, ?_⟩
  · rcases List.mem_append.mp hp with hp | hp
    · exact om p (List.mem_append_left _ hp)
    · exact of_decide_eq_true (List.mem_filter.mp hp).2
  · refine (S'.filt f (fold _ Z.S.mkI) (fold _ Z.S.mkD) (fun z hz => ?_) (fun z hz => ?_)).sub fun z hz => ?_
    · rcases List.mem_cons.mp hz with rfl | hz2
      · exact fnew _ (Nat.le_of_lt q2)
      · exact fold _ (Z.S.inst z hz2)
    · rcases List.mem_cons.mp hz with rfl | hz2
      · rw [upF_self]; exact fnew _ (Nat.le_refl _)
      · rw [upF_ne (nz z hz2)]
        obtain ⟨es, n, a, _⟩ := Z.S.dict z hz2
        exact fold _ a
    · simp only [List.mem_cons, List.mem_append, List.not_mem_nil, or_false] at hz ⊢; grind
  · intro p hp z hz
    have hz2 : z = x ∨ z ∈ hd :: xs := by simp only [List.mem_cons, List.mem_append, List.not_mem_nil, or_false] at hz ⊢; grind
    rcases hz2 with rfl | hz2
    · rw [upF_self]; exact Nat.ne_of_lt (q3 p (List.mem_append_left _ hp))
    · rw [upF_ne (nz z hz2)]; exact Z.P p hp z hz2
  · rw [upF_ne (nz hd (.head _))]; exact Z.hC
  · rw [upF_ne (nz hd (.head _))]; exact Z.hA
  · intro j z hz
    by_cases hj : j < xs.length
    · rw [List.getElem?_append_left hj] at hz
      have hzm : z ∈ hd :: xs := .tail _ (List.mem_of_getElem? hz)
      rw [upF_ne (nz z hzm), upF_ne (nz z hzm)]
      exact Z.rt j z hz
    · have hj2 : j = xs.length := by
        have := (List.getElem?_eq_some_iff.mp hz).1
        rw [List.length_append, List.length_singleton] at this
        omega
      subst hj2
      rw [List.getElem?_append_right (Nat.le_refl _), Nat.sub_self] at hz
      cases hz
      rw [upF_self, upF_self]
      exact ⟨rfl, t, by rw [hk]⟩
  · rw [← List.cons_append]
    refine List.nodup_append.mpr ⟨Z.nd, by simp, fun a ha b hb => ?_⟩
    rcases List.mem_singleton.mp hb with rfl
    exact nz a ha


theorem route_law {pre tl : List (Addr × Obj)} {mk dmk hd I C D : Addr} {xs : List Addr} {da Ca : Addr → Addr} {at_ : Addr → Str → Option Value} {nx pv : Addr → Option Addr} {k : Int} {t : Tok} {oI oC oD : Obj} {env : Env} {Q : Value → Shared → Prop}
    (F : Fr base L s.heap m) (N : News base L s.heap ((I, oI) :: (C, oC) :: (D, oD) :: (pre ++ tl))) (off : LCg.Off3 I C D (pre ++ tl)) (Z : Nodes pre tl mk dmk hd xs da Ca at_ nx pv) (hk : k = Int.ofNat xs.length + 1)
    (B : Below callerA base [] base) (X : (KK w).In base) (T : Top VW LO mean mg mb base) (hf : env.frame = some L) (hke : env.scope.kind = .function)
    (h : ∀ h' tk x dx tl2, Fr base L h' m → News base L h' ((I, oI) :: (C, oC) :: (D, oD) :: (pre ++ tl2)) → LCg.Off3 I C D (pre ++ tl2) → Nodes pre tl2 mk dmk hd (xs ++ [x]) (upF da x dx) (upF Ca x 245) (upF at_ x (routeAt (.int k t))) (upF nx x none) (upF pv x none) → Q (.ref x) { s with heap := h', toks := tk }) :
    wpAny (model PR w) (callerA.deeper env) (call (.ref 245) [.int k t] []) Q E s := by
  refine route_int (outer := []) (pre := (I, oI) :: (C, oC) :: (D, oD) :: pre) (Cx.law F N B X T) Z.S ?_ hf hke ?_ fun h₀' h' tk tl' x dx C' S' q1 q2 => ?_
  · decide
  · rw [hk]; exact Int.le_add_of_nonneg_left (Int.natCast_nonneg _)
  · have F' := unturn C'.T0 C'.F
    have N' := unturnN C'.T0 C'.N
    obtain ⟨tl2, a1, a2, a3⟩ := Z.grow hk off S' q1 q2
    refine h _ _ _ _ tl2 F' (news_sub N' fun p hp => ?_) a2 a3
    simp only [List.cons_append, List.mem_cons, List.mem_append] at hp ⊢
    rcases hp with hp | hp | hp | hp | hp
    · exact .inl hp
    · exact .inr (.inl hp)
    · exact .inr (.inr (.inl hp))
    · exact .inr (.inr (.inr (.inl hp)))
    · exact .inr (.inr (.inr (.inr (a1 p hp))))
end
end Mine
namespace Mine
theorem rstL8 : True := by
  w_top off
  trivial
theorem fillL8 : PySem.Challenge.rw_fc0145_02.Holds → (∀ w : World, (hd.heap_39 w.params).In default) → True := by
  k_fill
  intros
  trivial
local macro_rules | `(tactic| k_steps) => `(tactic| repeat' (first | (k_unfold; (try dsimp only)) | walk1 | (dsimp only; walk1) | fail "no step"))
local macro_rules | `(tactic| walk_at "call ref") => `(tactic| ((with_reducible show wpAny _ _ (call (Value.ref 127) _ _) _ _ _); refine stop_it ?_))
local macro_rules | `(tactic| walk_at "call ref") => `(tactic| ((with_reducible show wpAny _ _ (call (Value.ref 245) _ _) _ _ _); refine stop_it ?_))
local macro_rules | `(tactic| walk_at "eval ListComp") => `(tactic| (refine stop_it ?_))
local macro_rules | `(tactic| walk_at "CompSrc") => `(tactic| (refine stop_it ?_))
section
variable {w : World} {base : Heap} {L fa : Addr} {cd : Value} {mg mb : Str → Option Value} {mean : ExcName → Option Value} {s : Shared} {Q : Flow → Shared → Prop} {E : Value → Shared → Prop}
  {m : Str → Option Value} {cvs pvs : List Value} {cs : List Int} {o1 o2 o3 o4 : Obj} {cl pl : Addr} {cn : Int} {t1 : Tok} {ps : List (Int × Int)} {k : Nat} {pt : List (Addr × Obj)}

/-- what the comprehension of works has built -/
def JR (pre : List (Addr × Obj)) (mk dmk h0 : Addr) (i : Nat) (ys : List Value) (nw : List (Addr × Obj)) : Prop :=
  ∃ tl xs da Ca at_ nx pv, nw = pre ++ tl ∧ Nodes pre tl mk dmk h0 xs da Ca at_ nx pv ∧ ys = xs.map Value.ref ∧ xs.length = i ∧ nx h0 = some h0 ∧ pv h0 = some h0 ∧ ∀ z ∈ xs, nx z = none ∧ pv z = none
theorem JR.step {pre tl2 : List (Addr × Obj)} {mk dmk h0 x dx : Addr} {xs : List Addr} {da : Addr → Addr} {at2 : Addr → Str → Option Value} {nx pv : Addr → Option Addr} {Ca2 : Addr → Addr}
    (Z2 : Nodes pre tl2 mk dmk h0 (xs ++ [x]) (upF da x dx) Ca2 at2 (upF nx x none) (upF pv x none)) (h1 : nx h0 = some h0) (h2 : pv h0 = some h0) (h3 : ∀ z ∈ xs, nx z = none ∧ pv z = none) :
    JR pre mk dmk h0 (xs.length + 1) (xs.map Value.ref ++ [Value.ref x]) (pre ++ tl2) := by
  have n0 : h0 ≠ x := by
    have := (List.nodup_cons.mp Z2.nd).1
    rintro rfl
    exact this (by simp)
  refine ⟨tl2, xs ++ [x], _, _, _, _, _, rfl, Z2, by simp, by simp, ?_, ?_, fun z hz => ?_⟩
  · rw [upF_ne n0]; exact h1
  · rw [upF_ne n0]; exact h2
  · by_cases e : z = x
    · subst e; exact ⟨upF_self .., upF_self ..⟩
    · rw [upF_ne e, upF_ne e]
      exact h3 z (by simp only [List.mem_append, List.mem_singleton] at hz; rcases hz with hz | hz; exact hz; exact absurd hz e)

theorem Off.of_news {h₀ h : Heap} {L mk dmk : Addr} {pre tl : List (Addr × Obj)} {ids : List Addr} {da Ca : Addr → Addr} {at_ : Addr → Str → Option Value} {nx pv : Addr → Option Addr}
    (N : News h₀ L h (pre ++ tl)) (S : NS tl mk dmk ids da Ca at_ nx pv) (hk : ∀ p ∈ pre, isND p.2 = false) : Off pre da ids := fun p hp x hx e => by
  obtain ⟨es, n, a, _⟩ := S.dict x hx
  have e1 := (N p (List.mem_append_left _ hp)).1
  have e2 := (N _ (List.mem_append_right _ a)).1
  rw [e] at e1
  have := Option.some.inj (e1.symm.trans e2)
  have q := hk p hp
  rw [this] at q
  cases q
theorem ne_kind {h₀ h : Heap} {L : Addr} {news : List (Addr × Obj)} {p q : Addr × Obj} (N : News h₀ L h news) (hp : p ∈ news) (hq : q ∈ news) (a : isND p.2 = true) (b : isND q.2 = false) : p.1 ≠ q.1 := fun e => by
  have e1 := (N p hp).1
  have e2 := (N q hq).1
  rw [e] at e1
  have := Option.some.inj (e1.symm.trans e2)
  rw [this] at a
  rw [a] at b
  cases b

theorem off1_mem {D : Addr} {l : List (Addr × Obj)} (h : LCg.Off1 D l) : ∀ p ∈ l, p.1 ≠ D := by
  induction l with
  | nil => intro p hp; cases hp
  | cons a r ih =>
    intro p hp
    rcases List.mem_cons.mp hp with e | hp
    · rw [e]; exact h.1
    · exact ih h.2 p hp

theorem seg5 (B : Below callerA base [] base) (F : Fr base L s.heap m) (X : (hd.heap_39 w.params).In base) (T : Top VW LO mean mg mb base)
    (hc : m (Str.ofString "cells") = some (.ref cl))
    (N : News base L s.heap ((pl, listOf pvs.toArray k) :: (cl, listOf cvs.toArray 0) :: (L + 1 + 1 + 1 + 1, o4) :: (L + 1 + 1 + 1, o3) :: (L + 1 + 1, o2) :: (L + 1, o1) :: pt))
    (d1 : o1.data = .cell (some (.int cn t1))) (d2 : o2.data = .cell (some (.ref pl))) (d3 : o3.data = .cell none) (d4 : o4.data = .cell none) (hcn : 2 ≤ cn ∧ cn ≤ 9) (l1 : @LT.lt Nat _ (L + 1 + 1 + 1 + 1) cl) (l2 : @LT.lt Nat _ cl pl)
    (hpt : ∀ p ∈ pt, @LT.lt Nat _ cl p.1 ∧ p.1 ≠ pl ∧ ∃ vs, p.2 = tupObj vs)
    (hQ : ∀ h' tk m' mk dmk h0 xs ln lv tl da Ca at_ nx pv o3', Fr base L h' m' → m' (Str.ofString "cells") = some (.ref cl) → m' (Str.ofString "nodes") = some (.ref ln) → m' (Str.ofString "done") = some (.ref lv) → m' (Str.ofString "ahead") = some .none →
      News base L h' (((lv, listOf #[] 0) :: (ln, LCg.lst (xs.map Value.ref)) :: (pl, listOf pvs.toArray k) :: (cl, listOf cvs.toArray 0) :: (L + 1 + 1 + 1 + 1, o4) :: (L + 1 + 1 + 1, o3') :: (L + 1 + 1, o2) :: (L + 1, o1) :: pt) ++ tl) → o3'.data = .cell (some (.ref h0)) →
      Nodes ((lv, listOf #[] 0) :: (ln, LCg.lst (xs.map Value.ref)) :: (pl, listOf pvs.toArray k) :: (cl, listOf cvs.toArray 0) :: (L + 1 + 1 + 1 + 1, o4) :: (L + 1 + 1 + 1, o3') :: (L + 1 + 1, o2) :: (L + 1, o1) :: pt) tl mk dmk h0 xs da Ca at_ nx pv →
      xs.length = cn.toNat → nx h0 = some h0 → pv h0 = some h0 → (∀ z ∈ xs, nx z = none ∧ pv z = none) → @LT.lt Nat _ ln lv →
      (∀ p ∈ ((pl, listOf pvs.toArray k) :: (cl, listOf cvs.toArray 0) :: (L + 1 + 1 + 1 + 1, o4) :: (L + 1 + 1 + 1, o3') :: (L + 1 + 1, o2) :: (L + 1, o1) :: pt) ++ tl, p.1 ≠ ln ∧ @LT.lt Nat _ p.1 lv) → Q .next { s with heap := h', toks := tk }) :
    wpAny (model PR w) (callerA.deeper (lawEnv L fa cd)) (execs [st 5, st 6] (lawEnv L fa cd)) Q E s := by
  conv => pattern (st 5); whnf
  conv => pattern (st 6); whnf
  unfold lawEnv
  conv => pattern (occs := *) lawScope; all_goals whnf
  have F1 := fr_kn F [(Str.ofString "cells", .ref cl)] (all1 hc)
  dsimp only [kn] at F1
  clear F
  k_steps
  refine ⟨?_⟩
  rename_i mk dmk _ lmk lmk2 _ _ _ _ _ _ _ _ _ _ _ _ F0 N0
  show wpAny _ _ (call (Value.ref 127) [Value.ref _] []) _ _ _
  refine' create_law ?g1 ?g2 ?g3 ?g4 ?g5 ?g6 ?g7 ?_
  (case g1 => k_asm)
  (case g2 => k_asm)
  (case g3 => assumption)
  (case g4 => assumption)
  (case g5 => assumption)
  (case g6 => exact rfl)
  (case g7 => exact rfl)
  intro h' tk tl' x dx F' N' S' q1' q2'
  (try simp only [List.cons_append] at N')
  (try k_sweep)
  k_steps
  refine ⟨?_⟩
  refine LCg.ListComp_U (F₀ := by k_asm) (by with_unfolding_all rfl) (by decide) (by rfl) (by decide) (by rfl) ?_
  k_steps
  refine ⟨?_⟩
  rename_i hR F4 N4 _
  refine LCg.CompSrc.range (n := (cn - 0).toNat) rfl F4 N4 hR (small_one (by omega) (by omega) (by omega) (by omega)) (rangeSize_nat _ _) (by rw [PySem.sizeLine_eq]; omega) fun g => ?_
  · refine comp_inv (JR ((pl, listOf pvs.toArray k) :: (cl, listOf cvs.toArray 0) :: (L + 1 + 1 + 1 + 1, o4) :: (L + 1 + 1 + 1, o3) :: (L + 1 + 1, o2) :: (L + 1, o1) :: pt) mk dmk x) ?_ ?_ ?_
    · exact ⟨tl', [], _, _, _, _, _, rfl, ⟨S', fun p hp z hz => by rcases List.mem_singleton.mp hz with rfl; exact Nat.ne_of_lt (q1' p hp), rfl, rfl, fun j z hz => by simp at hz, by simp⟩, rfl, rfl, upO_self .., upO_self .., nofun⟩
    · rintro i v I oI C oC D m₂ ys nw h7 tk7 E' hi ⟨t, rfl⟩ ⟨tl, xs, da, Ca, at_, nx, pv, rfl, Z, rfl, hl, g1, g2, g3⟩ hC hx F N off ne
      k_steps
      refine ⟨?_⟩
      refine route_law F N off Z ?_ B X T rfl rfl fun h9 tk9 x9 dx9 tl9 F9 N9 off9 Z9 => ?_
      · rw [hl]; show (0:Int) + Int.ofNat i + 1 = Int.ofNat i + 1; omega
      · refine LCg.CompEnd.intro F9 N9 _ (fun p hp => hp) off9 trivial ?_
        rw [← hl]
        exact JR.step Z9 g1 g2 g3
    · rintro ys nw ⟨tl, xs, da, Ca, at_, nx, pv, rfl, Z, rfl, hl, g1, g2, g3⟩ D h8 tk8 F N off
      k_steps
      rename_i lv _ lx1 _ _ _ h10 F10 N10
      have N11 : News base L h10 ((L + 1 + 1 + 1, o3) :: (lv, listOf #[] 0) :: (D, LCg.lst (xs.map Value.ref)) :: (pl, listOf pvs.toArray k) :: (cl, listOf cvs.toArray 0) :: (L + 1 + 1 + 1 + 1, o4) :: (L + 1 + 1, o2) :: (L + 1, o1) :: (pt ++ tl)) :=
        news_sub N10 fun p hp => by simp only [List.cons_append, List.mem_cons, List.mem_append] at hp ⊢; grind
      have hlv : ∀ p ∈ ((pl, listOf pvs.toArray k) :: (cl, listOf cvs.toArray 0) :: (L + 1 + 1 + 1 + 1, o4) :: (L + 1 + 1 + 1, o3) :: (L + 1 + 1, o2) :: (L + 1, o1) :: pt) ++ tl, @LT.lt Nat _ p.1 lv := fun p hp => AllLt_mem lx1.2 hp
      have hDo : ∀ p ∈ ((pl, listOf pvs.toArray k) :: (cl, listOf cvs.toArray 0) :: (L + 1 + 1 + 1 + 1, o4) :: (L + 1 + 1 + 1, o3) :: (L + 1 + 1, o2) :: (L + 1, o1) :: pt) ++ tl, p.1 ≠ D := off1_mem off
      have i3 : isND o3 = false := by unfold isND; rw [d3]
      have i1 : isND o1 = false := by unfold isND; rw [d1]
      have i2 : isND o2 = false := by unfold isND; rw [d2]
      have i4 : isND o4 = false := by unfold isND; rw [d4]
      refine storeX_C F10 N11 (by rfl) (.head fun p hp => ?_) d3 (fun h11 o3' F11 N12 d3' => ?_)
      · have hm3 : (L + 1 + 1 + 1, o3) ∈ ((pl, listOf pvs.toArray k) :: (cl, listOf cvs.toArray 0) :: (L + 1 + 1 + 1 + 1, o4) :: (L + 1 + 1 + 1, o3) :: (L + 1 + 1, o2) :: (L + 1, o1) :: pt) ++ tl := by simp
        simp only [List.mem_cons, List.mem_append] at hp
        rcases hp with rfl | rfl | rfl | rfl | rfl | rfl | rfl | hp | hp
        · exact Nat.ne_of_gt (hlv _ hm3)
        · exact (hDo _ hm3).symm
        iterate 5 (show @Ne Nat _ _; dsimp only; omega)
        · have := (hpt p hp).1
          show @Ne Nat _ _
          omega
        · exact ne_kind N11 (q := (L + 1 + 1 + 1, o3)) (by simp only [List.mem_cons, List.mem_append]; grind) (.head _) (Z.S.kinds p hp) i3
      · have i3' : isND o3' = false := by unfold isND; rw [d3']
        have hX : ∀ p ∈ ((pl, listOf pvs.toArray k) :: (cl, listOf cvs.toArray 0) :: (L + 1 + 1 + 1 + 1, o4) :: (L + 1 + 1 + 1, o3') :: (L + 1 + 1, o2) :: (L + 1, o1) :: pt) ++ tl, p.1 ≠ D ∧ @LT.lt Nat _ p.1 lv := fun p hp => by
          simp only [List.mem_cons, List.mem_append] at hp
          have H := fun q hq => And.intro (hDo q hq) (hlv q hq)
          rcases hp with (rfl | rfl | rfl | rfl | rfl | rfl | hp) | hp
          iterate 3 exact H _ (by simp)
          · exact H (L + 1 + 1 + 1, o3) (by simp)
          iterate 2 exact H _ (by simp)
          · exact H p (by simp [hp])
          · exact H p (by simp [hp])
        clear hlv hDo N11
        k_steps
        rename_i F13 N13
        have N14 : News base L _ (((lv, listOf #[] 0) :: (D, LCg.lst (xs.map Value.ref)) :: (pl, listOf pvs.toArray k) :: (cl, listOf cvs.toArray 0) :: (L + 1 + 1 + 1 + 1, o4) :: (L + 1 + 1 + 1, o3') :: (L + 1 + 1, o2) :: (L + 1, o1) :: pt) ++ tl) :=
          news_sub N13 fun p hp => by simp only [List.cons_append, List.mem_cons, List.mem_append] at hp ⊢; grind
        have P : Off ((lv, listOf #[] 0) :: (D, LCg.lst (xs.map Value.ref)) :: (pl, listOf pvs.toArray k) :: (cl, listOf cvs.toArray 0) :: (L + 1 + 1 + 1 + 1, o4) :: (L + 1 + 1 + 1, o3') :: (L + 1 + 1, o2) :: (L + 1, o1) :: pt) da (x :: xs) :=
          Off.of_news N14 Z.S fun p hp => by
            simp only [List.mem_cons] at hp
            rcases hp with rfl | rfl | rfl | rfl | rfl | rfl | rfl | rfl | hp
            iterate 4 rfl
            · exact i4
            · exact i3'
            · exact i2
            · exact i1
            · obtain ⟨_, _, vs, hv⟩ := hpt p hp
              rw [hv]
              rfl
        exact hQ _ _ _ mk dmk x xs D lv tl da Ca at_ nx pv o3' F13 rfl rfl rfl rfl N14 d3' ⟨Z.S, P, Z.hC, Z.hA, Z.rt, Z.nd⟩ (by rw [hl]; congr 1; omega) g1 g2 g3 lx1.1 hX
end
end Mine
namespace Mine
open LCg
section
variable {prog : Program} {w : World} {A : Around} {E : Value → Shared → Prop} {s : Shared} {h₀ : Heap} {L : Addr} {m : Str → Option Value} {env : Env}

theorem nfe_K {M : Model} {scope : Scope} {x a b c : Str} {cl : List (Str × Addr)} {globals : Addr} {qual : Str} {outer : Env} {Q : Env → Shared → Prop}
    (hsc : scope.names = [(a, .local), (x, .cell), (b, .globalImplicit), (c, .free)])
    (h : Q { scope, locals := s.heap.objs.size, globals, cells := (x, s.heap.objs.size + 1) :: cl, qual, func := none, code := outer.code, frame := outer.frame, builtins := outer.builtins }
      { s with heap := (s.heap.push { cls := .type "dict", data := .dict #[] }).push { cls := .type "cell", data := .cell none } }) :
    wpAny M A (newFunctionEnv scope globals cl [] qual none .none (some outer)) Q E s := by
  simp only [newFunctionEnv, Option.isSome_some, if_true]
  refine wpAny_bind (wpAny_alloc ?_)
  refine wpAny_bind (wpAny_layCells _ (fun name kind cells => by cases hkc : kind == NameKind.cell <;> simp [hkc]) _ _ _ _ ?_)
  rw [hsc]
  refine wpAny_bind ?_
  rw [List.forIn_nil]
  refine wpAny_pure (wpAny_pure ?_)
  simp only [cellsFrom, pushCells]
  simpa [Heap.size_push] using h

def SrcK (prog : Program) (w : World) (A : Around) (h₀ : Heap) (L : Addr) (m : Str → Option Value) (env : Env) (elt : Expr) (x : Str) (scope : Scope) (cl : List (Str × Addr)) (Q : Value → Shared → Prop) (xv : Value) (s₁ : Shared) : Prop :=
  ∃ (r : Addr) (b : Int) (t u v : Tok) (n : Nat) (news : List (Addr × Obj)) (J : Nat → List Value → Prop), xv = .ref r ∧ A.handled = none ∧ Fr h₀ L s₁.heap m ∧ News h₀ L s₁.heap news ∧ IsRange s₁.heap r 0 b 1 t u v ∧
    Builtin.Range.small 0 b 1 = true ∧ Builtin.Range.rangeSize 0 b 1 = ((n : Nat) : Int) ∧ n ≤ sizeLine ∧ J 0 [] ∧
    (∀ i t I oI C oC kc oK D ys h tk (E' : Value → Shared → Prop), i < n → J i ys → oK.data = .cell (some (.int (0 + (i : Int)) t)) → Fr h₀ L h m → News h₀ L h ((kc, oK) :: (I, oI) :: (C, oC) :: (D, lst ys) :: news) →
      wpAny (model prog w) A (eval elt (compEnvC scope ((x, kc) :: cl) C env)) (fun y s' => ∃ h' tk', s' = { s₁ with heap := h', toks := tk' } ∧ Fr h₀ L h' m ∧ News h₀ L h' ((kc, oK) :: (I, oI) :: (C, oC) :: (D, lst ys) :: news) ∧ J (i + 1) (ys ++ [y])) E' { s₁ with heap := h, toks := tk }) ∧
    ∀ ys D h tk, J n ys → Fr h₀ L h m → News h₀ L h ((D, lst ys) :: news) → Off1 D news → Q (.ref D) { s₁ with heap := h, toks := tk }

def SrcKA (prog : Program) (w : World) (A : Around) (h₀ : Heap) (L : Addr) (m : Str → Option Value) (env : Env) (elt : Expr) (x : Str) (scope : Scope) (cl : List (Str × Addr)) (y : Str) (Q : Flow → Shared → Prop) (xv : Value) (s₁ : Shared) : Prop :=
  ∃ (r : Addr) (b : Int) (t u v : Tok) (n : Nat) (news : List (Addr × Obj)) (J : Nat → List Value → Prop), xv = .ref r ∧ A.handled = none ∧ Fr h₀ L s₁.heap m ∧ News h₀ L s₁.heap news ∧ IsRange s₁.heap r 0 b 1 t u v ∧
    Builtin.Range.small 0 b 1 = true ∧ Builtin.Range.rangeSize 0 b 1 = ((n : Nat) : Int) ∧ n ≤ sizeLine ∧ J 0 [] ∧
    (∀ i t I oI C oC kc oK D ys h tk (E' : Value → Shared → Prop), i < n → J i ys → oK.data = .cell (some (.int (0 + (i : Int)) t)) → Fr h₀ L h m → News h₀ L h ((kc, oK) :: (I, oI) :: (C, oC) :: (D, lst ys) :: news) →
      wpAny (model prog w) A (eval elt (compEnvC scope ((x, kc) :: cl) C env)) (fun y' s' => ∃ h' tk', s' = { s₁ with heap := h', toks := tk' } ∧ Fr h₀ L h' m ∧ News h₀ L h' ((kc, oK) :: (I, oI) :: (C, oC) :: (D, lst ys) :: news) ∧ J (i + 1) (ys ++ [y'])) E' { s₁ with heap := h, toks := tk }) ∧
    ∀ ys D h tk, J n ys → Fr h₀ L h (fun z => if z = y then some (.ref D) else m z) → News h₀ L h ((D, lst ys) :: news) → Off1 D news → Q .next { s₁ with heap := h, toks := tk }

theorem off1_of {D : Addr} : ∀ {l : List (Addr × Obj)}, (∀ p ∈ l, p.1 ≠ D) → Off1 D l
  | [], _ => trivial
  | _ :: _, h => ⟨h _ List.mem_cons_self, off1_of fun p hp => h p (List.mem_cons_of_mem _ hp)⟩


theorem news_same {h h' : Heap} {d : Addr} {news : List (Addr × Obj)} (N : News h₀ L h news) (hs : Heap.SameBut d h h') (off : ∀ p ∈ news, p.1 ≠ d) : News h₀ L h' news := fun p hp => ⟨hs.extBut _ _ (off p hp) (N p hp).1, (N p hp).2⟩

theorem loop_K {elt iter : Expr} {x : Str} {px : Pos} {scope : Scope} {cl : List (Str × Addr)} {pos : Pos} {RR : Result → Shared → Prop} {I C kc D : Addr} {n : Nat} {news : List (Addr × Obj)} {J : Nat → List Value → Prop}
    (hh : A.handled = none) (hsz : n ≤ sizeLine) (hkind : scope.kind = .function) (hkx : (compEnvC scope ((x, kc) :: cl) C env).kindOf x = some .cell)
    (hst : IsRangeIter s.heap I (0 + ((0 : Nat) : Int) * 1) ((n : Int) - ((0 : Nat) : Int)) 1) (F : Fr h₀ L s.heap m) (N : News h₀ L s.heap ((D, lst []) :: news)) (hC : s.heap.Ns C fun _ => none) (hK : s.heap.IsCell kc none)
    (hIC : I ≠ C) (hIk : I ≠ kc) (hID : I ≠ D) (hCk : C ≠ kc) (hCD : C ≠ D) (hkD : kc ≠ D) (hIL : L ≠ I) (hCL : C ≠ L) (hkL : kc ≠ L) (hDL : D ≠ L) (i0 : h₀.get? I = none) (c0 : h₀.get? C = none) (k0 : h₀.get? kc = none) (d0 : h₀.get? D = none)
    (off : ∀ p ∈ news, p.1 ≠ I ∧ p.1 ≠ C ∧ p.1 ≠ kc ∧ p.1 ≠ D) (J0 : J 0 [])
    (turn : ∀ i t I oI C oC kc oK D ys h tk (E' : Value → Shared → Prop), i < n → J i ys → oK.data = .cell (some (.int (0 + (i : Int)) t)) → Fr h₀ L h m → News h₀ L h ((kc, oK) :: (I, oI) :: (C, oC) :: (D, lst ys) :: news) →
      wpAny (model prog w) A (eval elt (compEnvC scope ((x, kc) :: cl) C env)) (fun y s' => ∃ h' tk', s' = { s with heap := h', toks := tk' } ∧ Fr h₀ L h' m ∧ News h₀ L h' ((kc, oK) :: (I, oI) :: (C, oC) :: (D, lst ys) :: news) ∧ J (i + 1) (ys ++ [y])) E' { s with heap := h, toks := tk })
    (hRR : ∀ h tk m' ys, J n ys → Fr h₀ L h m → News h₀ L h ((D, lst ys) :: news) → h.Ns C m' → RR (.ok .next) { s with heap := h, toks := tk }) :
    codeAny (model prog w) A (.compLoop (.ListComp elt [⟨.Name x px, iter, [], 0⟩] scope pos) 0 (.ref I) (.ref D) (compEnvC scope ((x, kc) :: cl) C env)) RR s := by
  have W := range_walks (prog := prog) (w := w) (I := I) hh 0 n
  refine codeAny_compLoop_tests
    (fun k s' => ∃ h' tk i ys v0, s' = { s with heap := h', toks := tk } ∧ i ≤ n ∧ k = n + 1 - i ∧ ys.length = i ∧ IsRangeIter h' I (0 + (i : Nat) * 1) ((n : Int) - (i : Nat)) 1 ∧ Fr h₀ L h' m ∧ (h'.Ns C fun _ => none) ∧ h'.IsCell kc v0 ∧ News h₀ L h' ((D, lst ys) :: news) ∧ J i ys) ?_ (n + 1)
    ⟨s.heap, s.toks, 0, [], none, rfl, Nat.zero_le _, rfl, rfl, hst, F, hC, hK, N, J0⟩
  rintro k s' ⟨h', tk, i, ys, v0, rfl, hi, rfl, hyl, hst', F', hC', hK', N', hJ⟩
  have offI : ∀ p ∈ (D, lst ys) :: news, p.1 ≠ I := fun p hp => by
    rcases List.mem_cons.mp hp with rfl | hp
    · exact Ne.symm hID
    · exact (off p hp).1
  by_cases hlt : i < n
  · refine W.item i _ _ _ hlt hst' fun v h₂ tk₂ hPv hst₂ hk₂ => ?_
    obtain ⟨t, rfl⟩ := hPv
    have hC₂ : h₂.Ns C fun _ => none := hC'.at' fun o e => hk₂ _ o (by simpa using Ne.symm hIC) e
    obtain ⟨ok0, ek0, dk0⟩ := hK'
    refine wpAny_assign_Name (wpAny_storeName_cell (c := kc) (v₀ := v0) hkind hkx (by show List.lookup x ((x, kc) :: cl) = _; simp) ⟨ok0, hk₂ _ _ (by simpa using Ne.symm hIk) ek0, dk0⟩ fun h₃ hc₃ hs₃ => ?_)
    refine wpAny_tests_nil ?_
    simp only [if_true]
    obtain ⟨oK, eK, dK⟩ := hc₃
    have hst₃ : IsRangeIter h₃ I (0 + ((i + 1 : Nat) : Int) * 1) ((n : Int) - ((i + 1 : Nat) : Int)) 1 := W.frame _ _ _ hst₂ fun b hb o e => hs₃.extBut b o (fun q => hIk (by rw [← List.mem_singleton.mp hb]; exact q)) e
    obtain ⟨oI, heI⟩ : ∃ o, h₃.get? I = some o := ⟨_, hst₃⟩
    obtain ⟨oC, heC, hoC⟩ := ns_obj (hC₂.sameBut hs₃ hCk)
    have F₃ : Fr h₀ L h₃ m := (fr_but F' hk₂ hIL i0).change hs₃ hkL k0
    have N₂ := news_but N' hk₂ offI
    have N₃ : News h₀ L h₃ ((kc, oK) :: (I, oI) :: (C, oC) :: (D, lst ys) :: news) := fun p hp => by
      rcases List.mem_cons.mp hp with rfl | hp
      · exact ⟨eK, hkL, k0⟩
      rcases List.mem_cons.mp hp with rfl | hp
      · exact ⟨heI, Ne.symm hIL, i0⟩
      rcases List.mem_cons.mp hp with rfl | hp
      · exact ⟨heC, hCL, c0⟩
      have z := N₂ p hp
      refine ⟨hs₃.extBut _ _ ?_ z.1, z.2⟩
      rcases List.mem_cons.mp hp with rfl | hp
      · exact Ne.symm hkD
      · exact (off p hp).2.2.1
    refine wpAny_mono (turn i t I oI C oC kc oK D ys h₃ tk₂ _ hlt hJ dK F₃ N₃) (fun y s₄ h₄ => ?_) fun _ _ e => e
    obtain ⟨h₄, tk₄, rfl, F₄, N₄, J₄⟩ := h₄
    have zK := (N₄ (kc, oK) (by simp)).1
    have zI := (N₄ (I, oI) (by simp)).1
    have zC := (N₄ (C, oC) (by simp)).1
    have zD := (N₄ (D, lst ys) (by simp)).1
    have hst₄ : IsRangeIter h₄ I (0 + ((i + 1 : Nat) : Int) * 1) ((n : Int) - ((i + 1 : Nat) : Int)) 1 := by
      show h₄.get? I = some _
      rw [zI, ← heI]; exact hst₃
    refine append_at (hsz := by show ys.toArray.size ≤ sizeLine; rw [List.size_toArray, hyl]; exact Nat.le_trans hi hsz) zD fun h₅ hs₅ hD₅ => ?_
    refine ⟨n + 1 - (i + 1), by omega, h₅, tk₄, i + 1, ys ++ [y], _, rfl, hlt, rfl, by rw [List.length_append, List.length_singleton, hyl], W.frame _ _ _ hst₄ fun b hb o e => hs₅.extBut b o (fun q => hID (by rw [← List.mem_singleton.mp hb]; exact q)) e, F₄.change hs₅ hDL d0,
      (hoC.ns zC).sameBut hs₅ hCD, ⟨oK, hs₅.extBut _ _ hkD zK, dK⟩, fun p hp => ?_, J₄⟩
    rcases List.mem_cons.mp hp with rfl | hp
    · exact ⟨hD₅.trans (congrArg some (lst_snoc ys y)), hDL, d0⟩
    · have z := N₄ p (by simp [hp])
      exact ⟨hs₅.extBut _ _ (off p hp).2.2.2 z.1, z.2⟩
  · obtain rfl : i = n := Nat.le_antisymm hi (Nat.not_lt.mp hlt)
    refine W.done _ _ _ hst' fun h₂ tk₂ hk₂ => ?_
    exact hRR h₂ tk₂ _ ys hJ (fr_but F' hk₂ hIL i0) (news_but N' hk₂ offI) (hC'.at' fun o e => hk₂ _ o (by simpa using Ne.symm hIC) e)

theorem block_K {elt iter : Expr} {x a b c : Str} {px : Pos} {scope : Scope} {cl : List (Str × Addr)} {pos : Pos} {r : Addr} {b' : Int} {t u v : Tok} {n : Nat} {news : List (Addr × Obj)} {J : Nat → List Value → Prop} {RR : Value → Addr → Result → Shared → Prop} {s₁ : Shared}
    (hsc : scope.names = [(a, .local), (x, .cell), (b, .globalImplicit), (c, .free)]) (hkind : scope.kind = .function) (hxa : (x == a) = false)
    (hh : A.handled = none) (F : Fr h₀ L s₁.heap m) (N : News h₀ L s₁.heap news) (hr : IsRange s₁.heap r 0 b' 1 t u v) (hsm : Builtin.Range.small 0 b' 1 = true) (hn : Builtin.Range.rangeSize 0 b' 1 = ((n : Nat) : Int)) (hsz : n ≤ sizeLine) (J0 : J 0 [])
    (turn : ∀ i t I oI C oC kc oK D ys h tk (E' : Value → Shared → Prop), i < n → J i ys → oK.data = .cell (some (.int (0 + (i : Int)) t)) → Fr h₀ L h m → News h₀ L h ((kc, oK) :: (I, oI) :: (C, oC) :: (D, lst ys) :: news) →
      wpAny (model prog w) A (eval elt (compEnvC scope ((x, kc) :: cl) C env)) (fun y s' => ∃ h' tk', s' = { s₁ with heap := h', toks := tk' } ∧ Fr h₀ L h' m ∧ News h₀ L h' ((kc, oK) :: (I, oI) :: (C, oC) :: (D, lst ys) :: news) ∧ J (i + 1) (ys ++ [y])) E' { s₁ with heap := h, toks := tk })
    (hRR : ∀ D C h tk m' ys, J n ys → Fr h₀ L h m → News h₀ L h ((D, lst ys) :: news) → Off1 D news → h.Ns C m' → C ≠ L → h₀.get? C = none → (∀ p ∈ (D, lst ys) :: news, p.1 ≠ C) → RR (.ref D) C (.ok .next) { s₁ with heap := h, toks := tk }) :
    wpAny (model prog w) A (pyIter (.ref r)) (fun it s₂ => wpAny (model prog w) A (newList []) (fun acc s₃ => wpAny (model prog w) A (newFunctionEnv scope env.globals cl [] env.qual none .none (some env)) (fun cenv s₄ =>
      codeAny (model prog w) A (.compStart (.ListComp elt [⟨.Name x px, iter, [], 0⟩] scope pos) 0 it acc { cenv with scope := relabel scope env }) (RR acc cenv.locals) s₄) E s₃) E s₂) E s₁ := by
  have hkx : ∀ C kc, (compEnvC scope ((x, kc) :: cl) C env).kindOf x = some .cell := fun C kc => by
    unfold Env.kindOf compEnvC relabel
    rw [hsc]
    simp [List.lookup_cons, hxa]
  refine wpAny_pyIter_range hr hsm ?_
  refine wpAny_newObj_type ?_
  refine nfe_K hsc ?_
  have hst0 : IsRangeIter (s₁.heap.push { cls := Value.type "range_iterator", data := .fields #[rawInt 0, rawInt (Builtin.Range.rangeSize 0 b' 1), rawInt 1] }) s₁.heap.objs.size (0 + ((0 : Nat) : Int) * 1) ((n : Int) - ((0 : Nat) : Int)) 1 := by
    show IsRangeIter _ _ _ _ _; rw [hn]; simpa using Heap.get?_push_size _ rfl
  have fresh₀ : ∀ a, s₁.heap.objs.size ≤ a → h₀.get? a = none := fun a ha => by
    cases e : h₀.get? a with
    | none => rfl
    | some o' => exact absurd (Heap.lt_size (F.keep a o' e)) (Nat.not_lt.mpr ha)
  have hLlt : L < s₁.heap.objs.size := F.ns.lt
  have newlt : ∀ p ∈ news, p.1 < s₁.heap.objs.size := fun p hp => Heap.lt_size (N p hp).1
  dsimp only [Env.locals]
  simp only [Heap.size_push]
  generalize hI : s₁.heap.objs.size = I at *
  have e1 : (s₁.heap.push { cls := Value.type "range_iterator", data := .fields #[rawInt 0, rawInt (Builtin.Range.rangeSize 0 b' 1), rawInt 1] }).objs.size = I + 1 := by rw [Heap.size_push, hI]
  generalize hA : s₁.heap.push { cls := Value.type "range_iterator", data := .fields #[rawInt 0, rawInt (Builtin.Range.rangeSize 0 b' 1), rawInt 1] } = A1 at *
  have upA : ∀ b o, s₁.heap.get? b = some o → A1.get? b = some o := fun b o e => hA ▸ Heap.get?_push_of_some _ e
  have e2 : (A1.push { cls := Value.type "list", dict := none, data := .seq ([] : List Value).toArray }).objs.size = I + 1 + 1 := by rw [Heap.size_push, e1]
  have gD : (A1.push { cls := Value.type "list", dict := none, data := .seq ([] : List Value).toArray }).get? (I + 1) = some (lst []) := e1 ▸ Heap.get?_push_size _ rfl
  have upB : ∀ b o, A1.get? b = some o → (A1.push { cls := Value.type "list", dict := none, data := .seq ([] : List Value).toArray }).get? b = some o := fun b o e => Heap.get?_push_of_some _ e
  generalize A1.push { cls := Value.type "list", dict := none, data := .seq ([] : List Value).toArray } = B1 at *
  have e3 : (B1.push { cls := Value.type "dict", data := .dict #[] }).objs.size = I + 1 + 1 + 1 := by rw [Heap.size_push, e2]
  have gC : (B1.push { cls := Value.type "dict", data := .dict #[] }).Ns (I + 1 + 1) fun _ => none := e2 ▸ Heap.Ns.new B1 (.type "dict")
  have upC : ∀ b o, B1.get? b = some o → (B1.push { cls := Value.type "dict", data := .dict #[] }).get? b = some o := fun b o e => Heap.get?_push_of_some _ e
  generalize B1.push { cls := Value.type "dict", data := .dict #[] } = C1 at *
  have gK : (C1.push { cls := Value.type "cell", data := .cell none }).get? (I + 1 + 1 + 1) = some { cls := Value.type "cell", data := .cell none } := e3 ▸ Heap.get?_push_size _ rfl
  have upD : ∀ b o, C1.get? b = some o → (C1.push { cls := Value.type "cell", data := .cell none }).get? b = some o := fun b o e => Heap.get?_push_of_some _ e
  generalize C1.push { cls := Value.type "cell", data := .cell none } = D1 at *
  have up : ∀ b o, s₁.heap.get? b = some o → D1.get? b = some o := fun b o e => upD _ _ (upC _ _ (upB _ _ (upA _ _ e)))
  have hLn : @LT.lt Nat _ L I := hLlt
  have ne1 : ∀ {a b : Addr}, @LT.lt Nat _ a b → a ≠ b := fun h => Nat.ne_of_lt h
  have hst1 : IsRangeIter D1 I (0 + ((0 : Nat) : Int) * 1) ((n : Int) - ((0 : Nat) : Int)) 1 := upD _ _ (upC _ _ (upB _ _ hst0))
  have loop : ∀ s₃ : Shared, s₃ = { s₁ with heap := D1 } → codeAny (model prog w) A (.compLoop (.ListComp elt [⟨.Name x px, iter, [], 0⟩] scope pos) 0 (.ref I) (.ref (I + 1)) (compEnvC scope ((x, I + 1 + 1 + 1) :: cl) (I + 1 + 1) env)) (RR (.ref (I + 1)) (I + 1 + 1)) s₃ := by
    rintro s₃ rfl
    refine loop_K (n := n) (news := news) (J := J) hh hsz hkind (hkx _ _) hst1 (F.keeps up) (fun p hp => ?_) (gC.at' fun o e => upD _ _ e) ⟨_, gK, rfl⟩
      (ne1 (by omega)) (ne1 (by omega)) (ne1 (by omega)) (ne1 (by omega)) (ne1 (by omega)).symm (ne1 (by omega)).symm (ne1 hLn) (ne1 (by omega)).symm (ne1 (by omega)).symm (ne1 (by omega)).symm
      (fresh₀ _ (Nat.le_refl _)) (fresh₀ _ (Nat.le_add_right _ 2)) (fresh₀ _ (Nat.le_add_right _ 3)) (fresh₀ _ (Nat.le_add_right _ 1)) (fun p hp => ?_) J0 turn ?_
    · rcases List.mem_cons.mp hp with rfl | hp
      · exact ⟨upD _ _ (upC _ _ gD), (ne1 (by omega)).symm, fresh₀ _ (Nat.le_add_right _ 1)⟩
      · exact ⟨up _ _ (N p hp).1, (N p hp).2⟩
    · have := newlt p hp
      have h1 : @LT.lt Nat _ p.1 I := this
      exact ⟨ne1 h1, ne1 (by omega), ne1 (by omega), ne1 (by omega)⟩
    · intro h tk m' ys hJ F' N' hC'
      refine hRR (I + 1) (I + 1 + 1) h tk m' ys hJ F' N' (off1_of fun p hp => ?_) hC' (ne1 (by omega)).symm (fresh₀ _ (Nat.le_add_right _ 2)) (fun p hp => ?_)
      · have h1 : @LT.lt Nat _ p.1 I := newlt p hp
        exact ne1 (by omega)
      · rcases List.mem_cons.mp hp with rfl | hp
        · exact ne1 (Nat.lt_succ_self _)
        · have h1 : @LT.lt Nat _ p.1 I := newlt p hp
          exact ne1 (by omega)
  have W := range_walks (prog := prog) (w := w) (I := I) hh 0 n
  exact codeAny_compStart_list (loop _ rfl) (W.self 0 _ _ _ hst1 (loop _ rfl))

theorem names_K {a x b c : Str} {scope : Scope} (hsc : scope.names = [(a, .local), (x, .cell), (b, .globalImplicit), (c, .free)]) : ∀ y ∈ scope.names, y.2 = .local → scope.names.lookup y.1 = some .local := by
  rw [hsc]
  intro y hy hl
  simp only [List.mem_cons, List.not_mem_nil, or_false] at hy
  rcases hy with rfl | rfl | rfl | rfl
  · simp
  · cases hl
  · cases hl
  · cases hl

theorem ListComp_K {elt iter : Expr} {x a b c : Str} {px : Pos} {scope : Scope} {cl : List (Str × Addr)} {pos : Pos} {Q : Value → Shared → Prop} (_F₀ : Fr h₀ L s.heap m)
    (hclos : closureFor scope env = pure cl) (hsc : scope.names = [(a, .local), (x, .cell), (b, .globalImplicit), (c, .free)]) (hkind : scope.kind = .function) (hxa : (x == a) = false)
    (h : wpAny (model prog w) A (eval iter env) (SrcK prog w A h₀ L m env elt x scope cl Q) E s)
    (hs : ∀ x, foldedSetIterable iter env x = pure x := by intro _; rfl) :
    wpAny (model prog w) A (eval (.ListComp elt [⟨.Name x px, iter, [], 0⟩] scope pos) env) Q E s := by
  rw [eval_ListComp]
  refine wpAny_comprehension_free (use := none) rfl hs hclos hkind (names_K hsc) (wpAny_mono h (fun xv s₁ h₁ => ?_) fun _ _ e => e)
  obtain ⟨r, b', t, u, v, n, news, J, rfl, hh, F, N, hr, hsm, hn, hsz, J0, turn, fin⟩ := h₁
  refine block_K (RR := compPost (model prog w) A E none Q) hsc hkind hxa hh F N hr hsm hn hsz J0 turn fun D C h tk m' ys hJ F' N' o1 hC' hCL c0 offC => ?_
  exact ⟨m', hC', fun h'' hs'' => fin ys D h'' tk hJ (F'.change hs'' hCL c0) (news_same N' hs'' offC) o1⟩

theorem Assign_ListComp_K {elt iter : Expr} {x y a b c : Str} {px py : Pos} {scope : Scope} {cl : List (Str × Addr)} {pos spos : Pos} {Q : Flow → Shared → Prop} (_F₀ : Fr h₀ L s.heap m) (hLe : env.locals = L)
    (hsw : swapsWith (.ListComp elt [⟨.Name x px, iter, [], 0⟩] scope pos) (some (.Name y py)) spos.line env = pure true)
    (hclos : closureFor scope env = pure cl) (hsc : scope.names = [(a, .local), (x, .cell), (b, .globalImplicit), (c, .free)]) (hkind : scope.kind = .function) (hxa : (x == a) = false)
    (hy : env.kindOf y = some .local) (hp : (env.scope.kind == .class || (env.scope.kind == .module && env.locals != env.globals)) = false)
    (h : wpAny (model prog w) A (eval iter env) (SrcKA prog w A h₀ L m env elt x scope cl y Q) E s)
    (hs : ∀ x, foldedSetIterable iter env x = pure x := by intro _; rfl) :
    wpAny (model prog w) A (exec (.Assign [.Name y py] (.ListComp elt [⟨.Name x px, iter, [], 0⟩] scope pos) spos) env) Q E s := by
  subst hLe
  rw [exec_Assign_Name_used _ _ _ _ hsw]
  refine wpAny_bind (wpAny_standAt (wpAny_bind ?_))
  show wpAny _ A (do let _ ← comprehension (.ListComp elt [⟨.Name x px, iter, [], 0⟩] scope pos) scope env _ (newList []) false (eval iter env) (some (assign (.Name y py) env))) _ _ s
  refine wpAny_bind (wpAny_mono (wpAny_comprehension_free (use := some (assign (.Name y py) env)) (Q := fun _ s' => Q .next s') rfl hs hclos hkind (names_K hsc)
    (wpAny_mono h (fun xv s₁ h₁ => ?_) fun _ _ e => e)) (fun _ s' hq => wpAny_pure (wpAny_pure hq)) fun _ _ e => e)
  obtain ⟨r, b', t, u, v, n, news, J, rfl, hh, F, N, hr, hsm, hn, hsz, J0, turn, fin⟩ := h₁
  refine block_K (RR := compPost (model prog w) A E (some (assign (.Name y py) env)) (fun _ s' => Q .next s')) hsc hkind hxa hh F N hr hsm hn hsz J0 turn fun D C h tk m' ys hJ F' N' o1 hC' hCL c0 offC => ?_
  show wpAny _ A (assign (.Name y py) env (.ref D)) _ _ _
  refine wpAny_assign_Name (wpAny_storeName_local hy F'.ns (fun h₂ hn₂ hs₂ => ?_) hp)
  have hL₀ : h₀.get? env.locals = none := Heap.get?_none_of_le F'.above
  have F₂ : Fr h₀ env.locals h₂ (fun z => if z = y then some (.ref D) else m z) := ⟨hn₂, fun b o e => hs₂.extBut b o (fun q => by rw [q, hL₀] at e; cases e) (F'.keep b o e), F'.above⟩
  refine ⟨m', hC'.sameBut hs₂ hCL, fun h'' hs'' => fin ys D h'' _ hJ (F₂.change hs'' hCL c0) (fun p hp => ?_) o1⟩
  have z : h₂.get? p.1 = some p.2 := hs₂.extBut _ _ (N' p hp).2.1 (N' p hp).1
  exact ⟨hs''.extBut _ _ (offC p hp) z, (N' p hp).2⟩
end
end Mine
namespace Mine
theorem rstL9 : True := by
  w_top off
  trivial
theorem fillL9 : PySem.Challenge.rw_fc0145_02.Holds → (∀ w : World, (hd.heap_39 w.params).In default) → True := by
  k_fill
  intros
  trivial
local macro_rules | `(tactic| k_steps) => `(tactic| repeat' (first | (k_unfold; (try dsimp only)) | walk1 | (dsimp only; walk1) | fail "no step"))
section
variable {prog : Program} {w : World} {A : Around} {s : Shared} {h₀ : Heap} {L : Addr} {m : Str → Option Value} {env : Env}
open LCg LCt
theorem comp_invT {ct elt : Expr} {x : Str} {scope : Scope} {cl : List (Str × Addr)} {S : List (Addr × Obj) → Prop} {P : Nat → Value → Prop} {Fin : List Value → List (Addr × Obj) → Prop} {news : List (Addr × Obj)} {n : Nat}
    (J : Nat → List Value → List (Addr × Obj) → Prop) (j0 : J 0 [] news)
    (turn : ∀ i v I oI C oC D m₂ ys nw h tk (E' : Value → Shared → Prop), i < n → P i v → J i ys nw → NsObj oC m₂ → m₂ x = some v → Fr h₀ L h m → News h₀ L h ((I, oI) :: (C, oC) :: (D, lst ys) :: nw) → Off3 I C D nw → ((@Ne Nat I C) ∧ (@Ne Nat I D) ∧ (@Ne Nat C D)) →
      wpAny (model prog w) A (isTrue ct (compEnvC scope cl C env) (eval ct (compEnvC scope cl C env))) (fun ok s' => if ok = true then
        wpAny (model prog w) A (eval elt (compEnvC scope cl C env)) (CompEnd h₀ L m { s with heap := h, toks := tk } I oI C oC D (lst ys) S (fun y nw' => J (i + 1) (ys ++ [y]) nw')) E' s'
        else CompEnd h₀ L m { s with heap := h, toks := tk } I oI C oC D (lst ys) S (fun _ nw' => J (i + 1) ys nw') Value.none s') E' { s with heap := h, toks := tk })
    (fin : ∀ ys nw, J n ys nw → Fin ys nw) : CompRestT prog w A h₀ L m env ct elt x scope cl s S P Fin n 0 [] news := by
  have key : ∀ (j i : Nat) (ys : List Value) (nw : List (Addr × Obj)), i + j = n → J i ys nw → CompRestT prog w A h₀ L m env ct elt x scope cl s S P Fin j i ys nw := by
    intro j
    induction j with
    | zero =>
      intro i ys nw hi hy
      have e : i = n := by omega
      subst e
      exact CompRestT.zero (fin ys nw hy)
    | succ j ih =>
      intro i ys nw hi hy
      refine CompRestT.succ ?_
      intro v I oI C oC D m₂ h tk E' hv hC hx F N off ne
      refine wpAny_mono (turn i v I oI C oC D m₂ ys nw h tk E' (by omega) hv hy hC hx F N off ne) (fun ok s₂ hq => ?_) fun _ _ e => e
      cases ok with
      | true =>
        simp only [if_true] at hq ⊢
        refine wpAny_mono hq (fun y s₃ hq => ?_) fun _ _ e => e
        obtain ⟨h', tk', nw', e, F', N', off', hS, hn⟩ := hq
        exact ⟨h', tk', nw', e, F', N', off', hS, ih (i + 1) _ _ (by omega) hn⟩
      | false =>
        simp only [Bool.false_eq_true, if_false] at hq ⊢
        obtain ⟨h', tk', nw', e, F', N', off', hS, hn⟩ := hq
        exact ⟨h', tk', nw', e, F', N', off', hS, ih (i + 1) _ _ (by omega) hn⟩
  exact key n 0 [] news (by omega) j0
end

theorem PairsIn.get {pt : List (Addr × Obj)} : ∀ {vs : List Value} {ps : List (Int × Int)} {i : Nat} {v : Value}, PairsIn pt vs ps → vs[i]? = some v → ∃ p a t u, ps[i]? = some p ∧ v = .ref a ∧ (a, tupObj [.int p.1 t, .int p.2 u]) ∈ pt
  | [], [], i, v, _, h => by simp at h
  | _ :: _, p :: ps, 0, v, ⟨⟨a, t, u, e, q⟩, r⟩, h => by
    simp only [List.getElem?_cons_zero, Option.some.injEq] at h
    exact ⟨p, a, t, u, by simp, h ▸ e, q⟩
  | _ :: _, _ :: _, i + 1, v, ⟨_, r⟩, h => by
    simp only [List.getElem?_cons_succ] at h ⊢
    exact PairsIn.get r h
  | [], _ :: _, _, _, h, _ => h.elim
  | _ :: _, [], _, _, h, _ => h.elim
/-- how many pairs lead to k -/
def cntTo (ps : List (Int × Int)) (k : Int) : Nat := (ps.filter fun p => p.2 == k).length
theorem cntTo_take {ps : List (Int × Int)} {i : Nat} {p : Int × Int} {k : Int} (h : ps[i]? = some p) : cntTo (ps.take (i + 1)) k = cntTo (ps.take i) k + (if p.2 == k then 1 else 0) := by
  unfold cntTo
  rw [List.take_add_one, h]
  simp only [Option.toList, List.filter_append, List.length_append]
  congr 1
  cases hk : p.2 == k <;> simp [hk]

section
variable {w : World} {base : Heap} {L fa : Addr} {cd : Value} {mg mb : Str → Option Value} {mean : ExcName → Option Value} {s : Shared} {Q : Flow → Shared → Prop} {E : Value → Shared → Prop}
  {m : Str → Option Value} {cvs pvs : List Value} {cs : List Int} {o1 o2 o3 o4 olv : Obj} {cl pl ln lv h0 : Addr} {cn : Int} {t1 : Tok} {ps : List (Int × Int)} {k : Nat} {pt tl : List (Addr × Obj)} {xs : List Addr}
local macro_rules | `(tactic| walk_at "exec Assign cons ListComp") => `(tactic| (refine stop_it ?_))
local macro_rules | `(tactic| walk_at "eval ListComp") => `(tactic| (refine stop_it ?_))
local macro_rules | `(tactic| walk_at "CompSrcT") => `(tactic| (refine stop_it ?_))

theorem seg7 (B : Below callerA base [] base) (F : Fr base L s.heap m) (X : (hd.heap_39 w.params).In base) (T : Top VW LO mean mg mb base)
    (hc : m (Str.ofString "cells") = some (.ref cl)) (hnd : m (Str.ofString "nodes") = some (.ref ln)) (hdn : m (Str.ofString "done") = some (.ref lv)) (hah : m (Str.ofString "ahead") = some .none)
    (N : News base L s.heap (((lv, olv) :: (ln, LCg.lst (xs.map Value.ref)) :: (pl, listOf pvs.toArray k) :: (cl, listOf cvs.toArray 0) :: (L + 1 + 1 + 1 + 1, o4) :: (L + 1 + 1 + 1, o3) :: (L + 1 + 1, o2) :: (L + 1, o1) :: pt) ++ tl))
    (d1 : o1.data = .cell (some (.int cn t1))) (d2 : o2.data = .cell (some (.ref pl))) (hcn : 2 ≤ cn ∧ cn ≤ 9)
    (hP : PairsIn pt pvs ps) (hpl : ps.length ≤ 12)
    (hQ : ∀ h' tk m' wl ws wvs, Fr base L h' m' → m' (Str.ofString "waits") = some (.ref wl) → m' (Str.ofString "cells") = some (.ref cl) → m' (Str.ofString "nodes") = some (.ref ln) → m' (Str.ofString "done") = some (.ref lv) → m' (Str.ofString "ahead") = some .none →
      News base L h' ((wl, LCg.lst wvs) :: (((lv, olv) :: (ln, LCg.lst (xs.map Value.ref)) :: (pl, listOf pvs.toArray k) :: (cl, listOf cvs.toArray 0) :: (L + 1 + 1 + 1 + 1, o4) :: (L + 1 + 1 + 1, o3) :: (L + 1 + 1, o2) :: (L + 1, o1) :: pt) ++ tl)) →
      IntsAre wvs ws → ws = (List.range cn.toNat).map (fun j => (cntTo ps (Int.ofNat j) : Int)) →
      (∀ p ∈ ((lv, olv) :: (ln, LCg.lst (xs.map Value.ref)) :: (pl, listOf pvs.toArray k) :: (cl, listOf cvs.toArray 0) :: (L + 1 + 1 + 1 + 1, o4) :: (L + 1 + 1 + 1, o3) :: (L + 1 + 1, o2) :: (L + 1, o1) :: pt) ++ tl, p.1 ≠ wl) → Q .next { s with heap := h', toks := tk }) :
    wpAny (model PR w) (callerA.deeper (lawEnv L fa cd)) (exec (st 7) (lawEnv L fa cd)) Q E s := by
  conv => pattern (st 7); whnf
  unfold lawEnv
  conv => pattern (occs := *) lawScope; all_goals whnf
  have F1 := fr_kn F [(Str.ofString "cells", .ref cl), (Str.ofString "nodes", .ref ln), (Str.ofString "done", .ref lv), (Str.ofString "ahead", .none)] (allC hc (allC hnd (allC hdn (all1 hah))))
  dsimp only [kn] at F1
  clear F
  (try simp only [List.cons_append] at N)
  refine Assign_ListComp_K F1 rfl (by with_unfolding_all rfl) (by with_unfolding_all rfl) rfl rfl (by decide +kernel) rfl rfl ?_
  k_steps
  rename_i hR F4 N4 _
  refine ⟨_, cn, _, _, _, cn.toNat, _, fun i ys => IntsAre ys ((List.range i).map fun j => (cntTo ps (Int.ofNat j) : Int)), rfl, rfl, F4, N4, hR, small_one (by omega) (by omega) (by omega) (by omega), ?_, by rw [PySem.sizeLine_eq]; omega, .nil, ?_, ?_⟩
  · have := rangeSize_nat 0 cn
    rw [this]; congr 1; omega
  · intro i t I oI C oC kc oK D ys h tk E' hi hJ dK F N
    k_steps
    refine ⟨?_⟩
    refine LCt.ListComp_T (F₀ := by k_asm) (by with_unfolding_all rfl) (by decide) (by rfl) (by decide) (by rfl) ?_
    k_steps
    refine ⟨?_⟩
    refine LCt.CompSrcT.ledger rfl F N (by k_mem) (by rw [List.size_toArray, hP.length, PySem.sizeLine_eq]; omega) fun g => ?_
    rw [List.size_toArray]
    refine comp_invT (fun j zs nw => nw = (kc, oK) :: (I, oI) :: (C, oC) :: (D, LCg.lst ys) :: (lv, olv) :: (ln, LCg.lst (xs.map Value.ref)) :: (pl, listOf pvs.toArray k) :: (cl, listOf cvs.toArray 0) :: (L + 1 + 1 + 1 + 1, o4) :: (L + 1 + 1 + 1, o3) :: (L + 1 + 1, o2) :: (L + 1, o1) :: (pt ++ tl) ∧ zs.length = cntTo (ps.take j) (Int.ofNat i)) ⟨rfl, rfl⟩ ?_ ?_
    · rintro j v I2 oI2 C2 oC2 D2 m₂ zs nw h2 tk2 E2 hj hv ⟨rfl, hz⟩ hC2 hx2 F2 N2 off2 ne2
      have hv' : pvs[j]? = some v := by simpa using hv
      obtain ⟨p, a, t1, u1, hp, rfl, hmem⟩ := hP.get hv'
      have N3 : News base L h2 ((a, tupObj [.int p.1 t1, .int p.2 u1]) :: (I2, oI2) :: (C2, oC2) :: (D2, LCg.lst zs) :: (kc, oK) :: (I, oI) :: (C, oC) :: (D, LCg.lst ys) :: (lv, olv) :: (ln, LCg.lst (xs.map Value.ref)) :: (pl, listOf pvs.toArray k) :: (cl, listOf cvs.toArray 0) :: (L + 1 + 1 + 1 + 1, o4) :: (L + 1 + 1 + 1, o3) :: (L + 1 + 1, o2) :: (L + 1, o1) :: (pt ++ tl)) :=
        news_sub N2 fun q hq => by
          rcases List.mem_cons.mp hq with rfl | hq
          · simp [hmem]
          · exact hq
      have hc3 := cntTo_take (k := Int.ofNat i) hp
      clear N2 N
      k_steps
      · rename_i he
        refine LCg.CompEnd.intro F2 N3 _ (fun q hq => .tail _ hq) off2 (.inr ⟨_, by k_mem, rfl, _, rfl⟩) ⟨rfl, ?_⟩
        rw [List.length_append, List.length_singleton, hz, hc3, if_pos (by rw [he]; simp)]
      · rename_i he
        refine LCg.CompEnd.intro F2 N3 _ (fun q hq => .tail _ hq) off2 (.inr ⟨_, by k_mem, rfl, _, rfl⟩) ⟨rfl, ?_⟩
        rw [hz, hc3, if_neg (by intro hh; exact he (by rw [eq_of_beq hh]; simp))]
        rfl
    · rintro zs nw ⟨rfl, hz⟩ D2 h2 tk2 F2 N2 off2
      k_steps
      have hle : cntTo (ps.take pvs.length) (Int.ofNat i) ≤ 12 := Nat.le_trans (List.length_filter_le _ _) (by rw [List.length_take]; omega)
      refine KM.len_K N2 (by k_mem) (List.size_toArray ..) (by rw [hz]; omega) ?_
      refine ⟨_, _, rfl, F2, news_sub N2 fun q hq => .tail _ hq, ?_⟩
      rw [hz, hP.length, List.take_length, List.range_succ, List.map_append]
      exact hJ.append (.cons _ _ .nil)
  · intro ys D h tk hJ F' N' off
    exact hQ h tk _ D _ ys F' rfl rfl rfl rfl rfl N' hJ rfl (off1_mem off)
end
end Mine
namespace Mine
/-- the chain from a through l to b -/
def Seg (nx pv : Addr → Option Addr) : Addr → List Addr → Addr → Prop
  | a, [], b => nx a = some b ∧ pv b = some a
  | a, x :: l, b => (nx a = some x ∧ pv x = some a) ∧ Seg nx pv x l b
section
variable {nx pv nx' pv' : Addr → Option Addr} {a b y p x : Addr} {l : List Addr}
theorem Seg.frame : ∀ {l : List Addr} {a : Addr}, Seg nx pv a l b → (∀ z ∈ a :: l, nx' z = nx z) → (∀ z ∈ l, pv' z = pv z) → pv' b = pv b → Seg nx' pv' a l b
  | [], a, ⟨h1, h2⟩, e1, _, e3 => ⟨(e1 a (.head _)).trans h1, e3.trans h2⟩
  | x :: l, a, ⟨⟨h1, h2⟩, r⟩, e1, e2, e3 => ⟨⟨(e1 a (.head _)).trans h1, (e2 x (.head _)).trans h2⟩, r.frame (fun z hz => e1 z (.tail _ hz)) (fun z hz => e2 z (.tail _ hz)) e3⟩
theorem Seg.last : ∀ {l : List Addr} {a : Addr}, Seg nx pv a l b → ∃ p, p ∈ a :: l ∧ pv b = some p ∧ nx p = some b
  | [], a, ⟨h1, h2⟩ => ⟨a, .head _, h2, h1⟩
  | x :: l, a, ⟨_, r⟩ => by
    obtain ⟨p, h1, h2⟩ := Seg.last r
    exact ⟨p, .tail _ h1, h2⟩
theorem Seg.first : ∀ {l : List Addr} {a : Addr}, Seg nx pv a l b → ∃ p, p ∈ b :: l ∧ nx a = some p ∧ pv p = some a
  | [], _, ⟨h1, h2⟩ => ⟨b, .head _, h1, h2⟩
  | x :: _, _, ⟨h, _⟩ => ⟨x, .tail _ (.head _), h⟩
theorem upO_ne' {f : Addr → Option Addr} {x v z : Addr} (h : z ≠ x) : upO f x v z = f z := if_neg h
theorem Seg.snoc : ∀ {l : List Addr} {a : Addr}, Seg nx pv a l b → pv b = some p → p ∈ a :: l → y ∉ a :: l → y ≠ b → b ∉ l → (a :: l).Nodup → Seg (upO (upO nx y b) p y) (upO (upO pv b y) y p) a (l ++ [y]) b
  | [], a, ⟨h1, h2⟩, hp, hm, hy, hyb, _, _ => by
    rw [h2] at hp; have e := Option.some.inj hp; subst e
    have hya : y ≠ a := fun e => hy (e ▸ .head _)
    refine ⟨⟨upO_self .., upO_self ..⟩, ?_, ?_⟩
    · rw [upO_ne' hya]; exact upO_self ..
    · rw [upO_ne' (Ne.symm hyb)]; exact upO_self ..
  | x :: l, a, ⟨⟨h1, h2⟩, r⟩, hp, hm, hy, hyb, hb, hn => by
    obtain ⟨q, hq, e1, e2⟩ := r.last
    rw [hp] at e1; cases e1
    have hpa : a ≠ p := fun e => (List.nodup_cons.mp hn).1 (e ▸ hq)
    have hya : a ≠ y := fun e => hy (e ▸ .head _)
    have hxy : x ≠ y := fun e => hy (e ▸ .tail _ (.head _))
    have hxb : x ≠ b := fun e => hb (e ▸ .head _)
    refine ⟨⟨?_, ?_⟩, r.snoc hp hq (fun h => hy (.tail _ h)) hyb (fun h => hb (.tail _ h)) (List.nodup_cons.mp hn).2⟩
    · rw [upO_ne' hpa, upO_ne' hya]; exact h1
    · rw [upO_ne' hxy, upO_ne' hxb]; exact h2
theorem Seg.push (h : Seg nx pv a l b) (hp : nx a = some p) (hy : y ∉ a :: l) (hyb : y ≠ b) (hb : b ∉ l) (hn : (a :: l).Nodup) (hab : a = b) : Seg (upO (upO nx a y) y p) (upO (upO pv y a) p y) a (y :: l) b := by
  have hya : a ≠ y := fun e => hy (e ▸ .head _)
  cases l with
  | nil =>
    obtain ⟨h1, h2⟩ := h
    rw [h1] at hp; have e := Option.some.inj hp; subst e
    refine ⟨⟨?_, ?_⟩, ?_, ?_⟩
    · rw [upO_ne' hya]; exact upO_self ..
    · rw [upO_ne' hyb]; exact upO_self ..
    · exact upO_self ..
    · exact upO_self ..
  | cons x l =>
    obtain ⟨⟨h1, h2⟩, r⟩ := h
    rw [h1] at hp; have e := Option.some.inj hp; subst e
    have hxy : y ≠ x := fun e => hy (e ▸ .tail _ (.head _))
    have hxb : b ≠ x := fun e => hb (e ▸ .head _)
    have hnx := (List.nodup_cons.mp hn).1
    have hnl := (List.nodup_cons.mp (List.nodup_cons.mp hn).2).1
    refine ⟨⟨?_, ?_⟩, ⟨?_, ?_⟩, r.frame (fun z hz => ?_) (fun z hz => ?_) ?_⟩
    · rw [upO_ne' hya]; exact upO_self ..
    · rw [upO_ne' hxy]; exact upO_self ..
    · exact upO_self ..
    · exact upO_self ..
    · have a1 : z ≠ y := fun e => hy (e ▸ .tail _ hz)
      have a2 : z ≠ a := fun e => hnx (e ▸ hz)
      rw [upO_ne' a1, upO_ne' a2]
    · have a1 : z ≠ x := fun e => hnl (e ▸ hz)
      have a2 : z ≠ y := fun e => hy (e ▸ .tail _ (.tail _ hz))
      rw [upO_ne' a1, upO_ne' a2]
    · rw [upO_ne' hxb, upO_ne' (Ne.symm hyb)]
theorem Seg.drop {n : Addr} (h : Seg nx pv a (x :: l) a) (hn : nx x = some n) (hd : (a :: x :: l).Nodup) : Seg (upO (upO nx a n) x x) (upO (upO pv n a) x x) a l a := by
  obtain ⟨⟨h1, h2⟩, r⟩ := h
  have hax : a ≠ x := fun e => (List.nodup_cons.mp hd).1 (e ▸ .head _)
  cases l with
  | nil =>
    obtain ⟨h3, h4⟩ := r
    rw [h3] at hn; have e := Option.some.inj hn; subst e
    refine ⟨?_, ?_⟩
    · rw [upO_ne' hax]; exact upO_self ..
    · rw [upO_ne' hax]; exact upO_self ..
  | cons z l =>
    obtain ⟨⟨h3, h4⟩, r⟩ := r
    rw [h3] at hn; have e := Option.some.inj hn; subst e
    have q1 := List.nodup_cons.mp hd
    have q2 := List.nodup_cons.mp q1.2
    have q3 := List.nodup_cons.mp q2.2
    have hzx : z ≠ x := fun e => q2.1 (e ▸ .head _)
    have haz : a ≠ z := fun e => q1.1 (e ▸ .tail _ (.head _))
    refine ⟨⟨?_, ?_⟩, r.frame (fun y hy => ?_) (fun y hy => ?_) ?_⟩
    · rw [upO_ne' hax]; exact upO_self ..
    · rw [upO_ne' hzx]; exact upO_self ..
    · have a1 : y ≠ x := fun e => q2.1 (e ▸ hy)
      have a2 : y ≠ a := fun e => q1.1 (e ▸ .tail _ hy)
      rw [upO_ne' a1, upO_ne' a2]
    · have a1 : y ≠ x := fun e => q2.1 (e ▸ .tail _ hy)
      have a2 : y ≠ z := fun e => q3.1 (e ▸ hy)
      rw [upO_ne' a1, upO_ne' a2]
    · rw [upO_ne' hax, upO_ne' haz]
end

/-- the node of work j -/
def ad (xs : List Addr) (j : Nat) : Addr := xs.getD j 0
theorem ad_get {xs : List Addr} {j : Nat} (h : j < xs.length) : xs[j]? = some (ad xs j) := by
  unfold ad; rw [List.getElem?_eq_getElem h, List.getD_eq_getElem?_getD, List.getElem?_eq_getElem h]; rfl
theorem ad_mem {xs : List Addr} {j : Nat} (h : j < xs.length) : ad xs j ∈ xs := List.mem_of_getElem? (ad_get h)
theorem ad_inj {xs : List Addr} {i j : Nat} (hn : xs.Nodup) (hi : i < xs.length) (hj : j < xs.length) (e : ad xs i = ad xs j) : i = j := by
  have h1 := ad_get hi
  have h2 := ad_get hj
  rw [e, ← h2] at h1
  exact (List.getElem?_inj hi hn).mp h1

/-- the list's links: the queue on the ring, the works done off it, the others never on it -/
structure Lk (xs : List Addr) (h0 : Addr) (nx pv : Addr → Option Addr) (qu dn : List Nat) : Prop where
  seg : Seg nx pv h0 (qu.map (ad xs)) h0
  nod : (qu ++ dn).Nodup
  lt : ∀ j ∈ qu ++ dn, j < xs.length
  un : ∀ j, j < xs.length → j ∉ qu → j ∉ dn → nx (ad xs j) = none ∧ pv (ad xs j) = none
  pd : ∀ j ∈ dn, nx (ad xs j) = some (ad xs j) ∧ pv (ad xs j) = some (ad xs j)
section
variable {xs : List Addr} {h0 : Addr} {nx pv : Addr → Option Addr} {qu dn : List Nat} {j : Nat}
theorem Lk.map_nodup {l : List Nat} (hd : (h0 :: xs).Nodup) (hl : l.Nodup) (ht : ∀ j ∈ l, j < xs.length) : (h0 :: l.map (ad xs)).Nodup := by
  have q := List.nodup_cons.mp hd
  refine List.nodup_cons.mpr ⟨fun hm => ?_, ?_⟩
  · obtain ⟨i, hi, e⟩ := List.mem_map.mp hm
    exact q.1 (e ▸ ad_mem (ht i hi))
  · rw [List.Nodup, List.pairwise_map]
    refine List.Pairwise.imp_of_mem (fun {a b} ha hb hab e => hab (ad_inj q.2 (ht a ha) (ht b hb) e)) hl
theorem Lk.not_mem {l : List Nat} (hd : (h0 :: xs).Nodup) (ht : ∀ j ∈ l, j < xs.length) (hj : j < xs.length) (hn : j ∉ l) : ad xs j ∉ h0 :: l.map (ad xs) := fun hm => by
  have q := List.nodup_cons.mp hd
  rcases List.mem_cons.mp hm with e | hm
  · exact q.1 (e ▸ ad_mem hj)
  · obtain ⟨i, hi, e⟩ := List.mem_map.mp hm
    exact hn (ad_inj q.2 (ht i hi) hj e ▸ hi)
theorem Lk.nil (K : Lk xs h0 nx pv [] dn) : nx h0 = some h0 ∧ pv h0 = some h0 := K.seg
theorem Lk.inQ (hd : (h0 :: xs).Nodup) {l : List Nat} {p : Addr} (ht : ∀ j ∈ l, j < xs.length) (hp : p ∈ h0 :: l.map (ad xs)) : p ∈ h0 :: xs := by
  rcases List.mem_cons.mp hp with rfl | hp
  · exact .head _
  · obtain ⟨i, hi, rfl⟩ := List.mem_map.mp hp
    exact .tail _ (ad_mem (ht i hi))
theorem Lk.append (hd : (h0 :: xs).Nodup) (K : Lk xs h0 nx pv qu dn) (hj : j < xs.length) (h1 : j ∉ qu) (h2 : j ∉ dn) :
    ∃ p, p ∈ h0 :: xs ∧ pv h0 = some p ∧ nx (ad xs j) = none ∧ pv (ad xs j) = none ∧ ad xs j ≠ h0 ∧
      Lk xs h0 (upO (upO nx (ad xs j) h0) p (ad xs j)) (upO (upO pv h0 (ad xs j)) (ad xs j) p) (qu ++ [j]) dn := by
  have hq : qu.Nodup := (List.nodup_append.mp K.nod).1
  have lq : ∀ i ∈ qu, i < xs.length := fun i hi => K.lt i (List.mem_append_left _ hi)
  have ld : ∀ i ∈ dn, i < xs.length := fun i hi => K.lt i (List.mem_append_right _ hi)
  have nm := Lk.map_nodup hd hq lq
  have nj := Lk.not_mem hd lq hj h1
  have q := List.nodup_cons.mp hd
  obtain ⟨p, p1, p2, p3⟩ := K.seg.last
  obtain ⟨u1, u2⟩ := K.un j hj h1 h2
  have hj0 : ad xs j ≠ h0 := fun e => q.1 (e ▸ ad_mem hj)
  have pin := Lk.inQ hd lq p1
  have off : ∀ i, i < xs.length → i ∉ qu → i ≠ j → upO (upO nx (ad xs j) h0) p (ad xs j) (ad xs i) = nx (ad xs i) ∧ upO (upO pv h0 (ad xs j)) (ad xs j) p (ad xs i) = pv (ad xs i) := fun i hi hiq hij => by
    have a1 : ad xs i ≠ ad xs j := fun e => hij (ad_inj q.2 hi hj e)
    have a2 : ad xs i ≠ h0 := fun e => q.1 (e ▸ ad_mem hi)
    have a3 : ad xs i ≠ p := fun e => Lk.not_mem hd lq hi hiq (e ▸ p1)
    rw [upO_ne' a3, upO_ne' a1, upO_ne' a1, upO_ne' a2]; exact ⟨rfl, rfl⟩
  refine ⟨p, pin, p2, u1, u2, hj0, ?_, ?_, ?_, ?_, ?_⟩
  · rw [List.map_append]
    exact K.seg.snoc p2 p1 nj hj0 (List.nodup_cons.mp nm).1 nm
  · have := K.nod
    simp only [List.nodup_append, List.mem_append, List.mem_singleton] at this ⊢
    grind
  · intro i hi
    simp only [List.mem_append, List.mem_singleton] at hi
    rcases hi with (hi | rfl) | hi
    · exact lq i hi
    · exact hj
    · exact ld i hi
  · intro i hi a1 a2
    simp only [List.mem_append, List.mem_singleton, not_or] at a1
    obtain ⟨o1, o2⟩ := off i hi a1.1 a1.2
    rw [o1, o2]; exact K.un i hi a1.1 a2
  · intro i hi
    have : i ∉ qu := fun h => (List.nodup_append.mp K.nod).2.2 i h i hi rfl
    obtain ⟨o1, o2⟩ := off i (ld i hi) this (fun e => h2 (e ▸ hi))
    rw [o1, o2]; exact K.pd i hi
theorem Lk.prepend (hd : (h0 :: xs).Nodup) (K : Lk xs h0 nx pv qu dn) (hj : j < xs.length) (h1 : j ∉ qu) (h2 : j ∉ dn) :
    ∃ p, p ∈ h0 :: xs ∧ nx h0 = some p ∧ nx (ad xs j) = none ∧ pv (ad xs j) = none ∧ ad xs j ≠ h0 ∧
      Lk xs h0 (upO (upO nx h0 (ad xs j)) (ad xs j) p) (upO (upO pv (ad xs j) h0) p (ad xs j)) (j :: qu) dn := by
  have hq : qu.Nodup := (List.nodup_append.mp K.nod).1
  have lq : ∀ i ∈ qu, i < xs.length := fun i hi => K.lt i (List.mem_append_left _ hi)
  have ld : ∀ i ∈ dn, i < xs.length := fun i hi => K.lt i (List.mem_append_right _ hi)
  have nm := Lk.map_nodup hd hq lq
  have nj := Lk.not_mem hd lq hj h1
  have q := List.nodup_cons.mp hd
  obtain ⟨p, p1, p2, p3⟩ := K.seg.first
  obtain ⟨u1, u2⟩ := K.un j hj h1 h2
  have hj0 : ad xs j ≠ h0 := fun e => q.1 (e ▸ ad_mem hj)
  have pin := Lk.inQ hd lq p1
  have off : ∀ i, i < xs.length → i ∉ qu → i ≠ j → upO (upO nx h0 (ad xs j)) (ad xs j) p (ad xs i) = nx (ad xs i) ∧ upO (upO pv (ad xs j) h0) p (ad xs j) (ad xs i) = pv (ad xs i) := fun i hi hiq hij => by
    have a1 : ad xs i ≠ ad xs j := fun e => hij (ad_inj q.2 hi hj e)
    have a2 : ad xs i ≠ h0 := fun e => q.1 (e ▸ ad_mem hi)
    have a3 : ad xs i ≠ p := fun e => Lk.not_mem hd lq hi hiq (e ▸ p1)
    rw [upO_ne' a1, upO_ne' a2, upO_ne' a3, upO_ne' a1]; exact ⟨rfl, rfl⟩
  refine ⟨p, pin, p2, u1, u2, hj0, ?_, ?_, ?_, ?_, ?_⟩
  · rw [List.map_cons]
    exact K.seg.push p2 nj hj0 (List.nodup_cons.mp nm).1 nm rfl
  · have := K.nod
    simp only [List.cons_append, List.nodup_cons, List.mem_append]
    exact ⟨fun h => h.elim h1 h2, this⟩
  · intro i hi
    simp only [List.cons_append, List.mem_cons, List.mem_append] at hi
    rcases hi with rfl | hi | hi
    · exact hj
    · exact lq i hi
    · exact ld i hi
  · intro i hi a1 a2
    simp only [List.mem_cons, not_or] at a1
    obtain ⟨o1, o2⟩ := off i hi a1.2 a1.1
    rw [o1, o2]; exact K.un i hi a1.2 a2
  · intro i hi
    have : i ∉ qu := fun h => (List.nodup_append.mp K.nod).2.2 i h i hi rfl
    obtain ⟨o1, o2⟩ := off i (ld i hi) this (fun e => h2 (e ▸ hi))
    rw [o1, o2]; exact K.pd i hi
theorem Lk.pop (hd : (h0 :: xs).Nodup) (K : Lk xs h0 nx pv (j :: qu) dn) :
    ∃ n, n ∈ h0 :: xs ∧ nx h0 = some (ad xs j) ∧ ad xs j ∈ h0 :: xs ∧ ad xs j ≠ h0 ∧ nx (ad xs j) = some n ∧ pv (ad xs j) = some h0 ∧ n ≠ ad xs j ∧
      Lk xs h0 (upO (upO nx h0 n) (ad xs j) (ad xs j)) (upO (upO pv n h0) (ad xs j) (ad xs j)) qu (dn ++ [j]) := by
  have hq := (List.nodup_append.mp K.nod).1
  have q := List.nodup_cons.mp hd
  have lq : ∀ i ∈ j :: qu, i < xs.length := fun i hi => K.lt i (List.mem_append_left _ hi)
  have ld : ∀ i ∈ dn, i < xs.length := fun i hi => K.lt i (List.mem_append_right _ hi)
  have hj := lq j (.head _)
  have nm := Lk.map_nodup hd hq lq
  have hj0 : ad xs j ≠ h0 := fun e => q.1 (e ▸ ad_mem hj)
  have seg := K.seg
  obtain ⟨⟨s1, s2⟩, r⟩ := seg
  obtain ⟨n, n1, n2, n3⟩ := r.first
  have lq' : ∀ i ∈ qu, i < xs.length := fun i hi => lq i (.tail _ hi)
  have nin := Lk.inQ hd lq' n1
  have hjq := (List.nodup_cons.mp hq).1
  have njm := Lk.not_mem hd lq' hj hjq
  have hnj : n ≠ ad xs j := fun e => njm (e ▸ n1)
  have off : ∀ i, i < xs.length → i ∉ qu → i ≠ j → upO (upO nx h0 n) (ad xs j) (ad xs j) (ad xs i) = nx (ad xs i) ∧ upO (upO pv n h0) (ad xs j) (ad xs j) (ad xs i) = pv (ad xs i) := fun i hi hiq hij => by
    have a1 : ad xs i ≠ ad xs j := fun e => hij (ad_inj q.2 hi hj e)
    have a2 : ad xs i ≠ h0 := fun e => q.1 (e ▸ ad_mem hi)
    have a3 : ad xs i ≠ n := fun e => Lk.not_mem hd lq' hi hiq (e ▸ n1)
    rw [upO_ne' a1, upO_ne' a2, upO_ne' a1, upO_ne' a3]; exact ⟨rfl, rfl⟩
  refine ⟨n, nin, s1, .tail _ (ad_mem hj), hj0, n2, s2, hnj, ?_, ?_, ?_, ?_, ?_⟩
  · exact K.seg.drop n2 nm
  · have := K.nod
    simp only [List.cons_append, List.nodup_cons, List.nodup_append, List.mem_append, List.mem_singleton] at this ⊢
    grind
  · intro i hi
    simp only [List.mem_append, List.mem_singleton] at hi
    rcases hi with hi | hi | rfl
    · exact lq' i hi
    · exact ld i hi
    · exact hj
  · intro i hi a1 a2
    simp only [List.mem_append, List.mem_singleton, not_or] at a2
    obtain ⟨o1, o2⟩ := off i hi a1 a2.2
    rw [o1, o2]; exact K.un i hi (fun h => (List.mem_cons.mp h).elim a2.2 a1) a2.1
  · intro i hi
    simp only [List.mem_append, List.mem_singleton] at hi
    rcases hi with hi | rfl
    · have hne : i ∉ j :: qu := fun h => (List.nodup_append.mp K.nod).2.2 i h i hi rfl
      obtain ⟨o1, o2⟩ := off i (ld i hi) (fun h => hne (.tail _ h)) (fun e => hne (e ▸ .head _))
      rw [o1, o2]; exact K.pd i hi
    · exact ⟨upO_self .., upO_self ..⟩
end
end Mine
namespace Mine
def upd {α : Type} (f : Nat → α) (x : Nat) (v : α) : Nat → α := fun z => if z = x then v else f z
theorem upd_self {α : Type} (f : Nat → α) (x : Nat) (v : α) : upd f x v x = v := if_pos rfl
theorem upd_ne {α : Type} {f : Nat → α} {x z : Nat} {v : α} (h : z ≠ x) : upd f x v z = f z := if_neg h

theorem len_le_of_lt : ∀ (n : Nat) (l : List Nat), l.Nodup → (∀ x ∈ l, x < n) → l.length ≤ n
  | 0, l, _, h => by
    cases l with
    | nil => exact Nat.le_refl _
    | cons a r => exact absurd (h a (.head _)) (Nat.not_lt_zero _)
  | n + 1, l, hn, h => by
    have ih := len_le_of_lt n (l.erase n) (hn.erase n) fun x hx => by
      have h1 := (List.Nodup.mem_erase_iff hn).mp hx
      have := h x h1.2
      omega
    rw [List.length_erase] at ih
    split at ih <;> omega

/-- pairs that lead to j from works not done -/
def open_ (es : List (Nat × Nat)) (dn : List Nat) (j : Nat) : Nat := es.countP fun e => decide (e.2 = j ∧ e.1 ∉ dn)
/-- pairs that lead to j from w -/
def from_ (es : List (Nat × Nat)) (w j : Nat) : Nat := es.countP fun e => decide (e.2 = j ∧ e.1 = w)

def Fifo (es : List (Nat × Nat)) (T : List Nat) : Prop :=
  ∀ (i j x y : Nat), i < j → T[i]? = some x → T[j]? = some y → ∀ e ∈ es, e.2 = x → ∃ e' ∈ es, e'.2 = y ∧ ∃ p q : Nat, p ≤ q ∧ T[p]? = some e.1 ∧ T[q]? = some e'.1
def Ord (es : List (Nat × Nat)) (dn : List Nat) : Prop := ∀ (i x : Nat), dn[i]? = some x → ∀ e ∈ es, e.2 = x → ∃ p : Nat, p < i ∧ dn[p]? = some e.1

structure Kahn (fl : Bool) (n : Nat) (es : List (Nat × Nat)) (W : Nat → Int) (qu dn : List Nat) : Prop where
  nod : (qu ++ dn).Nodup
  lt : ∀ j ∈ qu ++ dn, j < n
  cnt : ∀ j, j < n → W j = (open_ es dn j : Int)
  q0 : ∀ j, j < n → ((j ∈ qu ∨ j ∈ dn) ↔ W j = 0)
  ord : Ord es dn
  ff : fl = false → Fifo es (dn ++ qu)
structure Mid (fl : Bool) (n : Nat) (es : List (Nat × Nat)) (i w : Nat) (W : Nat → Int) (qu dn : List Nat) (ah : Option Nat) : Prop where
  nod : (qu ++ (dn ++ [w])).Nodup
  lt : ∀ j ∈ qu ++ (dn ++ [w]), j < n
  cnt : ∀ j, j < n → W j = (open_ es (dn ++ [w]) j : Int) + (from_ (es.drop i) w j : Int)
  q0 : ∀ j, j < n → ((j ∈ qu ∨ j ∈ dn ++ [w]) ↔ W j = 0)
  ord : Ord es (dn ++ [w])
  ff : fl = false → Fifo es ((dn ++ [w]) ++ qu)
  hah : ∀ a, ah = some a → qu.head? = some a

theorem open_zero {es : List (Nat × Nat)} {dn : List Nat} {j : Nat} (h : open_ es dn j = 0) : ∀ e ∈ es, e.2 = j → e.1 ∈ dn := fun e he h2 => by
  unfold open_ at h
  rw [List.countP_eq_zero] at h
  have := h e he
  simp only [decide_eq_true_eq, not_and, Decidable.not_not] at this
  exact this h2
theorem open_snoc {es : List (Nat × Nat)} {dn : List Nat} {w j : Nat} (hw : w ∉ dn) : open_ es dn j = open_ es (dn ++ [w]) j + from_ es w j := by
  unfold open_ from_
  induction es with
  | nil => rfl
  | cons e es ih =>
    simp only [List.countP_cons]
    rw [ih]
    by_cases h1 : e.2 = j
    · by_cases h2 : e.1 = w
      · have a : e.1 ∉ dn := h2 ▸ hw
        simp only [h1, h2, hw, List.mem_append, List.mem_singleton, true_and, not_false_eq_true, decide_true, if_true, or_true, not_true_eq_false, decide_false, Bool.false_eq_true, if_false]
        omega
      · by_cases h3 : e.1 ∈ dn
        · simp [h1, h2, h3]
        · simp [h1, h2, h3]; omega
    · simp [h1]
theorem get_mem {l : List Nat} {x : Nat} (h : x ∈ l) : ∃ p, p < l.length ∧ l[p]? = some x := by
  obtain ⟨p, hp, e⟩ := List.mem_iff_getElem.mp h
  exact ⟨p, hp, by rw [List.getElem?_eq_getElem hp, e]⟩

theorem Kahn.pop {fl : Bool} {n w : Nat} {es : List (Nat × Nat)} {W : Nat → Int} {qu dn : List Nat} (K : Kahn fl n es W (w :: qu) dn) : Mid fl n es 0 w W qu dn none := by
  have hnd := K.nod
  have hw : w ∉ dn := fun h => (List.nodup_append.mp hnd).2.2 w (.head _) w h rfl
  have hwn : w < n := K.lt w (.head _)
  have hperm : ∀ j, (j ∈ w :: qu ∨ j ∈ dn) ↔ (j ∈ qu ∨ j ∈ dn ++ [w]) := fun j => by
    simp only [List.mem_cons, List.mem_append, List.mem_singleton, List.not_mem_nil, or_false]; grind
  refine ⟨?_, ?_, ?_, ?_, ?_, ?_, nofun⟩
  · simp only [List.cons_append, List.nodup_cons, List.nodup_append, List.mem_append, List.mem_singleton] at hnd ⊢
    grind
  · intro j hj
    refine K.lt j ?_
    have := (hperm j).mpr (List.mem_append.mp hj)
    exact List.mem_append.mpr this
  · intro j hj
    rw [K.cnt j hj, open_snoc hw, List.drop_zero]
    omega
  · intro j hj
    rw [← hperm]; exact K.q0 j hj
  · intro i x hi e he hex
    by_cases hlt : i < dn.length
    · rw [List.getElem?_append_left hlt] at hi
      obtain ⟨p, hp, e1⟩ := K.ord i x hi e he hex
      exact ⟨p, hp, by rw [List.getElem?_append_left (by omega)]; exact e1⟩
    · have hi2 : i = dn.length := by
        have := (List.getElem?_eq_some_iff.mp hi).1
        rw [List.length_append, List.length_singleton] at this
        omega
      subst hi2
      rw [List.getElem?_append_right (Nat.le_refl _), Nat.sub_self] at hi
      simp only [List.getElem?_cons_zero, Option.some.injEq] at hi
      subst hi
      have h0 := (K.q0 w hwn).mp (.inl (.head _))
      rw [K.cnt w hwn] at h0
      have hm := open_zero (dn := dn) (by omega) e he hex
      obtain ⟨p, hp, e1⟩ := get_mem hm
      exact ⟨p, hp, by rw [List.getElem?_append_left hp]; exact e1⟩
  · intro h
    have := K.ff h
    rw [List.append_assoc]
    exact this
theorem Mid.done {fl : Bool} {n w i : Nat} {es : List (Nat × Nat)} {W : Nat → Int} {qu dn : List Nat} {ah : Option Nat} (M : Mid fl n es i w W qu dn ah) (hi : i = es.length) : Kahn fl n es W qu (dn ++ [w]) where
  nod := M.nod
  lt := M.lt
  cnt j hj := by
    rw [M.cnt j hj, List.drop_of_length_le (Nat.le_of_eq hi.symm)]
    show _ + (((0 : Nat)) : Int) = _
    omega
  q0 := M.q0
  ord := M.ord
  ff := M.ff
theorem from_drop {es : List (Nat × Nat)} {i w j : Nat} {e : Nat × Nat} (h : es[i]? = some e) : from_ (es.drop i) w j = from_ (es.drop (i + 1)) w j + if e.2 = j ∧ e.1 = w then 1 else 0 := by
  obtain ⟨hi, he⟩ := List.getElem?_eq_some_iff.mp h
  rw [List.drop_eq_getElem_cons hi, he]
  unfold from_
  rw [List.countP_cons]
  by_cases hc : e.2 = j ∧ e.1 = w <;> simp [hc]
section
variable {fl : Bool} {n w i : Nat} {es : List (Nat × Nat)} {W : Nat → Int} {qu dn : List Nat} {ah : Option Nat} {e : Nat × Nat}
theorem Mid.skip (M : Mid fl n es i w W qu dn ah) (he : es[i]? = some e) (h : e.1 ≠ w) : Mid fl n es (i + 1) w W qu dn ah where
  nod := M.nod
  lt := M.lt
  cnt j hj := by rw [M.cnt j hj, from_drop he, if_neg fun c => h c.2]; omega
  q0 := M.q0
  ord := M.ord
  ff := M.ff
  hah := M.hah
theorem Mid.pos (M : Mid fl n es i w W qu dn ah) (he : es[i]? = some e) (h : e.1 = w) (hn : e.2 < n) : 1 ≤ W e.2 ∧ e.2 ∉ qu ∧ e.2 ∉ dn ++ [w] := by
  have h1 : 1 ≤ W e.2 := by
    rw [M.cnt e.2 hn, from_drop he, if_pos ⟨rfl, h⟩]
    omega
  have h2 := M.q0 e.2 hn
  refine ⟨h1, fun hq => ?_, fun hq => ?_⟩
  · have := h2.mp (.inl hq); omega
  · have := h2.mp (.inr hq); omega
theorem Mid.cnt' (M : Mid fl n es i w W qu dn ah) (he : es[i]? = some e) (h : e.1 = w) (hn : e.2 < n) : ∀ j, j < n → upd W e.2 (W e.2 - 1) j = (open_ es (dn ++ [w]) j : Int) + (from_ (es.drop (i + 1)) w j : Int) := fun j hj => by
  by_cases hje : j = e.2
  · subst hje
    rw [upd_self, M.cnt _ hn, from_drop he, if_pos ⟨rfl, h⟩]
    omega
  · rw [upd_ne hje, M.cnt j hj, from_drop he, if_neg fun c => hje c.1.symm]
    omega
theorem Mid.dec (M : Mid fl n es i w W qu dn ah) (he : es[i]? = some e) (h : e.1 = w) (hn : e.2 < n) (hz : W e.2 - 1 ≠ 0) : Mid fl n es (i + 1) w (upd W e.2 (W e.2 - 1)) qu dn ah where
  nod := M.nod
  lt := M.lt
  cnt := M.cnt' he h hn
  q0 j hj := by
    obtain ⟨p1, p2, p3⟩ := M.pos he h hn
    by_cases hje : j = e.2
    · subst hje
      rw [upd_self]
      exact ⟨fun hq => (hq.elim p2 p3).elim, fun hq => absurd hq hz⟩
    · rw [upd_ne hje]; exact M.q0 j hj
  ord := M.ord
  ff := M.ff
  hah := M.hah
theorem Mid.q0' (M : Mid fl n es i w W qu dn ah) {qu' : List Nat} (hq : ∀ j, j ∈ qu' ↔ (j ∈ qu ∨ j = e.2)) (hz : W e.2 - 1 = 0) :
    ∀ j, j < n → ((j ∈ qu' ∨ j ∈ dn ++ [w]) ↔ upd W e.2 (W e.2 - 1) j = 0) := fun j hj => by
  by_cases hje : j = e.2
  · subst hje
    rw [upd_self]
    exact ⟨fun _ => hz, fun _ => .inl ((hq _).mpr (.inr rfl))⟩
  · rw [upd_ne hje, ← M.q0 j hj, hq j]
    simp [hje]
theorem Mid.app (M : Mid fl n es i w W qu dn ah) (he : es[i]? = some e) (h : e.1 = w) (hn : e.2 < n) (hz : W e.2 - 1 = 0) : Mid fl n es (i + 1) w (upd W e.2 (W e.2 - 1)) (qu ++ [e.2]) dn ah := by
  obtain ⟨p1, p2, p3⟩ := M.pos he h hn
  have hnd := M.nod
  refine ⟨?_, ?_, M.cnt' he h hn, M.q0' (fun j => by simp) hz, M.ord, fun hf => ?_, fun a ha => ?_⟩
  · simp only [List.nodup_append, List.mem_append, List.mem_singleton] at hnd p3 ⊢
    grind
  · intro j hj
    by_cases hje : j = e.2
    · exact hje ▸ hn
    · refine M.lt j ?_
      simp only [List.mem_append, List.mem_singleton] at hj ⊢
      grind
  · have hF := M.ff hf
    rw [← List.append_assoc]
    generalize hT : (dn ++ [w]) ++ qu = T at hF ⊢
    have up : ∀ p x, T[p]? = some x → (T ++ [e.2])[p]? = some x := fun p x hp => by
      rw [List.getElem?_append_left (List.getElem?_eq_some_iff.mp hp).1]; exact hp
    have eh : e ∈ es := List.mem_of_getElem? he
    intro a b x y hab ha hb f hf2 hfx
    have hblt := (List.getElem?_eq_some_iff.mp hb).1
    rw [List.length_append, List.length_singleton] at hblt
    have ha' : T[a]? = some x := by rw [List.getElem?_append_left (by omega)] at ha; exact ha
    by_cases hbT : b < T.length
    · rw [List.getElem?_append_left hbT] at hb
      obtain ⟨e', h1, h2, p, q, h3, h4, h5⟩ := hF a b x y hab ha' hb f hf2 hfx
      exact ⟨e', h1, h2, p, q, h3, up _ _ h4, up _ _ h5⟩
    · have hb2 : b = T.length := by omega
      subst hb2
      rw [List.getElem?_append_right (Nat.le_refl _), Nat.sub_self] at hb
      simp only [List.getElem?_cons_zero, Option.some.injEq] at hb
      have hxT : x ∈ T := List.mem_of_getElem? ha'
      have hx2 : x ∈ qu ∨ x ∈ dn ++ [w] := by
        rw [← hT] at hxT
        exact (List.mem_append.mp hxT).symm
      have hxn : x < n := M.lt x (List.mem_append.mpr hx2)
      have h0 := (M.q0 x hxn).mp hx2
      rw [M.cnt x hxn] at h0
      have hm := open_zero (dn := dn ++ [w]) (by omega) f hf2 hfx
      obtain ⟨p, hp, e1⟩ := get_mem hm
      rw [List.length_append, List.length_singleton] at hp
      have ew : (dn ++ [w])[dn.length]? = some w := by simp
      refine ⟨e, eh, hb, p, dn.length, by omega, up _ _ ?_, up _ _ ?_⟩
      · rw [← hT, List.getElem?_append_left (by rw [List.length_append, List.length_singleton]; omega)]; exact e1
      · rw [← hT, List.getElem?_append_left (by rw [List.length_append, List.length_singleton]; omega), ew, h]
  · have := M.hah a ha
    cases qu with
    | nil => cases this
    | cons b r => exact this
theorem Mid.pre (M : Mid fl n es i w W qu dn ah) (hfl : fl = true) (he : es[i]? = some e) (h : e.1 = w) (hn : e.2 < n) (hz : W e.2 - 1 = 0) : Mid fl n es (i + 1) w (upd W e.2 (W e.2 - 1)) (e.2 :: qu) dn (some e.2) := by
  obtain ⟨p1, p2, p3⟩ := M.pos he h hn
  have hnd := M.nod
  refine ⟨?_, ?_, M.cnt' he h hn, M.q0' (fun j => by simp [or_comm]) hz, M.ord, fun hf => ?_, fun a ha => ?_⟩
  · simp only [List.cons_append, List.nodup_cons, List.nodup_append, List.mem_append, List.mem_singleton] at hnd p3 ⊢
    grind
  · intro j hj
    by_cases hje : j = e.2
    · exact hje ▸ hn
    · refine M.lt j ?_
      simp only [List.cons_append, List.mem_cons, List.mem_append, List.mem_singleton] at hj ⊢
      grind
  · rw [hfl] at hf; cases hf
  · cases ha; rfl
end
/-- the first queue -/
theorem Kahn.init {fl : Bool} {n : Nat} {es : List (Nat × Nat)} {W : Nat → Int} (hW : ∀ j, j < n → W j = (open_ es [] j : Int)) : Kahn fl n es W ((List.range n).filter fun j => W j == 0) [] := by
  refine ⟨?_, ?_, hW, ?_, ?_, ?_⟩
  · rw [List.append_nil]
    exact List.Pairwise.filter _ List.nodup_range
  · intro j hj
    rw [List.append_nil] at hj
    exact List.mem_range.mp (List.mem_filter.mp hj).1
  · intro j hj
    simp [hj]
  · intro i x hi
    cases hi
  · intro _ i j x y _ hi _ e he hex
    have hx := List.mem_of_getElem? hi
    rw [List.nil_append] at hx
    have hx2 := List.mem_filter.mp hx
    have h0 := eq_of_beq hx2.2
    rw [hW x (List.mem_range.mp hx2.1)] at h0
    have := open_zero (dn := []) (by omega) e he hex
    cases this
end Mine
namespace Mine
/-- one pair's turn in a round of longest ways -/
def relax (n : Int) (lon : Nat → Int) (e : Nat × Nat) : Nat → Int := if lon e.2 ≤ lon e.1 then upd lon e.2 (min (lon e.1 + 1) n) else lon

/-- r rounds are over, and i pairs of the next -/
structure Far (n : Nat) (es : List (Nat × Nat)) (dn : List Nat) (r i : Nat) (lon : Nat → Int) : Prop where
  A : ∀ (p x : Nat), dn[p]? = some x → lon x ≤ p
  B : ∀ j, j < n → j ∉ dn → (r : Int) ≤ lon j
  B' : ∀ (k : Nat) e, k < i → es[k]? = some e → e.1 ∉ dn → e.2 ∉ dn → (r : Int) + 1 ≤ lon e.2
  C : ∀ (p x : Nat), p ≤ r → dn[p]? = some x → ∀ e ∈ es, e.2 = x → lon e.1 + 1 ≤ lon x
  C' : ∀ (k x : Nat) e, k < i → es[k]? = some e → dn[r + 1]? = some x → e.2 = x → lon e.1 + 1 ≤ lon x
  D : ∀ j, j < n → 0 ≤ lon j ∧ lon j ≤ n
  E : ∀ j ∈ dn, lon j = 0 ∨ ∃ e ∈ es, e.2 = j ∧ lon j ≤ lon e.1 + 1
/-- the works done: what the queue has shown of them -/
structure Dn (n : Nat) (es : List (Nat × Nat)) (dn : List Nat) : Prop where
  nod : dn.Nodup
  lt : ∀ j ∈ dn, j < n
  ord : Ord es dn
  rest : ∀ j, j < n → j ∉ dn → ∃ e ∈ es, e.2 = j ∧ e.1 ∉ dn
  es1 : ∀ e ∈ es, e.1 < n ∧ e.2 < n
section
variable {n r i : Nat} {es : List (Nat × Nat)} {dn : List Nat} {lon : Nat → Int} {e : Nat × Nat}
theorem Dn.pos_inj (K : Dn n es dn) {p q x : Nat} (h1 : dn[p]? = some x) (h2 : dn[q]? = some x) : p = q :=
  (List.getElem?_inj (List.getElem?_eq_some_iff.mp h1).1 K.nod).mp (h1.trans h2.symm)
theorem Far.zero (K : Dn n es dn) : Far n es dn 0 0 fun _ => 0 where
  A p x _ := by omega
  B j _ _ := by omega
  B' k e h := by omega
  C p x hp hx e he hex := by
    obtain ⟨q, hq, _⟩ := K.ord p x hx e he hex
    omega
  C' k x e h := by omega
  D j _ := by omega
  E j _ := .inl rfl
theorem Far.turn (K : Dn n es dn) (H : Far n es dn r i lon) (hr : r < n) (he : es[i]? = some e) : Far n es dn r (i + 1) (relax n lon e) := by
  have hem : e ∈ es := List.mem_of_getElem? he
  obtain ⟨b1, b2⟩ := K.es1 e hem
  have d1 := H.D e.1 b1
  have d2 := H.D e.2 b2
  unfold relax
  by_cases hc : lon e.2 ≤ lon e.1
  · rw [if_pos hc]
    have up : ∀ j, lon j ≤ upd lon e.2 (min (lon e.1 + 1) n) j := fun j => by
      by_cases h : j = e.2
      · subst h; rw [upd_self]; omega
      · rw [upd_ne h]; exact Int.le_refl _
    have same : ∀ (p x : Nat), p ≤ r → dn[p]? = some x → upd lon e.2 (min (lon e.1 + 1) n) x = lon x := fun p x hp hx => by
      by_cases h : x = e.2
      · subst h
        have := H.C p _ hp hx e hem rfl
        omega
      · exact upd_ne h
    refine ⟨fun p x hx => ?_, fun j hj hd => ?_, fun k f hk hf h1 h2 => ?_, fun p x hp hx f hf hfx => ?_, fun k x f hk hf hx hfx => ?_, fun j hj => ?_, fun j hj => ?_⟩
    · by_cases h : x = e.2
      · subst h
        rw [upd_self]
        obtain ⟨q, hq, e1⟩ := K.ord p _ hx e hem rfl
        have := H.A q _ e1
        omega
      · rw [upd_ne h]; exact H.A p x hx
    · exact Int.le_trans (H.B j hj hd) (up j)
    · by_cases hk2 : k < i
      · exact Int.le_trans (H.B' k f hk2 hf h1 h2) (up _)
      · have : k = i := by omega
        subst this
        rw [he] at hf; cases hf
        rw [upd_self]
        have := H.B e.1 b1 h1
        omega
    · rw [same p x hp hx]
      obtain ⟨q, hq, e1⟩ := K.ord p _ hx f hf hfx
      rw [same q _ (by omega) e1]
      exact H.C p x hp hx f hf hfx
    · obtain ⟨q, hq, e1⟩ := K.ord _ _ hx f (List.mem_of_getElem? hf) hfx
      rw [same q _ (by omega) e1]
      by_cases hk2 : k < i
      · exact Int.le_trans (H.C' k x f hk2 hf hx hfx) (up _)
      · have : k = i := by omega
        subst this
        rw [he] at hf; cases hf
        subst hfx
        rw [upd_self]
        have := H.A q _ e1
        omega
    · by_cases h : j = e.2
      · subst h; rw [upd_self]; omega
      · rw [upd_ne h]; exact H.D j hj
    · by_cases h : j = e.2
      · subst h
        rw [upd_self]
        have := up e.1
        exact .inr ⟨e, hem, rfl, by omega⟩
      · rw [upd_ne h]
        rcases H.E j hj with h0 | ⟨f, hf, hfj, hl⟩
        · exact .inl h0
        · have := up f.1
          exact .inr ⟨f, hf, hfj, by omega⟩
  · rw [if_neg hc]
    refine ⟨H.A, H.B, fun k f hk hf h1 h2 => ?_, H.C, fun k x f hk hf hx hfx => ?_, H.D, H.E⟩
    · by_cases hk2 : k < i
      · exact H.B' k f hk2 hf h1 h2
      · have : k = i := by omega
        subst this
        rw [he] at hf; cases hf
        have := H.B e.1 b1 h1
        omega
    · by_cases hk2 : k < i
      · exact H.C' k x f hk2 hf hx hfx
      · have : k = i := by omega
        subst this
        rw [he] at hf; cases hf
        subst hfx
        omega
theorem Far.round (K : Dn n es dn) (H : Far n es dn r i lon) (hi : i = es.length) : Far n es dn (r + 1) 0 lon := by
  refine ⟨H.A, fun j hj hd => ?_, fun k e hk => by omega, fun p x hp hx e he hex => ?_, fun k x e hk => by omega, H.D, H.E⟩
  · obtain ⟨e, he, h1, h2⟩ := K.rest j hj hd
    subst h1
    obtain ⟨k, hk, e1⟩ := List.mem_iff_getElem.mp he
    have := H.B' k e (by omega) (by rw [List.getElem?_eq_getElem hk, e1]) h2 hd
    omega
  · by_cases h : p ≤ r
    · exact H.C p x h hx e he hex
    · have : p = r + 1 := by omega
      subst this
      obtain ⟨k, hk, e1⟩ := List.mem_iff_getElem.mp he
      exact H.C' k x e (by omega) (by rw [List.getElem?_eq_getElem hk, e1]) hx hex
/-- after n rounds -/
theorem Far.mem_iff (K : Dn n es dn) (H : Far n es dn n i lon) : ∀ j, j < n → (lon j < n ↔ j ∈ dn) := fun j hj => by
  constructor
  · intro hl
    refine Classical.byContradiction fun hd => ?_
    have := H.B j hj hd
    omega
  · intro hd
    obtain ⟨p, hp, e⟩ := get_mem hd
    have h1 := H.A p j e
    have h2 := len_le_of_lt n dn K.nod K.lt
    omega
theorem Far.sorted (K : Dn n es dn) (H : Far n es dn n i lon) (hf : Fifo es dn) : ∀ (b a x y : Nat), a < b → dn[a]? = some x → dn[b]? = some y → lon x ≤ lon y := by
  intro b
  induction b using Nat.strongRecOn with
  | ind b ih =>
    intro a x y hab ha hb
    have hlen := len_le_of_lt n dn K.nod K.lt
    have hbl := (List.getElem?_eq_some_iff.mp hb).1
    have hxm : x ∈ dn := List.mem_of_getElem? ha
    have hym : y ∈ dn := List.mem_of_getElem? hb
    have hy0 := (H.D y (K.lt y hym)).1
    rcases H.E x hxm with h0 | ⟨e, he, hex, hl⟩
    · omega
    · obtain ⟨e', he', hey, p, q, hpq, e1, e2⟩ := hf a b x y hab ha hb e he hex
      have h1 := H.C b y (by omega) hb e' he' hey
      have h2 : lon e.1 ≤ lon e'.1 := by
        by_cases hpq2 : p = q
        · subst hpq2
          rw [e1] at e2
          have := Option.some.inj e2
          rw [this]; exact Int.le_refl _
        · obtain ⟨q', hq', e3⟩ := K.ord b y hb e' he' hey
          have : q' = q := K.pos_inj e3 e2
          subst this
          exact ih q' hq' p _ _ (by omega) e1 e2
      omega
end
/-- what the queue has shown once it is empty -/
theorem Kahn.dn {fl : Bool} {n : Nat} {es : List (Nat × Nat)} {W : Nat → Int} {dn : List Nat} (K : Kahn fl n es W [] dn) (hes : ∀ e ∈ es, e.1 < n ∧ e.2 < n) : Dn n es dn where
  nod := K.nod
  lt := K.lt
  ord := K.ord
  rest j hj hd := by
    have h0 : ¬ W j = 0 := fun h => ((K.q0 j hj).mpr h).elim (fun h => nomatch h) hd
    rw [K.cnt j hj] at h0
    have h1 : 0 < open_ es dn j := by omega
    unfold open_ at h1
    obtain ⟨e, he, h2⟩ := List.countP_pos_iff.mp h1
    simp only [decide_eq_true_eq] at h2
    exact ⟨e, he, h2⟩
  es1 := hes
end Mine
namespace Mine
theorem fillL10 : PySem.Challenge.rw_fc0145_02.Holds → (∀ w : World, (hd.heap_39 w.params).In default) → True := by
  k_fill
  intros
  trivial
section
variable {w : World} {base h : Heap} {L : Addr} {mg mb : Str → Option Value} {mean : ExcName → Option Value} {s : Shared} {Q E : Value → Shared → Prop} {m : Str → Option Value}
  {mk dmk hh n p x : Addr} {ids : List Addr} {da Ca : Addr → Addr} {at_ : Addr → Str → Option Value} {nx pv nx' pv' : Addr → Option Addr} {fx tl tl' own : List (Addr × Obj)} {env : Env}

theorem lawpre (N : News base L h (fx ++ tl ++ own)) (hk : ∀ p ∈ fx, isND p.2 = false) (ho : OwnOff own (tl.map (·.1))) (S : NS tl mk dmk ids da Ca at_ nx pv) : News base L h ((fx ++ own) ++ tl) ∧ Off (fx ++ own) da ids := by
  refine ⟨news_sub N fun p hp => by simp only [List.mem_append] at hp ⊢; grind, fun p hp x hx => ?_⟩
  rcases List.mem_append.mp hp with hp | hp
  · exact Off.of_news (pre := fx) (news_sub N fun p hp => List.mem_append_left _ hp) S hk p hp x hx
  · obtain ⟨es, k, a, _⟩ := S.dict x hx
    exact ho p hp _ (List.mem_map.mpr ⟨_, a, rfl⟩)
theorem lawpost (N : News base L h ((fx ++ own) ++ tl')) (S' : NS tl' mk dmk ids da Ca at_ nx' pv') (ho : OwnOff own (tl.map (·.1))) (S : NS tl mk dmk ids da Ca at_ nx pv) :
    ∃ tl2, News base L h (fx ++ tl2 ++ own) ∧ OwnOff own (tl2.map (·.1)) ∧ NS tl2 mk dmk ids da Ca at_ nx' pv' := by
  let f : Addr → Bool := fun a => own.all fun q => q.1 != a
  have ft : ∀ {q : Addr × Obj}, q ∈ tl → f q.1 = true := fun {q} hq => List.all_eq_true.mpr fun r hr => by
    have := ho r hr q.1 (List.mem_map.mpr ⟨_, hq, rfl⟩)
    simpa using this
  refine ⟨tl'.filter fun q => f q.1, news_sub N fun q hq => ?_, fun q hq b hb => ?_, S'.filt f (ft S.mkI) (ft S.mkD) (fun x hx => ft (S.inst x hx)) fun x hx => ?_⟩
  · simp only [List.mem_append, List.mem_filter] at hq ⊢; grind
  · obtain ⟨r, hr, rfl⟩ := List.mem_map.mp hb
    have := List.all_eq_true.mp (List.mem_filter.mp hr).2 q hq
    simpa using this
  · obtain ⟨es, k, a, _⟩ := S.dict x hx
    exact ft a

theorem append_law (F : Fr base L s.heap m) (N : News base L s.heap (fx ++ tl ++ own)) (hk : ∀ p ∈ fx, isND p.2 = false) (ho : OwnOff own (tl.map (·.1))) (S : NS tl mk dmk ids da Ca at_ nx pv)
    (H : Hd mk ids Ca at_ hh) (hni : n ∈ ids) (hpi : p ∈ ids) (hnx : n ≠ hh) (hp : pv hh = some p) (h1 : nx n = none) (h2 : pv n = none)
    (B : Below callerA base [] base) (X : (KK w).In base) (T : Top VW LO mean mg mb base) (hf : env.frame = some L) (hke : env.scope.kind = .function)
    (h : ∀ h' tk tl', Fr base L h' m → News base L h' (fx ++ tl' ++ own) → OwnOff own (tl'.map (·.1)) → NS tl' mk dmk ids da Ca at_ (upO (upO nx n hh) p n) (upO (upO pv hh n) n p) → Q .none { s with heap := h', toks := tk }) :
    wpAny (model PR w) (callerA.deeper env) (call (.ref 70) [.ref hh, .ref n] []) Q E s := by
  obtain ⟨N1, P⟩ := lawpre N hk ho S
  refine append0 (outer := []) (Cx.law F N1 B X T) P S ?_ hf hke H hni hpi hnx hp h1 h2 fun h₀' h' tk tl' C' S' => ?_
  · decide
  · obtain ⟨tl2, N2, o2, S2⟩ := lawpost (unturnN C'.T0 C'.N) S' ho S
    exact h _ _ _ (unturn C'.T0 C'.F) N2 o2 S2
theorem prepend_law (F : Fr base L s.heap m) (N : News base L s.heap (fx ++ tl ++ own)) (hk : ∀ p ∈ fx, isND p.2 = false) (ho : OwnOff own (tl.map (·.1))) (S : NS tl mk dmk ids da Ca at_ nx pv)
    (H : Hd mk ids Ca at_ hh) (hni : n ∈ ids) (hpi : p ∈ ids) (hnx : n ≠ hh) (hp : nx hh = some p) (h1 : nx n = none) (h2 : pv n = none)
    (B : Below callerA base [] base) (X : (KK w).In base) (T : Top VW LO mean mg mb base) (hf : env.frame = some L) (hke : env.scope.kind = .function)
    (h : ∀ h' tk tl', Fr base L h' m → News base L h' (fx ++ tl' ++ own) → OwnOff own (tl'.map (·.1)) → NS tl' mk dmk ids da Ca at_ (upO (upO nx hh n) n p) (upO (upO pv n hh) p n) → Q .none { s with heap := h', toks := tk }) :
    wpAny (model PR w) (callerA.deeper env) (call (.ref 77) [.ref hh, .ref n] []) Q E s := by
  obtain ⟨N1, P⟩ := lawpre N hk ho S
  refine prepend0 (outer := []) (Cx.law F N1 B X T) P S ?_ hf hke H hni hpi hnx hp h1 h2 fun h₀' h' tk tl' C' S' => ?_
  · decide
  · obtain ⟨tl2, N2, o2, S2⟩ := lawpost (unturnN C'.T0 C'.N) S' ho S
    exact h _ _ _ (unturn C'.T0 C'.F) N2 o2 S2
theorem popN_law (F : Fr base L s.heap m) (N : News base L s.heap (fx ++ tl ++ own)) (hk : ∀ p ∈ fx, isND p.2 = false) (ho : OwnOff own (tl.map (·.1))) (S : NS tl mk dmk ids da Ca at_ nx pv)
    (H : Hd mk ids Ca at_ hh) (hn : nx hh = some hh)
    (B : Below callerA base [] base) (X : (KK w).In base) (T : Top VW LO mean mg mb base) (hf : env.frame = some L) (hke : env.scope.kind = .function)
    (h : ∀ h' tk tl', Fr base L h' m → News base L h' (fx ++ tl' ++ own) → OwnOff own (tl'.map (·.1)) → NS tl' mk dmk ids da Ca at_ nx pv → Q .none { s with heap := h', toks := tk }) :
    wpAny (model PR w) (callerA.deeper env) (call (.ref 98) [.ref hh] []) Q E s := by
  obtain ⟨N1, P⟩ := lawpre N hk ho S
  refine pop_none (outer := []) (Cx.law F N1 B X T) P S ?_ hf hke H hn fun h₀' h' tk tl' C' S' => ?_
  · decide
  · obtain ⟨tl2, N2, o2, S2⟩ := lawpost (unturnN C'.T0 C'.N) S' ho S
    exact h _ _ _ (unturn C'.T0 C'.F) N2 o2 S2
theorem popS_law (F : Fr base L s.heap m) (N : News base L s.heap (fx ++ tl ++ own)) (hk : ∀ p ∈ fx, isND p.2 = false) (ho : OwnOff own (tl.map (·.1))) (S : NS tl mk dmk ids da Ca at_ nx pv)
    (H : Hd mk ids Ca at_ hh) (hx : x ∈ ids) (hxh : x ≠ hh) (hnh : nx hh = some x) (hni : n ∈ ids) (hnx : n ≠ x) (hn : nx x = some n) (hp : pv x = some hh)
    (B : Below callerA base [] base) (X : (KK w).In base) (T : Top VW LO mean mg mb base) (hf : env.frame = some L) (hke : env.scope.kind = .function)
    (h : ∀ h' tk tl', Fr base L h' m → News base L h' (fx ++ tl' ++ own) → OwnOff own (tl'.map (·.1)) → NS tl' mk dmk ids da Ca at_ (upO (upO nx hh n) x x) (upO (upO pv n hh) x x) → Q (.ref x) { s with heap := h', toks := tk }) :
    wpAny (model PR w) (callerA.deeper env) (call (.ref 98) [.ref hh] []) Q E s := by
  obtain ⟨N1, P⟩ := lawpre N hk ho S
  refine pop_some (outer := []) (Cx.law F N1 B X T) P S ?_ hf hke H hx hxh hnh hni H.mem hnx hn hp fun h₀' h' tk tl' C' S' => ?_
  · decide
  · obtain ⟨tl2, N2, o2, S2⟩ := lawpost (unturnN C'.T0 C'.N) S' ho S
    exact h _ _ _ (unturn C'.T0 C'.F) N2 o2 S2
theorem empty_law (F : Fr base L s.heap m) (N : News base L s.heap (fx ++ tl ++ own)) (hk : ∀ p ∈ fx, isND p.2 = false) (ho : OwnOff own (tl.map (·.1))) (S : NS tl mk dmk ids da Ca at_ nx pv)
    (H : Hd mk ids Ca at_ hh) (hn : nx hh = some hh) (hp : pv hh = some hh)
    (B : Below callerA base [] base) (X : (KK w).In base) (T : Top VW LO mean mg mb base) (hf : env.frame = some L) (hke : env.scope.kind = .function)
    (h : ∀ h' tk tl', Fr base L h' m → News base L h' (fx ++ tl' ++ own) → OwnOff own (tl'.map (·.1)) → NS tl' mk dmk ids da Ca at_ nx pv → Q (.bool true) { s with heap := h', toks := tk }) :
    wpAny (model PR w) (callerA.deeper env) (call (.ref 49) [.ref hh] []) Q E s := by
  obtain ⟨N1, P⟩ := lawpre N hk ho S
  refine is_empty_t (outer := []) (Cx.law F N1 B X T) P S ?_ hf hke H hn hp fun h₀' h' tk tl' C' S' => ?_
  · decide
  · obtain ⟨tl2, N2, o2, S2⟩ := lawpost (unturnN C'.T0 C'.N) S' ho S
    exact h _ _ _ (unturn C'.T0 C'.F) N2 o2 S2
theorem isOn_law (F : Fr base L s.heap m) (N : News base L s.heap (fx ++ tl ++ own)) (hk : ∀ p ∈ fx, isND p.2 = false) (ho : OwnOff own (tl.map (·.1))) (S : NS tl mk dmk ids da Ca at_ nx pv)
    (H : Hd mk ids Ca at_ hh) (hx : x ∈ ids) (hn : (nx x = none ∧ pv x = none) ∨ (nx x = some x ∧ pv x = some x))
    (B : Below callerA base [] base) (X : (KK w).In base) (T : Top VW LO mean mg mb base) (hf : env.frame = some L) (hke : env.scope.kind = .function)
    (h : ∀ h' tk tl', Fr base L h' m → News base L h' (fx ++ tl' ++ own) → OwnOff own (tl'.map (·.1)) → NS tl' mk dmk ids da Ca at_ nx pv → Q (.bool false) { s with heap := h', toks := tk }) :
    wpAny (model PR w) (callerA.deeper env) (call (.ref 63) [.ref hh, .ref x] []) Q E s := by
  obtain ⟨N1, P⟩ := lawpre N hk ho S
  rcases hn with ⟨h1, h2⟩ | ⟨h1, h2⟩
  · refine isOn_none (outer := []) (Cx.law F N1 B X T) P S ?_ hf hke H hx h1 h2 fun h₀' h' tk tl' C' S' => ?_
    · decide
    · obtain ⟨tl2, N2, o2, S2⟩ := lawpost (unturnN C'.T0 C'.N) S' ho S
      exact h _ _ _ (unturn C'.T0 C'.F) N2 o2 S2
  · refine isOn_self (outer := []) (Cx.law F N1 B X T) P S ?_ hf hke H hx h1 h2 fun h₀' h' tk tl' C' S' => ?_
    · decide
    · obtain ⟨tl2, N2, o2, S2⟩ := lawpost (unturnN C'.T0 C'.N) S' ho S
      exact h _ _ _ (unturn C'.T0 C'.F) N2 o2 S2
theorem path_law {k : Int} {t : Tok} {expr : Bool} (F : Fr base L s.heap m) (N : News base L s.heap (fx ++ tl ++ own)) (S : NS tl mk dmk ids da Ca at_ nx pv) (hx : x ∈ ids) (hC : Ca x = 245) (ha : at_ x = routeAt (.int k t))
    (B : Below callerA base [] base) (X : (KK w).In base) (T : Top VW LO mean mg mb base) (hf : env.frame = some L) (hke : env.scope.kind = .function)
    (h : ∀ h' tk, Fr base L h' m → News base L h' (fx ++ tl ++ own) → Q (.int k t) { s with heap := h', toks := tk }) :
    wpAny (model PR w) (callerA.deeper env) (getAttr (.ref x) (Str.ofString "path") expr) Q E s := by
  have N1 : News base L s.heap ((fx ++ own) ++ tl) := news_sub N fun p hp => by simp only [List.mem_append] at hp ⊢; grind
  refine path_spec (outer := []) (Cx.law F N1 B X T) S ?_ hf hke hx hC ha rfl fun h₀' h' tk C' => ?_
  · decide
  · exact h _ _ (unturn C'.T0 C'.F) (news_sub (unturnN C'.T0 C'.N) fun p hp => by simp only [List.mem_append] at hp ⊢; grind)
end
end Mine
namespace Mine
local macro_rules | `(tactic| walk_at "no key L11 0") => `(tactic| fail)
theorem rstL11 : True := by
  w_top off
  trivial
theorem fillL11 : PySem.Challenge.rw_fc0145_02.Holds → (∀ w : World, (hd.heap_39 w.params).In default) → True := by
  k_fill
  intros
  trivial
local macro_rules | `(tactic| k_steps) => `(tactic| repeat' (first | (k_unfold; (try dsimp only)) | walk1 | (dsimp only; walk1) | fail "no step"))
section
variable {prog : Program} {w : World} {A : Around} {E : Value → Shared → Prop} {s : Shared} {env : Env} {h₀ : Heap} {x : Str} {body : List Stmt} {Q : Flow → Shared → Prop}
/-- a loop over range(b), by an own word -/
theorem range_loop {r : Addr} {b : Int} {t₀ u₀ v₀ : Tok} {n : Nat} {m₀ : Str → Option Value} {news : List (Addr × Obj)} (J : Nat → (Str → Option Value) → List (Addr × Obj) → Prop)
    (hh : A.handled = none) (hr : IsRange s.heap r 0 b 1 t₀ u₀ v₀) (hsmall : Builtin.Range.small 0 b 1 = true) (hsz : Builtin.Range.rangeSize 0 b 1 = (n : Int)) (F : Fr h₀ env.locals s.heap m₀) (N : News h₀ env.locals s.heap news) (hj : J 0 m₀ news)
    (turn : ∀ i t m₁ nx h tk own, i < n → OwnOff own (nx.map (·.1)) → J i m₁ nx → Fr h₀ env.locals h (fun y => if y = x then some (.int (Int.ofNat i) t) else m₁ y) → News h₀ env.locals h (nx ++ own) →
      wpAny (model prog w) A (execs body env) (InvPostG h₀ env.locals (J (i + 1)) own { s with heap := h, toks := tk } Q) E { s with heap := h, toks := tk })
    (done : ∀ m₁ nx h tk, J n m₁ nx → Fr h₀ env.locals h m₁ → News h₀ env.locals h nx → Q .next { s with heap := h, toks := tk }) :
    wpAny (model prog w) A (pyIter (.ref r)) (fun it s₂ => LoopAtV prog w A h₀ env x body Q E it s₂) E s := by
  refine wpAny_pyIter_range hr hsmall ?_
  have W : Walks prog w A s.heap.objs.size [s.heap.objs.size] [s.heap.objs.size] n (fun i v => i < n ∧ ∃ t, v = .int (0 + i * 1) t)
      (fun i h => IsRangeIter h s.heap.objs.size (0 + (i : Nat) * 1) ((n : Int) - (i : Nat)) 1) := (Walks.range hh _ 0 1 n).bound
  refine kdr_loop J W (fun _ h => h) (fun _ h => h) ?_ ?_ ?_ ?_ (by show IsRangeIter _ _ _ _ _; rw [hsz]; simpa using Heap.get?_push_size _ rfl) (F.push _) (fun p hp => ⟨Heap.get?_push_of_some _ (N p hp).1, (N p hp).2⟩) hj ?_ ?_
  · intro i h hi b hb
    rw [List.mem_singleton.mp hb]
    exact ⟨_, hi⟩
  · intro hm
    exact absurd F.ns.lt ((List.mem_singleton.mp hm) ▸ Nat.lt_irrefl _)
  · intro b hb
    rw [List.mem_singleton.mp hb]
    exact next_is_new F
  · intro p hp hI
    exact absurd (Heap.lt_size (N p hp).1) ((List.mem_singleton.mp hI) ▸ Nat.lt_irrefl _)
  · rintro i v m₁ nx h tk own hi ⟨_, t, rfl⟩ hoff hJ F₁ N₁
    have e1 : (0 : Int) + (i : Int) * 1 = Int.ofNat i := by
      show (0 : Int) + (i : Int) * 1 = (i : Int)
      omega
    rw [e1] at F₁
    exact turn i t m₁ nx h tk own hi hoff hJ F₁ N₁
  · intro m₁ nx h tk hJ F₁ N₁
    exact done m₁ nx h tk hJ F₁ N₁
end
/-- what stays as it is once the works are built -/
structure LC where
  (cl pl ln lv wl mt dm h0 : Addr)
  (cvs pvs : List Value) (cs : List Int) (k : Nat) (xs : List Addr) (pt : List (Addr × Obj)) (o1 o2 o3 : Obj) (cn : Int) (t1 : Tok) (ps : List (Int × Int)) (da Ca : Addr → Addr) (at_ : Addr → Str → Option Value)
abbrev LC.fx (c : LC) (L : Addr) (owl olv o4 : Obj) : List (Addr × Obj) :=
  (c.wl, owl) :: (c.lv, olv) :: (c.ln, LCg.lst (c.xs.map Value.ref)) :: (c.pl, listOf c.pvs.toArray c.k) :: (c.cl, listOf c.cvs.toArray 0) :: (L + 1 + 1 + 1 + 1, o4) :: (L + 1 + 1 + 1, c.o3) :: (L + 1 + 1, c.o2) :: (L + 1, c.o1) :: c.pt
def Apart (a : Addr) : List Addr → Prop
  | [] => True
  | b :: r => (@Ne Nat b a) ∧ Apart a r
structure LC.Ok (c : LC) (L : Addr) : Prop where
  d1 : c.o1.data = .cell (some (.int c.cn c.t1))
  d2 : c.o2.data = .cell (some (.ref c.pl))
  d3 : c.o3.data = .cell (some (.ref c.h0))
  hcn : 2 ≤ c.cn ∧ c.cn ≤ 9
  hP : PairsIn c.pt c.pvs c.ps
  hB : ∀ p ∈ c.ps, (0 ≤ p.1 ∧ p.1 < c.cn) ∧ 0 ≤ p.2 ∧ p.2 < c.cn
  hpl : c.ps.length ≤ 12
  hpt : ∀ p ∈ c.pt, isND p.2 = false
  hI : IntsAre c.cvs c.cs
  hcs : c.cs.length = 14
  hxl : c.xs.length = c.cn.toNat
  hC : c.Ca c.h0 = 108
  hA : c.at_ c.h0 = listAt c.mt c.h0
  rt : ∀ j x, c.xs[j]? = some x → c.Ca x = 245 ∧ ∃ t, c.at_ x = routeAt (.int (Int.ofNat j + 1) t)
  nd : (c.h0 :: c.xs).Nodup
  w1 : Apart c.wl [c.lv, c.ln, c.pl, c.cl, L + 1 + 1 + 1 + 1, L + 1 + 1 + 1, L + 1 + 1, L + 1]
  w2 : Apart c.lv [c.wl, c.ln, c.pl, c.cl, L + 1 + 1 + 1 + 1, L + 1 + 1 + 1, L + 1 + 1, L + 1]
  w4 : Apart (L + 1 + 1 + 1 + 1) [c.wl, c.lv, c.ln, c.pl, c.cl, L + 1 + 1 + 1, L + 1 + 1, L + 1]
  p1 : ∀ p ∈ c.pt, p.1 ≠ c.wl
  p2 : ∀ p ∈ c.pt, p.1 ≠ c.lv
  p4 : ∀ p ∈ c.pt, p.1 ≠ L + 1 + 1 + 1 + 1
structure LC.Kn (c : LC) (m : Str → Option Value) : Prop where
  cells : m (Str.ofString "cells") = some (.ref c.cl)
  nodes : m (Str.ofString "nodes") = some (.ref c.ln)
  done : m (Str.ofString "done") = some (.ref c.lv)
  waits : m (Str.ofString "waits") = some (.ref c.wl)
theorem LC.Ok.hd {c : LC} {L : Addr} (K : c.Ok L) : Hd c.mt (c.h0 :: c.xs) c.Ca c.at_ c.h0 := ⟨.head _, K.hC, K.hA⟩
theorem LC.Ok.nd4 {c : LC} {L : Addr} (K : c.Ok L) : isND c.o1 = false ∧ isND c.o2 = false ∧ isND c.o3 = false :=
  ⟨by unfold isND; rw [K.d1], by unfold isND; rw [K.d2], by unfold isND; rw [K.d3]⟩
theorem LC.Ok.fxND {c : LC} {L : Addr} (K : c.Ok L) {owl olv o4 : Obj} (h1 : isND owl = false) (h2 : isND olv = false) (h4 : isND o4 = false) : ∀ p ∈ c.fx L owl olv o4, isND p.2 = false := fun p hp => by
  obtain ⟨i1, i2, i3⟩ := K.nd4
  simp only [LC.fx, List.mem_cons] at hp
  rcases hp with rfl | rfl | rfl | rfl | rfl | rfl | rfl | rfl | rfl | hp
  · exact h1
  · exact h2
  iterate 3 rfl
  · exact h4
  · exact i3
  · exact i2
  · exact i1
  · exact K.hpt p hp
/-- the list's head in the ledger -/
theorem hdIn {c : LC} {L : Addr} {news tl : List (Addr × Obj)} {nx pv : Addr → Option Addr} {h₀ h : Heap} {L' : Addr} (_N : News h₀ L' h news) (K : c.Ok L) (S : NS tl c.mt c.dm (c.h0 :: c.xs) c.da c.Ca c.at_ nx pv) (hs : ∀ p ∈ tl, p ∈ news) : ∃ dh es n, HdL news c.mt c.h0 dh es n := by
  obtain ⟨es, n, h1, h2⟩ := S.dict c.h0 (.head _)
  have h3 := S.inst c.h0 (.head _)
  rw [K.hC] at h3
  rw [K.hA] at h2
  exact ⟨_, es, n, hs _ h3, hs _ h1, (h2.get _).trans (congrArg some listAt_lt), (h2.get _).trans (congrArg some listAt_hd), fun s a b c e => (h2.get s).trans (congrArg some (listAt_no a b c e))⟩
theorem own_app {own a b : List (Addr × Obj)} : OwnOff own ((a ++ b).map (·.1)) ↔ OwnOff own (a.map (·.1)) ∧ OwnOff own (b.map (·.1)) := by
  rw [List.map_append]
  exact ⟨fun h => ⟨fun p hp c hc => h p hp c (List.mem_append_left _ hc), fun p hp c hc => h p hp c (List.mem_append_right _ hc)⟩, fun h p hp c hc => (List.mem_append.mp hc).elim (h.1 p hp c) (h.2 p hp c)⟩
section
variable {w : World} {base : Heap} {L fa : Addr} {cd : Value} {mg mb : Str → Option Value} {mean : ExcName → Option Value} {s : Shared} {Q : Flow → Shared → Prop} {E : Value → Shared → Prop}
  {m : Str → Option Value} {c : LC} {o4 : Obj} {wvs : List Value} {ws : List Int} {tl : List (Addr × Obj)} {nx pv : Addr → Option Addr}
def J8 (c : LC) (L : Addr) (wvs : List Value) (o4 : Obj) (i : Nat) (m : Str → Option Value) (nw : List (Addr × Obj)) : Prop :=
  c.Kn m ∧ m (Str.ofString "ahead") = some .none ∧ ∃ tl nx pv, nw = c.fx L (LCg.lst wvs) (listOf #[] 0) o4 ++ tl ∧ NS tl c.mt c.dm (c.h0 :: c.xs) c.da c.Ca c.at_ nx pv ∧
    Lk c.xs c.h0 nx pv ((List.range i).filter fun j => (cntTo c.ps (Int.ofNat j) : Int) == 0) []
local macro_rules | `(tactic| walk_at "call ref") => `(tactic| ((with_reducible show wpAny _ _ (call (Value.ref 70) _ _) _ _ _); refine stop_it ?_))
local macro_rules | `(tactic| walk_at "pyIter ref") => `(tactic| (refine stop_it ?_))
local macro_rules | `(tactic| k_mem) => `(tactic| assumption)
local macro_rules | `(tactic| walk_at "subscriptTail") => `(tactic| (k_here; (with_reducible show wpAny _ _ (subscriptTail _ _ (Value.ref _) (Value.int _ _)) _ _ _); (with_unfolding_all refine' item_litK ?k1 ?k2 ?k3 ?k4 ?_ ?k6; (case k1 => is_list); (case k2 => omega); (case k3 => omega); (case k4 => assumption); (case k6 => with_unfolding_all rfl); k_whole)))
local macro_rules | `(tactic| k_get) => `(tactic| assumption)
theorem seg8 (B : Below callerA base [] base) (F : Fr base L s.heap m) (X : (hd.heap_39 w.params).In base) (T : Top VW LO mean mg mb base)
    (K : c.Ok L) (hm : c.Kn m) (hah : m (Str.ofString "ahead") = some .none) (N : News base L s.heap (c.fx L (LCg.lst wvs) (listOf #[] 0) o4 ++ tl)) (d4 : o4.data = .cell none)
    (hW : IntsAre wvs ws) (hws : ws = (List.range c.cn.toNat).map fun j => (cntTo c.ps (Int.ofNat j) : Int))
    (S : NS tl c.mt c.dm (c.h0 :: c.xs) c.da c.Ca c.at_ nx pv) (Y : Lk c.xs c.h0 nx pv [] [])
    (hE : PassesOwn (model PR w) (callerA.deeper (lawEnv L fa cd)) (lawEnv L fa cd) E)
    (hQ : ∀ h' tk m' nw, Fr base L h' m' → News base L h' nw → J8 c L wvs o4 c.cn.toNat m' nw → Q .next { s with heap := h', toks := tk }) :
    wpAny (model PR w) (callerA.deeper (lawEnv L fa cd)) (exec (st 8) (lawEnv L fa cd)) Q E s := by
  conv => pattern (st 8); whnf
  unfold lawEnv
  conv => pattern (occs := *) lawScope; all_goals whnf
  have d1 := K.d1
  have hcn := K.hcn
  dsimp only [LC.fx, List.cons_append] at N
  refine For_invVF F (by rfl) (by rfl) ?_ (hE := hE)
  k_steps
  refine ⟨?_⟩
  rename_i hR F4 N4 _
  refine range_loop (n := c.cn.toNat) (J8 c L wvs o4) rfl hR (small_one (by omega) (by omega) (by omega) (by omega)) (by rw [rangeSize_nat]; congr 1; omega) F4 N4 ⟨hm, hah, tl, nx, pv, rfl, S, Y⟩ ?_ ?_
  · rintro i t m₁ nw h tk own hi hoff ⟨hm1, hah1, tl1, nx1, pv1, rfl, S1, Y1⟩ F1 N1
    rw [← kn_eq [(Str.ofString "cells", .ref c.cl), (Str.ofString "nodes", .ref c.ln), (Str.ofString "done", .ref c.lv), (Str.ofString "waits", .ref c.wl), (Str.ofString "ahead", .none)] (allC hm1.cells (allC hm1.nodes (allC hm1.done (allC hm1.waits (all1 hah1)))))] at F1
    dsimp only [kn] at F1
    dsimp only [LC.fx, List.cons_append] at N1
    obtain ⟨dh, es, nn, hl⟩ := hdIn N1 K S1 (fun p hp => by repeat (first | exact List.mem_append_left _ (List.mem_append_right _ hp) | refine List.Mem.tail _ ?_))
    have l1 := hl.i
    have l2 := hl.d
    have l3 := hl.no (Str.ofString "append") (by decide +kernel) (by decide +kernel) (by decide +kernel) (by decide +kernel)
    have hwl : ws.length = c.cn.toNat := by rw [hws, List.length_map, List.length_range]
    have hix : i < c.xs.length := by rw [K.hxl]; exact hi
    have hg : (c.xs.map Value.ref)[(Int.ofNat i).toNat]? = some (.ref (ad c.xs i)) := by
      show (c.xs.map Value.ref)[i]? = _
      rw [List.getElem?_map, ad_get hix]; rfl
    have hw : ws.getD (Int.ofNat i).toNat 0 = (cntTo c.ps (Int.ofNat i) : Int) := by
      show ws.getD i 0 = _
      rw [hws, List.getD_eq_getElem?_getD, List.getElem?_map, List.getElem?_range hi]; rfl
    have k0 : 0 ≤ Int.ofNat i := Int.natCast_nonneg _
    have k1 : Int.ofNat i < (ws.length : Int) := by rw [hwl]; exact Int.ofNat_lt.mpr hi
    have k2 : (ws.length : Int) ≤ 9 := by rw [hwl]; omega
    generalize hkk : Int.ofNat i = kk at F1 hg hw k0 k1
    have d3 := K.d3
    have i4 : isND o4 = false := by unfold isND; rw [d4]
    have ho := own_app.mp hoff
    k_steps
    · rename_i hz
      refine ⟨?_⟩
      have hz2 : ((cntTo c.ps (Int.ofNat i) : Int) == 0) = true := by rw [hkk, ← hw, hz]; rfl
      obtain ⟨p, p1, p2, u1, u2, hne, Y2⟩ := Y1.append K.nd hix (fun hm => by simpa using (List.mem_filter.mp hm).1) nofun
      show wpAny _ _ (call (Value.ref 70) [Value.ref _, Value.ref _] []) _ _ _
      refine append_law (fx := c.fx L (LCg.lst wvs) (listOf #[] 0) o4) (tl := tl1) (own := own) F1 N1 (K.fxND rfl rfl i4) ho.2 S1 K.hd (.tail _ (ad_mem hix)) p1 hne p2 u1 u2 B X T rfl rfl fun h' tk' tl2 F2 N2 o2 S2 => ?_
      k_steps
      refine InvEndG.intro F2 N2 (nx := c.fx L (LCg.lst wvs) (listOf #[] 0) o4 ++ tl2) ⟨⟨rfl, rfl, rfl, rfl⟩, rfl, tl2, _, _, rfl, S2, ?_⟩ (own_app.mpr ⟨ho.1, o2⟩) ?_ ?_
      · rw [List.range_succ, List.filter_append, List.filter_cons_of_pos (p := fun j => (cntTo c.ps (Int.ofNat j) : Int) == 0) hz2]
        exact Y2
      · exact fun p hp => List.mem_append_left _ hp
      · exact fun p hp => List.mem_append_right _ hp
    · rename_i hz
      refine InvEndG.intro F1 N1 (nx := c.fx L (LCg.lst wvs) (listOf #[] 0) o4 ++ tl1) ⟨⟨rfl, rfl, rfl, rfl⟩, rfl, tl1, _, _, rfl, S1, ?_⟩ hoff ?_ ?_
      · have hz2 : ¬ ((cntTo c.ps (Int.ofNat i) : Int) == 0) = true := by rw [hkk, ← hw]; intro h; exact hz (eq_of_beq h)
        rw [List.range_succ, List.filter_append, List.filter_cons_of_neg (p := fun j => (cntTo c.ps (Int.ofNat j) : Int) == 0) hz2, List.filter_nil, List.append_nil]
        exact Y1
      · exact fun p hp => List.mem_append_left own hp
      · exact fun p hp => List.mem_append_right (c.fx L (LCg.lst wvs) (listOf #[] 0) o4 ++ tl1) hp
  · intro m₁ nw h tk hJ F1 N1
    exact hQ _ _ _ _ F1 N1 hJ
end
end Mine
namespace Mine
theorem fillL12 : PySem.Challenge.rw_fc0145_02.Holds → (∀ w : World, (hd.heap_39 w.params).In default) → True := by
  k_fill
  intros
  trivial
local macro_rules | `(tactic| k_steps) => `(tactic| repeat' (first | (k_unfold; (try dsimp only)) | walk1 | (dsimp only; walk1) | fail "no step"))
section
variable {prog : Program} {w : World} {A : Around} {E : Value → Shared → Prop} {s : Shared} {env : Env} {h₀ : Heap} {target : PySem.Expr} {body : List Stmt} {Q : Flow → Shared → Prop}
def EndT (h₀ : Heap) (L : Addr) (J : (Str → Option Value) → List (Addr × Obj) → Prop) (own : List (Addr × Obj)) (s₁ : Shared) (f : Flow) (s₂ : Shared) : Prop := f = .next ∧ InvEndG h₀ L J own s₁ s₂
/-- a loop over a list of the ledger whose target is a tuple -/
theorem kdt_iter {l : Addr} {vs : List Value} {nn : Nat} {m₀ : Str → Option Value} {news : List (Addr × Obj)} (J : Nat → (Str → Option Value) → List (Addr × Obj) → Prop)
    (hh : A.handled = none) (hl : (l, listOf vs.toArray nn) ∈ news) (F : Fr h₀ env.locals s.heap m₀) (N : News h₀ env.locals s.heap news) (hj : J 0 m₀ news)
    (turn : ∀ i v m₁ nx (s₁ : Shared) own, vs[i]? = some v → OwnOff own (nx.map (·.1)) → (l, listOf vs.toArray nn) ∈ nx → J i m₁ nx → Fr h₀ env.locals s₁.heap m₁ → News h₀ env.locals s₁.heap (nx ++ own) →
      wpAny (model prog w) A (assign target env v) (fun _ s₃ => wpAny (model prog w) A (execs body env) (EndT h₀ env.locals (fun m' nx => (l, listOf vs.toArray nn) ∈ nx ∧ J (i + 1) m' nx) own s₁) E s₃) E s₁)
    (done : ∀ m₁ nx h tk, J vs.length m₁ nx → Fr h₀ env.locals h m₁ → News h₀ env.locals h nx → Q .next { s with heap := h, toks := tk }) :
    wpAny (model prog w) A (pyIter (.ref l)) (fun it s₂ => LoopAtT prog w A h₀ env target body Q E it s₂) E s := by
  have hol : s.heap.get? l = some (listOf vs.toArray nn) := (N _ hl).1
  have hls : s.heap.IsList l vs.toArray := ⟨_, hol, rfl, nn, rfl⟩
  have hne : l ≠ s.heap.objs.size := Nat.ne_of_lt (Heap.lt_size hol)
  refine wpAny_pyIter_list hls ?_
  have W := Walks.list (prog := prog) (w := w) hh s.heap.objs.size l hne vs.toArray
  have hlen : vs.toArray.size = vs.length := by simp
  rw [hlen] at W
  refine ⟨_, _, _, vs.length, _, _, m₀, news, (fun i m nx => (l, listOf vs.toArray nn) ∈ nx ∧ J i m nx), rfl, W, ?_, ?_, ?_, ⟨⟨_, Heap.get?_push_size _ rfl, rfl, rfl⟩, hls.at fun o e => Heap.get?_push_of_some _ e⟩, F.push _, (fun p hp => ⟨Heap.get?_push_of_some _ (N p hp).1, (N p hp).2⟩), (fun i s' v Q' st hQ' => letGo_listiter st.1 hQ'), ⟨hl, hj⟩, ?_, ?_⟩
  · intro hm
    rcases List.mem_cons.mp hm with e | hm
    · exact absurd F.ns.lt (e ▸ Nat.lt_irrefl _)
    · exact (N _ hl).2.1 ((List.mem_singleton.mp hm).symm)
  · intro b hb
    rw [List.mem_singleton.mp hb]
    exact next_is_new F
  · intro p hp hI
    exact absurd (Heap.lt_size (N p hp).1) ((List.mem_singleton.mp hI) ▸ Nat.lt_irrefl _)
  · rintro i v m₁ news₁ s₁ own hin hP ⟨hl₁, hJ⟩ hoff hown hget hfp hst F₁ N₁
    have hP' : vs[i]? = some v := by simpa using hP
    have hI0 : h₀.get? s.heap.objs.size = none := next_is_new F
    obtain ⟨⟨oI, hoI, _⟩, _⟩ := id hst
    have hIown : (s.heap.objs.size, oI) ∈ own.filter fun p => decide (p.1 = s.heap.objs.size) := List.mem_filter.mpr ⟨hfp _ (List.mem_cons.mpr (.inl rfl)) hI0 _ hoI, by simp⟩
    have hsep : OwnOff (own.filter fun p => decide (p.1 = s.heap.objs.size)) (news₁.map (·.1)) := by
      intro p hp b hb e
      obtain ⟨q, hq, rfl⟩ := List.mem_map.mp hb
      have h1 : p.1 = s.heap.objs.size := by simpa using (List.mem_filter.mp hp).2
      exact hoff q hq (List.mem_singleton.mpr (e ▸ h1))
    have N₂ : News h₀ env.locals s₁.heap (news₁ ++ own.filter fun p => decide (p.1 = s.heap.objs.size)) := fun p hp => N₁ p ((List.mem_append.mp hp).elim (fun h => List.mem_append.mpr (.inr h)) fun h => List.mem_append.mpr (.inl ((List.mem_filter.mp h).1)))
    have hlo : s₁.heap.get? l = some (listOf vs.toArray nn) := (N₁ _ (List.mem_append.mpr (.inr hl₁))).1
    refine wpAny_mono (turn i v m₁ news₁ s₁ _ hP' hsep hl₁ hJ F₁ N₂) (fun _ s₃ hp => wpAny_mono hp (fun f s₂ p => ?_) fun _ _ e => e) fun _ _ e => e
    obtain ⟨rfl, h', tk, m', news', nx, e, F', N', hn, ho, ha, hm⟩ := p
    refine ⟨rfl, h', tk, m', nx, e, F', fun p hp => ?_, fun p hp hq => ?_, hm⟩
    · rcases List.mem_append.mp hp with h | h
      · by_cases hI : p.1 = s.heap.objs.size
        · exact N' p (ho p (List.mem_filter.mpr ⟨h, by simpa using hI⟩))
        · have h1 : p.1 = l := by
            rcases List.mem_cons.mp (hown p h) with h2 | h2
            · exact absurd h2 hI
            · exact List.mem_singleton.mp h2
          have h2 : s₁.heap.get? p.1 = some p.2 := hget p h
          rw [h1, hlo] at h2
          have h3 : p = (l, listOf vs.toArray nn) := Prod.ext h1 (Option.some.inj h2).symm
          rw [h3]
          exact N' _ (hn _ hm.1)
      · exact N' p (hn p h)
    · exact ha _ hIown p.1 (List.mem_map.mpr ⟨p, hp, rfl⟩) (List.mem_singleton.mp hq).symm
  · rintro h' tk m' news' F' N' _ ⟨_, hJ⟩
    exact done m' news' h' tk hJ F' N'
end
/-- the pairs, and the number of works, as numbers -/
def LC.es (c : LC) : List (Nat × Nat) := c.ps.map fun p => (p.1.toNat, p.2.toNat)
abbrev LC.n (c : LC) : Nat := c.cn.toNat
def LC.fl (c : LC) : Bool := decide ((c.cs.getD 13 0).fmod 3 = 2)
def ahV (ah : Option Nat) (v : Value) : Prop := match ah with
  | none => v = .none
  | some a => ∃ t, v = .int (Int.ofNat a) t
theorem LC.Ok.esGet {c : LC} {L : Addr} (K : c.Ok L) {i : Nat} {p : Int × Int} (h : c.ps[i]? = some p) : ∃ a b : Nat, p = (Int.ofNat a, Int.ofNat b) ∧ a < c.n ∧ b < c.n ∧ c.es[i]? = some (a, b) := by
  have hb := K.hB p (List.mem_of_getElem? h)
  refine ⟨p.1.toNat, p.2.toNat, ?_, by unfold LC.n; omega, by unfold LC.n; omega, ?_⟩
  · obtain ⟨x, y⟩ := p
    simp only at hb ⊢
    show (x, y) = (((x.toNat : Nat) : Int), ((y.toNat : Nat) : Int))
    rw [Int.toNat_of_nonneg hb.1.1, Int.toNat_of_nonneg hb.2.1]
  · unfold LC.es
    rw [List.getElem?_map, h]; rfl
def waitsL (c : LC) (W : Nat → Int) : List Int := (List.range c.n).map W
theorem waitsL_len {c : LC} {W : Nat → Int} : (waitsL c W).length = c.n := by unfold waitsL; rw [List.length_map, List.length_range]
theorem waitsL_get {c : LC} {W : Nat → Int} {j : Nat} (h : j < c.n) : (waitsL c W).getD j 0 = W j := by
  unfold waitsL
  rw [List.getD_eq_getElem?_getD, List.getElem?_map, List.getElem?_range h]; rfl
theorem waitsL_set {c : LC} {W : Nat → Int} {j : Nat} {v : Int} : (waitsL c W).set j v = waitsL c (upd W j v) := by
  unfold waitsL
  refine List.ext_getElem? fun k => ?_
  rw [List.getElem?_set]
  simp only [List.getElem?_map, List.length_map, List.length_range]
  by_cases hk : k < c.n
  · rw [List.getElem?_range hk]
    by_cases e : j = k
    · subst e
      rw [if_pos rfl, if_pos hk]
      show some v = some (upd W j v j)
      rw [upd_self]
    · rw [if_neg e]
      show some (W k) = some (upd W j v k)
      rw [upd_ne (Ne.symm e)]
  · have : (List.range c.n)[k]? = none := by rw [List.getElem?_eq_none_iff, List.length_range]; omega
    rw [this]
    split
    · split
      · omega
      · rfl
    · rfl
/-- the inner loop's word: pairs up to i are seen -/
structure In9 (c : LC) (L : Addr) (o4 : Obj) (tw tn : Value) (ownO : List (Addr × Obj)) (w : Nat) (dn : List Nat) (olv : Obj) (i : Nat) (m : Str → Option Value) (nw : List (Addr × Obj)) : Prop where
  kn : c.Kn m
  mw : m (Str.ofString "work") = some tw
  ex : ∃ tl nx pv wvs wk W qu ah av, nw = c.fx L (listOf (List.toArray wvs) wk) olv o4 ++ tl ++ ownO ∧ OwnOff ownO ((c.fx L (listOf (List.toArray wvs) wk) olv o4 ++ tl).map (·.1)) ∧ NS tl c.mt c.dm (c.h0 :: c.xs) c.da c.Ca c.at_ nx pv ∧ Lk c.xs c.h0 nx pv qu (dn ++ [w]) ∧ IntsAre wvs (waitsL c W) ∧
    Mid c.fl c.n c.es i w W qu dn ah ∧ m (Str.ofString "ahead") = some av ∧ ahV ah av
end Mine
namespace Mine
theorem rstL13 : True := by
  w_top off
  trivial
theorem fillL13 : PySem.Challenge.rw_fc0145_02.Holds → (∀ w : World, (hd.heap_39 w.params).In default) → True := by
  k_fill
  intros
  trivial
local macro_rules | `(tactic| k_steps) => `(tactic| repeat' (first | (k_unfold; (try dsimp only)) | walk1 | (dsimp only; walk1) | fail "no step"))
def forTgt : Stmt → PySem.Expr
  | .For t _ _ _ _ => t
  | _ => default
noncomputable def in9 : Stmt := (forBody (st 9))[6]!
section
variable {w : World} {base : Heap} {L fa : Addr} {cd : Value} {mg mb : Str → Option Value} {mean : ExcName → Option Value} {s : Shared} {E : Value → Shared → Prop}
  {m : Str → Option Value} {c : LC} {o4 olv : Obj} {nw own ownO : List (Addr × Obj)} {i wk : Nat} {dn : List Nat} {tw : Tok} {tn v : Value}
local macro_rules | `(tactic| walk_at "call ref") => `(tactic| (refine stop_it ?_))
local macro_rules | `(tactic| walk_at "setItem ref int") => `(tactic| (refine stop_it ?_))
local macro_rules | `(tactic| walk_at "subscriptTail") => `(tactic| (k_here; (with_reducible show wpAny _ _ (subscriptTail _ _ (Value.ref _) (Value.int _ _)) _ _ _); (with_unfolding_all refine' item_litK ?k1 ?k2 ?k3 ?k4 ?_ ?k6; (case k1 => first | is_list | exact News.isList (by k_asm) (by repeat (first | exact List.Mem.head _ | refine List.Mem.tail _ ?_))); (case k2 => omega); (case k3 => omega); (case k4 => assumption); (case k6 => with_unfolding_all rfl); k_whole)))
local macro_rules | `(tactic| k_get) => `(tactic| assumption)
local macro_rules | `(tactic| k_all) => `(tactic| assumption)
local macro_rules | `(tactic| walk_at "execs cons") => `(tactic| (dsimp only))
local macro_rules | `(tactic| walk_at "execs nil") => `(tactic| (dsimp only))
theorem turn9 (B : Below callerA base [] base) (X : (hd.heap_39 w.params).In base) (T : Top VW LO mean mg mb base) (K : c.Ok L)
    (hv : c.pvs[i]? = some v) (ho : OwnOff own (nw.map (·.1))) (J : In9 c L o4 (.int (Int.ofNat wk) tw) tn ownO wk dn olv i m nw) (F : Fr base L s.heap m) (N : News base L s.heap (nw ++ own)) (hl4 : isND o4 = false) (hlv : isND olv = false)  :
    wpAny (model PR w) (callerA.deeper (lawEnv L fa cd)) (assign (forTgt in9) (lawEnv L fa cd) v) (fun _ s₃ => wpAny (model PR w) (callerA.deeper (lawEnv L fa cd)) (execs (forBody in9) (lawEnv L fa cd))
      (EndT base L (fun m' nx => (c.pl, listOf c.pvs.toArray c.k) ∈ nx ∧ In9 c L o4 (.int (Int.ofNat wk) tw) tn ownO wk dn olv (i + 1) m' nx) own s) E s₃) E s := by
  conv => pattern (forTgt in9); whnf
  conv => pattern (forBody in9); whnf
  unfold lawEnv
  conv => pattern (occs := *) lawScope; all_goals whnf
  obtain ⟨hm, hmw, tl, nx, pv, wvs, wq, W, qu, ah, av, rfl, hoO, S, Y, hI, M, hah, hav⟩ := J
  obtain ⟨p, a, t, u, hp, rfl, hmem⟩ := K.hP.get hv
  obtain ⟨x, y, rfl, hx, hy, hes⟩ := K.esGet hp
  dsimp only at hmem
  rw [← kn_eq [(Str.ofString "cells", .ref c.cl), (Str.ofString "nodes", .ref c.ln), (Str.ofString "done", .ref c.lv), (Str.ofString "waits", .ref c.wl), (Str.ofString "work", .int (Int.ofNat wk) tw), (Str.ofString "ahead", av)] (allC hm.cells (allC hm.nodes (allC hm.done (allC hm.waits (allC hmw (all1 hah))))))] at F
  dsimp only [kn] at F
  obtain ⟨dh, es, nn, hl⟩ := hdIn N K S (fun p hp => List.mem_append_left _ (List.mem_append_left _ (List.mem_append_right _ hp)))
  have l3 := hl.no (Str.ofString "append") (by decide +kernel) (by decide +kernel) (by decide +kernel) (by decide +kernel)
  have l4 := hl.no (Str.ofString "prepend") (by decide +kernel) (by decide +kernel) (by decide +kernel) (by decide +kernel)
  have hq9 : ∀ q, q ∈ c.fx L (listOf wvs.toArray wq) olv o4 ++ tl ++ ownO ++ own ↔ q ∈ (c.wl, listOf wvs.toArray wq) :: (c.lv, olv) :: (c.ln, LCg.lst (c.xs.map Value.ref)) :: (c.pl, listOf c.pvs.toArray c.k) :: (c.cl, listOf c.cvs.toArray 0) :: (L + 1 + 1 + 1 + 1, o4) :: (L + 1 + 1 + 1, c.o3) :: (L + 1 + 1, c.o2) :: (L + 1, c.o1) :: (c.pt ++ (tl ++ (ownO ++ own))) := fun q => by
    simp only [LC.fx, List.cons_append, List.append_assoc]
  have hptm : ∀ q ∈ c.pt, q ∈ c.fx L (listOf wvs.toArray wq) olv o4 := fun q hq => by repeat (first | exact hq | refine List.Mem.tail _ ?_)
  have iw : isND (listOf wvs.toArray wq) = false := rfl
  have hfxw : ∀ q ∈ c.fx L (listOf wvs.toArray wq) olv o4, isND q.2 = false := K.fxND iw hlv hl4
  have hwmem : (c.wl, listOf wvs.toArray wq) ∈ c.fx L (listOf wvs.toArray wq) olv o4 ++ tl ++ ownO ++ own := by simp
  have hndw : ∀ q ∈ tl, q.1 ≠ c.wl := fun q hq => ne_kind N (q := (c.wl, listOf wvs.toArray wq)) (List.mem_append_left _ (List.mem_append_left _ (List.mem_append_right _ hq))) hwmem (S.kinds q hq) rfl
  have hd1 : @Ne Nat c.h0 c.wl := hndw _ (S.inst c.h0 (.head _))
  have hd2 : @Ne Nat dh c.wl := ne_kind N (p := (dh, dictOf es nn)) (q := (c.wl, listOf wvs.toArray wq)) hl.d hwmem rfl rfl
  have hd3 : @Ne Nat a c.wl := K.p1 _ hmem
  have hoW : ∀ q ∈ c.pt ++ (tl ++ (ownO ++ own)), q.1 ≠ c.wl := fun q hq => by
    rcases List.mem_append.mp hq with hq | hq
    · exact K.p1 q hq
    rcases List.mem_append.mp hq with hq | hq
    · exact hndw q hq
    rcases List.mem_append.mp hq with hq | hq
    · exact hoO q hq c.wl (by simp)
    · exact ho q hq c.wl (by simp)
  obtain ⟨w11, w12, w13, w14, w15, w16, w17, w18, _⟩ := K.w1
  have N1 : News base L s.heap ((a, tupObj [.int (Int.ofNat x) t, .int (Int.ofNat y) u]) :: (c.h0, instObj 108 dh) :: (dh, dictOf es nn) :: (c.wl, listOf wvs.toArray wq) :: (c.lv, olv) :: (c.ln, LCg.lst (c.xs.map Value.ref)) :: (c.pl, listOf c.pvs.toArray c.k) :: (c.cl, listOf c.cvs.toArray 0) :: (L + 1 + 1 + 1 + 1, o4) :: (L + 1 + 1 + 1, c.o3) :: (L + 1 + 1, c.o2) :: (L + 1, c.o1) :: (c.pt ++ (tl ++ (ownO ++ own)))) :=
    news_sub N fun q hq => by
      rcases List.mem_cons.mp hq with rfl | hq
      · exact List.mem_append_left _ (List.mem_append_left _ (List.mem_append_left _ (hptm _ hmem)))
      rcases List.mem_cons.mp hq with rfl | hq
      · exact hl.i
      rcases List.mem_cons.mp hq with rfl | hq
      · exact hl.d
      · exact (hq9 q).mpr hq
  generalize hR : c.pt ++ (tl ++ (ownO ++ own)) = R at N1 hoW hq9
  have hlen : (waitsL c W).length = c.n := waitsL_len
  have hgy : (waitsL c W).getD (Int.ofNat y).toNat 0 = W y := waitsL_get hy
  have k0 : 0 ≤ Int.ofNat y := Int.natCast_nonneg _
  have k1 : Int.ofNat y < ((waitsL c W).length : Int) := by rw [hlen]; exact Int.ofNat_lt.mpr hy
  have k2 : ((waitsL c W).length : Int) ≤ 9 := by rw [hlen]; have := K.hcn; unfold LC.n; omega
  generalize hyy : Int.ofNat y = yy at F N1 hgy k0 k1
  generalize hws : waitsL c W = ws at hI hgy hlen k1 k2
  clear N
  k_steps
  · rename_i F2 N2 hxw _
    refine ⟨?_⟩
    refine ksa_set F2 N2 (.tail hd3 (.tail hd1 (.tail hd2 (.head ?_)))) hI k0 k1 (by omega) fun h3 F3 N3 hi3 hl3 _ => ?_
    · intro p hp
      simp only [List.mem_cons] at hp
      rcases hp with rfl | rfl | rfl | rfl | rfl | rfl | rfl | rfl | hp
      iterate 8 assumption
      exact hoW p hp
    · have e1 : (ws.set yy.toNat (ws.getD yy.toNat 0 - 1)).getD yy.toNat 0 = W y - 1 := by
        rw [hgy]
        have : yy.toNat < ws.length := by omega
        simp [this]
      have hcs := K.hcs
      have hIc := K.hI
      have hyx : y < c.xs.length := by rw [K.hxl]; exact hy
      have hg : (c.xs.map Value.ref)[yy.toNat]? = some (.ref (ad c.xs y)) := by
        rw [← hyy]
        show (c.xs.map Value.ref)[y]? = _
        rw [List.getElem?_map, ad_get hyx]; rfl
      have d3 := K.d3
      generalize hws3 : ws.set yy.toNat (ws.getD yy.toNat 0 - 1) = ws3 at hi3 hl3 e1
      generalize hwv3 : wvs.set yy.toNat _ = wvs3 at hi3 N3
      clear N2 F2
      have hoI : OwnOff (ownO ++ own) (tl.map (·.1)) := fun q hq b hb => by
        rcases List.mem_append.mp hq with hq | hq
        · exact (own_app.mp hoO).2 q hq b hb
        · exact (own_app.mp (own_app.mp ho).1).2 q hq b hb
      have toFx : ∀ h', News base L h' ((a, tupObj [.int (Int.ofNat x) t, .int yy u]) :: (c.h0, instObj 108 dh) :: (dh, dictOf es nn) :: (c.wl, listOf wvs3.toArray wq) :: (c.lv, olv) :: (c.ln, LCg.lst (c.xs.map Value.ref)) :: (c.pl, listOf c.pvs.toArray c.k) :: (c.cl, listOf c.cvs.toArray 0) :: (L + 1 + 1 + 1 + 1, o4) :: (L + 1 + 1 + 1, c.o3) :: (L + 1 + 1, c.o2) :: (L + 1, c.o1) :: R) →
          News base L h' (c.fx L (listOf wvs3.toArray wq) olv o4 ++ tl ++ (ownO ++ own)) := fun h' N => news_sub N fun q hq => by
        have hq2 := hq
        simp only [LC.fx, List.cons_append, List.append_assoc] at hq2
        rw [hR] at hq2
        exact .tail _ (.tail _ (.tail _ hq2))
      have hws4 : ws3 = waitsL c (upd W y (W y - 1)) := by
        rw [← hws3, hgy, ← hws, ← hyy]
        exact waitsL_set
      have hyn : y < c.n := hy
      have fin : ∀ h' tk m' tl' nx' pv' qu' ah' av', Fr base L h' m' → c.Kn m' → m' (Str.ofString "work") = some (.int (Int.ofNat wk) tw) → m' (Str.ofString "ahead") = some av' → ahV ah' av' →
          News base L h' (c.fx L (listOf wvs3.toArray wq) olv o4 ++ tl' ++ (ownO ++ own)) → OwnOff (ownO ++ own) (tl'.map (·.1)) → NS tl' c.mt c.dm (c.h0 :: c.xs) c.da c.Ca c.at_ nx' pv' → Lk c.xs c.h0 nx' pv' qu' (dn ++ [wk]) →
          Mid c.fl c.n c.es (i + 1) wk (upd W y (W y - 1)) qu' dn ah' →
          EndT base L (fun m' nx => (c.pl, listOf c.pvs.toArray c.k) ∈ nx ∧ In9 c L o4 (.int (Int.ofNat wk) tw) tn ownO wk dn olv (i + 1) m' nx) own s .next { s with heap := h', toks := tk } :=
        fun h' tk m' tl' nx' pv' qu' ah' av' F' k' w' a' v' N' o' S' Y' M' => by
          have ofx : OwnOff ownO ((c.fx L (listOf wvs3.toArray wq) olv o4).map (·.1)) := (own_app.mp hoO).1
          have ofx2 : OwnOff own ((c.fx L (listOf wvs3.toArray wq) olv o4).map (·.1)) := (own_app.mp (own_app.mp ho).1).1
          have oO : OwnOff ownO (tl'.map (·.1)) := fun q hq => o' q (List.mem_append_left _ hq)
          have oI : OwnOff own (tl'.map (·.1)) := fun q hq => o' q (List.mem_append_right _ hq)
          refine ⟨rfl, InvEndG.intro F' N' (nx := c.fx L (listOf wvs3.toArray wq) olv o4 ++ tl' ++ ownO) ⟨?_, k', w', tl', nx', pv', wvs3, wq, _, qu', ah', av', rfl, own_app.mpr ⟨ofx, oO⟩, S', Y', hws4 ▸ hi3, M', a', v'⟩ (own_app.mpr ⟨own_app.mpr ⟨ofx2, oI⟩, (own_app.mp ho).2⟩) ?_ ?_⟩
          · simp
          · exact fun q hq => by simp only [List.mem_append] at hq ⊢; rcases hq with (hq | hq) | hq <;> simp [hq]
          · exact fun q hq => by simp only [List.mem_append]; simp [hq]
      have hxw' : x = wk := Int.ofNat.inj hxw
      obtain ⟨q1, q2, q3⟩ := M.pos hes hxw' hyn
      have ndL : ∀ q ∈ c.fx L (listOf wvs3.toArray wq) olv o4, isND q.2 = false := K.fxND rfl hlv hl4
      have hm13 : (c.cs.getD (Int.toNat 13) 0).fmod 3 = 2 → c.fl = true := fun h => decide_eq_true h
      k_steps
      all_goals try contradiction
      · refine ⟨?_⟩
        obtain ⟨p, p1, p2, u1, u2, hne, Y2⟩ := Y.prepend K.nd hyx q2 q3
        have hz1 : W y - 1 = 0 := by rw [← e1]; assumption
        show wpAny _ _ (call (Value.ref 77) [Value.ref _, Value.ref _] []) _ _ _
        refine prepend_law (fx := c.fx L (listOf wvs3.toArray wq) olv o4) (tl := tl) (own := ownO ++ own) (by assumption) (toFx _ (by assumption)) ndL hoI S K.hd (.tail _ (ad_mem hyx)) p1 hne p2 u1 u2 B X T rfl rfl fun h' tk' tl2 F4 N4 o4' S4 => ?_
        k_steps
        rename_i F5 N5
        exact fin _ _ _ _ _ _ _ (some y) _ F5 ⟨rfl, rfl, rfl, rfl⟩ rfl rfl ⟨u, by rw [hyy]⟩ N5 o4' S4 Y2 (M.pre (hm13 (by assumption)) hes hxw' hyn hz1)
      iterate 2
        · refine ⟨?_⟩
          obtain ⟨p, p1, p2, u1, u2, hne, Y2⟩ := Y.append K.nd hyx q2 q3
          have hz1 : W y - 1 = 0 := by rw [← e1]; assumption
          show wpAny _ _ (call (Value.ref 70) [Value.ref _, Value.ref _] []) _ _ _
          refine append_law (fx := c.fx L (listOf wvs3.toArray wq) olv o4) (tl := tl) (own := ownO ++ own) (by assumption) (toFx _ (by assumption)) ndL hoI S K.hd (.tail _ (ad_mem hyx)) p1 hne p2 u1 u2 B X T rfl rfl fun h' tk' tl2 F4 N4 o4' S4 => ?_
          k_steps
          exact fin _ _ _ _ _ _ _ ah _ F4 ⟨rfl, rfl, rfl, rfl⟩ rfl rfl hav N4 o4' S4 Y2 (M.app hes hxw' hyn hz1)
      · have hz1 : W y - 1 ≠ 0 := by rw [← e1]; assumption
        exact fin _ _ _ _ _ _ _ ah _ (by assumption) ⟨rfl, rfl, rfl, rfl⟩ rfl rfl hav (toFx _ (by assumption)) hoI S Y (M.dec hes hxw' hyn hz1)
  · rename_i F2 N2 hxw
    have hxw' : x ≠ wk := fun e => hxw (congrArg Int.ofNat e)
    have toFx : ∀ h', News base L h' ((a, tupObj [.int (Int.ofNat x) t, .int yy u]) :: (c.h0, instObj 108 dh) :: (dh, dictOf es nn) :: (c.wl, listOf wvs.toArray wq) :: (c.lv, olv) :: (c.ln, LCg.lst (c.xs.map Value.ref)) :: (c.pl, listOf c.pvs.toArray c.k) :: (c.cl, listOf c.cvs.toArray 0) :: (L + 1 + 1 + 1 + 1, o4) :: (L + 1 + 1 + 1, c.o3) :: (L + 1 + 1, c.o2) :: (L + 1, c.o1) :: R) →
        News base L h' (c.fx L (listOf wvs.toArray wq) olv o4 ++ tl ++ ownO ++ own) := fun h' N => news_sub N fun q hq => by
      have hq2 := hq
      simp only [LC.fx, List.cons_append, List.append_assoc] at hq2
      rw [hR] at hq2
      exact .tail _ (.tail _ (.tail _ hq2))
    refine ⟨rfl, InvEndG.intro F2 (toFx _ N2) (nx := c.fx L (listOf wvs.toArray wq) olv o4 ++ tl ++ ownO) ⟨?_, ⟨rfl, rfl, rfl, rfl⟩, rfl, tl, nx, pv, wvs, wq, W, qu, ah, av, rfl, hoO, S, Y, hws ▸ hI, M.skip hes hxw', rfl, hav⟩ ho ?_ ?_⟩
    · simp
    · exact fun q hq => List.mem_append_left _ hq
    · exact fun q hq => List.mem_append_right _ hq
end
end Mine
namespace Mine
theorem rstL14 : True := by
  w_top off
  trivial
theorem fillL14 : PySem.Challenge.rw_fc0145_02.Holds → (∀ w : World, (hd.heap_39 w.params).In default) → True := by
  k_fill
  intros
  trivial
local macro_rules | `(tactic| k_steps) => `(tactic| repeat' (first | (k_unfold; (try dsimp only)) | walk1 | (dsimp only; walk1) | fail "no step"))
/-- the main loop's word -/
structure J9 (c : LC) (L : Addr) (o4 : Obj) (i : Nat) (m : Str → Option Value) (nw : List (Addr × Obj)) : Prop where
  kn : c.Kn m
  ex : ∃ tl nx pv wvs wk W qu dn ah av dvs dq, nw = c.fx L (listOf (List.toArray wvs) wk) (listOf (List.toArray dvs) dq) o4 ++ tl ∧ NS tl c.mt c.dm (c.h0 :: c.xs) c.da c.Ca c.at_ nx pv ∧ Lk c.xs c.h0 nx pv qu dn ∧ IntsAre wvs (waitsL c W) ∧
    Kahn c.fl c.n c.es W qu dn ∧ IntsAre dvs (dn.map Int.ofNat) ∧ m (Str.ofString "ahead") = some av ∧ ahV ah av ∧ (∀ a, ah = some a → qu.head? = some a) ∧ dn.length = i
/-- what holds once the queue is empty -/
structure F9 (c : LC) (L : Addr) (o4 : Obj) (m : Str → Option Value) (nw : List (Addr × Obj)) : Prop where
  kn : c.Kn m
  ex : ∃ tl nx pv wvs wk W dn dvs dq, nw = c.fx L (listOf (List.toArray wvs) wk) (listOf (List.toArray dvs) dq) o4 ++ tl ∧ NS tl c.mt c.dm (c.h0 :: c.xs) c.da c.Ca c.at_ nx pv ∧ Lk c.xs c.h0 nx pv [] dn ∧
    Kahn c.fl c.n c.es W [] dn ∧ IntsAre dvs (dn.map Int.ofNat)
section
variable {w : World} {base : Heap} {L fa : Addr} {cd : Value} {mg mb : Str → Option Value} {mean : ExcName → Option Value} {s : Shared} {Q : Flow → Shared → Prop} {E : Value → Shared → Prop}
  {m : Str → Option Value} {c : LC} {o4 olv : Obj} {nw : List (Addr × Obj)}
local macro_rules | `(tactic| walk_at "call ref") => `(tactic| (refine stop_it ?_))
local macro_rules | `(tactic| walk_at "getAttr ref") => `(tactic| ((with_reducible show wpAny _ _ (getAttr (Value.ref (ad _ _)) _ _) _ _ _); refine stop_it ?_))
local macro_rules | `(tactic| walk_at "pyIter ref") => `(tactic| (refine stop_it ?_))
local macro_rules | `(tactic| walk_at "exec For") => `(tactic| (refine stop_it ?_))
local macro_rules | `(tactic| k_mem) => `(tactic| assumption)
local macro_rules | `(tactic| k_get) => `(tactic| assumption)
local macro_rules | `(tactic| k_all) => `(tactic| assumption)
local macro_rules | `(tactic| walk_at "execs cons") => `(tactic| (dsimp only))
local macro_rules | `(tactic| walk_at "execs nil") => `(tactic| (dsimp only))
theorem lv_off {tl own : List (Addr × Obj)} {nx pv : Addr → Option Addr} {owl : Obj} {dvs : List Value} {dq : Nat} {h : Heap} (K : c.Ok L) (N : News base L h (c.fx L owl (listOf dvs.toArray dq) o4 ++ tl ++ own)) (S : NS tl c.mt c.dm (c.h0 :: c.xs) c.da c.Ca c.at_ nx pv) (ho : OwnOff own ((c.fx L owl (listOf dvs.toArray dq) o4 ++ tl).map (·.1))) :
    c.wl ≠ c.lv ∧ ∀ p ∈ (c.ln, LCg.lst (c.xs.map Value.ref)) :: (c.pl, listOf c.pvs.toArray c.k) :: (c.cl, listOf c.cvs.toArray 0) :: (L + 1 + 1 + 1 + 1, o4) :: (L + 1 + 1 + 1, c.o3) :: (L + 1 + 1, c.o2) :: (L + 1, c.o1) :: (c.pt ++ tl ++ own), p.1 ≠ c.lv := by
  obtain ⟨w1, w2, w3, w4, w5, w6, w7, w8, _⟩ := K.w2
  refine ⟨w1, fun p hp => ?_⟩
  have hm : (c.lv, listOf dvs.toArray dq) ∈ c.fx L owl (listOf dvs.toArray dq) o4 ++ tl ++ own := by simp
  simp only [List.mem_cons] at hp
  rcases hp with rfl | rfl | rfl | rfl | rfl | rfl | rfl | hp
  iterate 7 assumption
  rcases List.mem_append.mp hp with hp | hp
  · rcases List.mem_append.mp hp with hp | hp
    · exact K.p2 p hp
    · exact ne_kind N (q := (c.lv, listOf dvs.toArray dq)) (List.mem_append_left _ (List.mem_append_right _ hp)) hm (S.kinds p hp) rfl
  · exact ho p hp c.lv (by simp)
theorem done_append {A : Around} {tl own : List (Addr × Obj)} {nx pv : Addr → Option Addr} {owl : Obj} {dvs : List Value} {dq : Nat} {x : Value} {Q E : Value → Shared → Prop} {prog : Program}
    (F : Fr base L s.heap m) (N : News base L s.heap (c.fx L owl (listOf dvs.toArray dq) o4 ++ tl ++ own)) (K : c.Ok L) (S : NS tl c.mt c.dm (c.h0 :: c.xs) c.da c.Ca c.at_ nx pv) (ho : OwnOff own ((c.fx L owl (listOf dvs.toArray dq) o4 ++ tl).map (·.1))) (hs : dvs.length ≤ sizeLine)
    (h : ∀ h', Fr base L h' m → News base L h' (c.fx L owl (listOf (dvs ++ [x]).toArray (dq + 1)) o4 ++ tl ++ own) → Q .none { s with heap := h' }) :
    wpAny (model prog w) A (call (.builtin "list.append") [.ref c.lv, x]) Q E s := by
  obtain ⟨h1, h2⟩ := lv_off K N S ho
  have N1 : News base L s.heap ((c.wl, owl) :: (c.lv, listOf dvs.toArray dq) :: (c.ln, LCg.lst (c.xs.map Value.ref)) :: (c.pl, listOf c.pvs.toArray c.k) :: (c.cl, listOf c.cvs.toArray 0) :: (L + 1 + 1 + 1 + 1, o4) :: (L + 1 + 1 + 1, c.o3) :: (L + 1 + 1, c.o2) :: (L + 1, c.o1) :: (c.pt ++ tl ++ own)) := N
  refine append_K F N1 (.tail h1 (.head h2)) (fun h' F' N' => h h' F' ?_) (by rw [List.size_toArray]; exact hs)
  rw [List.push_toArray] at N'
  exact N'
theorem for9 {tl own : List (Addr × Obj)} {nx pv : Addr → Option Addr} {wvs dvs : List Value} {wk dq wq : Nat} {W : Nat → Int} {qu dn : List Nat} {tw : Tok}
    (B : Below callerA base [] base) (F : Fr base L s.heap m) (X : (hd.heap_39 w.params).In base) (T : Top VW LO mean mg mb base) (K : c.Ok L) (hl4 : isND o4 = false)
    (hm : c.Kn m) (hw : m (Str.ofString "work") = some (.int (Int.ofNat wq) tw)) (hah : m (Str.ofString "ahead") = some .none)
    (N : News base L s.heap (c.fx L (listOf wvs.toArray wk) (listOf dvs.toArray dq) o4 ++ tl ++ own)) (ho : OwnOff own ((c.fx L (listOf wvs.toArray wk) (listOf dvs.toArray dq) o4 ++ tl).map (·.1)))
    (S : NS tl c.mt c.dm (c.h0 :: c.xs) c.da c.Ca c.at_ nx pv) (Y : Lk c.xs c.h0 nx pv qu (dn ++ [wq])) (hI : IntsAre wvs (waitsL c W)) (M : Mid c.fl c.n c.es 0 wq W qu dn none) (hD : IntsAre dvs ((dn ++ [wq]).map Int.ofNat))
    (hE : PassesOwn (model PR w) (callerA.deeper (lawEnv L fa cd)) (lawEnv L fa cd) E)
    (hQ : ∀ h' tk m' nx, Fr base L h' m' → News base L h' (nx ++ own) → OwnOff own (nx.map (·.1)) → J9 c L o4 (dn.length + 1) m' nx → Q .next { s with heap := h', toks := tk }) :
    wpAny (model PR w) (callerA.deeper (lawEnv L fa cd)) (exec in9 (lawEnv L fa cd)) Q E s := by
  conv => pattern in9; whnf
  unfold lawEnv
  conv => pattern (occs := *) lawScope; all_goals whnf
  have d2 := K.d2
  refine For_invTF F ?_ (by intro _; rfl) (hE := hE)
  have N1 := N
  dsimp only [LC.fx, List.cons_append] at N1
  k_steps
  refine ⟨?_⟩
  refine kdt_iter (vs := c.pvs) (nn := c.k) (In9 c L o4 (.int (Int.ofNat wq) tw) .none own wq dn (listOf dvs.toArray dq)) rfl ?_ F N ⟨hm, hw, tl, nx, pv, wvs, wk, W, qu, none, .none, rfl, ho, S, Y, hI, M, hah, rfl⟩ ?_ ?_
  · simp
  · intro i v m₁ nx₁ s₁ own₁ hv hoff _ J F1 N1
    exact turn9 B X T K hv hoff J F1 N1 hl4 rfl
  · rintro m₁ nx₁ h tk ⟨hm1, hw1, tl1, nx1, pv1, wvs1, wk1, W1, qu1, ah1, av1, rfl, hoO, S1, Y1, hI1, M1, hah1, hav1⟩ F1 N1
    refine hQ _ _ _ _ F1 N1 hoO ⟨hm1, tl1, nx1, pv1, wvs1, wk1, W1, qu1, dn ++ [wq], ah1, av1, dvs, dq, rfl, S1, Y1, hI1, M1.done ?_, hD, hah1, hav1, M1.hah, ?_⟩
    · rw [K.hP.length]; unfold LC.es; rw [List.length_map]
    · rw [List.length_append, List.length_singleton]
theorem seg9 (B : Below callerA base [] base) (F : Fr base L s.heap m) (X : (hd.heap_39 w.params).In base) (T : Top VW LO mean mg mb base) (K : c.Ok L) (hl4 : isND o4 = false)
    (J : J9 c L o4 0 m nw) (N : News base L s.heap nw)
    (hE : PassesOwn (model PR w) (callerA.deeper (lawEnv L fa cd)) (lawEnv L fa cd) E)
    (hQ : ∀ h' tk m' nw', Fr base L h' m' → News base L h' nw' → F9 c L o4 m' nw' → Q .next { s with heap := h', toks := tk }) :
    wpAny (model PR w) (callerA.deeper (lawEnv L fa cd)) (exec (st 9) (lawEnv L fa cd)) Q E s := by
  conv => pattern (st 9); whnf
  unfold lawEnv
  conv => pattern (occs := *) lawScope; all_goals whnf
  have J0 := J
  obtain ⟨hm, tl, nx, pv, wvs, wk, W, qu, dn, ah, av, dvs, dq, rfl, S, Y, hI, KK0, hD, hah, hav, hhd, hln⟩ := J
  have d1 := K.d1
  have hcn := K.hcn
  dsimp only [LC.fx, List.cons_append] at N
  refine For_invVF F (by rfl) (by rfl) ?_ (hE := hE)
  clear S Y hI KK0 hD hah hav hhd hln
  k_steps
  refine ⟨?_⟩
  rename_i hR F4 N4 _
  refine range_loop (n := c.n + 1) (J9 c L o4) rfl hR (small_one (by omega) (by omega) (by omega) (by omega)) (by rw [rangeSize_nat]; congr 1; unfold LC.n; omega) F4 N4 J0 ?_ ?_
  · rintro i t m₁ nw h tk own hi hoff ⟨hm, tl, nx, pv, wvs, wk, W, qu, dn, ah, av, dvs, dq, rfl, S, Y, hI, KK0, hD, hah, hav, hhd, hln⟩ F1 N1
    rw [← kn_eq [(Str.ofString "cells", .ref c.cl), (Str.ofString "nodes", .ref c.ln), (Str.ofString "done", .ref c.lv), (Str.ofString "waits", .ref c.wl), (Str.ofString "ahead", av)] (allC hm.cells (allC hm.nodes (allC hm.done (allC hm.waits (all1 hah)))))] at F1
    dsimp only [kn] at F1
    dsimp only [LC.fx, List.cons_append] at N1
    obtain ⟨dh, es, nn, hl⟩ := hdIn N1 K S (fun p hp => by repeat (first | exact List.mem_append_left _ (List.mem_append_right _ hp) | refine List.Mem.tail _ ?_))
    have l1 := hl.i
    have l2 := hl.d
    have l3 := hl.no (Str.ofString "pop_first") (by decide +kernel) (by decide +kernel) (by decide +kernel) (by decide +kernel)
    have d3 := K.d3
    have ho := own_app.mp hoff
    have ndL : ∀ q ∈ c.fx L (listOf wvs.toArray wk) (listOf dvs.toArray dq) o4, isND q.2 = false := K.fxND rfl rfl hl4
    k_steps
    refine ⟨?_⟩
    show wpAny _ _ (call (Value.ref 98) [Value.ref _] []) _ _ _
    cases qu with
    | nil =>
      refine popN_law (fx := c.fx L (listOf wvs.toArray wk) (listOf dvs.toArray dq) o4) (tl := tl) (own := own) F1 N1 ndL ho.2 S K.hd Y.nil.1 B X T rfl rfl fun h' tk' tl2 F2 N2 o2 S2 => ?_
      k_steps
      rename_i F3 N3
      exact hQ _ _ _ _ F3 (news_sub N3 fun q hq => List.mem_append_left own hq) ⟨⟨rfl, rfl, rfl, rfl⟩, tl2, _, _, wvs, wk, W, dn, dvs, dq, rfl, S2, Y, KK0, hD⟩
    | cons wq qu =>
      have hwn : wq < c.n := KK0.lt wq (.head _)
      have hwx : wq < c.xs.length := by rw [K.hxl]; exact hwn
      obtain ⟨n, n1, n2, n3, n4, n5, n6, n7, Y2⟩ := Y.pop K.nd
      refine popS_law (fx := c.fx L (listOf wvs.toArray wk) (listOf dvs.toArray dq) o4) (tl := tl) (own := own) F1 N1 ndL ho.2 S K.hd n3 n4 n2 n1 n7 n5 n6 B X T rfl rfl fun h' tk' tl2 F2 N2 o2 S2 => ?_
      k_steps
      rename_i F3 N3
      refine ⟨?_⟩
      obtain ⟨hC, t2, hA⟩ := K.rt wq _ (ad_get hwx)
      refine path_law (fx := c.fx L (listOf wvs.toArray wk) (listOf dvs.toArray dq) o4) (tl := tl2) (own := own) F3 N3 S2 n3 hC hA B X T rfl rfl fun h3 tk3 F4 N4 => ?_
      clear F3 N3 F2 N2 F1 N1
      have M := KK0.pop
      have e1 : Int.ofNat wq + 1 - 1 = Int.ofNat wq := by omega
      cases ah with
      | none =>
        obtain rfl : av = .none := hav
        k_steps
        have hdl : dvs.length ≤ sizeLine := by
          rw [hD.length, List.length_map, PySem.sizeLine_eq]
          have := len_le_of_lt c.n dn (List.nodup_append.mp KK0.nod).2.1 fun j hj => KK0.lt j (List.mem_append_right _ hj)
          have h9 : c.n ≤ 9 := by unfold LC.n; omega
          omega
        rename_i F5 N5
        refine done_append F5 N5 K S2 (own_app.mpr ⟨ho.1, o2⟩ |> fun h => h) hdl fun h6 F6 N6 => ?_
        rw [e1] at F6 N6
        k_steps
        refine ⟨?_⟩
        change wpAny (model PR w) (callerA.deeper (lawEnv L fa cd)) (exec in9 (lawEnv L fa cd)) _ _ _
        refine for9 B F6 X T K hl4 ⟨rfl, rfl, rfl, rfl⟩ rfl rfl N6 (own_app.mpr ⟨ho.1, o2⟩) S2 Y2 hI M (by rw [List.map_append]; exact hD.append (.cons _ _ .nil)) hE fun h7 tk7 m7 nx7 F7 N7 o7 J7 => ?_
        k_steps
        rw [hln] at J7
        exact InvEndG.intro F7 N7 J7 o7 (fun q hq => List.mem_append_left _ hq) (fun q hq => List.mem_append_right _ hq)
      | some a =>
        obtain ⟨ta, rfl⟩ := hav
        obtain rfl : wq = a := Option.some.inj (hhd a rfl)
        k_steps
        · exfalso; omega
        have hdl : dvs.length ≤ sizeLine := by
          rw [hD.length, List.length_map, PySem.sizeLine_eq]
          have := len_le_of_lt c.n dn (List.nodup_append.mp KK0.nod).2.1 fun j hj => KK0.lt j (List.mem_append_right _ hj)
          have h9 : c.n ≤ 9 := by unfold LC.n; omega
          omega
        rename_i F5 N5
        refine done_append F5 N5 K S2 (own_app.mpr ⟨ho.1, o2⟩ |> fun h => h) hdl fun h6 F6 N6 => ?_
        rw [e1] at F6 N6
        k_steps
        refine ⟨?_⟩
        change wpAny (model PR w) (callerA.deeper (lawEnv L fa cd)) (exec in9 (lawEnv L fa cd)) _ _ _
        refine for9 B F6 X T K hl4 ⟨rfl, rfl, rfl, rfl⟩ rfl rfl N6 (own_app.mpr ⟨ho.1, o2⟩) S2 Y2 hI M (by rw [List.map_append]; exact hD.append (.cons _ _ .nil)) hE fun h7 tk7 m7 nx7 F7 N7 o7 J7 => ?_
        k_steps
        rw [hln] at J7
        exact InvEndG.intro F7 N7 J7 o7 (fun q hq => List.mem_append_left _ hq) (fun q hq => List.mem_append_right _ hq)
  · intro m₁ nw h tk J F1 N1
    exfalso
    obtain ⟨hm, tl, nx, pv, wvs, wk, W, qu, dn, ah, av, dvs, dq, rfl, S, Y, hI, KK0, hD, hah, hav, hhd, hln⟩ := J
    have h1 := len_le_of_lt c.n dn (List.nodup_append.mp KK0.nod).2.1 fun j hj => KK0.lt j (List.mem_append_right _ hj)
    omega
end
end Mine
namespace Mine
theorem rstL15 : True := by
  w_top off
  trivial
theorem fillL15 : PySem.Challenge.rw_fc0145_02.Holds → (∀ w : World, (hd.heap_39 w.params).In default) → True := by
  k_fill
  intros
  trivial
local macro_rules | `(tactic| k_steps) => `(tactic| repeat' (first | (k_unfold; (try dsimp only)) | walk1 | (dsimp only; walk1) | fail "no step"))
theorem flat0 : ∀ n : Nat, (List.replicate n [(0 : Int)]).flatten = List.replicate n 0
  | 0 => rfl
  | n + 1 => by
    rw [List.replicate_succ, List.flatten_cons, flat0 n, List.replicate_succ]
    rfl
theorem waitsL_zero {c : LC} : waitsL c (fun _ => 0) = (List.replicate c.n [(0 : Int)]).flatten := by
  rw [flat0]
  unfold waitsL
  rw [List.map_const', List.length_range]
section
variable {w : World} {base : Heap} {L fa : Addr} {cd : Value} {mg mb : Str → Option Value} {mean : ExcName → Option Value} {s : Shared} {Q : Flow → Shared → Prop} {E : Value → Shared → Prop}
  {m : Str → Option Value} {c : LC} {o4 olv owl : Obj} {nw tl : List (Addr × Obj)} {nx pv : Addr → Option Addr}
local macro_rules | `(tactic| walk_at "storeName") => `(tactic| (refine stop_it ?_))
local macro_rules | `(tactic| walk_at "execs cons") => `(tactic| (dsimp only))
local macro_rules | `(tactic| walk_at "execs nil") => `(tactic| (dsimp only))
theorem seg10 (F : Fr base L s.heap m) (X : (hd.heap_39 w.params).In base) (T : Top VW LO mean mg mb base) (K : c.Ok L) (d4 : o4.data = .cell none)
    (hm : c.Kn m) (N : News base L s.heap (c.fx L owl olv o4 ++ tl)) (S : NS tl c.mt c.dm (c.h0 :: c.xs) c.da c.Ca c.at_ nx pv)
    (hQ : ∀ h' tk m' gl gvs gq o4', Fr base L h' m' → c.Kn m' → News base L h' ((gl, listOf (List.toArray gvs) gq) :: (c.fx L owl olv o4' ++ tl)) → o4'.data = .cell (some (.ref gl)) → IntsAre gvs (waitsL c fun _ => 0) → (∀ p ∈ c.fx L owl olv o4' ++ tl, p.1 ≠ gl) → Q .next { s with heap := h', toks := tk }) :
    wpAny (model PR w) (callerA.deeper (lawEnv L fa cd)) (exec (st 10) (lawEnv L fa cd)) Q E s := by
  conv => pattern (st 10); whnf
  unfold lawEnv
  conv => pattern (occs := *) lawScope; all_goals whnf
  have d1 := K.d1
  have hcn := K.hcn
  have hfx : ∀ {L' : Addr} {h : Heap}, News base L' h (c.fx L owl olv o4 ++ tl) → News base L' h ((c.wl, owl) :: (c.lv, olv) :: (c.ln, LCg.lst (c.xs.map Value.ref)) :: (c.pl, listOf c.pvs.toArray c.k) :: (c.cl, listOf c.cvs.toArray 0) :: (L + 1 + 1 + 1 + 1, o4) :: (L + 1 + 1 + 1, c.o3) :: (L + 1 + 1, c.o2) :: (L + 1, c.o1) :: (c.pt ++ tl)) := fun h => h
  have N1 := hfx N
  clear N
  rw [← kn_eq [(Str.ofString "cells", .ref c.cl), (Str.ofString "nodes", .ref c.ln), (Str.ofString "done", .ref c.lv), (Str.ofString "waits", .ref c.wl)] (allC hm.cells (allC hm.nodes (allC hm.done (all1 hm.waits))))] at F
  dsimp only [kn] at F
  k_steps
  rename_i D h2 F2 N2 i1 n1 s1 e1 e2 e3 l1
  refine ⟨?_⟩
  have hlt : ∀ p ∈ c.fx L owl olv o4 ++ tl, @LT.lt Nat _ p.1 D := fun p hp => AllLt_mem (show AllLt D (c.fx L owl olv o4 ++ tl) from l1.2) hp
  have i4 : isND o4 = false := by unfold isND; rw [d4]
  obtain ⟨v1, v2, v3, v4, v5, v6, v7, v8, _⟩ := K.w4
  have hm4 : (L + 1 + 1 + 1 + 1, o4) ∈ c.fx L owl olv o4 ++ tl := by simp
  have N3 : News base L h2 ((L + 1 + 1 + 1 + 1, o4) :: (D, listOf (List.replicate c.cn.toNat [Value.int 0 s.toks]).flatten.toArray 0) :: (c.wl, owl) :: (c.lv, olv) :: (c.ln, LCg.lst (c.xs.map Value.ref)) :: (c.pl, listOf c.pvs.toArray c.k) :: (c.cl, listOf c.cvs.toArray 0) :: (L + 1 + 1 + 1, c.o3) :: (L + 1 + 1, c.o2) :: (L + 1, c.o1) :: (c.pt ++ tl)) :=
    news_sub N2 fun p hp => by simp only [List.mem_cons] at hp ⊢; grind
  have htl : ∀ p ∈ tl, p.1 ≠ L + 1 + 1 + 1 + 1 := fun p hp => ne_kind N3 (q := (L + 1 + 1 + 1 + 1, o4)) (by simp [hp]) (.head _) (S.kinds p hp) i4
  refine storeX_C F2 N3 (by rfl) (.head fun p hp => ?_) d4 (fun h4 o4' F4 N4 d4' => ?_)
  · simp only [List.mem_cons] at hp
    rcases hp with rfl | rfl | rfl | rfl | rfl | rfl | rfl | rfl | rfl | hp
    · exact Nat.ne_of_gt (hlt _ hm4)
    iterate 8 assumption
    rcases List.mem_append.mp hp with hp | hp
    · exact K.p4 p hp
    · exact htl p hp
  · refine hQ _ _ _ D _ 0 o4' F4 ⟨rfl, rfl, rfl, rfl⟩ ?_ d4' (by rw [waitsL_zero]; exact i1) fun p hp => ?_
    · refine news_sub N4 fun p hp => ?_
      have hp2 : p ∈ (D, listOf (List.replicate c.cn.toNat [Value.int 0 s.toks]).flatten.toArray 0) :: (c.wl, owl) :: (c.lv, olv) :: (c.ln, LCg.lst (c.xs.map Value.ref)) :: (c.pl, listOf c.pvs.toArray c.k) :: (c.cl, listOf c.cvs.toArray 0) :: (L + 1 + 1 + 1 + 1, o4') :: (L + 1 + 1 + 1, c.o3) :: (L + 1 + 1, c.o2) :: (L + 1, c.o1) :: (c.pt ++ tl) := hp
      simp only [List.mem_cons] at hp2 ⊢
      grind
    · have hp2 : p ∈ (c.wl, owl) :: (c.lv, olv) :: (c.ln, LCg.lst (c.xs.map Value.ref)) :: (c.pl, listOf c.pvs.toArray c.k) :: (c.cl, listOf c.cvs.toArray 0) :: (L + 1 + 1 + 1 + 1, o4') :: (L + 1 + 1 + 1, c.o3) :: (L + 1 + 1, c.o2) :: (L + 1, c.o1) :: (c.pt ++ tl) := hp
      simp only [List.mem_cons] at hp2
      have H : ∀ q, q ∈ c.fx L owl olv o4 ++ tl → q.1 ≠ D := fun q hq => Nat.ne_of_lt (hlt q hq)
      rcases hp2 with rfl | rfl | rfl | rfl | rfl | rfl | rfl | rfl | rfl | hp2
      iterate 5 exact H _ (by simp)
      · exact H (L + 1 + 1 + 1 + 1, o4) (by simp)
      iterate 3 exact H _ (by simp)
      · rcases List.mem_append.mp hp2 with hp2 | hp2
        · exact H p (by simp [hp2])
        · exact H p (by simp [hp2])
end
end Mine
namespace Mine
theorem rstL16 : True := by
  w_top off
  trivial
theorem fillL16 : PySem.Challenge.rw_fc0145_02.Holds → (∀ w : World, (hd.heap_39 w.params).In default) → True := by
  k_fill
  intros
  trivial
local macro_rules | `(tactic| k_steps) => `(tactic| repeat' (first | (k_unfold; (try dsimp only)) | walk1 | (dsimp only; walk1) | fail "no step"))
noncomputable def in11 : Stmt := (forBody (st 11))[0]!
/-- the word of the longest ways: r rounds and i pairs are over -/
def J11 (c : LC) (gl : Addr) (R : List (Addr × Obj)) (dn : List Nat) (r : Nat) (m : Str → Option Value) (nw : List (Addr × Obj)) : Prop :=
  c.Kn m ∧ ∃ gvs gq lon, nw = (gl, listOf (List.toArray gvs) gq) :: R ∧ IntsAre gvs (waitsL c lon) ∧ Far c.n c.es dn r 0 lon
def In11 (c : LC) (gl : Addr) (R ownO : List (Addr × Obj)) (dn : List Nat) (r i : Nat) (m : Str → Option Value) (nw : List (Addr × Obj)) : Prop :=
  c.Kn m ∧ ∃ gvs gq lon, nw = ((gl, listOf (List.toArray gvs) gq) :: R) ++ ownO ∧ OwnOff ownO (((gl, listOf (List.toArray gvs) gq) :: R).map (·.1)) ∧ IntsAre gvs (waitsL c lon) ∧ Far c.n c.es dn r i lon
section
variable {w : World} {base : Heap} {L fa gl : Addr} {cd : Value} {mg mb : Str → Option Value} {mean : ExcName → Option Value} {s : Shared} {Q : Flow → Shared → Prop} {E : Value → Shared → Prop}
  {m : Str → Option Value} {c : LC} {o4 olv owl : Obj} {nw tl own ownO : List (Addr × Obj)} {r i : Nat} {dn : List Nat} {v : Value}
local macro_rules | `(tactic| walk_at "setItem ref int") => `(tactic| (refine stop_it ?_))
local macro_rules | `(tactic| walk_at "pyIter ref") => `(tactic| (refine stop_it ?_))
local macro_rules | `(tactic| walk_at "execs cons") => `(tactic| (dsimp only))
local macro_rules | `(tactic| walk_at "execs nil") => `(tactic| (dsimp only))
theorem turn11 (B : Below callerA base [] base) (X : (hd.heap_39 w.params).In base) (T : Top VW LO mean mg mb base) (K : c.Ok L) (hD : Dn c.n c.es dn) (hr : r < c.n) (d4 : o4.data = .cell (some (.ref gl))) (hgl : ∀ p ∈ c.fx L owl olv o4 ++ tl, p.1 ≠ gl)
    (hv : c.pvs[i]? = some v) (ho : OwnOff own (nw.map (·.1))) (J : In11 c gl (c.fx L owl olv o4 ++ tl) ownO dn r i m nw) (F : Fr base L s.heap m) (N : News base L s.heap (nw ++ own)) :
    wpAny (model PR w) (callerA.deeper (lawEnv L fa cd)) (assign (forTgt in11) (lawEnv L fa cd) v) (fun _ s₃ => wpAny (model PR w) (callerA.deeper (lawEnv L fa cd)) (execs (forBody in11) (lawEnv L fa cd))
      (EndT base L (fun m' nx => (c.pl, listOf c.pvs.toArray c.k) ∈ nx ∧ In11 c gl (c.fx L owl olv o4 ++ tl) ownO dn r (i + 1) m' nx) own s) E s₃) E s := by
  conv => pattern (forTgt in11); whnf
  conv => pattern (forBody in11); whnf
  unfold lawEnv
  conv => pattern (occs := *) lawScope; all_goals whnf
  obtain ⟨hm, gvs, gq, lon, rfl, hoO, hI, H⟩ := J
  obtain ⟨p, a, t, u, hp, rfl, hmem⟩ := K.hP.get hv
  obtain ⟨x, y, rfl, hx, hy, hes⟩ := K.esGet hp
  dsimp only at hmem
  rw [← kn_eq [(Str.ofString "cells", .ref c.cl), (Str.ofString "nodes", .ref c.ln), (Str.ofString "done", .ref c.lv), (Str.ofString "waits", .ref c.wl)] (allC hm.cells (allC hm.nodes (allC hm.done (all1 hm.waits))))] at F
  dsimp only [kn] at F
  have d1 := K.d1
  have hcn := K.hcn
  have hptm : ∀ q ∈ c.pt, q ∈ c.fx L owl olv o4 := fun q hq => by repeat (first | exact hq | refine List.Mem.tail _ ?_)
  have hoG : ∀ q ∈ ownO ++ own, q.1 ≠ gl := fun q hq => by
    rcases List.mem_append.mp hq with hq | hq
    · exact hoO q hq gl (by simp)
    · exact ho q hq gl (by simp)
  have hd3 : @Ne Nat a gl := hgl _ (List.mem_append_left _ (hptm _ hmem))
  have N1 : News base L s.heap ((a, tupObj [.int (Int.ofNat x) t, .int (Int.ofNat y) u]) :: (gl, listOf gvs.toArray gq) :: (L + 1 + 1 + 1 + 1, o4) :: (L + 1, c.o1) :: ((c.fx L owl olv o4 ++ tl) ++ (ownO ++ own))) :=
    news_sub N fun q hq => by
      rcases List.mem_cons.mp hq with rfl | hq
      · exact List.mem_append_left _ (List.mem_append_left _ (.tail _ (List.mem_append_left _ (hptm _ hmem))))
      rcases List.mem_cons.mp hq with rfl | hq
      · simp
      rcases List.mem_cons.mp hq with rfl | hq
      · simp
      rcases List.mem_cons.mp hq with rfl | hq
      · simp
      rcases List.mem_append.mp hq with hq | hq
      · exact List.mem_append_left _ (List.mem_append_left _ (.tail _ hq))
      rcases List.mem_append.mp hq with hq | hq
      · exact List.mem_append_left _ (List.mem_append_right _ hq)
      · exact List.mem_append_right _ hq
  clear N
  generalize hRR : (c.fx L owl olv o4 ++ tl) ++ (ownO ++ own) = R at N1
  have hRg : ∀ q ∈ R, q.1 ≠ gl := fun q hq => by
    rw [← hRR] at hq
    rcases List.mem_append.mp hq with hq | hq
    · exact hgl q hq
    · exact hoG q hq
  have hlen : (waitsL c lon).length = c.n := waitsL_len
  have hgx : (waitsL c lon).getD (Int.ofNat x).toNat 0 = lon x := waitsL_get hx
  have hgy : (waitsL c lon).getD (Int.ofNat y).toNat 0 = lon y := waitsL_get hy
  have k0 : 0 ≤ Int.ofNat y := Int.natCast_nonneg _
  have k1 : Int.ofNat y < ((waitsL c lon).length : Int) := by rw [hlen]; exact Int.ofNat_lt.mpr hy
  have k2 : ((waitsL c lon).length : Int) ≤ 9 := by rw [hlen]; unfold LC.n; omega
  have j0 : 0 ≤ Int.ofNat x := Int.natCast_nonneg _
  have j1 : Int.ofNat x < ((waitsL c lon).length : Int) := by rw [hlen]; exact Int.ofNat_lt.mpr hx
  generalize hyy : Int.ofNat y = yy at F N1 hgy k0 k1
  generalize hxx : Int.ofNat x = xx at F N1 hgx j0 j1
  generalize hws : waitsL c lon = ws at hI hgx hgy hlen k1 k2 j1
  have hg4 : L + 1 + 1 + 1 + 1 ≠ gl := hgl (L + 1 + 1 + 1 + 1, o4) (by simp)
  have hg1 : L + 1 ≠ gl := hgl (L + 1, c.o1) (by simp)
  have hncn : ((c.n : Nat) : Int) = c.cn := by unfold LC.n; omega
  have hem : c.es[i]? = some (x, y) := hes
  have Ht := H.turn hD hr hem
  have toFx : ∀ (h' : Heap) (gvs' : List Value), News base L h' ((a, tupObj [.int xx t, .int yy u]) :: (gl, listOf gvs'.toArray gq) :: (L + 1 + 1 + 1 + 1, o4) :: (L + 1, c.o1) :: R) → News base L h' ((((gl, listOf gvs'.toArray gq) :: (c.fx L owl olv o4 ++ tl)) ++ ownO) ++ own) := fun h' gvs' N => news_sub N fun q hq => by
    rw [← hRR]
    simp only [List.cons_append, List.mem_cons, List.mem_append] at hq ⊢
    grind
  have fin : ∀ (h' : Heap) (tk : Nat) (m' : Str → Option Value) (gvs' : List Value) (lon' : Nat → Int), Fr base L h' m' → c.Kn m' → News base L h' ((a, tupObj [.int xx t, .int yy u]) :: (gl, listOf gvs'.toArray gq) :: (L + 1 + 1 + 1 + 1, o4) :: (L + 1, c.o1) :: R) → IntsAre gvs' (waitsL c lon') → Far c.n c.es dn r (i + 1) lon' →
      EndT base L (fun m' nx => (c.pl, listOf c.pvs.toArray c.k) ∈ nx ∧ In11 c gl (c.fx L owl olv o4 ++ tl) ownO dn r (i + 1) m' nx) own s .next { s with heap := h', toks := tk } := fun h' tk m' gvs' lon' F' k' N' I' H' => by
    refine ⟨rfl, InvEndG.intro F' (toFx _ _ N') (nx := ((gl, listOf gvs'.toArray gq) :: (c.fx L owl olv o4 ++ tl)) ++ ownO) ⟨?_, k', gvs', gq, lon', rfl, hoO, I', H'⟩ ho ?_ ?_⟩
    · simp
    · exact fun q hq => List.mem_append_left _ hq
    · exact fun q hq => List.mem_append_right _ hq
  k_steps
  · rename_i hle _ h5 _ F5 N5
    refine ⟨?_⟩
    refine ksa_set F5 N5 (.tail hd3 (.head ?_)) hI k0 k1 (by omega) fun h6 F6 N6 hi6 _ _ => ?_
    · intro p hp
      simp only [List.mem_cons] at hp
      rcases hp with rfl | rfl | hp
      · exact hg4
      · exact hg1
      · exact hRg p hp
    · k_steps
      refine fin _ _ _ _ _ F6 ⟨rfl, rfl, rfl, rfl⟩ N6 ?_ Ht
      have e : waitsL c (relax (c.n : Int) lon (x, y)) = ws.set yy.toNat (if c.cn < ws.getD xx.toNat 0 + 1 then c.cn else ws.getD xx.toNat 0 + 1) := by
        unfold relax
        rw [hgx, hgy] at hle
        rw [if_pos hle, ← waitsL_set, hws, hgx, hncn, ← hyy]
        show ws.set y _ = ws.set y _
        congr 1
        show min (lon x + 1) c.cn = _
        split <;> omega
      rw [e]
      exact hi6
  · rename_i F5 N5 _ _ hle
    refine fin _ _ _ _ _ F5 ⟨rfl, rfl, rfl, rfl⟩ N5 ?_ Ht
    have e : waitsL c (relax (c.n : Int) lon (x, y)) = ws := by
      unfold relax
      rw [hgx, hgy] at hle
      rw [if_neg hle, hws]
    rw [e]
    exact hI

theorem for11 (B : Below callerA base [] base) (F : Fr base L s.heap m) (X : (hd.heap_39 w.params).In base) (T : Top VW LO mean mg mb base) (K : c.Ok L) (hD : Dn c.n c.es dn) (hr : r < c.n) (d4 : o4.data = .cell (some (.ref gl))) (hgl : ∀ p ∈ c.fx L owl olv o4 ++ tl, p.1 ≠ gl)
    (J : J11 c gl (c.fx L owl olv o4 ++ tl) dn r m nw) (ho : OwnOff own (nw.map (·.1))) (N : News base L s.heap (nw ++ own))
    (hE : PassesOwn (model PR w) (callerA.deeper (lawEnv L fa cd)) (lawEnv L fa cd) E)
    (hQ : ∀ h' tk m' nx, Fr base L h' m' → News base L h' (nx ++ own) → OwnOff own (nx.map (·.1)) → J11 c gl (c.fx L owl olv o4 ++ tl) dn (r + 1) m' nx → Q .next { s with heap := h', toks := tk }) :
    wpAny (model PR w) (callerA.deeper (lawEnv L fa cd)) (exec in11 (lawEnv L fa cd)) Q E s := by
  conv => pattern in11; whnf
  unfold lawEnv
  conv => pattern (occs := *) lawScope; all_goals whnf
  have d2 := K.d2
  obtain ⟨hm, gvs, gq, lon, rfl, hI, H⟩ := J
  refine For_invTF F ?_ (by intro _; rfl) (hE := hE)
  have N1 : News base L s.heap ((L + 1 + 1, c.o2) :: ((gl, listOf gvs.toArray gq) :: (c.fx L owl olv o4 ++ tl) ++ own)) := news_sub N fun q hq => by
    rcases List.mem_cons.mp hq with rfl | hq
    · simp
    · exact hq
  generalize hR : (gl, listOf gvs.toArray gq) :: (c.fx L owl olv o4 ++ tl) ++ own = R at N1
  clear N
  k_steps
  refine ⟨?_⟩
  subst hR
  refine kdt_iter (vs := c.pvs) (nn := c.k) (In11 c gl (c.fx L owl olv o4 ++ tl) own dn r) rfl ?_ F (news_sub N1 fun q hq => .tail _ hq) ⟨hm, gvs, gq, lon, rfl, ho, hI, H⟩ ?_ ?_
  · simp
  · intro i v m₁ nx₁ s₁ own₁ hv hoff _ J F1 N1
    exact turn11 B X T K hD hr d4 hgl hv hoff J F1 N1
  · rintro m₁ nx₁ h tk ⟨hm1, gvs1, gq1, lon1, rfl, hoO, hI1, H1⟩ F1 N1
    refine hQ _ _ _ _ F1 N1 hoO ⟨hm1, gvs1, gq1, lon1, rfl, hI1, H1.round hD ?_⟩
    rw [K.hP.length]; unfold LC.es; rw [List.length_map]
local macro_rules | `(tactic| walk_at "exec For") => `(tactic| (refine stop_it ?_))
theorem seg11 (B : Below callerA base [] base) (F : Fr base L s.heap m) (X : (hd.heap_39 w.params).In base) (T : Top VW LO mean mg mb base) (K : c.Ok L) (hD : Dn c.n c.es dn) (d4 : o4.data = .cell (some (.ref gl))) (hgl : ∀ p ∈ c.fx L owl olv o4 ++ tl, p.1 ≠ gl)
    (J : J11 c gl (c.fx L owl olv o4 ++ tl) dn 0 m nw) (N : News base L s.heap nw)
    (hE : PassesOwn (model PR w) (callerA.deeper (lawEnv L fa cd)) (lawEnv L fa cd) E)
    (hQ : ∀ h' tk m' nx, Fr base L h' m' → News base L h' nx → J11 c gl (c.fx L owl olv o4 ++ tl) dn c.n m' nx → Q .next { s with heap := h', toks := tk }) :
    wpAny (model PR w) (callerA.deeper (lawEnv L fa cd)) (exec (st 11) (lawEnv L fa cd)) Q E s := by
  conv => pattern (st 11); whnf
  unfold lawEnv
  conv => pattern (occs := *) lawScope; all_goals whnf
  have d1 := K.d1
  have hcn := K.hcn
  have J0 := J
  obtain ⟨hm, gvs, gq, lon, rfl, hI, H⟩ := J
  clear hI H
  refine For_invVF F (by rfl) (by rfl) ?_ (hE := hE)
  have N1 : News base L s.heap ((L + 1, c.o1) :: ((gl, listOf gvs.toArray gq) :: (c.fx L owl olv o4 ++ tl))) := news_sub N fun q hq => by
    rcases List.mem_cons.mp hq with rfl | hq
    · simp
    · exact hq
  generalize hR : (gl, listOf gvs.toArray gq) :: (c.fx L owl olv o4 ++ tl) = R at N1 J0
  clear N
  k_steps
  refine ⟨?_⟩
  rename_i hR1 F4 N4 _
  refine range_loop (n := c.n) (J11 c gl (c.fx L owl olv o4 ++ tl) dn) rfl hR1 (small_one (by omega) (by omega) (by omega) (by omega)) (by rw [rangeSize_nat]; congr 1; unfold LC.n; omega) F4 (news_sub N4 fun q hq => .tail _ hq) J0 ?_ ?_
  · rintro i t m₁ nw h tk own hi hoff J F1 N1
    obtain ⟨hm1, rest⟩ := J
    have F2 := F1
    rw [← kn_eq [(Str.ofString "cells", .ref c.cl), (Str.ofString "nodes", .ref c.ln), (Str.ofString "done", .ref c.lv), (Str.ofString "waits", .ref c.wl)] (allC hm1.cells (allC hm1.nodes (allC hm1.done (all1 hm1.waits))))] at F2
    dsimp only [kn] at F2
    clear F1
    k_steps
    refine ⟨?_⟩
    change wpAny (model PR w) (callerA.deeper (lawEnv L fa cd)) (exec in11 (lawEnv L fa cd)) _ _ _
    refine for11 B F2 X T K hD hi d4 hgl ⟨⟨rfl, rfl, rfl, rfl⟩, rest⟩ hoff N1 hE fun h7 tk7 m7 nx7 F7 N7 o7 J7 => ?_
    k_steps
    exact InvEndG.intro F7 N7 J7 o7 (fun q hq => List.mem_append_left _ hq) (fun q hq => List.mem_append_right _ hq)
  · intro m₁ nx h tk J F1 N1
    exact hQ _ _ _ _ F1 N1 J
end
end Mine
namespace Mine
theorem rstL17 : True := by
  w_top off
  trivial
theorem fillL17 : PySem.Challenge.rw_fc0145_02.Holds → (∀ w : World, (hd.heap_39 w.params).In default) → True := by
  k_fill
  intros
  trivial
local macro_rules | `(tactic| k_steps) => `(tactic| repeat' (first | (k_unfold; (try dsimp only)) | walk1 | (dsimp only; walk1) | fail "no step"))
/-- the works whose longest way is below n, of the first i -/
def dueL (n : Nat) (lon : Nat → Int) (i : Nat) : List Nat := (List.range i).filter fun k => decide (lon k < n)
theorem dueL_succ {n i : Nat} {lon : Nat → Int} : dueL n lon (i + 1) = if lon i < n then dueL n lon i ++ [i] else dueL n lon i := by
  unfold dueL
  rw [List.range_succ, List.filter_append]
  by_cases h : lon i < n
  · rw [if_pos h, List.filter_cons_of_pos (p := fun k => decide (lon k < n)) (decide_eq_true h), List.filter_nil]
  · rw [if_neg h, List.filter_cons_of_neg (p := fun k => decide (lon k < n)) (by simp [h]), List.filter_nil, List.append_nil]
section
variable {w : World} {base : Heap} {L fa gl : Addr} {cd : Value} {mg mb : Str → Option Value} {mean : ExcName → Option Value} {s : Shared} {Q : Flow → Shared → Prop} {E : Value → Shared → Prop}
  {m : Str → Option Value} {c : LC} {o4 olv owl : Obj} {nw tl own ownO R : List (Addr × Obj)} {r i gq : Nat} {dn : List Nat} {v : Value} {gvs : List Value} {lon : Nat → Int}
local macro_rules | `(tactic| walk_at "CompSrcT") => `(tactic| (refine stop_it ?_))
local macro_rules | `(tactic| walk_at "execs cons") => `(tactic| (dsimp only))
local macro_rules | `(tactic| walk_at "execs nil") => `(tactic| (dsimp only))
theorem seg12 (F : Fr base L s.heap m) (X : (hd.heap_39 w.params).In base) (T : Top VW LO mean mg mb base) (K : c.Ok L) (d4 : o4.data = .cell (some (.ref gl)))
    (hm : c.Kn m) (N : News base L s.heap ((gl, listOf gvs.toArray gq) :: (c.fx L owl olv o4 ++ tl))) (hI : IntsAre gvs (waitsL c lon))
    (hQ : ∀ h' tk m' dl dvs, Fr base L h' m' → c.Kn m' → m' (Str.ofString "due") = some (.ref dl) → News base L h' ((dl, LCg.lst dvs) :: (gl, listOf gvs.toArray gq) :: (c.fx L owl olv o4 ++ tl)) → IntsAre dvs ((dueL c.n lon c.n).map Int.ofNat) → Q .next { s with heap := h', toks := tk }) :
    wpAny (model PR w) (callerA.deeper (lawEnv L fa cd)) (exec (st 12) (lawEnv L fa cd)) Q E s := by
  conv => pattern (st 12); whnf
  unfold lawEnv
  conv => pattern (occs := *) lawScope; all_goals whnf
  have d1 := K.d1
  have hcn := K.hcn
  rw [← kn_eq [(Str.ofString "cells", .ref c.cl), (Str.ofString "nodes", .ref c.ln), (Str.ofString "done", .ref c.lv), (Str.ofString "waits", .ref c.wl)] (allC hm.cells (allC hm.nodes (allC hm.done (all1 hm.waits))))] at F
  dsimp only [kn] at F
  have N1 : News base L s.heap ((gl, listOf gvs.toArray gq) :: (L + 1 + 1 + 1 + 1, o4) :: (L + 1, c.o1) :: (c.fx L owl olv o4 ++ tl)) := news_sub N fun q hq => by
    simp only [LC.fx, List.cons_append, List.mem_cons] at hq ⊢
    grind
  generalize hR : c.fx L owl olv o4 ++ tl = R at N1 hQ
  clear N
  refine LCt.Assign_ListComp_T F (by rfl) (by with_unfolding_all rfl) (by with_unfolding_all rfl) (by decide) (by rfl) (by decide) (by rfl) (by rfl) (by rfl) ?_
  k_steps
  refine ⟨?_⟩
  rename_i hR1 F4 N4 _
  refine LCt.CompSrcT.range (n := c.n) rfl F4 N4 hR1 (small_one (by omega) (by omega) (by omega) (by omega)) (by rw [rangeSize_nat]; congr 1; unfold LC.n; omega) (by rw [PySem.sizeLine_eq]; unfold LC.n; omega) fun g => ?_
  refine comp_invT (fun j zs nw => nw = (gl, listOf gvs.toArray gq) :: (L + 1 + 1 + 1 + 1, o4) :: (L + 1, c.o1) :: R ∧ IntsAre zs ((dueL c.n lon j).map Int.ofNat)) ⟨rfl, .nil⟩ ?_ ?_
  · rintro j v I oI C oC D m₂ zs nw h tk E' hj ⟨t, rfl⟩ ⟨rfl, hz⟩ hC hx F N off ne
    have hlen : (waitsL c lon).length = c.n := waitsL_len
    have e0 : (0 : Int) + (j : Int) = Int.ofNat j := by
      show (0 : Int) + (j : Int) = (j : Int)
      omega
    have hgj : (waitsL c lon).getD (Int.ofNat j).toNat 0 = lon j := waitsL_get hj
    have k0 : 0 ≤ Int.ofNat j := Int.natCast_nonneg _
    have k1 : Int.ofNat j < ((waitsL c lon).length : Int) := by rw [hlen]; exact Int.ofNat_lt.mpr hj
    have k2 : ((waitsL c lon).length : Int) ≤ 9 := by rw [hlen]; unfold LC.n; omega
    have hs := dueL_succ (n := c.n) (i := j) (lon := lon)
    have hncn : ((c.n : Nat) : Int) = c.cn := by unfold LC.n; omega
    rw [e0] at hx
    generalize hjj : Int.ofNat j = jj at hx hgj k0 k1
    generalize hws : waitsL c lon = ws at hI hgj hlen k1 k2
    k_steps
    · rename_i hlt
      refine LCg.CompEnd.intro F N _ (fun p hp => hp) off trivial ⟨rfl, ?_⟩
      rw [hs, if_pos (by omega), List.map_append, List.map_cons, List.map_nil, hjj]
      exact hz.append (.cons _ _ .nil)
    · rename_i hlt
      refine LCg.CompEnd.intro F N _ (fun p hp => hp) off trivial ⟨rfl, ?_⟩
      rw [hs, if_neg (by omega)]
      exact hz
  · rintro zs nw ⟨rfl, hz⟩ D h tk F5 N5 off
    refine hQ _ _ _ D zs F5 ⟨rfl, rfl, rfl, rfl⟩ rfl (news_sub N5 fun q hq => ?_) hz
    simp only [List.mem_cons] at hq ⊢
    grind
end
end Mine
namespace Mine
theorem rstL18 : True := by
  w_top off
  trivial
theorem fillL18 : PySem.Challenge.rw_fc0145_02.Holds → (∀ w : World, (hd.heap_39 w.params).In default) → True := by
  k_fill
  intros
  trivial
local macro_rules | `(tactic| k_steps) => `(tactic| repeat' (first | (k_unfold; (try dsimp only)) | walk1 | (dsimp only; walk1) | fail "no step"))
theorem due_perm {n i : Nat} {es : List (Nat × Nat)} {dn : List Nat} {lon : Nat → Int} (K : Dn n es dn) (H : Far n es dn n i lon) : dn.Perm (dueL n lon n) := by
  refine (List.perm_ext_iff_of_nodup K.nod (List.Pairwise.filter _ List.nodup_range)).mpr fun a => ?_
  rw [List.mem_filter, List.mem_range, decide_eq_true_eq]
  constructor
  · intro h
    have := K.lt a h
    exact ⟨this, (H.mem_iff K a this).mpr h⟩
  · rintro ⟨h1, h2⟩
    exact (H.mem_iff K a h1).mp h2
theorem due_sorted {n i : Nat} {lon : Nat → Int} : ((dueL n lon i).map Int.ofNat).Pairwise (· ≤ ·) := by
  rw [List.pairwise_map]
  refine List.Pairwise.imp (fun {a b} h => ?_) (List.Pairwise.filter _ List.pairwise_lt_range)
  exact Int.ofNat_le.mpr (Nat.le_of_lt h)
section
variable {w : World} {base : Heap} {L fa gl dl : Addr} {cd : Value} {mg mb : Str → Option Value} {mean : ExcName → Option Value} {s : Shared} {Q : Flow → Shared → Prop} {E : Value → Shared → Prop}
  {m : Str → Option Value} {c : LC} {o4 owl : Obj} {nw tl own ownO R : List (Addr × Obj)} {r i gq dq : Nat} {dn : List Nat} {v : Value} {gvs dvs uvs : List Value} {lon : Nat → Int} {nx pv : Addr → Option Addr}
local macro_rules | `(tactic| walk_at "CompSrc") => `(tactic| (refine stop_it ?_))
local macro_rules | `(tactic| walk_at "eval ListComp") => `(tactic| (refine stop_it ?_))
local macro_rules | `(tactic| walk_at "call ref") => `(tactic| (refine stop_it ?_))
local macro_rules | `(tactic| walk_at "call builtin:sorted") => `(tactic| (refine stop_it ?_))
local macro_rules | `(tactic| walk_at "call builtin:any") => `(tactic| (refine stop_it ?_))
local macro_rules | `(tactic| walk_at "execs cons") => `(tactic| (dsimp only))
local macro_rules | `(tactic| walk_at "execs nil") => `(tactic| (dsimp only))
local macro_rules | `(tactic| k_get) => `(tactic| assumption)
theorem seg13 (B : Below callerA base [] base) (F : Fr base L s.heap m) (X : (hd.heap_39 w.params).In base) (T : Top VW LO mean mg mb base) (K : c.Ok L) (i4 : isND o4 = false) (iw : isND owl = false)
    (hm : c.Kn m) (hdu : m (Str.ofString "due") = some (.ref dl)) (N : News base L s.heap ((dl, LCg.lst uvs) :: (gl, listOf gvs.toArray gq) :: (c.fx L owl (listOf dvs.toArray dq) o4 ++ tl)))
    (S : NS tl c.mt c.dm (c.h0 :: c.xs) c.da c.Ca c.at_ nx pv) (Y : Lk c.xs c.h0 nx pv [] dn)
    (hD : IntsAre dvs (dn.map Int.ofNat)) (hU : IntsAre uvs ((dueL c.n lon c.n).map Int.ofNat)) (hp : dn.Perm (dueL c.n lon c.n)) (hdn : dn.length ≤ c.n)
    (hQ : ∀ h' tk m' tl', Fr base L h' m' → c.Kn m' → News base L h' ((gl, listOf gvs.toArray gq) :: (c.fx L owl (listOf dvs.toArray dq) o4 ++ tl')) → Q .next { s with heap := h', toks := tk }) :
    wpAny (model PR w) (callerA.deeper (lawEnv L fa cd)) (exec (st 13) (lawEnv L fa cd)) Q E s := by
  conv => pattern (st 13); whnf
  unfold lawEnv
  conv => pattern (occs := *) lawScope; all_goals whnf
  have d3 := K.d3
  have hcn := K.hcn
  rw [← kn_eq [(Str.ofString "cells", .ref c.cl), (Str.ofString "nodes", .ref c.ln), (Str.ofString "done", .ref c.lv), (Str.ofString "waits", .ref c.wl), (Str.ofString "due", .ref dl)] (allC hm.cells (allC hm.nodes (allC hm.done (allC hm.waits (all1 hdu)))))] at F
  dsimp only [kn] at F
  obtain ⟨dh, es, nn, hl⟩ := hdIn N K S (fun p hp => .tail _ (.tail _ (List.mem_append_right _ hp)))
  have l3 := hl.no (Str.ofString "is_empty") (by decide +kernel) (by decide +kernel) (by decide +kernel) (by decide +kernel)
  have l4 := hl.no (Str.ofString "is_on_list") (by decide +kernel) (by decide +kernel) (by decide +kernel) (by decide +kernel)
  have N1 : News base L s.heap ((c.lv, listOf dvs.toArray dq) :: (dl, LCg.lst uvs) :: (L + 1 + 1 + 1, c.o3) :: (c.h0, instObj 108 dh) :: (dh, dictOf es nn) :: ((dl, LCg.lst uvs) :: (gl, listOf gvs.toArray gq) :: (c.fx L owl (listOf dvs.toArray dq) o4 ++ tl))) := news_sub N fun q hq => by
    have h1 := hl.i
    have h2 := hl.d
    rcases List.mem_cons.mp hq with rfl | hq
    · simp
    rcases List.mem_cons.mp hq with rfl | hq
    · simp
    rcases List.mem_cons.mp hq with rfl | hq
    · simp
    rcases List.mem_cons.mp hq with rfl | hq
    · exact h1
    rcases List.mem_cons.mp hq with rfl | hq
    · exact h2
    · exact hq
  clear N
  have hper : (dn.map Int.ofNat).Perm ((dueL c.n lon c.n).map Int.ofNat) := hp.map _
  have hsrt : ((dueL c.n lon c.n).map Int.ofNat).Pairwise (· ≤ ·) := due_sorted
  have hdl : (dn.map Int.ofNat).length ≤ 9 := by rw [List.length_map]; have : c.n ≤ 9 := by { unfold LC.n; omega }; omega
  generalize hR : (dl, LCg.lst uvs) :: (gl, listOf gvs.toArray gq) :: (c.fx L owl (listOf dvs.toArray dq) o4 ++ tl) = R at N1
  generalize hds : dn.map Int.ofNat = ds at hD hper hdl
  generalize hus : (dueL c.n lon c.n).map Int.ofNat = us at hU hper hsrt
  k_steps
  refine ⟨?_⟩
  refine kso_sorted F N1 (News.isList N1 (.head _)) hD (by omega) fun D vs' ns' q h1 F2 N2 _ i2 _ p2 o2 _ => ?_
  obtain rfl : ns' = us := ksm_same (p2.trans hper) o2 hsrt
  clear N1 F
  have toFx : ∀ h', News base L h' ((D, listOf vs'.toArray q) :: (c.lv, listOf dvs.toArray dq) :: (dl, LCg.lst uvs) :: (L + 1 + 1 + 1, c.o3) :: (c.h0, instObj 108 dh) :: (dh, dictOf es nn) :: R) → News base L h' ((((gl, listOf gvs.toArray gq) :: c.fx L owl (listOf dvs.toArray dq) o4) ++ tl) ++ []) := fun h' N => news_sub N fun q hq => by
    rw [← hR]
    rw [List.append_nil] at hq
    exact .tail _ (.tail _ (.tail _ (.tail _ (.tail _ (.tail _ (.tail _ hq))))))
  have ndF : ∀ p ∈ (gl, listOf gvs.toArray gq) :: c.fx L owl (listOf dvs.toArray dq) o4, isND p.2 = false := fun p hp => by
    rcases List.mem_cons.mp hp with rfl | hp
    · rfl
    · exact K.fxND iw rfl i4 p hp
  k_steps
  refine ⟨?_⟩
  show wpAny _ _ (call (Value.ref 49) [Value.ref _] []) _ _ _
  refine empty_law (fx := (gl, listOf gvs.toArray gq) :: c.fx L owl (listOf dvs.toArray dq) o4) (tl := tl) (own := []) F2 (toFx _ N2) ndF (fun p hp => by cases hp) S K.hd Y.nil.1 Y.nil.2 B X T rfl rfl fun h3 tk3 tl3 F3 N3 _ S3 => ?_
  clear F2 N2
  rw [List.append_nil] at N3
  clear hR toFx
  generalize hfx : (gl, listOf gvs.toArray gq) :: c.fx L owl (listOf dvs.toArray dq) o4 = fx at N3 ndF
  have hln : (c.ln, LCg.lst (c.xs.map Value.ref)) ∈ fx := by rw [← hfx]; simp
  have hl3 : (L + 1 + 1 + 1, c.o3) ∈ fx := by rw [← hfx]; simp
  have hxl : c.xs.length ≤ 9 := by rw [K.hxl]; omega
  k_steps
  refine ⟨?_⟩
  refine LCg.ListComp_U (F₀ := by k_asm) (by with_unfolding_all rfl) (by decide) (by rfl) (by decide) (by rfl) ?_
  k_steps
  refine ⟨?_⟩
  refine LCg.CompSrc.ledger rfl F3 N3 (List.mem_append_left _ hln) (by rw [List.size_toArray, List.length_map, PySem.sizeLine_eq]; omega) fun g => ?_
  rw [List.size_toArray]
  refine comp_inv (fun j zs nw => ∃ tl', nw = fx ++ tl' ∧ NS tl' c.mt c.dm (c.h0 :: c.xs) c.da c.Ca c.at_ nx pv ∧ LSm.BoolsAre zs (List.replicate j false)) ⟨tl3, rfl, S3, .nil⟩ ?_ ?_
  · rintro j v I oI C oC D2 m₂ zs nw h tk E' hj hv ⟨tl4, rfl, S4, hz⟩ hC hx F4 N4 off ne
    have hv' : (c.xs.map Value.ref)[j]? = some v := by simpa using hv
    have hj' : j < c.xs.length := by
      have := (List.getElem?_eq_some_iff.mp hv').1
      rwa [List.length_map] at this
    rw [List.getElem?_map, ad_get hj'] at hv'
    obtain rfl : v = .ref (ad c.xs j) := (Option.some.inj hv').symm
    obtain ⟨dh2, es2, nn2, hl2⟩ := hdIn N4 K S4 (fun p hp => .tail _ (.tail _ (.tail _ (List.mem_append_right _ hp))))
    have g4 := hl2.no (Str.ofString "is_on_list") (by decide +kernel) (by decide +kernel) (by decide +kernel) (by decide +kernel)
    have N5 : News base L h ((L + 1 + 1 + 1, c.o3) :: (c.h0, instObj 108 dh2) :: (dh2, dictOf es2 nn2) :: ((I, oI) :: (C, oC) :: (D2, LCg.lst zs) :: (fx ++ tl4))) := news_sub N4 fun q hq => by
      rcases List.mem_cons.mp hq with rfl | hq
      · exact .tail _ (.tail _ (.tail _ (List.mem_append_left _ hl3)))
      rcases List.mem_cons.mp hq with rfl | hq
      · exact hl2.i
      rcases List.mem_cons.mp hq with rfl | hq
      · exact hl2.d
      · exact hq
    have o3 := off.mem
    have hoI : OwnOff [(I, oI), (C, oC), (D2, LCg.lst zs)] (tl4.map (·.1)) := fun p hp b hb => by
      obtain ⟨q, hq, rfl⟩ := List.mem_map.mp hb
      have := o3 q (List.mem_append_right _ hq)
      simp only [List.mem_cons, List.not_mem_nil, or_false] at hp
      rcases hp with rfl | rfl | rfl
      · exact Ne.symm this.1
      · exact Ne.symm this.2.1
      · exact Ne.symm this.2.2
    have hst : (nx (ad c.xs j) = none ∧ pv (ad c.xs j) = none) ∨ (nx (ad c.xs j) = some (ad c.xs j) ∧ pv (ad c.xs j) = some (ad c.xs j)) := by
      by_cases hjd : j ∈ dn
      · exact .inr (Y.pd j hjd)
      · exact .inl (Y.un j hj' (fun h => nomatch h) hjd)
    have N6 : News base L h (fx ++ tl4 ++ [(I, oI), (C, oC), (D2, LCg.lst zs)]) := news_sub N4 fun q hq => by
      simp only [List.mem_cons, List.mem_append, List.not_mem_nil, or_false] at hq ⊢
      grind
    replace N6 := Stop.mk N6
    clear N4
    k_steps
    refine ⟨?_⟩
    show wpAny _ _ (call (Value.ref 63) [Value.ref _, Value.ref _] []) _ _ _
    refine isOn_law (fx := fx) (tl := tl4) (own := [(I, oI), (C, oC), (D2, LCg.lst zs)]) F4 N6.it ndF hoI S4 K.hd (.tail _ (ad_mem hj')) hst B X T rfl rfl fun h7 tk7 tl7 F7 N7 o7 S7 => ?_
    refine LCg.CompEnd.intro F7 N7 (fx ++ tl7) (fun q hq => ?_) (LCg.Off3.of fun q hq => ?_) (.inr ⟨_, List.mem_append_left _ hln, rfl, _, rfl⟩) ⟨tl7, rfl, S7, ?_⟩
    · simp only [List.mem_cons, List.mem_append, List.not_mem_nil, or_false] at hq ⊢
      grind
    · rcases List.mem_append.mp hq with hq | hq
      · exact o3 q (List.mem_append_left _ hq)
      · have hb : q.1 ∈ tl7.map (·.1) := List.mem_map.mpr ⟨q, hq, rfl⟩
        exact ⟨Ne.symm (o7 (I, oI) (by simp) q.1 hb), Ne.symm (o7 (C, oC) (by simp) q.1 hb), Ne.symm (o7 (D2, LCg.lst zs) (by simp) q.1 hb)⟩
    · rw [List.replicate_succ']
      exact kbo_app hz (.cons _ .nil)
  · rintro zs nw ⟨tl4, rfl, S4, hz⟩ D2 h tk F4 N4 off
    k_steps
    refine ⟨?_⟩
    refine LSm.any_bools F4 N4 rfl (News.isList N4 (.head _)) hz fun h8 tk8 F8 N8 => ?_
    have e : ∀ n : Nat, (List.replicate n false).any id = false := fun n => by simp
    rw [e]
    k_steps
    exact hQ _ _ _ tl4 F8 ⟨rfl, rfl, rfl, rfl⟩ (news_sub N8 fun q hq => .tail _ (by rw [← hfx]; exact hq))
end
end Mine
namespace Mine
theorem rstL19 : True := by
  w_top off
  trivial
theorem fillL19 : PySem.Challenge.rw_fc0145_02.Holds → (∀ w : World, (hd.heap_39 w.params).In default) → True := by
  k_fill
  intros
  trivial
local macro_rules | `(tactic| k_steps) => `(tactic| repeat' (first | (k_unfold; (try dsimp only)) | walk1 | (dsimp only; walk1) | fail "no step"))
section
variable {w : World} {base : Heap} {L fa gl ll : Addr} {cd : Value} {mg mb : Str → Option Value} {mean : ExcName → Option Value} {s : Shared} {Q : Flow → Shared → Prop} {E : Value → Shared → Prop}
  {m : Str → Option Value} {c : LC} {o4 owl : Obj} {nw tl own ownO R : List (Addr × Obj)} {r i gq dq : Nat} {dn : List Nat} {v : Value} {gvs dvs lvs : List Value} {lon : Nat → Int} {nx pv : Addr → Option Addr}
local macro_rules | `(tactic| walk_at "CompSrc") => `(tactic| (refine stop_it ?_))
local macro_rules | `(tactic| walk_at "call builtin:sorted") => `(tactic| (refine stop_it ?_))
local macro_rules | `(tactic| walk_at "execs cons") => `(tactic| (dsimp only))
local macro_rules | `(tactic| walk_at "execs nil") => `(tactic| (dsimp only))
theorem seg14 (F : Fr base L s.heap m) (X : (hd.heap_39 w.params).In base) (T : Top VW LO mean mg mb base) (K : c.Ok L) (d4 : o4.data = .cell (some (.ref gl)))
    (hm : c.Kn m) (N : News base L s.heap ((gl, listOf gvs.toArray gq) :: (c.fx L owl (listOf dvs.toArray dq) o4 ++ tl))) (hI : IntsAre gvs (waitsL c lon)) (hD : IntsAre dvs (dn.map Int.ofNat)) (hdn : dn.length ≤ c.n) (hlt : ∀ j ∈ dn, j < c.n)
    (hQ : ∀ h' tk m' ll lvs, Fr base L h' m' → c.Kn m' → m' (Str.ofString "layers") = some (.ref ll) → News base L h' ((ll, LCg.lst lvs) :: (gl, listOf gvs.toArray gq) :: (c.fx L owl (listOf dvs.toArray dq) o4 ++ tl)) → IntsAre lvs (dn.map lon) → Q .next { s with heap := h', toks := tk }) :
    wpAny (model PR w) (callerA.deeper (lawEnv L fa cd)) (exec (st 14) (lawEnv L fa cd)) Q E s := by
  conv => pattern (st 14); whnf
  unfold lawEnv
  conv => pattern (occs := *) lawScope; all_goals whnf
  have hcn := K.hcn
  rw [← kn_eq [(Str.ofString "cells", .ref c.cl), (Str.ofString "nodes", .ref c.ln), (Str.ofString "done", .ref c.lv), (Str.ofString "waits", .ref c.wl)] (allC hm.cells (allC hm.nodes (allC hm.done (all1 hm.waits))))] at F
  dsimp only [kn] at F
  have N1 : News base L s.heap ((gl, listOf gvs.toArray gq) :: (L + 1 + 1 + 1 + 1, o4) :: (c.lv, listOf dvs.toArray dq) :: (c.fx L owl (listOf dvs.toArray dq) o4 ++ tl)) := news_sub N fun q hq => by
    rcases List.mem_cons.mp hq with rfl | hq
    · simp
    rcases List.mem_cons.mp hq with rfl | hq
    · simp
    rcases List.mem_cons.mp hq with rfl | hq
    · simp
    · exact .tail _ hq
  generalize hR : c.fx L owl (listOf dvs.toArray dq) o4 ++ tl = R at N1 hQ
  clear N
  refine LCg.Assign_ListComp_U F (by rfl) (by with_unfolding_all rfl) (by with_unfolding_all rfl) (by decide) (by rfl) (by decide) (by rfl) (by rfl) (by rfl) ?_
  k_steps
  refine ⟨?_⟩
  have h9 : c.n ≤ 9 := by unfold LC.n; omega
  have hdl : dvs.length = dn.length := by rw [hD.length, List.length_map]
  refine LCg.CompSrc.ledger rfl F N1 (.tail _ (.tail _ (.head _))) (by rw [List.size_toArray, hdl, PySem.sizeLine_eq]; omega) fun g => ?_
  rw [List.size_toArray]
  refine comp_inv (fun j zs nw => nw = (gl, listOf gvs.toArray gq) :: (L + 1 + 1 + 1 + 1, o4) :: (c.lv, listOf dvs.toArray dq) :: R ∧ IntsAre zs ((dn.take j).map lon)) ⟨rfl, .nil⟩ ?_ ?_
  · rintro j v I oI C oC D m₂ zs nw h tk E' hj hv ⟨rfl, hz⟩ hC hx F N off ne
    have hj' : j < dn.length := by omega
    have hdj : dn[j]? = some dn[j] := List.getElem?_eq_getElem hj'
    have hmem : dn[j] ∈ dn := List.getElem_mem hj'
    obtain ⟨t, ht⟩ := hD.get j (Int.ofNat dn[j]) (by rw [List.getElem?_map, hdj]; rfl)
    have hv' : dvs[j]? = some v := by simpa using hv
    rw [ht] at hv'
    obtain rfl := Option.some.inj hv'
    have hw := hlt _ hmem
    have hs : dn.take (j + 1) = dn.take j ++ [dn[j]] := by rw [List.take_add_one, hdj]; rfl
    generalize dn[j] = wj at *
    have hlen : (waitsL c lon).length = c.n := waitsL_len
    have hgj : (waitsL c lon).getD (Int.ofNat wj).toNat 0 = lon wj := waitsL_get hw
    have k0 : 0 ≤ Int.ofNat wj := Int.natCast_nonneg _
    have k1 : Int.ofNat wj < ((waitsL c lon).length : Int) := by rw [hlen]; exact Int.ofNat_lt.mpr hw
    have k2 : ((waitsL c lon).length : Int) ≤ 9 := by rw [hlen]; unfold LC.n; omega
    generalize hjj : Int.ofNat wj = jj at hx hgj k0 k1
    generalize hws : waitsL c lon = ws at hI hgj hlen k1 k2
    k_steps
    refine LCg.CompEnd.intro F N _ (fun p hp => hp) off (.inr ⟨_, .tail _ (.tail _ (.head _)), rfl, _, rfl⟩) ⟨rfl, ?_⟩
    rw [hs, List.map_append, hgj]
    exact hz.append (.cons _ _ .nil)
  · rintro zs nw ⟨rfl, hz⟩ D h tk F5 N5 off
    refine hQ _ _ _ D zs F5 ⟨rfl, rfl, rfl, rfl⟩ rfl (news_sub N5 fun q hq => ?_) (by rw [hdl, List.take_length] at hz; exact hz)
    simp only [List.mem_cons] at hq ⊢
    grind
theorem seg15 (F : Fr base L s.heap m) (X : (hd.heap_39 w.params).In base) (T : Top VW LO mean mg mb base) (K : c.Ok L)
    (hm : c.Kn m) (hl : m (Str.ofString "layers") = some (.ref ll)) (N : News base L s.heap ((ll, LCg.lst lvs) :: (gl, listOf gvs.toArray gq) :: (c.fx L owl (listOf dvs.toArray dq) o4 ++ tl))) (hI : IntsAre lvs (dn.map lon)) (hdn : dn.length ≤ c.n)
    (hs : c.fl = false → (dn.map lon).Pairwise (· ≤ ·))
    (hQ : ∀ h' tk m', Fr base L h' m' → Q (.ret (.bool true)) { s with heap := h', toks := tk }) :
    wpAny (model PR w) (callerA.deeper (lawEnv L fa cd)) (exec (st 15) (lawEnv L fa cd)) Q E s := by
  conv => pattern (st 15); whnf
  unfold lawEnv
  conv => pattern (occs := *) lawScope; all_goals whnf
  have hcn := K.hcn
  have hcs := K.hcs
  have hIc := K.hI
  rw [← kn_eq [(Str.ofString "cells", .ref c.cl), (Str.ofString "layers", .ref ll)] (allC hm.cells (all1 hl))] at F
  dsimp only [kn] at F
  have N1 : News base L s.heap ((ll, LCg.lst lvs) :: (c.cl, listOf c.cvs.toArray 0) :: (gl, listOf gvs.toArray gq) :: (c.fx L owl (listOf dvs.toArray dq) o4 ++ tl)) := news_sub N fun q hq => by
    rcases List.mem_cons.mp hq with rfl | hq
    · simp
    rcases List.mem_cons.mp hq with rfl | hq
    · simp
    · exact .tail _ hq
  generalize (gl, listOf gvs.toArray gq) :: (c.fx L owl (listOf dvs.toArray dq) o4 ++ tl) = R at N1
  clear N
  have hfl : (c.cs.getD (Int.toNat 13) 0).fmod 3 ≠ 2 → (dn.map lon).Pairwise (· ≤ ·) := fun h => hs (decide_eq_false h)
  have hdl : (dn.map lon).length ≤ 9 := by rw [List.length_map]; have : c.n ≤ 9 := by { unfold LC.n; omega }; omega
  generalize hds : dn.map lon = ds at hI hfl hdl
  k_steps
  · rename_i hf
    have e : ((c.cs.getD (Int.toNat 13) 0).fmod 3 == 2) = true := by rw [hf]; rfl
    rw [e]
    exact hQ _ _ _ F
  · rename_i hf
    refine ⟨?_⟩
    refine kso_sorted F N1 (News.isList N1 (.head _)) hI (by omega) fun D vs' ns' q h1 F2 N2 _ i2 _ p2 o2 _ => ?_
    obtain rfl : ns' = ds := ksm_same p2 o2 (hfl hf)
    clear N1 F
    k_steps
    exact hQ _ _ _ F2
end
end Mine
namespace Mine
theorem fillL20 : PySem.Challenge.rw_fc0145_02.Holds → (∀ w : World, (hd.heap_39 w.params).In default) → True := by
  k_fill
  intros
  trivial
section
variable {M : Model} {A : Around} {env : Env} {Q : Flow → Shared → Prop} {E : Value → Shared → Prop} {s : Shared}
theorem execs_appW {Γ : Ctx} {P : Flow → Pos → Shared → Prop} {X : Value → Pos → Shared → Prop} {bs : List Stmt} : ∀ {as : List Stmt} {p : Pos} {s : Shared},
    Sem.wp M Γ (execs as env) (fun f p' s' => match f with | .next => Sem.wp M Γ (execs bs env) P X p' s' | f => P f p' s') X p s → Sem.wp M Γ (execs (as ++ bs) env) P X p s
  | [], p, s, h => h
  | a :: as, p, s, h => by
    rw [execs_cons, Sem.wp_bind'] at h
    rw [List.cons_append, execs_cons, Sem.wp_bind']
    refine Sem.wp_mono M Γ _ (fun f p' s' h' => ?_) (fun _ _ _ h' => h') _ _ h
    cases f <;> first | exact execs_appW h' | exact h'
theorem execs_app {as bs : List Stmt} {s : Shared} (h : wpAny M A (execs as env) (fun f s' => match f with | .next => wpAny M A (execs bs env) Q E s' | f => Q f s') E s) : wpAny M A (execs (as ++ bs) env) Q E s := fun Γ p hΓ => by
  refine execs_appW (Sem.wp_mono M Γ _ (fun f p' s' h' => ?_) (fun _ _ _ h' => h') _ _ (h Γ p hΓ))
  cases f <;> first | exact h' Γ p' hΓ | exact h'
theorem execs_one {a : Stmt} {s : Shared} (h : wpAny M A (exec a env) Q E s) : wpAny M A (execs [a] env) Q E s := wpAny_execs_cons (wpAny_mono h (fun f s' h' => by cases f <;> first | exact wpAny_execs_nil h' | exact h') fun _ _ e => e)
end

theorem cnt_open {ps : List (Int × Int)} {n : Nat} (hB : ∀ p ∈ ps, (0 ≤ p.1 ∧ p.1 < n) ∧ 0 ≤ p.2 ∧ p.2 < n) (j : Nat) : cntTo ps (Int.ofNat j) = open_ (ps.map fun p => (p.1.toNat, p.2.toNat)) [] j := by
  unfold cntTo open_
  rw [List.countP_eq_length_filter, List.filter_map, List.length_map]
  congr 1
  refine List.filter_congr fun p hp => ?_
  have := hB p hp
  show (p.2 == Int.ofNat j) = decide (p.2.toNat = j ∧ p.1.toNat ∉ [])
  rw [Bool.eq_iff_iff, beq_iff_eq, decide_eq_true_eq]
  constructor
  · intro h
    refine ⟨?_, by simp⟩
    rw [h]; rfl
  · rintro ⟨h, _⟩
    show p.2 = (j : Int)
    omega
section
variable {w : World} {base : Heap} {L fa sc : Addr} {cd : Value} {mg mb : Str → Option Value} {mean : ExcName → Option Value} {s : Shared} {Q : Flow → Shared → Prop} {E : Value → Shared → Prop}
  {vs : List Value} {ns : List Int} {o1 o2 o3 o4 : Obj}
theorem law_back {c : LC} {m : Str → Option Value} {wvs : List Value} {tl : List (Addr × Obj)} {nx pv : Addr → Option Addr} (B : Below callerA base [] base) (F : Fr base L s.heap m) (X : (hd.heap_39 w.params).In base) (T : Top VW LO mean mg mb base)
    (K : c.Ok L) (hm : c.Kn m) (ha : m (Str.ofString "ahead") = some .none) (N : News base L s.heap (c.fx L (LCg.lst wvs) (listOf #[] 0) o4 ++ tl)) (d4 : o4.data = .cell none)
    (hW : IntsAre wvs (waitsL c fun j => (cntTo c.ps (Int.ofNat j) : Int)))
    (S : NS tl c.mt c.dm (c.h0 :: c.xs) c.da c.Ca c.at_ nx pv) (Y : Lk c.xs c.h0 nx pv [] [])
    (hE : PassesOwn (model PR w) (callerA.deeper (lawEnv L fa cd)) (lawEnv L fa cd) E)
    (hQ : ∀ h' tk m', Fr base L h' m' → Q (.ret (.bool true)) { s with heap := h', toks := tk }) :
    wpAny (model PR w) (callerA.deeper (lawEnv L fa cd)) (execs ([st 8] ++ ([st 9] ++ ([st 10] ++ ([st 11] ++ [st 12, st 13, st 14, st 15])))) (lawEnv L fa cd)) Q E s := by
  have i4 : isND o4 = false := by unfold isND; rw [d4]
  have hcn := K.hcn
  have hBn : ∀ p ∈ c.ps, (0 ≤ p.1 ∧ p.1 < (c.n : Nat)) ∧ 0 ≤ p.2 ∧ p.2 < (c.n : Nat) := fun p hp => by
    have := K.hB p hp
    unfold LC.n
    omega
  have hes : ∀ e ∈ c.es, e.1 < c.n ∧ e.2 < c.n := fun e he => by
    obtain ⟨p, hp, rfl⟩ := List.mem_map.mp he
    have := hBn p hp
    show p.1.toNat < c.n ∧ p.2.toNat < c.n
    omega
  refine execs_app (execs_one ?_)
  with_reducible refine seg8 (ws := waitsL c fun j => (cntTo c.ps (Int.ofNat j) : Int)) B F X T K hm ha N d4 hW ?_ S Y hE ?_
  · rfl
  intro h6 tk6 m6 nw6 F6 N6 J6
  dsimp only
  obtain ⟨hm6, ha6, tl6, nx6, pv6, rfl, S6, Y6⟩ := J6
  refine execs_app (execs_one ?_)
  have J90 : J9 c L o4 0 m6 (c.fx L (LCg.lst wvs) (listOf #[] 0) o4 ++ tl6) := ⟨hm6, tl6, nx6, pv6, wvs, wvs.length, fun j => (cntTo c.ps (Int.ofNat j) : Int), _, [], none, .none, [], 0, rfl, S6, Y6, hW, Kahn.init fun j hj => by rw [cnt_open hBn j]; rfl, .nil, ha6, rfl, (fun a h => by cases h), rfl⟩
  with_reducible refine seg9 B F6 X T K i4 J90 N6 hE ?_
  intro h7 tk7 m7 nw7 F7 N7 J7
  dsimp only
  obtain ⟨hm7, tl7, nx7, pv7, wvs7, wk7, W7, dn, dvs, dq, rfl, S7, Y7, K7, hD7⟩ := J7
  have hDn := K7.dn hes
  have hdn := len_le_of_lt c.n dn hDn.nod hDn.lt
  refine execs_app (execs_one ?_)
  with_reducible refine seg10 F7 X T K d4 hm7 N7 S7 ?_
  intro h8 tk8 m8 gl gvs0 gq0 o4' F8 hm8 N8 d4' hG hgl
  dsimp only
  have i4' : isND o4' = false := by unfold isND; rw [d4']
  have J110 : J11 c gl (c.fx L (listOf wvs7.toArray wk7) (listOf dvs.toArray dq) o4' ++ tl7) dn 0 m8 ((gl, listOf gvs0.toArray gq0) :: (c.fx L (listOf wvs7.toArray wk7) (listOf dvs.toArray dq) o4' ++ tl7)) := ⟨hm8, gvs0, gq0, _, rfl, hG, Far.zero hDn⟩
  refine execs_app (execs_one ?_)
  with_reducible refine seg11 B F8 X T K hDn d4' hgl J110 N8 hE ?_
  intro h9 tk9 m9 nw9 F9 N9 J9
  dsimp only
  obtain ⟨hm9, gvs, gq, lon, rfl, hG9, H9⟩ := J9
  refine wpAny_execs_cons ?_
  with_reducible refine seg12 F9 X T K d4' hm9 N9 hG9 ?_
  intro hA tkA mA dl uvs FA hmA hdu NA hU
  dsimp only
  refine wpAny_execs_cons ?_
  have iw7 : isND (listOf wvs7.toArray wk7) = false := rfl
  with_reducible refine seg13 B FA X T K i4' iw7 hmA hdu NA S7 Y7 hD7 hU (due_perm hDn H9) hdn ?_
  intro hB tkB mB tlB FB hmB NB
  dsimp only
  refine wpAny_execs_cons ?_
  with_reducible refine seg14 FB X T K d4' hmB NB hG9 hD7 hdn hDn.lt ?_
  intro hC tkC mC ll lvs FC hmC hll NC hLv
  dsimp only
  refine wpAny_execs_cons ?_
  have hsort : c.fl = false → (dn.map lon).Pairwise (· ≤ ·) := fun hf => by
    have hff := K7.ff hf
    rw [List.append_nil] at hff
    have hso := H9.sorted hDn hff
    rw [List.pairwise_map, List.pairwise_iff_getElem]
    intro i j hi hj hij
    exact hso j i _ _ hij (List.getElem?_eq_getElem hi) (List.getElem?_eq_getElem hj)
  with_reducible refine seg15 FC X T K hmC hll NC hLv hdn hsort ?_
  intro hZ tkZ mZ FZ
  exact hQ _ _ _ FZ
theorem law_all (B : Below callerA base [] base) (F : Fr base L s.heap (fun y => if y = Str.ofString "script" then some (.ref sc) else none)) (X : (hd.heap_39 w.params).In base) (T : Top VW LO mean mg mb base)
    (N : News base L s.heap [(L + 1 + 1 + 1 + 1, o4), (L + 1 + 1 + 1, o3), (L + 1 + 1, o2), (L + 1, o1)])
    (d4 : o4.data = .cell none) (d3 : o3.data = .cell none) (d2 : o2.data = .cell none) (d1 : o1.data = .cell none)
    (hL : base.IsList sc vs.toArray) (hI : IntsAre vs ns) (hn : ns.length ≤ 63)
    (hE : PassesOwn (model PR w) (callerA.deeper (lawEnv L fa cd)) (lawEnv L fa cd) E)
    (hQ : ∀ h' tk m', Fr base L h' m' → Q (.ret (.bool true)) { s with heap := h', toks := tk }) :
    wpAny (model PR w) (callerA.deeper (lawEnv L fa cd)) (execs lawBody (lawEnv L fa cd)) Q E s := by
  rw [lawBody_eq]
  simp only [List.append_assoc]
  refine execs_app ?_
  with_reducible refine segA B F X T N d4 d3 d2 d1 hL hI hn ?_
  intro h1 tk1 m1 cl pl0 cvs cs o1' o2a t t1 F1 mc mt N1 hI1 hcs e1 e2 l1 l2
  dsimp only
  have hcn : 2 ≤ 2 + (cs.getD 0 0).fmod 8 ∧ 2 + (cs.getD 0 0).fmod 8 ≤ 9 := by
    have a := Int.fmod_nonneg_of_pos (cs.getD 0 0) (b := 8) (by decide)
    have b := Int.fmod_lt_of_pos (cs.getD 0 0) (b := 8) (by decide)
    omega
  generalize 2 + (cs.getD 0 0).fmod 8 = cn at e1 hcn
  refine execs_app (execs_one ?_)
  with_reducible refine seg3 B F1 X T mc mt N1 hI1 hcs e1 e2 hcn l1 l2 hE ?_
  intro h2 tk2 m2 pvs0 ps0 k0 pt0 F2 mc2 N2 hP0 hB0 hpl0 hpt0
  dsimp only
  refine execs_app (execs_one ?_)
  with_reducible refine seg4 B F2 X T mc2 N2 hI1 hcs e1 e2 hcn l1 l2 hP0 hB0 hpl0 hpt0 hE ?_
  intro h3 tk3 m3 pl pvs ps k pt o2' F3 mc3 N3 e2' l3 hP hB hpl hpt
  dsimp only
  refine execs_app ?_
  with_reducible refine seg5 B F3 X T mc3 N3 e1 e2' d3 d4 hcn l1 l3 hpt ?_
  intro h4 tk4 m4 mk dmk h0 xs ln lv tl da Ca at_ nx pv o3' F4 mc4 mn4 md4 ma4 N4 e3 Z hxl hnx hpv hun llv hX
  dsimp only
  refine execs_app (execs_one ?_)
  with_reducible refine seg7 B F4 X T mc4 mn4 md4 ma4 N4 e1 e2' hcn hP hpl ?_
  intro h5 tk5 m5 wl ws wvs F5 mw5 mc5 mn5 md5 ma5 N5 hW hws hwl
  dsimp only
  have hcW : True := trivial
  obtain ⟨c, hc⟩ : ∃ c : LC, c = { cl := cl, pl := pl, ln := ln, lv := lv, wl := wl, mt := mk, dm := dmk, h0 := h0, cvs := cvs, pvs := pvs, cs := cs, k := k, xs := xs, pt := pt, o1 := o1', o2 := o2', o3 := o3', cn := cn, t1 := t1, ps := ps, da := da, Ca := Ca, at_ := at_ } := ⟨_, rfl⟩
  have hcnn : ((cn.toNat : Nat) : Int) = cn := by omega
  have K : c.Ok L := by
    have X1 := fun q hq => hX q hq
    have Xpl : pl ≠ ln ∧ @LT.lt Nat _ pl lv := hX (pl, listOf pvs.toArray k) (by simp)
    have Xcl : cl ≠ ln ∧ @LT.lt Nat _ cl lv := hX (cl, listOf cvs.toArray 0) (by simp)
    have X4 : L + 1 + 1 + 1 + 1 ≠ ln ∧ @LT.lt Nat _ (L + 1 + 1 + 1 + 1) lv := hX (L + 1 + 1 + 1 + 1, o4) (by simp)
    have X3 : L + 1 + 1 + 1 ≠ ln ∧ @LT.lt Nat _ (L + 1 + 1 + 1) lv := hX (L + 1 + 1 + 1, o3') (by simp)
    have X2 : L + 1 + 1 ≠ ln ∧ @LT.lt Nat _ (L + 1 + 1) lv := hX (L + 1 + 1, o2') (by simp)
    have Xo : L + 1 ≠ ln ∧ @LT.lt Nat _ (L + 1) lv := hX (L + 1, o1') (by simp)
    have Wlv : lv ≠ wl := hwl (lv, listOf #[] 0) (by simp)
    have Wln : ln ≠ wl := hwl (ln, LCg.lst (xs.map Value.ref)) (by simp)
    have Wpl : pl ≠ wl := hwl (pl, listOf pvs.toArray k) (by simp)
    have Wcl : cl ≠ wl := hwl (cl, listOf cvs.toArray 0) (by simp)
    have W4 : L + 1 + 1 + 1 + 1 ≠ wl := hwl (L + 1 + 1 + 1 + 1, o4) (by simp)
    have W3 : L + 1 + 1 + 1 ≠ wl := hwl (L + 1 + 1 + 1, o3') (by simp)
    have W2 : L + 1 + 1 ≠ wl := hwl (L + 1 + 1, o2') (by simp)
    have Wo : L + 1 ≠ wl := hwl (L + 1, o1') (by simp)
    have ne : ∀ {a b : Addr}, @LT.lt Nat _ a b → @Ne Nat a b := fun h => Nat.ne_of_lt h
    subst hc
    refine ⟨e1, e2', e3, hcn, hP, hB, hpl, fun p hp => ?_, hI1, hcs, hxl, Z.hC, Z.hA, Z.rt, Z.nd, ⟨Wlv, Wln, Wpl, Wcl, W4, W3, W2, Wo, trivial⟩, ⟨Ne.symm Wlv, ne llv, ne Xpl.2, ne Xcl.2, ne X4.2, ne X3.2, ne X2.2, ne Xo.2, trivial⟩,
      ⟨Ne.symm W4, (ne X4.2).symm, Ne.symm X4.1, (ne (Nat.lt_trans l1 l3)).symm, (ne l1).symm, ne (Nat.lt_succ_self _), ne (Nat.lt_succ_of_lt (Nat.lt_succ_self _)), ne (Nat.lt_succ_of_lt (Nat.lt_succ_of_lt (Nat.lt_succ_self _))), trivial⟩, fun p hp => ?_, fun p hp => ?_, fun p hp => ?_⟩
    · obtain ⟨_, _, us, hu⟩ := hpt p hp
      rw [hu]; rfl
    · exact hwl p (by simp [show p ∈ pt from hp])
    · exact ne (hX p (by simp [show p ∈ pt from hp])).2
    · exact (ne (Nat.lt_trans l1 (hpt p hp).1)).symm
  have hmK : c.Kn m5 := by subst hc; exact ⟨mc5, mn5, md5, mw5⟩
  have NK : News base L h5 (c.fx L (LCg.lst wvs) (listOf #[] 0) o4 ++ tl) := by subst hc; exact N5
  have hWK : IntsAre wvs (waitsL c fun j => (cntTo c.ps (Int.ofNat j) : Int)) := by subst hc; rw [hws] at hW; exact hW
  have SK : NS tl c.mt c.dm (c.h0 :: c.xs) c.da c.Ca c.at_ nx pv := by subst hc; exact Z.S
  have YK : Lk c.xs c.h0 nx pv [] [] := by
    subst hc
    exact ⟨⟨hnx, hpv⟩, List.nodup_nil, (fun j hj => by cases hj), (fun j hj _ _ => hun _ (ad_mem hj)), (fun j hj => by cases hj)⟩
  with_reducible refine law_back B F5 X T K hmK ma5 NK d4 hWK SK YK hE ?_
  intro hZ tkZ mZ FZ
  exact hQ _ _ _ FZ
end
end Mine
namespace Mine
theorem rstL21 : True := by
  w_top off
  trivial
set_option maxHeartbeats 400000 in
theorem t2 : PySem.Challenge.rw_fc0145_02.Holds := hd (by
  k_go0
  rename_i fa _ _ _ _ _ KX _ _ _ T0 _ _ _ _ _ _ _ _ _ ns _ _ _ _ _ _ _ _ vs _ hL _ _ _ hI _ hlen _ K0 _ h1 tk1 F0 o4 o3 o2 o1 d4 d3 d2 d1 N0 _
  change wpAny (model PR _) (callerA.deeper (lawEnv _ _ _)) (execs lawBody (lawEnv _ _ _)) _ _ _
  with_reducible refine' law_all (ns := ns) (vs := vs) (o1 := o1) (o2 := o2) (o3 := o3) (o4 := o4) ?B ?F ?X ?T ?N ?d4 ?d3 ?d2 ?d1 ?hL ?hI ?hn ?hE ?hQ
  case B => exact K0
  case X => exact KX
  case T => exact T0
  case N => exact N0
  case hL => exact hL
  case hI => exact hI
  case hn => omega
  case hE => passes_own
  case F => exact F0
  case d4 => exact d4
  case d3 => exact d3
  case d2 => exact d2
  case d1 => exact d1
  intro h' tk m' F'
  wrow_close
  )
end Mine
theorem PySem.Challenge.cw_fc0145_02_holds : PySem.Challenge.rw_fc0145_02.Holds :=
  Mine.t2
