import PyProof.Rows.All
import Wide.All
import OpenK.AllK
import Wide.FinOn
import Lean
import PySem.Challenge.RW_fc0145_01
open PySem PySem.W PyProof.Rows PySem.Calls
set_option Elab.async false
set_option maxRecDepth 100000
set_option maxHeartbeats 8000000
set_option rowWalk.seconds 0
set_option linter.unusedVariables false
set_option linter.unusedSimpArgs false
namespace Mine
open_top hd for PySem.Challenge.rw_fc0145_01
end Mine
namespace Mine

/-- what an instance's dict answers, name by name -/
def Att (es : List DictEntry) (f : Str → Option Value) : Prop := ∀ name, getL name es = some (f name)

abbrev nN : Str := Str.ofString "next_on_list"
abbrev nP : Str := Str.ofString "prev_on_list"

theorem any_ref_putL (name : Str) (hsh : Int) (tk : Tok) (v : Value) : ∀ es : List DictEntry, es.any (·.refKey) = false → (putL name hsh (.str name tk) v es).any (·.refKey) = false
  | [], _ => rfl
  | e :: r, h => by
    rw [List.any_cons, Bool.or_eq_false_iff] at h
    unfold putL
    split
    · rw [List.any_cons, Bool.or_eq_false_iff]; exact ⟨h.1, h.2⟩
    · rw [List.any_cons, Bool.or_eq_false_iff]; exact ⟨h.1, any_ref_putL name hsh tk v r h.2⟩

theorem find_putL (name x : Str) (hsh : Int) (tk : Tok) (v : Value) : ∀ es : List DictEntry,
    ((putL name hsh (.str name tk) v es).find? (·.key.isStr x)).map (·.val) = if x = name then some v else (es.find? (·.key.isStr x)).map (·.val)
  | [] => by
    simp only [putL, List.find?_cons, Value.isStr, List.find?_nil]
    by_cases h : x = name
    · subst h; simp
    · have hb : (name == x) = false := beq_eq_false_iff_ne.mpr fun q => h q.symm
      simp [h, hb]
  | e :: r => by
    have ih := find_putL name x hsh tk v r
    unfold putL
    split
    · rename_i he
      simp only [List.find?_cons]
      by_cases h : x = name
      · subst h; simp [he]
      · have : e.key.isStr x = false := by
          cases q : e.key.isStr x
          · rfl
          · exact absurd (Value.isStr_inj _ _ _ q he) h
        simp [this, h]
    · rename_i he
      simp only [List.find?_cons]
      by_cases h : x = name
      · subst h
        simp only [he]
        simpa using ih
      · cases q : e.key.isStr x
        · simpa [h] using ih
        · simp [h]

theorem getL_iff (x : Str) (es : List DictEntry) (hr : es.any (·.refKey) = false) : getL x es = some ((es.find? (·.key.isStr x)).map (·.val)) := by
  unfold getL
  split
  · rename_i q; rw [q]; rfl
  · rename_i q; rw [q, hr]; rfl

structure Atts (es : List DictEntry) (f : Str → Option Value) : Prop where
  noref : es.any (·.refKey) = false
  at_ : ∀ x, (es.find? (·.key.isStr x)).map (·.val) = f x
  size : es.length + (if f nN = none then 1 else 0) + (if f nP = none then 1 else 0) ≤ 10

theorem Atts.get {es : List DictEntry} {f : Str → Option Value} (h : Atts es f) (x : Str) : getL x es = some (f x) := by
  rw [getL_iff x es h.noref, h.at_]
theorem putL_length (name : Str) (hsh : Int) (tk : Tok) (v : Value) : ∀ es : List DictEntry,
    (putL name hsh (.str name tk) v es).length = es.length + if (es.find? (·.key.isStr name)).map (·.val) = none then 1 else 0
  | [] => rfl
  | e :: r => by
    have ih := putL_length name hsh tk v r
    unfold putL
    split
    · rename_i he; simp [he]
    · rename_i he; simp only [List.length_cons, ih, List.find?_cons, he]; omega
def updA (f : Str → Option Value) (n : Str) (v : Value) : Str → Option Value := fun x => if x = n then some v else f x
theorem Atts.put {es : List DictEntry} {f : Str → Option Value} (h : Atts es f) (name : Str) (hsh : Int) (tk : Tok) (v : Value) (hn : name = nN ∨ name = nP) :
    Atts (putL name hsh (.str name tk) v es) (updA f name v) := by
  refine ⟨any_ref_putL name hsh tk v es h.noref, fun x => ?_, ?_⟩
  · rw [find_putL, h.at_]; rfl
  · have hz := h.size
    have ne : nN ≠ nP := by decide +kernel
    rw [putL_length, h.at_]
    unfold updA
    rcases hn with rfl | rfl
    · rw [if_neg (Ne.symm ne)]
      simp only [if_true, reduceCtorEq, if_false]
      omega
    · rw [if_neg ne]
      simp only [if_true, reduceCtorEq, if_false]
      omega
theorem Atts.short {es : List DictEntry} {f : Str → Option Value} (h : Atts es f) : es.length ≤ 10 := by have := h.size; omega
end Mine
namespace Mine

theorem mem_frames {env : Env} {outer : List Env} {L b : Addr} (hf : env.frame = some L) (hm : b ∈ (env :: outer).filterMap (·.frame)) : b = L ∨ b ∈ outer.filterMap (·.frame) := by
  obtain ⟨e, he, hb⟩ := List.mem_filterMap.mp hm
  rcases List.mem_cons.mp he with rfl | he
  · rw [hf] at hb; exact .inl (Option.some.inj hb).symm
  · exact .inr (List.mem_filterMap.mpr ⟨e, he, hb⟩)

section
variable {prog : Program} {w : World} {A₀ A : Around} {s : Shared} {base h₀ g₀ : Heap} {outer : List Env} {env : Env} {L : Addr} {m : Str → Option Value} {news : List (Addr × Obj)} {K : Frag} {p : Program} {loose : List Str} {mean : ExcName → Option Value} {mg mb : Str → Option Value}
    {R : Result → Shared → Prop} {name qual : Str} {params : Arguments} {body : List Stmt} {scope : Scope} {dV kV doc pm cdv ct oc : Value} {an od : Option Addr} {osl : Array (Option Value)} {f : Addr} {args : Args} {binds : List (Str × Value)}

/-- a call whose frames below may have their slots written (a try inside catches): the base turns with it -/
theorem codeS (B : Below A₀ base outer h₀) (F : Fr h₀ L s.heap m) (X₀ : K.In h₀) (N : News h₀ L s.heap news) (T : Top p loose mean mg mb h₀) (XB : K.In base) (TB : Top p loose mean mg mb base) (D : KtsDicts (outer.filterMap (·.frame)) h₀)
    (T0 : KtsTurn (outer.filterMap (·.frame)) g₀ h₀) (hA : A.frames = some (env :: outer)) (hf : env.frame = some L) (hke : env.scope.kind = .function)
    (ho : K.lookup f = some ⟨oc, od, .func (fnOf name qual params body scope dV kV doc pm an cdv ct), osl⟩) (hcd : codeIn K cdv qual = true) (hroom : A.depth < recursionLimit)
    (hbind : BindsTo s (fnOf name qual params body scope dV kV doc pm an cdv ct) args binds) (hloc : ∀ y ∈ binds, scope.names.lookup y.1 = some .local)
    (h : ∀ g L' h₁, Fr g L' h₁ (fun y => binds.reverse.lookup y) → News g L' h₁ news → Below A base (env :: outer) g → K.In g → Top p loose mean mg mb g → KtsDicts ((env :: outer).filterMap (·.frame)) g →
      wpAny (model prog w) (A.deeper (envOf qual scope L' f cdv)) (execs body (envOf qual scope L' f cdv))
        (fun fl s' => LeaveS ((env :: outer).filterMap (·.frame)) A₀ base outer K p loose mean mg mb g₀ h₀ L m g R (match fl with | .ret v => v | _ => .none) s')
        (fun e s' => wpAny (model prog w) (A.deeper (envOf qual scope L' f cdv)) (leaving (envOf qual scope L' f cdv) e) (fun _ s'' => R (.error e) s'') (fun e' s'' => R (.error e') s'') s')
        { s with heap := h₁, toks := s.toks + binds.length })
    (hco : scope.isCoroutine = false) (hgen : scope.isGenerator = false) (hk : scope.kind = .function)
    (hcell : ∀ x ∈ scope.names, x.2 ≠ .cell) : codeAny (model prog w) A (.call (.ref f) args) R s := by
  have X := X₀.keeps F.keep
  refine codeAny_call_def (fd := fnOf name qual params body scope dV kV doc pm an cdv ct) (body := body) (binds := binds) hroom (X _ _ ho) rfl (T.nolimit.keeps F.keep) (codeRec_of X hcd) rfl hbind hcell hloc (fun h₁ hns hk₁ => ?_) hco hgen hk
  obtain ⟨FG, BG, st, lv⟩ := groundX (R := R) B F N hA hf hke
  obtain ⟨oL, es, ep, hLg, hLd, hLk, hLf⟩ := FG.ns
  have nL₀ : h₀.get? L = none := kts_self F
  refine wpAny_mono (h _ s.heap.objs.size h₁ ⟨hns, fun b o e => hk₁ b o (of_hideAll _ e), Nat.le_of_eq (hideAll_size _ _)⟩
    (fun p hp => ⟨hk₁ _ _ (N p hp).1, Nat.ne_of_lt (Heap.lt_size (N p hp).1), hideAll_none _ (List.mem_map_of_mem hp)⟩) BG (X₀.keeps st) (T.keeps st) (fun b hb => by
      rcases mem_frames hf hb with rfl | hb
      · exact ⟨oL, es, ep, hLg, hLd⟩
      · obtain ⟨o, es', n', ho', hd'⟩ := D b hb
        exact ⟨o, es', n', st b o ho', hd'⟩)) (fun fl s' hl => ?_) fun _ _ y => y
  rcases hl with hl | ⟨g', L', m', news', T', F', N', k⟩
  · exact lv _ _ hl
  obtain ⟨sl, hs⟩ := T'.up hLg
  obtain ⟨T₁, S₁⟩ := kts_turn_at (h := s'.heap) (fs := outer.filterMap (·.frame)) (g := h₀)
    (fun b hb => by
      obtain ⟨_, o, ho', _⟩ := B.frames.mem hb
      exact ⟨o, ho'⟩)
    (fun b o e nmem => F'.keep b o (T'.other b o (st b o e) (fun q => by
      rcases mem_frames hf q with z | z
      · rw [z, nL₀] at e
        cases e
      · exact nmem z)))
    (fun b o e hm => by
      obtain ⟨sl', hs'⟩ := T'.up (st b o e)
      exact ⟨sl', F'.keep _ _ hs'⟩)
  have B₃ : Below A₀ base outer (ktsHeap s'.heap (outer.filterMap (·.frame)) h₀) := ⟨B.stack, fun b o e => T₁.other b o (B.stays b o e) (fun hm => by
    rw [(B.frames.mem hm).1] at e
    cases e), B.frames.of_keeps fun b o e _ => by
    obtain ⟨sl', hs'⟩ := T₁.up e
    exact ⟨_, hs', rfl⟩⟩
  refine k _ (T0.trans T₁) ⟨⟨{ oL with slots := sl }, es, ep, F'.keep _ _ hs, hLd, hLk, hLf⟩, S₁, by rw [T₁.size]; exact F.above⟩ (fun p hp => ⟨(N' p hp).1, fun q => ?_, ?_⟩) B₃ (XB.keeps B₃.stays) (TB.keeps B₃.stays) (D.turn T₁)
  · have := (N' p hp).2.2; rw [q, hs] at this; cases this
  · refine T₁.none_ _ ?_
    cases q : h₀.get? p.1 with
    | none => rfl
    | some o =>
      obtain ⟨sl', hs'⟩ := T'.up (st _ _ q)
      have := (N' p hp).2.2
      rw [hs'] at this
      cases this

/-- with no frame below, the base that has turned is the old one -/
theorem unturn {h₀ h₀' h' : Heap} {L : Addr} {m : Str → Option Value} (T : KtsTurn [] h₀ h₀') (F : Fr h₀' L h' m) : Fr h₀ L h' m :=
  ⟨F.ns, fun b o e => F.keep b o (T.other b o e (fun q => nomatch q)), T.size ▸ F.above⟩
theorem unturnN {h₀ h₀' h' : Heap} {L : Addr} {news : List (Addr × Obj)} (T : KtsTurn [] h₀ h₀') (N : News h₀' L h' news) : News h₀ L h' news := fun q hq =>
  ⟨(N q hq).1, (N q hq).2.1, by
    cases z : h₀.get? q.1 with
    | none => rfl
    | some o => have := T.other _ _ z (fun q => nomatch q); rw [(N q hq).2.2] at this; cases this⟩
end

/-! an attribute that an own instance has not -/
section
variable {prog : Program} {w : World} {A : Around} {E : Value → Shared → Prop} {s : Shared} {K : Frag} {x C : Addr} {ox : Obj} {od : Option Obj} {name : Str} {expr : Bool} {Q : Value → Shared → Prop}

theorem findObj_miss {od' : Obj} (hh : hasDictIn K C = true) (ha : findIn K (.ref C) name = some none) (hc : copiedNames.contains name = false) (hl : lookIn name od' = some none) :
    findObj K C (some od') name = some .missing := by
  obtain ⟨cd, hcd, hd⟩ := any_some hh
  unfold findObj
  have ho : W.ownOf cd (some od') name = some none := by unfold W.ownOf; rw [if_pos hd]; exact hl
  rw [hcd, Option.bind_some, ha, Option.bind_some]
  simp only [Option.bind_some, ho, hc, Bool.false_and, Bool.false_eq_true, if_false]

def nameOk (K : Frag) (C : Addr) : Bool := (clsIn K C).any fun cd => decide (cd.name.cps.foldl (fun k c => k + (Str.utf8Of c).length) 0 ≤ 100) && decide ((s!"'{cd.name.toString}' object has no attribute '").length ≤ 90)

theorem get_missK (hA : A.handled = none) (X : K.In s.heap) (I : InstAt s.heap x ox C od) (hga : findIn K (.ref C) "__getattribute__" = some (some (.builtin "object.__getattribute__")))
    (hf : findObj K C od name = some .missing) (hk : findIn K (.ref C) "__getattr__" = some none) (hcls : nameOk K C = true)
    (hsz : name.length + 100 ≤ sizeLine)
    (h : ∀ h' tk e, Heap.NewExcOf s.heap h' e "AttributeError" → E (.ref e) { s with heap := h', toks := tk }) :
    wpAny (model prog w) A (getAttr (.ref x) name expr) Q E s := by
  refine get_open X I hga ?_
  obtain ⟨hh', gg, d, t, os⟩ := s
  have L0 := I.type (M := model prog w)
  have L1 := looks_find (M := model prog w) X I hf
  have L2 := looks_findIn (M := model prog w) X hk
  obtain ⟨cd, hcd, hn⟩ := any_some hcls
  rw [Bool.and_eq_true] at hn
  have hn1 := of_decide_eq_true hn.1
  have hn2 := of_decide_eq_true hn.2
  have L3 := looks_clsIn (M := model prog w) X hcd
  refine wpAny_bind (wpAny_pure (wpAny_bind (L0.at (wpAny_bind (L1.at (wpAny_bind (L2.at ?_)))))))
  show wpAny _ _ (Builtin.ObjectAttr.noSuchAttribute _ _) _ _ _
  unfold Builtin.ObjectAttr.noSuchAttribute typeNameOfCut shownTypeOf
  refine wpAny_bind (wpAny_bind (wpAny_bind (L0.at ?_)))
  rw [if_neg (by simp)]
  refine wpAny_bind (wpAny_pure (wpAny_pure ?_))
  unfold typeNameCut
  refine wpAny_bind (L3.at ?_)
  dsimp only
  rw [if_pos hn1]
  refine wpAny_pure ?_
  refine wpAny_raiseAttrError hA (fun h' tk e hx => ?_) (attrMsg_fits hn2 hsz)
  obtain ⟨t', u', he⟩ := hx.there
  have f1 := sub_AttributeError
  unfold noteIf noteAttr
  rw [if_pos rfl]
  dsimp only
  unfold lacksNameAndObj isInstance
  repeat (any_goals (first | assumption | wp_step))
  exact h _ _ _ hx.of
end
end Mine
namespace Mine

section
variable {prog : Program} {w : World} {A₀ : Around} {E : Value → Shared → Prop} {s' : Shared} {base g g₀ G : Heap} {outer : List Env} {L a e : Addr} {m : Str → Option Value} {name : Str} {scope : Scope} {cd : Value}
  {n : Str} {b₀ : Stmt} {suite : List Stmt} {pos np : Pos} {rest : List ExceptHandler} {Q : Flow → Shared → Prop} {news : List (Addr × Obj)} {KF : Frag}
  {p : Program} {loose : List Str} {mean : ExcName → Option Value} {mg mb : Str → Option Value} {x : Str} {X T' : String}

/-- an exception that a step of this frame has raised is caught by this frame's own clause; frames may lie below -/
theorem caught_own (hx : Heap.NewExcOf G s'.heap e X) (F : Fr g L G m) (N : News g L G news) (K : Below A₀ base outer g) (XB : KF.In base) (TB : Top p loose mean mg mb base)
    (D : KtsDicts (outer.filterMap (·.frame)) g) (T0 : KtsTurn (outer.filterMap (·.frame)) g₀ g)
    (ex : nsIn KF mainGlobals x = some none) (hv : bootBuiltins x = some (.type T')) (hn' : x ≠ "__name__")
    (hexc : isSubtype (.type T') (.type "BaseException") = pure true) (hnt : isSubtype (.type ((Manifest.find? T').elim "type" fun y => y.metatype)) (.type "tuple") = pure false) (hsub : isSubtype (.type X) (.type T') = pure true)
    (k : ∀ h' g', KtsTurn (outer.filterMap (·.frame)) g₀ g' → Fr g' L h' m → News g' L h' news → Below A₀ base outer g' → KF.In g' → Top p loose mean mg mb g' → KtsDicts (outer.filterMap (·.frame)) g' →
      wpAny (model prog w) ((A₀.deeper (envOf name scope L a cd)).mark (some (.ref e))) (execs (b₀ :: suite) (envOf name scope L a cd)) Q E { s' with heap := h' })
    (hk : scope.kind = .function := by rfl) (hx' : (envOf name scope L a cd).kindOf x = some .globalImplicit := by rfl) (hd : (x == ("__debug__" : Str)) = false := by decide)
    (hE : PassesOwnAt (model prog w) ((A₀.deeper (envOf name scope L a cd)).mark (some (.ref e))) (A₀.deeper (envOf name scope L a cd)) (envOf name scope L a cd) E := by passes_own) :
    wpAny (model prog w) (A₀.deeper (envOf name scope L a cd)) (noteFrame (.ref e) (envOf name scope L a cd))
      (fun _ s₂ => wpAny (model prog w) (A₀.deeper (envOf name scope L a cd)) (setFlight (.ref e) none) (fun _ s₃ =>
        wpAny (model prog w) (A₀.deeper (envOf name scope L a cd)) (handleBy (.ref e) (envOf name scope L a cd) (.ExceptHandler (some (.Name x np)) none (b₀ :: suite) pos :: rest)) Q E s₃) E s₂) E s' := by
  have K' := K.push (name := name) (a := a) (cd := cd) F hk
  have hin : ∀ env ∈ (envOf name scope L a cd :: outer), ∀ b, env.frame = some b → b ∈ (envOf name scope L a cd :: outer).filterMap (·.frame) := fun env he b hb => List.mem_filterMap.mpr ⟨env, he, hb⟩
  have hBG : ∀ b o, G.get? b = some o → b ∉ (envOf name scope L a cd :: outer).filterMap (·.frame) → (hideAll G ((envOf name scope L a cd :: outer).filterMap (·.frame))).get? b = some o := fun b o q nm => hideAll_get _ q nm
  have hl : ∀ q ∈ news, (hideAll G ((envOf name scope L a cd :: outer).filterMap (·.frame))).get? q.1 = some q.2 := fun q hq => by
    refine hideAll_get _ (N q hq).1 fun hm => ?_
    rcases kts_mem hm with z | z
    · exact (N q hq).2.1 z
    · obtain ⟨_, o, ho, _⟩ := K.frames.mem z
      rw [(N q hq).2.2] at ho; cases ho
  have hen : (hideAll G ((envOf name scope L a cd :: outer).filterMap (·.frame))).get? e = none := by
    cases q : (hideAll G ((envOf name scope L a cd :: outer).filterMap (·.frame))).get? e with
    | none => rfl
    | some o => have := of_hideAll _ q; rw [hx.new] at this; cases this
  obtain ⟨ob, vs, he, hcls, hdat, h1⟩ := hx.there
  have hvs : ∃ a0, vs[0]? = some a0 := by
    have : 1 < vs.size := (Array.getElem?_eq_some_iff.mp h1).1
    exact ⟨vs[0], Array.getElem?_eq_getElem (by omega)⟩
  obtain ⟨a0, h0⟩ := hvs
  have note : ∀ Q' : Unit → Shared → Prop, (∀ h₄, Heap.HeldW (hideAll G ((envOf name scope L a cd :: outer).filterMap (·.frame))) (envOf name scope L a cd :: outer) e (.type X) a0 L h₄ → s'.heap.UpToSlots h₄ → Q' () { s' with heap := h₄ }) →
      wpAny (model prog w) (A₀.deeper (envOf name scope L a cd)) (noteFrame (.ref e) (envOf name scope L a cd)) Q' E s' := fun Q' hQ => by
    unfold noteFrame
    refine wpAny_bind (wpAny_field he hdat h1 ?_)
    rw [if_neg (by decide)]
    refine wpAny_entryW (base := hideAll G ((envOf name scope L a cd :: outer).filterMap (·.frame))) (env := envOf name scope L a cd) (outer := outer) (L := L) (Around.frames_deeper K.stack) ?_ rfl he ?_ hen hdat (Array.getElem?_eq_some_iff.mp h1).1 h0 fun h' hN => ?_
    · exact (funFrames_hide K'.frames hin).of_keeps fun b o hb _ => ⟨o, hx.keeps b o hb, rfl⟩
    · exact fun b o hb => hx.keeps b o (of_hideAll _ hb)
    · obtain ⟨k1, k2, k3, k4⟩ := hN
      rw [hcls] at k3
      exact hQ h' ⟨k1, hen, k2, k3⟩ k4
  refine note _ fun h₄ hheld₄ hsm₄ => ?_
  refine wpAny_landsW hheld₄ fun h₅ hheld hsm₅' => ?_
  have hsm₅ : G.UpToSlots h₅ := (Heap.UpToSlots.of_keeps hx.keeps).trans (hsm₄.trans hsm₅')
  obtain ⟨g₅, T₅, F₅, K₅⟩ := kts_ground K F hBG hheld.1 hsm₅
  have X₅ : KF.In g₅ := XB.keeps K₅.stays
  have P₅ : TopRead p loose mg mb g₅ := topRead_of (TB.keeps K₅.stays)
  obtain ⟨ob', hob', hobc'⟩ := hheld.there
  refine wpAny_handleBy_builtin (X := X) (T := T') (b := true) hexc hnt hsub (name_B F₅ X₅ P₅ ex hv hn' ⟨rfl, ⟨ob', hob', hobc'⟩, ?_⟩ hk hx' hd)
  rw [if_pos rfl]
  refine lands_againW hheld fun h₆ hfl₆ hsm₆ => ?_
  obtain ⟨g₆, T₆, F₆, K₆⟩ := kts_ground K F hBG hfl₆.1 (hsm₅.trans hsm₆)
  have Nl : News g₆ L h₆ news := fun q hq => ⟨hfl₆.1 _ _ (hl q hq), (N q hq).2.1, T₆.none_ _ (N q hq).2.2⟩
  exact wpAny_passesOwnAt hE (k h₆ g₆ (T0.trans T₆) F₆ Nl K₆ (XB.keeps K₆.stays) (TB.keeps K₆.stays) (D.turn T₆))
end

theorem attrErr_exc : isSubtype (.type "AttributeError") (.type "BaseException") = pure true := by rw [isSubtype_type]; kernel_rfl
theorem attrErr_nt : isSubtype (.type ((Manifest.find? "AttributeError").elim "type" fun y => y.metatype)) (.type "tuple") = pure false := by rw [isSubtype_type]; kernel_rfl
theorem attrErr_boot : bootBuiltins (Str.ofString "AttributeError") = some (.type "AttributeError") := by boot_by_name
end Mine
namespace Mine

/-- the ledger with another object at an address -/
def setL (news : List (Addr × Obj)) (d : Addr) (o : Obj) : List (Addr × Obj) := news.map fun p => if p.1 = d then (d, o) else p

theorem setL_append (a b : List (Addr × Obj)) (d : Addr) (o : Obj) : setL (a ++ b) d o = setL a d o ++ setL b d o := List.map_append ..
theorem setL_off {a : List (Addr × Obj)} {d : Addr} (o : Obj) (h : ∀ p ∈ a, p.1 ≠ d) : setL a d o = a := by
  unfold setL
  conv => rhs; rw [← List.map_id a]
  exact List.map_congr_left fun p hp => by rw [if_neg (h p hp)]; rfl
theorem setL_other {news : List (Addr × Obj)} {d a : Addr} {o ob : Obj} (h : (a, ob) ∈ news) (ne : a ≠ d) : (a, ob) ∈ setL news d o :=
  List.mem_map.mpr ⟨_, h, if_neg ne⟩
theorem setL_self {news : List (Addr × Obj)} {d : Addr} {o ob : Obj} (h : (d, ob) ∈ news) : (d, o) ∈ setL news d o :=
  List.mem_map.mpr ⟨_, h, if_pos rfl⟩
theorem news_sub {h₀ h : Heap} {L : Addr} {a b : List (Addr × Obj)} (N : News h₀ L h b) (s : ∀ p ∈ a, p ∈ b) : News h₀ L h a := fun p hp => N p (s p hp)

section
variable {prog : Program} {w : World} {A : Around} {E : Value → Shared → Prop} {s : Shared} {K : Frag} {x C dx L : Addr} {h₀ : Heap} {m : Str → Option Value} {news : List (Addr × Obj)} {es : List DictEntry} {n : Nat} {name : Str} {v : Value} {f : Str → Option Value}

theorem setAttr_L {Q : Unit → Shared → Prop} (F : Fr h₀ L s.heap m) (X₀ : K.In h₀) (N : News h₀ L s.heap news) (hx : (x, instObj C dx) ∈ news) (hdx : (dx, dictOf es n) ∈ news) (A1 : Atts es f) (hn : name = nN ∨ name = nP)
    (hs : findIn K (.ref C) "__setattr__" = some (some (.builtin "object.__setattr__"))) (hp : plainOver K C = true) (ht : takerIn K C name = some none) (hh : hasDictIn K C = true)
    (h : ∀ h' es' n', Atts es' (updA f name v) → Fr h₀ L h' m → News h₀ L h' (setL news dx (dictOf es' n')) → Q () { s with heap := h', toks := s.toks + 2 }) :
    wpAny (model prog w) A (setAttr (.ref x) name v) Q E s := by
  have A2 := A1.put name (PyData.keyHash w.params name) (s.toks + 1) v hn
  have N' : News h₀ L s.heap ((dx, dictOf es n) :: news.filter fun p => decide (p.1 ≠ dx)) := news_sub N fun p hp => by
    rcases List.mem_cons.mp hp with rfl | hp
    · exact hdx
    · exact (List.mem_filter.mp hp).1
  have U : Upd dx (dictOf es n) (dictOf (putL name (PyData.keyHash w.params name) (.str name (s.toks + 1)) v es) (putN name es n)) ((dx, dictOf es n) :: news.filter fun p => decide (p.1 ≠ dx)) ((dx, dictOf (putL name (PyData.keyHash w.params name) (.str name (s.toks + 1)) v es) (putN name es n)) :: news.filter fun p => decide (p.1 ≠ dx)) :=
    .head fun p hp => by have := (List.mem_filter.mp hp).2; simpa using this
  refine set_dict F X₀ N' (InstAt.of_news N hx hdx) rfl hs hp ht hh (by rw [A1.get]; rfl) rfl U (Nat.le_trans A2.short (by decide)) fun h' F' N₂ => ?_
  refine h h' _ (putN name es n) A2 F' fun p hp => ?_
  obtain ⟨q, hq, rfl⟩ := List.mem_map.mp hp
  by_cases e : q.1 = dx
  · rw [if_pos e]; exact N₂ _ (.head _)
  · rw [if_neg e]; exact N₂ _ (.tail _ (List.mem_filter.mpr ⟨hq, by simpa using e⟩))
end

/-! the nodes: addresses, their classes, what they hold, and how they are linked -/
def fAt (g : Str → Option Value) (n p : Option Addr) : Str → Option Value := fun s => if s = nN then n.map .ref else if s = nP then p.map .ref else g s
theorem nN_ne : nN ≠ nP := by decide +kernel
theorem updA_N (g : Str → Option Value) (n p : Option Addr) (y : Addr) : updA (fAt g n p) nN (.ref y) = fAt g (some y) p := by
  funext s
  unfold updA fAt
  by_cases h : s = nN
  · simp [h]
  · simp [h]
theorem updA_P (g : Str → Option Value) (n p : Option Addr) (y : Addr) : updA (fAt g n p) nP (.ref y) = fAt g n (some y) := by
  funext s
  unfold updA fAt
  by_cases h : s = nP
  · subst h; simp [Ne.symm nN_ne]
  · simp [h]
def upO (f : Addr → Option Addr) (x y : Addr) : Addr → Option Addr := fun z => if z = x then some y else f z
theorem upO_self (f : Addr → Option Addr) (x y : Addr) : upO f x y x = some y := if_pos rfl
theorem upO_ne {f : Addr → Option Addr} {x y z : Addr} (h : z ≠ x) : upO f x y z = f z := if_neg h

/-- an instance or a dict -/
def isND (o : Obj) : Bool := match o.data with | .plain => true | .dict _ _ => true | _ => false
theorem setL_kinds {l : List (Addr × Obj)} {d : Addr} {es : List DictEntry} {n : Nat} (h : ∀ p ∈ l, isND p.2 = true) : ∀ p ∈ setL l d (dictOf es n), isND p.2 = true := fun p hp => by
  obtain ⟨q, hq, rfl⟩ := List.mem_map.mp hp
  split
  · rfl
  · exact h q hq
structure NS (tl : List (Addr × Obj)) (mk dmk : Addr) (ids : List Addr) (da Ca : Addr → Addr) (at_ : Addr → Str → Option Value) (nx pv : Addr → Option Addr) : Prop where
  mkI : (mk, instObj 200 dmk) ∈ tl
  mkD : (dmk, dictOf [] 0) ∈ tl
  mkS : ∀ x ∈ ids, da x ≠ mk ∧ da x ≠ dmk
  inst : ∀ x ∈ ids, (x, instObj (Ca x) (da x)) ∈ tl
  dict : ∀ x ∈ ids, ∃ es n, (da x, dictOf es n) ∈ tl ∧ Atts es (fAt (at_ x) (nx x) (pv x))
  cls : ∀ x ∈ ids, Ca x = 108 ∨ Ca x = 245
  inj : ∀ x ∈ ids, ∀ y ∈ ids, da x = da y → x = y
  sep : ∀ x ∈ ids, ∀ y ∈ ids, da x ≠ y
  kinds : ∀ p ∈ tl, isND p.2 = true

section
variable {tl : List (Addr × Obj)} {mk dmk x y : Addr} {ids : List Addr} {da Ca : Addr → Addr} {at_ : Addr → Str → Option Value} {nx pv : Addr → Option Addr} {es : List DictEntry} {n : Nat}
theorem NS.setN (S : NS tl mk dmk ids da Ca at_ nx pv) (hx : x ∈ ids) (A2 : Atts es (fAt (at_ x) (some y) (pv x))) : NS (setL tl (da x) (dictOf es n)) mk dmk ids da Ca at_ (upO nx x y) pv where
  mkI := setL_other S.mkI (Ne.symm (S.mkS x hx).1)
  mkD := setL_other S.mkD (Ne.symm (S.mkS x hx).2)
  mkS := S.mkS
  inst z hz := setL_other (S.inst z hz) (Ne.symm (S.sep x hx z hz))
  dict z hz := by
    obtain ⟨es', n', h1, h2⟩ := S.dict z hz
    by_cases e : z = x
    · subst e; exact ⟨es, n, setL_self h1, by rw [upO_self]; exact A2⟩
    · exact ⟨es', n', setL_other h1 (fun q => e (S.inj z hz x hx q)), by rw [upO_ne e]; exact h2⟩
  cls := S.cls
  inj := S.inj
  sep := S.sep
  kinds := setL_kinds S.kinds
theorem NS.setP (S : NS tl mk dmk ids da Ca at_ nx pv) (hx : x ∈ ids) (A2 : Atts es (fAt (at_ x) (nx x) (some y))) : NS (setL tl (da x) (dictOf es n)) mk dmk ids da Ca at_ nx (upO pv x y) where
  mkI := setL_other S.mkI (Ne.symm (S.mkS x hx).1)
  mkD := setL_other S.mkD (Ne.symm (S.mkS x hx).2)
  mkS := S.mkS
  inst z hz := setL_other (S.inst z hz) (Ne.symm (S.sep x hx z hz))
  dict z hz := by
    obtain ⟨es', n', h1, h2⟩ := S.dict z hz
    by_cases e : z = x
    · subst e; exact ⟨es, n, setL_self h1, by rw [upO_self]; exact A2⟩
    · exact ⟨es', n', setL_other h1 (fun q => e (S.inj z hz x hx q)), by rw [upO_ne e]; exact h2⟩
  cls := S.cls
  inj := S.inj
  sep := S.sep
  kinds := setL_kinds S.kinds
end

/-- the rest of the ledger lies off the nodes' dicts -/
def Off (pre : List (Addr × Obj)) (da : Addr → Addr) (ids : List Addr) : Prop := ∀ p ∈ pre, ∀ x ∈ ids, p.1 ≠ da x
theorem Off.at {pre : List (Addr × Obj)} {da : Addr → Addr} {ids : List Addr} {x : Addr} (P : Off pre da ids) (hx : x ∈ ids) : ∀ p ∈ pre, p.1 ≠ da x := fun p hp => P p hp x hx
end Mine
namespace Mine
theorem rstYB4 : True := by
  w_top off
  trivial
noncomputable abbrev VW : Program := hd.view_39
noncomputable abbrev LO : List Str := looseW hd.view_39 [Str.ofString "CircularListType", Str.ofString "OutgoingRoute"]
noncomputable abbrev KK (w : World) : Frag := hd.heap_39 w.params
noncomputable abbrev PR : Program := PySem.Challenge.rw_fc0145_01.row.prog

theorem fillK : PySem.Challenge.rw_fc0145_01.Holds → (∀ w : World, (hd.heap_39 w.params).In default) → True := by
  k_fill
  intros
  trivial

abbrev frs (outer : List Env) : List Addr := outer.filterMap (·.frame)

/-- what is known where a method is called: the frame, the ledger, the base and what lies below -/
structure Cx (w : World) (A₀ : Around) (base : Heap) (outer : List Env) (mean : ExcName → Option Value) (mg mb : Str → Option Value) (g₀ h₀ : Heap) (L : Addr) (h : Heap) (m : Str → Option Value) (news : List (Addr × Obj)) : Prop where
  F : Fr h₀ L h m
  N : News h₀ L h news
  B : Below A₀ base outer h₀
  X : (hd.heap_39 w.params).In h₀
  T : Top VW LO mean mg mb h₀
  XB : (hd.heap_39 w.params).In base
  TB : Top VW LO mean mg mb base
  D : KtsDicts (outer.filterMap (·.frame)) h₀
  T0 : KtsTurn (outer.filterMap (·.frame)) g₀ h₀

abbrev Ar (d u : Nat) (fr : List Env) (gs : Option (List Code)) : Around := ⟨none, d, some fr, gs, u⟩

section
variable {w : World} {A₀ : Around} {base g₀ h₀ : Heap} {outer : List Env} {env : Env} {L : Addr} {m mg mb : Str → Option Value} {mean : ExcName → Option Value}
  {s : Shared} {pre tl : List (Addr × Obj)} {d u : Nat} {gs : Option (List Code)} {Q : Value → Shared → Prop} {E : Value → Shared → Prop}
  {mk dmk x y : Addr} {ids : List Addr} {da Ca : Addr → Addr} {at_ : Addr → Str → Option Value} {nx pv : Addr → Option Addr}


theorem get_missN {prog : Program} {w : World} {A : Around} {E : Value → Shared → Prop} {s : Shared} {K : Frag} {x C L : Addr} {h₀ : Heap} {m : Str → Option Value} {ox : Obj} {es : List DictEntry} {n : Nat} {name : Str} {expr : Bool} {Q : Value → Shared → Prop}
    (hA : A.handled = none) (F : Fr h₀ L s.heap m) (X₀ : K.In h₀) (I : InstAt s.heap x ox C (some (dictOf es n))) (hg : plainGet K C name = true) (hh : hasDictIn K C = true)
    (ha : findIn K (.ref C) name = some none) (hcls : nameOk K C = true) (hl : getL name es = some none) (hsz : name.length + 100 ≤ sizeLine)
    (h : ∀ h' tk e, Heap.NewExcOf s.heap h' e "AttributeError" → E (.ref e) { s with heap := h', toks := tk }) (hc : copiedNames.contains name = false := by decide +kernel) :
    wpAny (model prog w) A (getAttr (.ref x) name expr) Q E s :=
  get_missK hA (X₀.keeps F.keep) I (plainGet_of hg).1 (findObj_miss hh ha hc hl) (plainGet_of hg).2 hcls hsz h

local macro_rules | `(tactic| k_steps) => `(tactic| repeat' (first | (k_unfold; (try dsimp only)) | walk1 | (dsimp only; walk1) | fail "no step"))
-- the words of this file: ktr_unf enters a def, ktr_rel closes an end
local macro_rules | `(tactic| ktr_unf) => `(tactic| (refine wpAny_call ?_; refine' codeS ?B ?F ?X ?N ?T ?XB ?TB ?D ?T0 ?kA ?hf ?hke ?k6 ?k7 ?k8 ?k9 ?kB ?_ ?c2 ?c3 ?c4 ?c5; (case F => assumption); (case N => assumption); (case B => assumption); (case X => assumption); (case T => assumption); (case XB => assumption); (case TB => assumption); (case D => assumption); (case T0 => assumption); (case kA => exact rfl); (case hf => first | assumption | exact rfl); (case hke => first | assumption | exact rfl); (case k6 => k_is); (case k7 => k_is); (case k8 => (show _ < recursionLimit; first | omega | (dsimp only [Ar]; omega))); (case k9 => exact BindsTo.of_eq rfl); (case kB => exact locs rfl); (case c2 => exact rfl); (case c3 => exact rfl); (case c4 => exact rfl); (case c5 => decide); k_whole))
local macro_rules | `(tactic| ktr_rel) => `(tactic| exact ⟨by assumption, by assumption, by assumption, by assumption, by assumption, by assumption, by assumption, by assumption, by assumption⟩)
local macro_rules | `(tactic| k_mem) => `(tactic| assumption)
local macro_rules | `(tactic| k_get) => `(tactic| assumption)
local macro_rules | `(tactic| walk_at "setAttr ref") => `(tactic| (k_here; k_dflt (refine' setAttr_L ?k1 ?k2 ?k3 ?k4 ?k5 ?k6 ?k7 ?k8 ?k9 ?k10 ?k11 ?_; (case k1 => k_asm); (case k2 => k_asm); (case k3 => k_asm); (case k4 => assumption); (case k5 => assumption); (case k6 => assumption); (case k7 => first | exact Or.inl rfl | exact Or.inr rfl); (case k8 => k_is); (case k9 => k_is); (case k10 => k_is); (case k11 => k_is); k_whole); intro h' es' n' a' F' N'; (try k_sweep)))
theorem sizeOkN : nN.length + 100 ≤ sizeLine := by rw [sizeLine_eq]; decide +kernel
theorem sizeOkP : nP.length + 100 ≤ sizeLine := by rw [sizeLine_eq]; decide +kernel
local macro_rules | `(tactic| walk_at "getAttr ref") => `(tactic| (k_here; k_dflt (refine' get_missN ?k0 ?k1 ?k2 ?k3 ?k4 ?k5 ?k6 ?k7 ?k8 ?k9 ?_; (case k0 => exact rfl); (case k1 => k_asm); (case k2 => k_asm); (case k3 => k_inst); (case k4 => k_is); (case k5 => k_is); (case k6 => k_is); (case k7 => exact rfl); (case k8 => k_get); (case k9 => first | exact sizeOkN | exact sizeOkP); k_whole); intro h' tk' e' x'))
local macro_rules | `(tactic| walk_at "noteFrame ref") => `(tactic| (k_here; (with_reducible rename Heap.NewExcOf _ _ _ _ => neX); k_dflt (refine' caught_own neX ?F ?N ?K ?XB ?TB ?D ?T0 ?ex attrErr_boot ?hn attrErr_exc attrErr_nt sub_AttributeError ?_; (case F => assumption); (case N => assumption); (case K => assumption); (case XB => assumption); (case TB => assumption); (case D => assumption); (case T0 => assumption); (case ex => k_is); (case hn => decide); k_whole); intro h' g' T' F' N' B' X' P' D'))
theorem memR {a b : List (Addr × Obj)} {p : Addr × Obj} (h : p ∈ b) : p ∈ a ++ b := List.mem_append_right _ h


theorem next_some (C : Cx w A₀ base outer mean mg mb g₀ h₀ L s.heap m (pre ++ tl)) (S : NS tl mk dmk ids da Ca at_ nx pv) (hd : d + 5 < recursionLimit) (hf : env.frame = some L) (hke : env.scope.kind = .function)
    (hx : x ∈ ids) (hn : nx x = some y)
    (h : ∀ h₀' h' tk, Cx w A₀ base outer mean mg mb g₀ h₀' L h' m (pre ++ tl) → Q (.ref y) { s with heap := h', toks := tk }) :
    wpAny (model PR w) (Ar d u (env :: outer) gs) (call (.ref 148) [.ref mk, .ref x] []) Q E s := by
  obtain ⟨F, N, B, X, T, XB, TB, D, T0⟩ := C
  have I := memR (a := pre) (S.inst x hx)
  obtain ⟨es, n, hdm, hat⟩ := S.dict x hx
  have I2 := memR (a := pre) hdm
  have hg : getL nN es = some (some (.ref y)) := by rw [hat.get]; unfold fAt; rw [if_pos rfl, hn]; rfl
  ktr_unf
  intro g' L' h' F' N' B' X' T' D'
  (try dsimp only); (try k_fold)
  rcases S.cls x hx with hC | hC <;> rw [hC] at I <;> k_steps
  all_goals exact h _ _ _ (by ktr_rel)

theorem prev_some (C : Cx w A₀ base outer mean mg mb g₀ h₀ L s.heap m (pre ++ tl)) (S : NS tl mk dmk ids da Ca at_ nx pv) (hd : d + 5 < recursionLimit) (hf : env.frame = some L) (hke : env.scope.kind = .function)
    (hx : x ∈ ids) (hn : pv x = some y)
    (h : ∀ h₀' h' tk, Cx w A₀ base outer mean mg mb g₀ h₀' L h' m (pre ++ tl) → Q (.ref y) { s with heap := h', toks := tk }) :
    wpAny (model PR w) (Ar d u (env :: outer) gs) (call (.ref 162) [.ref mk, .ref x] []) Q E s := by
  obtain ⟨F, N, B, X, T, XB, TB, D, T0⟩ := C
  have I := memR (a := pre) (S.inst x hx)
  obtain ⟨es, n, hdm, hat⟩ := S.dict x hx
  have I2 := memR (a := pre) hdm
  have hg : getL nP es = some (some (.ref y)) := by rw [hat.get]; unfold fAt; rw [if_neg (Ne.symm nN_ne), if_pos rfl, hn]; rfl
  ktr_unf
  intro g' L' h' F' N' B' X' T' D'
  (try dsimp only); (try k_fold)
  rcases S.cls x hx with hC | hC <;> rw [hC] at I <;> k_steps
  all_goals exact h _ _ _ (by ktr_rel)

theorem set_next (C : Cx w A₀ base outer mean mg mb g₀ h₀ L s.heap m (pre ++ tl)) (P : Off pre da ids) (S : NS tl mk dmk ids da Ca at_ nx pv) (hd : d + 5 < recursionLimit) (hf : env.frame = some L) (hke : env.scope.kind = .function)
    (hx : x ∈ ids)
    (h : ∀ h₀' h' tk tl', Cx w A₀ base outer mean mg mb g₀ h₀' L h' m (pre ++ tl') → NS tl' mk dmk ids da Ca at_ (upO nx x y) pv → Q .none { s with heap := h', toks := tk }) :
    wpAny (model PR w) (Ar d u (env :: outer) gs) (call (.ref 155) [.ref mk, .ref x, .ref y] []) Q E s := by
  obtain ⟨F, N, B, X, T, XB, TB, D, T0⟩ := C
  have I := memR (a := pre) (S.inst x hx)
  obtain ⟨es, n, hdm, hat⟩ := S.dict x hx
  have I2 := memR (a := pre) hdm
  have hoff := P.at hx
  ktr_unf
  intro g' L' h' F' N' B' X' T' D'
  (try dsimp only); (try k_fold)
  rcases S.cls x hx with hC | hC <;> rw [hC] at I <;> k_steps
  all_goals (
    rename_i a' F2 N2 kF kN _ _
    rw [updA_N] at a'
    rw [setL_append, setL_off _ hoff] at kN
    exact h h₀ _ _ _ ⟨kF, kN, B, X, T, XB, TB, D, T0⟩ (S.setN hx a'))

theorem set_prev (C : Cx w A₀ base outer mean mg mb g₀ h₀ L s.heap m (pre ++ tl)) (P : Off pre da ids) (S : NS tl mk dmk ids da Ca at_ nx pv) (hd : d + 5 < recursionLimit) (hf : env.frame = some L) (hke : env.scope.kind = .function)
    (hx : x ∈ ids)
    (h : ∀ h₀' h' tk tl', Cx w A₀ base outer mean mg mb g₀ h₀' L h' m (pre ++ tl') → NS tl' mk dmk ids da Ca at_ nx (upO pv x y) → Q .none { s with heap := h', toks := tk }) :
    wpAny (model PR w) (Ar d u (env :: outer) gs) (call (.ref 169) [.ref mk, .ref x, .ref y] []) Q E s := by
  obtain ⟨F, N, B, X, T, XB, TB, D, T0⟩ := C
  have I := memR (a := pre) (S.inst x hx)
  obtain ⟨es, n, hdm, hat⟩ := S.dict x hx
  have I2 := memR (a := pre) hdm
  have hoff := P.at hx
  ktr_unf
  intro g' L' h' F' N' B' X' T' D'
  (try dsimp only); (try k_fold)
  rcases S.cls x hx with hC | hC <;> rw [hC] at I <;> k_steps
  all_goals (
    rename_i a' F2 N2 kF kN _ _
    rw [updA_P] at a'
    rw [setL_append, setL_off _ hoff] at kN
    exact h h₀ _ _ _ ⟨kF, kN, B, X, T, XB, TB, D, T0⟩ (S.setP hx a'))

theorem next_none (C : Cx w A₀ base outer mean mg mb g₀ h₀ L s.heap m (pre ++ tl)) (S : NS tl mk dmk ids da Ca at_ nx pv) (hd : d + 5 < recursionLimit) (hf : env.frame = some L) (hke : env.scope.kind = .function)
    (hx : x ∈ ids) (hn : nx x = none)
    (h : ∀ h₀' h' tk, Cx w A₀ base outer mean mg mb g₀ h₀' L h' m (pre ++ tl) → Q .none { s with heap := h', toks := tk }) :
    wpAny (model PR w) (Ar d u (env :: outer) gs) (call (.ref 148) [.ref mk, .ref x] []) Q E s := by
  obtain ⟨F, N, B, X, T, XB, TB, D, T0⟩ := C
  have I := memR (a := pre) (S.inst x hx)
  obtain ⟨es, n, hdm, hat⟩ := S.dict x hx
  have I2 := memR (a := pre) hdm
  have hg : getL nN es = some none := by rw [hat.get]; unfold fAt; rw [if_pos rfl, hn]; rfl
  ktr_unf
  intro g' L' h' F' N' B' X' T' D'
  have T1 : KtsTurn (frs (env :: outer)) g' g' := KtsTurn.refl
  (try dsimp only); (try k_fold)
  rcases S.cls x hx with hC | hC <;> rw [hC] at I <;> k_steps
  all_goals exact h _ _ _ (by ktr_rel)

theorem prev_none (C : Cx w A₀ base outer mean mg mb g₀ h₀ L s.heap m (pre ++ tl)) (S : NS tl mk dmk ids da Ca at_ nx pv) (hd : d + 5 < recursionLimit) (hf : env.frame = some L) (hke : env.scope.kind = .function)
    (hx : x ∈ ids) (hn : pv x = none)
    (h : ∀ h₀' h' tk, Cx w A₀ base outer mean mg mb g₀ h₀' L h' m (pre ++ tl) → Q .none { s with heap := h', toks := tk }) :
    wpAny (model PR w) (Ar d u (env :: outer) gs) (call (.ref 162) [.ref mk, .ref x] []) Q E s := by
  obtain ⟨F, N, B, X, T, XB, TB, D, T0⟩ := C
  have I := memR (a := pre) (S.inst x hx)
  obtain ⟨es, n, hdm, hat⟩ := S.dict x hx
  have I2 := memR (a := pre) hdm
  have hg : getL nP es = some none := by rw [hat.get]; unfold fAt; rw [if_neg (Ne.symm nN_ne), if_pos rfl, hn]; rfl
  ktr_unf
  intro g' L' h' F' N' B' X' T' D'
  have T1 : KtsTurn (frs (env :: outer)) g' g' := KtsTurn.refl
  (try dsimp only); (try k_fold)
  rcases S.cls x hx with hC | hC <;> rw [hC] at I <;> k_steps
  all_goals exact h _ _ _ (by ktr_rel)
end
end Mine
namespace Mine
theorem rstYB5 : True := by
  w_top off
  trivial
theorem fillK5 : PySem.Challenge.rw_fc0145_01.Holds → (∀ w : World, (hd.heap_39 w.params).In default) → True := by
  k_fill
  intros
  trivial
local macro_rules | `(tactic| k_steps) => `(tactic| repeat' (first | (k_unfold; (try dsimp only)) | walk1 | (dsimp only; walk1) | fail "no step"))
local macro_rules | `(tactic| ktr_unf) => `(tactic| (refine wpAny_call ?_; refine' codeS ?B ?F ?X ?N ?T ?XB ?TB ?D ?T0 ?kA ?hf ?hke ?k6 ?k7 ?k8 ?k9 ?kB ?_ ?c2 ?c3 ?c4 ?c5; (case F => assumption); (case N => assumption); (case B => assumption); (case X => assumption); (case T => assumption); (case XB => assumption); (case TB => assumption); (case D => assumption); (case T0 => assumption); (case kA => exact rfl); (case hf => first | assumption | exact rfl); (case hke => first | assumption | exact rfl); (case k6 => k_is); (case k7 => k_is); (case k8 => (show _ < recursionLimit; first | omega | (dsimp only [Ar]; omega))); (case k9 => exact BindsTo.of_eq rfl); (case kB => exact locs rfl); (case c2 => exact rfl); (case c3 => exact rfl); (case c4 => exact rfl); (case c5 => decide); k_whole))
local macro_rules | `(tactic| ktr_rel) => `(tactic| exact ⟨by assumption, by assumption, by assumption, by assumption, by assumption, by assumption, by assumption, by assumption, by assumption⟩)
local macro_rules | `(tactic| k_mem) => `(tactic| assumption)

section
variable {w : World} {A₀ : Around} {base g₀ h₀ : Heap} {outer : List Env} {env : Env} {L : Addr} {m mg mb : Str → Option Value} {mean : ExcName → Option Value}
  {s : Shared} {pre tl : List (Addr × Obj)} {d u : Nat} {gs : Option (List Code)} {Q : Value → Shared → Prop} {E : Value → Shared → Prop}
  {mk dmk x y : Addr} {ids : List Addr} {da Ca : Addr → Addr} {at_ : Addr → Str → Option Value} {nx pv : Addr → Option Addr} {h : Heap}

theorem mI (_C : Cx w A₀ base outer mean mg mb g₀ h₀ L h m (pre ++ tl)) (S : NS tl mk dmk ids da Ca at_ nx pv) : (mk, instObj 200 dmk) ∈ pre ++ tl := memR S.mkI
theorem mD (_C : Cx w A₀ base outer mean mg mb g₀ h₀ L h m (pre ++ tl)) (S : NS tl mk dmk ids da Ca at_ nx pv) : (dmk, dictOf [] 0) ∈ pre ++ tl := memR S.mkD

local macro_rules | `(tactic| walk_at "call ref") => `(tactic| (k_here; (with_reducible show wpAny _ _ (call (Value.ref 148) _ _) _ _ _); (first | (refine' next_some ?C ?S ?d ?f ?k ?x ?n ?_; (case C => ktr_rel); (case S => assumption); (case d => first | omega | (dsimp only [Ar]; omega)); (case f => first | assumption | exact rfl); (case k => first | assumption | exact rfl); (case x => assumption); (case n => assumption); k_whole; intro h₀' h' tk' C'; obtain ⟨F', N', B', X', T', XB', TB', D', T0'⟩ := C') | (refine' next_none ?C ?S ?d ?f ?k ?x ?n ?_; (case C => ktr_rel); (case S => assumption); (case d => first | omega | (dsimp only [Ar]; omega)); (case f => first | assumption | exact rfl); (case k => first | assumption | exact rfl); (case x => assumption); (case n => assumption); k_whole; intro h₀' h' tk' C'; obtain ⟨F', N', B', X', T', XB', TB', D', T0'⟩ := C'))))
local macro_rules | `(tactic| walk_at "call ref") => `(tactic| (k_here; (with_reducible show wpAny _ _ (call (Value.ref 162) _ _) _ _ _); (first | (refine' prev_some ?C ?S ?d ?f ?k ?x ?n ?_; (case C => ktr_rel); (case S => assumption); (case d => first | omega | (dsimp only [Ar]; omega)); (case f => first | assumption | exact rfl); (case k => first | assumption | exact rfl); (case x => assumption); (case n => assumption); k_whole; intro h₀' h' tk' C'; obtain ⟨F', N', B', X', T', XB', TB', D', T0'⟩ := C') | (refine' prev_none ?C ?S ?d ?f ?k ?x ?n ?_; (case C => ktr_rel); (case S => assumption); (case d => first | omega | (dsimp only [Ar]; omega)); (case f => first | assumption | exact rfl); (case k => first | assumption | exact rfl); (case x => assumption); (case n => assumption); k_whole; intro h₀' h' tk' C'; obtain ⟨F', N', B', X', T', XB', TB', D', T0'⟩ := C'))))

theorem is_nodes {M : Model} {A : Around} (N : News h₀ L s.heap (pre ++ tl)) (S : NS tl mk dmk ids da Ca at_ nx pv) (hx : x ∈ ids) (hy : y ∈ ids) (ne : x ≠ y) (h : Q (.bool false) s) : wpAny M A (compareOp .Is (.ref x) (.ref y)) Q E s :=
  wpAny_is_ref_other ne (N _ (memR (S.inst x hx))).1 (N _ (memR (S.inst y hy))).1 (by intro e; cases e) h
theorem isNot_nodes {M : Model} {A : Around} (N : News h₀ L s.heap (pre ++ tl)) (S : NS tl mk dmk ids da Ca at_ nx pv) (hx : x ∈ ids) (hy : y ∈ ids) (ne : x ≠ y) (h : Q (.bool true) s) : wpAny M A (compareOp .IsNot (.ref x) (.ref y)) Q E s :=
  wpAny_isNot_ref_other ne (N _ (memR (S.inst x hx))).1 (N _ (memR (S.inst y hy))).1 (by intro e; cases e) h
local macro_rules | `(tactic| walk_at "compareOp Is ref ref") => `(tactic| (k_here; refine' is_nodes ?N ?S ?x ?y ?ne ?_; (case N => assumption); (case S => assumption); (case x => assumption); (case y => assumption); (case ne => first | assumption | (apply Ne.symm; assumption)); k_whole))
local macro_rules | `(tactic| walk_at "compareOp IsNot ref ref") => `(tactic| (k_here; refine' isNot_nodes ?N ?S ?x ?y ?ne ?_; (case N => assumption); (case S => assumption); (case x => assumption); (case y => assumption); (case ne => first | assumption | (apply Ne.symm; assumption)); k_whole))

theorem off_none (C : Cx w A₀ base outer mean mg mb g₀ h₀ L s.heap m (pre ++ tl)) (S : NS tl mk dmk ids da Ca at_ nx pv) (hd : d + 6 < recursionLimit) (hf : env.frame = some L) (hke : env.scope.kind = .function)
    (hx : x ∈ ids) (hn : nx x = none) (hp : pv x = none)
    (h : ∀ h₀' h' tk, Cx w A₀ base outer mean mg mb g₀ h₀' L h' m (pre ++ tl) → Q (.bool false) { s with heap := h', toks := tk }) :
    wpAny (model PR w) (Ar d u (env :: outer) gs) (call (.ref 176) [.ref mk, .ref x] []) Q E s := by
  have i1 := mI C S
  have i2 := mD C S
  obtain ⟨F, N, B, X, T, XB, TB, D, T0⟩ := C
  ktr_unf
  intro g' L' h' F' N' B' X' T' D'
  have T1 : KtsTurn (frs (env :: outer)) g' g' := KtsTurn.refl
  (try dsimp only); (try k_fold)
  k_steps
  all_goals exact h _ _ _ (by ktr_rel)

theorem off_self (C : Cx w A₀ base outer mean mg mb g₀ h₀ L s.heap m (pre ++ tl)) (S : NS tl mk dmk ids da Ca at_ nx pv) (hd : d + 6 < recursionLimit) (hf : env.frame = some L) (hke : env.scope.kind = .function)
    (hx : x ∈ ids) (hn : nx x = some x) (hp : pv x = some x)
    (h : ∀ h₀' h' tk, Cx w A₀ base outer mean mg mb g₀ h₀' L h' m (pre ++ tl) → Q (.bool false) { s with heap := h', toks := tk }) :
    wpAny (model PR w) (Ar d u (env :: outer) gs) (call (.ref 176) [.ref mk, .ref x] []) Q E s := by
  have i1 := mI C S
  have i2 := mD C S
  obtain ⟨F, N, B, X, T, XB, TB, D, T0⟩ := C
  ktr_unf
  intro g' L' h' F' N' B' X' T' D'
  have T1 : KtsTurn (frs (env :: outer)) g' g' := KtsTurn.refl
  (try dsimp only); (try k_fold)
  k_steps
  all_goals exact h _ _ _ (by ktr_rel)

theorem on_list (C : Cx w A₀ base outer mean mg mb g₀ h₀ L s.heap m (pre ++ tl)) (S : NS tl mk dmk ids da Ca at_ nx pv) (hd : d + 6 < recursionLimit) (hf : env.frame = some L) (hke : env.scope.kind = .function)
    (hx : x ∈ ids) (hn : nx x = some y) (hy : y ≠ x) (hyi : y ∈ ids)
    (h : ∀ h₀' h' tk, Cx w A₀ base outer mean mg mb g₀ h₀' L h' m (pre ++ tl) → Q (.bool true) { s with heap := h', toks := tk }) :
    wpAny (model PR w) (Ar d u (env :: outer) gs) (call (.ref 176) [.ref mk, .ref x] []) Q E s := by
  have i1 := mI C S
  have i2 := mD C S
  obtain ⟨F, N, B, X, T, XB, TB, D, T0⟩ := C
  ktr_unf
  intro g' L' h' F' N' B' X' T' D'
  have T1 : KtsTurn (frs (env :: outer)) g' g' := KtsTurn.refl
  (try dsimp only); (try k_fold)
  k_steps
  all_goals exact h _ _ _ (by ktr_rel)

end
end Mine
namespace Mine
theorem rstYB6 : True := by
  w_top off
  trivial
theorem fillK6 : PySem.Challenge.rw_fc0145_01.Holds → (∀ w : World, (hd.heap_39 w.params).In default) → True := by
  k_fill
  intros
  trivial
local macro_rules | `(tactic| k_steps) => `(tactic| repeat' (first | (k_unfold; (try dsimp only)) | walk1 | (dsimp only; walk1) | fail "no step"))
local macro_rules | `(tactic| ktr_unf) => `(tactic| (refine wpAny_call ?_; refine' codeS ?B ?F ?X ?N ?T ?XB ?TB ?D ?T0 ?kA ?hf ?hke ?k6 ?k7 ?k8 ?k9 ?kB ?_ ?c2 ?c3 ?c4 ?c5; (case F => assumption); (case N => assumption); (case B => assumption); (case X => assumption); (case T => assumption); (case XB => assumption); (case TB => assumption); (case D => assumption); (case T0 => assumption); (case kA => exact rfl); (case hf => first | assumption | exact rfl); (case hke => first | assumption | exact rfl); (case k6 => k_is); (case k7 => k_is); (case k8 => (show _ < recursionLimit; first | omega | (dsimp only [Ar]; omega))); (case k9 => exact BindsTo.of_eq rfl); (case kB => exact locs rfl); (case c2 => exact rfl); (case c3 => exact rfl); (case c4 => exact rfl); (case c5 => decide); k_whole))
local macro_rules | `(tactic| ktr_rel) => `(tactic| exact ⟨by assumption, by assumption, by assumption, by assumption, by assumption, by assumption, by assumption, by assumption, by assumption⟩)
local macro_rules | `(tactic| k_mem) => `(tactic| assumption)

local macro_rules | `(tactic| walk_at "call ref") => `(tactic| (k_here; (with_reducible show wpAny _ _ (call (Value.ref 148) _ _) _ _ _); (first | (refine' next_some ?C ?S ?d ?f ?k ?x ?n ?_; (case C => ktr_rel); (case S => assumption); (case d => first | omega | (dsimp only [Ar]; omega)); (case f => first | assumption | exact rfl); (case k => first | assumption | exact rfl); (case x => assumption); (case n => assumption); k_whole; intro h₀' h' tk' C'; obtain ⟨F', N', B', X', T', XB', TB', D', T0'⟩ := C') | (refine' next_none ?C ?S ?d ?f ?k ?x ?n ?_; (case C => ktr_rel); (case S => assumption); (case d => first | omega | (dsimp only [Ar]; omega)); (case f => first | assumption | exact rfl); (case k => first | assumption | exact rfl); (case x => assumption); (case n => assumption); k_whole; intro h₀' h' tk' C'; obtain ⟨F', N', B', X', T', XB', TB', D', T0'⟩ := C'))))
local macro_rules | `(tactic| walk_at "call ref") => `(tactic| (k_here; (with_reducible show wpAny _ _ (call (Value.ref 162) _ _) _ _ _); (first | (refine' prev_some ?C ?S ?d ?f ?k ?x ?n ?_; (case C => ktr_rel); (case S => assumption); (case d => first | omega | (dsimp only [Ar]; omega)); (case f => first | assumption | exact rfl); (case k => first | assumption | exact rfl); (case x => assumption); (case n => assumption); k_whole; intro h₀' h' tk' C'; obtain ⟨F', N', B', X', T', XB', TB', D', T0'⟩ := C') | (refine' prev_none ?C ?S ?d ?f ?k ?x ?n ?_; (case C => ktr_rel); (case S => assumption); (case d => first | omega | (dsimp only [Ar]; omega)); (case f => first | assumption | exact rfl); (case k => first | assumption | exact rfl); (case x => assumption); (case n => assumption); k_whole; intro h₀' h' tk' C'; obtain ⟨F', N', B', X', T', XB', TB', D', T0'⟩ := C'))))
local macro_rules | `(tactic| walk_at "call ref") => `(tactic| (k_here; (with_reducible show wpAny _ _ (call (Value.ref 176) _ _) _ _ _); (first | (refine' off_none ?C ?S ?d ?f ?k ?x ?n ?n2 ?_; (case C => ktr_rel); (case S => assumption); (case d => first | omega | (dsimp only [Ar]; omega)); (case f => first | assumption | exact rfl); (case k => first | assumption | exact rfl); (case x => assumption); (case n => assumption); (case n2 => assumption); k_whole; intro h₀' h' tk' C'; obtain ⟨F', N', B', X', T', XB', TB', D', T0'⟩ := C') | (refine' off_self ?C ?S ?d ?f ?k ?x ?n ?n2 ?_; (case C => ktr_rel); (case S => assumption); (case d => first | omega | (dsimp only [Ar]; omega)); (case f => first | assumption | exact rfl); (case k => first | assumption | exact rfl); (case x => assumption); (case n => assumption); (case n2 => assumption); k_whole; intro h₀' h' tk' C'; obtain ⟨F', N', B', X', T', XB', TB', D', T0'⟩ := C') | (refine' on_list ?C ?S ?d ?f ?k ?x ?n ?n2 ?n3 ?_; (case C => ktr_rel); (case S => assumption); (case d => first | omega | (dsimp only [Ar]; omega)); (case f => first | assumption | exact rfl); (case k => first | assumption | exact rfl); (case x => assumption); (case n => assumption); (case n2 => assumption); (case n3 => assumption); k_whole; intro h₀' h' tk' C'; obtain ⟨F', N', B', X', T', XB', TB', D', T0'⟩ := C'))))
local macro_rules | `(tactic| walk_at "call ref") => `(tactic| (k_here; (with_reducible show wpAny _ _ (call (Value.ref 155) _ _) _ _ _); refine' set_next ?C ?P ?S ?d ?f ?k ?x ?_; (case C => ktr_rel); (case P => assumption); (case S => assumption); (case d => first | omega | (dsimp only [Ar]; omega)); (case f => first | assumption | exact rfl); (case k => first | assumption | exact rfl); (case x => assumption); k_whole; intro h₀' h' tk' tl' C' S'; have j1' := mI C' S'; have j2' := mD C' S'; obtain ⟨F', N', B', X', T', XB', TB', D', T0'⟩ := C'))
local macro_rules | `(tactic| walk_at "call ref") => `(tactic| (k_here; (with_reducible show wpAny _ _ (call (Value.ref 169) _ _) _ _ _); refine' set_prev ?C ?P ?S ?d ?f ?k ?x ?_; (case C => ktr_rel); (case P => assumption); (case S => assumption); (case d => first | omega | (dsimp only [Ar]; omega)); (case f => first | assumption | exact rfl); (case k => first | assumption | exact rfl); (case x => assumption); k_whole; intro h₀' h' tk' tl' C' S'; have j1' := mI C' S'; have j2' := mD C' S'; obtain ⟨F', N', B', X', T', XB', TB', D', T0'⟩ := C'))
local macro_rules | `(tactic| walk_at "compareOp Is ref ref") => `(tactic| (k_here; refine' is_nodes ?N ?S ?x ?y ?ne ?_; (case N => assumption); (case S => assumption); (case x => assumption); (case y => assumption); (case ne => first | assumption | (apply Ne.symm; assumption)); k_whole))
local macro_rules | `(tactic| walk_at "compareOp IsNot ref ref") => `(tactic| (k_here; refine' isNot_nodes ?N ?S ?x ?y ?ne ?_; (case N => assumption); (case S => assumption); (case x => assumption); (case y => assumption); (case ne => first | assumption | (apply Ne.symm; assumption)); k_whole))
section
variable {w : World} {A₀ : Around} {base g₀ h₀ : Heap} {outer : List Env} {env : Env} {L : Addr} {m mg mb : Str → Option Value} {mean : ExcName → Option Value}
  {s : Shared} {pre tl : List (Addr × Obj)} {d u : Nat} {gs : Option (List Code)} {Q : Value → Shared → Prop} {E : Value → Shared → Prop}
  {mk dmk x y n p : Addr} {ids : List Addr} {da Ca : Addr → Addr} {at_ : Addr → Str → Option Value} {nx pv : Addr → Option Addr} {h : Heap}


theorem ins_before0 (C : Cx w A₀ base outer mean mg mb g₀ h₀ L s.heap m (pre ++ tl)) (P : Off pre da ids) (S : NS tl mk dmk ids da Ca at_ nx pv) (hd : d + 7 < recursionLimit) (hf : env.frame = some L) (hke : env.scope.kind = .function)
    (hx : x ∈ ids) (hni : n ∈ ids) (hpi : p ∈ ids) (hnx : n ≠ x) (hp : pv x = some p) (h1 : nx n = none) (h2 : pv n = none)
    (h : ∀ h₀' h' tk tl', Cx w A₀ base outer mean mg mb g₀ h₀' L h' m (pre ++ tl') → NS tl' mk dmk ids da Ca at_ (upO (upO nx n x) p n) (upO (upO pv x n) n p) → Q .none { s with heap := h', toks := tk }) :
    wpAny (model PR w) (Ar d u (env :: outer) gs) (call (.ref 190) [.ref mk, .ref x, .ref n] []) Q E s := by
  have i1 := mI C S
  have i2 := mD C S
  obtain ⟨F, N, B, X, T, XB, TB, D, T0⟩ := C
  ktr_unf
  intro g' L' h' F' N' B' X' T' D'
  have T1 : KtsTurn (frs (env :: outer)) g' g' := KtsTurn.refl
  (try dsimp only); (try k_fold)
  k_steps
  all_goals exact h _ _ _ _ (by ktr_rel) (by assumption)

theorem ins_after0 (C : Cx w A₀ base outer mean mg mb g₀ h₀ L s.heap m (pre ++ tl)) (P : Off pre da ids) (S : NS tl mk dmk ids da Ca at_ nx pv) (hd : d + 7 < recursionLimit) (hf : env.frame = some L) (hke : env.scope.kind = .function)
    (hx : x ∈ ids) (hni : n ∈ ids) (hpi : p ∈ ids) (hnx : n ≠ x) (hp : nx x = some p) (h1 : nx n = none) (h2 : pv n = none)
    (h : ∀ h₀' h' tk tl', Cx w A₀ base outer mean mg mb g₀ h₀' L h' m (pre ++ tl') → NS tl' mk dmk ids da Ca at_ (upO (upO nx x n) n p) (upO (upO pv n x) p n) → Q .none { s with heap := h', toks := tk }) :
    wpAny (model PR w) (Ar d u (env :: outer) gs) (call (.ref 183) [.ref mk, .ref x, .ref n] []) Q E s := by
  have i1 := mI C S
  have i2 := mD C S
  obtain ⟨F, N, B, X, T, XB, TB, D, T0⟩ := C
  ktr_unf
  intro g' L' h' F' N' B' X' T' D'
  have T1 : KtsTurn (frs (env :: outer)) g' g' := KtsTurn.refl
  (try dsimp only); (try k_fold)
  k_steps
  all_goals exact h _ _ _ _ (by ktr_rel) (by assumption)

theorem ins_before1 (C : Cx w A₀ base outer mean mg mb g₀ h₀ L s.heap m (pre ++ tl)) (P : Off pre da ids) (S : NS tl mk dmk ids da Ca at_ nx pv) (hd : d + 7 < recursionLimit) (hf : env.frame = some L) (hke : env.scope.kind = .function)
    (hx : x ∈ ids) (hni : n ∈ ids) (hpi : p ∈ ids) (hnx : n ≠ x) (hp : pv x = some p) (h1 : nx n = some n) (h2 : pv n = some n)
    (h : ∀ h₀' h' tk tl', Cx w A₀ base outer mean mg mb g₀ h₀' L h' m (pre ++ tl') → NS tl' mk dmk ids da Ca at_ (upO (upO nx n x) p n) (upO (upO pv x n) n p) → Q .none { s with heap := h', toks := tk }) :
    wpAny (model PR w) (Ar d u (env :: outer) gs) (call (.ref 190) [.ref mk, .ref x, .ref n] []) Q E s := by
  have i1 := mI C S
  have i2 := mD C S
  obtain ⟨F, N, B, X, T, XB, TB, D, T0⟩ := C
  ktr_unf
  intro g' L' h' F' N' B' X' T' D'
  have T1 : KtsTurn (frs (env :: outer)) g' g' := KtsTurn.refl
  (try dsimp only); (try k_fold)
  k_steps
  all_goals exact h _ _ _ _ (by ktr_rel) (by assumption)

theorem ins_after1 (C : Cx w A₀ base outer mean mg mb g₀ h₀ L s.heap m (pre ++ tl)) (P : Off pre da ids) (S : NS tl mk dmk ids da Ca at_ nx pv) (hd : d + 7 < recursionLimit) (hf : env.frame = some L) (hke : env.scope.kind = .function)
    (hx : x ∈ ids) (hni : n ∈ ids) (hpi : p ∈ ids) (hnx : n ≠ x) (hp : nx x = some p) (h1 : nx n = some n) (h2 : pv n = some n)
    (h : ∀ h₀' h' tk tl', Cx w A₀ base outer mean mg mb g₀ h₀' L h' m (pre ++ tl') → NS tl' mk dmk ids da Ca at_ (upO (upO nx x n) n p) (upO (upO pv n x) p n) → Q .none { s with heap := h', toks := tk }) :
    wpAny (model PR w) (Ar d u (env :: outer) gs) (call (.ref 183) [.ref mk, .ref x, .ref n] []) Q E s := by
  have i1 := mI C S
  have i2 := mD C S
  obtain ⟨F, N, B, X, T, XB, TB, D, T0⟩ := C
  ktr_unf
  intro g' L' h' F' N' B' X' T' D'
  have T1 : KtsTurn (frs (env :: outer)) g' g' := KtsTurn.refl
  (try dsimp only); (try k_fold)
  k_steps
  all_goals exact h _ _ _ _ (by ktr_rel) (by assumption)

theorem unlink_on (C : Cx w A₀ base outer mean mg mb g₀ h₀ L s.heap m (pre ++ tl)) (P : Off pre da ids) (S : NS tl mk dmk ids da Ca at_ nx pv) (hd : d + 7 < recursionLimit) (hf : env.frame = some L) (hke : env.scope.kind = .function)
    (hx : x ∈ ids) (hni : n ∈ ids) (hpi : p ∈ ids) (hnx : n ≠ x) (hn : nx x = some n) (hp : pv x = some p)
    (h : ∀ h₀' h' tk tl', Cx w A₀ base outer mean mg mb g₀ h₀' L h' m (pre ++ tl') → NS tl' mk dmk ids da Ca at_ (upO (upO nx p n) x x) (upO (upO pv n p) x x) → Q .none { s with heap := h', toks := tk }) :
    wpAny (model PR w) (Ar d u (env :: outer) gs) (call (.ref 197) [.ref mk, .ref x] []) Q E s := by
  have i1 := mI C S
  have i2 := mD C S
  obtain ⟨F, N, B, X, T, XB, TB, D, T0⟩ := C
  ktr_unf
  intro g' L' h' F' N' B' X' T' D'
  have T1 : KtsTurn (frs (env :: outer)) g' g' := KtsTurn.refl
  (try dsimp only); (try k_fold)
  k_steps
  all_goals exact h _ _ _ _ (by ktr_rel) (by assumption)
end
end Mine
namespace Mine
theorem rstYB7 : True := by
  w_top off
  trivial
theorem fillK7 : PySem.Challenge.rw_fc0145_01.Holds → (∀ w : World, (hd.heap_39 w.params).In default) → True := by
  k_fill
  intros
  trivial
local macro_rules | `(tactic| k_steps) => `(tactic| repeat' (first | (k_unfold; (try dsimp only)) | walk1 | (dsimp only; walk1) | fail "no step"))
local macro_rules | `(tactic| ktr_unf) => `(tactic| (refine wpAny_call ?_; refine' codeS ?B ?F ?X ?N ?T ?XB ?TB ?D ?T0 ?kA ?hf ?hke ?k6 ?k7 ?k8 ?k9 ?kB ?_ ?c2 ?c3 ?c4 ?c5; (case F => assumption); (case N => assumption); (case B => assumption); (case X => assumption); (case T => assumption); (case XB => assumption); (case TB => assumption); (case D => assumption); (case T0 => assumption); (case kA => exact rfl); (case hf => first | assumption | exact rfl); (case hke => first | assumption | exact rfl); (case k6 => k_is); (case k7 => k_is); (case k8 => (show _ < recursionLimit; first | omega | (dsimp only [Ar]; omega))); (case k9 => exact BindsTo.of_eq rfl); (case kB => exact locs rfl); (case c2 => exact rfl); (case c3 => exact rfl); (case c4 => exact rfl); (case c5 => decide); k_whole))
local macro_rules | `(tactic| ktr_rel) => `(tactic| exact ⟨by assumption, by assumption, by assumption, by assumption, by assumption, by assumption, by assumption, by assumption, by assumption⟩)
local macro_rules | `(tactic| k_mem) => `(tactic| assumption)

local macro_rules | `(tactic| walk_at "call ref") => `(tactic| (k_here; (with_reducible show wpAny _ _ (call (Value.ref 148) _ _) _ _ _); (first | (refine' next_some ?C ?S ?d ?f ?k ?x ?n ?_; (case C => ktr_rel); (case S => assumption); (case d => first | omega | (dsimp only [Ar]; omega)); (case f => first | assumption | exact rfl); (case k => first | assumption | exact rfl); (case x => assumption); (case n => assumption); k_whole; intro h₀' h' tk' C'; obtain ⟨F', N', B', X', T', XB', TB', D', T0'⟩ := C') | (refine' next_none ?C ?S ?d ?f ?k ?x ?n ?_; (case C => ktr_rel); (case S => assumption); (case d => first | omega | (dsimp only [Ar]; omega)); (case f => first | assumption | exact rfl); (case k => first | assumption | exact rfl); (case x => assumption); (case n => assumption); k_whole; intro h₀' h' tk' C'; obtain ⟨F', N', B', X', T', XB', TB', D', T0'⟩ := C'))))
local macro_rules | `(tactic| walk_at "call ref") => `(tactic| (k_here; (with_reducible show wpAny _ _ (call (Value.ref 162) _ _) _ _ _); (first | (refine' prev_some ?C ?S ?d ?f ?k ?x ?n ?_; (case C => ktr_rel); (case S => assumption); (case d => first | omega | (dsimp only [Ar]; omega)); (case f => first | assumption | exact rfl); (case k => first | assumption | exact rfl); (case x => assumption); (case n => assumption); k_whole; intro h₀' h' tk' C'; obtain ⟨F', N', B', X', T', XB', TB', D', T0'⟩ := C') | (refine' prev_none ?C ?S ?d ?f ?k ?x ?n ?_; (case C => ktr_rel); (case S => assumption); (case d => first | omega | (dsimp only [Ar]; omega)); (case f => first | assumption | exact rfl); (case k => first | assumption | exact rfl); (case x => assumption); (case n => assumption); k_whole; intro h₀' h' tk' C'; obtain ⟨F', N', B', X', T', XB', TB', D', T0'⟩ := C'))))
local macro_rules | `(tactic| walk_at "call ref") => `(tactic| (k_here; (with_reducible show wpAny _ _ (call (Value.ref 176) _ _) _ _ _); (first | (refine' off_none ?C ?S ?d ?f ?k ?x ?n ?n2 ?_; (case C => ktr_rel); (case S => assumption); (case d => first | omega | (dsimp only [Ar]; omega)); (case f => first | assumption | exact rfl); (case k => first | assumption | exact rfl); (case x => assumption); (case n => assumption); (case n2 => assumption); k_whole; intro h₀' h' tk' C'; obtain ⟨F', N', B', X', T', XB', TB', D', T0'⟩ := C') | (refine' off_self ?C ?S ?d ?f ?k ?x ?n ?n2 ?_; (case C => ktr_rel); (case S => assumption); (case d => first | omega | (dsimp only [Ar]; omega)); (case f => first | assumption | exact rfl); (case k => first | assumption | exact rfl); (case x => assumption); (case n => assumption); (case n2 => assumption); k_whole; intro h₀' h' tk' C'; obtain ⟨F', N', B', X', T', XB', TB', D', T0'⟩ := C') | (refine' on_list ?C ?S ?d ?f ?k ?x ?n ?n2 ?n3 ?_; (case C => ktr_rel); (case S => assumption); (case d => first | omega | (dsimp only [Ar]; omega)); (case f => first | assumption | exact rfl); (case k => first | assumption | exact rfl); (case x => assumption); (case n => assumption); (case n2 => assumption); (case n3 => assumption); k_whole; intro h₀' h' tk' C'; obtain ⟨F', N', B', X', T', XB', TB', D', T0'⟩ := C'))))
local macro_rules | `(tactic| walk_at "call ref") => `(tactic| (k_here; (with_reducible show wpAny _ _ (call (Value.ref 155) _ _) _ _ _); refine' set_next ?C ?P ?S ?d ?f ?k ?x ?_; (case C => ktr_rel); (case P => assumption); (case S => assumption); (case d => first | omega | (dsimp only [Ar]; omega)); (case f => first | assumption | exact rfl); (case k => first | assumption | exact rfl); (case x => assumption); k_whole; intro h₀' h' tk' tl' C' S'; have j1' := mI C' S'; have j2' := mD C' S'; obtain ⟨F', N', B', X', T', XB', TB', D', T0'⟩ := C'))
local macro_rules | `(tactic| walk_at "call ref") => `(tactic| (k_here; (with_reducible show wpAny _ _ (call (Value.ref 169) _ _) _ _ _); refine' set_prev ?C ?P ?S ?d ?f ?k ?x ?_; (case C => ktr_rel); (case P => assumption); (case S => assumption); (case d => first | omega | (dsimp only [Ar]; omega)); (case f => first | assumption | exact rfl); (case k => first | assumption | exact rfl); (case x => assumption); k_whole; intro h₀' h' tk' tl' C' S'; have j1' := mI C' S'; have j2' := mD C' S'; obtain ⟨F', N', B', X', T', XB', TB', D', T0'⟩ := C'))
local macro_rules | `(tactic| walk_at "compareOp Is ref ref") => `(tactic| (k_here; refine' is_nodes ?N ?S ?x ?y ?ne ?_; (case N => assumption); (case S => assumption); (case x => assumption); (case y => assumption); (case ne => first | assumption | (apply Ne.symm; assumption)); k_whole))
local macro_rules | `(tactic| walk_at "compareOp IsNot ref ref") => `(tactic| (k_here; refine' isNot_nodes ?N ?S ?x ?y ?ne ?_; (case N => assumption); (case S => assumption); (case x => assumption); (case y => assumption); (case ne => first | assumption | (apply Ne.symm; assumption)); k_whole))
local macro_rules | `(tactic| walk_at "call ref") => `(tactic| (k_here; (with_reducible show wpAny _ _ (call (Value.ref 190) _ _) _ _ _); (first | (refine' ins_before0 ?C ?P ?S ?d ?f ?k ?x0 ?x1 ?x2 ?x3 ?x4 ?x5 ?x6 ?_; (case C => ktr_rel); (case P => assumption); (case S => assumption); (case d => first | omega | (dsimp only [Ar]; omega)); (case f => first | assumption | exact rfl); (case k => first | assumption | exact rfl); (case x6 => assumption); (case x5 => assumption); (case x4 => assumption); (case x3 => assumption); (case x2 => assumption); (case x1 => assumption); (case x0 => assumption); k_whole; intro h₀' h' tk' tl' C' S'; have j1' := mI C' S'; have j2' := mD C' S'; obtain ⟨F', N', B', X', T', XB', TB', D', T0'⟩ := C') | (refine' ins_before1 ?C ?P ?S ?d ?f ?k ?x0 ?x1 ?x2 ?x3 ?x4 ?x5 ?x6 ?_; (case C => ktr_rel); (case P => assumption); (case S => assumption); (case d => first | omega | (dsimp only [Ar]; omega)); (case f => first | assumption | exact rfl); (case k => first | assumption | exact rfl); (case x6 => assumption); (case x5 => assumption); (case x4 => assumption); (case x3 => assumption); (case x2 => assumption); (case x1 => assumption); (case x0 => assumption); k_whole; intro h₀' h' tk' tl' C' S'; have j1' := mI C' S'; have j2' := mD C' S'; obtain ⟨F', N', B', X', T', XB', TB', D', T0'⟩ := C'))))
local macro_rules | `(tactic| walk_at "call ref") => `(tactic| (k_here; (with_reducible show wpAny _ _ (call (Value.ref 183) _ _) _ _ _); (first | (refine' ins_after0 ?C ?P ?S ?d ?f ?k ?x0 ?x1 ?x2 ?x3 ?x4 ?x5 ?x6 ?_; (case C => ktr_rel); (case P => assumption); (case S => assumption); (case d => first | omega | (dsimp only [Ar]; omega)); (case f => first | assumption | exact rfl); (case k => first | assumption | exact rfl); (case x6 => assumption); (case x5 => assumption); (case x4 => assumption); (case x3 => assumption); (case x2 => assumption); (case x1 => assumption); (case x0 => assumption); k_whole; intro h₀' h' tk' tl' C' S'; have j1' := mI C' S'; have j2' := mD C' S'; obtain ⟨F', N', B', X', T', XB', TB', D', T0'⟩ := C') | (refine' ins_after1 ?C ?P ?S ?d ?f ?k ?x0 ?x1 ?x2 ?x3 ?x4 ?x5 ?x6 ?_; (case C => ktr_rel); (case P => assumption); (case S => assumption); (case d => first | omega | (dsimp only [Ar]; omega)); (case f => first | assumption | exact rfl); (case k => first | assumption | exact rfl); (case x6 => assumption); (case x5 => assumption); (case x4 => assumption); (case x3 => assumption); (case x2 => assumption); (case x1 => assumption); (case x0 => assumption); k_whole; intro h₀' h' tk' tl' C' S'; have j1' := mI C' S'; have j2' := mD C' S'; obtain ⟨F', N', B', X', T', XB', TB', D', T0'⟩ := C'))))
local macro_rules | `(tactic| walk_at "call ref") => `(tactic| (k_here; (with_reducible show wpAny _ _ (call (Value.ref 197) _ _) _ _ _); (first | (refine' unlink_on ?C ?P ?S ?d ?f ?k ?x0 ?x1 ?x2 ?x3 ?x4 ?x5 ?_; (case C => ktr_rel); (case P => assumption); (case S => assumption); (case d => first | omega | (dsimp only [Ar]; omega)); (case f => first | assumption | exact rfl); (case k => first | assumption | exact rfl); (case x5 => assumption); (case x4 => assumption); (case x3 => assumption); (case x2 => assumption); (case x1 => assumption); (case x0 => assumption); k_whole; intro h₀' h' tk' tl' C' S'; have j1' := mI C' S'; have j2' := mD C' S'; obtain ⟨F', N', B', X', T', XB', TB', D', T0'⟩ := C'))))
local macro_rules | `(tactic| k_get) => `(tactic| assumption)

def listAt (mk h : Addr) : Str → Option Value := fun s => if s = Str.ofString "list_type" then some (.ref mk) else if s = Str.ofString "head" then some (.ref h) else none
def routeAt (v : Value) : Str → Option Value := fun s => if s = Str.ofString "sink" then some .none else if s = Str.ofString "_path" then some v else if s = Str.ofString "_for_route_refresh" then some (.bool false) else none
theorem fAt_of {g : Str → Option Value} {a b : Option Addr} {s : Str} {v : Option Value} (h1 : s ≠ nN) (h2 : s ≠ nP) (h : g s = v) : fAt g a b s = v := by
  unfold fAt; rw [if_neg h1, if_neg h2, h]
theorem listAt_lt {mk h : Addr} {a b : Option Addr} : fAt (listAt mk h) a b (Str.ofString "list_type") = some (.ref mk) := fAt_of (by decide +kernel) (by decide +kernel) (if_pos rfl)
theorem listAt_hd {mk h : Addr} {a b : Option Addr} : fAt (listAt mk h) a b (Str.ofString "head") = some (.ref h) := fAt_of (by decide +kernel) (by decide +kernel) (by unfold listAt; rw [if_neg (by decide +kernel), if_pos rfl])
theorem listAt_no {mk h : Addr} {a b : Option Addr} {s : Str} (h1 : s ≠ nN) (h2 : s ≠ nP) (h3 : s ≠ Str.ofString "list_type") (h4 : s ≠ Str.ofString "head") : fAt (listAt mk h) a b s = none := fAt_of h1 h2 (by unfold listAt; rw [if_neg h3, if_neg h4])

/-- a head: a List whose type is mk -/
structure Hd (mk : Addr) (ids : List Addr) (Ca : Addr → Addr) (at_ : Addr → Str → Option Value) (h : Addr) : Prop where
  mem : h ∈ ids
  cls : Ca h = 108
  att : at_ h = listAt mk h

structure HdL (news : List (Addr × Obj)) (mk h dh : Addr) (es : List DictEntry) (n : Nat) : Prop where
  i : (h, instObj 108 dh) ∈ news
  d : (dh, dictOf es n) ∈ news
  lt : getL (Str.ofString "list_type") es = some (some (.ref mk))
  hd : getL (Str.ofString "head") es = some (some (.ref h))
  no : ∀ s : Str, s ≠ nN → s ≠ nP → s ≠ Str.ofString "list_type" → s ≠ Str.ofString "head" → getL s es = some none
section
variable {w : World} {A₀ : Around} {base g₀ h₀ : Heap} {outer : List Env} {env : Env} {L : Addr} {m mg mb : Str → Option Value} {mean : ExcName → Option Value}
  {s : Shared} {pre tl : List (Addr × Obj)} {d u : Nat} {gs : Option (List Code)} {Q : Value → Shared → Prop} {E : Value → Shared → Prop}
  {mk dmk x y n p hh : Addr} {ids : List Addr} {da Ca : Addr → Addr} {at_ : Addr → Str → Option Value} {nx pv : Addr → Option Addr} {h : Heap}


theorem hdL (_C : Cx w A₀ base outer mean mg mb g₀ h₀ L h m (pre ++ tl)) (S : NS tl mk dmk ids da Ca at_ nx pv) (H : Hd mk ids Ca at_ hh) : ∃ es n, HdL (pre ++ tl) mk hh (da hh) es n := by
  obtain ⟨es, n, h1, h2⟩ := S.dict hh H.mem
  have h3 := S.inst hh H.mem
  rw [H.cls] at h3
  rw [H.att] at h2
  exact ⟨es, n, memR h3, memR h1, (h2.get _).trans (congrArg some listAt_lt), (h2.get _).trans (congrArg some listAt_hd), fun s a b c e => (h2.get s).trans (congrArg some (listAt_no a b c e))⟩

theorem append0 (C : Cx w A₀ base outer mean mg mb g₀ h₀ L s.heap m (pre ++ tl)) (P : Off pre da ids) (S : NS tl mk dmk ids da Ca at_ nx pv) (hd : d + 8 < recursionLimit) (hf : env.frame = some L) (hke : env.scope.kind = .function)
    (H : Hd mk ids Ca at_ hh) (hni : n ∈ ids) (hpi : p ∈ ids) (hnx : n ≠ hh) (hp : pv hh = some p) (h1 : nx n = none) (h2 : pv n = none)
    (h : ∀ h₀' h' tk tl', Cx w A₀ base outer mean mg mb g₀ h₀' L h' m (pre ++ tl') → NS tl' mk dmk ids da Ca at_ (upO (upO nx n hh) p n) (upO (upO pv hh n) n p) → Q .none { s with heap := h', toks := tk }) :
    wpAny (model PR w) (Ar d u (env :: outer) gs) (call (.ref 70) [.ref hh, .ref n] []) Q E s := by
  have i1 := mI C S
  have i2 := mD C S
  obtain ⟨es, nn, hl⟩ := hdL C S H
  have l1 := hl.i
  have l2 := hl.d
  have l3 := hl.lt
  have l4 := hl.hd
  have hx := H.mem
  obtain ⟨F, N, B, X, T, XB, TB, D, T0⟩ := C
  ktr_unf
  intro g' L' h' F' N' B' X' T' D'
  have T1 : KtsTurn (frs (env :: outer)) g' g' := KtsTurn.refl
  (try dsimp only); (try k_fold)
  k_steps
  all_goals exact h _ _ _ _ (by ktr_rel) (by assumption)

theorem prepend0 (C : Cx w A₀ base outer mean mg mb g₀ h₀ L s.heap m (pre ++ tl)) (P : Off pre da ids) (S : NS tl mk dmk ids da Ca at_ nx pv) (hd : d + 8 < recursionLimit) (hf : env.frame = some L) (hke : env.scope.kind = .function)
    (H : Hd mk ids Ca at_ hh) (hni : n ∈ ids) (hpi : p ∈ ids) (hnx : n ≠ hh) (hp : nx hh = some p) (h1 : nx n = none) (h2 : pv n = none)
    (h : ∀ h₀' h' tk tl', Cx w A₀ base outer mean mg mb g₀ h₀' L h' m (pre ++ tl') → NS tl' mk dmk ids da Ca at_ (upO (upO nx hh n) n p) (upO (upO pv n hh) p n) → Q .none { s with heap := h', toks := tk }) :
    wpAny (model PR w) (Ar d u (env :: outer) gs) (call (.ref 77) [.ref hh, .ref n] []) Q E s := by
  have i1 := mI C S
  have i2 := mD C S
  obtain ⟨es, nn, hl⟩ := hdL C S H
  have l1 := hl.i
  have l2 := hl.d
  have l3 := hl.lt
  have l4 := hl.hd
  have hx := H.mem
  obtain ⟨F, N, B, X, T, XB, TB, D, T0⟩ := C
  ktr_unf
  intro g' L' h' F' N' B' X' T' D'
  have T1 : KtsTurn (frs (env :: outer)) g' g' := KtsTurn.refl
  (try dsimp only); (try k_fold)
  k_steps
  all_goals exact h _ _ _ _ (by ktr_rel) (by assumption)

theorem append1 (C : Cx w A₀ base outer mean mg mb g₀ h₀ L s.heap m (pre ++ tl)) (P : Off pre da ids) (S : NS tl mk dmk ids da Ca at_ nx pv) (hd : d + 8 < recursionLimit) (hf : env.frame = some L) (hke : env.scope.kind = .function)
    (H : Hd mk ids Ca at_ hh) (hni : n ∈ ids) (hpi : p ∈ ids) (hnx : n ≠ hh) (hp : pv hh = some p) (h1 : nx n = some n) (h2 : pv n = some n)
    (h : ∀ h₀' h' tk tl', Cx w A₀ base outer mean mg mb g₀ h₀' L h' m (pre ++ tl') → NS tl' mk dmk ids da Ca at_ (upO (upO nx n hh) p n) (upO (upO pv hh n) n p) → Q .none { s with heap := h', toks := tk }) :
    wpAny (model PR w) (Ar d u (env :: outer) gs) (call (.ref 70) [.ref hh, .ref n] []) Q E s := by
  have i1 := mI C S
  have i2 := mD C S
  obtain ⟨es, nn, hl⟩ := hdL C S H
  have l1 := hl.i
  have l2 := hl.d
  have l3 := hl.lt
  have l4 := hl.hd
  have hx := H.mem
  obtain ⟨F, N, B, X, T, XB, TB, D, T0⟩ := C
  ktr_unf
  intro g' L' h' F' N' B' X' T' D'
  have T1 : KtsTurn (frs (env :: outer)) g' g' := KtsTurn.refl
  (try dsimp only); (try k_fold)
  k_steps
  all_goals exact h _ _ _ _ (by ktr_rel) (by assumption)

theorem prepend1 (C : Cx w A₀ base outer mean mg mb g₀ h₀ L s.heap m (pre ++ tl)) (P : Off pre da ids) (S : NS tl mk dmk ids da Ca at_ nx pv) (hd : d + 8 < recursionLimit) (hf : env.frame = some L) (hke : env.scope.kind = .function)
    (H : Hd mk ids Ca at_ hh) (hni : n ∈ ids) (hpi : p ∈ ids) (hnx : n ≠ hh) (hp : nx hh = some p) (h1 : nx n = some n) (h2 : pv n = some n)
    (h : ∀ h₀' h' tk tl', Cx w A₀ base outer mean mg mb g₀ h₀' L h' m (pre ++ tl') → NS tl' mk dmk ids da Ca at_ (upO (upO nx hh n) n p) (upO (upO pv n hh) p n) → Q .none { s with heap := h', toks := tk }) :
    wpAny (model PR w) (Ar d u (env :: outer) gs) (call (.ref 77) [.ref hh, .ref n] []) Q E s := by
  have i1 := mI C S
  have i2 := mD C S
  obtain ⟨es, nn, hl⟩ := hdL C S H
  have l1 := hl.i
  have l2 := hl.d
  have l3 := hl.lt
  have l4 := hl.hd
  have hx := H.mem
  obtain ⟨F, N, B, X, T, XB, TB, D, T0⟩ := C
  ktr_unf
  intro g' L' h' F' N' B' X' T' D'
  have T1 : KtsTurn (frs (env :: outer)) g' g' := KtsTurn.refl
  (try dsimp only); (try k_fold)
  k_steps
  all_goals exact h _ _ _ _ (by ktr_rel) (by assumption)

theorem remove_on (C : Cx w A₀ base outer mean mg mb g₀ h₀ L s.heap m (pre ++ tl)) (P : Off pre da ids) (S : NS tl mk dmk ids da Ca at_ nx pv) (hd : d + 8 < recursionLimit) (hf : env.frame = some L) (hke : env.scope.kind = .function)
    (H : Hd mk ids Ca at_ hh) (hx : x ∈ ids) (hni : n ∈ ids) (hpi : p ∈ ids) (hnx : n ≠ x) (hn : nx x = some n) (hp : pv x = some p)
    (h : ∀ h₀' h' tk tl', Cx w A₀ base outer mean mg mb g₀ h₀' L h' m (pre ++ tl') → NS tl' mk dmk ids da Ca at_ (upO (upO nx p n) x x) (upO (upO pv n p) x x) → Q .none { s with heap := h', toks := tk }) :
    wpAny (model PR w) (Ar d u (env :: outer) gs) (call (.ref 91) [.ref hh, .ref x] []) Q E s := by
  have i1 := mI C S
  have i2 := mD C S
  obtain ⟨es, nn, hl⟩ := hdL C S H
  have l1 := hl.i
  have l2 := hl.d
  have l3 := hl.lt
  have l4 := hl.hd
  have hx' := H.mem
  obtain ⟨F, N, B, X, T, XB, TB, D, T0⟩ := C
  ktr_unf
  intro g' L' h' F' N' B' X' T' D'
  have T1 : KtsTurn (frs (env :: outer)) g' g' := KtsTurn.refl
  (try dsimp only); (try k_fold)
  k_steps
  all_goals exact h _ _ _ _ (by ktr_rel) (by assumption)

theorem is_empty_t (C : Cx w A₀ base outer mean mg mb g₀ h₀ L s.heap m (pre ++ tl)) (P : Off pre da ids) (S : NS tl mk dmk ids da Ca at_ nx pv) (hd : d + 8 < recursionLimit) (hf : env.frame = some L) (hke : env.scope.kind = .function)
    (H : Hd mk ids Ca at_ hh) (hn : nx hh = some hh) (hp : pv hh = some hh)
    (h : ∀ h₀' h' tk tl', Cx w A₀ base outer mean mg mb g₀ h₀' L h' m (pre ++ tl') → NS tl' mk dmk ids da Ca at_ nx pv → Q (.bool true) { s with heap := h', toks := tk }) :
    wpAny (model PR w) (Ar d u (env :: outer) gs) (call (.ref 49) [.ref hh] []) Q E s := by
  have i1 := mI C S
  have i2 := mD C S
  obtain ⟨es, nn, hl⟩ := hdL C S H
  have l1 := hl.i
  have l2 := hl.d
  have l3 := hl.lt
  have l4 := hl.hd
  have hx := H.mem
  obtain ⟨F, N, B, X, T, XB, TB, D, T0⟩ := C
  ktr_unf
  intro g' L' h' F' N' B' X' T' D'
  have T1 : KtsTurn (frs (env :: outer)) g' g' := KtsTurn.refl
  (try dsimp only); (try k_fold)
  k_steps
  all_goals exact h _ _ _ _ (by ktr_rel) (by assumption)

theorem is_empty_f (C : Cx w A₀ base outer mean mg mb g₀ h₀ L s.heap m (pre ++ tl)) (P : Off pre da ids) (S : NS tl mk dmk ids da Ca at_ nx pv) (hd : d + 8 < recursionLimit) (hf : env.frame = some L) (hke : env.scope.kind = .function)
    (H : Hd mk ids Ca at_ hh) (hn : nx hh = some x) (hne : x ≠ hh) (hxi : x ∈ ids)
    (h : ∀ h₀' h' tk tl', Cx w A₀ base outer mean mg mb g₀ h₀' L h' m (pre ++ tl') → NS tl' mk dmk ids da Ca at_ nx pv → Q (.bool false) { s with heap := h', toks := tk }) :
    wpAny (model PR w) (Ar d u (env :: outer) gs) (call (.ref 49) [.ref hh] []) Q E s := by
  have i1 := mI C S
  have i2 := mD C S
  obtain ⟨es, nn, hl⟩ := hdL C S H
  have l1 := hl.i
  have l2 := hl.d
  have l3 := hl.lt
  have l4 := hl.hd
  have hx := H.mem
  obtain ⟨F, N, B, X, T, XB, TB, D, T0⟩ := C
  ktr_unf
  intro g' L' h' F' N' B' X' T' D'
  have T1 : KtsTurn (frs (env :: outer)) g' g' := KtsTurn.refl
  (try dsimp only); (try k_fold)
  k_steps
  all_goals exact h _ _ _ _ (by ktr_rel) (by assumption)
end
end Mine
namespace Mine
theorem rstYB8 : True := by
  w_top off
  trivial
theorem fillK8 : PySem.Challenge.rw_fc0145_01.Holds → (∀ w : World, (hd.heap_39 w.params).In default) → True := by
  k_fill
  intros
  trivial
local macro_rules | `(tactic| k_steps) => `(tactic| repeat' (first | (k_unfold; (try dsimp only)) | walk1 | (dsimp only; walk1) | fail "no step"))
local macro_rules | `(tactic| ktr_unf) => `(tactic| (refine wpAny_call ?_; refine' codeS ?B ?F ?X ?N ?T ?XB ?TB ?D ?T0 ?kA ?hf ?hke ?k6 ?k7 ?k8 ?k9 ?kB ?_ ?c2 ?c3 ?c4 ?c5; (case F => assumption); (case N => assumption); (case B => assumption); (case X => assumption); (case T => assumption); (case XB => assumption); (case TB => assumption); (case D => assumption); (case T0 => assumption); (case kA => exact rfl); (case hf => first | assumption | exact rfl); (case hke => first | assumption | exact rfl); (case k6 => k_is); (case k7 => k_is); (case k8 => (show _ < recursionLimit; first | omega | (dsimp only [Ar]; omega))); (case k9 => exact BindsTo.of_eq rfl); (case kB => exact locs rfl); (case c2 => exact rfl); (case c3 => exact rfl); (case c4 => exact rfl); (case c5 => decide); k_whole))
local macro_rules | `(tactic| ktr_rel) => `(tactic| exact ⟨by assumption, by assumption, by assumption, by assumption, by assumption, by assumption, by assumption, by assumption, by assumption⟩)
local macro_rules | `(tactic| k_mem) => `(tactic| assumption)

local macro_rules | `(tactic| walk_at "call ref") => `(tactic| (k_here; (with_reducible show wpAny _ _ (call (Value.ref 148) _ _) _ _ _); (first | (refine' next_some ?C ?S ?d ?f ?k ?x ?n ?_; (case C => ktr_rel); (case S => assumption); (case d => first | omega | (dsimp only [Ar]; omega)); (case f => first | assumption | exact rfl); (case k => first | assumption | exact rfl); (case x => assumption); (case n => assumption); k_whole; intro h₀' h' tk' C'; obtain ⟨F', N', B', X', T', XB', TB', D', T0'⟩ := C') | (refine' next_none ?C ?S ?d ?f ?k ?x ?n ?_; (case C => ktr_rel); (case S => assumption); (case d => first | omega | (dsimp only [Ar]; omega)); (case f => first | assumption | exact rfl); (case k => first | assumption | exact rfl); (case x => assumption); (case n => assumption); k_whole; intro h₀' h' tk' C'; obtain ⟨F', N', B', X', T', XB', TB', D', T0'⟩ := C'))))
local macro_rules | `(tactic| walk_at "call ref") => `(tactic| (k_here; (with_reducible show wpAny _ _ (call (Value.ref 162) _ _) _ _ _); (first | (refine' prev_some ?C ?S ?d ?f ?k ?x ?n ?_; (case C => ktr_rel); (case S => assumption); (case d => first | omega | (dsimp only [Ar]; omega)); (case f => first | assumption | exact rfl); (case k => first | assumption | exact rfl); (case x => assumption); (case n => assumption); k_whole; intro h₀' h' tk' C'; obtain ⟨F', N', B', X', T', XB', TB', D', T0'⟩ := C') | (refine' prev_none ?C ?S ?d ?f ?k ?x ?n ?_; (case C => ktr_rel); (case S => assumption); (case d => first | omega | (dsimp only [Ar]; omega)); (case f => first | assumption | exact rfl); (case k => first | assumption | exact rfl); (case x => assumption); (case n => assumption); k_whole; intro h₀' h' tk' C'; obtain ⟨F', N', B', X', T', XB', TB', D', T0'⟩ := C'))))
local macro_rules | `(tactic| walk_at "call ref") => `(tactic| (k_here; (with_reducible show wpAny _ _ (call (Value.ref 176) _ _) _ _ _); (first | (refine' off_none ?C ?S ?d ?f ?k ?x ?n ?n2 ?_; (case C => ktr_rel); (case S => assumption); (case d => first | omega | (dsimp only [Ar]; omega)); (case f => first | assumption | exact rfl); (case k => first | assumption | exact rfl); (case x => assumption); (case n => assumption); (case n2 => assumption); k_whole; intro h₀' h' tk' C'; obtain ⟨F', N', B', X', T', XB', TB', D', T0'⟩ := C') | (refine' off_self ?C ?S ?d ?f ?k ?x ?n ?n2 ?_; (case C => ktr_rel); (case S => assumption); (case d => first | omega | (dsimp only [Ar]; omega)); (case f => first | assumption | exact rfl); (case k => first | assumption | exact rfl); (case x => assumption); (case n => assumption); (case n2 => assumption); k_whole; intro h₀' h' tk' C'; obtain ⟨F', N', B', X', T', XB', TB', D', T0'⟩ := C') | (refine' on_list ?C ?S ?d ?f ?k ?x ?n ?n2 ?n3 ?_; (case C => ktr_rel); (case S => assumption); (case d => first | omega | (dsimp only [Ar]; omega)); (case f => first | assumption | exact rfl); (case k => first | assumption | exact rfl); (case x => assumption); (case n => assumption); (case n2 => assumption); (case n3 => assumption); k_whole; intro h₀' h' tk' C'; obtain ⟨F', N', B', X', T', XB', TB', D', T0'⟩ := C'))))
local macro_rules | `(tactic| walk_at "call ref") => `(tactic| (k_here; (with_reducible show wpAny _ _ (call (Value.ref 155) _ _) _ _ _); refine' set_next ?C ?P ?S ?d ?f ?k ?x ?_; (case C => ktr_rel); (case P => assumption); (case S => assumption); (case d => first | omega | (dsimp only [Ar]; omega)); (case f => first | assumption | exact rfl); (case k => first | assumption | exact rfl); (case x => assumption); k_whole; intro h₀' h' tk' tl' C' S'; have j1' := mI C' S'; have j2' := mD C' S'; obtain ⟨F', N', B', X', T', XB', TB', D', T0'⟩ := C'))
local macro_rules | `(tactic| walk_at "call ref") => `(tactic| (k_here; (with_reducible show wpAny _ _ (call (Value.ref 169) _ _) _ _ _); refine' set_prev ?C ?P ?S ?d ?f ?k ?x ?_; (case C => ktr_rel); (case P => assumption); (case S => assumption); (case d => first | omega | (dsimp only [Ar]; omega)); (case f => first | assumption | exact rfl); (case k => first | assumption | exact rfl); (case x => assumption); k_whole; intro h₀' h' tk' tl' C' S'; have j1' := mI C' S'; have j2' := mD C' S'; obtain ⟨F', N', B', X', T', XB', TB', D', T0'⟩ := C'))
local macro_rules | `(tactic| walk_at "compareOp Is ref ref") => `(tactic| (k_here; refine' is_nodes ?N ?S ?x ?y ?ne ?_; (case N => assumption); (case S => assumption); (case x => assumption); (case y => assumption); (case ne => first | assumption | (apply Ne.symm; assumption)); k_whole))
local macro_rules | `(tactic| walk_at "compareOp IsNot ref ref") => `(tactic| (k_here; refine' isNot_nodes ?N ?S ?x ?y ?ne ?_; (case N => assumption); (case S => assumption); (case x => assumption); (case y => assumption); (case ne => first | assumption | (apply Ne.symm; assumption)); k_whole))
local macro_rules | `(tactic| walk_at "call ref") => `(tactic| (k_here; (with_reducible show wpAny _ _ (call (Value.ref 148) _ _) _ _ _); (first | (refine' next_some ?C ?S ?d ?f ?k ?x ?n ?_; (case C => ktr_rel); (case S => assumption); (case d => first | omega | (dsimp only [Ar]; omega)); (case f => first | assumption | exact rfl); (case k => first | assumption | exact rfl); (case x => assumption); (case n => assumption); k_whole; intro h₀' h' tk' C'; obtain ⟨F', N', B', X', T', XB', TB', D', T0'⟩ := C') | (refine' next_none ?C ?S ?d ?f ?k ?x ?n ?_; (case C => ktr_rel); (case S => assumption); (case d => first | omega | (dsimp only [Ar]; omega)); (case f => first | assumption | exact rfl); (case k => first | assumption | exact rfl); (case x => assumption); (case n => assumption); k_whole; intro h₀' h' tk' C'; obtain ⟨F', N', B', X', T', XB', TB', D', T0'⟩ := C'))))
local macro_rules | `(tactic| walk_at "call ref") => `(tactic| (k_here; (with_reducible show wpAny _ _ (call (Value.ref 162) _ _) _ _ _); (first | (refine' prev_some ?C ?S ?d ?f ?k ?x ?n ?_; (case C => ktr_rel); (case S => assumption); (case d => first | omega | (dsimp only [Ar]; omega)); (case f => first | assumption | exact rfl); (case k => first | assumption | exact rfl); (case x => assumption); (case n => assumption); k_whole; intro h₀' h' tk' C'; obtain ⟨F', N', B', X', T', XB', TB', D', T0'⟩ := C') | (refine' prev_none ?C ?S ?d ?f ?k ?x ?n ?_; (case C => ktr_rel); (case S => assumption); (case d => first | omega | (dsimp only [Ar]; omega)); (case f => first | assumption | exact rfl); (case k => first | assumption | exact rfl); (case x => assumption); (case n => assumption); k_whole; intro h₀' h' tk' C'; obtain ⟨F', N', B', X', T', XB', TB', D', T0'⟩ := C'))))
local macro_rules | `(tactic| walk_at "call ref") => `(tactic| (k_here; (with_reducible show wpAny _ _ (call (Value.ref 176) _ _) _ _ _); (first | (refine' off_none ?C ?S ?d ?f ?k ?x ?n ?n2 ?_; (case C => ktr_rel); (case S => assumption); (case d => first | omega | (dsimp only [Ar]; omega)); (case f => first | assumption | exact rfl); (case k => first | assumption | exact rfl); (case x => assumption); (case n => assumption); (case n2 => assumption); k_whole; intro h₀' h' tk' C'; obtain ⟨F', N', B', X', T', XB', TB', D', T0'⟩ := C') | (refine' off_self ?C ?S ?d ?f ?k ?x ?n ?n2 ?_; (case C => ktr_rel); (case S => assumption); (case d => first | omega | (dsimp only [Ar]; omega)); (case f => first | assumption | exact rfl); (case k => first | assumption | exact rfl); (case x => assumption); (case n => assumption); (case n2 => assumption); k_whole; intro h₀' h' tk' C'; obtain ⟨F', N', B', X', T', XB', TB', D', T0'⟩ := C') | (refine' on_list ?C ?S ?d ?f ?k ?x ?n ?n2 ?n3 ?_; (case C => ktr_rel); (case S => assumption); (case d => first | omega | (dsimp only [Ar]; omega)); (case f => first | assumption | exact rfl); (case k => first | assumption | exact rfl); (case x => assumption); (case n => assumption); (case n2 => assumption); (case n3 => assumption); k_whole; intro h₀' h' tk' C'; obtain ⟨F', N', B', X', T', XB', TB', D', T0'⟩ := C'))))
local macro_rules | `(tactic| walk_at "call ref") => `(tactic| (k_here; (with_reducible show wpAny _ _ (call (Value.ref 155) _ _) _ _ _); refine' set_next ?C ?P ?S ?d ?f ?k ?x ?_; (case C => ktr_rel); (case P => assumption); (case S => assumption); (case d => first | omega | (dsimp only [Ar]; omega)); (case f => first | assumption | exact rfl); (case k => first | assumption | exact rfl); (case x => assumption); k_whole; intro h₀' h' tk' tl' C' S'; have j1' := mI C' S'; have j2' := mD C' S'; obtain ⟨F', N', B', X', T', XB', TB', D', T0'⟩ := C'))
local macro_rules | `(tactic| walk_at "call ref") => `(tactic| (k_here; (with_reducible show wpAny _ _ (call (Value.ref 169) _ _) _ _ _); refine' set_prev ?C ?P ?S ?d ?f ?k ?x ?_; (case C => ktr_rel); (case P => assumption); (case S => assumption); (case d => first | omega | (dsimp only [Ar]; omega)); (case f => first | assumption | exact rfl); (case k => first | assumption | exact rfl); (case x => assumption); k_whole; intro h₀' h' tk' tl' C' S'; have j1' := mI C' S'; have j2' := mD C' S'; obtain ⟨F', N', B', X', T', XB', TB', D', T0'⟩ := C'))
local macro_rules | `(tactic| walk_at "compareOp Is ref ref") => `(tactic| (k_here; refine' is_nodes ?N ?S ?x ?y ?ne ?_; (case N => assumption); (case S => assumption); (case x => assumption); (case y => assumption); (case ne => first | assumption | (apply Ne.symm; assumption)); k_whole))
local macro_rules | `(tactic| walk_at "compareOp IsNot ref ref") => `(tactic| (k_here; refine' isNot_nodes ?N ?S ?x ?y ?ne ?_; (case N => assumption); (case S => assumption); (case x => assumption); (case y => assumption); (case ne => first | assumption | (apply Ne.symm; assumption)); k_whole))
local macro_rules | `(tactic| walk_at "call ref") => `(tactic| (k_here; (with_reducible show wpAny _ _ (call (Value.ref 91) _ _) _ _ _); (first | (refine' remove_on ?C ?P ?S ?d ?f ?k ?H ?x0 ?x1 ?x2 ?x3 ?x4 ?x5 ?_; (case C => ktr_rel); (case P => assumption); (case S => assumption); (case d => first | omega | (dsimp only [Ar]; omega)); (case f => first | assumption | exact rfl); (case k => first | assumption | exact rfl); (case H => assumption); (case x5 => assumption); (case x4 => assumption); (case x3 => assumption); (case x2 => assumption); (case x1 => assumption); (case x0 => assumption); k_whole; intro h₀' h' tk' tl' C' S'; have j1' := mI C' S'; have j2' := mD C' S'; obtain ⟨F', N', B', X', T', XB', TB', D', T0'⟩ := C'))))
local macro_rules | `(tactic| k_get) => `(tactic| assumption)
section
variable {w : World} {A₀ : Around} {base g₀ h₀ : Heap} {outer : List Env} {env : Env} {L : Addr} {m mg mb : Str → Option Value} {mean : ExcName → Option Value}
  {s : Shared} {pre tl : List (Addr × Obj)} {d u : Nat} {gs : Option (List Code)} {Q : Value → Shared → Prop} {E : Value → Shared → Prop}
  {mk dmk x y n p hh : Addr} {ids : List Addr} {da Ca : Addr → Addr} {at_ : Addr → Str → Option Value} {nx pv : Addr → Option Addr} {h : Heap}


theorem pop_none (C : Cx w A₀ base outer mean mg mb g₀ h₀ L s.heap m (pre ++ tl)) (P : Off pre da ids) (S : NS tl mk dmk ids da Ca at_ nx pv) (hd : d + 9 < recursionLimit) (hf : env.frame = some L) (hke : env.scope.kind = .function)
    (H : Hd mk ids Ca at_ hh) (hn : nx hh = some hh)
    (h : ∀ h₀' h' tk tl', Cx w A₀ base outer mean mg mb g₀ h₀' L h' m (pre ++ tl') → NS tl' mk dmk ids da Ca at_ nx pv → Q .none { s with heap := h', toks := tk }) :
    wpAny (model PR w) (Ar d u (env :: outer) gs) (call (.ref 98) [.ref hh] []) Q E s := by
  have i1 := mI C S
  have i2 := mD C S
  obtain ⟨es, nn, hl⟩ := hdL C S H
  have l1 := hl.i
  have l2 := hl.d
  have l3 := hl.lt
  have l4 := hl.hd
  have hx := H.mem
  obtain ⟨F, N, B, X, T, XB, TB, D, T0⟩ := C
  ktr_unf
  intro g' L' h' F' N' B' X' T' D'
  have T1 : KtsTurn (frs (env :: outer)) g' g' := KtsTurn.refl
  (try dsimp only); (try k_fold)
  k_steps
  all_goals exact h _ _ _ _ (by ktr_rel) (by assumption)

theorem pop_some (C : Cx w A₀ base outer mean mg mb g₀ h₀ L s.heap m (pre ++ tl)) (P : Off pre da ids) (S : NS tl mk dmk ids da Ca at_ nx pv) (hd : d + 9 < recursionLimit) (hf : env.frame = some L) (hke : env.scope.kind = .function)
    (H : Hd mk ids Ca at_ hh) (hx : x ∈ ids) (hxh : x ≠ hh) (hnh : nx hh = some x) (hni : n ∈ ids) (hpi : p ∈ ids) (hnx : n ≠ x) (hn : nx x = some n) (hp : pv x = some p)
    (h : ∀ h₀' h' tk tl', Cx w A₀ base outer mean mg mb g₀ h₀' L h' m (pre ++ tl') → NS tl' mk dmk ids da Ca at_ (upO (upO nx p n) x x) (upO (upO pv n p) x x) → Q (.ref x) { s with heap := h', toks := tk }) :
    wpAny (model PR w) (Ar d u (env :: outer) gs) (call (.ref 98) [.ref hh] []) Q E s := by
  have i1 := mI C S
  have i2 := mD C S
  obtain ⟨es, nn, hl⟩ := hdL C S H
  have l1 := hl.i
  have l2 := hl.d
  have l3 := hl.lt
  have l4 := hl.hd
  have no0 := hl.no (Str.ofString "remove") (by decide +kernel) (by decide +kernel) (by decide +kernel) (by decide +kernel)
  have hx' := H.mem
  obtain ⟨F, N, B, X, T, XB, TB, D, T0⟩ := C
  ktr_unf
  intro g' L' h' F' N' B' X' T' D'
  have T1 : KtsTurn (frs (env :: outer)) g' g' := KtsTurn.refl
  (try dsimp only); (try k_fold)
  k_steps
  all_goals exact h _ _ _ _ (by ktr_rel) (by assumption)

end
end Mine
namespace Mine
theorem rstYB9 : True := by
  w_top off
  trivial
theorem fillK9 : PySem.Challenge.rw_fc0145_01.Holds → (∀ w : World, (hd.heap_39 w.params).In default) → True := by
  k_fill
  intros
  trivial
local macro_rules | `(tactic| k_steps) => `(tactic| repeat' (first | (k_unfold; (try dsimp only)) | walk1 | (dsimp only; walk1) | fail "no step"))
local macro_rules | `(tactic| ktr_unf) => `(tactic| (refine wpAny_call ?_; refine' codeS ?B ?F ?X ?N ?T ?XB ?TB ?D ?T0 ?kA ?hf ?hke ?k6 ?k7 ?k8 ?k9 ?kB ?_ ?c2 ?c3 ?c4 ?c5; (case F => assumption); (case N => assumption); (case B => assumption); (case X => assumption); (case T => assumption); (case XB => assumption); (case TB => assumption); (case D => assumption); (case T0 => assumption); (case kA => exact rfl); (case hf => first | assumption | exact rfl); (case hke => first | assumption | exact rfl); (case k6 => k_is); (case k7 => k_is); (case k8 => (show _ < recursionLimit; first | omega | (dsimp only [Ar]; omega))); (case k9 => exact BindsTo.of_eq rfl); (case kB => exact locs rfl); (case c2 => exact rfl); (case c3 => exact rfl); (case c4 => exact rfl); (case c5 => decide); k_whole))
local macro_rules | `(tactic| ktr_rel) => `(tactic| exact ⟨by assumption, by assumption, by assumption, by assumption, by assumption, by assumption, by assumption, by assumption, by assumption⟩)
local macro_rules | `(tactic| k_mem) => `(tactic| assumption)

local macro_rules | `(tactic| walk_at "call ref") => `(tactic| (k_here; (with_reducible show wpAny _ _ (call (Value.ref 148) _ _) _ _ _); (first | (refine' next_some ?C ?S ?d ?f ?k ?x ?n ?_; (case C => ktr_rel); (case S => assumption); (case d => first | omega | (dsimp only [Ar]; omega)); (case f => first | assumption | exact rfl); (case k => first | assumption | exact rfl); (case x => assumption); (case n => assumption); k_whole; intro h₀' h' tk' C'; obtain ⟨F', N', B', X', T', XB', TB', D', T0'⟩ := C') | (refine' next_none ?C ?S ?d ?f ?k ?x ?n ?_; (case C => ktr_rel); (case S => assumption); (case d => first | omega | (dsimp only [Ar]; omega)); (case f => first | assumption | exact rfl); (case k => first | assumption | exact rfl); (case x => assumption); (case n => assumption); k_whole; intro h₀' h' tk' C'; obtain ⟨F', N', B', X', T', XB', TB', D', T0'⟩ := C'))))
local macro_rules | `(tactic| walk_at "call ref") => `(tactic| (k_here; (with_reducible show wpAny _ _ (call (Value.ref 162) _ _) _ _ _); (first | (refine' prev_some ?C ?S ?d ?f ?k ?x ?n ?_; (case C => ktr_rel); (case S => assumption); (case d => first | omega | (dsimp only [Ar]; omega)); (case f => first | assumption | exact rfl); (case k => first | assumption | exact rfl); (case x => assumption); (case n => assumption); k_whole; intro h₀' h' tk' C'; obtain ⟨F', N', B', X', T', XB', TB', D', T0'⟩ := C') | (refine' prev_none ?C ?S ?d ?f ?k ?x ?n ?_; (case C => ktr_rel); (case S => assumption); (case d => first | omega | (dsimp only [Ar]; omega)); (case f => first | assumption | exact rfl); (case k => first | assumption | exact rfl); (case x => assumption); (case n => assumption); k_whole; intro h₀' h' tk' C'; obtain ⟨F', N', B', X', T', XB', TB', D', T0'⟩ := C'))))
local macro_rules | `(tactic| walk_at "call ref") => `(tactic| (k_here; (with_reducible show wpAny _ _ (call (Value.ref 176) _ _) _ _ _); (first | (refine' off_none ?C ?S ?d ?f ?k ?x ?n ?n2 ?_; (case C => ktr_rel); (case S => assumption); (case d => first | omega | (dsimp only [Ar]; omega)); (case f => first | assumption | exact rfl); (case k => first | assumption | exact rfl); (case x => assumption); (case n => assumption); (case n2 => assumption); k_whole; intro h₀' h' tk' C'; obtain ⟨F', N', B', X', T', XB', TB', D', T0'⟩ := C') | (refine' off_self ?C ?S ?d ?f ?k ?x ?n ?n2 ?_; (case C => ktr_rel); (case S => assumption); (case d => first | omega | (dsimp only [Ar]; omega)); (case f => first | assumption | exact rfl); (case k => first | assumption | exact rfl); (case x => assumption); (case n => assumption); (case n2 => assumption); k_whole; intro h₀' h' tk' C'; obtain ⟨F', N', B', X', T', XB', TB', D', T0'⟩ := C') | (refine' on_list ?C ?S ?d ?f ?k ?x ?n ?n2 ?n3 ?_; (case C => ktr_rel); (case S => assumption); (case d => first | omega | (dsimp only [Ar]; omega)); (case f => first | assumption | exact rfl); (case k => first | assumption | exact rfl); (case x => assumption); (case n => assumption); (case n2 => assumption); (case n3 => assumption); k_whole; intro h₀' h' tk' C'; obtain ⟨F', N', B', X', T', XB', TB', D', T0'⟩ := C'))))
local macro_rules | `(tactic| walk_at "call ref") => `(tactic| (k_here; (with_reducible show wpAny _ _ (call (Value.ref 155) _ _) _ _ _); refine' set_next ?C ?P ?S ?d ?f ?k ?x ?_; (case C => ktr_rel); (case P => assumption); (case S => assumption); (case d => first | omega | (dsimp only [Ar]; omega)); (case f => first | assumption | exact rfl); (case k => first | assumption | exact rfl); (case x => assumption); k_whole; intro h₀' h' tk' tl' C' S'; have j1' := mI C' S'; have j2' := mD C' S'; obtain ⟨F', N', B', X', T', XB', TB', D', T0'⟩ := C'))
local macro_rules | `(tactic| walk_at "call ref") => `(tactic| (k_here; (with_reducible show wpAny _ _ (call (Value.ref 169) _ _) _ _ _); refine' set_prev ?C ?P ?S ?d ?f ?k ?x ?_; (case C => ktr_rel); (case P => assumption); (case S => assumption); (case d => first | omega | (dsimp only [Ar]; omega)); (case f => first | assumption | exact rfl); (case k => first | assumption | exact rfl); (case x => assumption); k_whole; intro h₀' h' tk' tl' C' S'; have j1' := mI C' S'; have j2' := mD C' S'; obtain ⟨F', N', B', X', T', XB', TB', D', T0'⟩ := C'))
local macro_rules | `(tactic| walk_at "compareOp Is ref ref") => `(tactic| (k_here; refine' is_nodes ?N ?S ?x ?y ?ne ?_; (case N => assumption); (case S => assumption); (case x => assumption); (case y => assumption); (case ne => first | assumption | (apply Ne.symm; assumption)); k_whole))
local macro_rules | `(tactic| walk_at "compareOp IsNot ref ref") => `(tactic| (k_here; refine' isNot_nodes ?N ?S ?x ?y ?ne ?_; (case N => assumption); (case S => assumption); (case x => assumption); (case y => assumption); (case ne => first | assumption | (apply Ne.symm; assumption)); k_whole))
local macro_rules | `(tactic| walk_at "call ref") => `(tactic| (k_here; (with_reducible show wpAny _ _ (call (Value.ref 148) _ _) _ _ _); (first | (refine' next_some ?C ?S ?d ?f ?k ?x ?n ?_; (case C => ktr_rel); (case S => assumption); (case d => first | omega | (dsimp only [Ar]; omega)); (case f => first | assumption | exact rfl); (case k => first | assumption | exact rfl); (case x => assumption); (case n => assumption); k_whole; intro h₀' h' tk' C'; obtain ⟨F', N', B', X', T', XB', TB', D', T0'⟩ := C') | (refine' next_none ?C ?S ?d ?f ?k ?x ?n ?_; (case C => ktr_rel); (case S => assumption); (case d => first | omega | (dsimp only [Ar]; omega)); (case f => first | assumption | exact rfl); (case k => first | assumption | exact rfl); (case x => assumption); (case n => assumption); k_whole; intro h₀' h' tk' C'; obtain ⟨F', N', B', X', T', XB', TB', D', T0'⟩ := C'))))
local macro_rules | `(tactic| walk_at "call ref") => `(tactic| (k_here; (with_reducible show wpAny _ _ (call (Value.ref 162) _ _) _ _ _); (first | (refine' prev_some ?C ?S ?d ?f ?k ?x ?n ?_; (case C => ktr_rel); (case S => assumption); (case d => first | omega | (dsimp only [Ar]; omega)); (case f => first | assumption | exact rfl); (case k => first | assumption | exact rfl); (case x => assumption); (case n => assumption); k_whole; intro h₀' h' tk' C'; obtain ⟨F', N', B', X', T', XB', TB', D', T0'⟩ := C') | (refine' prev_none ?C ?S ?d ?f ?k ?x ?n ?_; (case C => ktr_rel); (case S => assumption); (case d => first | omega | (dsimp only [Ar]; omega)); (case f => first | assumption | exact rfl); (case k => first | assumption | exact rfl); (case x => assumption); (case n => assumption); k_whole; intro h₀' h' tk' C'; obtain ⟨F', N', B', X', T', XB', TB', D', T0'⟩ := C'))))
local macro_rules | `(tactic| walk_at "call ref") => `(tactic| (k_here; (with_reducible show wpAny _ _ (call (Value.ref 176) _ _) _ _ _); (first | (refine' off_none ?C ?S ?d ?f ?k ?x ?n ?n2 ?_; (case C => ktr_rel); (case S => assumption); (case d => first | omega | (dsimp only [Ar]; omega)); (case f => first | assumption | exact rfl); (case k => first | assumption | exact rfl); (case x => assumption); (case n => assumption); (case n2 => assumption); k_whole; intro h₀' h' tk' C'; obtain ⟨F', N', B', X', T', XB', TB', D', T0'⟩ := C') | (refine' off_self ?C ?S ?d ?f ?k ?x ?n ?n2 ?_; (case C => ktr_rel); (case S => assumption); (case d => first | omega | (dsimp only [Ar]; omega)); (case f => first | assumption | exact rfl); (case k => first | assumption | exact rfl); (case x => assumption); (case n => assumption); (case n2 => assumption); k_whole; intro h₀' h' tk' C'; obtain ⟨F', N', B', X', T', XB', TB', D', T0'⟩ := C') | (refine' on_list ?C ?S ?d ?f ?k ?x ?n ?n2 ?n3 ?_; (case C => ktr_rel); (case S => assumption); (case d => first | omega | (dsimp only [Ar]; omega)); (case f => first | assumption | exact rfl); (case k => first | assumption | exact rfl); (case x => assumption); (case n => assumption); (case n2 => assumption); (case n3 => assumption); k_whole; intro h₀' h' tk' C'; obtain ⟨F', N', B', X', T', XB', TB', D', T0'⟩ := C'))))
local macro_rules | `(tactic| walk_at "call ref") => `(tactic| (k_here; (with_reducible show wpAny _ _ (call (Value.ref 155) _ _) _ _ _); refine' set_next ?C ?P ?S ?d ?f ?k ?x ?_; (case C => ktr_rel); (case P => assumption); (case S => assumption); (case d => first | omega | (dsimp only [Ar]; omega)); (case f => first | assumption | exact rfl); (case k => first | assumption | exact rfl); (case x => assumption); k_whole; intro h₀' h' tk' tl' C' S'; have j1' := mI C' S'; have j2' := mD C' S'; obtain ⟨F', N', B', X', T', XB', TB', D', T0'⟩ := C'))
local macro_rules | `(tactic| walk_at "call ref") => `(tactic| (k_here; (with_reducible show wpAny _ _ (call (Value.ref 169) _ _) _ _ _); refine' set_prev ?C ?P ?S ?d ?f ?k ?x ?_; (case C => ktr_rel); (case P => assumption); (case S => assumption); (case d => first | omega | (dsimp only [Ar]; omega)); (case f => first | assumption | exact rfl); (case k => first | assumption | exact rfl); (case x => assumption); k_whole; intro h₀' h' tk' tl' C' S'; have j1' := mI C' S'; have j2' := mD C' S'; obtain ⟨F', N', B', X', T', XB', TB', D', T0'⟩ := C'))
local macro_rules | `(tactic| walk_at "compareOp Is ref ref") => `(tactic| (k_here; refine' is_nodes ?N ?S ?x ?y ?ne ?_; (case N => assumption); (case S => assumption); (case x => assumption); (case y => assumption); (case ne => first | assumption | (apply Ne.symm; assumption)); k_whole))
local macro_rules | `(tactic| walk_at "compareOp IsNot ref ref") => `(tactic| (k_here; refine' isNot_nodes ?N ?S ?x ?y ?ne ?_; (case N => assumption); (case S => assumption); (case x => assumption); (case y => assumption); (case ne => first | assumption | (apply Ne.symm; assumption)); k_whole))
section
variable {w : World} {A₀ : Around} {base g₀ h₀ : Heap} {outer : List Env} {env : Env} {L : Addr} {m mg mb : Str → Option Value} {mean : ExcName → Option Value}
  {s : Shared} {pre tl : List (Addr × Obj)} {d u : Nat} {gs : Option (List Code)} {Q : Value → Shared → Prop} {E : Value → Shared → Prop}
  {mk dmk x y n p hh : Addr} {ids : List Addr} {da Ca : Addr → Addr} {at_ : Addr → Str → Option Value} {nx pv : Addr → Option Addr} {h : Heap}


theorem node_init0 (C : Cx w A₀ base outer mean mg mb g₀ h₀ L s.heap m (pre ++ tl)) (P : Off pre da ids) (S : NS tl mk dmk ids da Ca at_ nx pv) (hd : d + 7 < recursionLimit) (hf : env.frame = some L) (hke : env.scope.kind = .function)
    (hx : x ∈ ids) (h1 : nx x = none) (h2 : pv x = none)
    (h : ∀ h₀' h' tk tl', Cx w A₀ base outer mean mg mb g₀ h₀' L h' m (pre ++ tl') → NS tl' mk dmk ids da Ca at_ (upO nx x x) (upO pv x x) → Q .none { s with heap := h', toks := tk }) :
    wpAny (model PR w) (Ar d u (env :: outer) gs) (call (.ref 141) [.ref mk, .ref x] []) Q E s := by
  have i1 := mI C S
  have i2 := mD C S
  obtain ⟨F, N, B, X, T, XB, TB, D, T0⟩ := C
  ktr_unf
  intro g' L' h' F' N' B' X' T' D'
  have T1 : KtsTurn (frs (env :: outer)) g' g' := KtsTurn.refl
  (try dsimp only); (try k_fold)
  k_steps
  all_goals exact h _ _ _ _ (by ktr_rel) (by assumption)

theorem allNe {l : List (Addr × Obj)} {d : Addr} (h : ∀ p ∈ l, p.1 < d) : ∀ p ∈ l, p.1 ≠ d := fun p hp => Nat.ne_of_lt (h p hp)
local macro_rules | `(tactic| ktr_room) => `(tactic| (refine' codeS ?B ?F ?X ?N ?T ?XB ?TB ?D ?T0 ?kA ?hf ?hke ?k6 ?k7 ?k8 ?k9 ?kB ?_ ?c2 ?c3 ?c4 ?c5; (case F => assumption); (case N => assumption); (case B => assumption); (case X => assumption); (case T => assumption); (case XB => assumption); (case TB => assumption); (case D => assumption); (case T0 => assumption); (case kA => exact rfl); (case hf => first | assumption | exact rfl); (case hke => first | assumption | exact rfl); (case k6 => k_is); (case k7 => k_is); (case k8 => (show _ < recursionLimit; first | omega | (dsimp only [Ar]; omega))); (case k9 => exact BindsTo.of_eq rfl); (case kB => exact locs rfl); (case c2 => exact rfl); (case c3 => exact rfl); (case c4 => exact rfl); (case c5 => decide); k_whole))
local macro_rules | `(tactic| k_all) => `(tactic| exact allNe (by assumption))


def upF {α : Type} (f : Addr → α) (x : Addr) (v : α) : Addr → α := fun z => if z = x then v else f z
theorem upF_self {α : Type} (f : Addr → α) (x : Addr) (v : α) : upF f x v x = v := if_pos rfl
theorem upF_ne {α : Type} {f : Addr → α} {x z : Addr} {v : α} (h : z ≠ x) : upF f x v z = f z := if_neg h

theorem NS.lt {mk dmk : Addr} {ids : List Addr} {da Ca : Addr → Addr} {at_ : Addr → Str → Option Value} {nx pv : Addr → Option Addr} {tl : List (Addr × Obj)} {dx : Addr}
    (S : NS tl mk dmk ids da Ca at_ nx pv) (q : ∀ p ∈ tl, p.1 < dx) : mk < dx ∧ dmk < dx ∧ (∀ z ∈ ids, z < dx) ∧ ∀ z ∈ ids, da z < dx :=
  ⟨q _ S.mkI, q _ S.mkD, fun z hz => q _ (S.inst z hz), fun z hz => by obtain ⟨es, n, h1, _⟩ := S.dict z hz; exact q _ h1⟩

theorem NS.cons {mk dmk x dx C n : Addr} {ids : List Addr} {da Ca : Addr → Addr} {at_ : Addr → Str → Option Value} {nx pv : Addr → Option Addr} {tl : List (Addr × Obj)} {es : List DictEntry} {g : Str → Option Value}
    (S : NS tl mk dmk ids da Ca at_ nx pv) (q : ∀ p ∈ tl, p.1 < dx) (q2 : dx < x) (hC : C = 108 ∨ C = 245) (hA : Atts es (fAt g none none)) :
    NS ((x, instObj C dx) :: (dx, dictOf es n) :: tl) mk dmk (x :: ids) (upF da x dx) (upF Ca x C) (upF at_ x g) (upF nx x none) (upF pv x none) := by
  obtain ⟨a1, a2, a3, a4⟩ := S.lt q
  have nz : ∀ z ∈ ids, z ≠ x := fun z hz => Nat.ne_of_lt (Nat.lt_trans (a3 z hz) q2)
  have t : ∀ {p : Addr × Obj}, p ∈ tl → p ∈ (x, instObj C dx) :: (dx, dictOf es n) :: tl := fun h => .tail _ (.tail _ h)
  refine ⟨t S.mkI, t S.mkD, fun z hz => ?_, fun z hz => ?_, fun z hz => ?_, fun z hz => ?_, fun z hz y hy e => ?_, fun z hz y hy => ?_, fun p hp => ?_⟩
  · rcases List.mem_cons.mp hz with rfl | hz2
    · rw [upF_self]; exact ⟨Nat.ne_of_gt a1, Nat.ne_of_gt a2⟩
    · rw [upF_ne (nz z hz2)]; exact S.mkS z hz2
  · rcases List.mem_cons.mp hz with rfl | hz2
    · rw [upF_self, upF_self]; exact .head _
    · rw [upF_ne (nz z hz2), upF_ne (nz z hz2)]; exact t (S.inst z hz2)
  · rcases List.mem_cons.mp hz with rfl | hz2
    · simp only [upF_self]; exact ⟨es, n, .tail _ (.head _), hA⟩
    · simp only [upF_ne (nz z hz2)]
      obtain ⟨es', n', h1, h2⟩ := S.dict z hz2
      exact ⟨es', n', t h1, h2⟩
  · rcases List.mem_cons.mp hz with rfl | hz2
    · rw [upF_self]; exact hC
    · rw [upF_ne (nz z hz2)]; exact S.cls z hz2
  · rcases List.mem_cons.mp hz with rfl | hz2 <;> rcases List.mem_cons.mp hy with rfl | hy2
    · rfl
    · rw [upF_self, upF_ne (nz y hy2)] at e; exact absurd (a4 y hy2) (by rw [← e]; exact Nat.lt_irrefl _)
    · rw [upF_self, upF_ne (nz z hz2)] at e; exact absurd (a4 z hz2) (by rw [e]; exact Nat.lt_irrefl _)
    · rw [upF_ne (nz z hz2), upF_ne (nz y hy2)] at e; exact S.inj z hz2 y hy2 e
  · rcases List.mem_cons.mp hz with rfl | hz2 <;> rcases List.mem_cons.mp hy with rfl | hy2
    · rw [upF_self]; exact Nat.ne_of_lt q2
    · rw [upF_self]; exact Nat.ne_of_gt (a3 y hy2)
    · rw [upF_ne (nz z hz2)]; exact Nat.ne_of_lt (Nat.lt_trans (a4 z hz2) q2)
    · rw [upF_ne (nz z hz2)]; exact S.sep z hz2 y hy2
  · rcases List.mem_cons.mp hp with rfl | hp2
    · rfl
    · rcases List.mem_cons.mp hp2 with rfl | hp3
      · rfl
      · exact S.kinds p hp3

theorem Off.cons {pre : List (Addr × Obj)} {da : Addr → Addr} {ids : List Addr} {x dx : Addr} (P : Off pre da ids) (q : ∀ p ∈ pre, p.1 < dx) (nz : ∀ z ∈ ids, z ≠ x) : Off pre (upF da x dx) (x :: ids) := fun p hp z hz => by
  rcases List.mem_cons.mp hz with rfl | hz2
  · rw [upF_self]; exact Nat.ne_of_lt (q p hp)
  · rw [upF_ne (nz z hz2)]; exact P p hp z hz2

theorem atts_list {mk x : Addr} {h1 h2 : Int} {t1 t2 : Tok} : Atts [⟨h1, .str (Str.ofString "list_type") t1, .ref mk⟩, ⟨h2, .str (Str.ofString "head") t2, .ref x⟩] (fAt (listAt mk x) none none) := by
  refine ⟨rfl, fun s => ?_, ?_⟩
  · by_cases a : s = Str.ofString "list_type"
    · subst a; rw [listAt_lt]; simp [Value.isStr]
    · by_cases b : s = Str.ofString "head"
      · subst b
        rw [listAt_hd, List.find?_cons_of_neg (by simp only [Value.isStr]; decide +kernel)]
        simp [Value.isStr]
      · have e1 : (Str.ofString "list_type" == s) = false := beq_eq_false_iff_ne.mpr (Ne.symm a)
        have e2 : (Str.ofString "head" == s) = false := beq_eq_false_iff_ne.mpr (Ne.symm b)
        have : fAt (listAt mk x) none none s = none := by
          unfold fAt listAt
          by_cases c : s = nN
          · rw [if_pos c]; rfl
          · rw [if_neg c]
            by_cases d : s = nP
            · rw [if_pos d]; rfl
            · rw [if_neg d, if_neg a, if_neg b]
        rw [this]
        simp [Value.isStr, e1, e2]
  · show 2 + (if _ then 1 else 0) + (if _ then 1 else 0) ≤ 10
    split <;> split <;> decide

theorem news_mid {h₀ h : Heap} {L : Addr} {p q : Addr × Obj} {pre tl : List (Addr × Obj)} (N : News h₀ L h (p :: q :: (pre ++ tl))) : News h₀ L h (pre ++ p :: q :: tl) := news_sub N fun z hz => by
  rcases List.mem_append.mp hz with hz | hz
  · exact .tail _ (.tail _ (List.mem_append_left _ hz))
  · rcases List.mem_cons.mp hz with rfl | hz
    · exact .head _
    · rcases List.mem_cons.mp hz with rfl | hz
      · exact .tail _ (.head _)
      · exact .tail _ (.tail _ (List.mem_append_right _ hz))

theorem fold_new {mk dmk x dx C n L : Addr} {ids : List Addr} {da Ca : Addr → Addr} {at_ : Addr → Str → Option Value} {nx pv : Addr → Option Addr} {pre tl : List (Addr × Obj)} {es : List DictEntry} {g : Str → Option Value} {h₀ h : Heap}
    (N : News h₀ L h ((x, instObj C dx) :: (dx, dictOf es n) :: (pre ++ tl))) (S : NS tl mk dmk ids da Ca at_ nx pv) (q : ∀ p ∈ pre ++ tl, p.1 < dx) (q2 : dx < x) (hC : C = 108 ∨ C = 245) (hA : Atts es (fAt g none none)) :
    ∃ tl', News h₀ L h (pre ++ tl') ∧ NS tl' mk dmk (x :: ids) (upF da x dx) (upF Ca x C) (upF at_ x g) (upF nx x none) (upF pv x none) :=
  ⟨_, news_mid N, NS.cons S (fun p hp => q p (List.mem_append_right _ hp)) q2 hC hA⟩

theorem init_spec {R : Result → Shared → Prop} {x dx : Addr} (C : Cx w A₀ base outer mean mg mb g₀ h₀ L s.heap m ((x, instObj 108 dx) :: (dx, dictOf [] 0) :: (pre ++ tl))) (P : Off pre da ids) (S : NS tl mk dmk ids da Ca at_ nx pv) (hd : d + 12 < recursionLimit) (hf : env.frame = some L) (hke : env.scope.kind = .function)
    (q1 : ∀ p ∈ pre ++ tl, p.1 < dx) (q2 : dx < x)
    (h : ∀ h₀' h' tk tl', Cx w A₀ base outer mean mg mb g₀ h₀' L h' m (pre ++ tl') → NS tl' mk dmk (x :: ids) (upF da x dx) (upF Ca x 108) (upF at_ x (listAt mk x)) (upO (upF nx x none) x x) (upO (upF pv x none) x x) → R (.ok (.ret .none)) { s with heap := h', toks := tk }) :
    codeAny (model PR w) (Ar d u (env :: outer) gs) (.call (.ref 42) ⟨[.ref x, .ref mk], []⟩) R s := by
  have i1 : (mk, instObj 200 dmk) ∈ pre ++ tl := memR S.mkI
  have i2 : (dmk, dictOf [] 0) ∈ pre ++ tl := memR S.mkD
  obtain ⟨F, N, B, X, T, XB, TB, D, T0⟩ := C
  replace q2 := ltN q2
  ktr_room
  intro g' L' h' F' N' B' X' T' D'
  have T1 : KtsTurn (frs (env :: outer)) g' g' := KtsTurn.refl
  (try dsimp only); (try k_fold)
  k_steps
  rename_i F2 N2
  obtain ⟨tl2, N3, S2⟩ := fold_new N2 S q1 q2 (.inl rfl) (g := listAt mk x) atts_list
  have P2 : Off pre (upF da x dx) (x :: ids) := P.cons (fun p hp => q1 p (List.mem_append_left _ hp)) fun z hz => Nat.ne_of_lt (Nat.lt_trans (q1 _ (memR (S.inst z hz))) q2)
  refine node_init0 ⟨F2, N3, B', X', T', XB, TB, D', T1⟩ P2 S2 ?_ rfl rfl (.head _) (upF_self ..) (upF_self ..) fun g3 h3 tk3 tl3 C3 S3 => ?_
  · dsimp only [Ar]; omega
  obtain ⟨F4, N4, B4, X4, T4, XB4, TB4, D4, T04⟩ := C3
  (try dsimp only)
  k_steps
  exact h _ _ _ _ (by ktr_rel) S3

theorem create_spec (C : Cx w A₀ base outer mean mg mb g₀ h₀ L s.heap m (pre ++ tl)) (P : Off pre da ids) (S : NS tl mk dmk ids da Ca at_ nx pv) (hd : d + 15 < recursionLimit) (hf : env.frame = some L) (hke : env.scope.kind = .function)
    (h : ∀ h₀' h' tk tl' x dx, Cx w A₀ base outer mean mg mb g₀ h₀' L h' m (pre ++ tl') → NS tl' mk dmk (x :: ids) (upF da x dx) (upF Ca x 108) (upF at_ x (listAt mk x)) (upO (upF nx x none) x x) (upO (upF pv x none) x x) → (∀ p ∈ pre ++ tl, p.1 < dx) → dx < x → Q (.ref x) { s with heap := h', toks := tk }) :
    wpAny (model PR w) (Ar d u (env :: outer) gs) (call (.ref 127) [.ref mk] []) Q E s := by
  have i1 := mI C S
  have i2 := mD C S
  obtain ⟨F, N, B, X, T, XB, TB, D, T0⟩ := C
  ktr_unf
  intro g' L' h' F' N' B' X' T' D'
  have T1 : KtsTurn (frs (env :: outer)) g' g' := KtsTurn.refl
  (try dsimp only); (try k_fold)
  k_steps
  refine call_cls F' X' N' (by k_is) (by k_is) (by k_is) fun x dx h2 F2 N2 l1 l2 => ?_
  refine init_spec (s := { s with heap := h2, toks := _ }) ⟨F2, N2, B', X', T', XB, TB, D', T1⟩ P S ?_ rfl rfl l1 l2 fun g3 h3 tk3 tl3 C3 S3 => ?_
  · show d + 1 + 1 + 12 < recursionLimit
    omega
  refine ⟨rfl, ?_⟩
  obtain ⟨F4, N4, B4, X4, T4, XB4, TB4, D4, T04⟩ := C3
  (try dsimp only)
  k_steps
  exact h _ _ _ _ _ _ (by ktr_rel) S3 l1 l2
end
end Mine
namespace Mine
theorem rstYB10 : True := by
  w_top off
  trivial
theorem fillK10 : PySem.Challenge.rw_fc0145_01.Holds → (∀ w : World, (hd.heap_39 w.params).In default) → True := by
  k_fill
  intros
  trivial
theorem inHeap {K : Frag} {h₀ h : Heap} {L : Addr} {m : Str → Option Value} (F : Fr h₀ L h m) (X : K.In h₀) : K.In h := X.keeps F.keep
local macro_rules | `(tactic| k_steps) => `(tactic| repeat' (first | (k_unfold; (try dsimp only)) | walk1 | (dsimp only; walk1) | fail "no step"))
local macro_rules | `(tactic| ktr_unf) => `(tactic| (refine wpAny_call ?_; refine' codeS ?B ?F ?X ?N ?T ?XB ?TB ?D ?T0 ?kA ?hf ?hke ?k6 ?k7 ?k8 ?k9 ?kB ?_ ?c2 ?c3 ?c4 ?c5; (case F => assumption); (case N => assumption); (case B => assumption); (case X => assumption); (case T => assumption); (case XB => assumption); (case TB => assumption); (case D => assumption); (case T0 => assumption); (case kA => exact rfl); (case hf => first | assumption | exact rfl); (case hke => first | assumption | exact rfl); (case k6 => k_is); (case k7 => k_is); (case k8 => (show _ < recursionLimit; first | omega | (dsimp only [Ar]; omega))); (case k9 => exact BindsTo.of_eq rfl); (case kB => exact locs rfl); (case c2 => exact rfl); (case c3 => exact rfl); (case c4 => exact rfl); (case c5 => decide); k_whole))
local macro_rules | `(tactic| ktr_rel) => `(tactic| exact ⟨by assumption, by assumption, by assumption, by assumption, by assumption, by assumption, by assumption, by assumption, by assumption⟩)
local macro_rules | `(tactic| k_mem) => `(tactic| assumption)

local macro_rules | `(tactic| walk_at "call ref") => `(tactic| (k_here; (with_reducible show wpAny _ _ (call (Value.ref 148) _ _) _ _ _); (first | (refine' next_some ?C ?S ?d ?f ?k ?x ?n ?_; (case C => ktr_rel); (case S => assumption); (case d => first | omega | (dsimp only [Ar]; omega)); (case f => first | assumption | exact rfl); (case k => first | assumption | exact rfl); (case x => assumption); (case n => assumption); k_whole; intro h₀' h' tk' C'; obtain ⟨F', N', B', X', T', XB', TB', D', T0'⟩ := C') | (refine' next_none ?C ?S ?d ?f ?k ?x ?n ?_; (case C => ktr_rel); (case S => assumption); (case d => first | omega | (dsimp only [Ar]; omega)); (case f => first | assumption | exact rfl); (case k => first | assumption | exact rfl); (case x => assumption); (case n => assumption); k_whole; intro h₀' h' tk' C'; obtain ⟨F', N', B', X', T', XB', TB', D', T0'⟩ := C'))))
local macro_rules | `(tactic| walk_at "call ref") => `(tactic| (k_here; (with_reducible show wpAny _ _ (call (Value.ref 162) _ _) _ _ _); (first | (refine' prev_some ?C ?S ?d ?f ?k ?x ?n ?_; (case C => ktr_rel); (case S => assumption); (case d => first | omega | (dsimp only [Ar]; omega)); (case f => first | assumption | exact rfl); (case k => first | assumption | exact rfl); (case x => assumption); (case n => assumption); k_whole; intro h₀' h' tk' C'; obtain ⟨F', N', B', X', T', XB', TB', D', T0'⟩ := C') | (refine' prev_none ?C ?S ?d ?f ?k ?x ?n ?_; (case C => ktr_rel); (case S => assumption); (case d => first | omega | (dsimp only [Ar]; omega)); (case f => first | assumption | exact rfl); (case k => first | assumption | exact rfl); (case x => assumption); (case n => assumption); k_whole; intro h₀' h' tk' C'; obtain ⟨F', N', B', X', T', XB', TB', D', T0'⟩ := C'))))
local macro_rules | `(tactic| walk_at "call ref") => `(tactic| (k_here; (with_reducible show wpAny _ _ (call (Value.ref 176) _ _) _ _ _); (first | (refine' off_none ?C ?S ?d ?f ?k ?x ?n ?n2 ?_; (case C => ktr_rel); (case S => assumption); (case d => first | omega | (dsimp only [Ar]; omega)); (case f => first | assumption | exact rfl); (case k => first | assumption | exact rfl); (case x => assumption); (case n => assumption); (case n2 => assumption); k_whole; intro h₀' h' tk' C'; obtain ⟨F', N', B', X', T', XB', TB', D', T0'⟩ := C') | (refine' off_self ?C ?S ?d ?f ?k ?x ?n ?n2 ?_; (case C => ktr_rel); (case S => assumption); (case d => first | omega | (dsimp only [Ar]; omega)); (case f => first | assumption | exact rfl); (case k => first | assumption | exact rfl); (case x => assumption); (case n => assumption); (case n2 => assumption); k_whole; intro h₀' h' tk' C'; obtain ⟨F', N', B', X', T', XB', TB', D', T0'⟩ := C') | (refine' on_list ?C ?S ?d ?f ?k ?x ?n ?n2 ?n3 ?_; (case C => ktr_rel); (case S => assumption); (case d => first | omega | (dsimp only [Ar]; omega)); (case f => first | assumption | exact rfl); (case k => first | assumption | exact rfl); (case x => assumption); (case n => assumption); (case n2 => assumption); (case n3 => assumption); k_whole; intro h₀' h' tk' C'; obtain ⟨F', N', B', X', T', XB', TB', D', T0'⟩ := C'))))
local macro_rules | `(tactic| walk_at "call ref") => `(tactic| (k_here; (with_reducible show wpAny _ _ (call (Value.ref 155) _ _) _ _ _); refine' set_next ?C ?P ?S ?d ?f ?k ?x ?_; (case C => ktr_rel); (case P => assumption); (case S => assumption); (case d => first | omega | (dsimp only [Ar]; omega)); (case f => first | assumption | exact rfl); (case k => first | assumption | exact rfl); (case x => assumption); k_whole; intro h₀' h' tk' tl' C' S'; have j1' := mI C' S'; have j2' := mD C' S'; obtain ⟨F', N', B', X', T', XB', TB', D', T0'⟩ := C'))
local macro_rules | `(tactic| walk_at "call ref") => `(tactic| (k_here; (with_reducible show wpAny _ _ (call (Value.ref 169) _ _) _ _ _); refine' set_prev ?C ?P ?S ?d ?f ?k ?x ?_; (case C => ktr_rel); (case P => assumption); (case S => assumption); (case d => first | omega | (dsimp only [Ar]; omega)); (case f => first | assumption | exact rfl); (case k => first | assumption | exact rfl); (case x => assumption); k_whole; intro h₀' h' tk' tl' C' S'; have j1' := mI C' S'; have j2' := mD C' S'; obtain ⟨F', N', B', X', T', XB', TB', D', T0'⟩ := C'))
local macro_rules | `(tactic| walk_at "compareOp Is ref ref") => `(tactic| (k_here; refine' is_nodes ?N ?S ?x ?y ?ne ?_; (case N => assumption); (case S => assumption); (case x => assumption); (case y => assumption); (case ne => first | assumption | (apply Ne.symm; assumption)); k_whole))
local macro_rules | `(tactic| walk_at "compareOp IsNot ref ref") => `(tactic| (k_here; refine' isNot_nodes ?N ?S ?x ?y ?ne ?_; (case N => assumption); (case S => assumption); (case x => assumption); (case y => assumption); (case ne => first | assumption | (apply Ne.symm; assumption)); k_whole))
local macro_rules | `(tactic| ktr_room) => `(tactic| (refine' codeS ?B ?F ?X ?N ?T ?XB ?TB ?D ?T0 ?kA ?hf ?hke ?k6 ?k7 ?k8 ?k9 ?kB ?_ ?c2 ?c3 ?c4 ?c5; (case F => assumption); (case N => assumption); (case B => assumption); (case X => assumption); (case T => assumption); (case XB => assumption); (case TB => assumption); (case D => assumption); (case T0 => assumption); (case kA => exact rfl); (case hf => first | assumption | exact rfl); (case hke => first | assumption | exact rfl); (case k6 => k_is); (case k7 => k_is); (case k8 => (show _ < recursionLimit; first | omega | (dsimp only [Ar]; omega) | (change _ + 1 < recursionLimit; dsimp only [Ar]; omega))); (case k9 => first | exact BindsTo.of_eq rfl | exact binds_K (inHeap (by assumption) (by assumption)) rfl (by k_is) rfl rfl rfl); (case kB => exact locs rfl); (case c2 => exact rfl); (case c3 => exact rfl); (case c4 => exact rfl); (case c5 => decide); k_whole))
local macro_rules | `(tactic| k_all) => `(tactic| exact allNe (by assumption))
local macro_rules | `(tactic| k_get) => `(tactic| assumption)
local macro_rules | `(tactic| k_handed) => `(tactic| assumption)
section
variable {w : World} {A₀ : Around} {base g₀ h₀ : Heap} {outer : List Env} {env : Env} {L : Addr} {m mg mb : Str → Option Value} {mean : ExcName → Option Value}
  {s : Shared} {pre tl : List (Addr × Obj)} {d u : Nat} {gs : Option (List Code)} {Q : Value → Shared → Prop} {E : Value → Shared → Prop}
  {mk dmk x y n p hh : Addr} {ids : List Addr} {da Ca : Addr → Addr} {at_ : Addr → Str → Option Value} {nx pv : Addr → Option Addr} {h : Heap}


theorem str_ne {a b : Str} (h : (a == b) = false) : ¬ a = b := beq_eq_false_iff_ne.mp h
theorem atts_route {v : Value} {h1 h2 h3 : Int} {t1 t2 t3 : Tok} : Atts [⟨h1, .str (Str.ofString "sink") t1, .none⟩, ⟨h2, .str (Str.ofString "_path") t2, v⟩, ⟨h3, .str (Str.ofString "_for_route_refresh") t3, .bool false⟩] (fAt (routeAt v) none none) := by
  have n1 : ¬ Str.ofString "sink" = nN := by decide +kernel
  have n2 : ¬ Str.ofString "sink" = nP := by decide +kernel
  have n3 : ¬ Str.ofString "_path" = nN := by decide +kernel
  have n4 : ¬ Str.ofString "_path" = nP := by decide +kernel
  have n5 : ¬ Str.ofString "_for_route_refresh" = nN := by decide +kernel
  have n6 : ¬ Str.ofString "_for_route_refresh" = nP := by decide +kernel
  have n7 : ¬ Str.ofString "_path" = Str.ofString "sink" := by decide +kernel
  have n8 : ¬ Str.ofString "_for_route_refresh" = Str.ofString "sink" := by decide +kernel
  have n9 : ¬ Str.ofString "_for_route_refresh" = Str.ofString "_path" := by decide +kernel
  refine ⟨rfl, fun s => ?_, ?_⟩
  · simp only [List.find?_cons, List.find?_nil, Value.isStr]
    unfold fAt routeAt
    by_cases a : s = Str.ofString "sink"
    · subst a; simp only [if_neg n1, if_neg n2, if_true, beq_self_eq_true]; rfl
    · have e1 : (Str.ofString "sink" == s) = false := beq_eq_false_iff_ne.mpr (Ne.symm a)
      by_cases b : s = Str.ofString "_path"
      · subst b; simp only [e1, if_neg n3, if_neg n4, if_neg n7, if_true, beq_self_eq_true]; rfl
      · have e2 : (Str.ofString "_path" == s) = false := beq_eq_false_iff_ne.mpr (Ne.symm b)
        by_cases c : s = Str.ofString "_for_route_refresh"
        · subst c; simp only [e1, e2, if_neg n5, if_neg n6, if_neg n8, if_neg n9, if_true, beq_self_eq_true]; rfl
        · have e3 : (Str.ofString "_for_route_refresh" == s) = false := beq_eq_false_iff_ne.mpr (Ne.symm c)
          simp only [e1, e2, e3, if_neg a, if_neg b, if_neg c]
          by_cases d : s = nN
          · rw [if_pos d]; rfl
          · rw [if_neg d]
            by_cases e : s = nP
            · rw [if_pos e]; rfl
            · rw [if_neg e]; rfl
  · show 3 + (if _ then 1 else 0) + (if _ then 1 else 0) ≤ 10
    split <;> split <;> decide

theorem route_int {k : Int} {t : Tok} (C : Cx w A₀ base outer mean mg mb g₀ h₀ L s.heap m (pre ++ tl)) (S : NS tl mk dmk ids da Ca at_ nx pv) (hd : d + 15 < recursionLimit) (hf : env.frame = some L) (hke : env.scope.kind = .function) (hk : 1 ≤ k)
    (h : ∀ h₀' h' tk tl' x dx, Cx w A₀ base outer mean mg mb g₀ h₀' L h' m (pre ++ tl') → NS tl' mk dmk (x :: ids) (upF da x dx) (upF Ca x 245) (upF at_ x (routeAt (.int k t))) (upF nx x none) (upF pv x none) → (∀ p ∈ pre ++ tl, p.1 < dx) → dx < x → Q (.ref x) { s with heap := h', toks := tk }) :
    wpAny (model PR w) (Ar d u (env :: outer) gs) (call (.ref 245) [.int k t] []) Q E s := by
  obtain ⟨F, N, B, X, T, XB, TB, D, T0⟩ := C
  refine call_cls F X N (by k_is) (by k_is) (by k_is) fun x dx h2 F2 N2 l1 l2 => ?_
  have l3 := ltN l2
  ktr_room
  intro g' L' h' F' N' B' X' T' D'
  have T1 : KtsTurn (frs (env :: outer)) g' g' := KtsTurn.refl
  (try dsimp only); (try k_fold)
  k_steps
  all_goals try (exfalso; omega)
  rename_i kF kN _ _
  obtain ⟨tl2, N3, S2⟩ := fold_new kN S l1 l2 (.inr rfl) (g := routeAt (.int k t)) atts_route
  exact h h₀ _ _ _ _ _ ⟨kF, N3, B, X, T, XB, TB, D, T0⟩ S2 l1 l2

theorem routeAt_path {v : Value} {a b : Option Addr} : fAt (routeAt v) a b (Str.ofString "_path") = some v := fAt_of (by decide +kernel) (by decide +kernel) (by unfold routeAt; rw [if_neg (by decide +kernel), if_pos rfl])

theorem path_spec {v : Value} {expr : Bool} (C : Cx w A₀ base outer mean mg mb g₀ h₀ L s.heap m (pre ++ tl)) (S : NS tl mk dmk ids da Ca at_ nx pv) (hd : d + 5 < recursionLimit) (hf : env.frame = some L) (hke : env.scope.kind = .function) (hx : x ∈ ids) (hC : Ca x = 245) (ha : at_ x = routeAt v) (hv : handedIn v = true)
    (h : ∀ h₀' h' tk, Cx w A₀ base outer mean mg mb g₀ h₀' L h' m (pre ++ tl) → Q v { s with heap := h', toks := tk }) :
    wpAny (model PR w) (Ar d u (env :: outer) gs) (getAttr (.ref x) (Str.ofString "path") expr) Q E s := by
  obtain ⟨es, n, h1, h2⟩ := S.dict x hx
  have h3 := S.inst x hx
  rw [hC] at h3
  rw [ha] at h2
  have i1 : (x, instObj 245 (da x)) ∈ pre ++ tl := memR h3
  have i2 : (da x, dictOf es n) ∈ pre ++ tl := memR h1
  have i3 : getL (Str.ofString "_path") es = some (some v) := (h2.get _).trans (congrArg some routeAt_path)
  obtain ⟨F, N, B, X, T, XB, TB, D, T0⟩ := C
  refine get_prop F X (InstAt.of_news N i1 i2) (by k_is) (by k_is) (by k_is) (by k_is) (by k_is) (by k_is) ?_
  ktr_room
  intro g' L' h' F' N' B' X' T' D'
  have T1 : KtsTurn (frs (env :: outer)) g' g' := KtsTurn.refl
  (try dsimp only); (try k_fold)
  k_steps
  rw [handedOut_of hv]
  exact wpAny_pure (h h₀ _ _ ⟨by assumption, by assumption, B, X, T, XB, TB, D, T0⟩)
end
end Mine
namespace Mine
/-- the chain from a through l to b -/
def Seg (nx pv : Addr → Option Addr) : Addr → List Addr → Addr → Prop
  | a, [], b => nx a = some b ∧ pv b = some a
  | a, x :: l, b => (nx a = some x ∧ pv x = some a) ∧ Seg nx pv x l b
section
variable {nx pv nx' pv' : Addr → Option Addr} {a b y p x : Addr} {l : List Addr}
theorem Seg.frame : ∀ {l : List Addr} {a : Addr}, Seg nx pv a l b → (∀ z ∈ a :: l, nx' z = nx z) → (∀ z ∈ l, pv' z = pv z) → pv' b = pv b → Seg nx' pv' a l b
  | [], a, ⟨h1, h2⟩, e1, _, e3 => ⟨(e1 a (.head _)).trans h1, e3.trans h2⟩
  | x :: l, a, ⟨⟨h1, h2⟩, r⟩, e1, e2, e3 => ⟨⟨(e1 a (.head _)).trans h1, (e2 x (.head _)).trans h2⟩, r.frame (fun z hz => e1 z (.tail _ hz)) (fun z hz => e2 z (.tail _ hz)) e3⟩
theorem Seg.last : ∀ {l : List Addr} {a : Addr}, Seg nx pv a l b → ∃ p, p ∈ a :: l ∧ pv b = some p ∧ nx p = some b
  | [], a, ⟨h1, h2⟩ => ⟨a, .head _, h2, h1⟩
  | x :: l, a, ⟨_, r⟩ => by
    obtain ⟨p, h1, h2⟩ := Seg.last r
    exact ⟨p, .tail _ h1, h2⟩
theorem Seg.first : ∀ {l : List Addr} {a : Addr}, Seg nx pv a l b → ∃ p, p ∈ b :: l ∧ nx a = some p ∧ pv p = some a
  | [], _, ⟨h1, h2⟩ => ⟨b, .head _, h1, h2⟩
  | x :: _, _, ⟨h, _⟩ => ⟨x, .tail _ (.head _), h⟩
theorem upO_ne' {f : Addr → Option Addr} {x v z : Addr} (h : z ≠ x) : upO f x v z = f z := if_neg h
theorem Seg.snoc : ∀ {l : List Addr} {a : Addr}, Seg nx pv a l b → pv b = some p → p ∈ a :: l → y ∉ a :: l → y ≠ b → b ∉ l → (a :: l).Nodup → Seg (upO (upO nx y b) p y) (upO (upO pv b y) y p) a (l ++ [y]) b
  | [], a, ⟨h1, h2⟩, hp, hm, hy, hyb, _, _ => by
    rw [h2] at hp; have e := Option.some.inj hp; subst e
    have hya : y ≠ a := fun e => hy (e ▸ .head _)
    refine ⟨⟨upO_self .., upO_self ..⟩, ?_, ?_⟩
    · rw [upO_ne' hya]; exact upO_self ..
    · rw [upO_ne' (Ne.symm hyb)]; exact upO_self ..
  | x :: l, a, ⟨⟨h1, h2⟩, r⟩, hp, hm, hy, hyb, hb, hn => by
    obtain ⟨q, hq, e1, e2⟩ := r.last
    rw [hp] at e1; cases e1
    have hpa : a ≠ p := fun e => (List.nodup_cons.mp hn).1 (e ▸ hq)
    have hya : a ≠ y := fun e => hy (e ▸ .head _)
    have hxy : x ≠ y := fun e => hy (e ▸ .tail _ (.head _))
    have hxb : x ≠ b := fun e => hb (e ▸ .head _)
    refine ⟨⟨?_, ?_⟩, r.snoc hp hq (fun h => hy (.tail _ h)) hyb (fun h => hb (.tail _ h)) (List.nodup_cons.mp hn).2⟩
    · rw [upO_ne' hpa, upO_ne' hya]; exact h1
    · rw [upO_ne' hxy, upO_ne' hxb]; exact h2
theorem Seg.push (h : Seg nx pv a l b) (hp : nx a = some p) (hy : y ∉ a :: l) (hyb : y ≠ b) (hb : b ∉ l) (hn : (a :: l).Nodup) (hab : a = b) : Seg (upO (upO nx a y) y p) (upO (upO pv y a) p y) a (y :: l) b := by
  have hya : a ≠ y := fun e => hy (e ▸ .head _)
  cases l with
  | nil =>
    obtain ⟨h1, h2⟩ := h
    rw [h1] at hp; have e := Option.some.inj hp; subst e
    refine ⟨⟨?_, ?_⟩, ?_, ?_⟩
    · rw [upO_ne' hya]; exact upO_self ..
    · rw [upO_ne' hyb]; exact upO_self ..
    · exact upO_self ..
    · exact upO_self ..
  | cons x l =>
    obtain ⟨⟨h1, h2⟩, r⟩ := h
    rw [h1] at hp; have e := Option.some.inj hp; subst e
    have hxy : y ≠ x := fun e => hy (e ▸ .tail _ (.head _))
    have hxb : b ≠ x := fun e => hb (e ▸ .head _)
    have hnx := (List.nodup_cons.mp hn).1
    have hnl := (List.nodup_cons.mp (List.nodup_cons.mp hn).2).1
    refine ⟨⟨?_, ?_⟩, ⟨?_, ?_⟩, r.frame (fun z hz => ?_) (fun z hz => ?_) ?_⟩
    · rw [upO_ne' hya]; exact upO_self ..
    · rw [upO_ne' hxy]; exact upO_self ..
    · exact upO_self ..
    · exact upO_self ..
    · have a1 : z ≠ y := fun e => hy (e ▸ .tail _ hz)
      have a2 : z ≠ a := fun e => hnx (e ▸ hz)
      rw [upO_ne' a1, upO_ne' a2]
    · have a1 : z ≠ x := fun e => hnl (e ▸ hz)
      have a2 : z ≠ y := fun e => hy (e ▸ .tail _ (.tail _ hz))
      rw [upO_ne' a1, upO_ne' a2]
    · rw [upO_ne' hxb, upO_ne' (Ne.symm hyb)]
theorem Seg.drop {n : Addr} (h : Seg nx pv a (x :: l) a) (hn : nx x = some n) (hd : (a :: x :: l).Nodup) : Seg (upO (upO nx a n) x x) (upO (upO pv n a) x x) a l a := by
  obtain ⟨⟨h1, h2⟩, r⟩ := h
  have hax : a ≠ x := fun e => (List.nodup_cons.mp hd).1 (e ▸ .head _)
  cases l with
  | nil =>
    obtain ⟨h3, h4⟩ := r
    rw [h3] at hn; have e := Option.some.inj hn; subst e
    refine ⟨?_, ?_⟩
    · rw [upO_ne' hax]; exact upO_self ..
    · rw [upO_ne' hax]; exact upO_self ..
  | cons z l =>
    obtain ⟨⟨h3, h4⟩, r⟩ := r
    rw [h3] at hn; have e := Option.some.inj hn; subst e
    have q1 := List.nodup_cons.mp hd
    have q2 := List.nodup_cons.mp q1.2
    have q3 := List.nodup_cons.mp q2.2
    have hzx : z ≠ x := fun e => q2.1 (e ▸ .head _)
    have haz : a ≠ z := fun e => q1.1 (e ▸ .tail _ (.head _))
    refine ⟨⟨?_, ?_⟩, r.frame (fun y hy => ?_) (fun y hy => ?_) ?_⟩
    · rw [upO_ne' hax]; exact upO_self ..
    · rw [upO_ne' hzx]; exact upO_self ..
    · have a1 : y ≠ x := fun e => q2.1 (e ▸ hy)
      have a2 : y ≠ a := fun e => q1.1 (e ▸ .tail _ hy)
      rw [upO_ne' a1, upO_ne' a2]
    · have a1 : y ≠ x := fun e => q2.1 (e ▸ .tail _ hy)
      have a2 : y ≠ z := fun e => q3.1 (e ▸ hy)
      rw [upO_ne' a1, upO_ne' a2]
    · rw [upO_ne' hax, upO_ne' haz]
end

/-- the node of work j -/
def ad (xs : List Addr) (j : Nat) : Addr := xs.getD j 0
theorem ad_get {xs : List Addr} {j : Nat} (h : j < xs.length) : xs[j]? = some (ad xs j) := by
  unfold ad; rw [List.getElem?_eq_getElem h, List.getD_eq_getElem?_getD, List.getElem?_eq_getElem h]; rfl
theorem ad_mem {xs : List Addr} {j : Nat} (h : j < xs.length) : ad xs j ∈ xs := List.mem_of_getElem? (ad_get h)
theorem ad_inj {xs : List Addr} {i j : Nat} (hn : xs.Nodup) (hi : i < xs.length) (hj : j < xs.length) (e : ad xs i = ad xs j) : i = j := by
  have h1 := ad_get hi
  have h2 := ad_get hj
  rw [e, ← h2] at h1
  exact (List.getElem?_inj hi hn).mp h1

/-- the list's links: the queue on the ring, the works done off it, the others never on it -/
structure Lk (xs : List Addr) (h0 : Addr) (nx pv : Addr → Option Addr) (qu dn : List Nat) : Prop where
  seg : Seg nx pv h0 (qu.map (ad xs)) h0
  nod : (qu ++ dn).Nodup
  lt : ∀ j ∈ qu ++ dn, j < xs.length
  un : ∀ j, j < xs.length → j ∉ qu → j ∉ dn → nx (ad xs j) = none ∧ pv (ad xs j) = none
  pd : ∀ j ∈ dn, nx (ad xs j) = some (ad xs j) ∧ pv (ad xs j) = some (ad xs j)
section
variable {xs : List Addr} {h0 : Addr} {nx pv : Addr → Option Addr} {qu dn : List Nat} {j : Nat}
theorem Lk.map_nodup {l : List Nat} (hd : (h0 :: xs).Nodup) (hl : l.Nodup) (ht : ∀ j ∈ l, j < xs.length) : (h0 :: l.map (ad xs)).Nodup := by
  have q := List.nodup_cons.mp hd
  refine List.nodup_cons.mpr ⟨fun hm => ?_, ?_⟩
  · obtain ⟨i, hi, e⟩ := List.mem_map.mp hm
    exact q.1 (e ▸ ad_mem (ht i hi))
  · rw [List.Nodup, List.pairwise_map]
    refine List.Pairwise.imp_of_mem (fun {a b} ha hb hab e => hab (ad_inj q.2 (ht a ha) (ht b hb) e)) hl
theorem Lk.not_mem {l : List Nat} (hd : (h0 :: xs).Nodup) (ht : ∀ j ∈ l, j < xs.length) (hj : j < xs.length) (hn : j ∉ l) : ad xs j ∉ h0 :: l.map (ad xs) := fun hm => by
  have q := List.nodup_cons.mp hd
  rcases List.mem_cons.mp hm with e | hm
  · exact q.1 (e ▸ ad_mem hj)
  · obtain ⟨i, hi, e⟩ := List.mem_map.mp hm
    exact hn (ad_inj q.2 (ht i hi) hj e ▸ hi)
theorem Lk.nil (K : Lk xs h0 nx pv [] dn) : nx h0 = some h0 ∧ pv h0 = some h0 := K.seg
theorem Lk.inQ (hd : (h0 :: xs).Nodup) {l : List Nat} {p : Addr} (ht : ∀ j ∈ l, j < xs.length) (hp : p ∈ h0 :: l.map (ad xs)) : p ∈ h0 :: xs := by
  rcases List.mem_cons.mp hp with rfl | hp
  · exact .head _
  · obtain ⟨i, hi, rfl⟩ := List.mem_map.mp hp
    exact .tail _ (ad_mem (ht i hi))
theorem Lk.append (hd : (h0 :: xs).Nodup) (K : Lk xs h0 nx pv qu dn) (hj : j < xs.length) (h1 : j ∉ qu) (h2 : j ∉ dn) :
    ∃ p, p ∈ h0 :: xs ∧ pv h0 = some p ∧ nx (ad xs j) = none ∧ pv (ad xs j) = none ∧ ad xs j ≠ h0 ∧
      Lk xs h0 (upO (upO nx (ad xs j) h0) p (ad xs j)) (upO (upO pv h0 (ad xs j)) (ad xs j) p) (qu ++ [j]) dn := by
  have hq : qu.Nodup := (List.nodup_append.mp K.nod).1
  have lq : ∀ i ∈ qu, i < xs.length := fun i hi => K.lt i (List.mem_append_left _ hi)
  have ld : ∀ i ∈ dn, i < xs.length := fun i hi => K.lt i (List.mem_append_right _ hi)
  have nm := Lk.map_nodup hd hq lq
  have nj := Lk.not_mem hd lq hj h1
  have q := List.nodup_cons.mp hd
  obtain ⟨p, p1, p2, p3⟩ := K.seg.last
  obtain ⟨u1, u2⟩ := K.un j hj h1 h2
  have hj0 : ad xs j ≠ h0 := fun e => q.1 (e ▸ ad_mem hj)
  have pin := Lk.inQ hd lq p1
  have off : ∀ i, i < xs.length → i ∉ qu → i ≠ j → upO (upO nx (ad xs j) h0) p (ad xs j) (ad xs i) = nx (ad xs i) ∧ upO (upO pv h0 (ad xs j)) (ad xs j) p (ad xs i) = pv (ad xs i) := fun i hi hiq hij => by
    have a1 : ad xs i ≠ ad xs j := fun e => hij (ad_inj q.2 hi hj e)
    have a2 : ad xs i ≠ h0 := fun e => q.1 (e ▸ ad_mem hi)
    have a3 : ad xs i ≠ p := fun e => Lk.not_mem hd lq hi hiq (e ▸ p1)
    rw [upO_ne' a3, upO_ne' a1, upO_ne' a1, upO_ne' a2]; exact ⟨rfl, rfl⟩
  refine ⟨p, pin, p2, u1, u2, hj0, ?_, ?_, ?_, ?_, ?_⟩
  · rw [List.map_append]
    exact K.seg.snoc p2 p1 nj hj0 (List.nodup_cons.mp nm).1 nm
  · have := K.nod
    simp only [List.nodup_append, List.mem_append, List.mem_singleton] at this ⊢
    grind
  · intro i hi
    simp only [List.mem_append, List.mem_singleton] at hi
    rcases hi with (hi | rfl) | hi
    · exact lq i hi
    · exact hj
    · exact ld i hi
  · intro i hi a1 a2
    simp only [List.mem_append, List.mem_singleton, not_or] at a1
    obtain ⟨o1, o2⟩ := off i hi a1.1 a1.2
    rw [o1, o2]; exact K.un i hi a1.1 a2
  · intro i hi
    have : i ∉ qu := fun h => (List.nodup_append.mp K.nod).2.2 i h i hi rfl
    obtain ⟨o1, o2⟩ := off i (ld i hi) this (fun e => h2 (e ▸ hi))
    rw [o1, o2]; exact K.pd i hi
theorem Lk.prepend (hd : (h0 :: xs).Nodup) (K : Lk xs h0 nx pv qu dn) (hj : j < xs.length) (h1 : j ∉ qu) (h2 : j ∉ dn) :
    ∃ p, p ∈ h0 :: xs ∧ nx h0 = some p ∧ nx (ad xs j) = none ∧ pv (ad xs j) = none ∧ ad xs j ≠ h0 ∧
      Lk xs h0 (upO (upO nx h0 (ad xs j)) (ad xs j) p) (upO (upO pv (ad xs j) h0) p (ad xs j)) (j :: qu) dn := by
  have hq : qu.Nodup := (List.nodup_append.mp K.nod).1
  have lq : ∀ i ∈ qu, i < xs.length := fun i hi => K.lt i (List.mem_append_left _ hi)
  have ld : ∀ i ∈ dn, i < xs.length := fun i hi => K.lt i (List.mem_append_right _ hi)
  have nm := Lk.map_nodup hd hq lq
  have nj := Lk.not_mem hd lq hj h1
  have q := List.nodup_cons.mp hd
  obtain ⟨p, p1, p2, p3⟩ := K.seg.first
  obtain ⟨u1, u2⟩ := K.un j hj h1 h2
  have hj0 : ad xs j ≠ h0 := fun e => q.1 (e ▸ ad_mem hj)
  have pin := Lk.inQ hd lq p1
  have off : ∀ i, i < xs.length → i ∉ qu → i ≠ j → upO (upO nx h0 (ad xs j)) (ad xs j) p (ad xs i) = nx (ad xs i) ∧ upO (upO pv (ad xs j) h0) p (ad xs j) (ad xs i) = pv (ad xs i) := fun i hi hiq hij => by
    have a1 : ad xs i ≠ ad xs j := fun e => hij (ad_inj q.2 hi hj e)
    have a2 : ad xs i ≠ h0 := fun e => q.1 (e ▸ ad_mem hi)
    have a3 : ad xs i ≠ p := fun e => Lk.not_mem hd lq hi hiq (e ▸ p1)
    rw [upO_ne' a1, upO_ne' a2, upO_ne' a3, upO_ne' a1]; exact ⟨rfl, rfl⟩
  refine ⟨p, pin, p2, u1, u2, hj0, ?_, ?_, ?_, ?_, ?_⟩
  · rw [List.map_cons]
    exact K.seg.push p2 nj hj0 (List.nodup_cons.mp nm).1 nm rfl
  · have := K.nod
    simp only [List.cons_append, List.nodup_cons, List.mem_append]
    exact ⟨fun h => h.elim h1 h2, this⟩
  · intro i hi
    simp only [List.cons_append, List.mem_cons, List.mem_append] at hi
    rcases hi with rfl | hi | hi
    · exact hj
    · exact lq i hi
    · exact ld i hi
  · intro i hi a1 a2
    simp only [List.mem_cons, not_or] at a1
    obtain ⟨o1, o2⟩ := off i hi a1.2 a1.1
    rw [o1, o2]; exact K.un i hi a1.2 a2
  · intro i hi
    have : i ∉ qu := fun h => (List.nodup_append.mp K.nod).2.2 i h i hi rfl
    obtain ⟨o1, o2⟩ := off i (ld i hi) this (fun e => h2 (e ▸ hi))
    rw [o1, o2]; exact K.pd i hi
theorem Lk.pop (hd : (h0 :: xs).Nodup) (K : Lk xs h0 nx pv (j :: qu) dn) :
    ∃ n, n ∈ h0 :: xs ∧ nx h0 = some (ad xs j) ∧ ad xs j ∈ h0 :: xs ∧ ad xs j ≠ h0 ∧ nx (ad xs j) = some n ∧ pv (ad xs j) = some h0 ∧ n ≠ ad xs j ∧
      Lk xs h0 (upO (upO nx h0 n) (ad xs j) (ad xs j)) (upO (upO pv n h0) (ad xs j) (ad xs j)) qu (dn ++ [j]) := by
  have hq := (List.nodup_append.mp K.nod).1
  have q := List.nodup_cons.mp hd
  have lq : ∀ i ∈ j :: qu, i < xs.length := fun i hi => K.lt i (List.mem_append_left _ hi)
  have ld : ∀ i ∈ dn, i < xs.length := fun i hi => K.lt i (List.mem_append_right _ hi)
  have hj := lq j (.head _)
  have nm := Lk.map_nodup hd hq lq
  have hj0 : ad xs j ≠ h0 := fun e => q.1 (e ▸ ad_mem hj)
  have seg := K.seg
  obtain ⟨⟨s1, s2⟩, r⟩ := seg
  obtain ⟨n, n1, n2, n3⟩ := r.first
  have lq' : ∀ i ∈ qu, i < xs.length := fun i hi => lq i (.tail _ hi)
  have nin := Lk.inQ hd lq' n1
  have hjq := (List.nodup_cons.mp hq).1
  have njm := Lk.not_mem hd lq' hj hjq
  have hnj : n ≠ ad xs j := fun e => njm (e ▸ n1)
  have off : ∀ i, i < xs.length → i ∉ qu → i ≠ j → upO (upO nx h0 n) (ad xs j) (ad xs j) (ad xs i) = nx (ad xs i) ∧ upO (upO pv n h0) (ad xs j) (ad xs j) (ad xs i) = pv (ad xs i) := fun i hi hiq hij => by
    have a1 : ad xs i ≠ ad xs j := fun e => hij (ad_inj q.2 hi hj e)
    have a2 : ad xs i ≠ h0 := fun e => q.1 (e ▸ ad_mem hi)
    have a3 : ad xs i ≠ n := fun e => Lk.not_mem hd lq' hi hiq (e ▸ n1)
    rw [upO_ne' a1, upO_ne' a2, upO_ne' a1, upO_ne' a3]; exact ⟨rfl, rfl⟩
  refine ⟨n, nin, s1, .tail _ (ad_mem hj), hj0, n2, s2, hnj, ?_, ?_, ?_, ?_, ?_⟩
  · exact K.seg.drop n2 nm
  · have := K.nod
    simp only [List.cons_append, List.nodup_cons, List.nodup_append, List.mem_append, List.mem_singleton] at this ⊢
    grind
  · intro i hi
    simp only [List.mem_append, List.mem_singleton] at hi
    rcases hi with hi | hi | rfl
    · exact lq' i hi
    · exact ld i hi
    · exact hj
  · intro i hi a1 a2
    simp only [List.mem_append, List.mem_singleton, not_or] at a2
    obtain ⟨o1, o2⟩ := off i hi a1 a2.2
    rw [o1, o2]; exact K.un i hi (fun h => (List.mem_cons.mp h).elim a2.2 a1) a2.1
  · intro i hi
    simp only [List.mem_append, List.mem_singleton] at hi
    rcases hi with hi | rfl
    · have hne : i ∉ j :: qu := fun h => (List.nodup_append.mp K.nod).2.2 i h i hi rfl
      obtain ⟨o1, o2⟩ := off i (ld i hi) (fun h => hne (.tail _ h)) (fun e => hne (e ▸ .head _))
      rw [o1, o2]; exact K.pd i hi
    · exact ⟨upO_self .., upO_self ..⟩
end
end Mine
namespace MineN
theorem rstYN4 : True := by
  w_top off
  trivial
open Mine
theorem fillKN4 : PySem.Challenge.rw_fc0145_01.Holds → (∀ w : World, (hd.heap_39 w.params).In default) → True := by
  k_fill
  intros
  trivial

section
variable {w : World} {A₀ : Around} {base g₀ h₀ : Heap} {outer : List Env} {env : Env} {L : Addr} {m mg mb : Str → Option Value} {mean : ExcName → Option Value}
  {s : Shared} {pre tl : List (Addr × Obj)} {d u : Nat} {gs : Option (List Code)} {Q : Value → Shared → Prop} {E : Value → Shared → Prop}
  {mk dmk x y : Addr} {ids : List Addr} {da Ca : Addr → Addr} {at_ : Addr → Str → Option Value} {nx pv : Addr → Option Addr}


local macro_rules | `(tactic| k_steps) => `(tactic| repeat' (first | (k_unfold; (try dsimp only)) | walk1 | (dsimp only; walk1) | fail "no step"))
-- the words of this file: ktr_unf enters a def, ktr_rel closes an end
local macro_rules | `(tactic| ktr_unf) => `(tactic| (refine wpAny_call ?_; refine' codeS ?B ?F ?X ?N ?T ?XB ?TB ?D ?T0 ?kA ?hf ?hke ?k6 ?k7 ?k8 ?k9 ?kB ?_ ?c2 ?c3 ?c4 ?c5; (case F => assumption); (case N => assumption); (case B => assumption); (case X => assumption); (case T => assumption); (case XB => assumption); (case TB => assumption); (case D => assumption); (case T0 => assumption); (case kA => exact rfl); (case hf => first | assumption | exact rfl); (case hke => first | assumption | exact rfl); (case k6 => k_is); (case k7 => k_is); (case k8 => (show _ < recursionLimit; first | omega | (dsimp only [Ar]; omega))); (case k9 => exact BindsTo.of_eq rfl); (case kB => exact locs rfl); (case c2 => exact rfl); (case c3 => exact rfl); (case c4 => exact rfl); (case c5 => decide); k_whole))
local macro_rules | `(tactic| ktr_rel) => `(tactic| exact ⟨by assumption, by assumption, by assumption, by assumption, by assumption, by assumption, by assumption, by assumption, by assumption⟩)
local macro_rules | `(tactic| k_mem) => `(tactic| assumption)
local macro_rules | `(tactic| k_get) => `(tactic| assumption)
local macro_rules | `(tactic| walk_at "setAttr ref") => `(tactic| (k_here; k_dflt (refine' setAttr_L ?k1 ?k2 ?k3 ?k4 ?k5 ?k6 ?k7 ?k8 ?k9 ?k10 ?k11 ?_; (case k1 => k_asm); (case k2 => k_asm); (case k3 => k_asm); (case k4 => assumption); (case k5 => assumption); (case k6 => assumption); (case k7 => first | exact Or.inl rfl | exact Or.inr rfl); (case k8 => k_is); (case k9 => k_is); (case k10 => k_is); (case k11 => k_is); k_whole); intro h' es' n' a' F' N'; (try k_sweep)))
local macro_rules | `(tactic| walk_at "getAttr ref") => `(tactic| (k_here; k_dflt (refine' get_missN ?k0 ?k1 ?k2 ?k3 ?k4 ?k5 ?k6 ?k7 ?k8 ?k9 ?_; (case k0 => exact rfl); (case k1 => k_asm); (case k2 => k_asm); (case k3 => k_inst); (case k4 => k_is); (case k5 => k_is); (case k6 => k_is); (case k7 => exact rfl); (case k8 => k_get); (case k9 => first | exact sizeOkN | exact sizeOkP); k_whole); intro h' tk' e' x'))
local macro_rules | `(tactic| walk_at "noteFrame ref") => `(tactic| (k_here; (with_reducible rename Heap.NewExcOf _ _ _ _ => neX); k_dflt (refine' caught_own neX ?F ?N ?K ?XB ?TB ?D ?T0 ?ex attrErr_boot ?hn attrErr_exc attrErr_nt sub_AttributeError ?_; (case F => assumption); (case N => assumption); (case K => assumption); (case XB => assumption); (case TB => assumption); (case D => assumption); (case T0 => assumption); (case ex => k_is); (case hn => decide); k_whole); intro h' g' T' F' N' B' X' P' D'))
theorem next_some (C : Cx w A₀ base outer mean mg mb g₀ h₀ L s.heap m (pre ++ tl)) (S : NS tl mk dmk ids da Ca at_ nx pv) (hd : d + 5 < recursionLimit) (hf : env.frame = some L) (hke : env.scope.kind = .function)
    (hx : x ∈ ids) (hn : nx x = some y)
    (h : ∀ h' tk, Cx w A₀ base outer mean mg mb g₀ h₀ L h' m (pre ++ tl) → Q (.ref y) { s with heap := h', toks := tk }) :
    wpAny (model PR w) (Ar d u (env :: outer) gs) (call (.ref 148) [.ref mk, .ref x] []) Q E s := by
  obtain ⟨F, N, B, X, T, XB, TB, D, T0⟩ := C
  have I := memR (a := pre) (S.inst x hx)
  obtain ⟨es, n, hdm, hat⟩ := S.dict x hx
  have I2 := memR (a := pre) hdm
  have hg : getL nN es = some (some (.ref y)) := by rw [hat.get]; unfold fAt; rw [if_pos rfl, hn]; rfl
  ktr_unf
  intro g' L' h' F' N' B' X' T' D'
  (try dsimp only); (try k_fold)
  rcases S.cls x hx with hC | hC <;> rw [hC] at I <;> k_steps
  all_goals exact h _ _ (by ktr_rel)

theorem prev_some (C : Cx w A₀ base outer mean mg mb g₀ h₀ L s.heap m (pre ++ tl)) (S : NS tl mk dmk ids da Ca at_ nx pv) (hd : d + 5 < recursionLimit) (hf : env.frame = some L) (hke : env.scope.kind = .function)
    (hx : x ∈ ids) (hn : pv x = some y)
    (h : ∀ h' tk, Cx w A₀ base outer mean mg mb g₀ h₀ L h' m (pre ++ tl) → Q (.ref y) { s with heap := h', toks := tk }) :
    wpAny (model PR w) (Ar d u (env :: outer) gs) (call (.ref 162) [.ref mk, .ref x] []) Q E s := by
  obtain ⟨F, N, B, X, T, XB, TB, D, T0⟩ := C
  have I := memR (a := pre) (S.inst x hx)
  obtain ⟨es, n, hdm, hat⟩ := S.dict x hx
  have I2 := memR (a := pre) hdm
  have hg : getL nP es = some (some (.ref y)) := by rw [hat.get]; unfold fAt; rw [if_neg (Ne.symm nN_ne), if_pos rfl, hn]; rfl
  ktr_unf
  intro g' L' h' F' N' B' X' T' D'
  (try dsimp only); (try k_fold)
  rcases S.cls x hx with hC | hC <;> rw [hC] at I <;> k_steps
  all_goals exact h _ _ (by ktr_rel)

theorem set_next (C : Cx w A₀ base outer mean mg mb g₀ h₀ L s.heap m (pre ++ tl)) (P : Off pre da ids) (S : NS tl mk dmk ids da Ca at_ nx pv) (hd : d + 5 < recursionLimit) (hf : env.frame = some L) (hke : env.scope.kind = .function)
    (hx : x ∈ ids)
    (h : ∀ h' tk tl', Cx w A₀ base outer mean mg mb g₀ h₀ L h' m (pre ++ tl') → NS tl' mk dmk ids da Ca at_ (upO nx x y) pv → Q .none { s with heap := h', toks := tk }) :
    wpAny (model PR w) (Ar d u (env :: outer) gs) (call (.ref 155) [.ref mk, .ref x, .ref y] []) Q E s := by
  obtain ⟨F, N, B, X, T, XB, TB, D, T0⟩ := C
  have I := memR (a := pre) (S.inst x hx)
  obtain ⟨es, n, hdm, hat⟩ := S.dict x hx
  have I2 := memR (a := pre) hdm
  have hoff := P.at hx
  ktr_unf
  intro g' L' h' F' N' B' X' T' D'
  (try dsimp only); (try k_fold)
  rcases S.cls x hx with hC | hC <;> rw [hC] at I <;> k_steps
  all_goals (
    rename_i a' F2 N2 kF kN _ _
    rw [updA_N] at a'
    rw [setL_append, setL_off _ hoff] at kN
    exact h _ _ _ ⟨kF, kN, B, X, T, XB, TB, D, T0⟩ (S.setN hx a'))

theorem set_prev (C : Cx w A₀ base outer mean mg mb g₀ h₀ L s.heap m (pre ++ tl)) (P : Off pre da ids) (S : NS tl mk dmk ids da Ca at_ nx pv) (hd : d + 5 < recursionLimit) (hf : env.frame = some L) (hke : env.scope.kind = .function)
    (hx : x ∈ ids)
    (h : ∀ h' tk tl', Cx w A₀ base outer mean mg mb g₀ h₀ L h' m (pre ++ tl') → NS tl' mk dmk ids da Ca at_ nx (upO pv x y) → Q .none { s with heap := h', toks := tk }) :
    wpAny (model PR w) (Ar d u (env :: outer) gs) (call (.ref 169) [.ref mk, .ref x, .ref y] []) Q E s := by
  obtain ⟨F, N, B, X, T, XB, TB, D, T0⟩ := C
  have I := memR (a := pre) (S.inst x hx)
  obtain ⟨es, n, hdm, hat⟩ := S.dict x hx
  have I2 := memR (a := pre) hdm
  have hoff := P.at hx
  ktr_unf
  intro g' L' h' F' N' B' X' T' D'
  (try dsimp only); (try k_fold)
  rcases S.cls x hx with hC | hC <;> rw [hC] at I <;> k_steps
  all_goals (
    rename_i a' F2 N2 kF kN _ _
    rw [updA_P] at a'
    rw [setL_append, setL_off _ hoff] at kN
    exact h _ _ _ ⟨kF, kN, B, X, T, XB, TB, D, T0⟩ (S.setP hx a'))



end
end MineN
namespace MineN
theorem rstYN5 : True := by
  w_top off
  trivial
open Mine
theorem fillKN5 : PySem.Challenge.rw_fc0145_01.Holds → (∀ w : World, (hd.heap_39 w.params).In default) → True := by
  k_fill
  intros
  trivial
local macro_rules | `(tactic| k_steps) => `(tactic| repeat' (first | (k_unfold; (try dsimp only)) | walk1 | (dsimp only; walk1) | fail "no step"))
local macro_rules | `(tactic| ktr_unf) => `(tactic| (refine wpAny_call ?_; refine' codeS ?B ?F ?X ?N ?T ?XB ?TB ?D ?T0 ?kA ?hf ?hke ?k6 ?k7 ?k8 ?k9 ?kB ?_ ?c2 ?c3 ?c4 ?c5; (case F => assumption); (case N => assumption); (case B => assumption); (case X => assumption); (case T => assumption); (case XB => assumption); (case TB => assumption); (case D => assumption); (case T0 => assumption); (case kA => exact rfl); (case hf => first | assumption | exact rfl); (case hke => first | assumption | exact rfl); (case k6 => k_is); (case k7 => k_is); (case k8 => (show _ < recursionLimit; first | omega | (dsimp only [Ar]; omega))); (case k9 => exact BindsTo.of_eq rfl); (case kB => exact locs rfl); (case c2 => exact rfl); (case c3 => exact rfl); (case c4 => exact rfl); (case c5 => decide); k_whole))
local macro_rules | `(tactic| ktr_rel) => `(tactic| exact ⟨by assumption, by assumption, by assumption, by assumption, by assumption, by assumption, by assumption, by assumption, by assumption⟩)
local macro_rules | `(tactic| k_mem) => `(tactic| assumption)

section
variable {w : World} {A₀ : Around} {base g₀ h₀ : Heap} {outer : List Env} {env : Env} {L : Addr} {m mg mb : Str → Option Value} {mean : ExcName → Option Value}
  {s : Shared} {pre tl : List (Addr × Obj)} {d u : Nat} {gs : Option (List Code)} {Q : Value → Shared → Prop} {E : Value → Shared → Prop}
  {mk dmk x y : Addr} {ids : List Addr} {da Ca : Addr → Addr} {at_ : Addr → Str → Option Value} {nx pv : Addr → Option Addr} {h : Heap}

local macro_rules | `(tactic| walk_at "call ref") => `(tactic| (k_here; (with_reducible show wpAny _ _ (call (Value.ref 148) _ _) _ _ _); (first | (refine' next_some ?C ?S ?d ?f ?k ?x ?n ?_; (case C => ktr_rel); (case S => assumption); (case d => first | omega | (dsimp only [Ar]; omega)); (case f => first | assumption | exact rfl); (case k => first | assumption | exact rfl); (case x => assumption); (case n => assumption); k_whole; intro h' tk' C'; obtain ⟨F', N', B', X', T', XB', TB', D', T0'⟩ := C'))))
local macro_rules | `(tactic| walk_at "call ref") => `(tactic| (k_here; (with_reducible show wpAny _ _ (call (Value.ref 162) _ _) _ _ _); (first | (refine' prev_some ?C ?S ?d ?f ?k ?x ?n ?_; (case C => ktr_rel); (case S => assumption); (case d => first | omega | (dsimp only [Ar]; omega)); (case f => first | assumption | exact rfl); (case k => first | assumption | exact rfl); (case x => assumption); (case n => assumption); k_whole; intro h' tk' C'; obtain ⟨F', N', B', X', T', XB', TB', D', T0'⟩ := C'))))
local macro_rules | `(tactic| walk_at "compareOp Is ref ref") => `(tactic| (k_here; refine' is_nodes ?N ?S ?x ?y ?ne ?_; (case N => assumption); (case S => assumption); (case x => assumption); (case y => assumption); (case ne => first | assumption | (apply Ne.symm; assumption)); k_whole))
local macro_rules | `(tactic| walk_at "compareOp IsNot ref ref") => `(tactic| (k_here; refine' isNot_nodes ?N ?S ?x ?y ?ne ?_; (case N => assumption); (case S => assumption); (case x => assumption); (case y => assumption); (case ne => first | assumption | (apply Ne.symm; assumption)); k_whole))
theorem off_self (C : Cx w A₀ base outer mean mg mb g₀ h₀ L s.heap m (pre ++ tl)) (S : NS tl mk dmk ids da Ca at_ nx pv) (hd : d + 6 < recursionLimit) (hf : env.frame = some L) (hke : env.scope.kind = .function)
    (hx : x ∈ ids) (hn : nx x = some x) (hp : pv x = some x)
    (h : ∀ h' tk, Cx w A₀ base outer mean mg mb g₀ h₀ L h' m (pre ++ tl) → Q (.bool false) { s with heap := h', toks := tk }) :
    wpAny (model PR w) (Ar d u (env :: outer) gs) (call (.ref 176) [.ref mk, .ref x] []) Q E s := by
  have i1 := mI C S
  have i2 := mD C S
  obtain ⟨F, N, B, X, T, XB, TB, D, T0⟩ := C
  ktr_unf
  intro g' L' h' F' N' B' X' T' D'
  have T1 : KtsTurn (frs (env :: outer)) g' g' := KtsTurn.refl
  (try dsimp only); (try k_fold)
  k_steps
  all_goals exact h _ _ (by ktr_rel)

theorem on_list (C : Cx w A₀ base outer mean mg mb g₀ h₀ L s.heap m (pre ++ tl)) (S : NS tl mk dmk ids da Ca at_ nx pv) (hd : d + 6 < recursionLimit) (hf : env.frame = some L) (hke : env.scope.kind = .function)
    (hx : x ∈ ids) (hn : nx x = some y) (hy : y ≠ x) (hyi : y ∈ ids)
    (h : ∀ h' tk, Cx w A₀ base outer mean mg mb g₀ h₀ L h' m (pre ++ tl) → Q (.bool true) { s with heap := h', toks := tk }) :
    wpAny (model PR w) (Ar d u (env :: outer) gs) (call (.ref 176) [.ref mk, .ref x] []) Q E s := by
  have i1 := mI C S
  have i2 := mD C S
  obtain ⟨F, N, B, X, T, XB, TB, D, T0⟩ := C
  ktr_unf
  intro g' L' h' F' N' B' X' T' D'
  have T1 : KtsTurn (frs (env :: outer)) g' g' := KtsTurn.refl
  (try dsimp only); (try k_fold)
  k_steps
  all_goals exact h _ _ (by ktr_rel)

end
end MineN
namespace MineN
theorem rstYN6 : True := by
  w_top off
  trivial
open Mine
theorem fillKN6 : PySem.Challenge.rw_fc0145_01.Holds → (∀ w : World, (hd.heap_39 w.params).In default) → True := by
  k_fill
  intros
  trivial
local macro_rules | `(tactic| k_steps) => `(tactic| repeat' (first | (k_unfold; (try dsimp only)) | walk1 | (dsimp only; walk1) | fail "no step"))
local macro_rules | `(tactic| ktr_unf) => `(tactic| (refine wpAny_call ?_; refine' codeS ?B ?F ?X ?N ?T ?XB ?TB ?D ?T0 ?kA ?hf ?hke ?k6 ?k7 ?k8 ?k9 ?kB ?_ ?c2 ?c3 ?c4 ?c5; (case F => assumption); (case N => assumption); (case B => assumption); (case X => assumption); (case T => assumption); (case XB => assumption); (case TB => assumption); (case D => assumption); (case T0 => assumption); (case kA => exact rfl); (case hf => first | assumption | exact rfl); (case hke => first | assumption | exact rfl); (case k6 => k_is); (case k7 => k_is); (case k8 => (show _ < recursionLimit; first | omega | (dsimp only [Ar]; omega))); (case k9 => exact BindsTo.of_eq rfl); (case kB => exact locs rfl); (case c2 => exact rfl); (case c3 => exact rfl); (case c4 => exact rfl); (case c5 => decide); k_whole))
local macro_rules | `(tactic| ktr_rel) => `(tactic| exact ⟨by assumption, by assumption, by assumption, by assumption, by assumption, by assumption, by assumption, by assumption, by assumption⟩)
local macro_rules | `(tactic| k_mem) => `(tactic| assumption)

local macro_rules | `(tactic| walk_at "call ref") => `(tactic| (k_here; (with_reducible show wpAny _ _ (call (Value.ref 148) _ _) _ _ _); (first | (refine' next_some ?C ?S ?d ?f ?k ?x ?n ?_; (case C => ktr_rel); (case S => assumption); (case d => first | omega | (dsimp only [Ar]; omega)); (case f => first | assumption | exact rfl); (case k => first | assumption | exact rfl); (case x => assumption); (case n => assumption); k_whole; intro h' tk' C'; obtain ⟨F', N', B', X', T', XB', TB', D', T0'⟩ := C'))))
local macro_rules | `(tactic| walk_at "call ref") => `(tactic| (k_here; (with_reducible show wpAny _ _ (call (Value.ref 162) _ _) _ _ _); (first | (refine' prev_some ?C ?S ?d ?f ?k ?x ?n ?_; (case C => ktr_rel); (case S => assumption); (case d => first | omega | (dsimp only [Ar]; omega)); (case f => first | assumption | exact rfl); (case k => first | assumption | exact rfl); (case x => assumption); (case n => assumption); k_whole; intro h' tk' C'; obtain ⟨F', N', B', X', T', XB', TB', D', T0'⟩ := C'))))
local macro_rules | `(tactic| walk_at "call ref") => `(tactic| (k_here; (with_reducible show wpAny _ _ (call (Value.ref 176) _ _) _ _ _); (first | (refine' off_self ?C ?S ?d ?f ?k ?x ?n ?n2 ?_; (case C => ktr_rel); (case S => assumption); (case d => first | omega | (dsimp only [Ar]; omega)); (case f => first | assumption | exact rfl); (case k => first | assumption | exact rfl); (case x => assumption); (case n => assumption); (case n2 => assumption); k_whole; intro h' tk' C'; obtain ⟨F', N', B', X', T', XB', TB', D', T0'⟩ := C') | (refine' on_list ?C ?S ?d ?f ?k ?x ?n ?n2 ?n3 ?_; (case C => ktr_rel); (case S => assumption); (case d => first | omega | (dsimp only [Ar]; omega)); (case f => first | assumption | exact rfl); (case k => first | assumption | exact rfl); (case x => assumption); (case n => assumption); (case n2 => assumption); (case n3 => assumption); k_whole; intro h' tk' C'; obtain ⟨F', N', B', X', T', XB', TB', D', T0'⟩ := C'))))
local macro_rules | `(tactic| walk_at "call ref") => `(tactic| (k_here; (with_reducible show wpAny _ _ (call (Value.ref 155) _ _) _ _ _); refine' set_next ?C ?P ?S ?d ?f ?k ?x ?_; (case C => ktr_rel); (case P => assumption); (case S => assumption); (case d => first | omega | (dsimp only [Ar]; omega)); (case f => first | assumption | exact rfl); (case k => first | assumption | exact rfl); (case x => assumption); k_whole; intro h' tk' tl' C' S'; have j1' := mI C' S'; have j2' := mD C' S'; obtain ⟨F', N', B', X', T', XB', TB', D', T0'⟩ := C'))
local macro_rules | `(tactic| walk_at "call ref") => `(tactic| (k_here; (with_reducible show wpAny _ _ (call (Value.ref 169) _ _) _ _ _); refine' set_prev ?C ?P ?S ?d ?f ?k ?x ?_; (case C => ktr_rel); (case P => assumption); (case S => assumption); (case d => first | omega | (dsimp only [Ar]; omega)); (case f => first | assumption | exact rfl); (case k => first | assumption | exact rfl); (case x => assumption); k_whole; intro h' tk' tl' C' S'; have j1' := mI C' S'; have j2' := mD C' S'; obtain ⟨F', N', B', X', T', XB', TB', D', T0'⟩ := C'))
local macro_rules | `(tactic| walk_at "compareOp Is ref ref") => `(tactic| (k_here; refine' is_nodes ?N ?S ?x ?y ?ne ?_; (case N => assumption); (case S => assumption); (case x => assumption); (case y => assumption); (case ne => first | assumption | (apply Ne.symm; assumption)); k_whole))
local macro_rules | `(tactic| walk_at "compareOp IsNot ref ref") => `(tactic| (k_here; refine' isNot_nodes ?N ?S ?x ?y ?ne ?_; (case N => assumption); (case S => assumption); (case x => assumption); (case y => assumption); (case ne => first | assumption | (apply Ne.symm; assumption)); k_whole))
section
variable {w : World} {A₀ : Around} {base g₀ h₀ : Heap} {outer : List Env} {env : Env} {L : Addr} {m mg mb : Str → Option Value} {mean : ExcName → Option Value}
  {s : Shared} {pre tl : List (Addr × Obj)} {d u : Nat} {gs : Option (List Code)} {Q : Value → Shared → Prop} {E : Value → Shared → Prop}
  {mk dmk x y n p : Addr} {ids : List Addr} {da Ca : Addr → Addr} {at_ : Addr → Str → Option Value} {nx pv : Addr → Option Addr} {h : Heap}




theorem ins_before1 (C : Cx w A₀ base outer mean mg mb g₀ h₀ L s.heap m (pre ++ tl)) (P : Off pre da ids) (S : NS tl mk dmk ids da Ca at_ nx pv) (hd : d + 7 < recursionLimit) (hf : env.frame = some L) (hke : env.scope.kind = .function)
    (hx : x ∈ ids) (hni : n ∈ ids) (hpi : p ∈ ids) (hnx : n ≠ x) (hp : pv x = some p) (h1 : nx n = some n) (h2 : pv n = some n)
    (h : ∀ h' tk tl', Cx w A₀ base outer mean mg mb g₀ h₀ L h' m (pre ++ tl') → NS tl' mk dmk ids da Ca at_ (upO (upO nx n x) p n) (upO (upO pv x n) n p) → Q .none { s with heap := h', toks := tk }) :
    wpAny (model PR w) (Ar d u (env :: outer) gs) (call (.ref 190) [.ref mk, .ref x, .ref n] []) Q E s := by
  have i1 := mI C S
  have i2 := mD C S
  obtain ⟨F, N, B, X, T, XB, TB, D, T0⟩ := C
  ktr_unf
  intro g' L' h' F' N' B' X' T' D'
  have T1 : KtsTurn (frs (env :: outer)) g' g' := KtsTurn.refl
  (try dsimp only); (try k_fold)
  k_steps
  all_goals exact h _ _ _ (by ktr_rel) (by assumption)

theorem ins_after1 (C : Cx w A₀ base outer mean mg mb g₀ h₀ L s.heap m (pre ++ tl)) (P : Off pre da ids) (S : NS tl mk dmk ids da Ca at_ nx pv) (hd : d + 7 < recursionLimit) (hf : env.frame = some L) (hke : env.scope.kind = .function)
    (hx : x ∈ ids) (hni : n ∈ ids) (hpi : p ∈ ids) (hnx : n ≠ x) (hp : nx x = some p) (h1 : nx n = some n) (h2 : pv n = some n)
    (h : ∀ h' tk tl', Cx w A₀ base outer mean mg mb g₀ h₀ L h' m (pre ++ tl') → NS tl' mk dmk ids da Ca at_ (upO (upO nx x n) n p) (upO (upO pv n x) p n) → Q .none { s with heap := h', toks := tk }) :
    wpAny (model PR w) (Ar d u (env :: outer) gs) (call (.ref 183) [.ref mk, .ref x, .ref n] []) Q E s := by
  have i1 := mI C S
  have i2 := mD C S
  obtain ⟨F, N, B, X, T, XB, TB, D, T0⟩ := C
  ktr_unf
  intro g' L' h' F' N' B' X' T' D'
  have T1 : KtsTurn (frs (env :: outer)) g' g' := KtsTurn.refl
  (try dsimp only); (try k_fold)
  k_steps
  all_goals exact h _ _ _ (by ktr_rel) (by assumption)

theorem unlink_on (C : Cx w A₀ base outer mean mg mb g₀ h₀ L s.heap m (pre ++ tl)) (P : Off pre da ids) (S : NS tl mk dmk ids da Ca at_ nx pv) (hd : d + 7 < recursionLimit) (hf : env.frame = some L) (hke : env.scope.kind = .function)
    (hx : x ∈ ids) (hni : n ∈ ids) (hpi : p ∈ ids) (hnx : n ≠ x) (hn : nx x = some n) (hp : pv x = some p)
    (h : ∀ h' tk tl', Cx w A₀ base outer mean mg mb g₀ h₀ L h' m (pre ++ tl') → NS tl' mk dmk ids da Ca at_ (upO (upO nx p n) x x) (upO (upO pv n p) x x) → Q .none { s with heap := h', toks := tk }) :
    wpAny (model PR w) (Ar d u (env :: outer) gs) (call (.ref 197) [.ref mk, .ref x] []) Q E s := by
  have i1 := mI C S
  have i2 := mD C S
  obtain ⟨F, N, B, X, T, XB, TB, D, T0⟩ := C
  ktr_unf
  intro g' L' h' F' N' B' X' T' D'
  have T1 : KtsTurn (frs (env :: outer)) g' g' := KtsTurn.refl
  (try dsimp only); (try k_fold)
  k_steps
  all_goals exact h _ _ _ (by ktr_rel) (by assumption)
end
end MineN
namespace MineN
theorem rstYN7 : True := by
  w_top off
  trivial
open Mine
theorem fillKN7 : PySem.Challenge.rw_fc0145_01.Holds → (∀ w : World, (hd.heap_39 w.params).In default) → True := by
  k_fill
  intros
  trivial
local macro_rules | `(tactic| k_steps) => `(tactic| repeat' (first | (k_unfold; (try dsimp only)) | walk1 | (dsimp only; walk1) | fail "no step"))
local macro_rules | `(tactic| ktr_unf) => `(tactic| (refine wpAny_call ?_; refine' codeS ?B ?F ?X ?N ?T ?XB ?TB ?D ?T0 ?kA ?hf ?hke ?k6 ?k7 ?k8 ?k9 ?kB ?_ ?c2 ?c3 ?c4 ?c5; (case F => assumption); (case N => assumption); (case B => assumption); (case X => assumption); (case T => assumption); (case XB => assumption); (case TB => assumption); (case D => assumption); (case T0 => assumption); (case kA => exact rfl); (case hf => first | assumption | exact rfl); (case hke => first | assumption | exact rfl); (case k6 => k_is); (case k7 => k_is); (case k8 => (show _ < recursionLimit; first | omega | (dsimp only [Ar]; omega))); (case k9 => exact BindsTo.of_eq rfl); (case kB => exact locs rfl); (case c2 => exact rfl); (case c3 => exact rfl); (case c4 => exact rfl); (case c5 => decide); k_whole))
local macro_rules | `(tactic| ktr_rel) => `(tactic| exact ⟨by assumption, by assumption, by assumption, by assumption, by assumption, by assumption, by assumption, by assumption, by assumption⟩)
local macro_rules | `(tactic| k_mem) => `(tactic| assumption)

local macro_rules | `(tactic| walk_at "call ref") => `(tactic| (k_here; (with_reducible show wpAny _ _ (call (Value.ref 148) _ _) _ _ _); (first | (refine' next_some ?C ?S ?d ?f ?k ?x ?n ?_; (case C => ktr_rel); (case S => assumption); (case d => first | omega | (dsimp only [Ar]; omega)); (case f => first | assumption | exact rfl); (case k => first | assumption | exact rfl); (case x => assumption); (case n => assumption); k_whole; intro h' tk' C'; obtain ⟨F', N', B', X', T', XB', TB', D', T0'⟩ := C'))))
local macro_rules | `(tactic| walk_at "call ref") => `(tactic| (k_here; (with_reducible show wpAny _ _ (call (Value.ref 162) _ _) _ _ _); (first | (refine' prev_some ?C ?S ?d ?f ?k ?x ?n ?_; (case C => ktr_rel); (case S => assumption); (case d => first | omega | (dsimp only [Ar]; omega)); (case f => first | assumption | exact rfl); (case k => first | assumption | exact rfl); (case x => assumption); (case n => assumption); k_whole; intro h' tk' C'; obtain ⟨F', N', B', X', T', XB', TB', D', T0'⟩ := C'))))
local macro_rules | `(tactic| walk_at "call ref") => `(tactic| (k_here; (with_reducible show wpAny _ _ (call (Value.ref 176) _ _) _ _ _); (first | (refine' off_self ?C ?S ?d ?f ?k ?x ?n ?n2 ?_; (case C => ktr_rel); (case S => assumption); (case d => first | omega | (dsimp only [Ar]; omega)); (case f => first | assumption | exact rfl); (case k => first | assumption | exact rfl); (case x => assumption); (case n => assumption); (case n2 => assumption); k_whole; intro h' tk' C'; obtain ⟨F', N', B', X', T', XB', TB', D', T0'⟩ := C') | (refine' on_list ?C ?S ?d ?f ?k ?x ?n ?n2 ?n3 ?_; (case C => ktr_rel); (case S => assumption); (case d => first | omega | (dsimp only [Ar]; omega)); (case f => first | assumption | exact rfl); (case k => first | assumption | exact rfl); (case x => assumption); (case n => assumption); (case n2 => assumption); (case n3 => assumption); k_whole; intro h' tk' C'; obtain ⟨F', N', B', X', T', XB', TB', D', T0'⟩ := C'))))
local macro_rules | `(tactic| walk_at "call ref") => `(tactic| (k_here; (with_reducible show wpAny _ _ (call (Value.ref 155) _ _) _ _ _); refine' set_next ?C ?P ?S ?d ?f ?k ?x ?_; (case C => ktr_rel); (case P => assumption); (case S => assumption); (case d => first | omega | (dsimp only [Ar]; omega)); (case f => first | assumption | exact rfl); (case k => first | assumption | exact rfl); (case x => assumption); k_whole; intro h' tk' tl' C' S'; have j1' := mI C' S'; have j2' := mD C' S'; obtain ⟨F', N', B', X', T', XB', TB', D', T0'⟩ := C'))
local macro_rules | `(tactic| walk_at "call ref") => `(tactic| (k_here; (with_reducible show wpAny _ _ (call (Value.ref 169) _ _) _ _ _); refine' set_prev ?C ?P ?S ?d ?f ?k ?x ?_; (case C => ktr_rel); (case P => assumption); (case S => assumption); (case d => first | omega | (dsimp only [Ar]; omega)); (case f => first | assumption | exact rfl); (case k => first | assumption | exact rfl); (case x => assumption); k_whole; intro h' tk' tl' C' S'; have j1' := mI C' S'; have j2' := mD C' S'; obtain ⟨F', N', B', X', T', XB', TB', D', T0'⟩ := C'))
local macro_rules | `(tactic| walk_at "compareOp Is ref ref") => `(tactic| (k_here; refine' is_nodes ?N ?S ?x ?y ?ne ?_; (case N => assumption); (case S => assumption); (case x => assumption); (case y => assumption); (case ne => first | assumption | (apply Ne.symm; assumption)); k_whole))
local macro_rules | `(tactic| walk_at "compareOp IsNot ref ref") => `(tactic| (k_here; refine' isNot_nodes ?N ?S ?x ?y ?ne ?_; (case N => assumption); (case S => assumption); (case x => assumption); (case y => assumption); (case ne => first | assumption | (apply Ne.symm; assumption)); k_whole))
local macro_rules | `(tactic| walk_at "call ref") => `(tactic| (k_here; (with_reducible show wpAny _ _ (call (Value.ref 190) _ _) _ _ _); (first | (refine' ins_before1 ?C ?P ?S ?d ?f ?k ?x0 ?x1 ?x2 ?x3 ?x4 ?x5 ?x6 ?_; (case C => ktr_rel); (case P => assumption); (case S => assumption); (case d => first | omega | (dsimp only [Ar]; omega)); (case f => first | assumption | exact rfl); (case k => first | assumption | exact rfl); (case x6 => assumption); (case x5 => assumption); (case x4 => assumption); (case x3 => assumption); (case x2 => assumption); (case x1 => assumption); (case x0 => assumption); k_whole; intro h' tk' tl' C' S'; have j1' := mI C' S'; have j2' := mD C' S'; obtain ⟨F', N', B', X', T', XB', TB', D', T0'⟩ := C'))))
local macro_rules | `(tactic| walk_at "call ref") => `(tactic| (k_here; (with_reducible show wpAny _ _ (call (Value.ref 183) _ _) _ _ _); (first | (refine' ins_after1 ?C ?P ?S ?d ?f ?k ?x0 ?x1 ?x2 ?x3 ?x4 ?x5 ?x6 ?_; (case C => ktr_rel); (case P => assumption); (case S => assumption); (case d => first | omega | (dsimp only [Ar]; omega)); (case f => first | assumption | exact rfl); (case k => first | assumption | exact rfl); (case x6 => assumption); (case x5 => assumption); (case x4 => assumption); (case x3 => assumption); (case x2 => assumption); (case x1 => assumption); (case x0 => assumption); k_whole; intro h' tk' tl' C' S'; have j1' := mI C' S'; have j2' := mD C' S'; obtain ⟨F', N', B', X', T', XB', TB', D', T0'⟩ := C'))))
local macro_rules | `(tactic| walk_at "call ref") => `(tactic| (k_here; (with_reducible show wpAny _ _ (call (Value.ref 197) _ _) _ _ _); (first | (refine' unlink_on ?C ?P ?S ?d ?f ?k ?x0 ?x1 ?x2 ?x3 ?x4 ?x5 ?_; (case C => ktr_rel); (case P => assumption); (case S => assumption); (case d => first | omega | (dsimp only [Ar]; omega)); (case f => first | assumption | exact rfl); (case k => first | assumption | exact rfl); (case x5 => assumption); (case x4 => assumption); (case x3 => assumption); (case x2 => assumption); (case x1 => assumption); (case x0 => assumption); k_whole; intro h' tk' tl' C' S'; have j1' := mI C' S'; have j2' := mD C' S'; obtain ⟨F', N', B', X', T', XB', TB', D', T0'⟩ := C'))))
local macro_rules | `(tactic| k_get) => `(tactic| assumption)

section
variable {w : World} {A₀ : Around} {base g₀ h₀ : Heap} {outer : List Env} {env : Env} {L : Addr} {m mg mb : Str → Option Value} {mean : ExcName → Option Value}
  {s : Shared} {pre tl : List (Addr × Obj)} {d u : Nat} {gs : Option (List Code)} {Q : Value → Shared → Prop} {E : Value → Shared → Prop}
  {mk dmk x y n p hh : Addr} {ids : List Addr} {da Ca : Addr → Addr} {at_ : Addr → Str → Option Value} {nx pv : Addr → Option Addr} {h : Heap}


theorem append1 (C : Cx w A₀ base outer mean mg mb g₀ h₀ L s.heap m (pre ++ tl)) (P : Off pre da ids) (S : NS tl mk dmk ids da Ca at_ nx pv) (hd : d + 8 < recursionLimit) (hf : env.frame = some L) (hke : env.scope.kind = .function)
    (H : Hd mk ids Ca at_ hh) (hni : n ∈ ids) (hpi : p ∈ ids) (hnx : n ≠ hh) (hp : pv hh = some p) (h1 : nx n = some n) (h2 : pv n = some n)
    (h : ∀ h' tk tl', Cx w A₀ base outer mean mg mb g₀ h₀ L h' m (pre ++ tl') → NS tl' mk dmk ids da Ca at_ (upO (upO nx n hh) p n) (upO (upO pv hh n) n p) → Q .none { s with heap := h', toks := tk }) :
    wpAny (model PR w) (Ar d u (env :: outer) gs) (call (.ref 70) [.ref hh, .ref n] []) Q E s := by
  have i1 := mI C S
  have i2 := mD C S
  obtain ⟨es, nn, hl⟩ := hdL C S H
  have l1 := hl.i
  have l2 := hl.d
  have l3 := hl.lt
  have l4 := hl.hd
  have hx := H.mem
  obtain ⟨F, N, B, X, T, XB, TB, D, T0⟩ := C
  ktr_unf
  intro g' L' h' F' N' B' X' T' D'
  have T1 : KtsTurn (frs (env :: outer)) g' g' := KtsTurn.refl
  (try dsimp only); (try k_fold)
  k_steps
  all_goals exact h _ _ _ (by ktr_rel) (by assumption)

theorem prepend1 (C : Cx w A₀ base outer mean mg mb g₀ h₀ L s.heap m (pre ++ tl)) (P : Off pre da ids) (S : NS tl mk dmk ids da Ca at_ nx pv) (hd : d + 8 < recursionLimit) (hf : env.frame = some L) (hke : env.scope.kind = .function)
    (H : Hd mk ids Ca at_ hh) (hni : n ∈ ids) (hpi : p ∈ ids) (hnx : n ≠ hh) (hp : nx hh = some p) (h1 : nx n = some n) (h2 : pv n = some n)
    (h : ∀ h' tk tl', Cx w A₀ base outer mean mg mb g₀ h₀ L h' m (pre ++ tl') → NS tl' mk dmk ids da Ca at_ (upO (upO nx hh n) n p) (upO (upO pv n hh) p n) → Q .none { s with heap := h', toks := tk }) :
    wpAny (model PR w) (Ar d u (env :: outer) gs) (call (.ref 77) [.ref hh, .ref n] []) Q E s := by
  have i1 := mI C S
  have i2 := mD C S
  obtain ⟨es, nn, hl⟩ := hdL C S H
  have l1 := hl.i
  have l2 := hl.d
  have l3 := hl.lt
  have l4 := hl.hd
  have hx := H.mem
  obtain ⟨F, N, B, X, T, XB, TB, D, T0⟩ := C
  ktr_unf
  intro g' L' h' F' N' B' X' T' D'
  have T1 : KtsTurn (frs (env :: outer)) g' g' := KtsTurn.refl
  (try dsimp only); (try k_fold)
  k_steps
  all_goals exact h _ _ _ (by ktr_rel) (by assumption)

theorem remove_on (C : Cx w A₀ base outer mean mg mb g₀ h₀ L s.heap m (pre ++ tl)) (P : Off pre da ids) (S : NS tl mk dmk ids da Ca at_ nx pv) (hd : d + 8 < recursionLimit) (hf : env.frame = some L) (hke : env.scope.kind = .function)
    (H : Hd mk ids Ca at_ hh) (hx : x ∈ ids) (hni : n ∈ ids) (hpi : p ∈ ids) (hnx : n ≠ x) (hn : nx x = some n) (hp : pv x = some p)
    (h : ∀ h' tk tl', Cx w A₀ base outer mean mg mb g₀ h₀ L h' m (pre ++ tl') → NS tl' mk dmk ids da Ca at_ (upO (upO nx p n) x x) (upO (upO pv n p) x x) → Q .none { s with heap := h', toks := tk }) :
    wpAny (model PR w) (Ar d u (env :: outer) gs) (call (.ref 91) [.ref hh, .ref x] []) Q E s := by
  have i1 := mI C S
  have i2 := mD C S
  obtain ⟨es, nn, hl⟩ := hdL C S H
  have l1 := hl.i
  have l2 := hl.d
  have l3 := hl.lt
  have l4 := hl.hd
  have hx' := H.mem
  obtain ⟨F, N, B, X, T, XB, TB, D, T0⟩ := C
  ktr_unf
  intro g' L' h' F' N' B' X' T' D'
  have T1 : KtsTurn (frs (env :: outer)) g' g' := KtsTurn.refl
  (try dsimp only); (try k_fold)
  k_steps
  all_goals exact h _ _ _ (by ktr_rel) (by assumption)

theorem is_empty_t (C : Cx w A₀ base outer mean mg mb g₀ h₀ L s.heap m (pre ++ tl)) (P : Off pre da ids) (S : NS tl mk dmk ids da Ca at_ nx pv) (hd : d + 8 < recursionLimit) (hf : env.frame = some L) (hke : env.scope.kind = .function)
    (H : Hd mk ids Ca at_ hh) (hn : nx hh = some hh) (hp : pv hh = some hh)
    (h : ∀ h' tk tl', Cx w A₀ base outer mean mg mb g₀ h₀ L h' m (pre ++ tl') → NS tl' mk dmk ids da Ca at_ nx pv → Q (.bool true) { s with heap := h', toks := tk }) :
    wpAny (model PR w) (Ar d u (env :: outer) gs) (call (.ref 49) [.ref hh] []) Q E s := by
  have i1 := mI C S
  have i2 := mD C S
  obtain ⟨es, nn, hl⟩ := hdL C S H
  have l1 := hl.i
  have l2 := hl.d
  have l3 := hl.lt
  have l4 := hl.hd
  have hx := H.mem
  obtain ⟨F, N, B, X, T, XB, TB, D, T0⟩ := C
  ktr_unf
  intro g' L' h' F' N' B' X' T' D'
  have T1 : KtsTurn (frs (env :: outer)) g' g' := KtsTurn.refl
  (try dsimp only); (try k_fold)
  k_steps
  all_goals exact h _ _ _ (by ktr_rel) (by assumption)

theorem is_empty_f (C : Cx w A₀ base outer mean mg mb g₀ h₀ L s.heap m (pre ++ tl)) (P : Off pre da ids) (S : NS tl mk dmk ids da Ca at_ nx pv) (hd : d + 8 < recursionLimit) (hf : env.frame = some L) (hke : env.scope.kind = .function)
    (H : Hd mk ids Ca at_ hh) (hn : nx hh = some x) (hne : x ≠ hh) (hxi : x ∈ ids)
    (h : ∀ h' tk tl', Cx w A₀ base outer mean mg mb g₀ h₀ L h' m (pre ++ tl') → NS tl' mk dmk ids da Ca at_ nx pv → Q (.bool false) { s with heap := h', toks := tk }) :
    wpAny (model PR w) (Ar d u (env :: outer) gs) (call (.ref 49) [.ref hh] []) Q E s := by
  have i1 := mI C S
  have i2 := mD C S
  obtain ⟨es, nn, hl⟩ := hdL C S H
  have l1 := hl.i
  have l2 := hl.d
  have l3 := hl.lt
  have l4 := hl.hd
  have hx := H.mem
  obtain ⟨F, N, B, X, T, XB, TB, D, T0⟩ := C
  ktr_unf
  intro g' L' h' F' N' B' X' T' D'
  have T1 : KtsTurn (frs (env :: outer)) g' g' := KtsTurn.refl
  (try dsimp only); (try k_fold)
  k_steps
  all_goals exact h _ _ _ (by ktr_rel) (by assumption)
end
end MineN
namespace MineN
theorem rstYN8 : True := by
  w_top off
  trivial
open Mine
theorem fillKN8 : PySem.Challenge.rw_fc0145_01.Holds → (∀ w : World, (hd.heap_39 w.params).In default) → True := by
  k_fill
  intros
  trivial
local macro_rules | `(tactic| k_steps) => `(tactic| repeat' (first | (k_unfold; (try dsimp only)) | walk1 | (dsimp only; walk1) | fail "no step"))
local macro_rules | `(tactic| ktr_unf) => `(tactic| (refine wpAny_call ?_; refine' codeS ?B ?F ?X ?N ?T ?XB ?TB ?D ?T0 ?kA ?hf ?hke ?k6 ?k7 ?k8 ?k9 ?kB ?_ ?c2 ?c3 ?c4 ?c5; (case F => assumption); (case N => assumption); (case B => assumption); (case X => assumption); (case T => assumption); (case XB => assumption); (case TB => assumption); (case D => assumption); (case T0 => assumption); (case kA => exact rfl); (case hf => first | assumption | exact rfl); (case hke => first | assumption | exact rfl); (case k6 => k_is); (case k7 => k_is); (case k8 => (show _ < recursionLimit; first | omega | (dsimp only [Ar]; omega))); (case k9 => exact BindsTo.of_eq rfl); (case kB => exact locs rfl); (case c2 => exact rfl); (case c3 => exact rfl); (case c4 => exact rfl); (case c5 => decide); k_whole))
local macro_rules | `(tactic| ktr_rel) => `(tactic| exact ⟨by assumption, by assumption, by assumption, by assumption, by assumption, by assumption, by assumption, by assumption, by assumption⟩)
local macro_rules | `(tactic| k_mem) => `(tactic| assumption)

local macro_rules | `(tactic| walk_at "call ref") => `(tactic| (k_here; (with_reducible show wpAny _ _ (call (Value.ref 148) _ _) _ _ _); (first | (refine' next_some ?C ?S ?d ?f ?k ?x ?n ?_; (case C => ktr_rel); (case S => assumption); (case d => first | omega | (dsimp only [Ar]; omega)); (case f => first | assumption | exact rfl); (case k => first | assumption | exact rfl); (case x => assumption); (case n => assumption); k_whole; intro h' tk' C'; obtain ⟨F', N', B', X', T', XB', TB', D', T0'⟩ := C'))))
local macro_rules | `(tactic| walk_at "call ref") => `(tactic| (k_here; (with_reducible show wpAny _ _ (call (Value.ref 162) _ _) _ _ _); (first | (refine' prev_some ?C ?S ?d ?f ?k ?x ?n ?_; (case C => ktr_rel); (case S => assumption); (case d => first | omega | (dsimp only [Ar]; omega)); (case f => first | assumption | exact rfl); (case k => first | assumption | exact rfl); (case x => assumption); (case n => assumption); k_whole; intro h' tk' C'; obtain ⟨F', N', B', X', T', XB', TB', D', T0'⟩ := C'))))
local macro_rules | `(tactic| walk_at "call ref") => `(tactic| (k_here; (with_reducible show wpAny _ _ (call (Value.ref 176) _ _) _ _ _); (first | (refine' off_self ?C ?S ?d ?f ?k ?x ?n ?n2 ?_; (case C => ktr_rel); (case S => assumption); (case d => first | omega | (dsimp only [Ar]; omega)); (case f => first | assumption | exact rfl); (case k => first | assumption | exact rfl); (case x => assumption); (case n => assumption); (case n2 => assumption); k_whole; intro h' tk' C'; obtain ⟨F', N', B', X', T', XB', TB', D', T0'⟩ := C') | (refine' on_list ?C ?S ?d ?f ?k ?x ?n ?n2 ?n3 ?_; (case C => ktr_rel); (case S => assumption); (case d => first | omega | (dsimp only [Ar]; omega)); (case f => first | assumption | exact rfl); (case k => first | assumption | exact rfl); (case x => assumption); (case n => assumption); (case n2 => assumption); (case n3 => assumption); k_whole; intro h' tk' C'; obtain ⟨F', N', B', X', T', XB', TB', D', T0'⟩ := C'))))
local macro_rules | `(tactic| walk_at "call ref") => `(tactic| (k_here; (with_reducible show wpAny _ _ (call (Value.ref 155) _ _) _ _ _); refine' set_next ?C ?P ?S ?d ?f ?k ?x ?_; (case C => ktr_rel); (case P => assumption); (case S => assumption); (case d => first | omega | (dsimp only [Ar]; omega)); (case f => first | assumption | exact rfl); (case k => first | assumption | exact rfl); (case x => assumption); k_whole; intro h' tk' tl' C' S'; have j1' := mI C' S'; have j2' := mD C' S'; obtain ⟨F', N', B', X', T', XB', TB', D', T0'⟩ := C'))
local macro_rules | `(tactic| walk_at "call ref") => `(tactic| (k_here; (with_reducible show wpAny _ _ (call (Value.ref 169) _ _) _ _ _); refine' set_prev ?C ?P ?S ?d ?f ?k ?x ?_; (case C => ktr_rel); (case P => assumption); (case S => assumption); (case d => first | omega | (dsimp only [Ar]; omega)); (case f => first | assumption | exact rfl); (case k => first | assumption | exact rfl); (case x => assumption); k_whole; intro h' tk' tl' C' S'; have j1' := mI C' S'; have j2' := mD C' S'; obtain ⟨F', N', B', X', T', XB', TB', D', T0'⟩ := C'))
local macro_rules | `(tactic| walk_at "compareOp Is ref ref") => `(tactic| (k_here; refine' is_nodes ?N ?S ?x ?y ?ne ?_; (case N => assumption); (case S => assumption); (case x => assumption); (case y => assumption); (case ne => first | assumption | (apply Ne.symm; assumption)); k_whole))
local macro_rules | `(tactic| walk_at "compareOp IsNot ref ref") => `(tactic| (k_here; refine' isNot_nodes ?N ?S ?x ?y ?ne ?_; (case N => assumption); (case S => assumption); (case x => assumption); (case y => assumption); (case ne => first | assumption | (apply Ne.symm; assumption)); k_whole))
local macro_rules | `(tactic| walk_at "call ref") => `(tactic| (k_here; (with_reducible show wpAny _ _ (call (Value.ref 148) _ _) _ _ _); (first | (refine' next_some ?C ?S ?d ?f ?k ?x ?n ?_; (case C => ktr_rel); (case S => assumption); (case d => first | omega | (dsimp only [Ar]; omega)); (case f => first | assumption | exact rfl); (case k => first | assumption | exact rfl); (case x => assumption); (case n => assumption); k_whole; intro h' tk' C'; obtain ⟨F', N', B', X', T', XB', TB', D', T0'⟩ := C'))))
local macro_rules | `(tactic| walk_at "call ref") => `(tactic| (k_here; (with_reducible show wpAny _ _ (call (Value.ref 162) _ _) _ _ _); (first | (refine' prev_some ?C ?S ?d ?f ?k ?x ?n ?_; (case C => ktr_rel); (case S => assumption); (case d => first | omega | (dsimp only [Ar]; omega)); (case f => first | assumption | exact rfl); (case k => first | assumption | exact rfl); (case x => assumption); (case n => assumption); k_whole; intro h' tk' C'; obtain ⟨F', N', B', X', T', XB', TB', D', T0'⟩ := C'))))
local macro_rules | `(tactic| walk_at "call ref") => `(tactic| (k_here; (with_reducible show wpAny _ _ (call (Value.ref 176) _ _) _ _ _); (first | (refine' off_self ?C ?S ?d ?f ?k ?x ?n ?n2 ?_; (case C => ktr_rel); (case S => assumption); (case d => first | omega | (dsimp only [Ar]; omega)); (case f => first | assumption | exact rfl); (case k => first | assumption | exact rfl); (case x => assumption); (case n => assumption); (case n2 => assumption); k_whole; intro h' tk' C'; obtain ⟨F', N', B', X', T', XB', TB', D', T0'⟩ := C') | (refine' on_list ?C ?S ?d ?f ?k ?x ?n ?n2 ?n3 ?_; (case C => ktr_rel); (case S => assumption); (case d => first | omega | (dsimp only [Ar]; omega)); (case f => first | assumption | exact rfl); (case k => first | assumption | exact rfl); (case x => assumption); (case n => assumption); (case n2 => assumption); (case n3 => assumption); k_whole; intro h' tk' C'; obtain ⟨F', N', B', X', T', XB', TB', D', T0'⟩ := C'))))
local macro_rules | `(tactic| walk_at "call ref") => `(tactic| (k_here; (with_reducible show wpAny _ _ (call (Value.ref 155) _ _) _ _ _); refine' set_next ?C ?P ?S ?d ?f ?k ?x ?_; (case C => ktr_rel); (case P => assumption); (case S => assumption); (case d => first | omega | (dsimp only [Ar]; omega)); (case f => first | assumption | exact rfl); (case k => first | assumption | exact rfl); (case x => assumption); k_whole; intro h' tk' tl' C' S'; have j1' := mI C' S'; have j2' := mD C' S'; obtain ⟨F', N', B', X', T', XB', TB', D', T0'⟩ := C'))
local macro_rules | `(tactic| walk_at "call ref") => `(tactic| (k_here; (with_reducible show wpAny _ _ (call (Value.ref 169) _ _) _ _ _); refine' set_prev ?C ?P ?S ?d ?f ?k ?x ?_; (case C => ktr_rel); (case P => assumption); (case S => assumption); (case d => first | omega | (dsimp only [Ar]; omega)); (case f => first | assumption | exact rfl); (case k => first | assumption | exact rfl); (case x => assumption); k_whole; intro h' tk' tl' C' S'; have j1' := mI C' S'; have j2' := mD C' S'; obtain ⟨F', N', B', X', T', XB', TB', D', T0'⟩ := C'))
local macro_rules | `(tactic| walk_at "compareOp Is ref ref") => `(tactic| (k_here; refine' is_nodes ?N ?S ?x ?y ?ne ?_; (case N => assumption); (case S => assumption); (case x => assumption); (case y => assumption); (case ne => first | assumption | (apply Ne.symm; assumption)); k_whole))
local macro_rules | `(tactic| walk_at "compareOp IsNot ref ref") => `(tactic| (k_here; refine' isNot_nodes ?N ?S ?x ?y ?ne ?_; (case N => assumption); (case S => assumption); (case x => assumption); (case y => assumption); (case ne => first | assumption | (apply Ne.symm; assumption)); k_whole))
local macro_rules | `(tactic| walk_at "call ref") => `(tactic| (k_here; (with_reducible show wpAny _ _ (call (Value.ref 91) _ _) _ _ _); (first | (refine' remove_on ?C ?P ?S ?d ?f ?k ?H ?x0 ?x1 ?x2 ?x3 ?x4 ?x5 ?_; (case C => ktr_rel); (case P => assumption); (case S => assumption); (case d => first | omega | (dsimp only [Ar]; omega)); (case f => first | assumption | exact rfl); (case k => first | assumption | exact rfl); (case H => assumption); (case x5 => assumption); (case x4 => assumption); (case x3 => assumption); (case x2 => assumption); (case x1 => assumption); (case x0 => assumption); k_whole; intro h' tk' tl' C' S'; have j1' := mI C' S'; have j2' := mD C' S'; obtain ⟨F', N', B', X', T', XB', TB', D', T0'⟩ := C'))))
local macro_rules | `(tactic| k_get) => `(tactic| assumption)
section
variable {w : World} {A₀ : Around} {base g₀ h₀ : Heap} {outer : List Env} {env : Env} {L : Addr} {m mg mb : Str → Option Value} {mean : ExcName → Option Value}
  {s : Shared} {pre tl : List (Addr × Obj)} {d u : Nat} {gs : Option (List Code)} {Q : Value → Shared → Prop} {E : Value → Shared → Prop}
  {mk dmk x y n p hh : Addr} {ids : List Addr} {da Ca : Addr → Addr} {at_ : Addr → Str → Option Value} {nx pv : Addr → Option Addr} {h : Heap}


theorem pop_none (C : Cx w A₀ base outer mean mg mb g₀ h₀ L s.heap m (pre ++ tl)) (P : Off pre da ids) (S : NS tl mk dmk ids da Ca at_ nx pv) (hd : d + 9 < recursionLimit) (hf : env.frame = some L) (hke : env.scope.kind = .function)
    (H : Hd mk ids Ca at_ hh) (hn : nx hh = some hh)
    (h : ∀ h' tk tl', Cx w A₀ base outer mean mg mb g₀ h₀ L h' m (pre ++ tl') → NS tl' mk dmk ids da Ca at_ nx pv → Q .none { s with heap := h', toks := tk }) :
    wpAny (model PR w) (Ar d u (env :: outer) gs) (call (.ref 98) [.ref hh] []) Q E s := by
  have i1 := mI C S
  have i2 := mD C S
  obtain ⟨es, nn, hl⟩ := hdL C S H
  have l1 := hl.i
  have l2 := hl.d
  have l3 := hl.lt
  have l4 := hl.hd
  have hx := H.mem
  obtain ⟨F, N, B, X, T, XB, TB, D, T0⟩ := C
  ktr_unf
  intro g' L' h' F' N' B' X' T' D'
  have T1 : KtsTurn (frs (env :: outer)) g' g' := KtsTurn.refl
  (try dsimp only); (try k_fold)
  k_steps
  all_goals exact h _ _ _ (by ktr_rel) (by assumption)

theorem pop_some (C : Cx w A₀ base outer mean mg mb g₀ h₀ L s.heap m (pre ++ tl)) (P : Off pre da ids) (S : NS tl mk dmk ids da Ca at_ nx pv) (hd : d + 9 < recursionLimit) (hf : env.frame = some L) (hke : env.scope.kind = .function)
    (H : Hd mk ids Ca at_ hh) (hx : x ∈ ids) (hxh : x ≠ hh) (hnh : nx hh = some x) (hni : n ∈ ids) (hpi : p ∈ ids) (hnx : n ≠ x) (hn : nx x = some n) (hp : pv x = some p)
    (h : ∀ h' tk tl', Cx w A₀ base outer mean mg mb g₀ h₀ L h' m (pre ++ tl') → NS tl' mk dmk ids da Ca at_ (upO (upO nx p n) x x) (upO (upO pv n p) x x) → Q (.ref x) { s with heap := h', toks := tk }) :
    wpAny (model PR w) (Ar d u (env :: outer) gs) (call (.ref 98) [.ref hh] []) Q E s := by
  have i1 := mI C S
  have i2 := mD C S
  obtain ⟨es, nn, hl⟩ := hdL C S H
  have l1 := hl.i
  have l2 := hl.d
  have l3 := hl.lt
  have l4 := hl.hd
  have no0 := hl.no (Str.ofString "remove") (by decide +kernel) (by decide +kernel) (by decide +kernel) (by decide +kernel)
  have hx' := H.mem
  obtain ⟨F, N, B, X, T, XB, TB, D, T0⟩ := C
  ktr_unf
  intro g' L' h' F' N' B' X' T' D'
  have T1 : KtsTurn (frs (env :: outer)) g' g' := KtsTurn.refl
  (try dsimp only); (try k_fold)
  k_steps
  all_goals exact h _ _ _ (by ktr_rel) (by assumption)

end
end MineN
namespace MineN
open Mine
def GenObj (o : Obj) (g : Nat) : Prop := ∃ nm qn, o.cls = .type "generator" ∧ o.data = .fields #[.int g 0, nm, qn] ∧ o.slots = #[]
theorem GenObj.is {h : Heap} {a : Addr} {o : Obj} {g : Nat} (x : GenObj o g) (e : h.get? a = some o) : h.IsGen a g := let ⟨nm, qn, r⟩ := x; ⟨o, nm, qn, e, r⟩
section
variable {prog : Program} {w : World} {A : Around} {s : Shared} {h₀ : Heap} {L : Addr} {m : Str → Option Value} {news : List (Addr × Obj)} {K : Frag} {p : Program} {loose : List Str} {mean : ExcName → Option Value} {mg mb : Str → Option Value}
    {R : Result → Shared → Prop} {name qual : Str} {params : Arguments} {body : List Stmt} {scope : Scope} {dV kV doc pm cdv ct oc : Value} {an od : Option Addr} {osl : Array (Option Value)} {f : Addr} {args : Args} {binds : List (Str × Value)}
/-- a generator function is called: its frame and the generator are new in the ledger -/
theorem codeGen (F : Fr h₀ L s.heap m) (X₀ : K.In h₀) (N : News h₀ L s.heap news) (T : Top p loose mean mg mb h₀)
    (ho : K.lookup f = some ⟨oc, od, .func (fnOf name qual params body scope dV kV doc pm an cdv ct), osl⟩) (hcd : codeIn K cdv qual = true) (hroom : A.depth < recursionLimit)
    (hbind : BindsTo s (fnOf name qual params body scope dV kV doc pm an cdv ct) args binds) (hloc : ∀ y ∈ binds, scope.names.lookup y.1 = some .local)
    (h : ∀ h₁ tk Lg og oG, Fr h₀ L h₁ m → News h₀ L h₁ ((Lg + 1, oG) :: (Lg, og) :: news) → LCg.NsObj og (fun y => binds.reverse.lookup y) → GenObj oG s.gens.size → (∀ q ∈ news, @LT.lt Nat _ q.1 Lg) → @LT.lt Nat _ L Lg → h₀.objs.size ≤ Lg →
      R (.ok (.ret (.ref (Lg + 1)))) { s with heap := h₁, toks := tk, gens := s.gens.push (.fresh (.func body (envOf qual scope Lg f cdv))) })
    (hco : scope.isCoroutine = false) (hgen : scope.isGenerator = true) (hk : scope.kind = .function)
    (hcell : ∀ x ∈ scope.names, x.2 ≠ .cell) : codeAny (model prog w) A (.call (.ref f) args) R s := by
  have X := X₀.keeps F.keep
  refine codeAny_call_generator (fd := fnOf name qual params body scope dV kV doc pm an cdv ct) (body := body) hroom (X _ _ ho) rfl hco hgen rfl (codeRec_of X hcd) (hbind _ _ _ _ ?_)
  refine wpAny_newFunctionEnv hcell hloc (fun h₁ hns hsb => ⟨(T.nolimit.keeps F.keep).fresh _ hsb, ?_⟩) hk
  have up : ∀ b o, s.heap.get? b = some o → h₁.get? b = some o := fun b o e => hsb.extBut b o (Nat.ne_of_lt (Heap.lt_size e)) (Heap.get?_push_of_some _ e)
  have e1 : h₁.objs.size = s.heap.objs.size + 1 := by rw [hsb.1, Heap.size_push]
  obtain ⟨og, eg, hog⟩ := LCg.ns_obj hns
  have fresh₀ : ∀ a, s.heap.objs.size ≤ a → h₀.get? a = none := fun a ha => by
    cases e : h₀.get? a with
    | none => rfl
    | some o' => exact absurd (Heap.lt_size (F.keep a o' e)) (Nat.not_lt.mpr ha)
  have hL : @LT.lt Nat _ L s.heap.objs.size := F.ns.lt
  dsimp only
  rw [e1]
  refine h _ _ _ og { cls := .type "generator", data := .fields #[.int s.gens.size 0, .str name (s.toks + binds.length), .str qual (s.toks + binds.length + 1)] } ((F.keeps up).push _) ?_ hog ⟨_, _, rfl, rfl, rfl⟩ (fun q hq => Heap.lt_size (N q hq).1) hL (Nat.le_of_lt (Nat.lt_of_le_of_lt F.above hL))
  refine fun q hq => (List.mem_cons.mp hq).elim (fun e => ?_) fun hq => ?_
  · subst e
    refine ⟨?_, ?_, fresh₀ _ (Nat.le_succ _)⟩
    · show (h₁.push _).get? (s.heap.objs.size + 1) = some _
      rw [← e1]
      exact Heap.get?_push_size _ rfl
    · exact Nat.ne_of_gt (Nat.lt_succ_of_lt hL)
  · rcases List.mem_cons.mp hq with rfl | hq
    · exact ⟨Heap.get?_push_of_some _ eg, Nat.ne_of_gt hL, fresh₀ _ (Nat.le_refl _)⟩
    · exact ⟨Heap.get?_push_of_some _ (up _ _ (N q hq).1), (N q hq).2⟩
end
end MineN
namespace MineN
theorem rstG2 : True := by
  w_top off
  trivial
open Mine
theorem fillG2 : PySem.Challenge.rw_fc0145_01.Holds → (∀ w : World, (hd.heap_39 w.params).In default) → True := by
  k_fill
  intros
  trivial
def clsBody : Stmt → List Stmt
  | .ClassDef _ _ _ b _ _ _ _ _ _ _ => b
  | _ => []
def defBody : Stmt → List Stmt
  | .FunctionDef _ _ b _ _ _ _ _ _ _ => b
  | _ => []
def defScope : Stmt → Scope
  | .FunctionDef _ _ _ _ _ _ sc _ _ _ => sc
  | _ => default
structure StopN (P : Prop) : Prop where
  it : P
theorem stopN {P : Prop} (h : StopN P) : P := h.it
local macro_rules | `(tactic| k_steps) => `(tactic| repeat' (first | (k_unfold; (try dsimp only)) | walk1 | (dsimp only; walk1) | fail "no step"))
local macro_rules | `(tactic| ktr_unf) => `(tactic| (refine wpAny_call ?_; refine' codeS ?B ?F ?X ?N ?T ?XB ?TB ?D ?T0 ?kA ?hf ?hke ?k6 ?k7 ?k8 ?k9 ?kB ?_ ?c2 ?c3 ?c4 ?c5; (case F => assumption); (case N => assumption); (case B => assumption); (case X => assumption); (case T => assumption); (case XB => assumption); (case TB => assumption); (case D => assumption); (case T0 => assumption); (case kA => exact rfl); (case hf => first | assumption | exact rfl); (case hke => first | assumption | exact rfl); (case k6 => k_is); (case k7 => k_is); (case k8 => (show _ < recursionLimit; first | omega | (dsimp only [Ar]; omega))); (case k9 => exact BindsTo.of_eq rfl); (case kB => exact locs rfl); (case c2 => exact rfl); (case c3 => exact rfl); (case c4 => exact rfl); (case c5 => decide); k_whole))
local macro_rules | `(tactic| ktr_rel) => `(tactic| exact ⟨by assumption, by assumption, by assumption, by assumption, by assumption, by assumption, by assumption, by assumption, by assumption⟩)
local macro_rules | `(tactic| k_mem) => `(tactic| assumption)
local macro_rules | `(tactic| k_get) => `(tactic| assumption)
local macro_rules | `(tactic| walk_at "call ref") => `(tactic| (refine stopN ?_))
section
variable {w : World} {A₀ : Around} {base g₀ h₀ : Heap} {outer : List Env} {env : Env} {L : Addr} {m mg mb : Str → Option Value} {mean : ExcName → Option Value}
  {s : Shared} {pre tl : List (Addr × Obj)} {d u : Nat} {gs : Option (List Code)} {Q : Value → Shared → Prop} {E : Value → Shared → Prop}
  {mk dmk x y n p hh : Addr} {ids : List Addr} {da Ca : Addr → Addr} {at_ : Addr → Str → Option Value} {nx pv : Addr → Option Addr} {h : Heap}



noncomputable def genDef : Stmt := (clsBody ((clsBody (PySem.Challenge.pw_fc0145_01.main.body[2]!))[0]!))[9]!
noncomputable abbrev genEnv (Lg : Addr) : Env := envOf (Str.ofString "CircularListType.List.generator") (defScope genDef) Lg 105 (.ref 104)
noncomputable abbrev genFresh (Lg : Addr) : GenState := .fresh (.func (defBody genDef) (genEnv Lg))
/-- iteration over a list begins: a generator, not yet begun -/
theorem iter_spec (C : Cx w A₀ base outer mean mg mb g₀ h₀ L s.heap m (pre ++ tl)) (S : NS tl mk dmk ids da Ca at_ nx pv) (hd : d + 8 < recursionLimit) (hf : env.frame = some L) (hke : env.scope.kind = .function)
    (H : Hd mk ids Ca at_ hh)
    (h : ∀ h' tk Lg og oG, Cx w A₀ base outer mean mg mb g₀ h₀ L h' m ((Lg + 1, oG) :: (Lg, og) :: (pre ++ tl)) → LCg.NsObj og (fun y => if y = Str.ofString "self" then some (.ref hh) else none) → GenObj oG s.gens.size → (∀ q ∈ pre ++ tl, @LT.lt Nat _ q.1 Lg) → @LT.lt Nat _ L Lg → h₀.objs.size ≤ Lg →
      Q (.ref (Lg + 1)) { s with heap := h', toks := tk, gens := s.gens.push (genFresh Lg) }) :
    wpAny (model PR w) (Ar d u (env :: outer) gs) (call (.ref 84) [.ref hh] []) Q E s := by
  have i1 := mI C S
  have i2 := mD C S
  obtain ⟨es, nn, hl⟩ := hdL C S H
  have l1 := hl.i
  have l2 := hl.d
  have l5 := hl.no (Str.ofString "generator") (by decide +kernel) (by decide +kernel) (by decide +kernel) (by decide +kernel)
  have hx := H.mem
  obtain ⟨F, N, B, X, T, XB, TB, D, T0⟩ := C
  ktr_unf
  intro g' L' h' F' N' B' X' T' D'
  have T1 : KtsTurn (frs (env :: outer)) g' g' := KtsTurn.refl
  (try dsimp only); (try k_fold)
  k_steps
  refine ⟨?_⟩
  refine wpAny_call ?_
  refine' codeGen F' X' N' T' ?k6 ?k7 ?k8 ?k9 ?kB ?_ ?c2 ?c3 ?c4 ?c5
  case k6 => k_is
  case k7 => k_is
  case k8 => first | omega | (show d + 1 < recursionLimit; omega) | (show d + 1 + 1 < recursionLimit; omega)
  case k9 => exact BindsTo.of_eq rfl
  case kB => exact locs rfl
  case c2 => exact rfl
  case c3 => exact rfl
  case c4 => exact rfl
  case c5 => decide
  intro h₁ tk Lg og oG F1 N1 hog hoG hlt hLL hle
  k_steps
  rename_i kF kN _ _
  have hLL2 : @LT.lt Nat _ L Lg := by
    obtain ⟨_, o, ho, _⟩ := B'.frames.mem (b := L) (List.mem_filterMap.mpr ⟨env, .head _, hf⟩)
    have a1 := Heap.lt_size ho
    have a2 := F'.above
    exact Nat.lt_of_lt_of_le a1 hle
  have hog2 : LCg.NsObj og (fun y => List.lookup y [(Str.ofString "self", .ref hh)]) := hog
  have e : (fun y => List.lookup y [(Str.ofString "self", Value.ref hh)]) = fun y => if y = Str.ofString "self" then some (Value.ref hh) else none := by
    funext y
    by_cases hy : y = Str.ofString "self"
    · subst hy; rw [if_pos rfl]; simp [List.lookup]
    · rw [if_neg hy]
      have : (y == Str.ofString "self") = false := beq_eq_false_iff_ne.mpr hy
      simp [List.lookup, this]
  rw [e] at hog2
  exact h _ _ Lg og oG ⟨kF, kN, B, X, T, XB, TB, D, T0⟩ hog2 hoG hlt hLL2 (Nat.le_of_lt (Nat.lt_of_le_of_lt F.above hLL2))
end
end MineN
namespace MineN
open Mine
/-- the heap cut off at an address -/
def cutAt (h : Heap) (k : Nat) : Heap := { h with objs := h.objs.extract 0 k }
theorem cut_size (h : Heap) (k : Nat) : (cutAt h k).objs.size ≤ k := by
  unfold cutAt
  simp only [Array.size_extract]
  omega
theorem cut_lt {h : Heap} {k b : Nat} (hb : b < k) : (cutAt h k).get? b = h.get? b := by
  unfold Heap.get? cutAt
  have : (h.objs.extract 0 k)[b]? = h.objs[b]? := by
    rw [Array.getElem?_extract]
    by_cases h1 : b < min k h.objs.size - 0
    · rw [if_pos h1, Nat.zero_add]
    · rw [if_neg h1]
      symm
      rw [Array.getElem?_eq_none_iff]
      omega
  simp only [this]
theorem cut_of {h : Heap} {k b : Nat} {o : Obj} (e : (cutAt h k).get? b = some o) : b < k ∧ h.get? b = some o := by
  have h1 : b < k := Nat.lt_of_lt_of_le (Heap.lt_size e) (cut_size h k)
  exact ⟨h1, (cut_lt h1).symm.trans e⟩
theorem cut_none {h : Heap} {k b : Nat} (hb : k ≤ b) : (cutAt h k).get? b = none := by
  cases e : (cutAt h k).get? b with
  | none => rfl
  | some o => exact absurd (cut_of e).1 (Nat.not_lt.mpr hb)

theorem funFrames_up {h h' base : Heap} (k : ∀ b o, h.get? b = some o → h'.get? b = some o) : ∀ {l : List Env}, h.FunFrames base l → h'.FunFrames base l
  | [], _ => trivial
  | _ :: _, ⟨a, ⟨L, o, e1, e2, e3, e4⟩, r⟩ => ⟨a, ⟨L, o, e1, e2, k _ _ e3, e4⟩, funFrames_up k r⟩

/-- all that stands above an address -/
def aboveAll (h : Heap) (k : Nat) : List (Addr × Obj) := (List.range h.objs.size).filterMap fun b => if k < b then (h.get? b).map fun o => (b, o) else none
theorem mem_above {h : Heap} {k b : Nat} {o : Obj} : (b, o) ∈ aboveAll h k ↔ k < b ∧ h.get? b = some o := by
  unfold aboveAll
  rw [List.mem_filterMap]
  constructor
  · rintro ⟨c, _, e⟩
    split at e
    · rename_i hc
      cases e2 : h.get? c with
      | none => rw [e2] at e; cases e
      | some o' =>
        rw [e2] at e
        simp only [Option.map_some, Option.some.injEq, Prod.mk.injEq] at e
        obtain ⟨rfl, rfl⟩ := e
        exact ⟨hc, e2⟩
    · cases e
  · rintro ⟨h1, h2⟩
    exact ⟨b, List.mem_range.mpr (Heap.lt_size h2), by rw [if_pos h1, h2]; rfl⟩
section
variable {w : World} {A₀ A : Around} {base h₀ h : Heap} {outer : List Env} {env : Env} {L Lg : Addr} {m mg' mg mb : Str → Option Value} {mean : ExcName → Option Value} {news : List (Addr × Obj)} {og : Obj} {K : Frag} {p : Program} {loose : List Str}
/-- the ground on which a generator of the ledger runs -/
theorem groundG (B : Below A₀ base outer h₀) (F : Fr h₀ L h m) (N : News h₀ L h ((Lg, og) :: news)) (hog : LCg.NsObj og mg') (hA : A.frames = some (env :: outer)) (hf : env.frame = some L) (hke : env.scope.kind = .function)
    (hle : h₀.objs.size ≤ Lg) (hL : @LT.lt Nat _ L Lg) (X₀ : K.In h₀) (T : Top p loose mean mg mb h₀) (D : KtsDicts (outer.filterMap (·.frame)) h₀) (hoff : ∀ q ∈ news, q.1 ≠ Lg) :
    ∃ g, Fr g Lg h mg' ∧ News g Lg h (aboveAll h Lg ++ news) ∧ Below A base (env :: outer) g ∧ K.In g ∧ Top p loose mean mg mb g ∧ KtsDicts ((env :: outer).filterMap (·.frame)) g ∧
      ∀ b o, h.get? b = some o → b ≠ Lg → g.get? b = some o ∨ (b, o) ∈ aboveAll h Lg ++ news := by
  have hgo : h.get? Lg = some og := (N _ (.head _)).1
  have eg : ∀ b o, h.get? b = some o → b ∉ news.map (·.1) → @LT.lt Nat _ b Lg → (cutAt (hideAll h (news.map (·.1))) Lg).get? b = some o := fun b o e hn hb => by
    rw [cut_lt hb]
    exact hideAll_get _ e hn
  have st : ∀ b o, h₀.get? b = some o → (cutAt (hideAll h (news.map (·.1))) Lg).get? b = some o := fun b o e => by
    refine eg b o (F.keep b o e) (fun hm => ?_) (Nat.lt_of_lt_of_le (Heap.lt_size e) hle)
    obtain ⟨q, hq, rfl⟩ := List.mem_map.mp hm
    have := (N q (.tail _ hq)).2.2
    rw [e] at this; cases this
  obtain ⟨oL, es, ep, hLg, hLd, hLk, hLf⟩ := F.ns
  have hLn : L ∉ news.map (·.1) := fun hm => by
    obtain ⟨q, hq, e⟩ := List.mem_map.mp hm
    exact (N q (.tail _ hq)).2.1 e
  have gL := eg L oL hLg hLn hL
  have bL : base.get? L = none := by
    cases e : base.get? L with
    | none => rfl
    | some o => exact absurd (Heap.lt_size (B.stays _ _ e)) (Nat.not_lt.mpr F.above)
  refine ⟨cutAt (hideAll h (news.map (·.1))) Lg, ⟨hog.ns hgo, fun b o e => of_hideAll _ (cut_of e).2, cut_size _ _⟩, fun q hq => ?_, ⟨hA, fun b o e => st b o (B.stays b o e), ⟨by rw [hke]; decide, ⟨L, oL, hf, bL, gL, fun vs hv => by rw [hLd] at hv; cases hv⟩, funFrames_up st B.frames⟩⟩, X₀.keeps st, T.keeps st, fun b hb => ?_, fun b o e hne => ?_⟩
  · rcases List.mem_append.mp hq with hq | hq
    · obtain ⟨b, o⟩ := q
      obtain ⟨h1, h2⟩ := mem_above.mp hq
      exact ⟨h2, Nat.ne_of_gt h1, cut_none (Nat.le_of_lt h1)⟩
    · refine ⟨(N q (.tail _ hq)).1, hoff q hq, ?_⟩
      cases e : (cutAt (hideAll h (news.map (·.1))) Lg).get? q.1 with
      | none => rfl
      | some o =>
        have := (cut_of e).2
        rw [hideAll_none _ (List.mem_map_of_mem hq)] at this
        cases this
  · rcases mem_frames hf hb with rfl | hb
    · exact ⟨oL, es, ep, gL, hLd⟩
    · obtain ⟨o, es', n', ho', hd'⟩ := D b hb
      exact ⟨o, es', n', st b o ho', hd'⟩
  · by_cases hm : b ∈ news.map (·.1)
    · obtain ⟨q, hq, rfl⟩ := List.mem_map.mp hm
      have := (N q (.tail _ hq)).1
      rw [e] at this
      obtain rfl := Option.some.inj this
      exact .inr (List.mem_append_right _ hq)
    · rcases Nat.lt_trichotomy b Lg with h1 | h1 | h1
      · exact .inl (eg b o e hm h1)
      · exact absurd h1 hne
      · exact .inr (List.mem_append_left _ (mem_above.mpr ⟨h1, e⟩))
end
end MineN
namespace MineN
theorem rstG4 : True := by
  w_top off
  trivial
open Mine
theorem fillG4 : PySem.Challenge.rw_fc0145_01.Holds → (∀ w : World, (hd.heap_39 w.params).In default) → True := by
  k_fill
  intros
  trivial
local macro_rules | `(tactic| k_steps) => `(tactic| repeat' (first | (k_unfold; (try dsimp only)) | walk1 | (dsimp only; walk1) | fail "no step"))
local macro_rules | `(tactic| ktr_rel) => `(tactic| exact ⟨by assumption, by assumption, by assumption, by assumption, by assumption, by assumption, by assumption, by assumption, by assumption⟩)
local macro_rules | `(tactic| k_mem) => `(tactic| assumption)
local macro_rules | `(tactic| walk_at "call ref") => `(tactic| (k_here; (with_reducible show wpAny _ _ (call (Value.ref 148) _ _) _ _ _); (first | (refine' next_some ?C ?S ?d ?f ?k ?x ?n ?_; (case C => ktr_rel); (case S => assumption); (case d => first | omega | (dsimp only [Ar]; omega)); (case f => first | assumption | exact rfl); (case k => first | assumption | exact rfl); (case x => assumption); (case n => assumption); k_whole; intro h' tk' C'; obtain ⟨F', N', B', X', T', XB', TB', D', T0'⟩ := C'))))
local macro_rules | `(tactic| walk_at "compareOp IsNot ref ref") => `(tactic| (k_here; refine' isNot_nodes ?N ?S ?x ?y ?ne ?_; (case N => assumption); (case S => assumption); (case x => assumption); (case y => assumption); (case ne => first | assumption | (apply Ne.symm; assumption)); k_whole))
local macro_rules | `(tactic| k_get) => `(tactic| assumption)
def kn : List (Str × Value) → (Str → Option Value) → Str → Option Value
  | [], m => m
  | (k, v) :: r, m => fun y => if y = k then some v else kn r m y
theorem kn_eq {m : Str → Option Value} : ∀ kvs : List (Str × Value), (∀ p ∈ kvs, m p.1 = some p.2) → kn kvs m = m
  | [], _ => rfl
  | (k, v) :: r, e => by
    have ih := kn_eq r fun p hp => e p (.tail _ hp)
    funext y
    show (if y = k then some v else kn r m y) = m y
    rw [ih]
    by_cases h : y = k
    · subst h; rw [if_pos rfl]; exact (e _ (.head _)).symm
    · rw [if_neg h]
theorem fr_kn {h₀ h : Heap} {L : Addr} {m : Str → Option Value} (F : Fr h₀ L h m) (kvs : List (Str × Value)) (e : ∀ p ∈ kvs, m p.1 = some p.2) : Fr h₀ L h (kn kvs m) := by rw [kn_eq kvs e]; exact F
theorem all1 {P : Str × Value → Prop} {a : Str × Value} (h : P a) : ∀ p ∈ [a], P p := fun p hp => by rcases List.mem_singleton.mp hp with rfl; exact h
theorem allC {P : Str × Value → Prop} {a : Str × Value} {l : List (Str × Value)} (h : P a) (r : ∀ p ∈ l, P p) : ∀ p ∈ a :: l, P p := fun p hp => by rcases List.mem_cons.mp hp with rfl | hp; exact h; exact r p hp

def gs_ (l : List Stmt) (i : Nat) : Stmt := l[i]!
noncomputable abbrev gst (i : Nat) : Stmt := gs_ (defBody genDef) i
def whBody : Stmt → List Stmt
  | .While _ b _ _ => b
  | _ => []
def whTest : Stmt → PySem.Expr
  | .While t _ _ _ => t
  | _ => default
section
variable {w : World} {A₀ : Around} {base g₀ h₀ : Heap} {outer : List Env} {env : Env} {L : Addr} {m mg mb : Str → Option Value} {mean : ExcName → Option Value}
  {s : Shared} {pre tl : List (Addr × Obj)} {d u : Nat} {gs : Option (List Code)} {Q : Value → Shared → Prop} {E : Value → Shared → Prop}
  {mk dmk x y n p hh : Addr} {ids : List Addr} {da Ca : Addr → Addr} {at_ : Addr → Str → Option Value} {nx pv : Addr → Option Addr} {h : Heap}



variable {Lg : Addr} {mgl : Str → Option Value} {R : Flow → Shared → Prop}
theorem gp0 (C : Cx w A₀ base outer mean mg mb g₀ h₀ Lg s.heap mgl (pre ++ tl)) (S : NS tl mk dmk ids da Ca at_ nx pv) (H : Hd mk ids Ca at_ hh) (hd : d + 8 < recursionLimit)
    (hs : mgl (Str.ofString "self") = some (.ref hh)) (hn : nx hh = some y)
    (h : ∀ h' tk, Cx w A₀ base outer mean mg mb g₀ h₀ Lg h' (fun z => if z = Str.ofString "node" then some (.ref y) else mgl z) (pre ++ tl) → R .next { s with heap := h', toks := tk }) :
    wpAny (model PR w) (Ar d u (genEnv Lg :: outer) gs) (exec (gst 0) (genEnv Lg)) R E s := by
  conv => pattern (gst 0); whnf
  unfold genEnv
  conv => pattern (occs := *) (defScope genDef); all_goals whnf
  have i1 := mI C S
  have i2 := mD C S
  obtain ⟨es, nn, hl⟩ := hdL C S H
  have l1 := hl.i
  have l2 := hl.d
  have l3 := hl.lt
  have l4 := hl.hd
  have hx := H.mem
  obtain ⟨F, N, B, X, T, XB, TB, D, T0⟩ := C
  have e := kn_eq [(Str.ofString "self", .ref hh)] (all1 (P := fun p => mgl p.1 = some p.2) hs)
  rw [← e] at F
  dsimp only [kn] at F
  k_steps
  rename_i F2 N2
  refine h _ _ ⟨?_, N2, by assumption, by assumption, by assumption, by assumption, by assumption, by assumption, by assumption⟩
  rw [← e]
  exact F2
theorem gp1 (C : Cx w A₀ base outer mean mg mb g₀ h₀ Lg s.heap mgl (pre ++ tl)) (S : NS tl mk dmk ids da Ca at_ nx pv) (H : Hd mk ids Ca at_ hh) (hd : d + 8 < recursionLimit)
    (hs : mgl (Str.ofString "self") = some (.ref hh)) (hv : mgl (Str.ofString "node") = some (.ref x)) (hx : x ∈ ids) (hn : nx x = some y)
    (h : ∀ h' tk, Cx w A₀ base outer mean mg mb g₀ h₀ Lg h' (fun z => if z = Str.ofString "next" then some (.ref y) else mgl z) (pre ++ tl) → R .next { s with heap := h', toks := tk }) :
    wpAny (model PR w) (Ar d u (genEnv Lg :: outer) gs) (exec (gst 1) (genEnv Lg)) R E s := by
  conv => pattern (gst 1); whnf
  unfold genEnv
  conv => pattern (occs := *) (defScope genDef); all_goals whnf
  have i1 := mI C S
  have i2 := mD C S
  obtain ⟨es, nn, hl⟩ := hdL C S H
  have l1 := hl.i
  have l2 := hl.d
  have l3 := hl.lt
  have l4 := hl.hd
  obtain ⟨F, N, B, X, T, XB, TB, D, T0⟩ := C
  have e := kn_eq [(Str.ofString "self", .ref hh), (Str.ofString "node", .ref x)] (allC (P := fun p => mgl p.1 = some p.2) hs (all1 (P := fun p => mgl p.1 = some p.2) hv))
  rw [← e] at F
  dsimp only [kn] at F
  k_steps
  rename_i F2 N2
  refine h _ _ ⟨?_, N2, by assumption, by assumption, by assumption, by assumption, by assumption, by assumption, by assumption⟩
  rw [← e]
  exact F2
noncomputable abbrev gwh : Stmt := gst 2
theorem gpT (C : Cx w A₀ base outer mean mg mb g₀ h₀ Lg s.heap mgl (pre ++ tl)) (S : NS tl mk dmk ids da Ca at_ nx pv) (H : Hd mk ids Ca at_ hh) (hd : d + 8 < recursionLimit) {R : Bool → Shared → Prop}
    (hs : mgl (Str.ofString "self") = some (.ref hh)) (hv : mgl (Str.ofString "node") = some (.ref x)) (hx : x ∈ ids)
    (h1 : x = hh → ∀ h' tk, Cx w A₀ base outer mean mg mb g₀ h₀ Lg h' mgl (pre ++ tl) → R false { s with heap := h', toks := tk })
    (h2 : x ≠ hh → ∀ h' tk, Cx w A₀ base outer mean mg mb g₀ h₀ Lg h' mgl (pre ++ tl) → R true { s with heap := h', toks := tk }) :
    wpAny (model PR w) (Ar d u (genEnv Lg :: outer) gs) (isTrue (whTest gwh) (genEnv Lg) (eval (whTest gwh) (genEnv Lg))) R E s := by
  conv => pattern (occs := *) (whTest gwh); all_goals whnf
  unfold genEnv
  conv => pattern (occs := *) (defScope genDef); all_goals whnf
  have i1 := mI C S
  have i2 := mD C S
  obtain ⟨es, nn, hl⟩ := hdL C S H
  have l1 := hl.i
  have l2 := hl.d
  have l3 := hl.lt
  have l4 := hl.hd
  have hx' := H.mem
  have C0 := C
  obtain ⟨F, N, B, X, T, XB, TB, D, T0⟩ := C
  have e := kn_eq [(Str.ofString "self", .ref hh), (Str.ofString "node", .ref x)] (allC (P := fun p => mgl p.1 = some p.2) hs (all1 (P := fun p => mgl p.1 = some p.2) hv))
  rw [← e] at F
  dsimp only [kn] at F
  by_cases hxe : x = hh
  · have h1' := h1 hxe
    subst hxe
    clear h1 h2
    k_steps
    exact h1' _ _ C0
  · have h2' := h2 hxe
    clear h1 h2
    k_steps
    exact h2' _ _ C0
noncomputable abbrev wb (i : Nat) : Stmt := gs_ (whBody gwh) i
def yExpr : Stmt → PySem.Expr
  | .Expr (.Yield (some e) _) _ => e
  | _ => default
def yPos : Stmt → Pos
  | .Expr (.Yield (some _) p) _ => p
  | _ => default
def ePos : Stmt → Pos
  | .Expr _ p => p
  | _ => default
def wPos : Stmt → Pos
  | .While _ _ _ p => p
  | _ => default
theorem gpY (C : Cx w A₀ base outer mean mg mb g₀ h₀ Lg s.heap mgl (pre ++ tl)) (hv : mgl (Str.ofString "node") = some (.ref x))
    (h : Q (.ref x) s) :
    wpAny (model PR w) (Ar d u (genEnv Lg :: outer) gs) (eval (yExpr (wb 0)) (genEnv Lg)) Q E s := by
  conv => pattern (yExpr (wb 0)); whnf
  unfold genEnv
  conv => pattern (occs := *) (defScope genDef); all_goals whnf
  obtain ⟨F, N, B, X, T, XB, TB, D, T0⟩ := C
  have e := kn_eq [(Str.ofString "node", .ref x)] (all1 (P := fun p => mgl p.1 = some p.2) hv)
  rw [← e] at F
  dsimp only [kn] at F
  k_steps
  exact h
theorem gp4 (C : Cx w A₀ base outer mean mg mb g₀ h₀ Lg s.heap mgl (pre ++ tl)) (hv : mgl (Str.ofString "next") = some (.ref y))
    (h : ∀ h' tk, Cx w A₀ base outer mean mg mb g₀ h₀ Lg h' (fun z => if z = Str.ofString "node" then some (.ref y) else mgl z) (pre ++ tl) → R .next { s with heap := h', toks := tk }) :
    wpAny (model PR w) (Ar d u (genEnv Lg :: outer) gs) (exec (wb 1) (genEnv Lg)) R E s := by
  conv => pattern (wb 1); whnf
  unfold genEnv
  conv => pattern (occs := *) (defScope genDef); all_goals whnf
  obtain ⟨F, N, B, X, T, XB, TB, D, T0⟩ := C
  have e := kn_eq [(Str.ofString "next", .ref y)] (all1 (P := fun p => mgl p.1 = some p.2) hv)
  rw [← e] at F
  dsimp only [kn] at F
  k_steps
  rename_i F2 N2
  refine h _ _ ⟨?_, N2, by assumption, by assumption, by assumption, by assumption, by assumption, by assumption, by assumption⟩
  rw [← e]
  exact F2
theorem gp5 (C : Cx w A₀ base outer mean mg mb g₀ h₀ Lg s.heap mgl (pre ++ tl)) (S : NS tl mk dmk ids da Ca at_ nx pv) (H : Hd mk ids Ca at_ hh) (hd : d + 8 < recursionLimit)
    (hs : mgl (Str.ofString "self") = some (.ref hh)) (hv : mgl (Str.ofString "node") = some (.ref x)) (hx : x ∈ ids) (hn : nx x = some y)
    (h : ∀ h' tk, Cx w A₀ base outer mean mg mb g₀ h₀ Lg h' (fun z => if z = Str.ofString "next" then some (.ref y) else mgl z) (pre ++ tl) → R .next { s with heap := h', toks := tk }) :
    wpAny (model PR w) (Ar d u (genEnv Lg :: outer) gs) (exec (wb 2) (genEnv Lg)) R E s := by
  conv => pattern (wb 2); whnf
  unfold genEnv
  conv => pattern (occs := *) (defScope genDef); all_goals whnf
  have i1 := mI C S
  have i2 := mD C S
  obtain ⟨es, nn, hl⟩ := hdL C S H
  have l1 := hl.i
  have l2 := hl.d
  have l3 := hl.lt
  have l4 := hl.hd
  obtain ⟨F, N, B, X, T, XB, TB, D, T0⟩ := C
  have e := kn_eq [(Str.ofString "self", .ref hh), (Str.ofString "node", .ref x)] (allC (P := fun p => mgl p.1 = some p.2) hs (all1 (P := fun p => mgl p.1 = some p.2) hv))
  rw [← e] at F
  dsimp only [kn] at F
  k_steps
  rename_i F2 N2
  refine h _ _ ⟨?_, N2, by assumption, by assumption, by assumption, by assumption, by assumption, by assumption, by assumption⟩
  rw [← e]
  exact F2
theorem gen_body : defBody genDef = [gst 0, gst 1, .While (whTest gwh) [.Expr (.Yield (some (yExpr (wb 0))) (yPos (wb 0))) (ePos (wb 0)), wb 1, wb 2] [] (wPos gwh)] := by kernel_rfl
end
end MineN
namespace MineN
open Mine
def LinkN (h : Heap) (x y : Addr) : Prop := ∃ C d es n, h.get? x = some (instObj C d) ∧ h.get? d = some (dictOf es n) ∧ getL nN es = some (some (.ref y))
theorem LinkN.det {h : Heap} {x y y' : Addr} (a : LinkN h x y) (b : LinkN h x y') : y = y' := by
  obtain ⟨C, d, es, n, a1, a2, a3⟩ := a
  obtain ⟨C', d', es', n', b1, b2, b3⟩ := b
  rw [a1] at b1
  have e1 := Option.some.inj b1
  have e2 : d = d' := by injection e1 with _ e; injection e
  subst e2
  rw [a2] at b2
  have e3 := Option.some.inj b2
  have e4 : es = es' := by
    have := congrArg Obj.data e3
    injection this with e _
    simpa using e
  subst e4
  rw [a3] at b3
  injection b3 with e5
  injection e5 with e6
  injection e6
/-- the generator's names once it has yielded -/
def gl (hh x y : Addr) : Str → Option Value := fun z => if z = Str.ofString "next" then some (.ref y) else if z = Str.ofString "node" then some (.ref x) else if z = Str.ofString "self" then some (.ref hh) else none
def g1 (hh : Addr) : Str → Option Value := fun z => if z = Str.ofString "self" then some (.ref hh) else none
theorem gl_next {hh x y : Addr} : gl hh x y (Str.ofString "next") = some (.ref y) := if_pos rfl
theorem gl_node {hh x y : Addr} : gl hh x y (Str.ofString "node") = some (.ref x) := by unfold gl; rw [if_neg (by decide +kernel), if_pos rfl]
theorem gl_self {hh x y : Addr} : gl hh x y (Str.ofString "self") = some (.ref hh) := by unfold gl; rw [if_neg (by decide +kernel), if_neg (by decide +kernel), if_pos rfl]
theorem gl_step {hh x y z : Addr} : (fun k => if k = Str.ofString "next" then some (Value.ref z) else if k = Str.ofString "node" then some (.ref y) else gl hh x y k) = gl hh y z := by
  funext k
  unfold gl
  by_cases h1 : k = Str.ofString "next"
  · simp only [h1, if_true]
  · by_cases h2 : k = Str.ofString "node"
    · simp only [h2, if_true]
    · simp only [if_neg h1, if_neg h2]
theorem gl_first {hh y z : Addr} : (fun k => if k = Str.ofString "next" then some (Value.ref z) else if k = Str.ofString "node" then some (.ref y) else g1 hh k) = gl hh y z := rfl
def Full (g : Heap) (Lg : Addr) (h : Heap) (news : List (Addr × Obj)) : Prop := ∀ b o, h.get? b = some o → b ≠ Lg → g.get? b = some o ∨ (b, o) ∈ news
def KeepB (Lg : Addr) (h h' : Heap) : Prop := ∀ b o, b ≠ Lg → h.get? b = some o → h'.get? b = some o
theorem Full.keep {g h h' : Heap} {Lg : Addr} {m : Str → Option Value} {news : List (Addr × Obj)} (H : Full g Lg h news) (F : Fr g Lg h' m) (N : News g Lg h' news) : KeepB Lg h h' := fun b o hb e => by
  rcases H b o e hb with h1 | h1
  · exact F.keep b o h1
  · exact (N _ h1).1
section
variable {w : World} {A₀ : Around} {base g₀ h₀ g : Heap} {outer : List Env} {env : Env} {L : Addr} {m mg mb mgl : Str → Option Value} {mean : ExcName → Option Value}
  {s s₀ : Shared} {pre tl : List (Addr × Obj)} {d u : Nat} {gs : Option (List Code)} {Q : Value → Shared → Prop} {E : Value → Shared → Prop}
  {mk dmk x y n p hh Lg : Addr} {ids : List Addr} {da Ca : Addr → Addr} {at_ : Addr → Str → Option Value} {nx pv : Addr → Option Addr} {h : Heap}
theorem link_of (N : News h₀ L h (pre ++ tl)) (S : NS tl mk dmk ids da Ca at_ nx pv) (hx : x ∈ ids) (hn : nx x = some y) : LinkN h x y := by
  obtain ⟨es, k, h1, h2⟩ := S.dict x hx
  refine ⟨_, _, es, k, (N _ (List.mem_append_right _ (S.inst x hx))).1, (N _ (List.mem_append_right _ h1)).1, ?_⟩
  rw [h2.get]; unfold fAt; rw [if_pos rfl, hn]; rfl
/-- what a generator needs where it is woken: its names, and the link it will read -/
def GAt (w : World) (base : Heap) (outer : List Env) (mean : ExcName → Option Value) (mg mb : Str → Option Value) (Lg hh : Addr) (h : Heap) (mgl : Str → Option Value) (x y : Addr) : Prop :=
  ∃ g A₀ pre tl mk dmk ids da Ca at_ nx pv, Cx w A₀ base outer mean mg mb g g Lg h mgl (pre ++ tl) ∧ NS tl mk dmk ids da Ca at_ nx pv ∧ Hd mk ids Ca at_ hh ∧ x ∈ ids ∧ nx x = some y ∧ Full g Lg h (pre ++ tl)
/-- where the node comes from that is yielded -/
def Came (Lg hh : Addr) (h : Heap) (x : Addr) : Prop := (∃ v, h.Ns Lg (gl hh v x)) ∨ (h.Ns Lg (g1 hh) ∧ LinkN h hh x)
def GEndP (Lg hh : Addr) (_n : Nat) (s₀ s₁ : Shared) : Prop := ∃ h' tk, s₁ = { s₀ with heap := h', toks := tk } ∧ KeepB Lg s₀.heap h' ∧ Came Lg hh s₀.heap hh
def GY (w : World) (base : Heap) (outer : List Env) (mean : ExcName → Option Value) (mg mb : Str → Option Value) (Lg hh : Addr) (n : Nat) (s₀ : Shared) (v : Value) (s' : Shared) (kap : Resume → Shared → Prop) : Prop :=
  ∃ h' tk, s' = { s₀ with heap := h', toks := tk } ∧ KeepB Lg s₀.heap h' ∧ ∃ x y, v = .ref x ∧ x ≠ hh ∧ LinkN s₀.heap x y ∧ Came Lg hh s₀.heap x ∧ h'.Ns Lg (gl hh x y) ∧
    ∀ s'' z, GAt w base outer mean mg mb Lg hh s''.heap (gl hh x y) y z → (n = 0 → y = hh) → kap (.send .none) s''
abbrev GR (Lg hh : Addr) : GenEnd := fun n s₀ r s₁ => r = .ok (.ret .none) ∧ GEndP Lg hh n s₀ s₁
noncomputable abbrev gBody : List Stmt := [.Expr (.Yield (some (yExpr (wb 0))) (yPos (wb 0))) (ePos (wb 0)), wb 1, wb 2]
noncomputable abbrev gLoop (Lg : Addr) : Code := .whileLoop (whTest gwh) gBody [] (genEnv Lg)
theorem seg_test (hd : d + 14 < recursionLimit) {k : Result → Sem PySem.Fin} {gd : Bool} {l : List Value} {pp : Pos}
    (hk : k (.ok .next) = .pure (.done (.ret .none))) (hgd : gd = false) : ∀ (n : Nat) {s₀ s : Shared} {g : Heap} {A₀ : Around} {pre tl : List (Addr × Obj)} {mk dmk x y : Addr} {ids : List Addr} {da Ca : Addr → Addr} {at_ : Addr → Str → Option Value} {nx pv : Addr → Option Addr},
    Cx w A₀ base (env :: outer) mean mg mb g g Lg s.heap (gl hh x y) (pre ++ tl) → NS tl mk dmk ids da Ca at_ nx pv → Hd mk ids Ca at_ hh → x ∈ ids → nx x = some y → Full g Lg s₀.heap (pre ++ tl) → (∃ h' tk, s = { s₀ with heap := h', toks := tk }) →
    LinkN s₀.heap x y → Came Lg hh s₀.heap x → (n = 0 → x = hh) →
    Seg (model PR w) (Ar d u (env :: outer) gs).in1 (GR Lg hh) (GY w base (env :: outer) mean mg mb Lg hh) n s₀ (gLoop Lg) ((model PR w).den (gLoop Lg)) [.ret k none gd l (.func (defBody genDef) (genEnv Lg)) pp []] s := by
  intro n
  induction n with
  | zero =>
    intro s₀ s g A₀ pre tl mk dmk x y ids da Ca at_ nx pv C S H hx hn hF hs hL hC h0
    refine seg_whileLoop ?_
    show wpAny (model PR w) (Ar _ _ (genEnv Lg :: env :: outer) _) _ _ _ _
    refine gpT C S H ?_ gl_self gl_node hx ?_ ?_
    · show d + (1 + 0) + 0 + 8 < recursionLimit
      omega
    · intro hxe h' tk C'
      rw [if_neg Bool.false_ne_true]
      obtain ⟨h1, t1, rfl⟩ := hs
      refine seg_execs_nil ?_
      refine seg_leaf (.ok .next) ?_
      rw [hk]
      refine seg_end (.ok (.ret .none)) ⟨rfl, h', tk, rfl, hF.keep C'.F C'.N, ?_⟩
      rw [hxe] at hC
      exact hC
    · intro hxe
      exact absurd (h0 rfl) hxe
  | succ n ih =>
    intro s₀ s g A₀ pre tl mk dmk x y ids da Ca at_ nx pv C S H hx hn hF hs hL hC h0
    refine seg_whileLoop ?_
    show wpAny (model PR w) (Ar _ _ (genEnv Lg :: env :: outer) _) _ _ _ _
    refine gpT C S H ?_ gl_self gl_node hx ?_ ?_
    · show d + (1 + 0) + 0 + 8 < recursionLimit
      omega
    · intro hxe h' tk C'
      rw [if_neg Bool.false_ne_true]
      obtain ⟨h1, t1, rfl⟩ := hs
      refine seg_execs_nil ?_
      refine seg_leaf (.ok .next) ?_
      rw [hk]
      refine seg_end (.ok (.ret .none)) ⟨rfl, h', tk, rfl, hF.keep C'.F C'.N, ?_⟩
      rw [hxe] at hC
      exact hC
    · intro hxe h' tk C'
      rw [if_pos rfl]
      obtain ⟨h1, t1, rfl⟩ := hs
      refine seg_execs_cons ?_
      refine seg_Expr_Yield rfl rfl ?_ ?_
      · subst hgd; rfl
      · show wpAny (model PR w) (Ar _ _ (genEnv Lg :: env :: outer) _) _ _ _ _
        refine gpY C' gl_node ?_
        intro kap hkap
        refine ⟨h', tk, rfl, hF.keep C'.F C'.N, x, y, rfl, hxe, hL, hC, C'.F.ns, fun s'' z hG hz => ?_⟩
        refine hkap .none s'' ?_
        obtain ⟨g2, A2, pre2, tl2, mk2, dmk2, ids2, da2, Ca2, at2, nx2, pv2, C2, S2, H2, hy2, hn2, hF2⟩ := hG
        show Seg _ _ _ _ _ _ _ ((execs [wb 1, wb 2] (genEnv Lg)).wrap _ _ _ _) _ _
        refine seg_execs_cons (seg_wrap ?_)
        show wpAny (model PR w) (Ar _ _ (genEnv Lg :: env :: outer) _) _ _ _ _
        refine gp4 C2 gl_next fun h4 tk4 C4 => ?_
        refine seg_execs_cons (seg_wrap ?_)
        show wpAny (model PR w) (Ar _ _ (genEnv Lg :: env :: outer) _) _ _ _ _
        refine gp5 C4 S2 H2 ?_ ?_ ?_ hy2 hn2 fun h5 tk5 C5 => ?_
        · show d + (1 + 0) + 0 + 8 < recursionLimit
          omega
        · rw [if_neg (by decide +kernel)]; exact gl_self
        · rw [if_pos rfl]
        · refine seg_execs_nil ?_
          refine seg_again rfl ?_
          have C6 : Cx w A2 base (env :: outer) mean mg mb g2 g2 Lg h5 (gl hh y z) (pre2 ++ tl2) := by
            rw [← gl_step (x := x)]
            exact C5
          exact ih C6 S2 H2 hy2 hn2 hF2 ⟨h5, tk5, rfl⟩ (link_of C2.N S2 hy2 hn2) (.inl ⟨x, C2.F.ns⟩) hz
end
end MineN
namespace MineN
open Mine
theorem ns_det {h : Heap} {a : Addr} {m m' : Str → Option Value} (x : h.Ns a m) (y : h.Ns a m') : m = m' := by
  obtain ⟨o, es, ep, e, hd, _, hf⟩ := x
  obtain ⟨o', es', ep', e', hd', _, hf'⟩ := y
  rw [e] at e'
  obtain rfl := Option.some.inj e'
  rw [hd] at hd'
  injection hd' with e1 _
  subst e1
  funext k
  rw [← hf k, hf' k]
section
variable {prog : Program} {w : World} {A : Around} {E : Value → Shared → Prop} {s : Shared}
/-- the next item of a generator function's generator; what it leaves behind is bare -/
theorem pyNext_bare {a : Addr} {g n : Nat} {gs : GenState} {P : Nat → Shared → Shared → Prop} {Y : Protocol} {Q : Option Value → Shared → Prop} (hh : A.handled = none) (hl : s.heap.NoLimit) (hroom : A.depth < recursionLimit) (hg : s.heap.IsGen a g) (hgs : s.gens[g]? = some gs)
    (hgo : gs.Goes (model prog w) A.in1 (fun n s₀ r s₁ => r = .ok (.ret .none) ∧ P n s₀ s₁) Y n (.send .none) (s.setGen g .running))
    (hY : ∀ v s₁ gs', gs'.bare = true → Y (n - 1) (s.setGen g .running) v s₁ (fun r' s'' => match n with
        | 0 => False
        | m + 1 => gs'.Goes (model prog w) A.in1 (fun n s₀ r s₁ => r = .ok (.ret .none) ∧ P n s₀ s₁) Y m r' s'') → Q (some v) (s₁.setGen g gs'))
    (hP : ∀ s₁, P n (s.setGen g .running) s₁ → ∀ h', (∀ b o, s₁.heap.get? b = some o → h'.get? b = some o) → Q none { s₁.setGen g .finished with heap := h' }) :
    wpAny (model prog w) A (pyNext (.ref a)) Q E s := by
  unfold pyNext
  refine wpAny_bind (wpAny_attempt (wpAny_callSpecial?_slot (name := Str.ofString "__next__") hg.typeIs slot_gen_next (wpAny_call_entry slot_gen_next hg.typeIs entry_gen_next ?_ (args_gen_next _))))
  show wpAny _ A.in1 (Builtin.Generator.genWake (.ref a) (.send .none)) _ _ s
  unfold Builtin.Generator.genWake
  refine wpAny_bind (wpAny_holding (wpAny_genNumber hg (wpAny_bind (wpAny_genState hgs ?_))))
  cases gs with
  | running => exact hgo.elim
  | finished => exact hgo.elim
  | _ =>
    refine wpAny_bind (wpAny_roomToWake hl hroom ?_)
    show wpAny _ A.in1 (.resume g (.send .none) [] _) _ _ s
    refine wpAny_resumeQ hgs hgo (fun x s₁ hx => ?_) (fun v s₁ gs' hb hv => wpAny_pure ⟨v, rfl, wpAny_pure (hY v s₁ gs' hb hv)⟩)
    obtain ⟨rfl, hp⟩ := hx
    show wpAny _ A.in1 (newExc (.type "StopIteration") [] >>= _) _ _ _
    refine wpAny_bind ?_
    simp only [newExc, newTuple]
    refine wpAny_bind (wpAny_newObj_type ?_ (by size_fits))
    refine wpAny_bind (m := firstArgMember _ _) (wpAny_of_eq (a := Value.none) (by first | rfl | (simp only [firstArgMember]; rfl)) ?_)
    refine wpAny_newObj_type ?_ (by size_fits)
    simp only [raiseNew]
    refine wpAny_bind (wpAny_bind (wpAny_handled ?_))
    first | rw [show A.in1.handled = none from hh] | rw [hh]
    refine wpAny_throw ?_
    refine wpAny_bind (wpAny_isInstance (T := "StopIteration") (b := true) ⟨_, Heap.get?_push_size _ rfl, rfl⟩ isSubtype_stop ?_)
    exact wpAny_pure (hP s₁ hp _ fun b o hb => Heap.get?_push_of_some _ (Heap.get?_push_of_some _ hb))
end
theorem bare_set {gens : Array GenState} {gi : Nat} {a : GenState} (x : AllBare gens) (h : a.bare = true) : AllBare (gens.setIfInBounds gi a) := fun y hy => by
  rcases Array.mem_or_eq_of_mem_setIfInBounds hy with h1 | h1
  · exact x y h1
  · rw [h1]; exact h
section
variable {w : World} {A₀ : Around} {base g₀ h₀ g : Heap} {outer : List Env} {env : Env} {L : Addr} {m mg mb mgl : Str → Option Value} {mean : ExcName → Option Value}
  {s s₀ : Shared} {pre tl : List (Addr × Obj)} {d u : Nat} {gs : Option (List Code)} {Q : Option Value → Shared → Prop} {E : Value → Shared → Prop}
  {mk dmk x y n p hh Lg Ga : Addr} {ids : List Addr} {da Ca : Addr → Addr} {at_ : Addr → Str → Option Value} {nx pv : Addr → Option Addr} {h : Heap} {og oG : Obj} {gi : Nat} {gst : GenState}

theorem seg_fresh (hd : d + 14 < recursionLimit) {n : Nat} (C : Cx w A₀ base (env :: outer) mean mg mb g g Lg s₀.heap (g1 hh) (pre ++ tl)) (S : NS tl mk dmk ids da Ca at_ nx pv) (H : Hd mk ids Ca at_ hh) (hx : x ∈ ids) (hh1 : nx hh = some x) (hn : nx x = some y)
    (hF : Full g Lg s₀.heap (pre ++ tl)) (h0 : n = 0 → x = hh) :
    Seg (model PR w) (Ar d u (env :: outer) gs).in1 (GR Lg hh) (GY w base (env :: outer) mean mg mb Lg hh) n s₀ (.func (defBody genDef) (genEnv Lg)) ((model PR w).den (.func (defBody genDef) (genEnv Lg))) [] s₀ := by
  refine seg_func ?_
  conv => pattern (execs _ _); rw [gen_body]
  refine seg_execs_cons (seg_wrap ?_)
  show wpAny (model PR w) (Ar _ _ (genEnv Lg :: env :: outer) _) _ _ _ _
  refine gp0 C S H ?_ ?_ hh1 fun h4 tk4 C4 => ?_
  · show d + 0 + 1 + 8 < recursionLimit
    omega
  · exact if_pos rfl
  refine seg_execs_cons (seg_wrap ?_)
  show wpAny (model PR w) (Ar _ _ (genEnv Lg :: env :: outer) _) _ _ _ _
  refine gp1 C4 S H ?_ ?_ ?_ hx hn fun h5 tk5 C5 => ?_
  · show d + 0 + 1 + 8 < recursionLimit
    omega
  · rw [if_neg (by decide +kernel)]; exact if_pos rfl
  · exact if_pos rfl
  refine seg_execs_cons ?_
  refine seg_While fun pp => ?_
  exact seg_test hd rfl rfl n (s₀ := s₀) (s := { s₀ with heap := h5, toks := tk5 }) C5 S H hx hn hF ⟨h5, tk5, rfl⟩ (link_of C.N S hx hn) (.inr ⟨C.F.ns, link_of C.N S H.mem hh1⟩) h0
/-- what the caller knows of its ledger, where a generator of it stands -/
structure GC (w : World) (A₀ : Around) (base : Heap) (outer : List Env) (env : Env) (mean : ExcName → Option Value) (mg mb : Str → Option Value) (g₀ h₀ : Heap) (L : Addr) (h : Heap) (m : Str → Option Value) (pre tl : List (Addr × Obj)) (Lg : Addr) (og : Obj) (mgl : Str → Option Value) : Prop where
  C : Cx w A₀ base outer mean mg mb g₀ h₀ L h m ((Lg, og) :: (pre ++ tl))
  hog : LCg.NsObj og mgl
  hf : env.frame = some L
  hke : env.scope.kind = .function
  hle : h₀.objs.size ≤ Lg
  hL : @LT.lt Nat _ L Lg
  off : ∀ q ∈ pre ++ tl, q.1 ≠ Lg
theorem GC.ground (K : GC w A₀ base outer env mean mg mb g₀ h₀ L h m pre tl Lg og mgl) : ∃ g A₁ pre', Cx w A₁ base (env :: outer) mean mg mb g g Lg h mgl (pre' ++ tl) ∧ Full g Lg h (pre' ++ tl) := by
  obtain ⟨⟨F, N, B, X, T, XB, TB, D, T0⟩, hog, hf, hke, hle, hL, off⟩ := K
  obtain ⟨g, F2, N2, B2, X2, T2, D2, full⟩ := groundG (A := Ar 0 0 (env :: outer) none) B F N hog rfl hf hke hle hL X T D off
  refine ⟨g, _, aboveAll h Lg ++ pre, ⟨F2, ?_, B2, X2, T2, XB, TB, D2, KtsTurn.refl⟩, ?_⟩
  · rw [List.append_assoc]; exact N2
  · intro b o e hb
    rw [List.append_assoc]
    exact full b o e hb
theorem GC.gat (K : GC w A₀ base outer env mean mg mb g₀ h₀ L h m pre tl Lg og mgl) (S : NS tl mk dmk ids da Ca at_ nx pv) (H : Hd mk ids Ca at_ hh) (hx : x ∈ ids) (hn : nx x = some y) : GAt w base (env :: outer) mean mg mb Lg hh h mgl x y := by
  obtain ⟨g, A1, pre', C, F⟩ := K.ground
  exact ⟨g, A1, pre', tl, mk, dmk, ids, da, Ca, at_, nx, pv, C, S, H, hx, hn, F⟩
theorem GC.gone {h' : Heap} (K : GC w A₀ base outer env mean mg mb g₀ h₀ L h m pre tl Lg og mgl) (k : KeepB Lg h h') : Cx w A₀ base outer mean mg mb g₀ h₀ L h' m (pre ++ tl) := by
  obtain ⟨⟨F, N, B, X, T, XB, TB, D, T0⟩, hog, hf, hke, hle, hL, off⟩ := K
  exact ⟨⟨F.ns.at' fun o e => k L o (Nat.ne_of_lt hL) e, fun b o e => k b o (Nat.ne_of_lt (Nat.lt_of_lt_of_le (Heap.lt_size e) hle)) (F.keep b o e), F.above⟩, fun q hq => ⟨k _ _ (off q hq) (N q (.tail _ hq)).1, (N q (.tail _ hq)).2⟩, B, X, T, XB, TB, D, T0⟩
theorem GC.after {h' : Heap} (K : GC w A₀ base outer env mean mg mb g₀ h₀ L h m pre tl Lg og mgl) (k : KeepB Lg h h') {mgl' : Str → Option Value} (hg : h'.Ns Lg mgl') : ∃ og', GC w A₀ base outer env mean mg mb g₀ h₀ L h' m pre tl Lg og' mgl' := by
  obtain ⟨⟨F, N, B, X, T, XB, TB, D, T0⟩, hog, hf, hke, hle, hL, off⟩ := K
  obtain ⟨og', e1, e2⟩ := LCg.ns_obj hg
  refine ⟨og', ⟨⟨F.ns.at' fun o e => k L o (Nat.ne_of_lt hL) e, fun b o e => k b o (Nat.ne_of_lt (Nat.lt_of_lt_of_le (Heap.lt_size e) hle)) (F.keep b o e), F.above⟩, fun q hq => ?_, B, X, T, XB, TB, D, T0⟩, e2, hf, hke, hle, hL, off⟩
  rcases List.mem_cons.mp hq with rfl | hq
  · exact ⟨e1, (N (Lg, og) (.head _)).2⟩
  · exact ⟨k _ _ (off q hq) (N q (.tail _ hq)).1, (N q (.tail _ hq)).2⟩
/-- a generator that waits behind a yield -/
def GW (w : World) (base : Heap) (outer : List Env) (env : Env) (mean : ExcName → Option Value) (mg mb : Str → Option Value) (d u : Nat) (gs : Option (List Code)) (Lg hh x y : Addr) (n : Nat) (gst : GenState) : Prop :=
  ∀ s'' z, GAt w base (env :: outer) mean mg mb Lg hh s''.heap (gl hh x y) y z → (n = 0 → y = hh) → gst.Goes (model PR w) (Ar d u (env :: outer) gs).in1 (GR Lg hh) (GY w base (env :: outer) mean mg mb Lg hh) n (.send .none) s''

theorem came_first (hg : h.Ns Lg (g1 hh)) (hl : LinkN h hh x) (c : Came Lg hh h y) : y = x := by
  rcases c with ⟨v, c⟩ | ⟨_, c⟩
  · have := congrFun (ns_det hg c) (Str.ofString "next")
    rw [gl_next] at this
    unfold g1 at this
    rw [if_neg (by decide +kernel)] at this
    cases this
  · exact c.det hl
theorem came_next {v : Addr} (hg : h.Ns Lg (gl hh v x)) (c : Came Lg hh h y) : y = x := by
  rcases c with ⟨v', c⟩ | ⟨c, _⟩
  · have := congrFun (ns_det hg c) (Str.ofString "next")
    rw [gl_next, gl_next] at this
    injection this with e
    injection e with e
    exact e.symm
  · have := congrFun (ns_det hg c) (Str.ofString "next")
    rw [gl_next] at this
    unfold g1 at this
    rw [if_neg (by decide +kernel)] at this
    cases this
theorem setGen_two {s : Shared} {a b : GenState} {h' : Heap} {tk : Nat} : ({ s.setGen gi a with heap := h', toks := tk } : Shared).setGen gi b = { s with heap := h', toks := tk, gens := (s.gens.setIfInBounds gi a).setIfInBounds gi b } := rfl
theorem set_get {gens : Array GenState} {a b c : GenState} (h : gens[gi]? = some c) : ((gens.setIfInBounds gi a).setIfInBounds gi b)[gi]? = some b := by
  have hlt := (Array.getElem?_eq_some_iff.mp h).1
  simp [hlt]
/-- the first item -/
theorem gen_first {N : Nat} (hd : d + 14 < recursionLimit) (K : GC w A₀ base outer env mean mg mb g₀ h₀ L s.heap m pre tl Lg og (g1 hh)) (S : NS tl mk dmk ids da Ca at_ nx pv) (H : Hd mk ids Ca at_ hh) (hG : (Ga, oG) ∈ pre) (hoG : GenObj oG gi) (hgi : s.gens[gi]? = some (genFresh Lg))
    (hh1 : nx hh = some x) (hx : x ∈ ids) (hn : nx x = some y)
    (hN : x = hh → ∀ h' tk gens', (AllBare s.gens → AllBare gens') → Cx w A₀ base outer mean mg mb g₀ h₀ L h' m (pre ++ tl) → Q none { s with heap := h', toks := tk, gens := gens' })
    (hS : x ≠ hh → ∀ h' tk gens' og' gst, (AllBare s.gens → AllBare gens') → GC w A₀ base outer env mean mg mb g₀ h₀ L h' m pre tl Lg og' (gl hh x y) → gens'[gi]? = some gst → GW w base outer env mean mg mb d u gs Lg hh x y N gst → Q (some (.ref x)) { s with heap := h', toks := tk, gens := gens' }) :
    wpAny (model PR w) (Ar d u (env :: outer) gs) (pyNext (.ref Ga)) Q E s := by
  have K0 := K
  obtain ⟨⟨F, Nw, B, X, T, XB, TB, D, T0⟩, hog, hf, hke, hle, hL, off⟩ := K
  have hns : s.heap.Ns Lg (g1 hh) := hog.ns (Nw (Lg, og) (.head _)).1
  have hlink : LinkN s.heap hh x := link_of (pre := (Lg, og) :: pre) Nw S H.mem hh1
  have hlink2 : LinkN s.heap x y := link_of (pre := (Lg, og) :: pre) Nw S hx hn
  refine pyNext_bare (n := N + 1) (Y := GY w base (env :: outer) mean mg mb Lg hh) (P := GEndP Lg hh) rfl (T.nolimit.keeps F.keep) (by show d < recursionLimit; omega) (hoG.is (Nw (Ga, oG) (.tail _ (List.mem_append_left _ hG))).1) hgi ⟨rfl, ?_⟩ (fun v s₁ gs' hbr hY => ?_) (fun s₁ hP h' hk => ?_)
  · obtain ⟨g, A2, pre2, C2, hF2⟩ := K0.ground
    exact seg_fresh (s₀ := s.setGen gi .running) hd C2 S H hx hh1 hn hF2 (by omega)
  · obtain ⟨h', tk, rfl, hkeep, x', y', rfl, hxe, hl, hc, hns', hgo⟩ := hY
    obtain rfl := came_first hns hlink hc
    obtain rfl := hl.det hlink2
    obtain ⟨og', K'⟩ := K0.after hkeep hns'
    exact hS hxe h' tk _ og' gs' (fun x => bare_set (bare_set x rfl) hbr) K' (set_get hgi) fun s'' z hG2 hz => hgo s'' z hG2 hz
  · obtain ⟨h1, tk, rfl, hkeep, hc⟩ := hP
    have e := came_first hns hlink hc
    exact hN e.symm h' tk _ (fun x => bare_set (bare_set x rfl) rfl) (K0.gone fun b o hb e2 => hk _ _ (hkeep b o hb e2))
/-- a further item -/
theorem gen_next {N : Nat} {v : Addr} (hd : d + 14 < recursionLimit) (K : GC w A₀ base outer env mean mg mb g₀ h₀ L s.heap m pre tl Lg og (gl hh v x)) (S : NS tl mk dmk ids da Ca at_ nx pv) (H : Hd mk ids Ca at_ hh) (hG : (Ga, oG) ∈ pre) (hoG : GenObj oG gi) (hgi : s.gens[gi]? = some gst)
    (W : GW w base outer env mean mg mb d u gs Lg hh v x N gst) (hx : x ∈ ids) (hn : nx x = some y) (h0 : N = 0 → x = hh)
    (hN : x = hh → ∀ h' tk gens', (AllBare s.gens → AllBare gens') → Cx w A₀ base outer mean mg mb g₀ h₀ L h' m (pre ++ tl) → Q none { s with heap := h', toks := tk, gens := gens' })
    (hS : ∀ N', N = N' + 1 → x ≠ hh → ∀ h' tk gens' og' gst', (AllBare s.gens → AllBare gens') → GC w A₀ base outer env mean mg mb g₀ h₀ L h' m pre tl Lg og' (gl hh x y) → gens'[gi]? = some gst' → GW w base outer env mean mg mb d u gs Lg hh x y N' gst' → Q (some (.ref x)) { s with heap := h', toks := tk, gens := gens' }) :
    wpAny (model PR w) (Ar d u (env :: outer) gs) (pyNext (.ref Ga)) Q E s := by
  have K0 := K
  obtain ⟨⟨F, Nw, B, X, T, XB, TB, D, T0⟩, hog, hf, hke, hle, hL, off⟩ := K
  have hns : s.heap.Ns Lg (gl hh v x) := hog.ns (Nw (Lg, og) (.head _)).1
  have hlink2 : LinkN s.heap x y := link_of (pre := (Lg, og) :: pre) Nw S hx hn
  refine pyNext_bare (n := N) (Y := GY w base (env :: outer) mean mg mb Lg hh) (P := GEndP Lg hh) rfl (T.nolimit.keeps F.keep) (by show d < recursionLimit; omega) (hoG.is (Nw (Ga, oG) (.tail _ (List.mem_append_left _ hG))).1) hgi ?_ (fun v s₁ gs' hbr hY => ?_) (fun s₁ hP h' hk => ?_)
  · exact W (s.setGen gi .running) y (K0.gat S H hx hn) h0
  · obtain ⟨h', tk, rfl, hkeep, x', y', rfl, hxe, hl, hc, hns', hgo⟩ := hY
    obtain rfl := came_next hns hc
    obtain rfl := hl.det hlink2
    obtain ⟨og', K'⟩ := K0.after hkeep hns'
    cases N with
    | zero => exact absurd (h0 rfl) hxe
    | succ N => exact hS N rfl hxe h' tk _ og' gs' (fun x => bare_set (bare_set x rfl) hbr) K' (set_get hgi) fun s'' z hG2 hz => hgo s'' z hG2 hz
  · obtain ⟨h1, tk, rfl, hkeep, hc⟩ := hP
    have e := came_next hns hc
    exact hN e.symm h' tk _ (fun x => bare_set (bare_set x rfl) rfl) (K0.gone fun b o hb e2 => hk _ _ (hkeep b o hb e2))
end
end MineN
namespace MineN
open Mine
theorem fillG7 : PySem.Challenge.rw_fc0145_01.Holds → (∀ w : World, (hd.heap_39 w.params).In default) → True := by
  k_fill
  intros
  trivial
section
variable {w : World} {A₀ : Around} {base g₀ h₀ g : Heap} {outer : List Env} {env : Env} {L : Addr} {m mg mb mgl : Str → Option Value} {mean : ExcName → Option Value}
  {s s₀ : Shared} {pre tl : List (Addr × Obj)} {d u : Nat} {gs : Option (List Code)} {E : Value → Shared → Prop}
  {mk dmk x y n p hh Lg Ga : Addr} {ids : List Addr} {da Ca : Addr → Addr} {at_ : Addr → Str → Option Value} {nx pv : Addr → Option Addr} {h : Heap} {og oG : Obj} {gi : Nat} {gst : GenState}
/-- iteration over a list object -/
theorem iter_list {Q : Value → Shared → Prop} (C : Cx w A₀ base outer mean mg mb g₀ h₀ L s.heap m (pre ++ tl)) (S : NS tl mk dmk ids da Ca at_ nx pv) (hd : d + 14 < recursionLimit) (hf : env.frame = some L) (hke : env.scope.kind = .function)
    (H : Hd mk ids Ca at_ hh)
    (h : ∀ h' tk Lg og oG, GC w A₀ base outer env mean mg mb g₀ h₀ L h' m ((Lg + 1, oG) :: pre) tl Lg og (g1 hh) → GenObj oG s.gens.size → OwnOff [(Lg + 1, oG), (Lg, og)] ((pre ++ tl).map (·.1)) →
      Q (.ref (Lg + 1)) { s with heap := h', toks := tk, gens := s.gens.push (genFresh Lg) }) :
    wpAny (model PR w) (Ar d u (env :: outer) gs) (pyIter (.ref hh)) Q E s := by
  have I := memR (a := pre) (S.inst hh H.mem)
  rw [H.cls] at I
  obtain ⟨es, n, hdm, hat⟩ := S.dict hh H.mem
  have I2 := memR (a := pre) hdm
  have II := InstAt.of_news C.N I I2
  refine owit_iter C.F C.X II (by k_is) (by k_is) ?_
  refine iter_spec C S (by omega) hf hke H fun h' tk Lg og oG C' hog hoG hlt hL hle => ?_
  have hG := hoG.is (C'.N (Lg + 1, oG) (.head _)).1
  unfold OwitIt
  refine wpAny_specialOf hG.typeIs slot_gen_next.lookup ?_
  have ne1 : @Ne Nat (Lg + 1) Lg := Nat.succ_ne_self Lg
  refine h h' tk Lg og oG ⟨⟨C'.F, news_sub C'.N fun q hq => ?_, C'.B, C'.X, C'.T, C'.XB, C'.TB, C'.D, C'.T0⟩, hog, hf, hke, hle, hL, fun q hq => ?_⟩ hoG fun q hq b hb => ?_
  · simp only [List.cons_append, List.mem_cons] at hq ⊢
    grind
  · simp only [List.cons_append, List.mem_cons] at hq
    rcases hq with rfl | hq
    · exact ne1
    · exact Nat.ne_of_lt (hlt q hq)
  · obtain ⟨r, hr, rfl⟩ := List.mem_map.mp hb
    have hrl := hlt r hr
    simp only [List.mem_cons, List.not_mem_nil, or_false] at hq
    rcases hq with rfl | rfl
    · exact Nat.ne_of_gt (Nat.lt_succ_of_lt hrl)
    · exact Nat.ne_of_gt hrl
/-- how a turn of a loop over a list object ends -/
def EndL (h₀ : Heap) (L : Addr) (J : (Str → Option Value) → List (Addr × Obj) → List (Addr × Obj) → (Addr → Option Addr) → (Addr → Option Addr) → Prop) (own : List (Addr × Obj)) (s₁ : Shared) (Q : Flow → Shared → Prop) (f : Flow) (s₂ : Shared) : Prop :=
  match f with
  | .ret v => Q (.ret v) s₂
  | .brk => Q .next s₂
  | _ => ∃ h' tk m' pre' tl' nx' pv', s₂ = { s₁ with heap := h', toks := tk } ∧ Fr h₀ L h' m' ∧ News h₀ L h' (pre' ++ tl' ++ own) ∧ OwnOff own ((pre' ++ tl').map (·.1)) ∧ J m' pre' tl' nx' pv'
/-- the loop's state between two items: k bounds what is left -/
def LState (w : World) (A₀ : Around) (base : Heap) (outer : List Env) (env : Env) (mean : ExcName → Option Value) (mg mb : Str → Option Value) (g₀ h₀ : Heap) (d u : Nat) (gs : Option (List Code)) (hh Lg : Addr) (oG : Obj) (N : Nat) (s : Shared)
    (J : Nat → Addr → (Str → Option Value) → List (Addr × Obj) → List (Addr × Obj) → (Addr → Option Addr) → (Addr → Option Addr) → Prop) (k : Nat) (s' : Shared) : Prop :=
  ∃ i p m pre tl nx pv h tk gens og mgl, s' = { s with heap := h, toks := tk, gens := gens } ∧ (AllBare s.gens → AllBare gens) ∧ k = N + 1 - i ∧ J i p m pre tl nx pv ∧
      GC w A₀ base outer env mean mg mb g₀ h₀ env.locals h m ((Lg + 1, oG) :: pre) tl Lg og mgl ∧ OwnOff [(Lg + 1, oG), (Lg, og)] ((pre ++ tl).map (·.1)) ∧
      ((i = 0 ∧ mgl = g1 hh ∧ gens[s.gens.size]? = some (genFresh Lg) ∧ nx hh = some p) ∨ ∃ v gst, mgl = gl hh v p ∧ gens[s.gens.size]? = some gst ∧ GW w base outer env mean mg mb d u gs Lg hh v p (N - i) gst)
/-- a loop over a list object, by a word over its next item -/
theorem list_loop {Q : Flow → Shared → Prop} {xn : Str} {px : Pos} {body : List Stmt} (N : Nat) (J : Nat → Addr → (Str → Option Value) → List (Addr × Obj) → List (Addr × Obj) → (Addr → Option Addr) → (Addr → Option Addr) → Prop)
    (C : Cx w A₀ base outer mean mg mb g₀ h₀ env.locals s.heap m (pre ++ tl)) (S : NS tl mk dmk ids da Ca at_ nx pv) (hd : d + 14 < recursionLimit) (hf : env.frame = some env.locals) (hke : env.scope.kind = .function) (H : Hd mk ids Ca at_ hh)
    (hx : env.kindOf xn = some .local) (hp : (env.scope.kind == .class || (env.scope.kind == .module && env.locals != env.globals)) = false)
    (hE : PassesOwn (model PR w) (Ar d u (env :: outer) gs) env E)
    (facts : ∀ i p m pre tl nx pv, J i p m pre tl nx pv → NS tl mk dmk ids da Ca at_ nx pv ∧ p ∈ ids ∧ (∃ y, nx p = some y) ∧ i ≤ N ∧ (i = N → p = hh))
    (j0 : ∃ p0, nx hh = some p0 ∧ J 0 p0 m pre tl nx pv)
    (turn : ∀ i p y m pre tl nx pv h tk gens own, J i p m pre tl nx pv → p ≠ hh → nx p = some y → OwnOff own ((pre ++ tl).map (·.1)) → (AllBare s.gens → AllBare gens) → Fr h₀ env.locals h (fun z => if z = xn then some (.ref p) else m z) → News h₀ env.locals h (pre ++ tl ++ own) →
      wpAny (model PR w) (Ar d u (env :: outer) gs) (execs body env) (EndL h₀ env.locals (J (i + 1) y) own { s with heap := h, toks := tk, gens := gens } Q) E { s with heap := h, toks := tk, gens := gens })
    (done : ∀ i m pre tl nx pv h tk gens, J i hh m pre tl nx pv → (AllBare s.gens → AllBare gens) → Fr h₀ env.locals h m → News h₀ env.locals h (pre ++ tl) → Q .next { s with heap := h, toks := tk, gens := gens }) :
    wpAny (model PR w) (Ar d u (env :: outer) gs) (pyIter (.ref hh)) (fun it s₂ => codeAny (model PR w) (Ar d u (env :: outer) gs) (.forLoop (.Name xn px) it body [] env) (fun r s' => match r with | .ok f => Q f s' | .error e => cameBackBy (model PR w) (Ar d u (env :: outer) gs) env E e s') s₂) E s := by
  obtain ⟨p0, hp0, hJ0⟩ := j0
  refine iter_list C S hd hf hke H fun h1 tk1 Lg og0 oG K0 hoG hoff0 => ?_
  refine codeAny_forLoop (LState w A₀ base outer env mean mg mb g₀ h₀ d u gs hh Lg oG N s J) ?_ (N + 1)
    ⟨0, p0, m, pre, tl, nx, pv, h1, tk1, _, og0, _, rfl, fun x => x.push rfl, rfl, hJ0, K0, hoff0, .inl ⟨rfl, rfl, by simp, hp0⟩⟩ (by intro _; rfl)
  rintro k s' ⟨i, p, m, pre, tl, nx, pv, h, tk, gens, og, mgl, rfl, hbr, rfl, hJ, K, hoff, hcase⟩
  obtain ⟨S, hpi, ⟨y, hy⟩, hiN, hend⟩ := facts i p m pre tl nx pv hJ
  -- what follows an item
  have item : ∀ h' tk' gens' og' gst', (AllBare gens → AllBare gens') → p ≠ hh → GC w A₀ base outer env mean mg mb g₀ h₀ env.locals h' m ((Lg + 1, oG) :: pre) tl Lg og' (gl hh p y) → gens'[s.gens.size]? = some gst' → GW w base outer env mean mg mb d u gs Lg hh p y (N - (i + 1)) gst' →
      wpAny (model PR w) (Ar d u (env :: outer) gs) (assign (.Name xn px) env (.ref p)) (fun _ s₂ => wpAny (model PR w) (Ar d u (env :: outer) gs) (execs body env) (fun f s₃ => match f with
          | .next | .cont => ∃ m', m' < N + 1 - i ∧ LState w A₀ base outer env mean mg mb g₀ h₀ d u gs hh Lg oG N s J m' s₃
          | .brk => Q .next s₃
          | .ret v => Q (.ret v) s₃) (notedBy (model PR w) (Ar d u (env :: outer) gs) env (cameBackBy (model PR w) (Ar d u (env :: outer) gs) env E)) s₂) (notedBy (model PR w) (Ar d u (env :: outer) gs) env (cameBackBy (model PR w) (Ar d u (env :: outer) gs) env E)) { s with heap := h', toks := tk', gens := gens' } := by
    intro h' tk' gens' og' gst' hb' hne K' hg' W'
    have hi : i < N := by
      rcases Nat.lt_or_ge i N with h | h
      · exact h
      · exact absurd (hend (by omega)) hne
    refine wpAny_assign_Name (wpAny_storeName_local hx K'.C.F.ns (fun h₂ hn₂ hs₂ => ?_) hp)
    have F₂ := K'.C.F.set hn₂ hs₂
    have N₂ := K'.C.N.set hs₂
    have hoff' : OwnOff [(Lg + 1, oG), (Lg, og')] ((pre ++ tl).map (·.1)) := fun q hq => by
      simp only [List.mem_cons, List.not_mem_nil, or_false] at hq
      rcases hq with rfl | rfl
      · exact hoff (Lg + 1, oG) (by simp)
      · exact hoff (Lg, og) (by simp)
    refine wpAny_passesOwn hE (wpAny_mono (turn i p y m pre tl nx pv h₂ _ gens' [(Lg + 1, oG), (Lg, og')] hJ hne hy hoff' (fun x => hb' (hbr x)) F₂ (news_sub N₂ fun q hq => ?_)) (fun f s₃ hf3 => ?_) fun _ _ e => e)
    · simp only [List.cons_append, List.mem_cons, List.mem_append, List.not_mem_nil, or_false] at hq ⊢
      grind
    · have fin : ∀ h3 tk3 m' pre' tl' nx' pv', Fr h₀ env.locals h3 m' → News h₀ env.locals h3 (pre' ++ tl' ++ [(Lg + 1, oG), (Lg, og')]) → OwnOff [(Lg + 1, oG), (Lg, og')] ((pre' ++ tl').map (·.1)) → J (i + 1) y m' pre' tl' nx' pv' →
          ∃ m', m' < N + 1 - i ∧ LState w A₀ base outer env mean mg mb g₀ h₀ d u gs hh Lg oG N s J m' { s with heap := h3, toks := tk3, gens := gens' } := by
        intro h3 tk3 m' pre' tl' nx' pv' F3 N3 o3 J3
        refine ⟨N + 1 - (i + 1), by omega, i + 1, y, m', pre', tl', nx', pv', h3, tk3, gens', og', _, rfl, fun x => hb' (hbr x), rfl, J3, ⟨⟨F3, news_sub N3 fun q hq => ?_, K'.C.B, K'.C.X, K'.C.T, K'.C.XB, K'.C.TB, K'.C.D, K'.C.T0⟩, K'.hog, hf, hke, K'.hle, K'.hL, fun q hq => ?_⟩, o3, .inr ⟨p, gst', rfl, hg', W'⟩⟩
        · simp only [List.cons_append, List.mem_cons, List.mem_append, List.not_mem_nil, or_false] at hq ⊢
          grind
        · simp only [List.cons_append, List.mem_cons] at hq
          rcases hq with rfl | hq
          · exact Nat.succ_ne_self Lg
          · exact Ne.symm (o3 (Lg, og') (by simp) q.1 (List.mem_map.mpr ⟨q, hq, rfl⟩))
      cases f with
      | ret v => exact hf3
      | brk => exact hf3
      | next =>
        obtain ⟨h3, tk3, m', pre', tl', nx', pv', rfl, F3, N3, o3, J3⟩ := hf3
        exact fin h3 tk3 m' pre' tl' nx' pv' F3 N3 o3 J3
      | cont =>
        obtain ⟨h3, tk3, m', pre', tl', nx', pv', rfl, F3, N3, o3, J3⟩ := hf3
        exact fin h3 tk3 m' pre' tl' nx' pv' F3 N3 o3 J3
  have last : ∀ h' tk' gens', p = hh → (AllBare gens → AllBare gens') → Cx w A₀ base outer mean mg mb g₀ h₀ env.locals h' m ((Lg + 1, oG) :: pre ++ tl) → wpAny (model PR w) (Ar d u (env :: outer) gs) (execs [] env) (fun f s₃ => Q f s₃) (notedBy (model PR w) (Ar d u (env :: outer) gs) env (cameBackBy (model PR w) (Ar d u (env :: outer) gs) env E)) { s with heap := h', toks := tk', gens := gens' } := by
    intro h' tk' gens' hpe hb' C'
    subst hpe
    exact wpAny_execs_nil (done i m pre tl nx pv h' tk' gens' hJ (fun x => hb' (hbr x)) C'.F (news_sub C'.N fun q hq => .tail _ hq))
  rcases hcase with ⟨rfl, rfl, hgf, hp⟩ | ⟨v, gst, rfl, hgs, W⟩
  · refine gen_first (N := N - 1) hd K S H (.head _) hoG hgf hp hpi hy (fun hpe h' tk' gens' hb' C' => last h' tk' gens' hpe hb' C') fun hne h' tk' gens' og' gst' hb' K' hg' W' => ?_
    exact item h' tk' gens' og' gst' hb' hne K' hg' W'
  · refine gen_next (N := N - i) hd K S H (.head _) hoG hgs W hpi hy (fun h0 => hend (by omega)) (fun hpe h' tk' gens' hb' C' => last h' tk' gens' hpe hb' C') fun N' hN' hne h' tk' gens' og' gst' hb' K' hg' W' => ?_
    have : N' = N - (i + 1) := by omega
    subst this
    exact item h' tk' gens' og' gst' hb' hne K' hg' W'
end
end MineN
namespace MineN
theorem rstYN10 : True := by
  w_top off
  trivial
open Mine
theorem fillYN10 : PySem.Challenge.rw_fc0145_01.Holds → (∀ w : World, (hd.heap_39 w.params).In default) → True := by
  k_fill
  intros
  trivial
local macro_rules | `(tactic| k_steps) => `(tactic| repeat' (first | (k_unfold; (try dsimp only)) | walk1 | (dsimp only; walk1) | fail "no step"))
local macro_rules | `(tactic| ktr_unf) => `(tactic| (refine wpAny_call ?_; refine' codeS ?B ?F ?X ?N ?T ?XB ?TB ?D ?T0 ?kA ?hf ?hke ?k6 ?k7 ?k8 ?k9 ?kB ?_ ?c2 ?c3 ?c4 ?c5; (case F => assumption); (case N => assumption); (case B => assumption); (case X => assumption); (case T => assumption); (case XB => assumption); (case TB => assumption); (case D => assumption); (case T0 => assumption); (case kA => exact rfl); (case hf => first | assumption | exact rfl); (case hke => first | assumption | exact rfl); (case k6 => k_is); (case k7 => k_is); (case k8 => (show _ < recursionLimit; first | omega | (dsimp only [Ar]; omega))); (case k9 => exact BindsTo.of_eq rfl); (case kB => exact locs rfl); (case c2 => exact rfl); (case c3 => exact rfl); (case c4 => exact rfl); (case c5 => decide); k_whole))
local macro_rules | `(tactic| ktr_rel) => `(tactic| exact ⟨by assumption, by assumption, by assumption, by assumption, by assumption, by assumption, by assumption, by assumption, by assumption⟩)
local macro_rules | `(tactic| k_mem) => `(tactic| assumption)
local macro_rules | `(tactic| walk_at "call ref") => `(tactic| (k_here; (with_reducible show wpAny _ _ (call (Value.ref 148) _ _) _ _ _); (first | (refine' next_some ?C ?S ?d ?f ?k ?x ?n ?_; (case C => ktr_rel); (case S => assumption); (case d => first | omega | (dsimp only [Ar]; omega)); (case f => first | assumption | exact rfl); (case k => first | assumption | exact rfl); (case x => assumption); (case n => assumption); k_whole; intro h' tk' C'; obtain ⟨F', N', B', X', T', XB', TB', D', T0'⟩ := C'))))
local macro_rules | `(tactic| walk_at "call ref") => `(tactic| (k_here; (with_reducible show wpAny _ _ (call (Value.ref 162) _ _) _ _ _); (first | (refine' prev_some ?C ?S ?d ?f ?k ?x ?n ?_; (case C => ktr_rel); (case S => assumption); (case d => first | omega | (dsimp only [Ar]; omega)); (case f => first | assumption | exact rfl); (case k => first | assumption | exact rfl); (case x => assumption); (case n => assumption); k_whole; intro h' tk' C'; obtain ⟨F', N', B', X', T', XB', TB', D', T0'⟩ := C'))))
local macro_rules | `(tactic| walk_at "call ref") => `(tactic| (k_here; (with_reducible show wpAny _ _ (call (Value.ref 176) _ _) _ _ _); (first | (refine' off_self ?C ?S ?d ?f ?k ?x ?n ?n2 ?_; (case C => ktr_rel); (case S => assumption); (case d => first | omega | (dsimp only [Ar]; omega)); (case f => first | assumption | exact rfl); (case k => first | assumption | exact rfl); (case x => assumption); (case n => assumption); (case n2 => assumption); k_whole; intro h' tk' C'; obtain ⟨F', N', B', X', T', XB', TB', D', T0'⟩ := C') | (refine' on_list ?C ?S ?d ?f ?k ?x ?n ?n2 ?n3 ?_; (case C => ktr_rel); (case S => assumption); (case d => first | omega | (dsimp only [Ar]; omega)); (case f => first | assumption | exact rfl); (case k => first | assumption | exact rfl); (case x => assumption); (case n => assumption); (case n2 => assumption); (case n3 => assumption); k_whole; intro h' tk' C'; obtain ⟨F', N', B', X', T', XB', TB', D', T0'⟩ := C'))))
local macro_rules | `(tactic| walk_at "call ref") => `(tactic| (k_here; (with_reducible show wpAny _ _ (call (Value.ref 155) _ _) _ _ _); refine' set_next ?C ?P ?S ?d ?f ?k ?x ?_; (case C => ktr_rel); (case P => assumption); (case S => assumption); (case d => first | omega | (dsimp only [Ar]; omega)); (case f => first | assumption | exact rfl); (case k => first | assumption | exact rfl); (case x => assumption); k_whole; intro h' tk' tl' C' S'; have j1' := mI C' S'; have j2' := mD C' S'; obtain ⟨F', N', B', X', T', XB', TB', D', T0'⟩ := C'))
local macro_rules | `(tactic| walk_at "call ref") => `(tactic| (k_here; (with_reducible show wpAny _ _ (call (Value.ref 169) _ _) _ _ _); refine' set_prev ?C ?P ?S ?d ?f ?k ?x ?_; (case C => ktr_rel); (case P => assumption); (case S => assumption); (case d => first | omega | (dsimp only [Ar]; omega)); (case f => first | assumption | exact rfl); (case k => first | assumption | exact rfl); (case x => assumption); k_whole; intro h' tk' tl' C' S'; have j1' := mI C' S'; have j2' := mD C' S'; obtain ⟨F', N', B', X', T', XB', TB', D', T0'⟩ := C'))
local macro_rules | `(tactic| walk_at "compareOp Is ref ref") => `(tactic| (k_here; refine' is_nodes ?N ?S ?x ?y ?ne ?_; (case N => assumption); (case S => assumption); (case x => assumption); (case y => assumption); (case ne => first | assumption | (apply Ne.symm; assumption)); k_whole))
local macro_rules | `(tactic| walk_at "compareOp IsNot ref ref") => `(tactic| (k_here; refine' isNot_nodes ?N ?S ?x ?y ?ne ?_; (case N => assumption); (case S => assumption); (case x => assumption); (case y => assumption); (case ne => first | assumption | (apply Ne.symm; assumption)); k_whole))
local macro_rules | `(tactic| ktr_room) => `(tactic| (refine' codeS ?B ?F ?X ?N ?T ?XB ?TB ?D ?T0 ?kA ?hf ?hke ?k6 ?k7 ?k8 ?k9 ?kB ?_ ?c2 ?c3 ?c4 ?c5; (case F => assumption); (case N => assumption); (case B => assumption); (case X => assumption); (case T => assumption); (case XB => assumption); (case TB => assumption); (case D => assumption); (case T0 => assumption); (case kA => exact rfl); (case hf => first | assumption | exact rfl); (case hke => first | assumption | exact rfl); (case k6 => k_is); (case k7 => k_is); (case k8 => (show _ < recursionLimit; first | omega | (dsimp only [Ar]; omega) | (change _ + 1 < recursionLimit; dsimp only [Ar]; omega))); (case k9 => first | exact BindsTo.of_eq rfl | exact binds_K (inHeap (by assumption) (by assumption)) rfl (by k_is) rfl rfl rfl); (case kB => exact locs rfl); (case c2 => exact rfl); (case c3 => exact rfl); (case c4 => exact rfl); (case c5 => decide); k_whole))
local macro_rules | `(tactic| k_all) => `(tactic| exact allNe (by assumption))
local macro_rules | `(tactic| k_get) => `(tactic| assumption)
local macro_rules | `(tactic| k_handed) => `(tactic| assumption)
section
variable {w : World} {A₀ : Around} {base g₀ h₀ : Heap} {outer : List Env} {env : Env} {L : Addr} {m mg mb : Str → Option Value} {mean : ExcName → Option Value}
  {s : Shared} {pre tl : List (Addr × Obj)} {d u : Nat} {gs : Option (List Code)} {Q : Value → Shared → Prop} {E : Value → Shared → Prop}
  {mk dmk x y n p hh : Addr} {ids : List Addr} {da Ca : Addr → Addr} {at_ : Addr → Str → Option Value} {nx pv : Addr → Option Addr} {h : Heap}


theorem path_spec {v : Value} {expr : Bool} (C : Cx w A₀ base outer mean mg mb g₀ h₀ L s.heap m (pre ++ tl)) (S : NS tl mk dmk ids da Ca at_ nx pv) (hd : d + 5 < recursionLimit) (hf : env.frame = some L) (hke : env.scope.kind = .function) (hx : x ∈ ids) (hC : Ca x = 245) (ha : at_ x = routeAt v) (hv : handedIn v = true)
    (h : ∀ h' tk, Cx w A₀ base outer mean mg mb g₀ h₀ L h' m (pre ++ tl) → Q v { s with heap := h', toks := tk }) :
    wpAny (model PR w) (Ar d u (env :: outer) gs) (getAttr (.ref x) (Str.ofString "path") expr) Q E s := by
  obtain ⟨es, n, h1, h2⟩ := S.dict x hx
  have h3 := S.inst x hx
  rw [hC] at h3
  rw [ha] at h2
  have i1 : (x, instObj 245 (da x)) ∈ pre ++ tl := memR h3
  have i2 : (da x, dictOf es n) ∈ pre ++ tl := memR h1
  have i3 : getL (Str.ofString "_path") es = some (some v) := (h2.get _).trans (congrArg some routeAt_path)
  obtain ⟨F, N, B, X, T, XB, TB, D, T0⟩ := C
  refine get_prop F X (InstAt.of_news N i1 i2) (by k_is) (by k_is) (by k_is) (by k_is) (by k_is) (by k_is) ?_
  ktr_room
  intro g' L' h' F' N' B' X' T' D'
  have T1 : KtsTurn (frs (env :: outer)) g' g' := KtsTurn.refl
  (try dsimp only); (try k_fold)
  k_steps
  rw [handedOut_of hv]
  exact wpAny_pure (h _ _ ⟨by assumption, by assumption, B, X, T, XB, TB, D, T0⟩)
end
end MineN
namespace MineN
open Mine
/-- how a turn of a loop ends in which generators may run -/
def EndR (h₀ : Heap) (L : Addr) (J : (Str → Option Value) → List (Addr × Obj) → Prop) (own : List (Addr × Obj)) (s₁ : Shared) (Q : Flow → Shared → Prop) (f : Flow) (s₂ : Shared) : Prop :=
  match f with
  | .ret v => Q (.ret v) s₂
  | .brk => Q .next s₂
  | _ => ∃ h' tk gens' m' nx', s₂ = { s₁ with heap := h', toks := tk, gens := gens' } ∧ (AllBare s₁.gens → AllBare gens') ∧ Fr h₀ L h' m' ∧ News h₀ L h' (nx' ++ own) ∧ OwnOff own (nx'.map (·.1)) ∧ J m' nx'
section
variable {prog : Program} {w : World} {A : Around} {E : Value → Shared → Prop} {s : Shared} {env : Env} {h₀ : Heap} {xn : Str} {px : Pos} {body : List Stmt} {Q : Flow → Shared → Prop} {I : Addr} {n : Nat} {P : Nat → Value → Prop} {St : Nat → Heap → Prop} {fx nx₀ : List (Addr × Obj)} {m₀ : Str → Option Value}
def RState (h₀ : Heap) (L I : Addr) (n : Nat) (St : Nat → Heap → Prop) (J : Nat → (Str → Option Value) → List (Addr × Obj) → Prop) (s : Shared) (k : Nat) (s' : Shared) : Prop :=
  ∃ i m nx h tk gens oI, s' = { s with heap := h, toks := tk, gens := gens } ∧ (AllBare s.gens → AllBare gens) ∧ k = n - i ∧ i ≤ n ∧ J i m nx ∧ Fr h₀ L h m ∧ News h₀ L h (nx ++ [(I, oI)]) ∧ OwnOff [(I, oI)] (nx.map (·.1)) ∧ St i h
theorem own_loop (W : Walks prog w A I (I :: fx.map (·.1)) [I] n P St) (has : ∀ i h, St i h → ∃ o, h.get? I = some o) (J : Nat → (Str → Option Value) → List (Addr × Obj) → Prop)
    (hx : env.kindOf xn = some .local) (hp : (env.scope.kind == .class || (env.scope.kind == .module && env.locals != env.globals)) = false)
    (hE : PassesOwn (model prog w) A env E) (keep : ∀ i m nx, J i m nx → ∀ q ∈ fx, q ∈ nx) (hst : St 0 s.heap) (F : Fr h₀ env.locals s.heap m₀) (N : News h₀ env.locals s.heap nx₀) (hI0 : h₀.get? I = none) (hIL : I ≠ env.locals) (hIn : ∀ p ∈ nx₀, I ≠ p.1) (j0 : J 0 m₀ nx₀)
    (turn : ∀ i v m nx h tk gens own, i < n → P i v → J i m nx → OwnOff own (nx.map (·.1)) → (AllBare s.gens → AllBare gens) → Fr h₀ env.locals h (fun y => if y = xn then some v else m y) → News h₀ env.locals h (nx ++ own) →
      wpAny (model prog w) A (execs body env) (EndR h₀ env.locals (J (i + 1)) own { s with heap := h, toks := tk, gens := gens } Q) E { s with heap := h, toks := tk, gens := gens })
    (done : ∀ m nx h tk gens, J n m nx → (AllBare s.gens → AllBare gens) → Fr h₀ env.locals h m → News h₀ env.locals h nx → Q .next { s with heap := h, toks := tk, gens := gens }) :
    codeAny (model prog w) A (.forLoop (.Name xn px) (.ref I) body [] env) (fun r s' => match r with | .ok f => Q f s' | .error e => cameBackBy (model prog w) A env E e s') s := by
  obtain ⟨oI, hoI⟩ := has _ _ hst
  refine codeAny_forLoop (RState h₀ env.locals I n St J s) ?_ n ⟨0, m₀, nx₀, s.heap, s.toks, s.gens, oI, rfl, fun x => x, rfl, Nat.zero_le _, j0, F, fun p hp => ?_, fun p hp b hb => ?_, hst⟩ (by intro _; rfl)
  · rintro k s' ⟨i, m, nx, h, tk, gens, oI, rfl, hbr, rfl, hi, hJ, F1, N1, o1, st1⟩
    rcases Nat.lt_or_ge i n with hin | hin
    · refine W.item i _ _ _ hin st1 fun v h2 tk2 hP st2 hk2 => ?_
      obtain ⟨oI2, hoI2⟩ := has _ _ st2
      have F2 : Fr h₀ env.locals h2 m := by
        obtain ⟨oL, es, ep, g1, g2, g3, g4⟩ := F1.ns
        exact ⟨⟨oL, es, ep, hk2 _ _ (by simpa using Ne.symm hIL) g1, g2, g3, g4⟩, fun b o e => hk2 b o (by rintro hb; rw [List.mem_singleton.mp hb, hI0] at e; cases e) (F1.keep b o e), F1.above⟩
      have N2 : News h₀ env.locals h2 (nx ++ [(I, oI2)]) := fun p hp => by
        rcases List.mem_append.mp hp with hp | hp
        · refine ⟨hk2 _ _ (fun hb => ?_) (N1 p (List.mem_append_left _ hp)).1, (N1 p (List.mem_append_left _ hp)).2⟩
          exact o1 (I, oI) (by simp) p.1 (List.mem_map.mpr ⟨p, hp, rfl⟩) (List.mem_singleton.mp hb).symm
        · rw [List.mem_singleton.mp hp]; exact ⟨hoI2, hIL, hI0⟩
      refine wpAny_assign_Name (wpAny_storeName_local hx F2.ns (fun h3 hn3 hs3 => ?_) hp)
      have F3 := F2.set hn3 hs3
      have N3 := N2.set hs3
      have o3 : OwnOff [(I, oI2)] (nx.map (·.1)) := fun q hq => by
        rw [List.mem_singleton.mp hq]; exact o1 (I, oI) (by simp)
      refine wpAny_passesOwn hE (wpAny_mono (turn i v m nx h3 _ gens [(I, oI2)] hin hP hJ o3 hbr F3 N3) (fun f s₃ hf3 => ?_) fun _ _ e => e)
      have fin : ∀ h' tk' gens' m' nx', (AllBare gens → AllBare gens') → Fr h₀ env.locals h' m' → News h₀ env.locals h' (nx' ++ [(I, oI2)]) → OwnOff [(I, oI2)] (nx'.map (·.1)) → J (i + 1) m' nx' →
          ∃ m', m' < n - i ∧ RState h₀ env.locals I n St J s m' { s with heap := h', toks := tk', gens := gens' } := by
        intro h' tk' gens' m' nx' hb' F' N' o' J'
        refine ⟨n - (i + 1), by omega, i + 1, m', nx', h', tk', gens', oI2, rfl, fun x => hb' (hbr x), rfl, hin, J', F', N', o', W.frame _ _ _ st2 fun b hb o e => ?_⟩
        rcases List.mem_cons.mp hb with hbI | hb
        · rw [hbI, hoI2] at e
          cases e
          rw [hbI]
          exact (N' (I, oI2) (List.mem_append_right _ (by simp))).1
        · obtain ⟨q, hq, rfl⟩ := List.mem_map.mp hb
          have h1 := (N2 q (List.mem_append_left _ (keep _ _ _ hJ q hq))).1
          rw [h1] at e
          cases e
          exact (N' q (List.mem_append_left _ (keep _ _ _ J' q hq))).1
      cases f with
      | ret v => exact hf3
      | brk => exact hf3
      | next =>
        obtain ⟨h', tk', gens', m', nx', rfl, hb', F', N', o', J'⟩ := hf3
        exact fin h' tk' gens' m' nx' hb' F' N' o' J'
      | cont =>
        obtain ⟨h', tk', gens', m', nx', rfl, hb', F', N', o', J'⟩ := hf3
        exact fin h' tk' gens' m' nx' hb' F' N' o' J'
    · have : i = n := Nat.le_antisymm hi hin
      subst this
      refine W.done _ _ _ st1 fun h2 tk2 hk2 => wpAny_execs_nil (done m nx h2 tk2 gens hJ hbr ?_ fun p hp => ⟨hk2 _ _ (fun hb => ?_) (N1 p (List.mem_append_left _ hp)).1, (N1 p (List.mem_append_left _ hp)).2⟩)
      · obtain ⟨oL, es, ep, g1, g2, g3, g4⟩ := F1.ns
        exact ⟨⟨oL, es, ep, hk2 _ _ (by simpa using Ne.symm hIL) g1, g2, g3, g4⟩, fun b o e => hk2 b o (by rintro hb; rw [List.mem_singleton.mp hb, hI0] at e; cases e) (F1.keep b o e), F1.above⟩
      · exact o1 (I, oI) (by simp) p.1 (List.mem_map.mpr ⟨p, hp, rfl⟩) (List.mem_singleton.mp hb).symm
  · rcases List.mem_append.mp hp with hp | hp
    · exact N p hp
    · rw [List.mem_singleton.mp hp]; exact ⟨hoI, hIL, hI0⟩
  · rw [List.mem_singleton.mp hp]
    obtain ⟨q, hq, rfl⟩ := List.mem_map.mp hb
    exact hIn q hq
/-- a loop over range(b) in which generators may run -/
theorem rangeG {r : Addr} {b : Int} {t₀ u₀ v₀ : Tok} (J : Nat → (Str → Option Value) → List (Addr × Obj) → Prop)
    (hh : A.handled = none) (hr : IsRange s.heap r 0 b 1 t₀ u₀ v₀) (hsmall : Builtin.Range.small 0 b 1 = true) (hsz : Builtin.Range.rangeSize 0 b 1 = (n : Int)) (F : Fr h₀ env.locals s.heap m₀) (N : News h₀ env.locals s.heap nx₀) (hj : J 0 m₀ nx₀)
    (hx : env.kindOf xn = some .local) (hp : (env.scope.kind == .class || (env.scope.kind == .module && env.locals != env.globals)) = false)
    (hE : PassesOwn (model prog w) A env E)
    (turn : ∀ i t m nx h tk gens own, i < n → J i m nx → OwnOff own (nx.map (·.1)) → (AllBare s.gens → AllBare gens) → Fr h₀ env.locals h (fun y => if y = xn then some (.int (Int.ofNat i) t) else m y) → News h₀ env.locals h (nx ++ own) →
      wpAny (model prog w) A (execs body env) (EndR h₀ env.locals (J (i + 1)) own { s with heap := h, toks := tk, gens := gens } Q) E { s with heap := h, toks := tk, gens := gens })
    (done : ∀ m nx h tk gens, J n m nx → (AllBare s.gens → AllBare gens) → Fr h₀ env.locals h m → News h₀ env.locals h nx → Q .next { s with heap := h, toks := tk, gens := gens }) :
    wpAny (model prog w) A (pyIter (.ref r)) (fun it s₂ => codeAny (model prog w) A (.forLoop (.Name xn px) it body [] env) (fun r s' => match r with | .ok f => Q f s' | .error e => cameBackBy (model prog w) A env E e s') s₂) E s := by
  refine wpAny_pyIter_range hr hsmall ?_
  have W : Walks prog w A s.heap.objs.size [s.heap.objs.size] [s.heap.objs.size] n (fun i v => i < n ∧ ∃ t, v = .int (0 + i * 1) t)
      (fun i h => IsRangeIter h s.heap.objs.size (0 + (i : Nat) * 1) ((n : Int) - (i : Nat)) 1) := (Walks.range hh _ 0 1 n).bound
  refine own_loop (fx := []) W (fun i h hi => ⟨_, hi⟩) J hx hp hE (fun _ _ _ _ q hq => by cases hq) (by show IsRangeIter _ _ _ _ _; rw [hsz]; simpa using Heap.get?_push_size _ rfl) (F.push _) (fun p hp => ⟨Heap.get?_push_of_some _ (N p hp).1, (N p hp).2⟩) (next_is_new F)
    (fun e => absurd F.ns.lt (e ▸ Nat.lt_irrefl _)) (fun p hp e => absurd (Heap.lt_size (N p hp).1) (e ▸ Nat.lt_irrefl _)) hj ?_ done
  rintro i v m nx h tk gens own hi ⟨_, t, rfl⟩ hJ ho hb F1 N1
  have e1 : (0 : Int) + (i : Int) * 1 = Int.ofNat i := by
    show (0 : Int) + (i : Int) * 1 = (i : Int)
    omega
  rw [e1] at F1
  exact turn i t m nx h tk gens own hi hJ ho hb F1 N1
/-- a loop over a list of the ledger in which generators may run -/
theorem listG {l : Addr} {vs : List Value} {nn : Nat} (J : Nat → (Str → Option Value) → List (Addr × Obj) → Prop)
    (hh : A.handled = none) (hl : (l, listOf vs.toArray nn) ∈ nx₀) (F : Fr h₀ env.locals s.heap m₀) (N : News h₀ env.locals s.heap nx₀) (hj : J 0 m₀ nx₀) (keep : ∀ i m nx, J i m nx → (l, listOf vs.toArray nn) ∈ nx)
    (hx : env.kindOf xn = some .local) (hp : (env.scope.kind == .class || (env.scope.kind == .module && env.locals != env.globals)) = false)
    (hE : PassesOwn (model prog w) A env E)
    (turn : ∀ i v m nx h tk gens own, vs[i]? = some v → J i m nx → OwnOff own (nx.map (·.1)) → (AllBare s.gens → AllBare gens) → Fr h₀ env.locals h (fun y => if y = xn then some v else m y) → News h₀ env.locals h (nx ++ own) →
      wpAny (model prog w) A (execs body env) (EndR h₀ env.locals (J (i + 1)) own { s with heap := h, toks := tk, gens := gens } Q) E { s with heap := h, toks := tk, gens := gens })
    (done : ∀ m nx h tk gens, J vs.length m nx → (AllBare s.gens → AllBare gens) → Fr h₀ env.locals h m → News h₀ env.locals h nx → Q .next { s with heap := h, toks := tk, gens := gens }) :
    wpAny (model prog w) A (pyIter (.ref l)) (fun it s₂ => codeAny (model prog w) A (.forLoop (.Name xn px) it body [] env) (fun r s' => match r with | .ok f => Q f s' | .error e => cameBackBy (model prog w) A env E e s') s₂) E s := by
  have hol : s.heap.get? l = some (listOf vs.toArray nn) := (N _ hl).1
  have hls : s.heap.IsList l vs.toArray := ⟨_, hol, rfl, nn, rfl⟩
  have hne : l ≠ s.heap.objs.size := Nat.ne_of_lt (Heap.lt_size hol)
  refine wpAny_pyIter_list hls ?_
  have W := Walks.list (prog := prog) (w := w) hh s.heap.objs.size l hne vs.toArray
  have hlen : vs.toArray.size = vs.length := by simp
  rw [hlen] at W
  refine own_loop (fx := [(l, listOf vs.toArray nn)]) W (fun i h hi => ⟨_, hi.1.choose_spec.1⟩) J hx hp hE (fun i m nx hJ q hq => by rw [List.mem_singleton.mp hq]; exact keep i m nx hJ) ⟨⟨_, Heap.get?_push_size _ rfl, rfl, rfl⟩, hls.at fun o e => Heap.get?_push_of_some _ e⟩ (F.push _) (fun p hp => ⟨Heap.get?_push_of_some _ (N p hp).1, (N p hp).2⟩) (next_is_new F)
    (fun e => absurd F.ns.lt (e ▸ Nat.lt_irrefl _)) (fun p hp e => absurd (Heap.lt_size (N p hp).1) (e ▸ Nat.lt_irrefl _)) hj ?_ done
  intro i v m nx h tk gens own hi hP hJ ho hb F1 N1
  exact turn i v m nx h tk gens own (by simpa using hP) hJ ho hb F1 N1
end
end MineN
namespace MineN
open Mine
def upL (f : Addr → List Addr) (h : Addr) (l : List Addr) : Addr → List Addr := fun z => if z = h then l else f z
theorem upL_self {f : Addr → List Addr} {h : Addr} {l : List Addr} : upL f h l h = l := if_pos rfl
theorem upL_ne {f : Addr → List Addr} {h z : Addr} {l : List Addr} (e : z ≠ h) : upL f h l z = f z := if_neg e
theorem upL_upL {f : Addr → List Addr} {h : Addr} {l l' : List Addr} : upL (upL f h l) h l' = upL f h l' := by
  funext z; unfold upL; split <;> rfl
theorem upL_same {f : Addr → List Addr} {h : Addr} : upL f h (f h) = f := by
  funext z; unfold upL; split
  · rename_i e; rw [e]
  · rfl
/-- several rings: the heads hs, the nodes xs, what each ring holds; fs: nodes without links -/
structure Rings (hs xs fs : List Addr) (nx pv : Addr → Option Addr) (f : Addr → List Addr) : Prop where
  nd : (hs ++ xs).Nodup
  seg : ∀ h ∈ hs, Seg nx pv h (f h) h
  sub : ∀ h ∈ hs, ∀ y ∈ f h, y ∈ xs
  nod : ∀ h ∈ hs, (f h).Nodup
  dis : ∀ h ∈ hs, ∀ h' ∈ hs, ∀ y, y ∈ f h → y ∈ f h' → h = h'
  loose : ∀ y ∈ xs, (∀ h ∈ hs, y ∉ f h) → y ∉ fs → nx y = some y ∧ pv y = some y
section
variable {hs xs fs : List Addr} {nx pv nx' pv' : Addr → Option Addr} {f : Addr → List Addr} {h y : Addr} {l : List Addr}
theorem Rings.hx (R : Rings hs xs fs nx pv f) {h y : Addr} (hh : h ∈ hs) (hy : y ∈ xs) : h ≠ y := fun e => (List.nodup_append.mp R.nd).2.2 h hh y hy e
theorem Rings.off (R : Rings hs xs fs nx pv f) (hh : h ∈ hs) {h' : Addr} (hh' : h' ∈ hs) : h' ∉ f h := fun m => R.hx hh' (R.sub h hh h' m) rfl
theorem Rings.nodC (R : Rings hs xs fs nx pv f) (hh : h ∈ hs) : (h :: f h).Nodup := List.nodup_cons.mpr ⟨R.off hh hh, R.nod h hh⟩
/-- where only one ring and the nodes in it change -/
theorem Rings.turn (R : Rings hs xs fs nx pv f) (hh : h ∈ hs) {fs' : List Addr} (l' : List Addr) (sg : Seg nx' pv' h l' h) (sb : ∀ y ∈ l', y ∈ xs) (nn : l'.Nodup) (ds : ∀ y ∈ l', y ∉ f h → ∀ h' ∈ hs, y ∉ f h')
    (same : ∀ z, z ≠ h → z ∉ f h → z ∉ l' → nx' z = nx z ∧ pv' z = pv z) (lo : ∀ y ∈ xs, y ∉ l' → y ∉ fs' → (y ∈ f h → nx' y = some y ∧ pv' y = some y) ∧ (y ∉ f h → y ∉ fs)) : Rings hs xs fs' nx' pv' (upL f h l') where
  nd := R.nd
  seg h' hh' := by
    by_cases e : h' = h
    · subst e; rw [upL_self]; exact sg
    · rw [upL_ne e]
      have off : ∀ z ∈ h' :: f h', z ≠ h ∧ z ∉ f h ∧ z ∉ l' := fun z hz => by
        rcases List.mem_cons.mp hz with rfl | hz
        · exact ⟨e, R.off hh hh', fun m => R.hx hh' (sb _ m) rfl⟩
        · have a : z ∉ f h := fun m => e (R.dis h' hh' h hh z hz m)
          exact ⟨fun q => R.off hh' hh (q ▸ hz), a, fun m => ds z m a h' hh' hz⟩
      have sm : ∀ z ∈ h' :: f h', nx' z = nx z ∧ pv' z = pv z := fun z hz => same z (off z hz).1 (off z hz).2.1 (off z hz).2.2
      exact (R.seg h' hh').frame (fun z hz => (sm z hz).1) (fun z hz => (sm z (.tail _ hz)).2) (sm h' (.head _)).2
  sub h' hh' y hy := by
    by_cases e : h' = h
    · subst e; rw [upL_self] at hy; exact sb y hy
    · rw [upL_ne e] at hy; exact R.sub h' hh' y hy
  nod h' hh' := by
    by_cases e : h' = h
    · subst e; rw [upL_self]; exact nn
    · rw [upL_ne e]; exact R.nod h' hh'
  dis a ha b hb y hy1 hy2 := by
    by_cases e1 : a = h
    · by_cases e2 : b = h
      · rw [e1, e2]
      · subst e1
        rw [upL_self] at hy1
        rw [upL_ne e2] at hy2
        by_cases q : y ∈ f a
        · exact R.dis a ha b hb y q hy2
        · exact absurd hy2 (ds y hy1 q b hb)
    · rw [upL_ne e1] at hy1
      by_cases e2 : b = h
      · subst e2
        rw [upL_self] at hy2
        by_cases q : y ∈ f b
        · exact R.dis a ha b hb y hy1 q
        · exact absurd hy1 (ds y hy2 q a ha)
      · rw [upL_ne e2] at hy2
        exact R.dis a ha b hb y hy1 hy2
  loose y hy ho hf := by
    have h1 : y ∉ l' := fun m => ho h hh (by rw [upL_self]; exact m)
    obtain ⟨o1, o2⟩ := lo y hy h1 hf
    by_cases q : y ∈ f h
    · exact o1 q
    · obtain ⟨s1, s2⟩ := same y (fun e => R.hx hh hy e.symm) q h1
      rw [s1, s2]
      refine R.loose y hy (fun h' hh' => ?_) (o2 q)
      by_cases e : h' = h
      · rw [e]; exact q
      · have := ho h' hh'
        rw [upL_ne e] at this
        exact this
theorem Rings.append (R : Rings hs xs fs nx pv f) (hh : h ∈ hs) (hy : y ∈ xs) (ho : ∀ h' ∈ hs, y ∉ f h') (hfs : ∀ z ∈ fs, z = y) :
    ∃ p, p ∈ hs ++ xs ∧ pv h = some p ∧ y ≠ h ∧ (y ∉ fs → nx y = some y ∧ pv y = some y) ∧ Rings hs xs [] (upO (upO nx y h) p y) (upO (upO pv h y) y p) (upL f h (f h ++ [y])) := by
  obtain ⟨p, p1, p2, p3⟩ := (R.seg h hh).last
  have hyh : y ≠ h := (R.hx hh hy).symm
  have hym : y ∉ h :: f h := fun m => (List.mem_cons.mp m).elim hyh (ho h hh)
  have hpi : p ∈ hs ++ xs := by
    rcases List.mem_cons.mp p1 with rfl | m
    · exact List.mem_append_left _ hh
    · exact List.mem_append_right _ (R.sub h hh p m)
  refine ⟨p, hpi, p2, hyh, R.loose y hy ho, R.turn hh _ ((R.seg h hh).snoc p2 p1 hym hyh (R.off hh hh) (R.nodC hh)) (fun z hz => ?_) ?_ (fun z hz hq => ?_) (fun z a b c => ?_) fun z hz a _ => ⟨fun q => absurd (List.mem_append_left _ q) a, fun _ m => a (by rw [hfs z m]; simp)⟩⟩
  · rcases List.mem_append.mp hz with hz | hz
    · exact R.sub h hh z hz
    · rw [List.mem_singleton.mp hz]; exact hy
  · refine List.nodup_append.mpr ⟨R.nod h hh, by simp, fun a ha b hb e => ?_⟩
    rw [List.mem_singleton.mp hb] at e
    exact ho h hh (e ▸ ha)
  · rcases List.mem_append.mp hz with hz | hz
    · exact absurd hz hq
    · rw [List.mem_singleton.mp hz]; exact ho
  · have zy : z ≠ y := fun e => c (by rw [e]; simp)
    have zp : z ≠ p := fun e => by
      rcases List.mem_cons.mp p1 with q | q
      · exact a (e.trans q)
      · exact b (e ▸ q)
    rw [upO_ne' zp, upO_ne' zy, upO_ne' zy, upO_ne' a]; exact ⟨rfl, rfl⟩
theorem Rings.prepend (R : Rings hs xs [] nx pv f) (hh : h ∈ hs) (hy : y ∈ xs) (ho : ∀ h' ∈ hs, y ∉ f h') :
    ∃ p, p ∈ hs ++ xs ∧ nx h = some p ∧ y ≠ h ∧ (nx y = some y ∧ pv y = some y) ∧ Rings hs xs [] (upO (upO nx h y) y p) (upO (upO pv y h) p y) (upL f h (y :: f h)) := by
  obtain ⟨p, p1, p2, p3⟩ := (R.seg h hh).first
  have hyh : y ≠ h := (R.hx hh hy).symm
  have hym : y ∉ h :: f h := fun m => (List.mem_cons.mp m).elim hyh (ho h hh)
  have hpi : p ∈ hs ++ xs := by
    rcases List.mem_cons.mp p1 with rfl | m
    · exact List.mem_append_left _ hh
    · exact List.mem_append_right _ (R.sub h hh p m)
  refine ⟨p, hpi, p2, hyh, R.loose y hy ho (by simp), R.turn hh _ ((R.seg h hh).push p2 hym hyh (R.off hh hh) (R.nodC hh) rfl) (fun z hz => ?_) ?_ (fun z hz hq => ?_) (fun z a b c => ?_) fun z hz a b => ⟨fun q => absurd (List.mem_cons_of_mem _ q) a, fun _ => b⟩⟩
  · rcases List.mem_cons.mp hz with rfl | hz
    · exact hy
    · exact R.sub h hh z hz
  · exact List.nodup_cons.mpr ⟨ho h hh, R.nod h hh⟩
  · rcases List.mem_cons.mp hz with rfl | hz
    · exact ho
    · exact absurd hz hq
  · have zy : z ≠ y := fun e => c (by rw [e]; simp)
    have zp : z ≠ p := fun e => by
      rcases List.mem_cons.mp p1 with q | q
      · exact a (e.trans q)
      · exact b (e ▸ q)
    rw [upO_ne' zy, upO_ne' a, upO_ne' zp, upO_ne' zy]; exact ⟨rfl, rfl⟩
theorem Rings.drop (R : Rings hs xs [] nx pv f) (hh : h ∈ hs) (e : f h = y :: l) :
    ∃ n, n ∈ hs ++ xs ∧ nx h = some y ∧ y ∈ xs ∧ y ≠ h ∧ nx y = some n ∧ pv y = some h ∧ n ≠ y ∧ Rings hs xs [] (upO (upO nx h n) y y) (upO (upO pv n h) y y) (upL f h l) := by
  have sg := R.seg h hh
  have nd := R.nodC hh
  rw [e] at sg nd
  have hy : y ∈ xs := R.sub h hh y (by rw [e]; simp)
  have hyh : y ≠ h := (R.hx hh hy).symm
  obtain ⟨⟨s1, s2⟩, r⟩ := id sg
  obtain ⟨n, n1, n2, n3⟩ := r.first
  have nn := List.nodup_cons.mp (List.nodup_cons.mp nd).2
  have hny : n ≠ y := fun q => by
    rcases List.mem_cons.mp n1 with a | a
    · exact hyh (q.symm.trans a)
    · exact nn.1 (q ▸ a)
  have hni : n ∈ hs ++ xs := by
    rcases List.mem_cons.mp n1 with rfl | m
    · exact List.mem_append_left _ hh
    · exact List.mem_append_right _ (R.sub h hh n (by rw [e]; exact .tail _ m))
  refine ⟨n, hni, s1, hy, hyh, n2, s2, hny, R.turn hh l (sg.drop n2 nd) (fun z hz => R.sub h hh z (by rw [e]; exact .tail _ hz)) nn.2 (fun z hz hq => absurd (by rw [e]; exact .tail _ hz) hq) (fun z a b c => ?_) fun z hz a b => ⟨fun q => ?_, fun _ => b⟩⟩
  · have zy : z ≠ y := fun q => b (by rw [e, q]; simp)
    have zn : z ≠ n := fun q => by
      rcases List.mem_cons.mp n1 with w | w
      · exact a (q.trans w)
      · exact c (q ▸ w)
    rw [upO_ne' zy, upO_ne' a, upO_ne' zy, upO_ne' zn]; exact ⟨rfl, rfl⟩
  · rw [e] at q
    rcases List.mem_cons.mp q with rfl | q
    · exact ⟨upO_self .., upO_self ..⟩
    · exact absurd q a
theorem Rings.emp (R : Rings hs xs fs nx pv f) (hh : h ∈ hs) (e : f h = []) : nx h = some h ∧ pv h = some h := by
  have := R.seg h hh
  rw [e] at this
  exact this
/-- a new node -/
theorem Rings.ext (R : Rings hs xs [] nx pv f) (hy : y ∉ hs ++ xs) (e : ∀ z ∈ hs ++ xs, nx' z = nx z ∧ pv' z = pv z) : Rings hs (xs ++ [y]) [y] nx' pv' f where
  nd := by
    rw [← List.append_assoc]
    exact List.nodup_append.mpr ⟨R.nd, by simp, fun a ha b hb q => hy (by rw [List.mem_singleton.mp hb] at q; exact q ▸ ha)⟩
  seg h hh := (R.seg h hh).frame (fun z hz => (e z (by
      rcases List.mem_cons.mp hz with rfl | hz
      · exact List.mem_append_left _ hh
      · exact List.mem_append_right _ (R.sub h hh z hz))).1) (fun z hz => (e z (List.mem_append_right _ (R.sub h hh z hz))).2) (e h (List.mem_append_left _ hh)).2
  sub h hh z hz := List.mem_append_left _ (R.sub h hh z hz)
  nod := R.nod
  dis := R.dis
  loose z hz ho hf := by
    rcases List.mem_append.mp hz with hz | hz
    · obtain ⟨a, b⟩ := e z (List.mem_append_right _ hz)
      rw [a, b]
      exact R.loose z hz ho (by simp)
    · exact absurd hz hf
end
end MineN
namespace MineN
open Mine
theorem NS.filt {tl : List (Addr × Obj)} {mk dmk : Addr} {ids : List Addr} {da Ca : Addr → Addr} {at_ : Addr → Str → Option Value} {nx pv : Addr → Option Addr} (S : NS tl mk dmk ids da Ca at_ nx pv) (f : Addr → Bool)
    (h1 : f mk = true) (h2 : f dmk = true) (h3 : ∀ x ∈ ids, f x = true) (h4 : ∀ x ∈ ids, f (da x) = true) : NS (tl.filter fun q => f q.1) mk dmk ids da Ca at_ nx pv where
  mkI := List.mem_filter.mpr ⟨S.mkI, h1⟩
  mkD := List.mem_filter.mpr ⟨S.mkD, h2⟩
  mkS := S.mkS
  inst x hx := List.mem_filter.mpr ⟨S.inst x hx, h3 x hx⟩
  dict x hx := by
    obtain ⟨es, n, a, b⟩ := S.dict x hx
    exact ⟨es, n, List.mem_filter.mpr ⟨a, h4 x hx⟩, b⟩
  cls := S.cls
  inj := S.inj
  sep := S.sep
  kinds p hp := S.kinds p (List.mem_filter.mp hp).1
theorem off_news {h₀ h : Heap} {L mk dmk : Addr} {pre tl : List (Addr × Obj)} {ids : List Addr} {da Ca : Addr → Addr} {at_ : Addr → Str → Option Value} {nx pv : Addr → Option Addr}
    (N : News h₀ L h (pre ++ tl)) (S : NS tl mk dmk ids da Ca at_ nx pv) (hk : ∀ p ∈ pre, isND p.2 = false) : Off pre da ids := fun p hp x hx e => by
  obtain ⟨es, n, a, _⟩ := S.dict x hx
  have e1 := (N p (List.mem_append_left _ hp)).1
  have e2 := (N _ (List.mem_append_right _ a)).1
  rw [e] at e1
  have := Option.some.inj (e1.symm.trans e2)
  have q := hk p hp
  rw [this] at q
  cases q
/-- the nodes: what does not change -/
structure NC where
  (mt dmt : Addr) (hs : List Addr) (da Ca ta : Addr → Addr) (at_ : Addr → Str → Option Value)
structure NC.St (c : NC) (xs fs : List Addr) (tl : List (Addr × Obj)) (nx pv : Addr → Option Addr) (f : Addr → List Addr) : Prop where
  S : NS tl c.mt c.dmt (c.hs ++ xs) c.da c.Ca c.at_ nx pv
  R : Rings c.hs xs fs nx pv f
  hd : ∀ h ∈ c.hs, c.Ca h = 108 ∧ c.at_ h = listAt c.mt h
  nd : ∀ y ∈ xs, c.Ca y = 245 ∧ c.at_ y = routeAt (.ref (c.ta y))
section
variable {w : World} {A₀ : Around} {base g₀ h₀ : Heap} {outer : List Env} {env : Env} {L : Addr} {m mg mb : Str → Option Value} {mean : ExcName → Option Value}
  {s : Shared} {fx tl own : List (Addr × Obj)} {d u : Nat} {gs : Option (List Code)} {Q : Value → Shared → Prop} {E : Value → Shared → Prop}
  {c : NC} {xs fs l : List Addr} {nx pv : Addr → Option Addr} {f : Addr → List Addr} {h y : Addr}
theorem NC.St.H (Z : c.St xs fs tl nx pv f) (hh : h ∈ c.hs) : Hd c.mt (c.hs ++ xs) c.Ca c.at_ h := ⟨List.mem_append_left _ hh, (Z.hd h hh).1, (Z.hd h hh).2⟩
theorem pre_own (C : Cx w A₀ base outer mean mg mb g₀ h₀ L s.heap m (fx ++ tl ++ own)) (hk : ∀ p ∈ fx, isND p.2 = false) (ho : OwnOff own (tl.map (·.1))) (Z : c.St xs fs tl nx pv f) :
    Cx w A₀ base outer mean mg mb g₀ h₀ L s.heap m ((fx ++ own) ++ tl) ∧ Off (fx ++ own) c.da (c.hs ++ xs) := by
  refine ⟨⟨C.F, news_sub C.N fun p hp => by simp only [List.mem_append] at hp ⊢; grind, C.B, C.X, C.T, C.XB, C.TB, C.D, C.T0⟩, fun p hp x hx => ?_⟩
  rcases List.mem_append.mp hp with hp | hp
  · exact off_news (pre := fx) (news_sub C.N fun p hp => List.mem_append_left _ hp) Z.S hk p hp x hx
  · obtain ⟨es, k, a, _⟩ := Z.S.dict x hx
    exact ho p hp _ (List.mem_map.mpr ⟨_, a, rfl⟩)
theorem post_own {h' : Heap} {ids : List Addr} {tl' : List (Addr × Obj)} {nx' pv' : Addr → Option Addr} (C : Cx w A₀ base outer mean mg mb g₀ h₀ L h' m ((fx ++ own) ++ tl')) (S' : NS tl' c.mt c.dmt ids c.da c.Ca c.at_ nx' pv') (ho : OwnOff own (tl.map (·.1))) (S : NS tl c.mt c.dmt ids c.da c.Ca c.at_ nx pv) :
    ∃ tl2, Cx w A₀ base outer mean mg mb g₀ h₀ L h' m (fx ++ tl2 ++ own) ∧ OwnOff own (tl2.map (·.1)) ∧ NS tl2 c.mt c.dmt ids c.da c.Ca c.at_ nx' pv' := by
  let f : Addr → Bool := fun a => own.all fun q => q.1 != a
  have ft : ∀ {q : Addr × Obj}, q ∈ tl → f q.1 = true := fun {q} hq => List.all_eq_true.mpr fun r hr => by
    have := ho r hr q.1 (List.mem_map.mpr ⟨_, hq, rfl⟩)
    simpa using this
  refine ⟨tl'.filter fun q => f q.1, ⟨C.F, news_sub C.N fun q hq => ?_, C.B, C.X, C.T, C.XB, C.TB, C.D, C.T0⟩, fun q hq b hb => ?_, NS.filt S' f (ft S.mkI) (ft S.mkD) (fun x hx => ft (S.inst x hx)) fun x hx => ?_⟩
  · simp only [List.mem_append, List.mem_filter] at hq ⊢; grind
  · obtain ⟨r, hr, rfl⟩ := List.mem_map.mp hb
    have := List.all_eq_true.mp (List.mem_filter.mp hr).2 q hq
    simpa using this
  · obtain ⟨es, k, a, _⟩ := S.dict x hx
    exact ft a
theorem app_op (C : Cx w A₀ base outer mean mg mb g₀ h₀ L s.heap m (fx ++ tl ++ own)) (hk : ∀ p ∈ fx, isND p.2 = false) (ho : OwnOff own (tl.map (·.1))) (Z : c.St xs [] tl nx pv f) (hh : h ∈ c.hs) (hy : y ∈ xs) (off : ∀ h' ∈ c.hs, y ∉ f h')
    (hd : d + 8 < recursionLimit) (hf : env.frame = some L) (hke : env.scope.kind = .function)
    (k : ∀ h' tk tl' nx' pv', Cx w A₀ base outer mean mg mb g₀ h₀ L h' m (fx ++ tl' ++ own) → OwnOff own (tl'.map (·.1)) → c.St xs [] tl' nx' pv' (upL f h (f h ++ [y])) → Q .none { s with heap := h', toks := tk }) :
    wpAny (model PR w) (Ar d u (env :: outer) gs) (call (.ref 70) [.ref h, .ref y] []) Q E s := by
  obtain ⟨C1, P⟩ := pre_own C hk ho Z
  obtain ⟨p, p1, p2, p3, p4, R'⟩ := Z.R.append hh hy off (by simp)
  obtain ⟨p5, p6⟩ := p4 (by simp)
  refine append1 C1 P Z.S hd hf hke (Z.H hh) (List.mem_append_right _ hy) p1 p3 p2 p5 p6 fun h' tk tl' C' S' => ?_
  obtain ⟨tl2, C2, o2, S2⟩ := post_own C' S' ho Z.S
  exact k _ _ _ _ _ C2 o2 ⟨S2, R', Z.hd, Z.nd⟩
theorem prep_op (C : Cx w A₀ base outer mean mg mb g₀ h₀ L s.heap m (fx ++ tl ++ own)) (hk : ∀ p ∈ fx, isND p.2 = false) (ho : OwnOff own (tl.map (·.1))) (Z : c.St xs [] tl nx pv f) (hh : h ∈ c.hs) (hy : y ∈ xs) (off : ∀ h' ∈ c.hs, y ∉ f h')
    (hd : d + 8 < recursionLimit) (hf : env.frame = some L) (hke : env.scope.kind = .function)
    (k : ∀ h' tk tl' nx' pv', Cx w A₀ base outer mean mg mb g₀ h₀ L h' m (fx ++ tl' ++ own) → OwnOff own (tl'.map (·.1)) → c.St xs [] tl' nx' pv' (upL f h (y :: f h)) → Q .none { s with heap := h', toks := tk }) :
    wpAny (model PR w) (Ar d u (env :: outer) gs) (call (.ref 77) [.ref h, .ref y] []) Q E s := by
  obtain ⟨C1, P⟩ := pre_own C hk ho Z
  obtain ⟨p, p1, p2, p3, p4, R'⟩ := Z.R.prepend hh hy off
  refine prepend1 C1 P Z.S hd hf hke (Z.H hh) (List.mem_append_right _ hy) p1 p3 p2 p4.1 p4.2 fun h' tk tl' C' S' => ?_
  obtain ⟨tl2, C2, o2, S2⟩ := post_own C' S' ho Z.S
  exact k _ _ _ _ _ C2 o2 ⟨S2, R', Z.hd, Z.nd⟩
theorem rem_op (C : Cx w A₀ base outer mean mg mb g₀ h₀ L s.heap m (fx ++ tl ++ own)) (hk : ∀ p ∈ fx, isND p.2 = false) (ho : OwnOff own (tl.map (·.1))) (Z : c.St xs [] tl nx pv f) (hh : h ∈ c.hs) (e : f h = y :: l)
    (hd : d + 8 < recursionLimit) (hf : env.frame = some L) (hke : env.scope.kind = .function)
    (k : ∀ h' tk tl' nx' pv', Cx w A₀ base outer mean mg mb g₀ h₀ L h' m (fx ++ tl' ++ own) → OwnOff own (tl'.map (·.1)) → c.St xs [] tl' nx' pv' (upL f h l) → Q .none { s with heap := h', toks := tk }) :
    wpAny (model PR w) (Ar d u (env :: outer) gs) (call (.ref 91) [.ref h, .ref y] []) Q E s := by
  obtain ⟨C1, P⟩ := pre_own C hk ho Z
  obtain ⟨n, p1, p2, p3, p4, p5, p6, p7, R'⟩ := Z.R.drop hh e
  refine remove_on C1 P Z.S hd hf hke (Z.H hh) (List.mem_append_right _ p3) p1 (List.mem_append_left _ hh) p7 p5 p6 fun h' tk tl' C' S' => ?_
  obtain ⟨tl2, C2, o2, S2⟩ := post_own C' S' ho Z.S
  exact k _ _ _ _ _ C2 o2 ⟨S2, R', Z.hd, Z.nd⟩
theorem pop_op (C : Cx w A₀ base outer mean mg mb g₀ h₀ L s.heap m (fx ++ tl ++ own)) (hk : ∀ p ∈ fx, isND p.2 = false) (ho : OwnOff own (tl.map (·.1))) (Z : c.St xs [] tl nx pv f) (hh : h ∈ c.hs) (e : f h = y :: l)
    (hd : d + 9 < recursionLimit) (hf : env.frame = some L) (hke : env.scope.kind = .function)
    (k : ∀ h' tk tl' nx' pv', Cx w A₀ base outer mean mg mb g₀ h₀ L h' m (fx ++ tl' ++ own) → OwnOff own (tl'.map (·.1)) → c.St xs [] tl' nx' pv' (upL f h l) → Q (.ref y) { s with heap := h', toks := tk }) :
    wpAny (model PR w) (Ar d u (env :: outer) gs) (call (.ref 98) [.ref h] []) Q E s := by
  obtain ⟨C1, P⟩ := pre_own C hk ho Z
  obtain ⟨n, p1, p2, p3, p4, p5, p6, p7, R'⟩ := Z.R.drop hh e
  refine pop_some C1 P Z.S hd hf hke (Z.H hh) (List.mem_append_right _ p3) p4 p2 p1 (List.mem_append_left _ hh) p7 p5 p6 fun h' tk tl' C' S' => ?_
  obtain ⟨tl2, C2, o2, S2⟩ := post_own C' S' ho Z.S
  exact k _ _ _ _ _ C2 o2 ⟨S2, R', Z.hd, Z.nd⟩
theorem popN_op (C : Cx w A₀ base outer mean mg mb g₀ h₀ L s.heap m (fx ++ tl ++ own)) (hk : ∀ p ∈ fx, isND p.2 = false) (ho : OwnOff own (tl.map (·.1))) (Z : c.St xs [] tl nx pv f) (hh : h ∈ c.hs) (e : f h = [])
    (hd : d + 9 < recursionLimit) (hf : env.frame = some L) (hke : env.scope.kind = .function)
    (k : ∀ h' tk tl' nx' pv', Cx w A₀ base outer mean mg mb g₀ h₀ L h' m (fx ++ tl' ++ own) → OwnOff own (tl'.map (·.1)) → c.St xs [] tl' nx' pv' f → Q .none { s with heap := h', toks := tk }) :
    wpAny (model PR w) (Ar d u (env :: outer) gs) (call (.ref 98) [.ref h] []) Q E s := by
  obtain ⟨C1, P⟩ := pre_own C hk ho Z
  obtain ⟨p1, p2⟩ := Z.R.emp hh e
  refine pop_none C1 P Z.S hd hf hke (Z.H hh) p1 fun h' tk tl' C' S' => ?_
  obtain ⟨tl2, C2, o2, S2⟩ := post_own C' S' ho Z.S
  exact k _ _ _ _ _ C2 o2 ⟨S2, Z.R, Z.hd, Z.nd⟩
theorem empty_op (C : Cx w A₀ base outer mean mg mb g₀ h₀ L s.heap m (fx ++ tl ++ own)) (hk : ∀ p ∈ fx, isND p.2 = false) (ho : OwnOff own (tl.map (·.1))) (Z : c.St xs [] tl nx pv f) (hh : h ∈ c.hs) (e : f h = [])
    (hd : d + 8 < recursionLimit) (hf : env.frame = some L) (hke : env.scope.kind = .function)
    (k : ∀ h' tk tl' nx' pv', Cx w A₀ base outer mean mg mb g₀ h₀ L h' m (fx ++ tl' ++ own) → OwnOff own (tl'.map (·.1)) → c.St xs [] tl' nx' pv' f → Q (.bool true) { s with heap := h', toks := tk }) :
    wpAny (model PR w) (Ar d u (env :: outer) gs) (call (.ref 49) [.ref h] []) Q E s := by
  obtain ⟨C1, P⟩ := pre_own C hk ho Z
  obtain ⟨p1, p2⟩ := Z.R.emp hh e
  refine is_empty_t C1 P Z.S hd hf hke (Z.H hh) p1 p2 fun h' tk tl' C' S' => ?_
  obtain ⟨tl2, C2, o2, S2⟩ := post_own C' S' ho Z.S
  exact k _ _ _ _ _ C2 o2 ⟨S2, Z.R, Z.hd, Z.nd⟩
theorem path_op {expr : Bool} (C : Cx w A₀ base outer mean mg mb g₀ h₀ L s.heap m (fx ++ tl ++ own)) (hk : ∀ p ∈ fx, isND p.2 = false) (ho : OwnOff own (tl.map (·.1))) (Z : c.St xs fs tl nx pv f) (hy : y ∈ xs)
    (hd : d + 5 < recursionLimit) (hf : env.frame = some L) (hke : env.scope.kind = .function)
    (k : ∀ h' tk, Cx w A₀ base outer mean mg mb g₀ h₀ L h' m (fx ++ tl ++ own) → Q (.ref (c.ta y)) { s with heap := h', toks := tk }) :
    wpAny (model PR w) (Ar d u (env :: outer) gs) (getAttr (.ref y) (Str.ofString "path") expr) Q E s := by
  obtain ⟨C1, P⟩ := pre_own C hk ho Z
  refine path_spec C1 Z.S hd hf hke (List.mem_append_right _ hy) (Z.nd y hy).1 (Z.nd y hy).2 rfl fun h' tk C' => ?_
  exact k _ _ ⟨C'.F, news_sub C'.N fun p hp => by simp only [List.mem_append] at hp ⊢; grind, C'.B, C'.X, C'.T, C'.XB, C'.TB, C'.D, C'.T0⟩
end
end MineN
namespace MineN
theorem rstH1 : True := by
  w_top off
  trivial
open Mine
theorem fillH1 : PySem.Challenge.rw_fc0145_01.Holds → (∀ w : World, (hd.heap_39 w.params).In default) → True := by
  k_fill
  intros
  trivial
local macro_rules | `(tactic| k_steps) => `(tactic| repeat' (first | (k_unfold; (try dsimp only)) | walk1 | (dsimp only; walk1) | fail "no step"))
local macro_rules | `(tactic| ktr_unf) => `(tactic| (refine wpAny_call ?_; refine' codeS ?B ?F ?X ?N ?T ?XB ?TB ?D ?T0 ?kA ?hf ?hke ?k6 ?k7 ?k8 ?k9 ?kB ?_ ?c2 ?c3 ?c4 ?c5; (case F => assumption); (case N => assumption); (case B => assumption); (case X => assumption); (case T => assumption); (case XB => assumption); (case TB => assumption); (case D => assumption); (case T0 => assumption); (case kA => exact rfl); (case hf => first | assumption | exact rfl); (case hke => first | assumption | exact rfl); (case k6 => k_is); (case k7 => k_is); (case k8 => (show _ < recursionLimit; first | omega | (dsimp only [Ar]; omega))); (case k9 => exact BindsTo.of_eq rfl); (case kB => exact locs rfl); (case c2 => exact rfl); (case c3 => exact rfl); (case c4 => exact rfl); (case c5 => decide); k_whole))
local macro_rules | `(tactic| ktr_rel) => `(tactic| exact ⟨by assumption, by assumption, by assumption, by assumption, by assumption, by assumption, by assumption, by assumption, by assumption⟩)
local macro_rules | `(tactic| walk_at "call ref") => `(tactic| (refine stopN ?_))
local macro_rules | `(tactic| walk_at "getAttr ref") => `(tactic| (refine stopN ?_))
local macro_rules | `(tactic| walk_at "pyIter ref") => `(tactic| (refine stopN ?_))
local macro_rules | `(tactic| walk_at "exec For") => `(tactic| (refine stopN ?_))
local macro_rules | `(tactic| walk_at "call builtin:list.append") => `(tactic| (refine stopN ?_))
local macro_rules | `(tactic| walk_at "call builtin:len") => `(tactic| (refine stopN ?_))
local macro_rules | `(tactic| walk_at "execs cons") => `(tactic| (dsimp only))
local macro_rules | `(tactic| walk_at "execs nil") => `(tactic| (dsimp only))
theorem mem_mid {α : Type} {a q : α} {p o t : List α} : q ∈ (a :: (p ++ o)) ++ t ↔ q ∈ a :: (p ++ t ++ o) := by
  simp only [List.mem_append, List.mem_cons]; grind
theorem mem_mid' {α : Type} {q : α} {p o t : List α} (h : q ∈ (p ++ o) ++ t) : q ∈ p ++ t ++ o := by
  simp only [List.mem_append] at h ⊢; grind
theorem seg_get {nx pv : Addr → Option Addr} {b : Addr} : ∀ {l : List Addr} {a : Addr}, Seg nx pv a l b → nx a = some ((l[0]?).getD b) ∧ ∀ (i : Nat) (x : Addr), l[i]? = some x → nx x = some ((l[i + 1]?).getD b)
  | [], a, h => ⟨h.1, fun i x e => by cases e⟩
  | c :: l, a, h => by
    obtain ⟨⟨h1, _⟩, r⟩ := h
    obtain ⟨r1, r2⟩ := seg_get r
    refine ⟨h1, fun i x e => ?_⟩
    cases i with
    | zero =>
      simp only [List.getElem?_cons_zero, Option.some.injEq] at e
      subst e
      simpa using r1
    | succ i =>
      simp only [List.getElem?_cons_succ] at e ⊢
      exact r2 i x e
section
variable {w : World} {A₀ : Around} {base g₀ h₀ : Heap} {outer : List Env} {env : Env} {L : Addr} {m mg mb : Str → Option Value} {mean : ExcName → Option Value}
  {s : Shared} {pre tl : List (Addr × Obj)} {d u : Nat} {gs : Option (List Code)} {Q : Value → Shared → Prop} {E : Value → Shared → Prop}
  {mk dmk hh : Addr} {ids l : List Addr} {da Ca ta : Addr → Addr} {at_ : Addr → Str → Option Value} {nx pv : Addr → Option Addr} {cn : Int} {t : Tok}
theorem row_spec (C : Cx w A₀ base outer mean mg mb g₀ h₀ L s.heap m (pre ++ tl)) (S : NS tl mk dmk ids da Ca at_ nx pv) (hd : d + 20 < recursionLimit) (hf : env.frame = some L) (hke : env.scope.kind = .function)
    (H : Hd mk ids Ca at_ hh) (hseg : Seg nx pv hh l hh) (hl : ∀ y ∈ l, y ∈ ids ∧ Ca y = 245 ∧ at_ y = routeAt (.ref (ta y))) (hln : (l.length : Int) ≤ cn) (hl9 : l.length ≤ 9)
    (h : ∀ h' tk gens r k, Cx w A₀ base outer mean mg mb g₀ h₀ L h' m ((r, listOf (l.map fun y => .ref (ta y)).toArray k) :: (pre ++ tl)) → (∀ q ∈ pre ++ tl, q.1 < r) → (AllBare s.gens → AllBare gens) → Q (.ref r) { s with heap := h', toks := tk, gens := gens }) :
    wpAny (model PR w) (Ar d u (env :: outer) gs) (call (.ref 256) [.ref hh, .int cn t] []) Q E s := by
  obtain ⟨F, N, B, X, T, XB, TB, D, T0⟩ := C
  ktr_unf
  intro g' L' h' F' N' B' X' T' D'
  have T1 : KtsTurn (frs (env :: outer)) g' g' := KtsTurn.refl
  (try dsimp only); (try k_fold)
  k_steps
  rename_i r h1 lr h2 F2 N2
  refine ⟨?_⟩
  refine wpAny_For ?_ (by intro _; rfl)
  k_steps
  refine ⟨?_⟩
  show wpAny (model PR w) (Ar _ _ (_ :: env :: outer) _) _ _ _ _
  have C2 : Cx w (Ar d u (env :: outer) gs) base (env :: outer) mean mg mb g' g' L' h2 _ (((r, listOf #[] 0) :: pre) ++ tl) := ⟨F2, N2, B', X', T', XB, TB, D', T1⟩
  refine list_loop l.length (fun i p m pre1 tl1 nx1 pv1 => tl1 = tl ∧ nx1 = nx ∧ pv1 = pv ∧ i ≤ l.length ∧ p = (l[i]?).getD hh ∧ (∃ k, pre1 = (r, listOf ((l.take i).map fun y => Value.ref (ta y)).toArray k) :: pre) ∧
      m (Str.ofString "row") = some (.ref r) ∧ m (Str.ofString "count") = some (.int cn t))
    C2 S ?_ rfl rfl H rfl rfl (by passes_own) ?_ ?_ ?_ ?_
  · show d + 1 + 14 < recursionLimit
    omega
  · rintro i p m1 pre1 tl1 nx1 pv1 ⟨rfl, rfl, rfl, hi, rfl, _, _, _⟩
    refine ⟨S, ?_, ?_, hi, fun e => ?_⟩
    · cases e : l[i]? with
      | none => exact H.mem
      | some x => exact (hl x (List.mem_of_getElem? e)).1
    · cases e : l[i]? with
      | none => exact ⟨_, (seg_get hseg).1⟩
      | some x => exact ⟨_, (seg_get hseg).2 i x e⟩
    · rw [e, List.getElem?_eq_none (Nat.le_refl _)]; rfl
  · exact ⟨_, (seg_get hseg).1, rfl, rfl, rfl, Nat.zero_le _, rfl, ⟨0, rfl⟩, rfl, rfl⟩
  · rintro i p y m1 pre1 tl1 nx1 pv1 h3 tk3 gens3 own ⟨rfl, rfl, rfl, hi, hp, ⟨k, rfl⟩, hmr, hmc⟩ hne hy hoff hbr F3 N3
    have hil : i < l.length := by
      rcases Nat.lt_or_ge i l.length with h | h
      · exact h
      · rw [List.getElem?_eq_none h] at hp
        exact absurd hp hne
    have hpi : l[i]? = some p := by
      rw [List.getElem?_eq_getElem hil] at hp ⊢
      exact congrArg some hp.symm
    have hyy : y = (l[i + 1]?).getD hh := by
      have := (seg_get hseg).2 i p hpi
      rw [hy] at this
      exact Option.some.inj this
    obtain ⟨q1, q2, q3⟩ := hl p (List.mem_of_getElem? hpi)
    rw [← kn_eq [(Str.ofString "row", .ref r), (Str.ofString "count", .int cn t)] (allC (P := fun p => m1 p.1 = some p.2) hmr (all1 (P := fun p => m1 p.1 = some p.2) hmc))] at F3
    dsimp only [kn] at F3
    have N4 : News g' L' h3 ((r, listOf ((l.take i).map fun y => Value.ref (ta y)).toArray k) :: (pre ++ tl1 ++ own)) := N3
    have hro : ∀ q ∈ pre ++ tl1 ++ own, q.1 ≠ r := fun q hq => by
      rcases List.mem_append.mp hq with hq | hq
      · exact Nat.ne_of_lt (lr q hq)
      · exact hoff q hq r (by simp)
    k_steps
    refine ⟨?_⟩
    have C3 : Cx w (Ar d u (env :: outer) gs) base (env :: outer) mean mg mb g' g' L' h3 _ (((r, listOf ((l.take i).map fun y => Value.ref (ta y)).toArray k) :: (pre ++ own)) ++ tl1) := ⟨F3, news_sub N4 (fun q hq => mem_mid.mp hq), B', X', T', XB, TB, D', T1⟩
    refine path_spec (outer := env :: outer) C3 S (by omega) rfl rfl q1 q2 q3 rfl fun h4 tk4 C4 => ?_
    obtain ⟨F5, N5, _, _, _, _, _, _, _⟩ := C4
    k_steps
    refine ⟨?_⟩
    refine append_K F5 N5 (.head fun q hq => hro q (mem_mid' hq)) (fun h5 F6 N6 => ?_) (by rw [List.size_toArray, List.length_map, List.length_take]; exact Nat.le_trans (Nat.min_le_right _ _) (Nat.le_trans hl9 (by decide)))
    k_steps
    refine ⟨?_⟩
    refine KM.len_K N6 (.head _) (n := i + 1) (by rw [Array.size_push, List.size_toArray, List.length_map, List.length_take]; omega) (by omega) ?_
    k_steps
    refine ⟨h5, _, _, (r, listOf ((l.take (i + 1)).map fun y => Value.ref (ta y)).toArray (k + 1)) :: pre, tl1, nx1, pv1, rfl, F6, ?_, fun q hq b hb => ?_, rfl, rfl, rfl, by omega, hyy, ⟨_, rfl⟩, rfl, rfl⟩
    · have e : (((l.take i).map fun y => Value.ref (ta y)).toArray.push (Value.ref (ta p))) = ((l.take (i + 1)).map fun y => Value.ref (ta y)).toArray := by
        rw [List.take_add_one, hpi, List.map_append]
        simp
      rw [e] at N6
      exact news_sub N6 fun q hq => mem_mid.mpr hq
    · exact hoff q hq b hb
  · rintro i m1 pre1 tl1 nx1 pv1 h3 tk3 gens3 ⟨rfl, rfl, rfl, hi, hp, ⟨k, rfl⟩, hmr, hmc⟩ hbr F3 N3
    rw [← kn_eq [(Str.ofString "row", .ref r), (Str.ofString "count", .int cn t)] (allC (P := fun p => m1 p.1 = some p.2) hmr (all1 (P := fun p => m1 p.1 = some p.2) hmc))] at F3
    dsimp only [kn] at F3
    k_steps
    rename_i kF kN kT kX
    have hil : i = l.length := by
      rcases Nat.lt_or_ge i l.length with h | h
      · rw [List.getElem?_eq_getElem h] at hp
        exact absurd (hl _ (List.getElem_mem h)).2.1 (by rw [← show hh = l[i] from hp, H.cls]; decide)
      · omega
    subst hil
    rw [List.take_length] at kN
    exact h _ _ _ _ k ⟨kF, kN, B, X, T, XB, TB, D, T0⟩ lr hbr
end
end MineN
namespace MineN
theorem rstH2 : True := by
  w_top off
  trivial
open Mine
theorem fillH2 : PySem.Challenge.rw_fc0145_01.Holds → (∀ w : World, (hd.heap_39 w.params).In default) → True := by
  k_fill
  intros
  trivial
local macro_rules | `(tactic| k_steps) => `(tactic| repeat' (first | (k_unfold; (try dsimp only)) | walk1 | (dsimp only; walk1) | fail "no step"))
local macro_rules | `(tactic| ktr_unf) => `(tactic| (refine wpAny_call ?_; refine' codeS ?B ?F ?X ?N ?T ?XB ?TB ?D ?T0 ?kA ?hf ?hke ?k6 ?k7 ?k8 ?k9 ?kB ?_ ?c2 ?c3 ?c4 ?c5; (case F => assumption); (case N => assumption); (case B => assumption); (case X => assumption); (case T => assumption); (case XB => assumption); (case TB => assumption); (case D => assumption); (case T0 => assumption); (case kA => exact rfl); (case hf => first | assumption | exact rfl); (case hke => first | assumption | exact rfl); (case k6 => k_is); (case k7 => k_is); (case k8 => (show _ < recursionLimit; first | omega | (dsimp only [Ar]; omega))); (case k9 => exact BindsTo.of_eq rfl); (case kB => exact locs rfl); (case c2 => exact rfl); (case c3 => exact rfl); (case c4 => exact rfl); (case c5 => decide); k_whole))
local macro_rules | `(tactic| walk_at "call ref") => `(tactic| (refine stopN ?_))
local macro_rules | `(tactic| walk_at "getAttr ref") => `(tactic| ((with_reducible show wpAny _ _ (getAttr (Value.ref _) (Str.ofString "path") _) _ _ _); refine stopN ?_))
local macro_rules | `(tactic| walk_at "pyIter ref") => `(tactic| (refine stopN ?_))
local macro_rules | `(tactic| walk_at "exec For") => `(tactic| (refine stopN ?_))
local macro_rules | `(tactic| walk_at "execs cons") => `(tactic| (dsimp only))
local macro_rules | `(tactic| walk_at "execs nil") => `(tactic| (dsimp only))
local macro_rules | `(tactic| walk_at "subscriptTail") => `(tactic| (k_here; (with_reducible show wpAny _ _ (subscriptTail _ _ (Value.ref _) (Value.int _ _)) _ _ _); (with_unfolding_all refine' item_litK ?k1 ?k2 ?k3 ?k4 ?_ ?k6; (case k1 => exact News.isList (by k_asm) (by assumption)); (case k2 => omega); (case k3 => omega); (case k4 => assumption); (case k6 => with_unfolding_all rfl); k_whole)))
local macro_rules | `(tactic| k_mem) => `(tactic| assumption)
local macro_rules | `(tactic| k_get) => `(tactic| assumption)
noncomputable def soDef : Stmt := PySem.Challenge.pw_fc0145_01.main.body[7]!
noncomputable abbrev soEnv (L : Addr) : Env := envOf (Str.ofString "_law_sorted") (defScope soDef) L 263 (.ref 262)
def forBody : Stmt → List Stmt
  | .For _ _ b _ _ => b
  | _ => []
noncomputable def soD (i : Nat) : Stmt := (forBody ((defBody soDef)[0]!))[i]!
abbrev tupObj (vs : List Value) : Obj := { cls := .type "tuple", data := .seq vs.toArray }
/-- the pairs of the nodes, in the ledger -/
def Keys (c : NC) (xs : List Addr) (key : Addr → Int) (fx : List (Addr × Obj)) : Prop := ∀ y ∈ xs, 0 ≤ key y ∧ key y ≤ 63 ∧ ∃ k t u, (c.ta y, tupObj [.int (key y) t, .int k u]) ∈ fx
section
variable {w : World} {A₀ : Around} {base g₀ h₀ : Heap} {outer : List Env} {L hh pl : Addr} {m mg mb : Str → Option Value} {mean : ExcName → Option Value}
  {s : Shared} {fx tl own : List (Addr × Obj)} {d u pk : Nat} {gs : Option (List Code)} {Q : Flow → Shared → Prop} {E : Value → Shared → Prop}
  {c : NC} {xs ps l : List Addr} {nx pv : Addr → Option Addr} {f : Addr → List Addr} {key : Addr → Int} {bb cn dg : Int} {tb tc td t0 : Tok}
def soKn (m : Str → Option Value) (hh pl : Addr) (bb cn dg : Int) (tb tc td : Tok) (jv : Value) : Prop :=
  m (Str.ofString "line") = some (.ref hh) ∧ m (Str.ofString "piles") = some (.ref pl) ∧ m (Str.ofString "base") = some (.int bb tb) ∧ m (Str.ofString "count") = some (.int cn tc) ∧ m (Str.ofString "digit") = some (.int dg td) ∧ m (Str.ofString "joined") = some jv
def digI (bb dg k : Int) : Int := (k.fdiv (bb ^ dg.toNat)).fmod bb
structure Dealt (ps : List Addr) (hh : Addr) (hs : List Addr) (f0 f : Addr → List Addr) (key : Addr → Int) (bb dg : Int) (done rest : List Addr) : Prop where
  h1 : f hh = rest
  h2 : ∀ (j : Nat) (q : Addr), ps[j]? = some q → f q = done.filter fun y => digI bb dg (key y) == (j : Int)
  h3 : ∀ h ∈ hs, h ≠ hh → h ∉ ps → f h = f0 h
theorem pow_le {bb : Int} {n : Nat} (h : 3 ≤ bb ∧ bb ≤ 4) (hn : n ≤ 2) : 1 ≤ bb ^ n ∧ bb ^ n ≤ 16 := by
  have hb : bb = 3 ∨ bb = 4 := by omega
  have hm : n = 0 ∨ n = 1 ∨ n = 2 := by omega
  rcases hb with rfl | rfl <;> rcases hm with rfl | rfl | rfl <;> decide
theorem digI_lt {bb dg k : Int} (h : 3 ≤ bb ∧ bb ≤ 4) : 0 ≤ digI bb dg k ∧ digI bb dg k < bb := ⟨Int.fmod_nonneg_of_pos _ (by omega), Int.fmod_lt_of_pos _ (by omega)⟩
theorem toB (C : Cx w A₀ base outer mean mg mb g₀ h₀ L s.heap m ((fx ++ own) ++ tl)) : Cx w A₀ base outer mean mg mb g₀ h₀ L s.heap m (fx ++ tl ++ own) :=
  ⟨C.F, news_sub C.N fun p hp => by simp only [List.mem_append] at hp ⊢; grind, C.B, C.X, C.T, C.XB, C.TB, C.D, C.T0⟩
theorem toA (C : Cx w A₀ base outer mean mg mb g₀ h₀ L s.heap m (fx ++ tl ++ own)) : Cx w A₀ base outer mean mg mb g₀ h₀ L s.heap m ((fx ++ own) ++ tl) :=
  ⟨C.F, news_sub C.N fun p hp => by simp only [List.mem_append] at hp ⊢; grind, C.B, C.X, C.T, C.XB, C.TB, C.D, C.T0⟩
theorem Dealt.step {hs done rest : List Addr} {f0 f1 : Addr → List Addr} {p q : Addr} {j : Nat} (D : Dealt ps hh hs f0 f1 key bb dg done (p :: rest)) (hhp : hh ∉ ps) (hnd : ps.Nodup) (hj : ps[j]? = some q) (hk : digI bb dg (key p) = (j : Int)) :
    Dealt ps hh hs f0 (upL (upL f1 hh rest) q (upL f1 hh rest q ++ [p])) key bb dg (done ++ [p]) rest := by
  have hq := List.mem_of_getElem? hj
  have nq : q ≠ hh := fun e => hhp (e ▸ hq)
  refine ⟨by rw [upL_ne (Ne.symm nq), upL_self], fun j' q' hj' => ?_, fun h hh' e1 e2 => ?_⟩
  · have hq' := List.mem_of_getElem? hj'
    have nq' : q' ≠ hh := fun e => hhp (e ▸ hq')
    rw [List.filter_append]
    by_cases e : j' = j
    · subst e
      rw [hj'] at hj
      cases hj
      rw [upL_self, upL_ne nq, D.h2 _ _ hj', List.filter_cons_of_pos (by simpa using hk), List.filter_nil]
    · have ne : q' ≠ q := fun w => by
        subst w
        exact e ((List.getElem?_inj (List.getElem?_eq_some_iff.mp hj').1 hnd).mp (hj'.trans hj.symm))
      rw [upL_ne ne, upL_ne nq', D.h2 _ _ hj', List.filter_cons_of_neg (by simp only [hk, beq_iff_eq]; intro w; exact e (Int.ofNat.inj w).symm), List.filter_nil, List.append_nil]
  · rw [upL_ne (fun w => e2 (by rw [w]; exact hq)), upL_ne e1]
    exact D.h3 h hh' e1 e2
theorem deal_loop (C : Cx w A₀ base outer mean mg mb g₀ h₀ L s.heap m (fx ++ tl ++ own)) (hk : ∀ p ∈ fx, isND p.2 = false) (ho : OwnOff own (tl.map (·.1))) (Z : c.St xs [] tl nx pv f) (hd : d + 16 < recursionLimit)
    {jv : Value} (kn0 : soKn m hh pl bb cn dg tb tc td jv) (kd : m (Str.ofString "dealt") = some (.int 0 t0)) (hpl : (pl, listOf (ps.map Value.ref).toArray pk) ∈ fx) (hps : ∀ q ∈ ps, q ∈ c.hs) (hnd : ps.Nodup) (hhs : hh ∈ c.hs) (hhp : hh ∉ ps)
    (hl : f hh = l) (hemp : ∀ q ∈ ps, f q = []) (hcn : (l.length : Int) ≤ cn) (hl9 : l.length ≤ 9) (hb1 : bb = (ps.length : Int)) (hb2 : 3 ≤ bb ∧ bb ≤ 4) (hdg : 0 ≤ dg ∧ dg ≤ 2) (hK : Keys c xs key fx)
    (hE : PassesOwn (model PR w) (Ar d u (soEnv L :: outer) gs) (soEnv L) E)
    (hQ : ∀ h' tk gens m' tl' nx' pv' f', Cx w A₀ base outer mean mg mb g₀ h₀ L h' m' (fx ++ tl' ++ own) → OwnOff own (tl'.map (·.1)) → c.St xs [] tl' nx' pv' f' → Dealt ps hh c.hs f f' key bb dg l [] → soKn m' hh pl bb cn dg tb tc td jv → (AllBare s.gens → AllBare gens) → Q .next { s with heap := h', toks := tk, gens := gens }) :
    wpAny (model PR w) (Ar d u (soEnv L :: outer) gs) (exec (soD 1) (soEnv L)) Q E s := by
  conv => pattern (soD 1); whnf
  unfold soEnv
  conv => pattern (occs := *) (defScope soDef); all_goals whnf
  obtain ⟨C1, P⟩ := pre_own C hk ho Z
  obtain ⟨k1, k2, k3, k4, k5, k6⟩ := kn0
  have F := C.F
  rw [← kn_eq [(Str.ofString "line", .ref hh), (Str.ofString "piles", .ref pl), (Str.ofString "base", .int bb tb), (Str.ofString "count", .int cn tc), (Str.ofString "digit", .int dg td), (Str.ofString "dealt", .int 0 t0), (Str.ofString "joined", jv)] (allC (P := fun p => m p.1 = some p.2) k1 (allC (P := fun p => m p.1 = some p.2) k2 (allC (P := fun p => m p.1 = some p.2) k3 (allC (P := fun p => m p.1 = some p.2) k4 (allC (P := fun p => m p.1 = some p.2) k5 (allC (P := fun p => m p.1 = some p.2) kd (all1 (P := fun p => m p.1 = some p.2) k6)))))))] at F
  dsimp only [kn] at F
  refine wpAny_For ?_ (by intro _; rfl)
  k_steps
  refine ⟨?_⟩
  have C2 : Cx w A₀ base outer mean mg mb g₀ h₀ L s.heap _ ((fx ++ own) ++ tl) := ⟨F, C1.N, C1.B, C1.X, C1.T, C1.XB, C1.TB, C1.D, C1.T0⟩
  refine list_loop l.length (fun i p m1 pre1 tl1 nx1 pv1 => pre1 = fx ++ own ∧ OwnOff own (tl1.map (·.1)) ∧ ∃ f1 t, c.St xs [] tl1 nx1 pv1 f1 ∧ Dealt ps hh c.hs f f1 key bb dg (l.take i) (l.drop i) ∧ i ≤ l.length ∧ p = (l[i]?).getD hh ∧ soKn m1 hh pl bb cn dg tb tc td jv ∧ m1 (Str.ofString "dealt") = some (.int (i : Int) t))
    C2 Z.S ?_ rfl rfl (Z.H hhs) rfl rfl hE ?_ ?_ ?_ ?_
  · omega
  · rintro i p m1 pre1 tl1 nx1 pv1 ⟨rfl, o1, f1, t, Z1, D1, hi, rfl, _, _⟩
    rcases Nat.lt_or_ge i l.length with h | h
    · have e : l[i]? = some l[i] := List.getElem?_eq_getElem h
      have e2 : f1 hh = l[i] :: l.drop (i + 1) := by rw [D1.h1]; exact List.drop_eq_getElem_cons h
      obtain ⟨n, n1, n2, n3, n4, n5, _⟩ := Z1.R.drop hhs e2
      rw [e]
      exact ⟨Z1.S, List.mem_append_right _ n3, ⟨_, n5⟩, hi, fun q => absurd q (Nat.ne_of_lt h)⟩
    · have e : l[i]? = none := List.getElem?_eq_none h
      have e2 : f1 hh = [] := by rw [D1.h1]; exact List.drop_eq_nil_of_le h
      rw [e]
      exact ⟨Z1.S, List.mem_append_left _ hhs, ⟨_, (Z1.R.emp hhs e2).1⟩, hi, fun _ => rfl⟩
  · refine ⟨_, (seg_get (Z.R.seg hh hhs)).1, rfl, ho, f, t0, Z, ⟨hl, fun j q hq => by rw [hemp q (List.mem_of_getElem? hq)]; rfl, fun _ _ _ _ => rfl⟩, Nat.zero_le _, by rw [hl], ⟨rfl, rfl, rfl, rfl, rfl, rfl⟩, rfl⟩
  · rintro i p y m1 pre1 tl1 nx1 pv1 h3 tk3 gens3 own2 ⟨rfl, o1, f1, t, Z1, D1, hi, hp, kn1, kd1⟩ hne hy hoff hbr F3 N3
    have hil : i < l.length := by
      rcases Nat.lt_or_ge i l.length with h | h
      · exact h
      · rw [List.getElem?_eq_none h] at hp
        exact absurd hp hne
    have hpi : l[i]? = some p := by
      rw [List.getElem?_eq_getElem hil] at hp ⊢
      exact congrArg some hp.symm
    have e2 : f1 hh = p :: l.drop (i + 1) := by rw [D1.h1, List.drop_eq_getElem_cons hil]; congr 1; rw [List.getElem?_eq_getElem hil] at hpi; exact Option.some.inj hpi
    have hpx : p ∈ xs := Z1.R.sub hh hhs p (by rw [e2]; simp)
    have hyy : y = (l[i + 1]?).getD hh := by
      have := (seg_get (Z1.R.seg hh hhs)).2 0 p (by rw [e2]; rfl)
      rw [hy, e2] at this
      have := Option.some.inj this
      rw [this]
      simp [List.getElem?_drop]
    obtain ⟨q1, q2, q3, q4, q5, q6⟩ := kn1
    obtain ⟨g1, g2, ik, t1, u1, hmt⟩ := hK p hpx
    rw [← kn_eq [(Str.ofString "line", .ref hh), (Str.ofString "piles", .ref pl), (Str.ofString "base", .int bb tb), (Str.ofString "count", .int cn tc), (Str.ofString "digit", .int dg td), (Str.ofString "dealt", .int (i : Int) t), (Str.ofString "joined", jv)] (allC (P := fun p => m1 p.1 = some p.2) q1 (allC (P := fun p => m1 p.1 = some p.2) q2 (allC (P := fun p => m1 p.1 = some p.2) q3 (allC (P := fun p => m1 p.1 = some p.2) q4 (allC (P := fun p => m1 p.1 = some p.2) q5 (allC (P := fun p => m1 p.1 = some p.2) kd1 (all1 (P := fun p => m1 p.1 = some p.2) q6)))))))] at F3
    dsimp only [kn] at F3
    have hoff2 : OwnOff (own ++ own2) (tl1.map (·.1)) := fun q hq b hb => by
      rcases List.mem_append.mp hq with hq | hq
      · exact o1 q hq b hb
      · exact hoff q hq b (by rw [List.map_append]; exact List.mem_append_right _ hb)
    have hofx : OwnOff own2 ((fx ++ own).map (·.1)) := fun q hq b hb => hoff q hq b (by rw [List.map_append]; exact List.mem_append_left _ hb)
    have C4 : Cx w A₀ base outer mean mg mb g₀ h₀ L h3 _ (fx ++ tl1 ++ (own ++ own2)) := ⟨F3, news_sub N3 fun q hq => by simp only [List.mem_append] at hq ⊢; grind, C1.B, C1.X, C1.T, C1.XB, C1.TB, C1.D, C1.T0⟩
    generalize hown : own ++ own2 = ow at C4 hoff2
    obtain ⟨C5, P5⟩ := pre_own (s := { s with heap := h3 }) C4 hk hoff2 Z1
    obtain ⟨es, nn, hl5⟩ := hdL C5 Z1.S (Z1.H hhs)
    have l1 := hl5.i
    have l2 := hl5.d
    have l3 := hl5.no (Str.ofString "remove") (by decide +kernel) (by decide +kernel) (by decide +kernel) (by decide +kernel)
    obtain ⟨F5, N5, B5, X5, T5, _, _, _, _⟩ := C5
    clear N3 F3 F C2
    have hcmp : ¬ (i : Int) = cn := by omega
    k_steps
    · exfalso; omega
    refine ⟨?_⟩
    show wpAny _ _ (call (.ref 91) [.ref hh, .ref p] []) _ _ _
    refine rem_op (fx := fx) (tl := tl1) (own := ow) (toB ⟨by assumption, by assumption, C1.B, C1.X, C1.T, C1.XB, C1.TB, C1.D, C1.T0⟩) hk hoff2 Z1 hhs e2 (by omega) rfl rfl fun h4 tk4 tl4 nx4 pv4 C6 o6 Z6 => ?_
    obtain ⟨F6, N6, _, _, _, _, _, _, _⟩ := toA (s := { s with heap := h4 }) C6
    try clear F5 N5
    have mpl : (pl, listOf (ps.map Value.ref).toArray pk) ∈ (fx ++ ow) ++ tl4 := List.mem_append_left _ (List.mem_append_left _ hpl)
    have hpw := pow_le (n := dg.toNat) hb2 (by omega)
    have hdi := digI_lt (dg := dg) (k := key p) hb2
    have hjl : (digI bb dg (key p)).toNat < ps.length := by omega
    have hjq : ps[(digI bb dg (key p)).toNat]? = some ps[(digI bb dg (key p)).toNat] := List.getElem?_eq_getElem hjl
    generalize hq : ps[(digI bb dg (key p)).toNat] = q at hjq
    have hqs : q ∈ c.hs := hps q (List.mem_of_getElem? hjq)
    have hix : (ps.map Value.ref)[(((key p).fdiv (bb ^ dg.toNat)).fmod bb).toNat]? = some (.ref q) := by
      rw [List.getElem?_map]
      show (ps[(digI bb dg (key p)).toNat]?).map Value.ref = _
      rw [hjq]; rfl
    have hi1 : 0 ≤ ((key p).fdiv (bb ^ dg.toNat)).fmod bb := hdi.1
    have hi2 : ((key p).fdiv (bb ^ dg.toNat)).fmod bb < (ps.length : Int) := by rw [← hb1]; exact hdi.2
    have hi3 : ps.length ≤ 4 := by omega
    have mt : (c.ta p, tupObj [.int (key p) t1, .int ik u1]) ∈ (fx ++ ow) ++ tl4 := List.mem_append_left _ (List.mem_append_left _ hmt)
    k_steps
    refine ⟨?_⟩
    refine path_op (fx := fx) (tl := tl4) (own := ow) (toB ⟨by assumption, by assumption, C1.B, C1.X, C1.T, C1.XB, C1.TB, C1.D, C1.T0⟩) hk o6 Z6 hpx (by omega) rfl rfl fun h7 tk7 C7 => ?_
    obtain ⟨es7, nn7, hl7⟩ := hdL (toA (s := { s with heap := h7 }) C7) Z6.S (Z6.H hqs)
    have r1 := hl7.i
    have r2 := hl7.d
    have r3 := hl7.no (Str.ofString "append") (by decide +kernel) (by decide +kernel) (by decide +kernel) (by decide +kernel)
    obtain ⟨F7, N7, _, _, _, _, _, _, _⟩ := toA (s := { s with heap := h7 }) C7
    try clear F6 N6
    k_steps
    refine ⟨?_⟩
    show wpAny _ _ (call (.ref 70) [.ref q, .ref p] []) _ _ _
    have D0 : Dealt ps hh c.hs f f1 key bb dg (l.take i) (p :: l.drop (i + 1)) := by rw [← e2, D1.h1]; exact D1
    have D2 := D0.step hhp hnd hjq (Int.toNat_of_nonneg hdi.1).symm
    have htk : l.take i ++ [p] = l.take (i + 1) := by rw [List.take_add_one, hpi]; rfl
    rw [htk] at D2
    have offp : ∀ h' ∈ c.hs, p ∉ upL f1 hh (l.drop (i + 1)) h' := fun h' hh' hm => by
      by_cases e : h' = hh
      · subst e
        rw [upL_self] at hm
        have := Z1.R.nod h' hh'
        rw [e2] at this
        exact (List.nodup_cons.mp this).1 hm
      · rw [upL_ne e] at hm
        exact e (Z1.R.dis h' hh' hh hhs p hm (by rw [e2]; simp))
    refine app_op (fx := fx) (tl := tl4) (own := ow) (toB ⟨by assumption, by assumption, C1.B, C1.X, C1.T, C1.XB, C1.TB, C1.D, C1.T0⟩) hk o6 Z6 hqs hpx offp (by omega) rfl rfl fun h8 tk8 tl8 nx8 pv8 C8 o8 Z8 => ?_
    k_steps
    refine ⟨h8, tk8, _, fx ++ own, tl8, nx8, pv8, rfl, C8.F, news_sub C8.N (fun q hq => by rw [← hown]; simp only [List.mem_append] at hq ⊢; grind), fun q hq b hb => ?_, rfl, fun q hq b hb => ?_, _, _, Z8, D2, hil, hyy, ⟨rfl, rfl, rfl, rfl, rfl, rfl⟩, rfl⟩
    · rw [List.map_append] at hb
      rcases List.mem_append.mp hb with hb | hb
      · exact hofx q hq b hb
      · exact o8 q (by rw [← hown]; exact List.mem_append_right _ hq) b hb
    · exact o8 q (by rw [← hown]; exact List.mem_append_left _ hq) b hb
  · rintro i m1 pre1 tl1 nx1 pv1 h3 tk3 gens3 ⟨rfl, o1, f1, t, Z1, D1, hi, hp, kn1, kd1⟩ hbr F3 N3
    have hil : i = l.length := by
      rcases Nat.lt_or_ge i l.length with h | h
      · rw [List.getElem?_eq_getElem h] at hp
        have e2 : f1 hh = l[i] :: l.drop (i + 1) := by rw [D1.h1]; exact List.drop_eq_getElem_cons h
        exact absurd (show hh = l[i] from hp) (Z1.R.hx hhs (Z1.R.sub hh hhs l[i] (by rw [e2]; exact List.mem_cons_self)))
      · omega
    subst hil
    rw [List.take_length, List.drop_length] at D1
    exact hQ _ _ _ _ _ _ _ _ (toB (s := { s with heap := h3 }) ⟨F3, N3, C1.B, C1.X, C1.T, C1.XB, C1.TB, C1.D, C1.T0⟩) o1 Z1 D1 kn1 hbr
end
end MineN
namespace MineN
local macro_rules | `(tactic| walk_at "no key H3 0") => `(tactic| fail)
theorem rstH3 : True := by
  w_top off
  trivial
open Mine
theorem fillH3 : PySem.Challenge.rw_fc0145_01.Holds → (∀ w : World, (hd.heap_39 w.params).In default) → True := by
  k_fill
  intros
  trivial
local macro_rules | `(tactic| k_steps) => `(tactic| repeat' (first | (k_unfold; (try dsimp only)) | walk1 | (dsimp only; walk1) | fail "no step"))
local macro_rules | `(tactic| ktr_unf) => `(tactic| (refine wpAny_call ?_; refine' codeS ?B ?F ?X ?N ?T ?XB ?TB ?D ?T0 ?kA ?hf ?hke ?k6 ?k7 ?k8 ?k9 ?kB ?_ ?c2 ?c3 ?c4 ?c5; (case F => assumption); (case N => assumption); (case B => assumption); (case X => assumption); (case T => assumption); (case XB => assumption); (case TB => assumption); (case D => assumption); (case T0 => assumption); (case kA => exact rfl); (case hf => first | assumption | exact rfl); (case hke => first | assumption | exact rfl); (case k6 => k_is); (case k7 => k_is); (case k8 => (show _ < recursionLimit; first | omega | (dsimp only [Ar]; omega))); (case k9 => exact BindsTo.of_eq rfl); (case kB => exact locs rfl); (case c2 => exact rfl); (case c3 => exact rfl); (case c4 => exact rfl); (case c5 => decide); k_whole))
local macro_rules | `(tactic| walk_at "call ref") => `(tactic| (refine stopN ?_))
local macro_rules | `(tactic| walk_at "getAttr ref") => `(tactic| ((with_reducible show wpAny _ _ (getAttr (Value.ref _) (Str.ofString "path") _) _ _ _); refine stopN ?_))
local macro_rules | `(tactic| walk_at "pyIter ref") => `(tactic| (refine stopN ?_))
local macro_rules | `(tactic| walk_at "exec For") => `(tactic| (refine stopN ?_))
local macro_rules | `(tactic| walk_at "execs cons") => `(tactic| (dsimp only))
local macro_rules | `(tactic| walk_at "execs nil") => `(tactic| (dsimp only))
local macro_rules | `(tactic| walk_at "subscriptTail") => `(tactic| (k_here; (with_reducible show wpAny _ _ (subscriptTail _ _ (Value.ref _) (Value.int _ _)) _ _ _); (with_unfolding_all refine' item_litK ?k1 ?k2 ?k3 ?k4 ?_ ?k6; (case k1 => exact News.isList (by k_asm) (by assumption)); (case k2 => omega); (case k3 => omega); (case k4 => assumption); (case k6 => with_unfolding_all rfl); k_whole)))
local macro_rules | `(tactic| k_mem) => `(tactic| assumption)
local macro_rules | `(tactic| k_get) => `(tactic| assumption)
noncomputable def soP : Stmt := (forBody (soD 2))[0]!
section
variable {w : World} {A₀ : Around} {base g₀ h₀ : Heap} {outer : List Env} {L hh pl q : Addr} {m mg mb : Str → Option Value} {mean : ExcName → Option Value}
  {s : Shared} {fx tl own : List (Addr × Obj)} {d u pk a : Nat} {gs : Option (List Code)} {Q : Flow → Shared → Prop} {E : Value → Shared → Prop}
  {c : NC} {xs ps l : List Addr} {nx pv : Addr → Option Addr} {f : Addr → List Addr} {key : Addr → Int} {bb cn dg : Int} {tb tc td tj : Tok}
structure Joined (hh q : Addr) (hs : List Addr) (f0 f : Addr → List Addr) (done rest : List Addr) : Prop where
  h1 : f q = rest
  h2 : f hh = f0 hh ++ done
  h3 : ∀ h ∈ hs, h ≠ hh → h ≠ q → f h = f0 h
theorem Joined.step {hs done rest : List Addr} {f0 f1 : Addr → List Addr} {p : Addr} (D : Joined hh q hs f0 f1 done (p :: rest)) (hne : q ≠ hh) :
    Joined hh q hs f0 (upL (upL f1 q rest) hh (upL f1 q rest hh ++ [p])) (done ++ [p]) rest := by
  refine ⟨by rw [upL_ne hne, upL_self], ?_, fun h hh' e1 e2 => ?_⟩
  · rw [upL_self, upL_ne (Ne.symm hne), D.h2, List.append_assoc]
  · rw [upL_ne e1, upL_ne e2]
    exact D.h3 h hh' e1 e2
theorem pile_loop (C : Cx w A₀ base outer mean mg mb g₀ h₀ L s.heap m (fx ++ tl ++ own)) (hk : ∀ p ∈ fx, isND p.2 = false) (ho : OwnOff own (tl.map (·.1))) (Z : c.St xs [] tl nx pv f) (hd : d + 16 < recursionLimit)
    (kn0 : soKn m hh pl bb cn dg tb tc td (.int (a : Int) tj)) (kd : m (Str.ofString "pile") = some (.ref q)) (hhs : hh ∈ c.hs) (hqs : q ∈ c.hs) (hqh : q ≠ hh)
    (hl : f q = l) (hcn : (a : Int) + (l.length : Int) ≤ cn) (hl9 : l.length ≤ 9)
    (hE : PassesOwn (model PR w) (Ar d u (soEnv L :: outer) gs) (soEnv L) E)
    (hQ : ∀ h' tk gens m' tl' nx' pv' f' tj', Cx w A₀ base outer mean mg mb g₀ h₀ L h' m' (fx ++ tl' ++ own) → OwnOff own (tl'.map (·.1)) → c.St xs [] tl' nx' pv' f' → Joined hh q c.hs f f' l [] → soKn m' hh pl bb cn dg tb tc td (.int ((a + l.length : Nat) : Int) tj') → (AllBare s.gens → AllBare gens) → Q .next { s with heap := h', toks := tk, gens := gens }) :
    wpAny (model PR w) (Ar d u (soEnv L :: outer) gs) (exec soP (soEnv L)) Q E s := by
  conv => pattern soP; whnf
  unfold soEnv
  conv => pattern (occs := *) (defScope soDef); all_goals whnf
  obtain ⟨C1, P⟩ := pre_own C hk ho Z
  obtain ⟨k1, k2, k3, k4, k5, k6⟩ := kn0
  have F := C.F
  rw [← kn_eq [(Str.ofString "line", .ref hh), (Str.ofString "piles", .ref pl), (Str.ofString "base", .int bb tb), (Str.ofString "count", .int cn tc), (Str.ofString "digit", .int dg td), (Str.ofString "pile", .ref q), (Str.ofString "joined", .int (a : Int) tj)] (allC (P := fun p => m p.1 = some p.2) k1 (allC (P := fun p => m p.1 = some p.2) k2 (allC (P := fun p => m p.1 = some p.2) k3 (allC (P := fun p => m p.1 = some p.2) k4 (allC (P := fun p => m p.1 = some p.2) k5 (allC (P := fun p => m p.1 = some p.2) kd (all1 (P := fun p => m p.1 = some p.2) k6)))))))] at F
  dsimp only [kn] at F
  refine wpAny_For ?_ (by intro _; rfl)
  k_steps
  refine ⟨?_⟩
  have C2 : Cx w A₀ base outer mean mg mb g₀ h₀ L s.heap _ ((fx ++ own) ++ tl) := ⟨F, C1.N, C1.B, C1.X, C1.T, C1.XB, C1.TB, C1.D, C1.T0⟩
  refine list_loop l.length (fun i p m1 pre1 tl1 nx1 pv1 => pre1 = fx ++ own ∧ OwnOff own (tl1.map (·.1)) ∧ ∃ f1 t, c.St xs [] tl1 nx1 pv1 f1 ∧ Joined hh q c.hs f f1 (l.take i) (l.drop i) ∧ i ≤ l.length ∧ p = (l[i]?).getD q ∧ soKn m1 hh pl bb cn dg tb tc td (.int ((a : Int) + (i : Int)) t) ∧ m1 (Str.ofString "pile") = some (.ref q))
    C2 Z.S ?_ rfl rfl (Z.H hqs) rfl rfl hE ?_ ?_ ?_ ?_
  · omega
  · rintro i p m1 pre1 tl1 nx1 pv1 ⟨rfl, o1, f1, t, Z1, D1, hi, rfl, _, _⟩
    rcases Nat.lt_or_ge i l.length with h | h
    · have e : l[i]? = some l[i] := List.getElem?_eq_getElem h
      have e2 : f1 q = l[i] :: l.drop (i + 1) := by rw [D1.h1]; exact List.drop_eq_getElem_cons h
      obtain ⟨n, n1, n2, n3, n4, n5, _⟩ := Z1.R.drop hqs e2
      rw [e]
      exact ⟨Z1.S, List.mem_append_right _ n3, ⟨_, n5⟩, hi, fun q => absurd q (Nat.ne_of_lt h)⟩
    · have e : l[i]? = none := List.getElem?_eq_none h
      have e2 : f1 q = [] := by rw [D1.h1]; exact List.drop_eq_nil_of_le h
      rw [e]
      exact ⟨Z1.S, List.mem_append_left _ hqs, ⟨_, (Z1.R.emp hqs e2).1⟩, hi, fun _ => rfl⟩
  · refine ⟨_, (seg_get (Z.R.seg q hqs)).1, rfl, ho, f, tj, Z, ⟨hl, by simp, fun _ _ _ _ => rfl⟩, Nat.zero_le _, by rw [hl], ⟨rfl, rfl, rfl, rfl, rfl, ?_⟩, rfl⟩
    show some _ = some _
    rw [Int.natCast_zero, Int.add_zero]
  · rintro i p y m1 pre1 tl1 nx1 pv1 h3 tk3 gens3 own2 ⟨rfl, o1, f1, t, Z1, D1, hi, hp, kn1, kd1⟩ hne hy hoff hbr F3 N3
    have hil : i < l.length := by
      rcases Nat.lt_or_ge i l.length with h | h
      · exact h
      · rw [List.getElem?_eq_none h] at hp
        exact absurd hp hne
    have hpi : l[i]? = some p := by
      rw [List.getElem?_eq_getElem hil] at hp ⊢
      exact congrArg some hp.symm
    have e2 : f1 q = p :: l.drop (i + 1) := by rw [D1.h1, List.drop_eq_getElem_cons hil]; congr 1; rw [List.getElem?_eq_getElem hil] at hpi; exact Option.some.inj hpi
    have hpx : p ∈ xs := Z1.R.sub q hqs p (by rw [e2]; simp)
    have hyy : y = (l[i + 1]?).getD q := by
      have := (seg_get (Z1.R.seg q hqs)).2 0 p (by rw [e2]; rfl)
      rw [hy, e2] at this
      have := Option.some.inj this
      rw [this]
      simp [List.getElem?_drop]
    obtain ⟨q1, q2, q3, q4, q5, q6⟩ := kn1
    rw [← kn_eq [(Str.ofString "line", .ref hh), (Str.ofString "piles", .ref pl), (Str.ofString "base", .int bb tb), (Str.ofString "count", .int cn tc), (Str.ofString "digit", .int dg td), (Str.ofString "pile", .ref q), (Str.ofString "joined", .int ((a : Int) + (i : Int)) t)] (allC (P := fun p => m1 p.1 = some p.2) q1 (allC (P := fun p => m1 p.1 = some p.2) q2 (allC (P := fun p => m1 p.1 = some p.2) q3 (allC (P := fun p => m1 p.1 = some p.2) q4 (allC (P := fun p => m1 p.1 = some p.2) q5 (allC (P := fun p => m1 p.1 = some p.2) kd1 (all1 (P := fun p => m1 p.1 = some p.2) q6)))))))] at F3
    dsimp only [kn] at F3
    have hoff2 : OwnOff (own ++ own2) (tl1.map (·.1)) := fun q hq b hb => by
      rcases List.mem_append.mp hq with hq | hq
      · exact o1 q hq b hb
      · exact hoff q hq b (by rw [List.map_append]; exact List.mem_append_right _ hb)
    have hofx : OwnOff own2 ((fx ++ own).map (·.1)) := fun q hq b hb => hoff q hq b (by rw [List.map_append]; exact List.mem_append_left _ hb)
    have C4 : Cx w A₀ base outer mean mg mb g₀ h₀ L h3 _ (fx ++ tl1 ++ (own ++ own2)) := ⟨F3, news_sub N3 fun q hq => by simp only [List.mem_append] at hq ⊢; grind, C1.B, C1.X, C1.T, C1.XB, C1.TB, C1.D, C1.T0⟩
    generalize hown : own ++ own2 = ow at C4 hoff2
    obtain ⟨C5, P5⟩ := pre_own (s := { s with heap := h3 }) C4 hk hoff2 Z1
    obtain ⟨es, nn, hl5⟩ := hdL C5 Z1.S (Z1.H hqs)
    have l1 := hl5.i
    have l2 := hl5.d
    have l3 := hl5.no (Str.ofString "remove") (by decide +kernel) (by decide +kernel) (by decide +kernel) (by decide +kernel)
    obtain ⟨F5, N5, B5, X5, T5, _, _, _, _⟩ := C5
    clear N3 F3 F C2
    have hai : (a : Int) + (i : Int) + 1 = (a : Int) + ((i + 1 : Nat) : Int) := by rw [Int.natCast_add, Int.add_assoc]; rfl
    have hcmp : ¬ (a : Int) + (i : Int) = cn := by omega
    k_steps
    · exfalso; omega
    refine ⟨?_⟩
    show wpAny _ _ (call (.ref 91) [.ref q, .ref p] []) _ _ _
    refine rem_op (fx := fx) (tl := tl1) (own := ow) (toB ⟨by assumption, by assumption, C1.B, C1.X, C1.T, C1.XB, C1.TB, C1.D, C1.T0⟩) hk hoff2 Z1 hqs e2 (by omega) rfl rfl fun h4 tk4 tl4 nx4 pv4 C6 o6 Z6 => ?_
    obtain ⟨es7, nn7, hl7⟩ := hdL (toA (s := { s with heap := h4 }) C6) Z6.S (Z6.H hhs)
    have r1 := hl7.i
    have r2 := hl7.d
    have r3 := hl7.no (Str.ofString "append") (by decide +kernel) (by decide +kernel) (by decide +kernel) (by decide +kernel)
    obtain ⟨F6, N6, _, _, _, _, _, _, _⟩ := toA (s := { s with heap := h4 }) C6
    try clear F5 N5
    k_steps
    refine ⟨?_⟩
    show wpAny _ _ (call (.ref 70) [.ref hh, .ref p] []) _ _ _
    have D0 : Joined hh q c.hs f f1 (l.take i) (p :: l.drop (i + 1)) := by rw [← e2, D1.h1]; exact D1
    have D2 := D0.step hqh
    have htk : l.take i ++ [p] = l.take (i + 1) := by rw [List.take_add_one, hpi]; rfl
    rw [htk] at D2
    have offp : ∀ h' ∈ c.hs, p ∉ upL f1 q (l.drop (i + 1)) h' := fun h' hh' hm => by
      by_cases e : h' = q
      · subst e
        rw [upL_self] at hm
        have := Z1.R.nod h' hh'
        rw [e2] at this
        exact (List.nodup_cons.mp this).1 hm
      · rw [upL_ne e] at hm
        exact e (Z1.R.dis h' hh' q hqs p hm (by rw [e2]; simp))
    refine app_op (fx := fx) (tl := tl4) (own := ow) (toB ⟨by assumption, by assumption, C1.B, C1.X, C1.T, C1.XB, C1.TB, C1.D, C1.T0⟩) hk o6 Z6 hhs hpx offp (by omega) rfl rfl fun h8 tk8 tl8 nx8 pv8 C8 o8 Z8 => ?_
    k_steps
    refine ⟨h8, tk8, _, fx ++ own, tl8, nx8, pv8, rfl, C8.F, news_sub C8.N (fun q hq => by rw [← hown]; simp only [List.mem_append] at hq ⊢; grind), fun q hq b hb => ?_, rfl, fun q hq b hb => ?_, _, _, Z8, D2, hil, hyy, ⟨rfl, rfl, rfl, rfl, rfl, congrArg (fun z => some (Value.int z _)) hai⟩, rfl⟩
    · rw [List.map_append] at hb
      rcases List.mem_append.mp hb with hb | hb
      · exact hofx q hq b hb
      · exact o8 q (by rw [← hown]; exact List.mem_append_right _ hq) b hb
    · exact o8 q (by rw [← hown]; exact List.mem_append_left _ hq) b hb
  · rintro i m1 pre1 tl1 nx1 pv1 h3 tk3 gens3 ⟨rfl, o1, f1, t, Z1, D1, hi, hp, kn1, kd1⟩ hbr F3 N3
    have hil : i = l.length := by
      rcases Nat.lt_or_ge i l.length with h | h
      · rw [List.getElem?_eq_getElem h] at hp
        have e2 : f1 q = l[i] :: l.drop (i + 1) := by rw [D1.h1]; exact List.drop_eq_getElem_cons h
        exact absurd (show q = l[i] from hp) (Z1.R.hx hqs (Z1.R.sub q hqs l[i] (by rw [e2]; exact List.mem_cons_self)))
      · omega
    subst hil
    rw [List.take_length, List.drop_length] at D1
    rw [← Int.natCast_add] at kn1
    exact hQ _ _ _ _ _ _ _ _ _ (toB (s := { s with heap := h3 }) ⟨F3, N3, C1.B, C1.X, C1.T, C1.XB, C1.TB, C1.D, C1.T0⟩) o1 Z1 D1 kn1 hbr
end
end MineN
namespace MineN
theorem rstH4 : True := by
  w_top off
  trivial
open Mine
theorem fillH4 : PySem.Challenge.rw_fc0145_01.Holds → (∀ w : World, (hd.heap_39 w.params).In default) → True := by
  k_fill
  intros
  trivial
local macro_rules | `(tactic| k_steps) => `(tactic| repeat' (first | (k_unfold; (try dsimp only)) | walk1 | (dsimp only; walk1) | fail "no step"))
local macro_rules | `(tactic| ktr_unf) => `(tactic| (refine wpAny_call ?_; refine' codeS ?B ?F ?X ?N ?T ?XB ?TB ?D ?T0 ?kA ?hf ?hke ?k6 ?k7 ?k8 ?k9 ?kB ?_ ?c2 ?c3 ?c4 ?c5; (case F => assumption); (case N => assumption); (case B => assumption); (case X => assumption); (case T => assumption); (case XB => assumption); (case TB => assumption); (case D => assumption); (case T0 => assumption); (case kA => exact rfl); (case hf => first | assumption | exact rfl); (case hke => first | assumption | exact rfl); (case k6 => k_is); (case k7 => k_is); (case k8 => (show _ < recursionLimit; first | omega | (dsimp only [Ar]; omega))); (case k9 => exact BindsTo.of_eq rfl); (case kB => exact locs rfl); (case c2 => exact rfl); (case c3 => exact rfl); (case c4 => exact rfl); (case c5 => decide); k_whole))
local macro_rules | `(tactic| walk_at "call ref") => `(tactic| (refine stopN ?_))
local macro_rules | `(tactic| walk_at "getAttr ref") => `(tactic| ((with_reducible show wpAny _ _ (getAttr (Value.ref _) (Str.ofString "path") _) _ _ _); refine stopN ?_))
local macro_rules | `(tactic| walk_at "pyIter ref") => `(tactic| (refine stopN ?_))
local macro_rules | `(tactic| walk_at "exec For") => `(tactic| (refine stopN ?_))
local macro_rules | `(tactic| walk_at "execs cons") => `(tactic| (dsimp only))
local macro_rules | `(tactic| walk_at "execs nil") => `(tactic| (dsimp only))
local macro_rules | `(tactic| walk_at "subscriptTail") => `(tactic| (k_here; (with_reducible show wpAny _ _ (subscriptTail _ _ (Value.ref _) (Value.int _ _)) _ _ _); (with_unfolding_all refine' item_litK ?k1 ?k2 ?k3 ?k4 ?_ ?k6; (case k1 => exact News.isList (by k_asm) (by assumption)); (case k2 => omega); (case k3 => omega); (case k4 => assumption); (case k6 => with_unfolding_all rfl); k_whole)))
local macro_rules | `(tactic| k_mem) => `(tactic| assumption)
local macro_rules | `(tactic| k_get) => `(tactic| assumption)
section
variable {w : World} {A₀ : Around} {base g₀ h₀ : Heap} {outer : List Env} {L hh pl q : Addr} {m mg mb : Str → Option Value} {mean : ExcName → Option Value}
  {s : Shared} {fx tl own : List (Addr × Obj)} {d u pk a : Nat} {gs : Option (List Code)} {Q : Flow → Shared → Prop} {E : Value → Shared → Prop}
  {c : NC} {xs ps l : List Addr} {nx pv : Addr → Option Addr} {f : Addr → List Addr} {key : Addr → Int} {bb cn dg : Int} {tb tc td tj : Tok}
/-- the first i piles are joined -/
structure Join (ps : List Addr) (hh : Addr) (hs : List Addr) (f0 f : Addr → List Addr) (i : Nat) : Prop where
  h1 : f hh = (ps.take i).flatMap f0
  h2 : ∀ (j : Nat) (q : Addr), ps[j]? = some q → j < i → f q = []
  h3 : ∀ (j : Nat) (q : Addr), ps[j]? = some q → i ≤ j → f q = f0 q
  h4 : ∀ h ∈ hs, h ≠ hh → h ∉ ps → f h = f0 h
theorem Join.step {hs : List Addr} {f0 f1 f2 : Addr → List Addr} {i : Nat} (J : Join ps hh hs f0 f1 i) (hi : ps[i]? = some q) (hps : ∀ q ∈ ps, q ∈ hs) (hnd : ps.Nodup) (hhp : hh ∉ ps) (K : Joined hh q hs f1 f2 (f0 q) []) : Join ps hh hs f0 f2 (i + 1) := by
  have hq := List.mem_of_getElem? hi
  have ne : ∀ {j q'}, ps[j]? = some q' → j ≠ i → q' ≠ q := fun {j q'} hj n w => by
    subst w
    exact n ((List.getElem?_inj (List.getElem?_eq_some_iff.mp hj).1 hnd).mp (hj.trans hi.symm))
  have nh : ∀ {q'}, q' ∈ ps → q' ≠ hh := fun m w => hhp (w ▸ m)
  refine ⟨?_, fun j q' hj lt => ?_, fun j q' hj le => ?_, fun h hh' e1 e2 => ?_⟩
  · rw [K.h2, J.h1, List.take_add_one, hi, List.flatMap_append]; simp
  · by_cases e : j = i
    · subst e
      rw [hi] at hj; cases hj
      exact K.h1
    · have m := List.mem_of_getElem? hj
      rw [K.h3 q' (hps q' m) (nh m) (ne hj e)]
      exact J.h2 j q' hj (by omega)
  · have m := List.mem_of_getElem? hj
    rw [K.h3 q' (hps q' m) (nh m) (ne hj (by omega))]
    exact J.h3 j q' hj (by omega)
  · rw [K.h3 h hh' e1 (fun w => e2 (by rw [w]; exact hq))]
    exact J.h4 h hh' e1 e2
theorem flat_take {f0 : Addr → List Addr} {i : Nat} (hi : ps[i]? = some q) : ((ps.take i).flatMap f0).length + (f0 q).length ≤ (ps.flatMap f0).length := by
  have e : ps = ps.take i ++ q :: ps.drop (i + 1) := by
    have h := (List.getElem?_eq_some_iff.mp hi)
    obtain ⟨h1, h2⟩ := h
    rw [← h2, ← List.drop_eq_getElem_cons h1, List.take_append_drop]
  conv => rhs; rw [e]
  rw [List.flatMap_append, List.flatMap_cons, List.length_append, List.length_append]
  omega
theorem join_loop (C : Cx w A₀ base outer mean mg mb g₀ h₀ L s.heap m (fx ++ tl ++ own)) (hk : ∀ p ∈ fx, isND p.2 = false) (ho : OwnOff own (tl.map (·.1))) (Z : c.St xs [] tl nx pv f) (hd : d + 16 < recursionLimit)
    (kn0 : soKn m hh pl bb cn dg tb tc td (.int 0 tj)) (hpl : (pl, listOf (ps.map Value.ref).toArray pk) ∈ fx) (hps : ∀ q ∈ ps, q ∈ c.hs) (hnd : ps.Nodup) (hhs : hh ∈ c.hs) (hhp : hh ∉ ps)
    (hl : f hh = []) (hcn : ((ps.flatMap f).length : Int) ≤ cn) (hl9 : (ps.flatMap f).length ≤ 9)
    (hE : PassesOwn (model PR w) (Ar d u (soEnv L :: outer) gs) (soEnv L) E)
    (hQ : ∀ h' tk gens m' tl' nx' pv' f' jv, Cx w A₀ base outer mean mg mb g₀ h₀ L h' m' (fx ++ tl' ++ own) → OwnOff own (tl'.map (·.1)) → c.St xs [] tl' nx' pv' f' → Join ps hh c.hs f f' ps.length → soKn m' hh pl bb cn dg tb tc td jv → (AllBare s.gens → AllBare gens) → Q .next { s with heap := h', toks := tk, gens := gens }) :
    wpAny (model PR w) (Ar d u (soEnv L :: outer) gs) (exec (soD 2) (soEnv L)) Q E s := by
  conv => pattern (soD 2); whnf
  unfold soEnv
  conv => pattern (occs := *) (defScope soDef); all_goals whnf
  obtain ⟨k1, k2, k3, k4, k5, k6⟩ := kn0
  have F := C.F
  have N := C.N
  have X := C.X
  have T := C.T
  rw [← kn_eq [(Str.ofString "line", .ref hh), (Str.ofString "piles", .ref pl), (Str.ofString "base", .int bb tb), (Str.ofString "count", .int cn tc), (Str.ofString "digit", .int dg td), (Str.ofString "joined", .int 0 tj)] (allC (P := fun p => m p.1 = some p.2) k1 (allC (P := fun p => m p.1 = some p.2) k2 (allC (P := fun p => m p.1 = some p.2) k3 (allC (P := fun p => m p.1 = some p.2) k4 (allC (P := fun p => m p.1 = some p.2) k5 (all1 (P := fun p => m p.1 = some p.2) k6))))))] at F
  dsimp only [kn] at F
  refine wpAny_For ?_ (by intro _; rfl)
  k_steps
  refine ⟨?_⟩
  have mpl : (pl, listOf (ps.map Value.ref).toArray pk) ∈ fx ++ tl ++ own := List.mem_append_left _ (List.mem_append_left _ hpl)
  refine listG (vs := ps.map Value.ref) (nn := pk) (fun i m1 nw => ∃ tl1 nx1 pv1 f1 t, nw = fx ++ tl1 ++ own ∧ OwnOff own (tl1.map (·.1)) ∧ c.St xs [] tl1 nx1 pv1 f1 ∧ Join ps hh c.hs f f1 i ∧ soKn m1 hh pl bb cn dg tb tc td (.int ((((ps.take i).flatMap f).length : Nat) : Int) t))
    rfl mpl F N ?_ ?_ rfl rfl hE ?_ ?_
  · exact ⟨tl, nx, pv, f, tj, rfl, ho, Z, ⟨hl, fun _ _ _ h => absurd h (Nat.not_lt_zero _), fun _ _ _ _ => rfl, fun _ _ _ _ => rfl⟩, rfl, rfl, rfl, rfl, rfl, rfl⟩
  · rintro i m1 nw ⟨tl1, _, _, _, _, rfl, _⟩
    exact List.mem_append_left _ (List.mem_append_left _ hpl)
  · rintro i v m1 nw h3 tk3 gens3 own2 hv ⟨tl1, nx1, pv1, f1, t, rfl, o1, Z1, J1, kn1⟩ hoff hbr F3 N3
    rw [List.getElem?_map] at hv
    obtain ⟨q, hq, rfl⟩ := Option.map_eq_some_iff.mp hv
    have hqm := List.mem_of_getElem? hq
    have hft := flat_take (f0 := f) hq
    have hoff2 : OwnOff (own ++ own2) (tl1.map (·.1)) := fun q hq b hb => by
      rcases List.mem_append.mp hq with hq | hq
      · exact o1 q hq b hb
      · exact hoff q hq b (by rw [List.map_append, List.map_append]; exact List.mem_append_left _ (List.mem_append_right _ hb))
    have hfq : f1 q = f q := J1.h3 i q hq (Nat.le_refl _)
    obtain ⟨q1, q2, q3, q4, q5, q6⟩ := kn1
    k_steps
    refine ⟨?_⟩
    refine pile_loop (c := c) (fx := fx) (tl := tl1) (own := own ++ own2) (a := ((ps.take i).flatMap f).length) (l := f q) ⟨F3, news_sub N3 fun q hq => by simp only [List.mem_append] at hq ⊢; grind, C.B, C.X, C.T, C.XB, C.TB, C.D, C.T0⟩ hk hoff2 Z1 hd ⟨q1, q2, q3, q4, q5, q6⟩ rfl hhs (hps q hqm) (fun w => hhp (w ▸ hqm)) hfq (by omega) (by omega) (by passes_own) fun h4 tk4 gens4 m4 tl4 nx4 pv4 f4 tj4 C4 o4 Z4 K4 kn4 hb4 => ?_
    refine wpAny_execs_nil ?_
    refine ⟨h4, tk4, gens4, m4, fx ++ tl4 ++ own, rfl, hb4, C4.F, news_sub C4.N fun q hq => by simp only [List.mem_append] at hq ⊢; grind, fun q hq b hb => ?_, tl4, nx4, pv4, f4, tj4, rfl, fun q hq b hb => o4 q (List.mem_append_left _ hq) b hb, Z4, J1.step hq hps hnd hhp K4, ?_⟩
    · have hx := hoff q hq
      simp only [List.map_append, List.mem_append] at hx hb
      rcases hb with (hb | hb) | hb
      · exact hx b (.inl (.inl hb))
      · exact o4 q (List.mem_append_right _ hq) b hb
      · exact hx b (.inr hb)
    · rw [show ((ps.take (i + 1)).flatMap f).length = ((ps.take i).flatMap f).length + (f q).length by rw [List.take_add_one, hq, List.flatMap_append, List.length_append]; simp]
      exact kn4
  · rintro m1 nw h3 tk3 gens3 ⟨tl1, nx1, pv1, f1, t, rfl, o1, Z1, J1, kn1⟩ hbr F3 N3
    rw [List.length_map] at J1 kn1
    exact hQ _ _ _ _ _ _ _ _ _ ⟨F3, N3, C.B, C.X, C.T, C.XB, C.TB, C.D, C.T0⟩ o1 Z1 J1 kn1 hbr
end
end MineN
namespace MineN
theorem rstH5 : True := by
  w_top off
  trivial
open Mine
theorem fillH5 : PySem.Challenge.rw_fc0145_01.Holds → (∀ w : World, (hd.heap_39 w.params).In default) → True := by
  k_fill
  intros
  trivial
local macro_rules | `(tactic| k_steps) => `(tactic| repeat' (first | (k_unfold; (try dsimp only)) | walk1 | (dsimp only; walk1) | fail "no step"))
local macro_rules | `(tactic| ktr_unf) => `(tactic| (refine wpAny_call ?_; refine' codeS ?B ?F ?X ?N ?T ?XB ?TB ?D ?T0 ?kA ?hf ?hke ?k6 ?k7 ?k8 ?k9 ?kB ?_ ?c2 ?c3 ?c4 ?c5; (case F => assumption); (case N => assumption); (case B => assumption); (case X => assumption); (case T => assumption); (case XB => assumption); (case TB => assumption); (case D => assumption); (case T0 => assumption); (case kA => exact rfl); (case hf => first | assumption | exact rfl); (case hke => first | assumption | exact rfl); (case k6 => k_is); (case k7 => k_is); (case k8 => (show _ < recursionLimit; first | omega | (dsimp only [Ar]; omega))); (case k9 => exact BindsTo.of_eq rfl); (case kB => exact locs rfl); (case c2 => exact rfl); (case c3 => exact rfl); (case c4 => exact rfl); (case c5 => decide); k_whole))
local macro_rules | `(tactic| walk_at "call ref") => `(tactic| (refine stopN ?_))
local macro_rules | `(tactic| walk_at "getAttr ref") => `(tactic| ((with_reducible show wpAny _ _ (getAttr (Value.ref _) (Str.ofString "path") _) _ _ _); refine stopN ?_))
local macro_rules | `(tactic| walk_at "pyIter ref") => `(tactic| (refine stopN ?_))
local macro_rules | `(tactic| walk_at "exec For Name Call cons nil") => `(tactic| (refine stopN ?_))
local macro_rules | `(tactic| walk_at "exec For") => `(tactic| (refine stopN ?_))
local macro_rules | `(tactic| walk_at "execs cons") => `(tactic| (dsimp only))
local macro_rules | `(tactic| walk_at "execs nil") => `(tactic| (dsimp only))
local macro_rules | `(tactic| walk_at "subscriptTail") => `(tactic| (k_here; (with_reducible show wpAny _ _ (subscriptTail _ _ (Value.ref _) (Value.int _ _)) _ _ _); (with_unfolding_all refine' item_litK ?k1 ?k2 ?k3 ?k4 ?_ ?k6; (case k1 => exact News.isList (by k_asm) (by assumption)); (case k2 => omega); (case k3 => omega); (case k4 => assumption); (case k6 => with_unfolding_all rfl); k_whole)))
local macro_rules | `(tactic| k_mem) => `(tactic| assumption)
local macro_rules | `(tactic| k_get) => `(tactic| assumption)
/-- one pass: by the digits' values, each value's in their order -/
def passD (key : Addr → Int) (bb : Int) (n : Nat) (d : Int) (l : List Addr) : List Addr := (List.range n).flatMap fun j : Nat => l.filter fun y => digI bb d (key y) == (j : Int)
def passes (key : Addr → Int) (bb : Int) (n : Nat) (l : List Addr) : Nat → List Addr
  | 0 => l
  | i + 1 => passD key bb n (i : Int) (passes key bb n l i)
theorem flat_perm {α : Type} (g : α → Int) (l : List α) (hg : ∀ y ∈ l, 0 ≤ g y) : ∀ n : Nat, ((List.range n).flatMap fun j : Nat => l.filter fun y => g y == (j : Int)).Perm (l.filter fun y => decide (g y < (n : Int)))
  | 0 => by
    rw [List.range_zero, List.flatMap_nil, List.filter_eq_nil_iff.mpr]
    intro y hy
    have := hg y hy
    simp only [decide_eq_true_eq]
    omega
  | n + 1 => by
    rw [List.range_succ, List.flatMap_append, List.flatMap_singleton]
    refine (List.Perm.append_right _ (flat_perm g l hg n)).trans ?_
    have h := List.filter_append_perm (fun y => decide (g y < (n : Int))) (l.filter fun y => decide (g y < ((n + 1 : Nat) : Int)))
    rw [List.filter_filter, List.filter_filter] at h
    refine List.Perm.trans (List.Perm.of_eq ?_) h
    congr 1
    · refine List.filter_congr fun y hy => ?_
      rw [Bool.eq_iff_iff]
      simp only [decide_eq_true_eq, Bool.and_eq_true]
      omega
    · refine List.filter_congr fun y hy => ?_
      rw [Bool.eq_iff_iff]
      simp only [decide_eq_true_eq, Bool.and_eq_true, beq_iff_eq, Bool.not_eq_true', decide_eq_false_iff_not]
      omega
theorem passD_perm {key : Addr → Int} {bb d : Int} {n : Nat} (l : List Addr) (h : 3 ≤ bb ∧ bb ≤ 4) (hn : bb = (n : Int)) : (passD key bb n d l).Perm l := by
  refine (flat_perm (fun y => digI bb d (key y)) l (fun y _ => (digI_lt h).1) n).trans (List.Perm.of_eq (List.filter_eq_self.mpr fun y _ => ?_))
  have := (digI_lt (dg := d) (k := key y) h).2
  simp only [decide_eq_true_eq]
  omega
theorem passes_perm {key : Addr → Int} {bb : Int} {n : Nat} (l : List Addr) (h : 3 ≤ bb ∧ bb ≤ 4) (hn : bb = (n : Int)) : ∀ i, (passes key bb n l i).Perm l
  | 0 => .refl _
  | i + 1 => (passD_perm _ h hn).trans (passes_perm l h hn i)
section
variable {w : World} {A₀ : Around} {base g₀ h₀ : Heap} {outer : List Env} {env : Env} {L hh pl q : Addr} {m mg mb : Str → Option Value} {mean : ExcName → Option Value}
  {s : Shared} {fx tl own : List (Addr × Obj)} {d u pk a : Nat} {gs : Option (List Code)} {Q : Value → Shared → Prop} {E : Value → Shared → Prop}
  {c : NC} {xs ps l : List Addr} {nx pv : Addr → Option Addr} {f : Addr → List Addr} {key : Addr → Int} {bb cn dg : Int} {tb tc td tj : Tok}
theorem flat_range {f0 : Addr → List Addr} {F : Nat → List Addr} : ∀ {ps : List Addr} {k : Nat}, (∀ (j : Nat) (q : Addr), ps[j]? = some q → f0 q = F (k + j)) → ps.flatMap f0 = (List.range' k ps.length).flatMap F
  | [], k, _ => rfl
  | p :: ps, k, h => by
    rw [List.flatMap_cons, List.length_cons, List.range'_succ, List.flatMap_cons, h 0 p rfl, Nat.add_zero]
    congr 1
    refine flat_range fun j q hj => ?_
    rw [h (j + 1) q (by rw [List.getElem?_cons_succ]; exact hj)]
    congr 1
    omega
theorem pass_of {hs : List Addr} {f0 f1 f2 : Addr → List Addr} (D : Dealt ps hh hs f0 f1 key bb dg l []) (J : Join ps hh hs f1 f2 ps.length) : f2 hh = passD key bb ps.length dg l := by
  rw [J.h1, List.take_length]
  unfold passD
  rw [List.range_eq_range']
  exact flat_range fun j q hj => by rw [D.h2 j q hj, Nat.zero_add]
theorem mem_four {α : Type} {q : α} {a b x y : List α} : q ∈ a ++ b ++ (x ++ y) ↔ q ∈ a ++ b ++ x ++ y := by
  rw [List.append_assoc (a ++ b)]
theorem sorted_spec (C : Cx w A₀ base outer mean mg mb g₀ h₀ L s.heap m (fx ++ tl ++ own)) (hk : ∀ p ∈ fx, isND p.2 = false) (ho : OwnOff own (tl.map (·.1))) (hof : OwnOff own (fx.map (·.1))) (Z : c.St xs [] tl nx pv f) (hd : d + 20 < recursionLimit) (hf : env.frame = some L) (hke : env.scope.kind = .function)
    (hpl : (pl, listOf (ps.map Value.ref).toArray pk) ∈ fx) (hps : ∀ q ∈ ps, q ∈ c.hs) (hnd : ps.Nodup) (hhs : hh ∈ c.hs) (hhp : hh ∉ ps)
    (hl : f hh = l) (hemp : ∀ q ∈ ps, f q = []) (hcn : (l.length : Int) ≤ cn) (hl9 : l.length ≤ 9) (hb1 : bb = (ps.length : Int)) (hb2 : 3 ≤ bb ∧ bb ≤ 4) (hK : Keys c xs key fx)
    (hQ : ∀ h' tk gens tl' nx' pv' f', Cx w A₀ base outer mean mg mb g₀ h₀ L h' m (fx ++ tl' ++ own) → OwnOff own (tl'.map (·.1)) → c.St xs [] tl' nx' pv' f' → f' hh = passes key bb ps.length l 3 → (∀ q ∈ ps, f' q = []) → (∀ h ∈ c.hs, h ≠ hh → h ∉ ps → f' h = f h) → (AllBare s.gens → AllBare gens) → Q (.bool true) { s with heap := h', toks := tk, gens := gens }) :
    wpAny (model PR w) (Ar d u (env :: outer) gs) (call (.ref 263) [.ref hh, .ref pl, .int bb tb, .int cn tc] []) Q E s := by
  obtain ⟨F, N, B, X, T, XB, TB, D, T0⟩ := C
  ktr_unf
  intro g' L' h' F' N' B' X' T' D'
  have T1 : KtsTurn (frs (env :: outer)) g' g' := KtsTurn.refl
  (try dsimp only); (try k_fold)
  k_steps
  refine ⟨?_⟩
  refine wpAny_For ?_ (by intro _; rfl)
  k_steps
  refine ⟨?_⟩
  rename_i h2 tk2 t1 u1 v1 hR F2 N2 k2
  show wpAny (model PR w) (Ar (d + 1) (u + 3) (soEnv L' :: env :: outer) gs) _ _ _ _
  have hE : PassesOwn (model PR w) (Ar (d + 1) (u + 3) (soEnv L' :: env :: outer) gs) (soEnv L') (fun e s' => wpAny (model PR w) (Ar (d + 1) (u + 3) (soEnv L' :: env :: outer) gs) (leaving (soEnv L') e) (fun _ s'' => E e s'') (fun e' s'' => E e' s'') s') := by passes_own
  refine rangeG (n := 3) (fun i m1 nw => ∃ tl1 nx1 pv1 f1, nw = fx ++ tl1 ++ own ∧ OwnOff own (tl1.map (·.1)) ∧ c.St xs [] tl1 nx1 pv1 f1 ∧ f1 hh = passes key bb ps.length l i ∧ (∀ q ∈ ps, f1 q = []) ∧ (∀ h ∈ c.hs, h ≠ hh → h ∉ ps → f1 h = f h) ∧ m1 (Str.ofString "line") = some (.ref hh) ∧ m1 (Str.ofString "piles") = some (.ref pl) ∧ m1 (Str.ofString "base") = some (.int bb tb) ∧ m1 (Str.ofString "count") = some (.int cn tc))
    rfl hR (by decide) (by decide) F2 N2 ⟨tl, nx, pv, f, rfl, ho, Z, hl, hemp, fun _ _ _ _ => rfl, rfl, rfl, rfl, rfl⟩ rfl rfl hE ?_ ?_
  · rintro i t m1 nw h3 tk3 gens3 own2 hi ⟨tl1, nx1, pv1, f1, rfl, o1, Z1, e1, e2, e3, q1, q2, q3, q4⟩ hoff hbr F3 N3
    rw [← kn_eq [(Str.ofString "line", .ref hh), (Str.ofString "piles", .ref pl), (Str.ofString "base", .int bb tb), (Str.ofString "count", .int cn tc)] (allC (P := fun p => m1 p.1 = some p.2) q1 (allC (P := fun p => m1 p.1 = some p.2) q2 (allC (P := fun p => m1 p.1 = some p.2) q3 (all1 (P := fun p => m1 p.1 = some p.2) q4))))] at F3
    dsimp only [kn] at F3
    have hoff2 : OwnOff (own ++ own2) (tl1.map (·.1)) := fun q hq b hb => by
      rcases List.mem_append.mp hq with hq | hq
      · exact o1 q hq b hb
      · exact hoff q hq b (by rw [List.map_append, List.map_append]; exact List.mem_append_left _ (List.mem_append_right _ hb))
    k_steps
    rename_i FF NN
    refine ⟨?_⟩
    refine deal_loop (c := c) (fx := fx) (tl := tl1) (own := own ++ own2) (hh := hh) (ps := ps) (l := passes key bb ps.length l i) (jv := .int 0 _) (dg := Int.ofNat i) (tb := tb) (tc := tc) (td := t)
      ⟨FF, news_sub NN fun q hq => .tail _ (mem_four.mp hq), B', X', T', XB, TB, D', T1⟩ hk hoff2 Z1 (by omega) ⟨rfl, rfl, rfl, rfl, rfl, rfl⟩ rfl hpl hps hnd hhs hhp e1 e2
      (by rw [(passes_perm l hb2 hb1 i).length_eq]; exact hcn) (by rw [(passes_perm l hb2 hb1 i).length_eq]; exact hl9) hb1 hb2 ⟨Int.natCast_nonneg _, by show (i : Int) ≤ 2; omega⟩ hK hE
      fun h4 tk4 gens4 m4 tl4 nx4 pv4 f4 C4 o4 Z4 D4 kn4 hb4 => ?_
    have J4 : ∀ q ∈ ps, q ∈ c.hs := hps
    have hlen : (ps.flatMap f4).length = l.length := by
      have := flat_range (k := 0) (ps := ps) (f0 := f4) (F := fun j => (passes key bb ps.length l i).filter fun y => digI bb (Int.ofNat i) (key y) == (j : Int)) fun j q hj => by rw [D4.h2 j q hj, Nat.zero_add]
      rw [this, ← List.range_eq_range']
      exact ((passD_perm (key := key) (d := Int.ofNat i) _ hb2 hb1).trans (passes_perm l hb2 hb1 i)).length_eq
    obtain ⟨F4, N4, _, X4, T4, _, _, _, _⟩ := id C4
    k_steps
    refine ⟨?_⟩
    refine join_loop (c := c) (fx := fx) (tl := tl4) (own := own ++ own2) (hh := hh) (ps := ps) C4 hk o4 Z4 (by omega) kn4 hpl hps hnd hhs hhp D4.h1 (by rw [hlen]; exact hcn) (by rw [hlen]; exact hl9) hE
      fun h5 tk5 gens5 m5 tl5 nx5 pv5 f5 jv C5 o5 Z5 J5 kn5 hb5 => ?_
    obtain ⟨q1, q2, q3, q4, q5, q6⟩ := kn5
    refine wpAny_execs_nil ?_
    refine ⟨h5, tk5, gens5, m5, fx ++ tl5 ++ own, rfl, fun x => hb5 (hb4 x), C5.F, news_sub C5.N fun q hq => by simp only [List.mem_append] at hq ⊢; grind, fun q hq b hb => ?_, tl5, nx5, pv5, f5, rfl, fun q hq b hb => o5 q (List.mem_append_left _ hq) b hb, Z5, pass_of D4 J5, fun q hq => ?_, fun h hh' a b => ?_, q1, q2, q3, q4⟩
    · have hx := hoff q hq
      simp only [List.map_append, List.mem_append] at hx hb
      rcases hb with (hb | hb) | hb
      · exact hx b (.inl (.inl hb))
      · exact o5 q (List.mem_append_right _ hq) b hb
      · exact hx b (.inr hb)
    · obtain ⟨j, hj⟩ := List.mem_iff_getElem?.mp hq
      exact J5.h2 j q hj (List.getElem?_eq_some_iff.mp hj).1
    · rw [J5.h4 h hh' a b, D4.h3 h hh' a b, e3 h hh' a b]
  · rintro m1 nw h3 tk3 gens3 ⟨tl1, nx1, pv1, f1, rfl, o1, Z1, e1, e2, e3, q1, q2, q3, q4⟩ hbr F3 N3
    k_steps
    rename_i kF kN kT kX
    exact hQ _ _ _ _ _ _ _ ⟨kF, kN, B, X, T, XB, TB, D, T0⟩ o1 Z1 e1 e2 e3 hbr
end
end MineN
namespace MineN
theorem rstH6 : True := by
  w_top off
  trivial
open Mine
theorem fillH6 : PySem.Challenge.rw_fc0145_01.Holds → (∀ w : World, (hd.heap_39 w.params).In default) → True := by
  k_fill
  intros
  trivial
local macro_rules | `(tactic| k_steps) => `(tactic| repeat' (first | (k_unfold; (try dsimp only)) | walk1 | (dsimp only; walk1) | fail "no step"))
local macro_rules | `(tactic| ktr_unf) => `(tactic| (refine wpAny_call ?_; refine' codeS ?B ?F ?X ?N ?T ?XB ?TB ?D ?T0 ?kA ?hf ?hke ?k6 ?k7 ?k8 ?k9 ?kB ?_ ?c2 ?c3 ?c4 ?c5; (case F => assumption); (case N => assumption); (case B => assumption); (case X => assumption); (case T => assumption); (case XB => assumption); (case TB => assumption); (case D => assumption); (case T0 => assumption); (case kA => exact rfl); (case hf => first | assumption | exact rfl); (case hke => first | assumption | exact rfl); (case k6 => k_is); (case k7 => k_is); (case k8 => (show _ < recursionLimit; first | omega | (dsimp only [Ar]; omega))); (case k9 => exact BindsTo.of_eq rfl); (case kB => exact locs rfl); (case c2 => exact rfl); (case c3 => exact rfl); (case c4 => exact rfl); (case c5 => decide); k_whole))
local macro_rules | `(tactic| walk_at "call ref") => `(tactic| (refine stopN ?_))
local macro_rules | `(tactic| walk_at "getAttr ref") => `(tactic| ((with_reducible show wpAny _ _ (getAttr (Value.ref _) (Str.ofString "path") _) _ _ _); refine stopN ?_))
local macro_rules | `(tactic| walk_at "pyIter ref") => `(tactic| (refine stopN ?_))
local macro_rules | `(tactic| walk_at "exec For Name Call cons nil") => `(tactic| (refine stopN ?_))
local macro_rules | `(tactic| walk_at "exec For") => `(tactic| (refine stopN ?_))
local macro_rules | `(tactic| walk_at "exec While") => `(tactic| (refine stopN ?_))
local macro_rules | `(tactic| walk_at "exec While BoolOp") => `(tactic| (refine stopN ?_))
local macro_rules | `(tactic| walk_at "subscriptTail Name Slice ref ref") => `(tactic| (refine stopN ?_))
local macro_rules | `(tactic| walk_at "binaryOp Add ref ref") => `(tactic| (refine stopN ?_))
local macro_rules | `(tactic| walk_at "execs cons") => `(tactic| (dsimp only))
local macro_rules | `(tactic| walk_at "execs nil") => `(tactic| (dsimp only))
local macro_rules | `(tactic| walk_at "subscriptTail") => `(tactic| (k_here; (with_reducible show wpAny _ _ (subscriptTail _ _ (Value.ref _) (Value.int _ _)) _ _ _); (with_unfolding_all refine' item_litK ?k1 ?k2 ?k3 ?k4 ?_ ?k6; (case k1 => exact News.isList (by k_asm) (by assumption)); (case k2 => omega); (case k3 => omega); (case k4 => assumption); (case k6 => with_unfolding_all rfl); k_whole)))
local macro_rules | `(tactic| k_mem) => `(tactic| assumption)
local macro_rules | `(tactic| k_get) => `(tactic| assumption)
/-- a row's place: behind those that are not greater -/
def insA (kr : Addr → Int) (x : Addr) : List Addr → List Addr
  | [] => [x]
  | y :: l => if kr y ≤ kr x then y :: insA kr x l else x :: y :: l
def placeOf (kr : Addr → Int) (x : Addr) (D : List Addr) : Nat → Nat
  | 0 => 0
  | k + 1 => if kr x < kr (D.getD k 0) then placeOf kr x D k else k + 1
theorem placeOf_succ {kr : Addr → Int} {x : Addr} {D : List Addr} {k : Nat} : placeOf kr x D (k + 1) = if kr x < kr (D.getD k 0) then placeOf kr x D k else k + 1 := rfl
def ins1 (kr : Addr → Int) (D : List Addr) (x : Addr) : List Addr := D.take (placeOf kr x D D.length) ++ [x] ++ D.drop (placeOf kr x D D.length)
def insL (kr : Addr → Int) (l : List Addr) : List Addr := l.foldl (ins1 kr) []
theorem ins1_length {kr : Addr → Int} {D : List Addr} {x : Addr} : (ins1 kr D x).length = D.length + 1 := by
  unfold ins1
  simp only [List.length_append, List.length_take, List.length_drop, List.length_cons, List.length_nil]
  omega
theorem pick_up (l : List Addr) (n : Nat) : (slicePick (l.map Value.ref).toArray none (some (n : Int)) none).toList = (l.take n).map Value.ref := by
  rw [slicePick_upto']
  simp [List.map_take]
theorem pick_fr (l : List Addr) (n : Nat) : (slicePick (l.map Value.ref).toArray (some (n : Int)) none none).toList = (l.drop n).map Value.ref := by
  rw [slicePick_from']
  simp [List.map_drop]
theorem insL_snoc {kr : Addr → Int} {l : List Addr} {x : Addr} : insL kr (l ++ [x]) = ins1 kr (insL kr l) x := by
  unfold insL; rw [List.foldl_append]; rfl
theorem insL_length {kr : Addr → Int} (l : List Addr) : (insL kr l).length = l.length := by
  have : ∀ (l D : List Addr), (l.foldl (ins1 kr) D).length = D.length + l.length := by
    intro l
    induction l with
    | nil => intro D; rfl
    | cons x l ih => intro D; rw [List.foldl_cons, ih, ins1_length, List.length_cons]; omega
  unfold insL
  rw [this, List.length_nil, Nat.zero_add]
theorem ins1_mem {kr : Addr → Int} {D : List Addr} {x y : Addr} (h : y ∈ ins1 kr D x) : y = x ∨ y ∈ D := by
  unfold ins1 at h
  simp only [List.mem_append, List.mem_singleton] at h
  rcases h with (h | h) | h
  · exact .inr (List.mem_of_mem_take h)
  · exact .inl h
  · exact .inr (List.mem_of_mem_drop h)
theorem insL_mem {kr : Addr → Int} {l : List Addr} {y : Addr} (h : y ∈ insL kr l) : y ∈ l := by
  have : ∀ (l D : List Addr), y ∈ l.foldl (ins1 kr) D → y ∈ D ∨ y ∈ l := by
    intro l
    induction l with
    | nil => intro D h; exact .inl h
    | cons x l ih =>
      intro D h
      rcases ih _ h with h | h
      · rcases ins1_mem h with rfl | h
        · exact .inr (.head _)
        · exact .inl h
      · exact .inr (.tail _ h)
  rcases this l [] h with h | h
  · cases h
  · exact h
/-- how the search for a row's place ends -/
structure WOut (s : Shared) (gens : Array GenState) (g : Heap) (L : Addr) (nw : List (Addr × Obj)) (D q : Addr) (n : Nat) (f : Flow) (s₂ : Shared) : Prop where
  nx : f = .next
  st : ∃ h6 tk6 m6 t6, s₂ = { s with heap := h6, toks := tk6, gens := gens } ∧ Fr g L h6 m6 ∧ News g L h6 nw ∧ m6 (Str.ofString "k") = some (.int (n : Int) t6) ∧ m6 (Str.ofString "done") = some (.ref D) ∧ m6 (Str.ofString "row") = some (.ref q)
section
variable {w : World} {A₀ : Around} {base g₀ h₀ : Heap} {outer : List Env} {env : Env} {L rl : Addr} {m mg mb : Str → Option Value} {mean : ExcName → Option Value}
  {s : Shared} {pre : List (Addr × Obj)} {d u rk : Nat} {gs : Option (List Code)} {Q : Value → Shared → Prop} {E : Value → Shared → Prop} {rs : List Addr} {kr : Addr → Int}
theorem ordered_spec (C : Cx w A₀ base outer mean mg mb g₀ h₀ L s.heap m pre) (hd : d + 20 < recursionLimit) (hf : env.frame = some L) (hke : env.scope.kind = .function)
    (hrl : (rl, listOf (rs.map Value.ref).toArray rk) ∈ pre) (hrs : ∀ r ∈ rs, 0 ≤ kr r ∧ kr r ≤ 63 ∧ ∃ k t u, (r, tupObj [.int (kr r) t, .int k u]) ∈ pre) (hl9 : rs.length ≤ 9)
    (hQ : ∀ h' tk gens D k, Cx w A₀ base outer mean mg mb g₀ h₀ L h' m ((D, listOf ((insL kr rs).map Value.ref).toArray k) :: pre) → (∀ q ∈ pre, q.1 < D) → (AllBare s.gens → AllBare gens) → Q (.ref D) { s with heap := h', toks := tk, gens := gens }) :
    wpAny (model PR w) (Ar d u (env :: outer) gs) (call (.ref 270) [.ref rl] []) Q E s := by
  obtain ⟨F, N, B, X, T, XB, TB, DD, T0⟩ := C
  ktr_unf
  intro g' L' h' F' N' B' X' T' D'
  have T1 : KtsTurn (frs (env :: outer)) g' g' := KtsTurn.refl
  (try dsimp only); (try k_fold)
  k_steps
  refine ⟨?_⟩
  refine wpAny_For ?_ (by intro _; rfl)
  k_steps
  refine ⟨?_⟩
  rename_i D0 h1 l1 h2 F2 N2
  refine listG (vs := rs.map Value.ref) (nn := rk) (fun i m1 nw => ∃ D k, nw = (D, listOf ((insL kr (rs.take i)).map Value.ref).toArray k) :: pre ∧ (∀ q ∈ pre, q.1 < D) ∧ m1 (Str.ofString "done") = some (.ref D)) rfl (.tail _ hrl) F2 N2 ⟨D0, 0, rfl, l1, rfl⟩ (fun i m1 nw ⟨D, k, e, _⟩ => by rw [e]; exact .tail _ hrl) rfl rfl (by passes_own) ?_ ?_
  · rintro i v m1 nw h3 tk3 gens3 own hv ⟨D, k, rfl, hlt, q1⟩ hoff hbr F3 N3
    rw [List.getElem?_map] at hv
    obtain ⟨q, hq, rfl⟩ := Option.map_eq_some_iff.mp hv
    obtain ⟨g1, g2, ik, t1, u1, hmt⟩ := hrs q (List.mem_of_getElem? hq)
    rw [← kn_eq [(Str.ofString "done", .ref D)] (all1 (P := fun p => m1 p.1 = some p.2) q1)] at F3
    dsimp only [kn] at F3
    have mt : (q, tupObj [.int (kr q) t1, .int ik u1]) ∈ (D, listOf ((insL kr (rs.take i)).map Value.ref).toArray k) :: (pre ++ own) := .tail _ (List.mem_append_left _ hmt)
    replace N3 : News g' L' h3 ((D, listOf ((insL kr (rs.take i)).map Value.ref).toArray k) :: (pre ++ own)) := N3
    have hil : i < rs.length := (List.getElem?_eq_some_iff.mp hq).1
    have hDl : (insL kr (rs.take i)).length = i := by rw [insL_length, List.length_take]; omega
    have hDk : ∀ y ∈ insL kr (rs.take i), 0 ≤ kr y ∧ kr y ≤ 63 ∧ ∃ k t u, (y, tupObj [.int (kr y) t, .int k u]) ∈ pre := fun y hy => hrs y (List.mem_of_mem_take (insL_mem hy))
    have htk : rs.take (i + 1) = rs.take i ++ [q] := by rw [List.take_add_one, hq]; rfl
    rw [htk, insL_snoc]
    generalize insL kr (rs.take i) = Dl at N3 mt hDl hDk hoff
    k_steps
    refine KM.len_K N3 (.head _) (n := i) (by rw [List.size_toArray, List.length_map, hDl]) (by omega) ?_
    k_steps
    refine ⟨?_⟩
    rename_i F4 N4
    refine wpAny_mono (While_inv2 (n₀ := i) (Q := WOut s gens3 g' L' ((D, listOf (Dl.map Value.ref).toArray k) :: (pre ++ own)) D q (placeOf kr q Dl i)) (fun n m2 nw2 => nw2 = (D, listOf (Dl.map Value.ref).toArray k) :: (pre ++ own) ∧ n ≤ i ∧ placeOf kr q Dl n = placeOf kr q Dl i ∧ (∃ t, m2 (Str.ofString "k") = some (.int (n : Int) t)) ∧ m2 (Str.ofString "done") = some (.ref D) ∧ m2 (Str.ofString "row") = some (.ref q)) F4 N4 ⟨rfl, Nat.le_refl _, rfl, ⟨_, rfl⟩, rfl, rfl⟩ ?_) ?_ fun _ _ e => e
    rotate_left
    · rintro f s₂ ⟨rfl, h6, tk6, m6, t6, rfl, F6, N6, q5, q6, q7⟩
      dsimp only
      rw [← kn_eq [(Str.ofString "done", .ref D), (Str.ofString "row", .ref q), (Str.ofString "k", .int ((placeOf kr q Dl i : Nat) : Int) t6)] (allC (P := fun p => m6 p.1 = some p.2) q6 (allC (P := fun p => m6 p.1 = some p.2) q7 (all1 (P := fun p => m6 p.1 = some p.2) q5)))] at F6
      dsimp only [kn] at F6
      have hDl9 : Dl.length ≤ 9 := by omega
      have hsz : (Dl.map Value.ref).toArray.size ≤ sizeLine := by rw [List.size_toArray, List.length_map]; exact Nat.le_trans hDl9 (by decide)
      generalize hpk : placeOf kr q Dl i = pk at F6
      have mk : ∀ n h nw, News g' L' h ((n, listOf (Dl.map Value.ref).toArray k) :: nw) → h.IsList n (Dl.map Value.ref).toArray := fun n h nw N => News.isList N (.head _)
      k_steps
      refine ⟨?_⟩
      refine kmk_slice_lit F6 N6 (News.isList N6 (.head _)) ?k1 ?k2 (pick_up Dl pk) (fun D1 h7 F7 N7 l7 => ?_) (by with_unfolding_all rfl) ?k3 hsz
      case k1 => kmk_part
      case k2 => kmk_part
      case k3 => kmk_pure
      k_steps
      refine ⟨?_⟩
      rename_i l2 h8 F8 N8 l8
      refine add_lists (vs := (Dl.take pk).map Value.ref) (ws := [.ref q]) F8 N8 (News.isList N8 (.tail _ (.head _))) (News.isList N8 (.head _)) (fun h9 F9 N9 => ?_) (by rw [List.length_map, List.length_take]; exact Nat.le_trans (show min pk Dl.length + 1 ≤ 10 by omega) (by decide))
      k_steps
      refine ⟨?_⟩
      refine kmk_slice_lit F9 N9 (News.isList N9 (.tail _ (.tail _ (.tail _ (.head _))))) ?k4 ?k5 (pick_fr Dl pk) (fun D2 h10 F10 N10 l10 => ?_) (by with_unfolding_all rfl) ?k6 hsz
      case k4 => kmk_part
      case k5 => kmk_part
      case k6 => kmk_pure
      k_steps
      refine ⟨?_⟩
      refine add_lists (vs := (Dl.take pk).map Value.ref ++ [.ref q]) (ws := (Dl.drop pk).map Value.ref) F10 N10 (News.isList N10 (.tail _ (.head _))) (News.isList N10 (.head _)) (fun h11 F11 N11 => ?_) (by rw [List.length_append, List.length_map, List.length_map, List.length_take, List.length_drop]; exact Nat.le_trans (show min pk Dl.length + 1 + (Dl.length - pk) ≤ 20 by omega) (by decide))
      have l11 : ∀ q ∈ pre ++ own, q.1 < h10.objs.size := fun q hq => Heap.lt_size (N10 q (by repeat (first | exact hq | refine List.Mem.tail _ ?_))).1
      have e : (ins1 kr Dl q).map Value.ref = ((Dl.take pk).map Value.ref ++ [.ref q]) ++ (Dl.drop pk).map Value.ref := by
        unfold ins1
        rw [hDl, hpk, List.map_append, List.map_append]; rfl
      k_steps
      rename_i FF NN
      refine ⟨_, _, _, _, (h10.objs.size, listOf ((ins1 kr Dl q).map Value.ref).toArray 0) :: pre, rfl, fun x => x, FF, news_sub NN fun y hy => ?_, fun y hy b hb => ?_, ⟨_, 0, rfl, fun y hy => l11 y (List.mem_append_left _ hy), rfl⟩⟩
      · rw [e] at hy
        rcases List.mem_cons.mp hy with rfl | hy
        · exact .head _
        · repeat (first | exact hy | refine List.Mem.tail _ ?_)
      · rcases List.mem_cons.mp hb with rfl | hb
        · exact Nat.ne_of_lt (l11 y (List.mem_append_right _ hy))
        · exact hoff y hy b (.tail _ hb)
    rintro n m2 nw2 h5 tk5 F5 N5 ⟨rfl, hn, hpl, ⟨t5, q5⟩, q6, q7⟩
    rw [← kn_eq [(Str.ofString "done", .ref D), (Str.ofString "row", .ref q), (Str.ofString "k", .int (n : Int) t5)] (allC (P := fun p => m2 p.1 = some p.2) q6 (allC (P := fun p => m2 p.1 = some p.2) q7 (all1 (P := fun p => m2 p.1 = some p.2) q5)))] at F5
    dsimp only [kn] at F5
    cases n with
    | zero =>
      k_steps
      exact ⟨rfl, _, _, _, _, rfl, F5, N5, congrArg (fun z : Nat => some (Value.int (z : Int) _)) hpl, rfl, rfl⟩
    | succ j =>
      have hjl : j < Dl.length := by omega
      have hjm : Dl[j] ∈ Dl := List.getElem_mem hjl
      have hjd : Dl.getD j 0 = Dl[j] := by rw [List.getD_eq_getElem?_getD, List.getElem?_eq_getElem hjl]; rfl
      generalize hyj : Dl[j] = yj at hjm hjd
      obtain ⟨e1, e2, ek, et, eu, hme⟩ := hDk yj hjm
      have me : (yj, tupObj [.int (kr yj) et, .int ek eu]) ∈ (D, listOf (Dl.map Value.ref).toArray k) :: (pre ++ own) := .tail _ (List.mem_append_left _ hme)
      have hix : (Dl.map Value.ref)[(((j + 1 : Nat) : Int) - 1).toNat]? = some (.ref yj) := by
        rw [show (((j + 1 : Nat) : Int) - 1).toNat = j by omega, List.getElem?_map, List.getElem?_eq_getElem hjl, hyj]; rfl
      have mD : (D, listOf (Dl.map Value.ref).toArray k) ∈ (D, listOf (Dl.map Value.ref).toArray k) :: (pre ++ own) := .head _
      have hj9 : ((j + 1 : Nat) : Int) ≤ 9 := by omega
      have hj0 : (0 : Int) < ((j + 1 : Nat) : Int) := by omega
      k_steps
      · rename_i hlt2 _ _ F6 N6
        have hpl2 : placeOf kr q Dl j = placeOf kr q Dl i := by rw [← hpl, placeOf_succ, hjd, if_pos hlt2]
        refine ⟨_, _, _, _, j, rfl, F6, N6, by omega, rfl, by omega, hpl2, ⟨_, congrArg (fun z => some (Value.int z _)) (show ((j + 1 : Nat) : Int) - 1 = (j : Int) by omega)⟩, rfl, rfl⟩
      · rename_i hlt2
        have hpl2 : placeOf kr q Dl i = j + 1 := by rw [← hpl, placeOf_succ, hjd, if_neg hlt2]
        exact ⟨rfl, _, _, _, _, rfl, F5, N5, by rw [hpl2]; rfl, rfl, rfl⟩
  · rintro m1 nw h3 tk3 gens3 ⟨D, k, rfl, hlt, q1⟩ hbr F3 N3
    rw [← kn_eq [(Str.ofString "done", .ref D)] (all1 (P := fun p => m1 p.1 = some p.2) q1)] at F3
    dsimp only [kn] at F3
    k_steps
    rename_i kF kN kT kX
    rw [List.length_map, List.take_length] at kN
    exact hQ _ _ _ _ _ ⟨kF, kN, B, X, T, XB, TB, DD, T0⟩ hlt hbr
end
end MineN
namespace MineN
open Mine
noncomputable def lawDef : Stmt := PySem.Challenge.pw_fc0145_01.main.body.getLast (by intro h; cases h)
noncomputable def lawBody : List Stmt := defBody lawDef
noncomputable def lawScope : Scope := defScope lawDef
noncomputable abbrev lawEnv (L fa : Addr) (cd : Value) : Env := envOfC (Str.ofString "law") lawScope L fa cd
noncomputable def st (i : Nat) : Stmt := lawBody[i]!
theorem goodWG_of {c : ClaimW} {cl : Str → Option Addr} {mean : ExcName → Option Value} {args : List WData} {s₁ s' : Shared} {res : Result} {gens : Array GenState} (hg : AllBare gens)
    (g : GoodW c cl mean args s₁ res s') : GoodWG c cl mean args s₁ res { s' with gens := gens } := ⟨g.1, .of_keep g.2.1, g.2.2.1, hg⟩
end MineN
namespace MineN
theorem rstV2 : True := by
  w_top off
  trivial
open Mine
theorem fillV2 : PySem.Challenge.rw_fc0145_01.Holds → (∀ w : World, (hd.heap_39 w.params).In default) → True := by
  k_fill
  intros
  trivial
local macro_rules | `(tactic| walk_at "subscriptTail Name Slice ref ref") => `(tactic| (k_here; (with_reducible show wpAny _ _ (subscriptTail _ (PySem.Expr.Slice _ _ none _) (Value.ref _) (Value.ref _)) _ _ _); k_dflt (refine' kmk_slice_ints ?F ?N ?l ?p ?q ?i ?m ?c ?_ ?s ?t ?z; (case F => k_asm); (case N => k_asm); (case l => kmk_list); (case p => kmk_part); (case q => kmk_part); (case i => l_ints); (case m => first | with_reducible exact kmk_from (by l_ints) (by kmk_sign) | with_reducible exact kmk_upto (by l_ints) (by kmk_sign) | with_reducible exact kmk_run (by l_ints) (by kmk_sign) (by kmk_sign) | kmk_nums); (case c => exact rfl); (case s => with_unfolding_all rfl); (case t => kmk_pure); (case z => kmk_size)); intro D' ws' h' F' N' l1 hI' hC' hL'; (try simp only [Int.reduceNeg, Int.neg_neg, Int.reduceToNat] at hI' hC' hL'); (try k_lt l1); (try k_sweep)))
local macro_rules | `(tactic| k_steps) => `(tactic| repeat' (first | (k_unfold; (try dsimp only)) | walk1 | (dsimp only; walk1) | fail "no step"))
section
variable {w : World} {base : Heap} {L fa sc : Addr} {cd : Value} {mg mb : Str → Option Value} {mean : ExcName → Option Value} {s : Shared} {Q : Flow → Shared → Prop} {E : Value → Shared → Prop}
  {vs : List Value} {ns : List Int} {o1 o2 o3 o4 o5 : Obj}
theorem segA (B : Below callerA base [] base) (F : Fr base L s.heap (fun y => if y = Str.ofString "script" then some (.ref sc) else none)) (X : (hd.heap_39 w.params).In base) (T : Top VW LO mean mg mb base)
    (N : News base L s.heap [(L + 1 + 1 + 1 + 1 + 1, o5), (L + 1 + 1 + 1 + 1, o4), (L + 1 + 1 + 1, o3), (L + 1 + 1, o2), (L + 1, o1)])
    (d5 : o5.data = .cell none) (d4 : o4.data = .cell none) (d3 : o3.data = .cell none) (d2 : o2.data = .cell none) (d1 : o1.data = .cell none)
    (hL : base.IsList sc vs.toArray) (hI : IntsAre vs ns) (hn : ns.length ≤ 63)
    (hQ : ∀ h' tk m' cl cvs cs o1' o2' o3' o4' mk dmk t2 t3, Fr base L h' m' →
      News base L h' [(mk, instObj 200 dmk), (dmk, dictOf [] 0), (cl, listOf cvs.toArray 0), (L + 1 + 1 + 1 + 1 + 1, o5), (L + 1 + 1 + 1 + 1, o4'), (L + 1 + 1 + 1, o3'), (L + 1 + 1, o2'), (L + 1, o1')] → IntsAre cvs cs → cs.length = 10 →
      o1'.data = .cell (some (.ref cl)) → o2'.data = .cell (some (.int (1 + (cs.getD 0 0).fmod 9) t2)) → o3'.data = .cell (some (.int (3 + ((cs.getD 0 0).fdiv 9).fmod 2) t3)) → o4'.data = .cell (some (.ref mk)) →
      @LT.lt Nat _ (L + 1 + 1 + 1 + 1 + 1) cl → @LT.lt Nat _ cl dmk → @LT.lt Nat _ dmk mk → Q .next { s with heap := h', toks := tk }) :
    wpAny (model PR w) (callerA.deeper (lawEnv L fa cd)) (execs [st 0, st 1, st 2, st 3] (lawEnv L fa cd)) Q E s := by
  conv => pattern (st 0); whnf
  conv => pattern (st 1); whnf
  conv => pattern (st 2); whnf
  conv => pattern (st 3); whnf
  unfold lawEnv
  conv => pattern (occs := *) lawScope; all_goals whnf
  k_steps
  rename_i cl cvs _ hIc l1a _ _ d1' _ _ _ D _ l1b _ _ _ d2' _ _ d3' _ mk dmk _ l1 l2 _ _ _ _ _ _ _ _ _ _ _ _ _ Fx Nx d4'
  refine hQ _ _ _ cl cvs (List.map (fun k' => k'.fmod 1000000) (List.take 10 ns) ++ List.drop (((List.take 10 ns).length : Nat) : Int).toNat [8, 22, 5, 61, 22, 0, 13, 40, 7, 26]) _ _ _ _ mk dmk _ _ Fx (news_sub Nx (by k_allIn)) hIc ?_ d1' d2' d3' d4' ?_ ?_ l2
  · simp only [List.length_append, List.length_map, List.length_drop, List.length_take, List.length_cons, List.length_nil]; omega
  · omega
  · omega
end
end MineN
namespace MineN
theorem rstV3 : True := by
  w_top off
  trivial
open Mine
theorem fillV3 : PySem.Challenge.rw_fc0145_01.Holds → (∀ w : World, (hd.heap_39 w.params).In default) → True := by
  k_fill
  intros
  trivial
local macro_rules | `(tactic| k_steps) => `(tactic| repeat' (first | (k_unfold; (try dsimp only)) | walk1 | (dsimp only; walk1) | fail "no step"))
local macro_rules | `(tactic| walk_at "call ref") => `(tactic| ((with_reducible show wpAny _ _ (call (Value.ref 127) _ _) _ _ _); refine stopN ?_))
local macro_rules | `(tactic| walk_at "eval ListComp") => `(tactic| (refine stopN ?_))
local macro_rules | `(tactic| walk_at "CompSrc") => `(tactic| (refine stopN ?_))
section
variable {w : World} {base : Heap} {L fa sc : Addr} {cd : Value} {mg mb : Str → Option Value} {mean : ExcName → Option Value} {s : Shared} {E : Value → Shared → Prop}
  {cvs : List Value} {cs : List Int} {o1 o2 o3 o4 o5 : Obj} {m : Str → Option Value} {mk dmk cl : Addr} {bb cn : Int} {t2 t3 : Tok}
/-- a comprehension over a range, by a word over what is built -/
theorem comp_inv {prog : Program} {w : World} {A : Around} {h₀ : Heap} {L : Addr} {m : Str → Option Value} {env : Env} {elt : Expr} {x : Str} {scope : Scope} {cl : List (Str × Addr)} {s : Shared} {S : List (Addr × Obj) → Prop} {P : Nat → Value → Prop} {Fin : List Value → List (Addr × Obj) → Prop} {news : List (Addr × Obj)} {n : Nat}
    (J : Nat → List Value → List (Addr × Obj) → Prop) (j0 : J 0 [] news)
    (turn : ∀ i v I oI C oC D m₂ ys nw h tk (E' : Value → Shared → Prop), i < n → P i v → J i ys nw → LCg.NsObj oC m₂ → m₂ x = some v → Fr h₀ L h m → News h₀ L h ((I, oI) :: (C, oC) :: (D, LCg.lst ys) :: nw) → LCg.Off3 I C D nw → ((@Ne Nat I C) ∧ (@Ne Nat I D) ∧ (@Ne Nat C D)) →
      wpAny (model prog w) A (eval elt (compEnvC scope cl C env)) (LCg.CompEnd h₀ L m { s with heap := h, toks := tk } I oI C oC D (LCg.lst ys) S (fun y nw' => J (i + 1) (ys ++ [y]) nw')) E' { s with heap := h, toks := tk })
    (fin : ∀ ys nw, J n ys nw → Fin ys nw) : LCg.CompRest prog w A h₀ L m env elt x scope cl s S P Fin n 0 [] news := by
  have key : ∀ (j i : Nat) (ys : List Value) (nw : List (Addr × Obj)), i + j = n → J i ys nw → LCg.CompRest prog w A h₀ L m env elt x scope cl s S P Fin j i ys nw := by
    intro j
    induction j with
    | zero =>
      intro i ys nw hi hy
      have e : i = n := by omega
      subst e
      exact LCg.CompRest.zero (fin ys nw hy)
    | succ j ih =>
      intro i ys nw hi hy
      refine LCg.CompRest.succ ?_
      intro v I oI C oC D m₂ h tk E' hv hC hx F N off ne
      refine wpAny_mono (turn i v I oI C oC D m₂ ys nw h tk E' (by omega) hv hy hC hx F N off ne) (fun y s₂ hq => ?_) fun _ _ e => e
      obtain ⟨h', tk', nw', e, F', N', off', hS, hn⟩ := hq
      exact ⟨h', tk', nw', e, F', N', off', hS, ih (i + 1) _ _ (by omega) hn⟩
  exact key n 0 [] news (by omega) j0

theorem NS.sub {tl : List (Addr × Obj)} {mk dmk : Addr} {ids ids' : List Addr} {da Ca : Addr → Addr} {at_ : Addr → Str → Option Value} {nx pv : Addr → Option Addr}
    (S : NS tl mk dmk ids da Ca at_ nx pv) (q : ∀ x ∈ ids', x ∈ ids) : NS tl mk dmk ids' da Ca at_ nx pv where
  mkI := S.mkI
  mkD := S.mkD
  mkS x hx := S.mkS x (q x hx)
  inst x hx := S.inst x (q x hx)
  dict x hx := S.dict x (q x hx)
  cls x hx := S.cls x (q x hx)
  inj x hx y hy e := S.inj x (q x hx) y (q y hy) e
  sep x hx y hy := S.sep x (q x hx) y (q y hy)
  kinds := S.kinds
theorem Cx.law {mean : ExcName → Option Value} {h : Heap} {news : List (Addr × Obj)} (F : Fr base L h m) (N : News base L h news) (B : Below callerA base [] base) (X : (hd.heap_39 w.params).In base) (T : Top VW LO mean mg mb base) :
    Cx w callerA base [] mean mg mb base base L h m news := ⟨F, N, B, X, T, X, T, ktsDicts_nil, KtsTurn.refl⟩
/-- heads of empty lists -/
def HD (tl : List (Addr × Obj)) (mk dmk : Addr) (hs : List Addr) : Prop :=
  ∃ da Ca at_ nx pv, NS tl mk dmk hs da Ca at_ nx pv ∧ hs.Nodup ∧ ∀ h ∈ hs, Ca h = 108 ∧ at_ h = listAt mk h ∧ nx h = some h ∧ pv h = some h
theorem HD.nil : HD [(mk, instObj 200 dmk), (dmk, dictOf [] 0)] mk dmk [] :=
  ⟨fun _ => 0, fun _ => 108, fun _ _ => none, fun _ => none, fun _ => none, ⟨.head _, .tail _ (.head _), nofun, nofun, nofun, nofun, nofun, nofun, fun p hp => by
      rcases List.mem_cons.mp hp with rfl | hp
      · rfl
      · rcases List.mem_singleton.mp hp with rfl; rfl⟩, .nil, nofun⟩
theorem HD.mkI {tl : List (Addr × Obj)} {hs : List Addr} (Z : HD tl mk dmk hs) : (mk, instObj 200 dmk) ∈ tl := by
  obtain ⟨_, _, _, _, _, S, _⟩ := Z; exact S.mkI
theorem HD.mkD {tl : List (Addr × Obj)} {hs : List Addr} (Z : HD tl mk dmk hs) : (dmk, dictOf [] 0) ∈ tl := by
  obtain ⟨_, _, _, _, _, S, _⟩ := Z; exact S.mkD
theorem HD.rev {tl : List (Addr × Obj)} {hs : List Addr} (Z : HD tl mk dmk hs) : HD tl mk dmk hs.reverse := by
  obtain ⟨da, Ca, at_, nx, pv, S, nd, hh⟩ := Z
  exact ⟨da, Ca, at_, nx, pv, NS.sub S fun x hx => List.mem_reverse.mp hx, (List.reverse_perm hs).nodup_iff.mpr nd, fun x hx => hh x (List.mem_reverse.mp hx)⟩
theorem create_op {fx tl own : List (Addr × Obj)} {hs : List Addr} {env : Env} {Q : Value → Shared → Prop} (F : Fr base L s.heap m) (N : News base L s.heap (fx ++ tl ++ own)) (B : Below callerA base [] base) (X : (hd.heap_39 w.params).In base) (T : Top VW LO mean mg mb base)
    (hk : ∀ p ∈ fx, isND p.2 = false) (ho : OwnOff own (tl.map (·.1))) (Z : HD tl mk dmk hs) (hf : env.frame = some L) (hke : env.scope.kind = .function)
    (h : ∀ h' tk tl' x, Fr base L h' m → News base L h' (fx ++ tl' ++ own) → OwnOff own (tl'.map (·.1)) → HD tl' mk dmk (x :: hs) → Q (.ref x) { s with heap := h', toks := tk }) :
    wpAny (model PR w) (callerA.deeper env) (call (.ref 127) [.ref mk] []) Q E s := by
  obtain ⟨da, Ca, at_, nx, pv, S, nd, hh⟩ := Z
  have N1 : News base L s.heap ((fx ++ own) ++ tl) := news_sub N fun p hp => by simp only [List.mem_append] at hp ⊢; grind
  have P : Off (fx ++ own) da hs := fun p hp x hx => by
    rcases List.mem_append.mp hp with hp | hp
    · exact off_news (pre := fx) (news_sub N fun p hp => List.mem_append_left _ hp) S hk p hp x hx
    · obtain ⟨es, k, a, _⟩ := S.dict x hx
      exact ho p hp _ (List.mem_map.mpr ⟨_, a, rfl⟩)
  refine create_spec (outer := []) (Cx.law F N1 B X T) P S ?_ hf hke fun h₀' h' tk tl' x dx C' S' q1 q2 => ?_
  · decide
  have q3 : ∀ p ∈ tl, p.1 < dx := fun p hp => q1 p (List.mem_append_right _ hp)
  have q4 : ∀ p ∈ own, p.1 < dx := fun p hp => q1 p (List.mem_append_left _ (List.mem_append_right _ hp))
  let f : Addr → Bool := fun a => own.all fun q => q.1 != a
  have ft : ∀ {q : Addr × Obj}, q ∈ tl → f q.1 = true := fun {q} hq => List.all_eq_true.mpr fun r hr => by
    have := ho r hr q.1 (List.mem_map.mpr ⟨_, hq, rfl⟩)
    simpa using this
  have fn : ∀ {a : Addr}, dx ≤ a → f a = true := fun {a} ha => List.all_eq_true.mpr fun r hr => by
    have := Nat.ne_of_lt (Nat.lt_of_lt_of_le (q4 r hr) ha)
    simpa using this
  have nx' : ∀ z ∈ hs, z ≠ x := fun z hz => Nat.ne_of_lt (Nat.lt_trans (q3 _ (S.inst z hz)) q2)
  refine h h' tk (tl'.filter fun q => f q.1) x (unturn C'.T0 C'.F) (news_sub (unturnN C'.T0 C'.N) fun q hq => ?_) (fun q hq b hb => ?_) ⟨_, _, _, _, _, NS.filt S' f (ft S.mkI) (ft S.mkD) (fun z hz => ?_) (fun z hz => ?_), ?_, fun z hz => ?_⟩
  · simp only [List.mem_append, List.mem_filter] at hq ⊢; grind
  · obtain ⟨r, hr, rfl⟩ := List.mem_map.mp hb
    have := List.all_eq_true.mp (List.mem_filter.mp hr).2 q hq
    simpa using this
  · rcases List.mem_cons.mp hz with rfl | hz
    · exact fn (Nat.le_of_lt q2)
    · exact ft (S.inst z hz)
  · rcases List.mem_cons.mp hz with rfl | hz
    · rw [upF_self]; exact fn (Nat.le_refl _)
    · rw [upF_ne (nx' z hz)]
      obtain ⟨es, k, a, _⟩ := S.dict z hz
      exact ft a
  · exact List.nodup_cons.mpr ⟨fun m => nx' x m rfl, nd⟩
  · rcases List.mem_cons.mp hz with rfl | hz
    · exact ⟨upF_self .., upF_self .., upO_self .., upO_self ..⟩
    · have e := nx' z hz
      rw [upF_ne e, upF_ne e, upO_ne e, upO_ne e, upF_ne e, upF_ne e]
      exact hh z hz
theorem segB {Q : Flow → Shared → Prop} (B : Below callerA base [] base) (F : Fr base L s.heap m) (X : (hd.heap_39 w.params).In base) (T : Top VW LO mean mg mb base)
    (N : News base L s.heap [(mk, instObj 200 dmk), (dmk, dictOf [] 0), (cl, listOf cvs.toArray 0), (L + 1 + 1 + 1 + 1 + 1, o5), (L + 1 + 1 + 1 + 1, o4), (L + 1 + 1 + 1, o3), (L + 1 + 1, o2), (L + 1, o1)])
    (d1 : o1.data = .cell (some (.ref cl))) (d2 : o2.data = .cell (some (.int cn t2))) (d3 : o3.data = .cell (some (.int bb t3))) (d4 : o4.data = .cell (some (.ref mk))) (d5 : o5.data = .cell none)
    (l1 : @LT.lt Nat _ (L + 1 + 1 + 1 + 1 + 1) cl) (l2 : @LT.lt Nat _ cl dmk) (l3 : @LT.lt Nat _ dmk mk) (hbb : 3 ≤ bb ∧ bb ≤ 4)
    (hQ : ∀ h' tk m' ll pl pk ps wh g0 g1 tl, Fr base L h' m' → m' (Str.ofString "whole") = some (.ref wh) → m' (Str.ofString "halves") = some (.ref ll) → m' (Str.ofString "piles") = some (.ref pl) →
      News base L h' ([(ll, listOf #[.ref g0, .ref g1] 0), (pl, listOf (ps.map Value.ref).toArray pk), (cl, listOf cvs.toArray 0), (L + 1 + 1 + 1 + 1 + 1, o5), (L + 1 + 1 + 1 + 1, o4), (L + 1 + 1 + 1, o3), (L + 1 + 1, o2), (L + 1, o1)] ++ tl) →
      HD tl mk dmk (wh :: g0 :: g1 :: ps) → (ps.length : Int) = bb → Q .next { s with heap := h', toks := tk }) :
    wpAny (model PR w) (callerA.deeper (lawEnv L fa cd)) (exec (st 4) (lawEnv L fa cd)) Q E s := by
  conv => pattern (st 4); whnf
  unfold lawEnv
  conv => pattern (occs := *) lawScope; all_goals whnf
  have i1 : isND o1 = false := by unfold isND; rw [d1]
  have i2 : isND o2 = false := by unfold isND; rw [d2]
  have i3 : isND o3 = false := by unfold isND; rw [d3]
  have i4 : isND o4 = false := by unfold isND; rw [d4]
  have i5 : isND o5 = false := by unfold isND; rw [d5]
  have hk : ∀ p ∈ [(cl, listOf cvs.toArray 0), (L + 1 + 1 + 1 + 1 + 1, o5), (L + 1 + 1 + 1 + 1, o4), (L + 1 + 1 + 1, o3), (L + 1 + 1, o2), (L + 1, o1)], isND p.2 = false := fun p hp => by
    simp only [List.mem_cons, List.not_mem_nil, or_false] at hp
    rcases hp with rfl | rfl | rfl | rfl | rfl | rfl
    · rfl
    all_goals assumption
  k_steps
  refine ⟨?_⟩
  show wpAny _ _ (call (Value.ref 127) [Value.ref _] []) _ _ _
  refine create_op (fx := [(cl, listOf cvs.toArray 0), (L + 1 + 1 + 1 + 1 + 1, o5), (L + 1 + 1 + 1 + 1, o4), (L + 1 + 1 + 1, o3), (L + 1 + 1, o2), (L + 1, o1)]) (tl := [(mk, instObj 200 dmk), (dmk, dictOf [] 0)]) (own := []) F (news_sub N fun p hp => by simp only [List.mem_cons, List.mem_append, List.not_mem_nil, or_false] at hp ⊢; grind) B X T hk (fun _ h => (by cases h)) HD.nil rfl rfl fun h1 tk1 tl1 wh F1 N1 _ Z1 => ?_
  have m1 := Z1.mkI
  have m2 := Z1.mkD
  replace N1 : News base L h1 ((mk, instObj 200 dmk) :: (dmk, dictOf [] 0) :: (cl, listOf cvs.toArray 0) :: (L + 1 + 1 + 1 + 1 + 1, o5) :: (L + 1 + 1 + 1 + 1, o4) :: (L + 1 + 1 + 1, o3) :: (L + 1 + 1, o2) :: (L + 1, o1) :: tl1) := news_sub N1 fun p hp => by simp only [List.mem_cons, List.mem_append, List.not_mem_nil, or_false] at hp ⊢; grind
  clear N F
  k_steps
  refine ⟨?_⟩
  show wpAny _ _ (call (Value.ref 127) [Value.ref _] []) _ _ _
  refine create_op (fx := [(cl, listOf cvs.toArray 0), (L + 1 + 1 + 1 + 1 + 1, o5), (L + 1 + 1 + 1 + 1, o4), (L + 1 + 1 + 1, o3), (L + 1 + 1, o2), (L + 1, o1)]) (tl := tl1) (own := []) F1 (news_sub N1 fun p hp => by simp only [List.mem_cons, List.mem_append, List.not_mem_nil, or_false] at hp ⊢; grind) B X T hk (fun _ h => (by cases h)) Z1 rfl rfl fun h2 tk2 tl2 g0 F2 N2 _ Z2 => ?_
  have m3 := Z2.mkI
  have m4 := Z2.mkD
  replace N2 : News base L h2 ((mk, instObj 200 dmk) :: (dmk, dictOf [] 0) :: (cl, listOf cvs.toArray 0) :: (L + 1 + 1 + 1 + 1 + 1, o5) :: (L + 1 + 1 + 1 + 1, o4) :: (L + 1 + 1 + 1, o3) :: (L + 1 + 1, o2) :: (L + 1, o1) :: tl2) := news_sub N2 fun p hp => by simp only [List.mem_cons, List.mem_append, List.not_mem_nil, or_false] at hp ⊢; grind
  clear N1 F1 m1 m2
  k_steps
  refine ⟨?_⟩
  show wpAny _ _ (call (Value.ref 127) [Value.ref _] []) _ _ _
  refine create_op (fx := [(cl, listOf cvs.toArray 0), (L + 1 + 1 + 1 + 1 + 1, o5), (L + 1 + 1 + 1 + 1, o4), (L + 1 + 1 + 1, o3), (L + 1 + 1, o2), (L + 1, o1)]) (tl := tl2) (own := []) F2 (news_sub N2 fun p hp => by simp only [List.mem_cons, List.mem_append, List.not_mem_nil, or_false] at hp ⊢; grind) B X T hk (fun _ h => (by cases h)) Z2 rfl rfl fun h3 tk3 tl3 g1 F3 N3 _ Z3 => ?_
  have m5 := Z3.mkI
  have m6 := Z3.mkD
  replace N3 : News base L h3 ((mk, instObj 200 dmk) :: (dmk, dictOf [] 0) :: (cl, listOf cvs.toArray 0) :: (L + 1 + 1 + 1 + 1 + 1, o5) :: (L + 1 + 1 + 1 + 1, o4) :: (L + 1 + 1 + 1, o3) :: (L + 1 + 1, o2) :: (L + 1, o1) :: tl3) := news_sub N3 fun p hp => by simp only [List.mem_cons, List.mem_append, List.not_mem_nil, or_false] at hp ⊢; grind
  clear N2 F2 m3 m4
  k_steps
  refine ⟨?_⟩
  rename_i ll h4 F4 N4 l4
  refine LCg.ListComp_U (F₀ := by k_asm) (by with_unfolding_all rfl) (by decide) (by rfl) (by decide) (by rfl) ?_
  k_steps
  refine ⟨?_⟩
  rename_i hR F5 N5 _
  replace N5 := news_sub (a := ((ll, listOf #[.ref g0, .ref g1] 0) :: [(cl, listOf cvs.toArray 0), (L + 1 + 1 + 1 + 1 + 1, o5), (L + 1 + 1 + 1 + 1, o4), (L + 1 + 1 + 1, o3), (L + 1 + 1, o2), (L + 1, o1)]) ++ tl3) N5 fun p hp => by simp only [List.mem_cons, List.mem_append, List.not_mem_nil, or_false] at hp ⊢; grind
  refine LCg.CompSrc.range (n := (bb - 0).toNat) rfl F5 N5 hR (small_one (by omega) (by omega) (by omega) (by omega)) (rangeSize_nat _ _) (by rw [PySem.sizeLine_eq]; omega) fun g => ?_
  refine comp_inv (fun i ys nw => ∃ tl hs, nw = (ll, listOf #[.ref g0, .ref g1] 0) :: [(cl, listOf cvs.toArray 0), (L + 1 + 1 + 1 + 1 + 1, o5), (L + 1 + 1 + 1 + 1, o4), (L + 1 + 1 + 1, o3), (L + 1 + 1, o2), (L + 1, o1)] ++ tl ∧ HD tl mk dmk (hs ++ [g1, g0, wh]) ∧ ys = hs.reverse.map Value.ref ∧ hs.length = i) ?_ ?_ ?_
  · exact ⟨tl3, [], rfl, Z3, rfl, rfl⟩
  · rintro i v I oI C oC D m₂ ys nw h7 tk7 E' hi ⟨t, rfl⟩ ⟨tl, hs, rfl, Z, rfl, hl⟩ hC hx F7 N7 off ne
    have m7 := Z.mkI
    have m8 := Z.mkD
    have N8 : News base L h7 ((I, oI) :: (C, oC) :: (D, LCg.lst (hs.reverse.map Value.ref)) :: (ll, listOf #[.ref g0, .ref g1] 0) :: (mk, instObj 200 dmk) :: (dmk, dictOf [] 0) :: (cl, listOf cvs.toArray 0) :: (L + 1 + 1 + 1 + 1 + 1, o5) :: (L + 1 + 1 + 1 + 1, o4) :: (L + 1 + 1 + 1, o3) :: (L + 1 + 1, o2) :: (L + 1, o1) :: tl) := news_sub N7 fun p hp => by simp only [List.mem_cons, List.mem_append, List.not_mem_nil, or_false] at hp ⊢; grind
    k_steps
    refine ⟨?_⟩
    show wpAny _ _ (call (Value.ref 127) [Value.ref _] []) _ _ _
    have om := off.mem
    refine create_op (fx := (ll, listOf #[.ref g0, .ref g1] 0) :: [(cl, listOf cvs.toArray 0), (L + 1 + 1 + 1 + 1 + 1, o5), (L + 1 + 1 + 1 + 1, o4), (L + 1 + 1 + 1, o3), (L + 1 + 1, o2), (L + 1, o1)]) (tl := tl) (own := [(I, oI), (C, oC), (D, LCg.lst (hs.reverse.map Value.ref))]) F7 (news_sub N7 fun p hp => by simp only [List.mem_cons, List.mem_append, List.not_mem_nil, or_false] at hp ⊢; grind) B X T
      (fun p hp => (List.mem_cons.mp hp).elim (fun e => by rw [e]; rfl) (hk p)) (fun q hq b hb => ?_) Z rfl rfl fun h9 tk9 tl9 x9 F9 N9 o9 Z9 => ?_
    · obtain ⟨r, hr, rfl⟩ := List.mem_map.mp hb
      have := om r (List.mem_append_right _ hr)
      simp only [List.mem_cons, List.not_mem_nil, or_false] at hq
      rcases hq with rfl | rfl | rfl
      · exact Ne.symm this.1
      · exact Ne.symm this.2.1
      · exact Ne.symm this.2.2
    · refine LCg.CompEnd.intro F9 (news_sub N9 fun p hp => ?_) _ (fun p hp => hp) (LCg.Off3.of fun p hp => ?_) trivial ⟨tl9, x9 :: hs, rfl, Z9, by simp, by simp [hl]⟩
      · simp only [List.mem_cons, List.mem_append, List.not_mem_nil, or_false] at hp ⊢; grind
      · rcases List.mem_append.mp hp with hp | hp
        · exact om p (List.mem_append_left _ hp)
        · have hb : p.1 ∈ tl9.map (·.1) := List.mem_map.mpr ⟨p, hp, rfl⟩
          exact ⟨Ne.symm (o9 (I, oI) (by simp) p.1 hb), Ne.symm (o9 (C, oC) (by simp) p.1 hb), Ne.symm (o9 (D, LCg.lst (hs.reverse.map Value.ref)) (by simp) p.1 hb)⟩
  · rintro ys nw ⟨tl, hs, rfl, Z, rfl, hl⟩ D h8 tk8 F8 N8 off
    k_steps
    rename_i F9 N9
    refine hQ _ _ _ ll D (hs.reverse.map Value.ref).length hs.reverse wh g0 g1 tl F9 rfl rfl rfl (news_sub N9 fun p hp => ?_) ?_ ?_
    · simp only [List.mem_cons, List.mem_append, List.not_mem_nil, or_false] at hp ⊢
      grind
    · have := Z.rev
      rw [List.reverse_append] at this
      exact this
    · rw [List.length_reverse, hl]; omega
end
end MineN
namespace MineN
theorem rstV4 : True := by
  w_top off
  trivial
open Mine
theorem fillV4 : PySem.Challenge.rw_fc0145_01.Holds → (∀ w : World, (hd.heap_39 w.params).In default) → True := by
  k_fill
  intros
  trivial
local macro_rules | `(tactic| k_steps) => `(tactic| repeat' (first | (k_unfold; (try dsimp only)) | walk1 | (dsimp only; walk1) | fail "no step"))
local macro_rules | `(tactic| walk_at "eval ListComp") => `(tactic| (refine stopN ?_))
local macro_rules | `(tactic| walk_at "CompSrc") => `(tactic| (refine stopN ?_))
/-- the k-th row's key -/
def keyF (cs : List Int) (bb : Int) (j : Nat) : Int := ((cs.getD (1 + j) 0).fmod (bb ^ 3)).fdiv (1 + ((cs.getD 0 0).fdiv 18).fmod 3)
theorem pow3 {bb : Int} (h : 3 ≤ bb ∧ bb ≤ 4) : 27 ≤ bb ^ Int.toNat 3 ∧ bb ^ Int.toNat 3 ≤ 64 := by
  have hb : bb = 3 ∨ bb = 4 := by omega
  rcases hb with rfl | rfl <;> decide
/-- the rows, in the ledger -/
def RowsIn (pt : List (Addr × Obj)) (cs : List Int) (bb : Int) (rs : List Addr) : Prop := ∀ j a, rs[j]? = some a → ∃ t u, (a, tupObj [.int (keyF cs bb j) t, .int (1 + (j : Int)) u]) ∈ pt
theorem tup_toks {h₀ h : Heap} {L D : Addr} {x y : Int} {t u : Tok} {rest : List (Addr × Obj)} (N : News h₀ L h ((D, { cls := .type "tuple", data := .seq #[.int x t, .int y u] }) :: rest)) :
    ∃ t' u', News h₀ L h ((D, tupObj [.int x t', .int y u']) :: rest) := ⟨t, u, N⟩
section
variable {w : World} {base : Heap} {L fa sc : Addr} {cd : Value} {mg mb : Str → Option Value} {mean : ExcName → Option Value} {s : Shared} {E : Value → Shared → Prop}
  {cvs : List Value} {cs : List Int} {o1 o2 o3 o4 o5 : Obj} {m : Str → Option Value} {mk dmk cl ll pl wh g0 g1 : Addr} {bb cn : Int} {t2 t3 : Tok} {pk : Nat} {ps : List Addr} {tl : List (Addr × Obj)}
theorem segC {Q : Flow → Shared → Prop} (B : Below callerA base [] base) (F : Fr base L s.heap m) (X : (hd.heap_39 w.params).In base) (T : Top VW LO mean mg mb base)
    (N : News base L s.heap ([(ll, listOf #[.ref g0, .ref g1] 0), (pl, listOf (ps.map Value.ref).toArray pk), (cl, listOf cvs.toArray 0), (L + 1 + 1 + 1 + 1 + 1, o5), (L + 1 + 1 + 1 + 1, o4), (L + 1 + 1 + 1, o3), (L + 1 + 1, o2), (L + 1, o1)] ++ tl))
    (d1 : o1.data = .cell (some (.ref cl))) (d2 : o2.data = .cell (some (.int cn t2))) (d3 : o3.data = .cell (some (.int bb t3))) (d5 : o5.data = .cell none)
    (hI : IntsAre cvs cs) (hlen : cs.length = 10) (Z : HD tl mk dmk (wh :: g0 :: g1 :: ps)) (hbb : 3 ≤ bb ∧ bb ≤ 4) (hcn : 1 ≤ cn ∧ cn ≤ 9)
    (hQ : ∀ h' tk m' rl rk rs pt o5', Fr base L h' m' →
      News base L h' ([(rl, listOf (rs.map Value.ref).toArray rk), (ll, listOf #[.ref g0, .ref g1] 0), (pl, listOf (ps.map Value.ref).toArray pk), (cl, listOf cvs.toArray 0), (L + 1 + 1 + 1 + 1 + 1, o5'), (L + 1 + 1 + 1 + 1, o4), (L + 1 + 1 + 1, o3), (L + 1 + 1, o2), (L + 1, o1)] ++ (pt ++ tl)) →
      o5'.data = .cell (some (.ref rl)) → (rs.length : Int) = cn → RowsIn pt cs bb rs → (∀ p ∈ pt, ∃ vs, p.2 = tupObj vs) → m' = m → Q .next { s with heap := h', toks := tk }) :
    wpAny (model PR w) (callerA.deeper (lawEnv L fa cd)) (exec (st 5) (lawEnv L fa cd)) Q E s := by
  conv => pattern (st 5); whnf
  unfold lawEnv
  conv => pattern (occs := *) lawScope; all_goals whnf
  k_steps
  refine ⟨?_⟩
  refine LCg.ListComp_U (F₀ := by k_asm) (by with_unfolding_all rfl) (by decide) (by rfl) (by decide) (by rfl) ?_
  k_steps
  refine ⟨?_⟩
  rename_i hR F5 N5 _
  refine LCg.CompSrc.range (n := (cn - 0).toNat) rfl F5 N5 hR (small_one (by omega) (by omega) (by omega) (by omega)) (rangeSize_nat _ _) (by rw [PySem.sizeLine_eq]; omega) fun g => ?_
  refine comp_inv (fun i ys nw => ∃ rs pt, nw = ([(ll, listOf #[.ref g0, .ref g1] 0), (pl, listOf (ps.map Value.ref).toArray pk), (cl, listOf cvs.toArray 0), (L + 1 + 1 + 1 + 1 + 1, o5), (L + 1 + 1 + 1 + 1, o4), (L + 1 + 1 + 1, o3), (L + 1 + 1, o2), (L + 1, o1)] ++ (pt ++ tl)) ∧ ys = rs.map Value.ref ∧ rs.length = i ∧ RowsIn pt cs bb rs ∧ ∀ p ∈ pt, ∃ vs, p.2 = tupObj vs) ?_ ?_ ?_
  · exact ⟨[], [], rfl, rfl, rfl, fun j a h => by simp at h, fun p hp => by cases hp⟩
  · rintro i v I oI C oC D m₂ ys nw h7 tk7 E' hi ⟨t, rfl⟩ ⟨rs, pt, rfl, rfl, hl, hR, hpt⟩ hC hx F7 N7 off ne
    have hz : (0 : Int) + (i : Int) = (i : Int) := Int.zero_add _
    have hzc : (i : Int) < cn := by omega
    have hz0 : (0 : Int) ≤ (i : Int) := Int.natCast_nonneg _
    rw [hz] at hx
    generalize hzz : (i : Int) = z at hx hzc hz0
    have hpw := pow3 hbb
    have hdv : 0 ≤ ((cs.getD (Int.toNat 0) 0).fdiv 18).fmod 3 ∧ ((cs.getD (Int.toNat 0) 0).fdiv 18).fmod 3 < 3 := ⟨Int.fmod_nonneg_of_pos _ (by decide), Int.fmod_lt_of_pos _ (by decide)⟩
    k_steps
    rename_i D2 h9 F9 N9 l9
    have hky : ((cs.getD (1 + z).toNat 0).fmod (bb ^ Int.toNat 3)).fdiv (1 + ((cs.getD (Int.toNat 0) 0).fdiv 18).fmod 3) = keyF cs bb i := by
      subst hzz
      unfold keyF
      rw [show (1 + (i : Int)).toNat = 1 + i by omega]; rfl
    rw [hky, ← hzz] at N9
    have om := off.mem
    obtain ⟨a1, a2, a3, a4⟩ := l9
    obtain ⟨t8, u8, N10⟩ := tup_toks N9
    clear N9
    refine LCg.CompEnd.intro F9 (news_sub N10 fun p hp => ?_) ([(ll, listOf #[.ref g0, .ref g1] 0), (pl, listOf (ps.map Value.ref).toArray pk), (cl, listOf cvs.toArray 0), (L + 1 + 1 + 1 + 1 + 1, o5), (L + 1 + 1 + 1 + 1, o4), (L + 1 + 1 + 1, o3), (L + 1 + 1, o2), (L + 1, o1)] ++ (((D2, tupObj [.int (keyF cs bb i) t8, .int (1 + (i : Int)) u8]) :: pt) ++ tl)) (fun p hp => hp) (LCg.Off3.of fun p hp => ?_) trivial ⟨rs ++ [D2], (D2, tupObj [.int (keyF cs bb i) t8, .int (1 + (i : Int)) u8]) :: pt, rfl, by simp, by simp [hl], fun j a hj => ?_, fun p hp => ?_⟩
    · simp only [List.mem_cons, List.mem_append, List.not_mem_nil, or_false] at hp ⊢; grind
    · rcases List.mem_append.mp hp with hp | hp
      · exact om p (List.mem_append_left _ hp)
      · rcases List.mem_cons.mp hp with rfl | hp
        · exact ⟨Nat.ne_of_gt a1, Nat.ne_of_gt a2, Nat.ne_of_gt a3⟩
        · exact om p (List.mem_append_right _ hp)
    · by_cases hji : j < rs.length
      · rw [List.getElem?_append_left hji] at hj
        obtain ⟨t, u, h⟩ := hR j a hj
        exact ⟨t, u, .tail _ h⟩
      · have hj2 : j = rs.length := by
          have := (List.getElem?_eq_some_iff.mp hj).1
          rw [List.length_append, List.length_singleton] at this
          omega
        subst hj2
        rw [List.getElem?_append_right (Nat.le_refl _), Nat.sub_self] at hj
        cases hj
        rw [hl]
        exact ⟨t8, u8, .head _⟩
    · rcases List.mem_cons.mp hp with rfl | hp
      · exact ⟨_, rfl⟩
      · exact hpt p hp
  · rintro ys nw ⟨rs, pt, rfl, rfl, hl, hR, hpt⟩ D h8 tk8 F8 N8 off
    k_steps
    have NX := N8
    have i5 : isND o5 = false := by unfold isND; rw [d5]
    have ne5 : ∀ p ∈ (D, LCg.lst (rs.map Value.ref)) :: ([(ll, listOf #[.ref g0, .ref g1] 0), (pl, listOf (ps.map Value.ref).toArray pk), (cl, listOf cvs.toArray 0), (L + 1 + 1 + 1 + 1, o4), (L + 1 + 1 + 1, o3), (L + 1 + 1, o2), (L + 1, o1)] ++ (pt ++ tl)), p.1 ≠ L + 1 + 1 + 1 + 1 + 1 := fun p hp => by
      have m5 : (L + 1 + 1 + 1 + 1 + 1, o5) ∈ (D, LCg.lst (rs.map Value.ref)) :: ([(ll, listOf #[.ref g0, .ref g1] 0), (pl, listOf (ps.map Value.ref).toArray pk), (cl, listOf cvs.toArray 0), (L + 1 + 1 + 1 + 1 + 1, o5), (L + 1 + 1 + 1 + 1, o4), (L + 1 + 1 + 1, o3), (L + 1 + 1, o2), (L + 1, o1)] ++ (pt ++ tl)) := by simp
      have hp2 : p ∈ (D, LCg.lst (rs.map Value.ref)) :: ([(ll, listOf #[.ref g0, .ref g1] 0), (pl, listOf (ps.map Value.ref).toArray pk), (cl, listOf cvs.toArray 0), (L + 1 + 1 + 1 + 1 + 1, o5), (L + 1 + 1 + 1 + 1, o4), (L + 1 + 1 + 1, o3), (L + 1 + 1, o2), (L + 1, o1)] ++ (pt ++ tl)) := by
        simp only [List.mem_cons, List.mem_append, List.not_mem_nil, or_false] at hp ⊢; grind
      have key : p.2.data ≠ .cell none → p.1 ≠ L + 1 + 1 + 1 + 1 + 1 := fun hd e => by
        have e1 := (NX p hp2).1
        have e2 := (NX _ m5).1
        rw [e] at e1
        have := Option.some.inj (e1.symm.trans e2)
        rw [this] at hd
        exact hd d5
      simp only [List.mem_cons, List.mem_append, List.not_mem_nil, or_false] at hp
      rcases hp with rfl | (rfl | rfl | rfl | rfl | rfl | rfl | rfl) | hp | hp
      iterate 4 exact key nofun
      iterate 4 (show @Ne Nat _ _; dsimp only; omega)
      · obtain ⟨vs, hv⟩ := hpt p hp
        exact key (by rw [hv]; exact nofun)
      · obtain ⟨_, _, _, _, _, S, _⟩ := Z
        have := S.kinds p hp
        refine key fun e => ?_
        unfold isND at this
        rw [e] at this
        cases this
    refine storeX_C F8 (news_sub (a := (L + 1 + 1 + 1 + 1 + 1, o5) :: (D, LCg.lst (rs.map Value.ref)) :: ([(ll, listOf #[.ref g0, .ref g1] 0), (pl, listOf (ps.map Value.ref).toArray pk), (cl, listOf cvs.toArray 0), (L + 1 + 1 + 1 + 1, o4), (L + 1 + 1 + 1, o3), (L + 1 + 1, o2), (L + 1, o1)] ++ (pt ++ tl))) N8 fun p hp => ?_) (by rfl) (.head ne5) d5 (fun h11 o5' F11 N11 d5' => ?_)
    · simp only [List.mem_cons, List.mem_append, List.not_mem_nil, or_false] at hp ⊢; grind
    k_steps
    refine hQ _ _ _ D (rs.map Value.ref).length rs pt o5' F11 (news_sub N11 fun p hp => ?_) d5' (by rw [hl]; omega) hR hpt rfl
    simp only [List.mem_cons, List.mem_append, List.not_mem_nil, or_false] at hp ⊢; grind
end
end MineN
namespace MineN
theorem rstV5 : True := by
  w_top off
  trivial
open Mine
theorem fillV5 : PySem.Challenge.rw_fc0145_01.Holds → (∀ w : World, (hd.heap_39 w.params).In default) → True := by
  k_fill
  intros
  trivial
local macro_rules | `(tactic| k_steps) => `(tactic| repeat' (first | (k_unfold; (try dsimp only)) | walk1 | (dsimp only; walk1) | fail "no step"))
local macro_rules | `(tactic| ktr_unf) => `(tactic| (refine wpAny_call ?_; refine' codeS ?B ?F ?X ?N ?T ?XB ?TB ?D ?T0 ?kA ?hf ?hke ?k6 ?k7 ?k8 ?k9 ?kB ?_ ?c2 ?c3 ?c4 ?c5; (case F => assumption); (case N => assumption); (case B => assumption); (case X => assumption); (case T => assumption); (case XB => assumption); (case TB => assumption); (case D => assumption); (case T0 => assumption); (case kA => exact rfl); (case hf => first | assumption | exact rfl); (case hke => first | assumption | exact rfl); (case k6 => k_is); (case k7 => k_is); (case k8 => (show _ < recursionLimit; first | omega | (dsimp only [Ar]; omega))); (case k9 => exact BindsTo.of_eq rfl); (case kB => exact locs rfl); (case c2 => exact rfl); (case c3 => exact rfl); (case c4 => exact rfl); (case c5 => decide); k_whole))
local macro_rules | `(tactic| ktr_rel) => `(tactic| exact ⟨by assumption, by assumption, by assumption, by assumption, by assumption, by assumption, by assumption, by assumption, by assumption⟩)
local macro_rules | `(tactic| k_mem) => `(tactic| assumption)
local macro_rules | `(tactic| ktr_room) => `(tactic| (refine' codeS ?B ?F ?X ?N ?T ?XB ?TB ?D ?T0 ?kA ?hf ?hke ?k6 ?k7 ?k8 ?k9 ?kB ?_ ?c2 ?c3 ?c4 ?c5; (case F => assumption); (case N => assumption); (case B => assumption); (case X => assumption); (case T => assumption); (case XB => assumption); (case TB => assumption); (case D => assumption); (case T0 => assumption); (case kA => exact rfl); (case hf => first | assumption | exact rfl); (case hke => first | assumption | exact rfl); (case k6 => k_is); (case k7 => k_is); (case k8 => (show _ < recursionLimit; first | omega | (dsimp only [Ar]; omega) | (change _ + 1 < recursionLimit; dsimp only [Ar]; omega))); (case k9 => first | exact BindsTo.of_eq rfl | exact binds_K (inHeap (by assumption) (by assumption)) rfl (by k_is) rfl rfl rfl); (case kB => exact locs rfl); (case c2 => exact rfl); (case c3 => exact rfl); (case c4 => exact rfl); (case c5 => decide); k_whole))
local macro_rules | `(tactic| k_all) => `(tactic| exact allNe (by assumption))
local macro_rules | `(tactic| k_get) => `(tactic| assumption)
local macro_rules | `(tactic| k_handed) => `(tactic| assumption)
section
variable {w : World} {A₀ : Around} {base g₀ h₀ : Heap} {outer : List Env} {env : Env} {L : Addr} {m mg mb : Str → Option Value} {mean : ExcName → Option Value}
  {s : Shared} {pre tl : List (Addr × Obj)} {d u : Nat} {gs : Option (List Code)} {Q : Value → Shared → Prop} {E : Value → Shared → Prop}
  {mk dmk x y n p hh q : Addr} {ids : List Addr} {da Ca : Addr → Addr} {at_ : Addr → Str → Option Value} {nx pv : Addr → Option Addr} {h : Heap} {v1 v2 : Value}
theorem route_tup (C : Cx w A₀ base outer mean mg mb g₀ h₀ L s.heap m (((q, tupObj [v1, v2]) :: pre) ++ tl)) (S : NS tl mk dmk ids da Ca at_ nx pv) (hd : d + 15 < recursionLimit) (hf : env.frame = some L) (hke : env.scope.kind = .function)
    (h : ∀ h₀' h' tk tl' x dx, Cx w A₀ base outer mean mg mb g₀ h₀' L h' m (((q, tupObj [v1, v2]) :: pre) ++ tl') → NS tl' mk dmk (x :: ids) (upF da x dx) (upF Ca x 245) (upF at_ x (routeAt (.ref q))) (upF nx x none) (upF pv x none) → (∀ p ∈ ((q, tupObj [v1, v2]) :: pre) ++ tl, p.1 < dx) → dx < x → Q (.ref x) { s with heap := h', toks := tk }) :
    wpAny (model PR w) (Ar d u (env :: outer) gs) (call (.ref 245) [.ref q] []) Q E s := by
  obtain ⟨F, N, B, X, T, XB, TB, D, T0⟩ := C
  refine call_cls F X N (by k_is) (by k_is) (by k_is) fun x dx h2 F2 N2 l1 l2 => ?_
  have l3 := ltN l2
  ktr_room
  intro g' L' h' F' N' B' X' T' D'
  have T1 : KtsTurn (frs (env :: outer)) g' g' := KtsTurn.refl
  (try dsimp only); (try k_fold)
  k_steps
  all_goals try (exfalso; omega)
  rename_i kF kN _ _
  obtain ⟨tl2, N3, S2⟩ := fold_new kN S l1 l2 (.inr rfl) (g := routeAt (.ref q)) atts_route
  exact h h₀ _ _ _ _ _ ⟨kF, N3, B, X, T, XB, TB, D, T0⟩ S2 l1 l2
end
end MineN
namespace MineN
open Mine
/-- what stays as it is from the rows on -/
structure LK where
  (cl ll pl rl wh g0 g1 mt dm : Addr) (pk rk : Nat) (ps rs : List Addr) (cvs : List Value) (cs : List Int) (cn bb : Int) (t2 t3 : Tok) (pt : List (Addr × Obj)) (o1 o2 o3 o4 o5 : Obj)
namespace LK
def fx (k : LK) (L : Addr) : List (Addr × Obj) := [(k.rl, listOf (k.rs.map Value.ref).toArray k.rk), (k.ll, listOf #[.ref k.g0, .ref k.g1] 0), (k.pl, listOf (k.ps.map Value.ref).toArray k.pk), (k.cl, listOf k.cvs.toArray 0), (L + 1 + 1 + 1 + 1 + 1, k.o5), (L + 1 + 1 + 1 + 1, k.o4), (L + 1 + 1 + 1, k.o3), (L + 1 + 1, k.o2), (L + 1, k.o1)] ++ k.pt
def hs (k : LK) : List Addr := k.wh :: k.g0 :: k.g1 :: k.ps
structure Ok (k : LK) : Prop where
  d1 : k.o1.data = .cell (some (.ref k.cl))
  d2 : k.o2.data = .cell (some (.int k.cn k.t2))
  d3 : k.o3.data = .cell (some (.int k.bb k.t3))
  d4 : k.o4.data = .cell (some (.ref k.mt))
  d5 : k.o5.data = .cell (some (.ref k.rl))
  hI : IntsAre k.cvs k.cs
  hcs : k.cs.length = 10
  hbb : 3 ≤ k.bb ∧ k.bb ≤ 4
  hcn : 1 ≤ k.cn ∧ k.cn ≤ 9
  hps : (k.ps.length : Int) = k.bb
  hrs : (k.rs.length : Int) = k.cn
  hrow : RowsIn k.pt k.cs k.bb k.rs
  hpt : ∀ p ∈ k.pt, ∃ vs, p.2 = tupObj vs
structure Kn (k : LK) (m : Str → Option Value) : Prop where
  whole : m (Str.ofString "whole") = some (.ref k.wh)
  halves : m (Str.ofString "halves") = some (.ref k.ll)
  piles : m (Str.ofString "piles") = some (.ref k.pl)
theorem Ok.nd {k : LK} (K : k.Ok) {L : Addr} : ∀ p ∈ k.fx L, isND p.2 = false := fun p hp => by
  unfold fx at hp
  simp only [List.mem_cons, List.mem_append, List.not_mem_nil, or_false] at hp
  rcases hp with (rfl | rfl | rfl | rfl | rfl | rfl | rfl | rfl | rfl) | hp
  iterate 4 rfl
  · unfold isND; rw [K.d5]
  · unfold isND; rw [K.d4]
  · unfold isND; rw [K.d3]
  · unfold isND; rw [K.d2]
  · unfold isND; rw [K.d1]
  · obtain ⟨vs, hv⟩ := K.hpt p hp
    rw [hv]; rfl
theorem m_rl {k : LK} {L : Addr} {l : List (Addr × Obj)} : (k.rl, listOf (k.rs.map Value.ref).toArray k.rk) ∈ k.fx L ++ l := List.mem_append_left _ (by unfold fx; simp)
theorem m_ll {k : LK} {L : Addr} {l : List (Addr × Obj)} : (k.ll, listOf #[.ref k.g0, .ref k.g1] 0) ∈ k.fx L ++ l := List.mem_append_left _ (by unfold fx; simp)
theorem m_pl {k : LK} {L : Addr} {l : List (Addr × Obj)} : (k.pl, listOf (k.ps.map Value.ref).toArray k.pk) ∈ k.fx L ++ l := List.mem_append_left _ (by unfold fx; simp)
theorem m_o1 {k : LK} {L : Addr} {l : List (Addr × Obj)} : (L + 1, k.o1) ∈ k.fx L ++ l := List.mem_append_left _ (by unfold fx; simp)
theorem m_o2 {k : LK} {L : Addr} {l : List (Addr × Obj)} : (L + 1 + 1, k.o2) ∈ k.fx L ++ l := List.mem_append_left _ (by unfold fx; simp)
theorem m_o3 {k : LK} {L : Addr} {l : List (Addr × Obj)} : (L + 1 + 1 + 1, k.o3) ∈ k.fx L ++ l := List.mem_append_left _ (by unfold fx; simp)
theorem m_o5 {k : LK} {L : Addr} {l : List (Addr × Obj)} : (L + 1 + 1 + 1 + 1 + 1, k.o5) ∈ k.fx L ++ l := List.mem_append_left _ (by unfold fx; simp)
theorem Ok.row {k : LK} (K : k.Ok) {L : Addr} {l : List (Addr × Obj)} {j : Nat} {a : Addr} (h : k.rs[j]? = some a) : ∃ t u, (a, tupObj [.int (keyF k.cs k.bb j) t, .int (1 + (j : Int)) u]) ∈ k.fx L ++ l := by
  obtain ⟨t, u, hm⟩ := K.hrow j a h
  exact ⟨t, u, List.mem_append_left _ (by unfold fx; simp [hm])⟩
end LK
section
variable {w : World} {base : Heap} {env : Env} {L : Addr} {m mg mb : Str → Option Value} {mean : ExcName → Option Value}
  {s : Shared} {fx tl own : List (Addr × Obj)} {Q : Value → Shared → Prop} {E : Value → Shared → Prop}
  {c : NC} {xs fs l : List Addr} {nx pv : Addr → Option Addr} {f : Addr → List Addr} {h y q : Addr} {v1 v2 : Value}
/-- a new node -/
theorem route_op (F : Fr base L s.heap m) (N : News base L s.heap (fx ++ tl ++ own)) (B : Below callerA base [] base) (X : (hd.heap_39 w.params).In base) (T : Top VW LO mean mg mb base)
    (hk : ∀ p ∈ fx, isND p.2 = false) (ho : OwnOff own (tl.map (·.1))) (Z : c.St xs [] tl nx pv f) (hq : (q, tupObj [v1, v2]) ∈ fx) (hf : env.frame = some L) (hke : env.scope.kind = .function)
    (k : ∀ h' tk tl' x c' nx' pv', Fr base L h' m → News base L h' (fx ++ tl' ++ own) → OwnOff own (tl'.map (·.1)) → c'.mt = c.mt → c'.dmt = c.dmt → c'.hs = c.hs → NC.St c' (xs ++ [x]) [x] tl' nx' pv' f → nx' x = none → pv' x = none → x ∉ c.hs ++ xs → (∀ z ∈ xs, c'.ta z = c.ta z) → c'.ta x = q → Q (.ref x) { s with heap := h', toks := tk }) :
    wpAny (model PR w) (callerA.deeper env) (call (.ref 245) [.ref q] []) Q E s := by
  have N1 : News base L s.heap (((q, tupObj [v1, v2]) :: (fx ++ own)) ++ tl) := news_sub N fun p hp => by simp only [List.mem_cons, List.mem_append] at hp ⊢; grind
  refine route_tup (outer := []) (Cx.law F N1 B X T) Z.S ?_ hf hke fun h₀' h' tk tl' x dx C' S' q1 q2 => ?_
  · decide
  have q3 : ∀ p ∈ tl, p.1 < dx := fun p hp => q1 p (List.mem_append_right _ hp)
  have q4 : ∀ p ∈ own, p.1 < dx := fun p hp => q1 p (List.mem_append_left _ (.tail _ (List.mem_append_right _ hp)))
  let g : Addr → Bool := fun a => own.all fun q => q.1 != a
  have ft : ∀ {q : Addr × Obj}, q ∈ tl → g q.1 = true := fun {q} hq => List.all_eq_true.mpr fun r hr => by
    have := ho r hr q.1 (List.mem_map.mpr ⟨_, hq, rfl⟩)
    simpa using this
  have fn : ∀ {a : Addr}, dx ≤ a → g a = true := fun {a} ha => List.all_eq_true.mpr fun r hr => by
    have := Nat.ne_of_lt (Nat.lt_of_lt_of_le (q4 r hr) ha)
    simpa using this
  have nx' : ∀ z ∈ c.hs ++ xs, z ≠ x := fun z hz => Nat.ne_of_lt (Nat.lt_trans (q3 _ (Z.S.inst z hz)) q2)
  have xn : x ∉ c.hs ++ xs := fun m => nx' x m rfl
  have S2 := NS.filt S' g (ft Z.S.mkI) (ft Z.S.mkD) (fun z hz => by
    rcases List.mem_cons.mp hz with rfl | hz
    · exact fn (Nat.le_of_lt q2)
    · exact ft (Z.S.inst z hz)) (fun z hz => by
    rcases List.mem_cons.mp hz with rfl | hz
    · rw [upF_self]; exact fn (Nat.le_refl _)
    · rw [upF_ne (nx' z hz)]
      obtain ⟨es, k, a, _⟩ := Z.S.dict z hz
      exact ft a)
  refine k h' tk (tl'.filter fun q => g q.1) x ⟨c.mt, c.dmt, c.hs, upF c.da x dx, upF c.Ca x 245, upF c.ta x q, upF c.at_ x (routeAt (.ref q))⟩ (upF nx x none) (upF pv x none) (unturn C'.T0 C'.F) (news_sub (unturnN C'.T0 C'.N) fun q hq => ?_) (fun q hq b hb => ?_) rfl rfl rfl ⟨?_, ?_, fun z hz => ?_, fun z hz => ?_⟩ (upF_self ..) (upF_self ..) xn (fun z hz => upF_ne (nx' z (List.mem_append_right _ hz))) (upF_self ..)
  · simp only [List.mem_cons, List.mem_append, List.mem_filter] at hq ⊢; grind
  · obtain ⟨r, hr, rfl⟩ := List.mem_map.mp hb
    have := List.all_eq_true.mp (List.mem_filter.mp hr).2 q hq
    simpa using this
  · exact NS.sub S2 fun z hz => by simp only [List.mem_append, List.mem_singleton, List.mem_cons] at hz ⊢; grind
  · exact Z.R.ext xn fun z hz => ⟨upF_ne (nx' z hz), upF_ne (nx' z hz)⟩
  · have e := nx' z (List.mem_append_left _ hz)
    exact ⟨(upF_ne e).trans (Z.hd z hz).1, (upF_ne e).trans (Z.hd z hz).2⟩
  · rcases List.mem_append.mp hz with hz | hz
    · have e := nx' z (List.mem_append_right _ hz)
      refine ⟨(upF_ne e).trans (Z.nd z hz).1, (upF_ne e).trans ((Z.nd z hz).2.trans ?_)⟩
      show _ = routeAt (.ref (upF c.ta x q z))
      rw [upF_ne e]
    · rw [List.mem_singleton.mp hz]
      refine ⟨upF_self .., (upF_self ..).trans ?_⟩
      show _ = routeAt (.ref (upF c.ta x q x))
      rw [upF_self]
/-- the new node is put at the end -/
theorem app0_op (F : Fr base L s.heap m) (N : News base L s.heap (fx ++ tl ++ own)) (B : Below callerA base [] base) (X : (hd.heap_39 w.params).In base) (T : Top VW LO mean mg mb base)
    (hk : ∀ p ∈ fx, isND p.2 = false) (ho : OwnOff own (tl.map (·.1))) (Z : c.St xs [y] tl nx pv f) (hh : h ∈ c.hs) (hy : y ∈ xs) (off : ∀ h' ∈ c.hs, y ∉ f h') (h1 : nx y = none) (h2 : pv y = none) (hf : env.frame = some L) (hke : env.scope.kind = .function)
    (k : ∀ h' tk tl' nx' pv', Fr base L h' m → News base L h' (fx ++ tl' ++ own) → OwnOff own (tl'.map (·.1)) → c.St xs [] tl' nx' pv' (upL f h (f h ++ [y])) → Q .none { s with heap := h', toks := tk }) :
    wpAny (model PR w) (callerA.deeper env) (call (.ref 70) [.ref h, .ref y] []) Q E s := by
  obtain ⟨C1, P⟩ := pre_own (Cx.law F N B X T) hk ho Z
  obtain ⟨p, p1, p2, p3, p4, R'⟩ := Z.R.append hh hy off fun z hz => List.mem_singleton.mp hz
  refine append0 (outer := []) C1 P Z.S ?_ hf hke (Z.H hh) (List.mem_append_right _ hy) p1 p3 p2 h1 h2 fun h₀' h' tk tl' C' S' => ?_
  · decide
  have C2 : Cx w callerA base [] mean mg mb base base L h' m ((fx ++ own) ++ tl') := Cx.law (unturn C'.T0 C'.F) (unturnN C'.T0 C'.N) B X T
  obtain ⟨tl2, C3, o2, S2⟩ := post_own C2 S' ho Z.S
  exact k _ _ _ _ _ C3.F C3.N o2 ⟨S2, R', Z.hd, Z.nd⟩
end
end MineN
namespace MineN
theorem rstV7 : True := by
  w_top off
  trivial
open Mine
theorem fillV7 : PySem.Challenge.rw_fc0145_01.Holds → (∀ w : World, (hd.heap_39 w.params).In default) → True := by
  k_fill
  intros
  trivial
local macro_rules | `(tactic| k_steps) => `(tactic| repeat' (first | (k_unfold; (try dsimp only)) | walk1 | (dsimp only; walk1) | fail "no step"))
local macro_rules | `(tactic| walk_at "call ref") => `(tactic| (refine stopN ?_))
local macro_rules | `(tactic| walk_at "getAttr ref") => `(tactic| ((with_reducible show wpAny _ _ (getAttr (Value.ref _) (Str.ofString "path") _) _ _ _); refine stopN ?_))
local macro_rules | `(tactic| walk_at "pyIter ref") => `(tactic| (refine stopN ?_))
local macro_rules | `(tactic| walk_at "exec For") => `(tactic| (refine stopN ?_))
local macro_rules | `(tactic| k_mem) => `(tactic| assumption)
local macro_rules | `(tactic| k_get) => `(tactic| assumption)
section
variable {w : World} {base : Heap} {L fa : Addr} {cd : Value} {m mg mb : Str → Option Value} {mean : ExcName → Option Value}
  {s : Shared} {Q : Flow → Shared → Prop} {E : Value → Shared → Prop} {k : LK} {tl : List (Addr × Obj)}
theorem HD.st {mk dmk : Addr} {hs : List Addr} (Z : HD tl mk dmk hs) : ∃ c nx pv, c.mt = mk ∧ c.dmt = dmk ∧ c.hs = hs ∧ NC.St c [] [] tl nx pv (fun _ => []) := by
  obtain ⟨da, Ca, at_, nx, pv, S, nd, hh⟩ := Z
  refine ⟨⟨mk, dmk, hs, da, Ca, fun _ => 0, at_⟩, nx, pv, rfl, rfl, rfl, NS.sub S fun x hx => by simpa using hx, ⟨by simpa using nd, fun h h' => ⟨(hh h h').2.2.1, (hh h h').2.2.2⟩, (fun _ _ _ h => by cases h), fun _ _ => .nil, (fun _ _ _ _ _ h => by cases h), fun _ h => by cases h⟩, fun h h' => ⟨(hh h h').1, (hh h h').2.1⟩, fun _ h => by cases h⟩
/-- statement 6's word -/
def J6 (k : LK) (L : Addr) (i : Nat) (m : Str → Option Value) (nw : List (Addr × Obj)) : Prop :=
  ∃ c tl xs nx pv f, nw = k.fx L ++ tl ∧ c.mt = k.mt ∧ c.dmt = k.dm ∧ c.hs = k.hs ∧ NC.St c xs [] tl nx pv f ∧ xs.map c.ta = k.rs.take i ∧ f k.wh = xs ∧ (∀ h ∈ k.hs, h ≠ k.wh → f h = []) ∧ k.Kn m
theorem seg6 (B : Below callerA base [] base) (F : Fr base L s.heap m) (X : (hd.heap_39 w.params).In base) (T : Top VW LO mean mg mb base) (K : k.Ok) (hm : k.Kn m) (N : News base L s.heap (k.fx L ++ tl)) (Z : HD tl k.mt k.dm k.hs)
    (hE : PassesOwn (model PR w) (callerA.deeper (lawEnv L fa cd)) (lawEnv L fa cd) E)
    (hQ : ∀ h' tk gens m' nw, Fr base L h' m' → News base L h' nw → J6 k L k.rs.length m' nw → (AllBare s.gens → AllBare gens) → Q .next { s with heap := h', toks := tk, gens := gens }) :
    wpAny (model PR w) (callerA.deeper (lawEnv L fa cd)) (exec (st 6) (lawEnv L fa cd)) Q E s := by
  conv => pattern (st 6); whnf
  unfold lawEnv
  conv => pattern (occs := *) lawScope; all_goals whnf
  have g5 := K.d5
  have m5 : (L + 1 + 1 + 1 + 1 + 1, k.o5) ∈ k.fx L ++ tl := LK.m_o5
  have mr : (k.rl, listOf (k.rs.map Value.ref).toArray k.rk) ∈ k.fx L ++ tl := LK.m_rl
  refine wpAny_For ?_ (by intro _; rfl)
  k_steps
  refine ⟨?_⟩
  refine listG (vs := k.rs.map Value.ref) (nn := k.rk) (J6 k L) rfl mr F N ?_ ?_ rfl rfl hE ?_ ?_
  · obtain ⟨c, nx, pv, c1, c2, c3, S⟩ := Z.st
    exact ⟨c, tl, [], nx, pv, fun _ => [], rfl, c1, c2, c3, S, rfl, rfl, fun _ _ _ => rfl, hm⟩
  · rintro i m1 nw ⟨_, _, _, _, _, _, rfl, _⟩
    exact LK.m_rl
  · rintro i v m1 nw h3 tk3 gens3 own hv ⟨c, tl1, xs, nx, pv, f, rfl, c1, c2, c3, S, e1, e2, e3, hm1⟩ hoff hbr F3 N3
    rw [List.getElem?_map] at hv
    obtain ⟨q, hq, rfl⟩ := Option.map_eq_some_iff.mp hv
    rw [← kn_eq [(Str.ofString "whole", .ref k.wh), (Str.ofString "halves", .ref k.ll), (Str.ofString "piles", .ref k.pl)] (allC (P := fun p => m1 p.1 = some p.2) hm1.whole (allC (P := fun p => m1 p.1 = some p.2) hm1.halves (all1 (P := fun p => m1 p.1 = some p.2) hm1.piles)))] at F3
    dsimp only [kn] at F3
    have hoff2 : OwnOff own (tl1.map (·.1)) := fun q hq b hb => hoff q hq b (by rw [List.map_append]; exact List.mem_append_right _ hb)
    have hofx : OwnOff own ((k.fx L).map (·.1)) := fun q hq b hb => hoff q hq b (by rw [List.map_append]; exact List.mem_append_left _ hb)
    have hwh : k.wh ∈ c.hs := by rw [c3]; exact .head _
    replace N3 : News base L h3 (k.fx L ++ tl1 ++ own) := N3
    obtain ⟨C5, P5⟩ := pre_own (s := { s with heap := h3 }) (Cx.law F3 N3 B X T) K.nd hoff2 S
    obtain ⟨es, nn, hl5⟩ := hdL C5 S.S (S.H hwh)
    have l1 := hl5.i
    have l2 := hl5.d
    have l3 := hl5.no (Str.ofString "append") (by decide +kernel) (by decide +kernel) (by decide +kernel) (by decide +kernel)
    obtain ⟨F5, N5, _, _, _, _, _, _, _⟩ := C5
    k_steps
    refine ⟨?_⟩
    obtain ⟨tq, uq, mq⟩ := K.hrow i q hq
    refine route_op (fx := k.fx L) (tl := tl1) (own := own) F3 N3 B X T K.nd hoff2 S (by unfold LK.fx; exact List.mem_append_right _ mq) rfl rfl fun h6 tk6 tl6 x c6 nx6 pv6 F6 N6 o6 b1 b2 b3 S6 x1 x2 xn ta1 ta2 => ?_
    k_steps
    refine ⟨?_⟩
    show wpAny _ _ (call (.ref 70) [.ref k.wh, .ref x] []) _ _ _
    have S7 := S6
    refine app0_op (fx := k.fx L) (tl := tl6) (own := own) F6 N6 B X T K.nd o6 S6 (h := k.wh) (by rw [b3]; exact hwh) (by simp) (fun h' hh' hx' => ?_) x1 x2 rfl rfl fun h8 tk8 tl8 nx8 pv8 F8 N8 o8 S8 => ?_
    · rw [b3] at hh'
      exact xn (List.mem_append_right _ (S.R.sub h' hh' x hx'))
    k_steps
    refine ⟨h8, _, _, _, k.fx L ++ tl8, rfl, fun x => x, F8, N8, fun q hq b hb => ?_, c6, tl8, xs ++ [x], nx8, pv8, _, rfl, b1.trans c1, b2.trans c2, b3.trans c3, S8, ?_, ?_, fun h hh' ne => ?_, ⟨rfl, rfl, rfl⟩⟩
    · rw [List.map_append] at hb
      rcases List.mem_append.mp hb with hb | hb
      · exact hofx q hq b hb
      · exact o8 q hq b hb
    · rw [List.map_append, List.take_add_one, hq, ← e1]
      congr 1
      · exact List.map_congr_left ta1
      · rw [List.map_cons, ta2]; rfl
    · rw [upL_self, e2]
    · rw [upL_ne ne]; exact e3 h hh' ne
  · rintro m1 nw h3 tk3 gens3 J hbr F3 N3
    rw [List.length_map] at J
    exact hQ _ _ _ _ _ F3 N3 J hbr
end
end MineN
namespace MineN
theorem rstV8 : True := by
  w_top off
  trivial
open Mine
theorem fillV8 : PySem.Challenge.rw_fc0145_01.Holds → (∀ w : World, (hd.heap_39 w.params).In default) → True := by
  k_fill
  intros
  trivial
local macro_rules | `(tactic| k_steps) => `(tactic| repeat' (first | (k_unfold; (try dsimp only)) | walk1 | (dsimp only; walk1) | fail "no step"))
local macro_rules | `(tactic| walk_at "call ref") => `(tactic| (refine stopN ?_))
local macro_rules | `(tactic| walk_at "getAttr ref") => `(tactic| ((with_reducible show wpAny _ _ (getAttr (Value.ref _) (Str.ofString "path") _) _ _ _); refine stopN ?_))
local macro_rules | `(tactic| walk_at "pyIter ref") => `(tactic| (refine stopN ?_))
local macro_rules | `(tactic| walk_at "exec For") => `(tactic| (refine stopN ?_))
local macro_rules | `(tactic| walk_at "subscriptTail") => `(tactic| (k_here; (with_reducible show wpAny _ _ (subscriptTail _ _ (Value.ref _) (Value.int _ _)) _ _ _); (with_unfolding_all refine' item_litK ?k1 ?k2 ?k3 ?k4 ?_ ?k6; (case k1 => exact News.isList (by k_asm) (by assumption)); (case k2 => omega); (case k3 => omega); (case k4 => assumption); (case k6 => with_unfolding_all rfl); k_whole)))
local macro_rules | `(tactic| k_mem) => `(tactic| assumption)
local macro_rules | `(tactic| k_get) => `(tactic| assumption)
/-- the items at the places that leave r by two -/
def pick (l : List Addr) (r n : Nat) : List Addr := ((List.range n).filter fun j => j % 2 == r).map fun j => l.getD j 0
theorem pick_succ {l : List Addr} {r n : Nat} : pick l r (n + 1) = pick l r n ++ if n % 2 = r then [l.getD n 0] else [] := by
  unfold pick
  rw [List.range_succ, List.filter_append, List.map_append]
  congr 1
  by_cases h : n % 2 = r
  · rw [if_pos h, List.filter_cons_of_pos (by simpa using h)]; rfl
  · rw [if_neg h, List.filter_cons_of_neg (by simpa using h)]; rfl
/-- what the constants say of the nodes -/
structure NK (k : LK) (c : NC) (xs : List Addr) : Prop where
  hs : c.hs = k.hs
  rs : xs.map c.ta = k.rs
structure D8 (k : LK) (xs : List Addr) (f : Addr → List Addr) (i : Nat) : Prop where
  wh : f k.wh = xs.drop i
  h0 : f k.g0 = pick xs 0 i
  h1 : f k.g1 = pick xs 1 i
  hp : ∀ q ∈ k.ps, f q = []
theorem D8.step {k : LK} {xs : List Addr} {f : Addr → List Addr} {i : Nat} {p g : Addr} (D : D8 k xs f i) (nd : k.hs.Nodup) (hp : xs[i]? = some p) (hg : i % 2 = 0 ∧ g = k.g0 ∨ i % 2 = 1 ∧ g = k.g1) :
    D8 k xs (upL (upL f k.wh (xs.drop (i + 1))) g (upL f k.wh (xs.drop (i + 1)) g ++ [p])) (i + 1) := by
  unfold LK.hs at nd
  simp only [List.nodup_cons, List.mem_cons, not_or] at nd
  obtain ⟨⟨n1, n2, n3⟩, ⟨n4, n5⟩, n6, _⟩ := nd
  have e : xs.getD i 0 = p := by rw [List.getD_eq_getElem?_getD, hp]; rfl
  rcases hg with ⟨hi, rfl⟩ | ⟨hi, rfl⟩
  · refine ⟨?_, ?_, ?_, fun q hq => ?_⟩
    · rw [upL_ne n1, upL_self]
    · rw [upL_self, upL_ne (Ne.symm n1), D.h0, pick_succ, if_pos hi, e]
    · rw [upL_ne (Ne.symm n4), upL_ne (Ne.symm n2), D.h1, pick_succ, if_neg (by omega), List.append_nil]
    · rw [upL_ne (fun w => n5 (by rw [← w]; exact hq)), upL_ne (fun w => n3 (by rw [← w]; exact hq)), D.hp q hq]
  · refine ⟨?_, ?_, ?_, fun q hq => ?_⟩
    · rw [upL_ne n2, upL_self]
    · rw [upL_ne n4, upL_ne (Ne.symm n1), D.h0, pick_succ, if_neg (by omega), List.append_nil]
    · rw [upL_self, upL_ne (Ne.symm n2), D.h1, pick_succ, if_pos hi, e]
    · rw [upL_ne (fun w => n6 (by rw [← w]; exact hq)), upL_ne (fun w => n3 (by rw [← w]; exact hq)), D.hp q hq]
section
variable {w : World} {base : Heap} {L fa : Addr} {cd : Value} {m mg mb : Str → Option Value} {mean : ExcName → Option Value}
  {s : Shared} {Q : Flow → Shared → Prop} {E : Value → Shared → Prop} {k : LK} {tl : List (Addr × Obj)} {c : NC} {xs : List Addr} {nx pv : Addr → Option Addr} {f : Addr → List Addr}
theorem seg8 (B : Below callerA base [] base) (F : Fr base L s.heap m) (X : (hd.heap_39 w.params).In base) (T : Top VW LO mean mg mb base) (K : k.Ok) (hm : k.Kn m) (N : News base L s.heap (k.fx L ++ tl)) (Z : c.St xs [] tl nx pv f) (C : NK k c xs)
    (hf1 : f k.wh = xs) (hf2 : ∀ h ∈ k.hs, h ≠ k.wh → f h = [])
    (hE : PassesOwn (model PR w) (callerA.deeper (lawEnv L fa cd)) (lawEnv L fa cd) E)
    (hQ : ∀ h' tk gens m' tl' nx' pv' f', Fr base L h' m' → News base L h' (k.fx L ++ tl') → c.St xs [] tl' nx' pv' f' → D8 k xs f' xs.length → k.Kn m' → (AllBare s.gens → AllBare gens) → Q .next { s with heap := h', toks := tk, gens := gens }) :
    wpAny (model PR w) (callerA.deeper (lawEnv L fa cd)) (execs [st 7, st 8] (lawEnv L fa cd)) Q E s := by
  conv => pattern (st 7); whnf
  conv => pattern (st 8); whnf
  unfold lawEnv
  conv => pattern (occs := *) lawScope; all_goals whnf
  have hlen : (xs.length : Int) = k.cn := by rw [← K.hrs, ← C.rs, List.length_map]
  have hcn := K.hcn
  have nd : k.hs.Nodup := by have := Z.R.nd; rw [C.hs] at this; exact (List.nodup_append.mp this).1
  have hwh : k.wh ∈ c.hs := by rw [C.hs]; exact .head _
  have nd2 := nd
  unfold LK.hs at nd2
  simp only [List.nodup_cons, List.mem_cons, not_or] at nd2
  obtain ⟨⟨n1, n2, n3⟩, ⟨n4, n5⟩, n6, _⟩ := nd2
  rw [← kn_eq [(Str.ofString "whole", .ref k.wh), (Str.ofString "halves", .ref k.ll), (Str.ofString "piles", .ref k.pl)] (allC (P := fun p => m p.1 = some p.2) hm.whole (allC (P := fun p => m p.1 = some p.2) hm.halves (all1 (P := fun p => m p.1 = some p.2) hm.piles)))] at F
  dsimp only [kn] at F
  k_steps
  refine ⟨?_⟩
  refine wpAny_For ?_ (by intro _; rfl)
  k_steps
  refine ⟨?_⟩
  rename_i F1 N1
  have hE2 : PassesOwn (model PR w) (callerA.deeper (lawEnv L fa cd)) (lawEnv L fa cd) E := hE
  refine list_loop (outer := []) xs.length (fun i p m1 pre1 tl1 nx1 pv1 => pre1 = k.fx L ∧ ∃ f1 t, c.St xs [] tl1 nx1 pv1 f1 ∧ D8 k xs f1 i ∧ i ≤ xs.length ∧ p = (xs[i]?).getD k.wh ∧ k.Kn m1 ∧ m1 (Str.ofString "turn") = some (.int (i : Int) t))
    (Cx.law F1 N1 B X T) Z.S ?_ rfl rfl (Z.H hwh) rfl rfl hE ?_ ?_ ?_ ?_
  · decide
  · rintro i p m1 pre1 tl1 nx1 pv1 ⟨rfl, f1, t, Z1, D1, hi, rfl, _, _⟩
    rcases Nat.lt_or_ge i xs.length with h | h
    · have e : xs[i]? = some xs[i] := List.getElem?_eq_getElem h
      have e2 : f1 k.wh = xs[i] :: xs.drop (i + 1) := by rw [D1.wh]; exact List.drop_eq_getElem_cons h
      obtain ⟨n, n1, n2, n3, n4, n5, _⟩ := Z1.R.drop hwh e2
      rw [e]
      exact ⟨Z1.S, List.mem_append_right _ n3, ⟨_, n5⟩, hi, fun q => absurd q (Nat.ne_of_lt h)⟩
    · have e : xs[i]? = none := List.getElem?_eq_none h
      have e2 : f1 k.wh = [] := by rw [D1.wh]; exact List.drop_eq_nil_of_le h
      rw [e]
      exact ⟨Z1.S, List.mem_append_left _ hwh, ⟨_, (Z1.R.emp hwh e2).1⟩, hi, fun _ => rfl⟩
  · refine ⟨_, (seg_get (Z.R.seg k.wh hwh)).1, rfl, f, _, Z, ⟨hf1, ?_, ?_, fun q hq => ?_⟩, Nat.zero_le _, by rw [hf1], ⟨rfl, rfl, rfl⟩, rfl⟩
    · exact hf2 _ (by unfold LK.hs; simp) (Ne.symm n1)
    · exact hf2 _ (by unfold LK.hs; simp) (Ne.symm n2)
    · exact hf2 _ (by unfold LK.hs; simp [hq]) (fun w => n3 (by rw [← w]; exact hq))
  · rintro i p y m1 pre1 tl1 nx1 pv1 h3 tk3 gens3 own ⟨rfl, f1, t, Z1, D1, hi, hp, hm1, kd1⟩ hne hy hoff hbr F3 N3
    have hil : i < xs.length := by
      rcases Nat.lt_or_ge i xs.length with h | h
      · exact h
      · rw [List.getElem?_eq_none h] at hp
        exact absurd hp hne
    have hpi : xs[i]? = some p := by
      rw [List.getElem?_eq_getElem hil] at hp ⊢
      exact congrArg some hp.symm
    have e2 : f1 k.wh = p :: xs.drop (i + 1) := by rw [D1.wh, List.drop_eq_getElem_cons hil]; congr 1; rw [List.getElem?_eq_getElem hil] at hpi; exact Option.some.inj hpi
    have hpx : p ∈ xs := List.mem_of_getElem? hpi
    have hyy : y = (xs[i + 1]?).getD k.wh := by
      have := (seg_get (Z1.R.seg k.wh hwh)).2 0 p (by rw [e2]; rfl)
      rw [hy, e2] at this
      have := Option.some.inj this
      rw [this]
      simp [List.getElem?_drop]
    rw [← kn_eq [(Str.ofString "whole", .ref k.wh), (Str.ofString "halves", .ref k.ll), (Str.ofString "piles", .ref k.pl), (Str.ofString "turn", .int (i : Int) t)] (allC (P := fun p => m1 p.1 = some p.2) hm1.whole (allC (P := fun p => m1 p.1 = some p.2) hm1.halves (allC (P := fun p => m1 p.1 = some p.2) hm1.piles (all1 (P := fun p => m1 p.1 = some p.2) kd1))))] at F3
    dsimp only [kn] at F3
    have hoff2 : OwnOff own (tl1.map (·.1)) := fun q hq b hb => hoff q hq b (by rw [List.map_append]; exact List.mem_append_right _ hb)
    have hofx : OwnOff own ((k.fx L).map (·.1)) := fun q hq b hb => hoff q hq b (by rw [List.map_append]; exact List.mem_append_left _ hb)
    replace N3 : News base L h3 (k.fx L ++ tl1 ++ own) := N3
    obtain ⟨C5, P5⟩ := pre_own (s := { s with heap := h3 }) (Cx.law F3 N3 B X T) K.nd hoff2 Z1
    obtain ⟨es, nn, hl5⟩ := hdL C5 Z1.S (Z1.H hwh)
    have l1 := hl5.i
    have l2 := hl5.d
    have l3 := hl5.no (Str.ofString "remove") (by decide +kernel) (by decide +kernel) (by decide +kernel) (by decide +kernel)
    obtain ⟨F5, N5, _, _, _, _, _, _, _⟩ := C5
    have g2 := K.d2
    have m2 : (L + 1 + 1, k.o2) ∈ (k.fx L ++ own) ++ tl1 := List.mem_append_left _ LK.m_o2
    have hcmp : ¬ (i : Int) = k.cn := by omega
    clear F1 N1
    k_steps
    · exfalso; omega
    refine ⟨?_⟩
    show wpAny _ _ (call (.ref 91) [.ref k.wh, .ref p] []) _ _ _
    refine rem_op (s := { s with heap := h3, toks := tk3, gens := gens3 }) (fx := k.fx L) (tl := tl1) (own := own) (Cx.law F3 N3 B X T) K.nd hoff2 Z1 hwh e2 (by decide) rfl rfl fun h4 tk4 tl4 nx4 pv4 C6 o6 Z6 => ?_
    obtain ⟨g, hg, hgx⟩ : ∃ g, (i % 2 = 0 ∧ g = k.g0 ∨ i % 2 = 1 ∧ g = k.g1) ∧ ([.ref k.g0, .ref k.g1] : List Value)[((i : Int).fmod 2).toNat]? = some (.ref g) := by
      rw [Int.fmod_eq_emod_of_nonneg _ (by decide)]
      rcases Nat.mod_two_eq_zero_or_one i with e | e
      · exact ⟨k.g0, .inl ⟨e, rfl⟩, by rw [show ((i : Int) % 2).toNat = 0 by omega]; rfl⟩
      · exact ⟨k.g1, .inr ⟨e, rfl⟩, by rw [show ((i : Int) % 2).toNat = 1 by omega]; rfl⟩
    have hgs : g ∈ c.hs := by
      rw [C.hs]; unfold LK.hs
      rcases hg with ⟨_, rfl⟩ | ⟨_, rfl⟩ <;> simp
    have hgw : g ≠ k.wh := by
      rcases hg with ⟨_, rfl⟩ | ⟨_, rfl⟩
      · exact Ne.symm n1
      · exact Ne.symm n2
    have D2 := D1.step nd hpi hg
    obtain ⟨es7, nn7, hl7⟩ := hdL (toA (s := { s with heap := h4 }) C6) Z6.S (Z6.H hgs)
    have r1 := hl7.i
    have r2 := hl7.d
    have r3 := hl7.no (Str.ofString "append") (by decide +kernel) (by decide +kernel) (by decide +kernel) (by decide +kernel)
    obtain ⟨F6, N6, _, _, _, _, _, _, _⟩ := toA (s := { s with heap := h4 }) C6
    have mll : (k.ll, listOf #[.ref k.g0, .ref k.g1] 0) ∈ (k.fx L ++ own) ++ tl4 := List.mem_append_left _ LK.m_ll
    have hi0 : 0 ≤ (i : Int).fmod 2 := Int.fmod_nonneg_of_pos _ (by decide)
    have hi1 : (i : Int).fmod 2 < 2 := Int.fmod_lt_of_pos _ (by decide)
    clear F5 N5
    k_steps
    refine ⟨?_⟩
    show wpAny _ _ (call (.ref 70) [.ref g, .ref p] []) _ _ _
    have offp : ∀ h' ∈ c.hs, p ∉ upL f1 k.wh (xs.drop (i + 1)) h' := fun h' hh' hm => by
      by_cases e : h' = k.wh
      · subst e
        rw [upL_self] at hm
        have := Z1.R.nod k.wh hh'
        rw [e2] at this
        exact (List.nodup_cons.mp this).1 hm
      · rw [upL_ne e] at hm
        exact e (Z1.R.dis h' hh' k.wh hwh p hm (by rw [e2]; simp))
    refine app_op (s := { s with heap := h4, toks := tk4 + 1 + 1, gens := gens3 }) (fx := k.fx L) (tl := tl4) (own := own) (toB (s := { s with heap := h4 }) (Cx.law F6 N6 B X T)) K.nd o6 Z6 hgs hpx offp (by decide) rfl rfl fun h8 tk8 tl8 nx8 pv8 C8 o8 Z8 => ?_
    obtain ⟨F8, N8, _, _, _, _, _, _, _⟩ := C8
    clear F6 N6
    k_steps
    rename_i F9 N9
    refine ⟨_, _, _, k.fx L, tl8, nx8, pv8, rfl, F9, N9, fun q hq b hb => ?_, rfl, _, _, Z8, D2, hil, hyy, ⟨rfl, rfl, rfl⟩, rfl⟩
    rw [List.map_append] at hb
    rcases List.mem_append.mp hb with hb | hb
    · exact hofx q hq b hb
    · exact o8 q hq b hb
  · rintro i m1 pre1 tl1 nx1 pv1 h3 tk3 gens3 ⟨rfl, f1, t, Z1, D1, hi, hp, hm1, kd1⟩ hbr F3 N3
    have hil : i = xs.length := by
      rcases Nat.lt_or_ge i xs.length with h | h
      · rw [List.getElem?_eq_getElem h] at hp
        exact absurd (show k.wh = xs[i] from hp) (Z1.R.hx hwh (List.getElem_mem h))
      · omega
    subst hil
    exact wpAny_execs_nil (hQ _ _ _ _ _ _ _ _ F3 N3 Z1 D1 hm1 hbr)
end
end MineN
namespace MineN
open LCg
section
variable {prog : Program} {w : World} {A : Around} {E : Value → Shared → Prop} {s : Shared} {h₀ : Heap} {L : Addr} {m : Str → Option Value} {env : Env}

def Off4 (I C kc D : Addr) (l : List (Addr × Obj)) : Prop := ∀ p ∈ l, p.1 ≠ I ∧ p.1 ≠ C ∧ p.1 ≠ kc ∧ p.1 ≠ D
theorem nfe_K {M : Model} {scope : Scope} {x a b c e5 : Str} {cl : List (Str × Addr)} {globals : Addr} {qual : Str} {outer : Env} {Q : Env → Shared → Prop}
    (hsc : scope.names = [(a, .local), (x, .cell), (b, .globalImplicit), (c, .free), (e5, .free)])
    (h : Q { scope, locals := s.heap.objs.size, globals, cells := (x, s.heap.objs.size + 1) :: cl, qual, func := none, code := outer.code, frame := outer.frame, builtins := outer.builtins }
      { s with heap := (s.heap.push { cls := .type "dict", data := .dict #[] }).push { cls := .type "cell", data := .cell none } }) :
    wpAny M A (newFunctionEnv scope globals cl [] qual none .none (some outer)) Q E s := by
  simp only [newFunctionEnv, Option.isSome_some, if_true]
  refine wpAny_bind (wpAny_alloc ?_)
  refine wpAny_bind (wpAny_layCells _ (fun name kind cells => by cases hkc : kind == NameKind.cell <;> simp [hkc]) _ _ _ _ ?_)
  rw [hsc]
  refine wpAny_bind ?_
  rw [List.forIn_nil]
  refine wpAny_pure (wpAny_pure ?_)
  simp only [cellsFrom, pushCells]
  simpa [Heap.size_push] using h

def SrcKA (prog : Program) (w : World) (A : Around) (h₀ : Heap) (L : Addr) (m : Str → Option Value) (env : Env) (elt : Expr) (x : Str) (scope : Scope) (cl : List (Str × Addr)) (y : Str) (Q : Flow → Shared → Prop) (xv : Value) (s₁ : Shared) : Prop :=
  ∃ (r : Addr) (b : Int) (t u v : Tok) (n : Nat) (news : List (Addr × Obj)) (J : Nat → List Value → List (Addr × Obj) → Prop), xv = .ref r ∧ A.handled = none ∧ Fr h₀ L s₁.heap m ∧ News h₀ L s₁.heap news ∧ IsRange s₁.heap r 0 b 1 t u v ∧
    Builtin.Range.small 0 b 1 = true ∧ Builtin.Range.rangeSize 0 b 1 = ((n : Nat) : Int) ∧ n ≤ sizeLine ∧ J 0 [] news ∧
    (∀ i t I oI C oC kc oK D ys nw h tk (E' : Value → Shared → Prop), i < n → J i ys nw → oK.data = .cell (some (.int (0 + (i : Int)) t)) → Fr h₀ L h m → News h₀ L h ((kc, oK) :: (I, oI) :: (C, oC) :: (D, lst ys) :: nw) → Off4 I C kc D nw →
      wpAny (model prog w) A (eval elt (compEnvC scope ((x, kc) :: cl) C env)) (fun y' s' => ∃ h' tk' nw', s' = { s₁ with heap := h', toks := tk' } ∧ Fr h₀ L h' m ∧ News h₀ L h' ((kc, oK) :: (I, oI) :: (C, oC) :: (D, lst ys) :: nw') ∧ Off4 I C kc D nw' ∧ J (i + 1) (ys ++ [y']) nw') E' { s₁ with heap := h, toks := tk }) ∧
    ∀ ys nw D h tk, J n ys nw → Fr h₀ L h (fun z => if z = y then some (.ref D) else m z) → News h₀ L h ((D, lst ys) :: nw) → Off1 D nw → Q .next { s₁ with heap := h, toks := tk }

theorem off1_of {D : Addr} : ∀ {l : List (Addr × Obj)}, (∀ p ∈ l, p.1 ≠ D) → Off1 D l
  | [], _ => trivial
  | _ :: _, h => ⟨h _ List.mem_cons_self, off1_of fun p hp => h p (List.mem_cons_of_mem _ hp)⟩


theorem news_same {h h' : Heap} {d : Addr} {news : List (Addr × Obj)} (N : News h₀ L h news) (hs : Heap.SameBut d h h') (off : ∀ p ∈ news, p.1 ≠ d) : News h₀ L h' news := fun p hp => ⟨hs.extBut _ _ (off p hp) (N p hp).1, (N p hp).2⟩

theorem loop_K {elt iter : Expr} {x : Str} {px : Pos} {scope : Scope} {cl : List (Str × Addr)} {pos : Pos} {RR : Result → Shared → Prop} {I C kc D : Addr} {n : Nat} {news : List (Addr × Obj)} {J : Nat → List Value → List (Addr × Obj) → Prop}
    (hh : A.handled = none) (hsz : n ≤ sizeLine) (hkind : scope.kind = .function) (hkx : (compEnvC scope ((x, kc) :: cl) C env).kindOf x = some .cell)
    (hst : IsRangeIter s.heap I (0 + ((0 : Nat) : Int) * 1) ((n : Int) - ((0 : Nat) : Int)) 1) (F : Fr h₀ L s.heap m) (N : News h₀ L s.heap ((D, lst []) :: news)) (hC : s.heap.Ns C fun _ => none) (hK : s.heap.IsCell kc none)
    (hIC : I ≠ C) (hIk : I ≠ kc) (hID : I ≠ D) (hCk : C ≠ kc) (hCD : C ≠ D) (hkD : kc ≠ D) (hIL : L ≠ I) (hCL : C ≠ L) (hkL : kc ≠ L) (hDL : D ≠ L) (i0 : h₀.get? I = none) (c0 : h₀.get? C = none) (k0 : h₀.get? kc = none) (d0 : h₀.get? D = none)
    (off : Off4 I C kc D news) (J0 : J 0 [] news)
    (turn : ∀ i t I oI C oC kc oK D ys nw h tk (E' : Value → Shared → Prop), i < n → J i ys nw → oK.data = .cell (some (.int (0 + (i : Int)) t)) → Fr h₀ L h m → News h₀ L h ((kc, oK) :: (I, oI) :: (C, oC) :: (D, lst ys) :: nw) → Off4 I C kc D nw →
      wpAny (model prog w) A (eval elt (compEnvC scope ((x, kc) :: cl) C env)) (fun y s' => ∃ h' tk' nw', s' = { s with heap := h', toks := tk' } ∧ Fr h₀ L h' m ∧ News h₀ L h' ((kc, oK) :: (I, oI) :: (C, oC) :: (D, lst ys) :: nw') ∧ Off4 I C kc D nw' ∧ J (i + 1) (ys ++ [y]) nw') E' { s with heap := h, toks := tk })
    (hRR : ∀ h tk m' ys nw, J n ys nw → Fr h₀ L h m → News h₀ L h ((D, lst ys) :: nw) → Off4 I C kc D nw → h.Ns C m' → RR (.ok .next) { s with heap := h, toks := tk }) :
    codeAny (model prog w) A (.compLoop (.ListComp elt [⟨.Name x px, iter, [], 0⟩] scope pos) 0 (.ref I) (.ref D) (compEnvC scope ((x, kc) :: cl) C env)) RR s := by
  have W := range_walks (prog := prog) (w := w) (I := I) hh 0 n
  refine codeAny_compLoop_tests
    (fun k s' => ∃ h' tk i ys nw v0, s' = { s with heap := h', toks := tk } ∧ i ≤ n ∧ k = n + 1 - i ∧ ys.length = i ∧ IsRangeIter h' I (0 + (i : Nat) * 1) ((n : Int) - (i : Nat)) 1 ∧ Fr h₀ L h' m ∧ (h'.Ns C fun _ => none) ∧ h'.IsCell kc v0 ∧ News h₀ L h' ((D, lst ys) :: nw) ∧ Off4 I C kc D nw ∧ J i ys nw) ?_ (n + 1)
    ⟨s.heap, s.toks, 0, [], news, none, rfl, Nat.zero_le _, rfl, rfl, hst, F, hC, hK, N, off, J0⟩
  rintro k s' ⟨h', tk, i, ys, nw, v0, rfl, hi, rfl, hyl, hst', F', hC', hK', N', off, hJ⟩
  have offI : ∀ p ∈ (D, lst ys) :: nw, p.1 ≠ I := fun p hp => by
    rcases List.mem_cons.mp hp with rfl | hp
    · exact Ne.symm hID
    · exact (off p hp).1
  by_cases hlt : i < n
  · refine W.item i _ _ _ hlt hst' fun v h₂ tk₂ hPv hst₂ hk₂ => ?_
    obtain ⟨t, rfl⟩ := hPv
    have hC₂ : h₂.Ns C fun _ => none := hC'.at' fun o e => hk₂ _ o (by simpa using Ne.symm hIC) e
    obtain ⟨ok0, ek0, dk0⟩ := hK'
    refine wpAny_assign_Name (wpAny_storeName_cell (c := kc) (v₀ := v0) hkind hkx (by show List.lookup x ((x, kc) :: cl) = _; simp) ⟨ok0, hk₂ _ _ (by simpa using Ne.symm hIk) ek0, dk0⟩ fun h₃ hc₃ hs₃ => ?_)
    refine wpAny_tests_nil ?_
    simp only [if_true]
    obtain ⟨oK, eK, dK⟩ := hc₃
    have hst₃ : IsRangeIter h₃ I (0 + ((i + 1 : Nat) : Int) * 1) ((n : Int) - ((i + 1 : Nat) : Int)) 1 := W.frame _ _ _ hst₂ fun b hb o e => hs₃.extBut b o (fun q => hIk (by rw [← List.mem_singleton.mp hb]; exact q)) e
    obtain ⟨oI, heI⟩ : ∃ o, h₃.get? I = some o := ⟨_, hst₃⟩
    obtain ⟨oC, heC, hoC⟩ := ns_obj (hC₂.sameBut hs₃ hCk)
    have F₃ : Fr h₀ L h₃ m := (fr_but F' hk₂ hIL i0).change hs₃ hkL k0
    have N₂ := news_but N' hk₂ offI
    have N₃ : News h₀ L h₃ ((kc, oK) :: (I, oI) :: (C, oC) :: (D, lst ys) :: nw) := fun p hp => by
      rcases List.mem_cons.mp hp with rfl | hp
      · exact ⟨eK, hkL, k0⟩
      rcases List.mem_cons.mp hp with rfl | hp
      · exact ⟨heI, Ne.symm hIL, i0⟩
      rcases List.mem_cons.mp hp with rfl | hp
      · exact ⟨heC, hCL, c0⟩
      have z := N₂ p hp
      refine ⟨hs₃.extBut _ _ ?_ z.1, z.2⟩
      rcases List.mem_cons.mp hp with rfl | hp
      · exact Ne.symm hkD
      · exact (off p hp).2.2.1
    refine wpAny_mono (turn i t I oI C oC kc oK D ys nw h₃ tk₂ _ hlt hJ dK F₃ N₃ off) (fun y s₄ h₄ => ?_) fun _ _ e => e
    obtain ⟨h₄, tk₄, nw₄, rfl, F₄, N₄, off₄, J₄⟩ := h₄
    have zK := (N₄ (kc, oK) (by simp)).1
    have zI := (N₄ (I, oI) (by simp)).1
    have zC := (N₄ (C, oC) (by simp)).1
    have zD := (N₄ (D, lst ys) (by simp)).1
    have hst₄ : IsRangeIter h₄ I (0 + ((i + 1 : Nat) : Int) * 1) ((n : Int) - ((i + 1 : Nat) : Int)) 1 := by
      show h₄.get? I = some _
      rw [zI, ← heI]; exact hst₃
    refine append_at (hsz := by show ys.toArray.size ≤ sizeLine; rw [List.size_toArray, hyl]; exact Nat.le_trans hi hsz) zD fun h₅ hs₅ hD₅ => ?_
    refine ⟨n + 1 - (i + 1), by omega, h₅, tk₄, i + 1, ys ++ [y], nw₄, _, rfl, hlt, rfl, by rw [List.length_append, List.length_singleton, hyl], W.frame _ _ _ hst₄ fun b hb o e => hs₅.extBut b o (fun q => hID (by rw [← List.mem_singleton.mp hb]; exact q)) e, F₄.change hs₅ hDL d0,
      (hoC.ns zC).sameBut hs₅ hCD, ⟨oK, hs₅.extBut _ _ hkD zK, dK⟩, fun p hp => ?_, off₄, J₄⟩
    rcases List.mem_cons.mp hp with rfl | hp
    · exact ⟨hD₅.trans (congrArg some (lst_snoc ys y)), hDL, d0⟩
    · have z := N₄ p (by simp [hp])
      exact ⟨hs₅.extBut _ _ (off₄ p hp).2.2.2 z.1, z.2⟩
  · obtain rfl : i = n := Nat.le_antisymm hi (Nat.not_lt.mp hlt)
    refine W.done _ _ _ hst' fun h₂ tk₂ hk₂ => ?_
    exact hRR h₂ tk₂ _ ys nw hJ (fr_but F' hk₂ hIL i0) (news_but N' hk₂ offI) off (hC'.at' fun o e => hk₂ _ o (by simpa using Ne.symm hIC) e)

theorem block_K {elt iter : Expr} {x a b c e5 : Str} {px : Pos} {scope : Scope} {cl : List (Str × Addr)} {pos : Pos} {r : Addr} {b' : Int} {t u v : Tok} {n : Nat} {news : List (Addr × Obj)} {J : Nat → List Value → List (Addr × Obj) → Prop} {RR : Value → Addr → Result → Shared → Prop} {s₁ : Shared}
    (hsc : scope.names = [(a, .local), (x, .cell), (b, .globalImplicit), (c, .free), (e5, .free)]) (hkind : scope.kind = .function) (hxa : (x == a) = false)
    (hh : A.handled = none) (F : Fr h₀ L s₁.heap m) (N : News h₀ L s₁.heap news) (hr : IsRange s₁.heap r 0 b' 1 t u v) (hsm : Builtin.Range.small 0 b' 1 = true) (hn : Builtin.Range.rangeSize 0 b' 1 = ((n : Nat) : Int)) (hsz : n ≤ sizeLine) (J0 : J 0 [] news)
    (turn : ∀ i t I oI C oC kc oK D ys nw h tk (E' : Value → Shared → Prop), i < n → J i ys nw → oK.data = .cell (some (.int (0 + (i : Int)) t)) → Fr h₀ L h m → News h₀ L h ((kc, oK) :: (I, oI) :: (C, oC) :: (D, lst ys) :: nw) → Off4 I C kc D nw →
      wpAny (model prog w) A (eval elt (compEnvC scope ((x, kc) :: cl) C env)) (fun y s' => ∃ h' tk' nw', s' = { s₁ with heap := h', toks := tk' } ∧ Fr h₀ L h' m ∧ News h₀ L h' ((kc, oK) :: (I, oI) :: (C, oC) :: (D, lst ys) :: nw') ∧ Off4 I C kc D nw' ∧ J (i + 1) (ys ++ [y]) nw') E' { s₁ with heap := h, toks := tk })
    (hRR : ∀ D C h tk m' ys nw, J n ys nw → Fr h₀ L h m → News h₀ L h ((D, lst ys) :: nw) → Off1 D nw → h.Ns C m' → C ≠ L → h₀.get? C = none → (∀ p ∈ (D, lst ys) :: nw, p.1 ≠ C) → RR (.ref D) C (.ok .next) { s₁ with heap := h, toks := tk }) :
    wpAny (model prog w) A (pyIter (.ref r)) (fun it s₂ => wpAny (model prog w) A (newList []) (fun acc s₃ => wpAny (model prog w) A (newFunctionEnv scope env.globals cl [] env.qual none .none (some env)) (fun cenv s₄ =>
      codeAny (model prog w) A (.compStart (.ListComp elt [⟨.Name x px, iter, [], 0⟩] scope pos) 0 it acc { cenv with scope := relabel scope env }) (RR acc cenv.locals) s₄) E s₃) E s₂) E s₁ := by
  have hkx : ∀ C kc, (compEnvC scope ((x, kc) :: cl) C env).kindOf x = some .cell := fun C kc => by
    unfold Env.kindOf compEnvC relabel
    rw [hsc]
    simp [List.lookup_cons, hxa]
  refine wpAny_pyIter_range hr hsm ?_
  refine wpAny_newObj_type ?_
  refine nfe_K hsc ?_
  have hst0 : IsRangeIter (s₁.heap.push { cls := Value.type "range_iterator", data := .fields #[rawInt 0, rawInt (Builtin.Range.rangeSize 0 b' 1), rawInt 1] }) s₁.heap.objs.size (0 + ((0 : Nat) : Int) * 1) ((n : Int) - ((0 : Nat) : Int)) 1 := by
    show IsRangeIter _ _ _ _ _; rw [hn]; simpa using Heap.get?_push_size _ rfl
  have fresh₀ : ∀ a, s₁.heap.objs.size ≤ a → h₀.get? a = none := fun a ha => by
    cases e : h₀.get? a with
    | none => rfl
    | some o' => exact absurd (Heap.lt_size (F.keep a o' e)) (Nat.not_lt.mpr ha)
  have hLlt : L < s₁.heap.objs.size := F.ns.lt
  have newlt : ∀ p ∈ news, p.1 < s₁.heap.objs.size := fun p hp => Heap.lt_size (N p hp).1
  dsimp only [Env.locals]
  simp only [Heap.size_push]
  generalize hI : s₁.heap.objs.size = I at *
  have e1 : (s₁.heap.push { cls := Value.type "range_iterator", data := .fields #[rawInt 0, rawInt (Builtin.Range.rangeSize 0 b' 1), rawInt 1] }).objs.size = I + 1 := by rw [Heap.size_push, hI]
  generalize hA : s₁.heap.push { cls := Value.type "range_iterator", data := .fields #[rawInt 0, rawInt (Builtin.Range.rangeSize 0 b' 1), rawInt 1] } = A1 at *
  have upA : ∀ b o, s₁.heap.get? b = some o → A1.get? b = some o := fun b o e => hA ▸ Heap.get?_push_of_some _ e
  have e2 : (A1.push { cls := Value.type "list", dict := none, data := .seq ([] : List Value).toArray }).objs.size = I + 1 + 1 := by rw [Heap.size_push, e1]
  have gD : (A1.push { cls := Value.type "list", dict := none, data := .seq ([] : List Value).toArray }).get? (I + 1) = some (lst []) := e1 ▸ Heap.get?_push_size _ rfl
  have upB : ∀ b o, A1.get? b = some o → (A1.push { cls := Value.type "list", dict := none, data := .seq ([] : List Value).toArray }).get? b = some o := fun b o e => Heap.get?_push_of_some _ e
  generalize A1.push { cls := Value.type "list", dict := none, data := .seq ([] : List Value).toArray } = B1 at *
  have e3 : (B1.push { cls := Value.type "dict", data := .dict #[] }).objs.size = I + 1 + 1 + 1 := by rw [Heap.size_push, e2]
  have gC : (B1.push { cls := Value.type "dict", data := .dict #[] }).Ns (I + 1 + 1) fun _ => none := e2 ▸ Heap.Ns.new B1 (.type "dict")
  have upC : ∀ b o, B1.get? b = some o → (B1.push { cls := Value.type "dict", data := .dict #[] }).get? b = some o := fun b o e => Heap.get?_push_of_some _ e
  generalize B1.push { cls := Value.type "dict", data := .dict #[] } = C1 at *
  have gK : (C1.push { cls := Value.type "cell", data := .cell none }).get? (I + 1 + 1 + 1) = some { cls := Value.type "cell", data := .cell none } := e3 ▸ Heap.get?_push_size _ rfl
  have upD : ∀ b o, C1.get? b = some o → (C1.push { cls := Value.type "cell", data := .cell none }).get? b = some o := fun b o e => Heap.get?_push_of_some _ e
  generalize C1.push { cls := Value.type "cell", data := .cell none } = D1 at *
  have up : ∀ b o, s₁.heap.get? b = some o → D1.get? b = some o := fun b o e => upD _ _ (upC _ _ (upB _ _ (upA _ _ e)))
  have hLn : @LT.lt Nat _ L I := hLlt
  have ne1 : ∀ {a b : Addr}, @LT.lt Nat _ a b → a ≠ b := fun h => Nat.ne_of_lt h
  have hst1 : IsRangeIter D1 I (0 + ((0 : Nat) : Int) * 1) ((n : Int) - ((0 : Nat) : Int)) 1 := upD _ _ (upC _ _ (upB _ _ hst0))
  have loop : ∀ s₃ : Shared, s₃ = { s₁ with heap := D1 } → codeAny (model prog w) A (.compLoop (.ListComp elt [⟨.Name x px, iter, [], 0⟩] scope pos) 0 (.ref I) (.ref (I + 1)) (compEnvC scope ((x, I + 1 + 1 + 1) :: cl) (I + 1 + 1) env)) (RR (.ref (I + 1)) (I + 1 + 1)) s₃ := by
    rintro s₃ rfl
    refine loop_K (n := n) (news := news) (J := J) hh hsz hkind (hkx _ _) hst1 (F.keeps up) (fun p hp => ?_) (gC.at' fun o e => upD _ _ e) ⟨_, gK, rfl⟩
      (ne1 (by omega)) (ne1 (by omega)) (ne1 (by omega)) (ne1 (by omega)) (ne1 (by omega)).symm (ne1 (by omega)).symm (ne1 hLn) (ne1 (by omega)).symm (ne1 (by omega)).symm (ne1 (by omega)).symm
      (fresh₀ _ (Nat.le_refl _)) (fresh₀ _ (Nat.le_add_right _ 2)) (fresh₀ _ (Nat.le_add_right _ 3)) (fresh₀ _ (Nat.le_add_right _ 1)) (fun p hp => ?_) J0 turn ?_
    · rcases List.mem_cons.mp hp with rfl | hp
      · exact ⟨upD _ _ (upC _ _ gD), (ne1 (by omega)).symm, fresh₀ _ (Nat.le_add_right _ 1)⟩
      · exact ⟨up _ _ (N p hp).1, (N p hp).2⟩
    · have := newlt p hp
      have h1 : @LT.lt Nat _ p.1 I := this
      exact ⟨ne1 h1, ne1 (by omega), ne1 (by omega), ne1 (by omega)⟩
    · intro h tk m' ys nw hJ F' N' o4 hC'
      refine hRR (I + 1) (I + 1 + 1) h tk m' ys nw hJ F' N' (off1_of fun p hp => (o4 p hp).2.2.2) hC' (ne1 (by omega)).symm (fresh₀ _ (Nat.le_add_right _ 2)) (fun p hp => ?_)
      rcases List.mem_cons.mp hp with rfl | hp
      · exact ne1 (Nat.lt_succ_self _)
      · exact (o4 p hp).2.1
  have W := range_walks (prog := prog) (w := w) (I := I) hh 0 n
  exact codeAny_compStart_list (loop _ rfl) (W.self 0 _ _ _ hst1 (loop _ rfl))

theorem names_K {a x b c e5 : Str} {scope : Scope} (hsc : scope.names = [(a, .local), (x, .cell), (b, .globalImplicit), (c, .free), (e5, .free)]) : ∀ y ∈ scope.names, y.2 = .local → scope.names.lookup y.1 = some .local := by
  rw [hsc]
  intro y hy hl
  simp only [List.mem_cons, List.not_mem_nil, or_false] at hy
  rcases hy with rfl | rfl | rfl | rfl | rfl
  · simp
  · cases hl
  · cases hl
  · cases hl
  · cases hl

theorem Assign_ListComp_K {elt iter : Expr} {x y a b c e5 : Str} {px py : Pos} {scope : Scope} {cl : List (Str × Addr)} {pos spos : Pos} {Q : Flow → Shared → Prop} (_F₀ : Fr h₀ L s.heap m) (hLe : env.locals = L)
    (hsw : swapsWith (.ListComp elt [⟨.Name x px, iter, [], 0⟩] scope pos) (some (.Name y py)) spos.line env = pure true)
    (hclos : closureFor scope env = pure cl) (hsc : scope.names = [(a, .local), (x, .cell), (b, .globalImplicit), (c, .free), (e5, .free)]) (hkind : scope.kind = .function) (hxa : (x == a) = false)
    (hy : env.kindOf y = some .local) (hp : (env.scope.kind == .class || (env.scope.kind == .module && env.locals != env.globals)) = false)
    (h : wpAny (model prog w) A (eval iter env) (SrcKA prog w A h₀ L m env elt x scope cl y Q) E s)
    (hs : ∀ x, foldedSetIterable iter env x = pure x := by intro _; rfl) :
    wpAny (model prog w) A (exec (.Assign [.Name y py] (.ListComp elt [⟨.Name x px, iter, [], 0⟩] scope pos) spos) env) Q E s := by
  subst hLe
  rw [exec_Assign_Name_used _ _ _ _ hsw]
  refine wpAny_bind (wpAny_standAt (wpAny_bind ?_))
  show wpAny _ A (do let _ ← comprehension (.ListComp elt [⟨.Name x px, iter, [], 0⟩] scope pos) scope env _ (newList []) false (eval iter env) (some (assign (.Name y py) env))) _ _ s
  refine wpAny_bind (wpAny_mono (wpAny_comprehension_free (use := some (assign (.Name y py) env)) (Q := fun _ s' => Q .next s') rfl hs hclos hkind (names_K hsc)
    (wpAny_mono h (fun xv s₁ h₁ => ?_) fun _ _ e => e)) (fun _ s' hq => wpAny_pure (wpAny_pure hq)) fun _ _ e => e)
  obtain ⟨r, b', t, u, v, n, news, J, rfl, hh, F, N, hr, hsm, hn, hsz, J0, turn, fin⟩ := h₁
  refine block_K (RR := compPost (model prog w) A E (some (assign (.Name y py) env)) (fun _ s' => Q .next s')) hsc hkind hxa hh F N hr hsm hn hsz J0 turn fun D C h tk m' ys nw hJ F' N' o1 hC' hCL c0 offC => ?_
  show wpAny _ A (assign (.Name y py) env (.ref D)) _ _ _
  refine wpAny_assign_Name (wpAny_storeName_local hy F'.ns (fun h₂ hn₂ hs₂ => ?_) hp)
  have hL₀ : h₀.get? env.locals = none := Heap.get?_none_of_le F'.above
  have F₂ : Fr h₀ env.locals h₂ (fun z => if z = y then some (.ref D) else m z) := ⟨hn₂, fun b o e => hs₂.extBut b o (fun q => by rw [q, hL₀] at e; cases e) (F'.keep b o e), F'.above⟩
  refine ⟨m', hC'.sameBut hs₂ hCL, fun h'' hs'' => fin ys nw D h'' _ hJ (F₂.change hs'' hCL c0) (fun p hp => ?_) o1⟩
  have z : h₂.get? p.1 = some p.2 := hs₂.extBut _ _ (N' p hp).2.1 (N' p hp).1
  exact ⟨hs''.extBut _ _ (offC p hp) z, (N' p hp).2⟩
end
end MineN
namespace MineN
theorem rstV9 : True := by
  w_top off
  trivial
open Mine
theorem fillV9 : PySem.Challenge.rw_fc0145_01.Holds → (∀ w : World, (hd.heap_39 w.params).In default) → True := by
  k_fill
  intros
  trivial
local macro_rules | `(tactic| k_steps) => `(tactic| repeat' (first | (k_unfold; (try dsimp only)) | walk1 | (dsimp only; walk1) | fail "no step"))
local macro_rules | `(tactic| walk_at "exec Assign cons ListComp") => `(tactic| (refine stopN ?_))
local macro_rules | `(tactic| walk_at "eval ListComp") => `(tactic| (refine stopN ?_))
local macro_rules | `(tactic| walk_at "CompSrcT") => `(tactic| (refine stopN ?_))
local macro_rules | `(tactic| walk_at "subscriptTail") => `(tactic| (k_here; (with_reducible show wpAny _ _ (subscriptTail _ _ (Value.ref _) (Value.int _ _)) _ _ _); (with_unfolding_all refine' item_litK ?k1 ?k2 ?k3 ?k4 ?_ ?k6; (case k1 => exact News.isList (by k_asm) (by assumption)); (case k2 => omega); (case k3 => omega); (case k4 => assumption); (case k6 => with_unfolding_all rfl); k_whole)))
local macro_rules | `(tactic| k_mem) => `(tactic| assumption)
local macro_rules | `(tactic| k_get) => `(tactic| assumption)
section
variable {prog : Program} {w : World} {A : Around} {s : Shared} {h₀ : Heap} {L : Addr} {m : Str → Option Value} {env : Env}
open LCg LCt
theorem comp_invT {ct elt : Expr} {x : Str} {scope : Scope} {cl : List (Str × Addr)} {S : List (Addr × Obj) → Prop} {P : Nat → Value → Prop} {Fin : List Value → List (Addr × Obj) → Prop} {news : List (Addr × Obj)} {n : Nat}
    (J : Nat → List Value → List (Addr × Obj) → Prop) (j0 : J 0 [] news)
    (turn : ∀ i v I oI C oC D m₂ ys nw h tk (E' : Value → Shared → Prop), i < n → P i v → J i ys nw → NsObj oC m₂ → m₂ x = some v → Fr h₀ L h m → News h₀ L h ((I, oI) :: (C, oC) :: (D, lst ys) :: nw) → Off3 I C D nw → ((@Ne Nat I C) ∧ (@Ne Nat I D) ∧ (@Ne Nat C D)) →
      wpAny (model prog w) A (isTrue ct (compEnvC scope cl C env) (eval ct (compEnvC scope cl C env))) (fun ok s' => if ok = true then
        wpAny (model prog w) A (eval elt (compEnvC scope cl C env)) (CompEnd h₀ L m { s with heap := h, toks := tk } I oI C oC D (lst ys) S (fun y nw' => J (i + 1) (ys ++ [y]) nw')) E' s'
        else CompEnd h₀ L m { s with heap := h, toks := tk } I oI C oC D (lst ys) S (fun _ nw' => J (i + 1) ys nw') Value.none s') E' { s with heap := h, toks := tk })
    (fin : ∀ ys nw, J n ys nw → Fin ys nw) : CompRestT prog w A h₀ L m env ct elt x scope cl s S P Fin n 0 [] news := by
  have key : ∀ (j i : Nat) (ys : List Value) (nw : List (Addr × Obj)), i + j = n → J i ys nw → CompRestT prog w A h₀ L m env ct elt x scope cl s S P Fin j i ys nw := by
    intro j
    induction j with
    | zero =>
      intro i ys nw hi hy
      have e : i = n := by omega
      subst e
      exact CompRestT.zero (fin ys nw hy)
    | succ j ih =>
      intro i ys nw hi hy
      refine CompRestT.succ ?_
      intro v I oI C oC D m₂ h tk E' hv hC hx F N off ne
      refine wpAny_mono (turn i v I oI C oC D m₂ ys nw h tk E' (by omega) hv hy hC hx F N off ne) (fun ok s₂ hq => ?_) fun _ _ e => e
      cases ok with
      | true =>
        simp only [if_true] at hq ⊢
        refine wpAny_mono hq (fun y s₃ hq => ?_) fun _ _ e => e
        obtain ⟨h', tk', nw', e, F', N', off', hS, hn⟩ := hq
        exact ⟨h', tk', nw', e, F', N', off', hS, ih (i + 1) _ _ (by omega) hn⟩
      | false =>
        simp only [Bool.false_eq_true, if_false] at hq ⊢
        obtain ⟨h', tk', nw', e, F', N', off', hS, hn⟩ := hq
        exact ⟨h', tk', nw', e, F', N', off', hS, ih (i + 1) _ _ (by omega) hn⟩
  exact key n 0 [] news (by omega) j0
end
section
variable {w : World} {base : Heap} {L fa : Addr} {cd : Value} {m mg mb : Str → Option Value} {mean : ExcName → Option Value}
  {s : Shared} {Q : Flow → Shared → Prop} {E : Value → Shared → Prop} {k : LK} {tl : List (Addr × Obj)}
theorem off1_all {D : Addr} {l : List (Addr × Obj)} (h : LCg.Off1 D l) : ∀ p ∈ l, p.1 ≠ D := by
  induction l with
  | nil => intro p hp; cases hp
  | cons a r ih =>
    intro p hp
    rcases List.mem_cons.mp hp with e | hp
    · rw [e]; exact h.1
    · exact ih h.2 p hp
/-- statement 9's word -/
def J9 (k : LK) (L : Addr) (tl : List (Addr × Obj)) (i : Nat) (ys : List Value) (nw : List (Addr × Obj)) : Prop :=
  ∃ (es : List (Addr × Obj)) (ds : List Addr), nw = es ++ (k.fx L ++ tl) ∧ ys = ds.map Value.ref ∧ ds.length = i ∧ ∀ j d, ds[j]? = some d → ∃ q, (d, listOf ((pick k.rs j k.rs.length).map Value.ref).toArray q) ∈ es
theorem seg9 (B : Below callerA base [] base) (F : Fr base L s.heap m) (X : (hd.heap_39 w.params).In base) (T : Top VW LO mean mg mb base) (K : k.Ok) (hm : k.Kn m) (N : News base L s.heap (k.fx L ++ tl))
    (hQ : ∀ h' tk m' dl d0 d1 q q0 q1, Fr base L h' m' → k.Kn m' → m' (Str.ofString "due") = some (.ref dl) →
      News base L h' ([(dl, listOf #[.ref d0, .ref d1] q), (d0, listOf ((pick k.rs 0 k.rs.length).map Value.ref).toArray q0), (d1, listOf ((pick k.rs 1 k.rs.length).map Value.ref).toArray q1)] ++ (k.fx L ++ tl)) → Q .next { s with heap := h', toks := tk }) :
    wpAny (model PR w) (callerA.deeper (lawEnv L fa cd)) (exec (st 9) (lawEnv L fa cd)) Q E s := by
  conv => pattern (st 9); whnf
  unfold lawEnv
  conv => pattern (occs := *) lawScope; all_goals whnf
  have hcn := K.hcn
  rw [← kn_eq [(Str.ofString "whole", .ref k.wh), (Str.ofString "halves", .ref k.ll), (Str.ofString "piles", .ref k.pl)] (allC (P := fun p => m p.1 = some p.2) hm.whole (allC (P := fun p => m p.1 = some p.2) hm.halves (all1 (P := fun p => m p.1 = some p.2) hm.piles)))] at F
  dsimp only [kn] at F
  refine Assign_ListComp_K F rfl (by with_unfolding_all rfl) (by with_unfolding_all rfl) rfl rfl (by decide +kernel) rfl rfl ?_
  k_steps
  rename_i hR F4 N4 _
  refine ⟨_, 2, _, _, _, 2, _, J9 k L tl, rfl, rfl, F4, N4, hR, by decide, by decide, by rw [PySem.sizeLine_eq]; omega, ?_, ?_, ?_⟩
  · exact ⟨[], [], rfl, rfl, rfl, fun j d h => by simp at h⟩
  · rintro i t I oI C oC kc oK D ys nw h tk E' hi ⟨es, ds, rfl, rfl, hl, hds⟩ dK F N off4
    have g2 := K.d2
    have g5 := K.d5
    have m2 : (L + 1 + 1, k.o2) ∈ (kc, oK) :: (I, oI) :: (C, oC) :: (D, LCg.lst (ds.map Value.ref)) :: (es ++ (k.fx L ++ tl)) := .tail _ (.tail _ (.tail _ (.tail _ (List.mem_append_right _ LK.m_o2))))
    k_steps
    refine ⟨?_⟩
    refine LCt.ListComp_T (F₀ := by k_asm) (by with_unfolding_all rfl) (by decide) (by rfl) (by decide) (by rfl) ?_
    k_steps
    refine ⟨?_⟩
    rename_i hR2 F5 N5 _
    have hrl := K.hrs
    have hr9 : k.rs.length ≤ 9 := by omega
    refine LCt.CompSrcT.range (n := (k.cn - 0).toNat) rfl F5 N5 hR2 (small_one (by omega) (by omega) (by omega) (by omega)) (rangeSize_nat _ _) (by rw [PySem.sizeLine_eq]; omega) fun g => ?_
    refine comp_invT (fun j zs nw => nw = (kc, oK) :: (I, oI) :: (C, oC) :: (D, LCg.lst (ds.map Value.ref)) :: (es ++ (k.fx L ++ tl)) ∧ zs = (pick k.rs i j).map Value.ref) ⟨rfl, rfl⟩ ?_ ?_
    · rintro j v I2 oI2 C2 oC2 D2 m₂ zs nw h2 tk2 E2 hj ⟨t9, rfl⟩ ⟨rfl, rfl⟩ hC2 hx2 F2 N2 off2 ne2
      have hz : (0 : Int) + (j : Int) = (j : Int) := Int.zero_add _
      rw [hz] at hx2
      have hjl : j < k.rs.length := by omega
      have hjr : (k.rs.map Value.ref)[((j : Int)).toNat]? = some (.ref k.rs[j]) := by
        rw [Int.toNat_natCast, List.getElem?_map, List.getElem?_eq_getElem hjl]; rfl
      have hgd : k.rs.getD j 0 = k.rs[j] := by rw [List.getD_eq_getElem?_getD, List.getElem?_eq_getElem hjl]; rfl
      have hj0 : (0 : Int) ≤ (j : Int) := Int.natCast_nonneg _
      have hjc : (j : Int) < k.cn := by omega
      have hmod : (j : Int).fmod 2 = ((j % 2 : Nat) : Int) := by rw [Int.fmod_eq_emod_of_nonneg _ (by decide)]; rfl
      have m5 : (L + 1 + 1 + 1 + 1 + 1, k.o5) ∈ (I2, oI2) :: (C2, oC2) :: (D2, LCg.lst ((pick k.rs i j).map Value.ref)) :: (kc, oK) :: (I, oI) :: (C, oC) :: (D, LCg.lst (ds.map Value.ref)) :: (es ++ (k.fx L ++ tl)) := by
        repeat (first | exact List.mem_append_right _ LK.m_o5 | refine List.Mem.tail _ ?_)
      have mr : (k.rl, listOf (k.rs.map Value.ref).toArray k.rk) ∈ (I2, oI2) :: (C2, oC2) :: (D2, LCg.lst ((pick k.rs i j).map Value.ref)) :: (kc, oK) :: (I, oI) :: (C, oC) :: (D, LCg.lst (ds.map Value.ref)) :: (es ++ (k.fx L ++ tl)) := by
        repeat (first | exact List.mem_append_right _ LK.m_rl | refine List.Mem.tail _ ?_)
      generalize k.rs[j] = rj at hjr hgd
      k_steps
      · rename_i he
        refine LCg.CompEnd.intro F2 N2 _ (fun q hq => hq) off2 trivial ⟨rfl, ?_⟩
        rw [pick_succ, if_pos (by omega), hgd, List.map_append]; rfl
      · rename_i he
        refine LCg.CompEnd.intro F2 N2 _ (fun q hq => hq) off2 trivial ⟨rfl, ?_⟩
        rw [pick_succ, if_neg (by omega), List.append_nil]
    · rintro zs nw ⟨rfl, rfl⟩ D2 h2 tk2 F2 N2 off2
      have o2 := off1_all off2
      have hnn : (k.cn - 0).toNat = k.rs.length := by omega
      rw [hnn] at N2
      refine ⟨_, _, (D2, LCg.lst ((pick k.rs i k.rs.length).map Value.ref)) :: (es ++ (k.fx L ++ tl)), rfl, F2, news_sub N2 fun q hq => ?_, fun q hq => ?_, (D2, LCg.lst ((pick k.rs i k.rs.length).map Value.ref)) :: es, ds ++ [D2], rfl, ?_, ?_, fun j d hj => ?_⟩
      · simp only [List.mem_cons] at hq ⊢; grind
      · rcases List.mem_cons.mp hq with rfl | hq
        · exact ⟨Ne.symm (o2 (I, oI) (by simp)), Ne.symm (o2 (C, oC) (by simp)), Ne.symm (o2 (kc, oK) (by simp)), Ne.symm (o2 (D, LCg.lst (ds.map Value.ref)) (by simp))⟩
        · exact off4 q hq
      · rw [List.map_append]; rfl
      · rw [List.length_append, hl]; rfl
      · by_cases hjl : j < ds.length
        · rw [List.getElem?_append_left hjl] at hj
          obtain ⟨q, hq⟩ := hds j d hj
          exact ⟨q, .tail _ hq⟩
        · have hj2 : j = ds.length := by
            have := (List.getElem?_eq_some_iff.mp hj).1
            rw [List.length_append, List.length_singleton] at this
            omega
          subst hj2
          rw [List.getElem?_append_right (Nat.le_refl _), Nat.sub_self] at hj
          cases hj
          rw [hl]
          exact ⟨_, .head _⟩
  · rintro ys nw D h tk ⟨es, ds, rfl, rfl, hl, hds⟩ F' N' off
    obtain ⟨d0, d1, rfl⟩ : ∃ d0 d1, ds = [d0, d1] := by
      match ds, hl with
      | [a, b], _ => exact ⟨a, b, rfl⟩
    obtain ⟨q0, h0⟩ := hds 0 d0 rfl
    obtain ⟨q1, h1⟩ := hds 1 d1 rfl
    refine hQ _ _ _ D d0 d1 2 q0 q1 F' ⟨rfl, rfl, rfl⟩ rfl (news_sub N' fun p hp => ?_)
    simp only [List.mem_cons, List.mem_append, List.not_mem_nil, or_false] at hp ⊢
    rcases hp with (rfl | rfl | rfl) | hp
    · exact .inl rfl
    · exact .inr (.inl h0)
    · exact .inr (.inl h1)
    · exact .inr (.inr hp)
end
end MineN
namespace MineN
open Mine
/-- the key of a row, by its address -/
def LK.kr (k : LK) (a : Addr) : Int := match (List.range k.rs.length).find? fun j => k.rs[j]? == some a with
  | some j => keyF k.cs k.bb j
  | none => 0
theorem keyF_bound {cs : List Int} {bb : Int} {j : Nat} (h : 3 ≤ bb ∧ bb ≤ 4) : 0 ≤ keyF cs bb j ∧ keyF cs bb j < bb ^ 3 ∧ keyF cs bb j ≤ 63 := by
  have hp := pow3 h
  have hp' : 27 ≤ bb ^ 3 ∧ bb ^ 3 ≤ 64 := hp
  have a0 : 0 ≤ ((cs.getD 0 0).fdiv 18).fmod 3 := Int.fmod_nonneg_of_pos _ (by decide)
  have b0 : 0 ≤ (cs.getD (1 + j) 0).fmod (bb ^ 3) := Int.fmod_nonneg_of_pos _ (by omega)
  have b1 : (cs.getD (1 + j) 0).fmod (bb ^ 3) < bb ^ 3 := Int.fmod_lt_of_pos _ (by omega)
  unfold keyF
  generalize (cs.getD (1 + j) 0).fmod (bb ^ 3) = x at b0 b1
  generalize hd : 1 + ((cs.getD 0 0).fdiv 18).fmod 3 = d
  have hd1 : 1 ≤ d := by omega
  rw [Int.fdiv_eq_ediv_of_nonneg _ (by omega)]
  have c0 : 0 ≤ x / d := Int.ediv_nonneg b0 (by omega)
  have c1 : x / d ≤ x := Int.ediv_le_self d b0
  omega
section
variable {w : World} {base h : Heap} {L fa : Addr} {cd : Value} {m mg mb : Str → Option Value} {mean : ExcName → Option Value}
  {s : Shared} {E : Value → Shared → Prop} {k : LK} {tl X : List (Addr × Obj)}
theorem kr_eq (K : k.Ok) (N : News base L h (k.fx L ++ X)) {j : Nat} {a : Addr} (hj : k.rs[j]? = some a) : k.kr a = keyF k.cs k.bb j := by
  unfold LK.kr
  have hjl : j < k.rs.length := (List.getElem?_eq_some_iff.mp hj).1
  cases e : (List.range k.rs.length).find? fun j => k.rs[j]? == some a with
  | none =>
    have := List.find?_eq_none.mp e j (List.mem_range.mpr hjl)
    rw [hj] at this
    exact absurd (beq_self_eq_true _) this
  | some j' =>
    have h1 : k.rs[j']? = some a := by
      have := List.find?_some e
      exact eq_of_beq this
    obtain ⟨t, u, m1⟩ := K.row (L := L) (l := X) hj
    obtain ⟨t', u', m2⟩ := K.row (L := L) (l := X) h1
    have e1 := (N _ m1).1
    have e2 := (N _ m2).1
    dsimp only at e1 e2
    rw [e1] at e2
    have e3 := congrArg Obj.data (Option.some.inj e2)
    simp only [Data.seq.injEq] at e3
    have e4 := (List.cons.inj (congrArg Array.toList e3.1)).1
    injection e4 with e5 _
    exact e5.symm
theorem row_tup (K : k.Ok) (N : News base L h (k.fx L ++ X)) {a : Addr} (ha : a ∈ k.rs) : 0 ≤ k.kr a ∧ k.kr a ≤ 63 ∧ k.kr a < k.bb ^ 3 ∧ ∃ i t u, (a, tupObj [.int (k.kr a) t, .int i u]) ∈ k.fx L := by
  obtain ⟨j, hj⟩ := List.mem_iff_getElem?.mp ha
  obtain ⟨t, u, hm⟩ := K.row (L := L) (l := []) hj
  rw [List.append_nil] at hm
  have b := keyF_bound (cs := k.cs) (j := j) K.hbb
  rw [← kr_eq K N hj] at b hm
  exact ⟨b.1, b.2.2, b.2.1, _, t, u, hm⟩
theorem rows_dat {news : List (Addr × Obj)} : ∀ {rs : List Addr}, (∀ r ∈ rs, ∃ x t i u, (r, tupObj [.int x t, .int i u]) ∈ news) → ∃ ds, DatAll news (rs.map Value.ref) ds ∧ ∀ d ∈ ds, kqdOk 8 d = true
  | [], _ => ⟨[], .nil, fun _ h => by cases h⟩
  | r :: rs, h => by
    obtain ⟨ds, h1, h2⟩ := rows_dat (rs := rs) fun r hr => h r (.tail _ hr)
    obtain ⟨x, t, i, u, hm⟩ := h r (.head _)
    refine ⟨.tuple [.int x, .int i] :: ds, .cons (.tuple hm (.cons (.int x t) (.cons (.int i u) .nil))) h1, fun d hd => ?_⟩
    rcases List.mem_cons.mp hd with rfl | hd
    · rfl
    · exact h2 d hd
theorem rows_ne {prog : Program} {A : Around} {h₀ : Heap} {news : List (Addr × Obj)} {a b : Addr} {ka kb : Nat} {rs : List Addr} {Q : Value → Shared → Prop} (N : News h₀ L s.heap news) (ma : (a, listOf (rs.map Value.ref).toArray ka) ∈ news) (mb : (b, listOf (rs.map Value.ref).toArray kb) ∈ news)
    (hrs : ∀ r ∈ rs, ∃ x t i u, (r, tupObj [.int x t, .int i u]) ∈ news) (hu : A.units + 64 < cLine) (h : Q (.bool false) s) : wpAny (model prog w) A (compareOp .NotEq (.ref a) (.ref b)) Q E s := by
  obtain ⟨ds, h1, h2⟩ := rows_dat hrs
  refine kqd_ne N ma rfl rfl h1 (fun _ h => h) mb rfl rfl h1 (fun _ h => h) h2 h2 hu ?_
  simpa using h
theorem rows_eq {prog : Program} {A : Around} {h₀ : Heap} {news : List (Addr × Obj)} {a b : Addr} {ka kb : Nat} {rs : List Addr} {Q : Value → Shared → Prop} (N : News h₀ L s.heap news) (ma : (a, listOf (rs.map Value.ref).toArray ka) ∈ news) (mb : (b, listOf (rs.map Value.ref).toArray kb) ∈ news)
    (hrs : ∀ r ∈ rs, ∃ x t i u, (r, tupObj [.int x t, .int i u]) ∈ news) (hu : A.units + 64 < cLine) (h : Q (.bool true) s) : wpAny (model prog w) A (compareOp .Eq (.ref a) (.ref b)) Q E s := by
  obtain ⟨ds, h1, h2⟩ := rows_dat hrs
  refine kqd_eq N ma rfl rfl h1 (fun _ h => h) mb rfl rfl h1 (fun _ h => h) h2 h2 hu ?_
  simpa using h
end
end MineN
namespace MineN
theorem rstV11 : True := by
  w_top off
  trivial
open Mine
theorem fillV11 : PySem.Challenge.rw_fc0145_01.Holds → (∀ w : World, (hd.heap_39 w.params).In default) → True := by
  k_fill
  intros
  trivial
local macro_rules | `(tactic| k_steps) => `(tactic| repeat' (first | (k_unfold; (try dsimp only)) | walk1 | (dsimp only; walk1) | fail "no step"))
local macro_rules | `(tactic| walk_at "call ref") => `(tactic| (refine stopN ?_))
local macro_rules | `(tactic| walk_at "pyIter ref") => `(tactic| (refine stopN ?_))
local macro_rules | `(tactic| walk_at "exec For") => `(tactic| (refine stopN ?_))
local macro_rules | `(tactic| walk_at "exec For Name Call cons nil") => `(tactic| (refine stopN ?_))
local macro_rules | `(tactic| walk_at "eval ListComp") => `(tactic| (refine stopN ?_))
local macro_rules | `(tactic| walk_at "CompSrc") => `(tactic| (refine stopN ?_))
local macro_rules | `(tactic| walk_at "compareOp NotEq ref ref") => `(tactic| (refine stopN ?_))
local macro_rules | `(tactic| walk_at "call builtin:all") => `(tactic| (refine stopN ?_))
local macro_rules | `(tactic| walk_at "subscriptTail") => `(tactic| (k_here; (with_reducible show wpAny _ _ (subscriptTail _ _ (Value.ref _) (Value.int _ _)) _ _ _); (with_unfolding_all refine' item_litK ?k1 ?k2 ?k3 ?k4 ?_ ?k6; (case k1 => exact News.isList (by k_asm) (by assumption)); (case k2 => omega); (case k3 => omega); (case k4 => assumption); (case k6 => with_unfolding_all rfl); k_whole)))
local macro_rules | `(tactic| k_mem) => `(tactic| assumption)
local macro_rules | `(tactic| k_get) => `(tactic| assumption)
theorem pick_le {l : List Addr} {r n : Nat} : (pick l r n).length ≤ n := by
  unfold pick
  rw [List.length_map]
  exact Nat.le_trans (List.length_filter_le _ _) (Nat.le_of_eq (List.length_range ..))
theorem pick_mem {l : List Addr} {r : Nat} {x : Addr} (h : x ∈ pick l r l.length) : x ∈ l := by
  unfold pick at h
  obtain ⟨j, hj, rfl⟩ := List.mem_map.mp h
  have hjl := List.mem_range.mp (List.mem_filter.mp hj).1
  rw [List.getD_eq_getElem?_getD, List.getElem?_eq_getElem hjl]
  exact List.getElem_mem hjl
theorem bools_rep : ∀ {n : Nat}, LSm.BoolsAre (List.replicate n (.bool true)) (List.replicate n true)
  | 0 => .nil
  | n + 1 => by rw [List.replicate_succ, List.replicate_succ]; exact .cons _ bools_rep
theorem all_rep {n : Nat} : (List.replicate n true).all id = true := by simp
/-- the lists due -/
structure DU where
  (dl d0 d1 : Addr) (q q0 q1 : Nat)
def DU.l (u : DU) (k : LK) : List (Addr × Obj) := [(u.dl, listOf #[.ref u.d0, .ref u.d1] u.q), (u.d0, listOf ((pick k.rs 0 k.rs.length).map Value.ref).toArray u.q0), (u.d1, listOf ((pick k.rs 1 k.rs.length).map Value.ref).toArray u.q1)]
def FX (u : DU) (k : LK) (L : Addr) : List (Addr × Obj) := u.l k ++ k.fx L
theorem FX.nd {u : DU} {k : LK} (K : k.Ok) {L : Addr} : ∀ p ∈ FX u k L, isND p.2 = false := fun p hp => by
  rcases List.mem_append.mp hp with hp | hp
  · unfold DU.l at hp
    simp only [List.mem_cons, List.not_mem_nil, or_false] at hp
    rcases hp with rfl | rfl | rfl <;> rfl
  · exact K.nd p hp
theorem FX.of {u : DU} {k : LK} {L : Addr} {p : Addr × Obj} (h : p ∈ k.fx L) : p ∈ FX u k L := List.mem_append_right _ h
theorem FX.ll {u : DU} {k : LK} {L : Addr} : (k.ll, listOf #[.ref k.g0, .ref k.g1] 0) ∈ FX u k L := FX.of (by have := LK.m_ll (k := k) (L := L) (l := []); rwa [List.append_nil] at this)
theorem FX.pl {u : DU} {k : LK} {L : Addr} : (k.pl, listOf (k.ps.map Value.ref).toArray k.pk) ∈ FX u k L := FX.of (by have := LK.m_pl (k := k) (L := L) (l := []); rwa [List.append_nil] at this)
theorem FX.o2 {u : DU} {k : LK} {L : Addr} : (L + 1 + 1, k.o2) ∈ FX u k L := FX.of (by have := LK.m_o2 (k := k) (L := L) (l := []); rwa [List.append_nil] at this)
theorem FX.o3 {u : DU} {k : LK} {L : Addr} : (L + 1 + 1 + 1, k.o3) ∈ FX u k L := FX.of (by have := LK.m_o3 (k := k) (L := L) (l := []); rwa [List.append_nil] at this)
theorem FX.dl {u : DU} {k : LK} {L : Addr} : (u.dl, listOf #[.ref u.d0, .ref u.d1] u.q) ∈ FX u k L := List.mem_append_left _ (by unfold DU.l; simp)
theorem FX.d0 {u : DU} {k : LK} {L : Addr} : (u.d0, listOf ((pick k.rs 0 k.rs.length).map Value.ref).toArray u.q0) ∈ FX u k L := List.mem_append_left _ (by unfold DU.l; simp)
theorem FX.d1 {u : DU} {k : LK} {L : Addr} : (u.d1, listOf ((pick k.rs 1 k.rs.length).map Value.ref).toArray u.q1) ∈ FX u k L := List.mem_append_left _ (by unfold DU.l; simp)
/-- a half, sorted -/
def half (k : LK) (c : NC) (xs : List Addr) (r : Nat) : List Addr := passes (fun y => k.kr (c.ta y)) k.bb k.ps.length (pick xs r xs.length) 3
structure H10 (k : LK) (c : NC) (xs : List Addr) (f : Addr → List Addr) (i : Nat) : Prop where
  wh : f k.wh = []
  h0 : f k.g0 = if 0 < i then half k c xs 0 else pick xs 0 xs.length
  h1 : f k.g1 = if 1 < i then half k c xs 1 else pick xs 1 xs.length
  hp : ∀ q ∈ k.ps, f q = []
def J10 (u : DU) (k : LK) (c : NC) (xs : List Addr) (L : Addr) (i : Nat) (m : Str → Option Value) (nw : List (Addr × Obj)) : Prop :=
  ∃ tl nx pv f, nw = FX u k L ++ tl ∧ c.St xs [] tl nx pv f ∧ H10 k c xs f i ∧ k.Kn m ∧ m (Str.ofString "due") = some (.ref u.dl)
section
variable {w : World} {base : Heap} {L fa : Addr} {cd : Value} {m mg mb : Str → Option Value} {mean : ExcName → Option Value}
  {s : Shared} {Q : Flow → Shared → Prop} {E : Value → Shared → Prop} {k : LK} {u : DU} {nw0 : List (Addr × Obj)} {c : NC} {xs : List Addr}
theorem seg10 (B : Below callerA base [] base) (F : Fr base L s.heap m) (X : (hd.heap_39 w.params).In base) (T : Top VW LO mean mg mb base) (K : k.Ok) (C : NK k c xs) (hmath : ∀ i < 2, (half k c xs i).map c.ta = insL k.kr (pick k.rs i k.rs.length)) (N : News base L s.heap nw0) (J : J10 u k c xs L 0 m nw0)
    (hE : PassesOwn (model PR w) (callerA.deeper (lawEnv L fa cd)) (lawEnv L fa cd) E)
    (hQ : ∀ h' tk gens m' nw, Fr base L h' m' → News base L h' nw → J10 u k c xs L 2 m' nw → (AllBare s.gens → AllBare gens) → Q .next { s with heap := h', toks := tk, gens := gens }) :
    wpAny (model PR w) (callerA.deeper (lawEnv L fa cd)) (exec (st 10) (lawEnv L fa cd)) Q E s := by
  conv => pattern (st 10); whnf
  unfold lawEnv
  conv => pattern (occs := *) lawScope; all_goals whnf
  have hcn := K.hcn
  have hbb := K.hbb
  refine wpAny_For ?_ (by intro _; rfl)
  k_steps
  refine ⟨?_⟩
  rename_i hR F2 N2 _
  refine rangeG (n := 2) (J10 u k c xs L) rfl hR (by decide) (by decide) F2 N2 J rfl rfl hE ?_ ?_
  · rintro i t m1 nw h3 tk3 gens3 own hi ⟨tl, nx, pv, f, rfl, Z, H, hm, hdu⟩ hoff hbr F3 N3
    have hlen : xs.length = k.rs.length := by rw [← C.rs, List.length_map]
    have hrs := K.hrs
    have nd : k.hs.Nodup := by have := Z.R.nd; rw [C.hs] at this; exact (List.nodup_append.mp this).1
    have nd2 := nd
    unfold LK.hs at nd2
    simp only [List.nodup_cons, List.mem_cons, not_or] at nd2
    obtain ⟨⟨n1, n2, n3⟩, ⟨n4, n5⟩, n6, n7⟩ := nd2
    have hoff2 : OwnOff own (tl.map (·.1)) := fun q hq b hb => hoff q hq b (by rw [List.map_append]; exact List.mem_append_right _ hb)
    have hofx : OwnOff own ((FX u k L).map (·.1)) := fun q hq b hb => hoff q hq b (by rw [List.map_append]; exact List.mem_append_left _ hb)
    replace N3 : News base L h3 (FX u k L ++ tl ++ own) := N3
    rw [← kn_eq [(Str.ofString "whole", .ref k.wh), (Str.ofString "halves", .ref k.ll), (Str.ofString "piles", .ref k.pl), (Str.ofString "due", .ref u.dl)] (allC (P := fun p => m1 p.1 = some p.2) hm.whole (allC (P := fun p => m1 p.1 = some p.2) hm.halves (allC (P := fun p => m1 p.1 = some p.2) hm.piles (all1 (P := fun p => m1 p.1 = some p.2) hdu))))] at F3
    dsimp only [kn] at F3
    obtain ⟨g, d, dq, hg, hgx, hdx, hdm⟩ : ∃ g d dq, (i = 0 ∧ g = k.g0 ∨ i = 1 ∧ g = k.g1) ∧ ([.ref k.g0, .ref k.g1] : List Value)[(Int.ofNat i).toNat]? = some (.ref g) ∧ ([.ref u.d0, .ref u.d1] : List Value)[(Int.ofNat i).toNat]? = some (.ref d) ∧ (d, listOf ((pick k.rs i k.rs.length).map Value.ref).toArray dq) ∈ FX u k L := by
      rcases (show i = 0 ∨ i = 1 by omega) with rfl | rfl
      · exact ⟨k.g0, u.d0, u.q0, .inl ⟨rfl, rfl⟩, rfl, rfl, FX.d0⟩
      · exact ⟨k.g1, u.d1, u.q1, .inr ⟨rfl, rfl⟩, rfl, rfl, FX.d1⟩
    have hgs : g ∈ c.hs := by
      rw [C.hs]; unfold LK.hs
      rcases hg with ⟨_, rfl⟩ | ⟨_, rfl⟩ <;> simp
    have hgp : g ∉ k.ps := by
      rcases hg with ⟨_, rfl⟩ | ⟨_, rfl⟩
      · exact n5
      · exact n6
    have hfg : f g = pick xs i xs.length := by
      rcases hg with ⟨rfl, rfl⟩ | ⟨rfl, rfl⟩
      · rw [H.h0]; rfl
      · rw [H.h1]; rfl
    have hi0 : (0 : Int) ≤ Int.ofNat i := Int.natCast_nonneg _
    have hi2 : Int.ofNat i < 2 := Int.ofNat_lt.mpr hi
    have g2 := K.d2
    have g3 := K.d3
    have mll : (k.ll, listOf #[.ref k.g0, .ref k.g1] 0) ∈ FX u k L ++ tl ++ own := List.mem_append_left _ (List.mem_append_left _ FX.ll)
    have mo2 : (L + 1 + 1, k.o2) ∈ FX u k L ++ tl ++ own := List.mem_append_left _ (List.mem_append_left _ FX.o2)
    have mo3 : (L + 1 + 1 + 1, k.o3) ∈ FX u k L ++ tl ++ own := List.mem_append_left _ (List.mem_append_left _ FX.o3)
    generalize hz : Int.ofNat i = z at F3 hgx hdx hi0 hi2
    k_steps
    refine ⟨?_⟩
    show wpAny _ _ (call (.ref 263) [.ref g, .ref k.pl, .int k.bb k.t3, .int k.cn k.t2] []) _ _ _
    have hKeys : Keys c xs (fun y => k.kr (c.ta y)) (FX u k L) := fun y hy => by
      have hm : c.ta y ∈ k.rs := by rw [← C.rs]; exact List.mem_map.mpr ⟨y, hy, rfl⟩
      obtain ⟨a1, a2, _, ik, t, u', a3⟩ := row_tup K (L := L) (X := []) (h := h3) (news_sub N3 fun p hp => List.mem_append_left _ (List.mem_append_left _ (FX.of (by rwa [List.append_nil] at hp)))) hm
      exact ⟨a1, a2, ik, t, u', FX.of a3⟩
    have hpl : (pick xs i xs.length).length ≤ xs.length := pick_le
    refine sorted_spec (s := { s with heap := h3, gens := gens3, toks := tk3 }) (c := c) (fx := FX u k L) (tl := tl) (own := own) (key := fun y => k.kr (c.ta y)) (ps := k.ps) (l := pick xs i xs.length) (Cx.law F3 N3 B X T) (FX.nd K) hoff2 hofx Z (by decide) rfl rfl FX.pl (fun q hq => by rw [C.hs]; unfold LK.hs; simp [hq]) n7 hgs hgp hfg H.hp
      (by omega) (by omega) K.hps.symm K.hbb hKeys fun h4 tk4 gens4 tl4 nx4 pv4 f4 C4 o4 Z4 e1 e2 e3 hb4 => ?_
    obtain ⟨F4, N4, _, _, _, _, _, _, _⟩ := C4
    have mll4 : (k.ll, listOf #[.ref k.g0, .ref k.g1] 0) ∈ FX u k L ++ tl4 ++ own := List.mem_append_left _ (List.mem_append_left _ FX.ll)
    have mo24 : (L + 1 + 1, k.o2) ∈ FX u k L ++ tl4 ++ own := List.mem_append_left _ (List.mem_append_left _ FX.o2)
    clear F3 mll mo2 mo3
    k_steps
    refine ⟨?_⟩
    show wpAny _ _ (call (.ref 256) [.ref g, .int k.cn k.t2] []) _ _ _
    have hl245 : ∀ y ∈ f4 g, y ∈ c.hs ++ xs ∧ c.Ca y = 245 ∧ c.at_ y = routeAt (.ref (c.ta y)) := fun y hy =>
      have hyx := Z4.R.sub g hgs y hy
      ⟨List.mem_append_right _ hyx, (Z4.nd y hyx).1, (Z4.nd y hyx).2⟩
    have hlen4 : (f4 g).length ≤ xs.length := by
      rw [e1, (passes_perm (pick xs i xs.length) K.hbb K.hps.symm 3).length_eq]; exact hpl
    refine row_spec (s := { s with heap := h4, gens := gens4, toks := tk4 }) (pre := FX u k L ++ own) (tl := tl4) (l := f4 g) (ta := c.ta) (toA (s := { s with heap := h4 }) (Cx.law F4 N4 B X T)) Z4.S (by decide) rfl rfl (Z4.H hgs) (Z4.R.seg g hgs) hl245 (by omega) (by omega) fun h5 tk5 gens5 r5 k5 C5 lt5 hb5 => ?_
    obtain ⟨F5, N5, _, _, _, _, _, _, _⟩ := C5
    have emath : ((f4 g).map fun y => Value.ref (c.ta y)) = (insL k.kr (pick k.rs i k.rs.length)).map Value.ref := by
      rw [← hmath i hi, List.map_map, e1]; rfl
    rw [emath] at N5
    have mdl5 : (u.dl, listOf #[.ref u.d0, .ref u.d1] u.q) ∈ (r5, listOf ((insL k.kr (pick k.rs i k.rs.length)).map Value.ref).toArray k5) :: ((FX u k L ++ own) ++ tl4) := .tail _ (List.mem_append_left _ (List.mem_append_left _ FX.dl))
    have md5 : (d, listOf ((pick k.rs i k.rs.length).map Value.ref).toArray dq) ∈ (r5, listOf ((insL k.kr (pick k.rs i k.rs.length)).map Value.ref).toArray k5) :: ((FX u k L ++ own) ++ tl4) := .tail _ (List.mem_append_left _ (List.mem_append_left _ hdm))
    clear F4 N4 mll4 mo24
    k_steps
    refine ⟨?_⟩
    show wpAny _ _ (call (.ref 270) [.ref d] []) _ _ _
    have hrows : ∀ r ∈ pick k.rs i k.rs.length, 0 ≤ k.kr r ∧ k.kr r ≤ 63 ∧ ∃ ik t u', (r, tupObj [.int (k.kr r) t, .int ik u']) ∈ (r5, listOf ((insL k.kr (pick k.rs i k.rs.length)).map Value.ref).toArray k5) :: ((FX u k L ++ own) ++ tl4) := fun r hr => by
      obtain ⟨a1, a2, _, ik, t, u', a3⟩ := row_tup K (L := L) (X := []) (h := h5) (news_sub N5 fun p hp => .tail _ (List.mem_append_left _ (List.mem_append_left _ (FX.of (by rwa [List.append_nil] at hp))))) (pick_mem hr)
      exact ⟨a1, a2, ik, t, u', .tail _ (List.mem_append_left _ (List.mem_append_left _ (FX.of a3)))⟩
    have hpr : (pick k.rs i k.rs.length).length ≤ k.rs.length := pick_le
    refine ordered_spec (s := { s with heap := h5, gens := gens5, toks := tk5 }) (kr := k.kr) (Cx.law F5 N5 B X T) (by decide) rfl rfl md5 hrows (by omega) fun h6 tk6 gens6 D6 k6 C6 lt6 hb6 => ?_
    obtain ⟨F6, N6, _, _, _, _, _, _, _⟩ := C6
    clear F5 N5 mdl5
    k_steps
    refine ⟨?_⟩
    refine rows_ne N6 (.tail _ (.head _)) (.head _) (fun r hr => ?_) (by ke_room) ?_
    · obtain ⟨_, _, ik, t, u', hm'⟩ := hrows r (insL_mem hr)
      exact ⟨_, t, ik, u', .tail _ hm'⟩
    replace N6 : News base L h6 (FX u k L ++ tl4 ++ own) := news_sub N6 fun p hp => by simp only [List.mem_cons, List.mem_append] at hp ⊢; grind
    have mpl6 : (k.pl, listOf (k.ps.map Value.ref).toArray k.pk) ∈ FX u k L ++ tl4 ++ own := List.mem_append_left _ (List.mem_append_left _ FX.pl)
    clear md5
    k_steps
    refine ⟨?_⟩
    refine LCg.ListComp_U (F₀ := by k_asm) (by with_unfolding_all rfl) (by decide) (by rfl) (by decide) (by rfl) ?_
    k_steps
    refine ⟨?_⟩
    have hps4 : k.ps.length ≤ 4 := by have := K.hps; omega
    have hpss : ∀ q ∈ k.ps, q ∈ c.hs := fun q hq => by rw [C.hs]; unfold LK.hs; simp [hq]
    refine LCg.CompSrc.ledger rfl F6 N6 mpl6 (by rw [List.size_toArray, List.length_map, PySem.sizeLine_eq]; omega) fun g6 => ?_
    rw [List.size_toArray, List.length_map]
    refine comp_inv (fun j zs nw => ∃ tl' nx' pv', nw = FX u k L ++ tl' ++ own ∧ c.St xs [] tl' nx' pv' f4 ∧ OwnOff own (tl'.map (·.1)) ∧ zs = List.replicate j (.bool true)) ⟨tl4, nx4, pv4, rfl, Z4, o4, rfl⟩ ?_ ?_
    · rintro j v I oI C7 oC D m₂ ys nw h7 tk7 E' hj hv ⟨tl7, nx7, pv7, rfl, Z7, o7, rfl⟩ hC7 hx7 F7 N7 off ne
      have hv' : (k.ps.map Value.ref)[j]? = some v := by simpa using hv
      rw [List.getElem?_map] at hv'
      obtain ⟨q, hq, rfl⟩ := Option.map_eq_some_iff.mp hv'
      have hqm := List.mem_of_getElem? hq
      have om := off.mem
      have o8 : OwnOff ([(I, oI), (C7, oC), (D, LCg.lst (List.replicate j (.bool true)))] ++ own) (tl7.map (·.1)) := fun q hq b hb => by
        rcases List.mem_append.mp hq with hq | hq
        · obtain ⟨r, hr, rfl⟩ := List.mem_map.mp hb
          have := om r (List.mem_append_left _ (List.mem_append_right _ hr))
          simp only [List.mem_cons, List.not_mem_nil, or_false] at hq
          rcases hq with rfl | rfl | rfl
          · exact Ne.symm this.1
          · exact Ne.symm this.2.1
          · exact Ne.symm this.2.2
        · exact o7 q hq b hb
      have N8 : News base L h7 (FX u k L ++ tl7 ++ ([(I, oI), (C7, oC), (D, LCg.lst (List.replicate j (.bool true)))] ++ own)) := news_sub N7 fun p hp => by simp only [List.mem_cons, List.mem_append, List.not_mem_nil, or_false] at hp ⊢; grind
      obtain ⟨es7, nn7, hl7⟩ := hdL (toA (s := { s with heap := h7 }) (Cx.law F7 N8 B X T)) Z7.S (Z7.H (hpss q hqm))
      have r1 := hl7.i
      have r2 := hl7.d
      have r3 := hl7.no (Str.ofString "is_empty") (by decide +kernel) (by decide +kernel) (by decide +kernel) (by decide +kernel)
      have N9 : News base L h7 ((C7, oC) :: ((FX u k L ++ ([(I, oI), (C7, oC), (D, LCg.lst (List.replicate j (.bool true)))] ++ own)) ++ tl7)) := news_sub N8 fun p hp => by simp only [List.mem_cons, List.mem_append, List.not_mem_nil, or_false] at hp ⊢; grind
      replace r1 := List.mem_cons_of_mem (C7, oC) r1
      replace r2 := List.mem_cons_of_mem (C7, oC) r2
      have mC : (C7, oC) ∈ (C7, oC) :: ((FX u k L ++ ([(I, oI), (C7, oC), (D, LCg.lst (List.replicate j (.bool true)))] ++ own)) ++ tl7) := .head _
      clear N7
      k_steps
      refine ⟨?_⟩
      show wpAny _ _ (call (.ref 49) [.ref q] []) _ _ _
      refine empty_op (fx := FX u k L) (tl := tl7) (own := [(I, oI), (C7, oC), (D, LCg.lst (List.replicate j (.bool true)))] ++ own) (Cx.law F7 N8 B X T) (FX.nd K) o8 Z7 (hpss q hqm) (e2 q hqm) (by decide) rfl rfl fun h8 tk8 tl8 nx8 pv8 C8 o9 Z8 => ?_
      have oo : ∀ p ∈ [(I, oI), (C7, oC), (D, LCg.lst (List.replicate j (.bool true)))], ∀ q ∈ tl8, q.1 ≠ p.1 := fun p hp q hq => Ne.symm (o9 p (List.mem_append_left _ hp) q.1 (List.mem_map.mpr ⟨q, hq, rfl⟩))
      refine LCg.CompEnd.intro C8.F (news_sub C8.N fun p hp => ?_) (FX u k L ++ tl8 ++ own) (fun p hp => hp) (LCg.Off3.of fun p hp => ?_) (.inr ⟨_, List.mem_append_left _ (List.mem_append_left _ FX.pl), rfl, _, rfl⟩) ⟨tl8, nx8, pv8, rfl, Z8, fun q hq => o9 q (List.mem_append_right _ hq), by rw [List.replicate_succ']⟩
      · simp only [List.mem_cons, List.mem_append, List.not_mem_nil, or_false] at hp ⊢; grind
      · rcases List.mem_append.mp hp with hp | hp
        · rcases List.mem_append.mp hp with hp | hp
          · exact om p (List.mem_append_left _ (List.mem_append_left _ hp))
          · exact ⟨oo (I, oI) (by simp) p hp, oo (C7, oC) (by simp) p hp, oo (D, LCg.lst (List.replicate j (.bool true))) (by simp) p hp⟩
        · exact om p (List.mem_append_right _ hp)
    · rintro zs nw ⟨tl7, nx7, pv7, rfl, Z7, o7, rfl⟩ D7 h7 tk7 F7 N7 off
      k_steps
      refine ⟨?_⟩
      refine LSm.all_bools F7 N7 rfl (News.isList N7 (.head _)) (bs := List.replicate k.ps.length true) bools_rep ?_
      intro h8 tk8 F8 N8
      rw [all_rep]
      k_steps
      refine ⟨_, _, _, _, FX u k L ++ tl7, rfl, fun x => hb6 (hb5 (hb4 x)), F8, news_sub N8 fun p hp => .tail _ hp, fun q hq b hb => ?_, tl7, nx7, pv7, f4, rfl, Z7, ?_, ⟨rfl, rfl, rfl⟩, rfl⟩
      · rw [List.map_append] at hb
        rcases List.mem_append.mp hb with hb | hb
        · exact hofx q hq b hb
        · exact o7 q hq b hb
      · have hwc : k.wh ∈ c.hs := by rw [C.hs]; unfold LK.hs; simp
        have h0c : k.g0 ∈ c.hs := by rw [C.hs]; unfold LK.hs; simp
        have h1c : k.g1 ∈ c.hs := by rw [C.hs]; unfold LK.hs; simp
        rcases hg with ⟨rfl, rfl⟩ | ⟨rfl, rfl⟩
        · exact ⟨by rw [e3 k.wh hwc n1 n3]; exact H.wh, by rw [if_pos (by decide)]; exact e1, by rw [if_neg (by decide), e3 k.g1 h1c (Ne.symm n4) n6, H.h1]; rfl, e2⟩
        · exact ⟨by rw [e3 k.wh hwc n2 n3]; exact H.wh, by rw [if_pos (by decide), e3 k.g0 h0c n4 n5, H.h0]; rfl, by rw [if_pos (by decide)]; exact e1, e2⟩
  · rintro m1 nw h3 tk3 gens3 J hbr F3 N3
    exact hQ _ _ _ _ _ F3 N3 J hbr
end
end MineN
namespace MineN
theorem rstV12 : True := by
  w_top off
  trivial
open Mine
theorem fillV12 : PySem.Challenge.rw_fc0145_01.Holds → (∀ w : World, (hd.heap_39 w.params).In default) → True := by
  k_fill
  intros
  trivial
local macro_rules | `(tactic| k_steps) => `(tactic| repeat' (first | (k_unfold; (try dsimp only)) | walk1 | (dsimp only; walk1) | fail "no step"))
local macro_rules | `(tactic| walk_at "call ref") => `(tactic| (refine stopN ?_))
local macro_rules | `(tactic| walk_at "getAttr ref") => `(tactic| ((with_reducible show wpAny _ _ (getAttr (Value.ref _) (Str.ofString "path") _) _ _ _); refine stopN ?_))
local macro_rules | `(tactic| walk_at "pyIter ref") => `(tactic| (refine stopN ?_))
local macro_rules | `(tactic| walk_at "exec For") => `(tactic| (refine stopN ?_))
local macro_rules | `(tactic| walk_at "exec For Name Call cons nil") => `(tactic| (refine stopN ?_))
local macro_rules | `(tactic| walk_at "subscriptTail") => `(tactic| (k_here; (with_reducible show wpAny _ _ (subscriptTail _ _ (Value.ref _) (Value.int _ _)) _ _ _); (with_unfolding_all refine' item_litK ?k1 ?k2 ?k3 ?k4 ?_ ?k6; (case k1 => exact News.isList (by k_asm) (by assumption)); (case k2 => omega); (case k3 => omega); (case k4 => first | assumption | rfl); (case k6 => with_unfolding_all rfl); k_whole)))
local macro_rules | `(tactic| k_mem) => `(tactic| assumption)
local macro_rules | `(tactic| k_get) => `(tactic| assumption)
/-- two sorted lists, merged: the first ahead where the keys are alike -/
def mergeL (ky : Addr → Int) : List Addr → List Addr → List Addr
  | [], b => b
  | a :: r, [] => a :: r
  | a :: r, b :: t => if ky a ≤ ky b then a :: mergeL ky r (b :: t) else b :: mergeL ky (a :: r) t
termination_by a b => a.length + b.length
theorem mergeL_nil {ky : Addr → Int} {b : List Addr} : mergeL ky [] b = b := by unfold mergeL; rfl
theorem mergeL_nil' {ky : Addr → Int} {a : List Addr} : mergeL ky a [] = a := by cases a <;> (unfold mergeL; rfl)
theorem mergeL_le {ky : Addr → Int} {a b : Addr} {r t : List Addr} (h : ky a ≤ ky b) : mergeL ky (a :: r) (b :: t) = a :: mergeL ky r (b :: t) := by rw [mergeL, if_pos h]
theorem mergeL_gt {ky : Addr → Int} {a b : Addr} {r t : List Addr} (h : ¬ ky a ≤ ky b) : mergeL ky (a :: r) (b :: t) = b :: mergeL ky (a :: r) t := by rw [mergeL, if_neg h]
theorem mergeL_length {ky : Addr → Int} : ∀ {a b : List Addr}, (mergeL ky a b).length = a.length + b.length
  | [], b => by rw [mergeL_nil]; simp
  | a :: r, [] => by rw [mergeL_nil']; simp
  | a :: r, b :: t => by
    by_cases h : ky a ≤ ky b
    · rw [mergeL_le h, List.length_cons, mergeL_length (a := r) (b := b :: t)]; simp only [List.length_cons]; omega
    · rw [mergeL_gt h, List.length_cons, mergeL_length (a := a :: r) (b := t)]; simp only [List.length_cons]; omega
termination_by a b => a.length + b.length
def kyOf (k : LK) (c : NC) : Addr → Int := fun y => k.kr (c.ta y)
def whole (k : LK) (c : NC) (xs : List Addr) : List Addr := mergeL (kyOf k c) (half k c xs 0) (half k c xs 1)
theorem pick_two {l : List Addr} : ∀ {n : Nat}, (pick l 0 n).length + (pick l 1 n).length = n
  | 0 => rfl
  | n + 1 => by
    have ih := pick_two (l := l) (n := n)
    rw [pick_succ, pick_succ, List.length_append, List.length_append]
    rcases Nat.mod_two_eq_zero_or_one n with e | e
    · rw [if_pos e, if_neg (by omega)]; simp only [List.length_cons, List.length_nil]; omega
    · rw [if_neg (by omega), if_pos e]; simp only [List.length_cons, List.length_nil]; omega
theorem whole_length {k : LK} {c : NC} {xs : List Addr} (K : k.Ok) : (whole k c xs).length = xs.length := by
  unfold whole half
  rw [mergeL_length, (passes_perm _ K.hbb K.hps.symm 3).length_eq, (passes_perm _ K.hbb K.hps.symm 3).length_eq, pick_two]
structure H11 (k : LK) (c : NC) (xs : List Addr) (f : Addr → List Addr) (i : Nat) : Prop where
  len : (f k.wh).length = i
  mrg : f k.wh ++ mergeL (kyOf k c) (f k.g0) (f k.g1) = whole k c xs
def J11 (u : DU) (k : LK) (c : NC) (xs : List Addr) (L : Addr) (i : Nat) (m : Str → Option Value) (nw : List (Addr × Obj)) : Prop :=
  ∃ tl nx pv f, nw = FX u k L ++ tl ∧ c.St xs [] tl nx pv f ∧ H11 k c xs f i ∧ k.Kn m ∧ m (Str.ofString "due") = some (.ref u.dl)
section
variable {w : World} {A₀ : Around} {base g₀ h₀ : Heap} {outer : List Env} {env : Env} {L : Addr} {m mg mb : Str → Option Value} {mean : ExcName → Option Value}
  {s : Shared} {fx tl own : List (Addr × Obj)} {d u : Nat} {gs : Option (List Code)} {Q : Value → Shared → Prop} {E : Value → Shared → Prop}
  {c : NC} {xs l : List Addr} {nx pv : Addr → Option Addr} {f : Addr → List Addr} {h : Addr}
def popV : List Addr → Value
  | [] => .none
  | a :: _ => .ref a
theorem popG_op (C : Cx w A₀ base outer mean mg mb g₀ h₀ L s.heap m (fx ++ tl ++ own)) (hk : ∀ p ∈ fx, isND p.2 = false) (ho : OwnOff own (tl.map (·.1))) (Z : c.St xs [] tl nx pv f) (hh : h ∈ c.hs) (e : f h = l)
    (hd : d + 9 < recursionLimit) (hf : env.frame = some L) (hke : env.scope.kind = .function)
    (k : ∀ h' tk tl' nx' pv', Cx w A₀ base outer mean mg mb g₀ h₀ L h' m (fx ++ tl' ++ own) → OwnOff own (tl'.map (·.1)) → c.St xs [] tl' nx' pv' (upL f h l.tail) → Q (popV l) { s with heap := h', toks := tk }) :
    wpAny (model PR w) (Ar d u (env :: outer) gs) (call (.ref 98) [.ref h] []) Q E s := by
  cases l with
  | nil =>
    refine popN_op C hk ho Z hh e hd hf hke fun h' tk tl' nx' pv' C' o' Z' => k h' tk tl' nx' pv' C' o' ?_
    have : upL f h ([] : List Addr).tail = f := by
      show upL f h [] = f
      rw [← e, upL_same]
    rw [this]; exact Z'
  | cons a l => exact pop_op C hk ho Z hh e hd hf hke k
end
section
variable {k : LK} {c : NC} {xs : List Addr} {f f' : Addr → List Addr} {i : Nat} {a b : Addr} {A B : List Addr}
theorem H11.stepA (H : H11 k c xs f i) (hA : f k.g0 = a :: A) (hB : f k.g1 = B) (hc : ∀ b T, B = b :: T → kyOf k c a ≤ kyOf k c b) (h1 : f' k.wh = f k.wh ++ [a]) (h2 : f' k.g0 = A) (h3 : f' k.g1 = B) : H11 k c xs f' (i + 1) := by
  refine ⟨by rw [h1, List.length_append, H.len]; rfl, ?_⟩
  rw [h1, h2, h3, ← H.mrg, hA, hB, List.append_assoc]
  congr 1
  cases B with
  | nil => rw [mergeL_nil', mergeL_nil']; rfl
  | cons b T => rw [mergeL_le (hc b T rfl)]; rfl
theorem H11.stepB (H : H11 k c xs f i) (hA : f k.g0 = A) (hB : f k.g1 = b :: B) (hc : ∀ a T, A = a :: T → ¬ kyOf k c a ≤ kyOf k c b) (h1 : f' k.wh = f k.wh ++ [b]) (h2 : f' k.g0 = A) (h3 : f' k.g1 = B) : H11 k c xs f' (i + 1) := by
  refine ⟨by rw [h1, List.length_append, H.len]; rfl, ?_⟩
  rw [h1, h2, h3, ← H.mrg, hA, hB, List.append_assoc]
  congr 1
  cases A with
  | nil => rw [mergeL_nil, mergeL_nil]; rfl
  | cons a T => rw [mergeL_gt (hc a T rfl)]; rfl
end
section
variable {w : World} {base : Heap} {L fa : Addr} {cd : Value} {m mg mb : Str → Option Value} {mean : ExcName → Option Value}
  {s : Shared} {Q : Flow → Shared → Prop} {E : Value → Shared → Prop} {k : LK} {u : DU} {nw0 : List (Addr × Obj)} {c : NC} {xs : List Addr}
theorem seg11 (B : Below callerA base [] base) (F : Fr base L s.heap m) (X : (hd.heap_39 w.params).In base) (T : Top VW LO mean mg mb base) (K : k.Ok) (C : NK k c xs) (N : News base L s.heap nw0) (J : J11 u k c xs L 0 m nw0)
    (hE : PassesOwn (model PR w) (callerA.deeper (lawEnv L fa cd)) (lawEnv L fa cd) E)
    (hQ : ∀ h' tk gens m' tl nx pv f, Fr base L h' m' → News base L h' (FX u k L ++ tl) → c.St xs [] tl nx pv f → f k.wh = whole k c xs → f k.g0 = [] → f k.g1 = [] → k.Kn m' → m' (Str.ofString "due") = some (.ref u.dl) → (AllBare s.gens → AllBare gens) → Q .next { s with heap := h', toks := tk, gens := gens }) :
    wpAny (model PR w) (callerA.deeper (lawEnv L fa cd)) (exec (st 11) (lawEnv L fa cd)) Q E s := by
  conv => pattern (st 11); whnf
  unfold lawEnv
  conv => pattern (occs := *) lawScope; all_goals whnf
  have hcn := K.hcn
  have hrs := K.hrs
  have hlen : xs.length = k.rs.length := by rw [← C.rs, List.length_map]
  have g2 := K.d2
  obtain ⟨tl0, nx0, pv0, f0, rfl, Z0, H0, hm0, hdu0⟩ := id J
  have mo2 : (L + 1 + 1, k.o2) ∈ FX u k L ++ tl0 := List.mem_append_left _ FX.o2
  refine wpAny_For ?_ (by intro _; rfl)
  k_steps
  refine ⟨?_⟩
  rename_i hR F2 N2 _
  refine rangeG (n := k.rs.length + 1) (J11 u k c xs L) rfl hR (small_one (by omega) (by omega) (by omega) (by omega)) ((rangeSize_nat _ _).trans (by congr 1; omega)) F2 N2 J rfl rfl hE ?_ ?_
  · rintro i t m1 nw h3 tk3 gens3 own hi ⟨tl, nx, pv, f, rfl, Z, H, hm, hdu⟩ hoff hbr F3 N3
    have nd : k.hs.Nodup := by have := Z.R.nd; rw [C.hs] at this; exact (List.nodup_append.mp this).1
    unfold LK.hs at nd
    simp only [List.nodup_cons, List.mem_cons, not_or] at nd
    obtain ⟨⟨n1, n2, n3⟩, ⟨n4, n5⟩, n6, n7⟩ := nd
    have hwc : k.wh ∈ c.hs := by rw [C.hs]; unfold LK.hs; simp
    have h0c : k.g0 ∈ c.hs := by rw [C.hs]; unfold LK.hs; simp
    have h1c : k.g1 ∈ c.hs := by rw [C.hs]; unfold LK.hs; simp
    have hoff2 : OwnOff own (tl.map (·.1)) := fun q hq b hb => hoff q hq b (by rw [List.map_append]; exact List.mem_append_right _ hb)
    have hofx : OwnOff own ((FX u k L).map (·.1)) := fun q hq b hb => hoff q hq b (by rw [List.map_append]; exact List.mem_append_left _ hb)
    replace N3 : News base L h3 (FX u k L ++ tl ++ own) := N3
    rw [← kn_eq [(Str.ofString "whole", .ref k.wh), (Str.ofString "halves", .ref k.ll), (Str.ofString "piles", .ref k.pl), (Str.ofString "due", .ref u.dl)] (allC (P := fun p => m1 p.1 = some p.2) hm.whole (allC (P := fun p => m1 p.1 = some p.2) hm.halves (allC (P := fun p => m1 p.1 = some p.2) hm.piles (all1 (P := fun p => m1 p.1 = some p.2) hdu))))] at F3
    dsimp only [kn] at F3
    obtain ⟨A, hA⟩ : ∃ A, f k.g0 = A := ⟨_, rfl⟩
    obtain ⟨Bl, hB⟩ : ∃ Bl, f k.g1 = Bl := ⟨_, rfl⟩
    have hB2 : upL f k.g0 A.tail k.g1 = Bl := by rw [upL_ne (Ne.symm n4), hB]
    have mll : (k.ll, listOf #[.ref k.g0, .ref k.g1] 0) ∈ (FX u k L ++ own) ++ tl := List.mem_append_left _ (List.mem_append_left _ FX.ll)
    have hx0 : ([.ref k.g0, .ref k.g1] : List Value)[Int.toNat 0]? = some (.ref k.g0) := rfl
    have hx1 : ([.ref k.g0, .ref k.g1] : List Value)[Int.toNat 1]? = some (.ref k.g1) := rfl
    obtain ⟨F4, N4, _, _, _, _, _, _, _⟩ := toA (s := { s with heap := h3 }) (Cx.law F3 N3 B X T)
    obtain ⟨es, nn, hl⟩ := hdL (toA (s := { s with heap := h3 }) (Cx.law F3 N3 B X T)) Z.S (Z.H h0c)
    have l1 := hl.i
    have l2 := hl.d
    have l3 := hl.no (Str.ofString "pop_first") (by decide +kernel) (by decide +kernel) (by decide +kernel) (by decide +kernel)
    clear mo2
    k_steps
    refine ⟨?_⟩
    show wpAny _ _ (call (.ref 98) [.ref k.g0] []) _ _ _
    refine popG_op (s := { s with heap := h3, toks := tk3 + 1, gens := gens3 }) (fx := FX u k L) (tl := tl) (own := own) (Cx.law F3 N3 B X T) (FX.nd K) hoff2 Z h0c hA ?_ rfl rfl fun h5 tk5 tl5 nx5 pv5 C5 o5 Z5 => ?_
    · decide
    have mll5 : (k.ll, listOf #[.ref k.g0, .ref k.g1] 0) ∈ (FX u k L ++ own) ++ tl5 := List.mem_append_left _ (List.mem_append_left _ FX.ll)
    obtain ⟨es5, nn5, hl5⟩ := hdL (toA (s := { s with heap := h5 }) C5) Z5.S (Z5.H h1c)
    have r1 := hl5.i
    have r2 := hl5.d
    have r3 := hl5.no (Str.ofString "pop_first") (by decide +kernel) (by decide +kernel) (by decide +kernel) (by decide +kernel)
    obtain ⟨F5, N5, _, _, _, _, _, _, _⟩ := toA (s := { s with heap := h5 }) C5
    clear F4 N4 mll
    k_steps
    refine ⟨?_⟩
    show wpAny _ _ (call (.ref 98) [.ref k.g1] []) _ _ _
    refine popG_op (s := { s with heap := h5, toks := tk5 + 1, gens := gens3 }) (fx := FX u k L) (tl := tl5) (own := own) C5 (FX.nd K) o5 Z5 h1c hB2 ?_ rfl rfl fun h6 tk6 tl6 nx6 pv6 C6 o6 Z6 => ?_
    · decide
    obtain ⟨F6, N6, _, _, _, _, _, _, _⟩ := toA (s := { s with heap := h6 }) C6
    clear F5 N5 mll5 F3
    k_steps
    rename_i h7 F7 N7
    replace N7 : News base L h7 ((FX u k L ++ own) ++ tl6) := news_sub N7 fun p hp => .tail _ hp
    clear C5 C6
    have hsub : ∀ h' ∈ c.hs, ∀ y ∈ upL (upL f k.g0 A.tail) k.g1 Bl.tail h', y ∈ f h' := fun h' hh' y hy => by
      by_cases e : h' = k.g1
      · subst e; rw [upL_self] at hy; rw [hB]; exact List.mem_of_mem_tail hy
      · rw [upL_ne e] at hy
        by_cases e0 : h' = k.g0
        · subst e0; rw [upL_self] at hy; rw [hA]; exact List.mem_of_mem_tail hy
        · rw [upL_ne e0] at hy; exact hy
    have f2w : upL (upL f k.g0 A.tail) k.g1 Bl.tail k.wh = f k.wh := by rw [upL_ne n2, upL_ne n1]
    have f20 : upL (upL f k.g0 A.tail) k.g1 Bl.tail k.g0 = A.tail := by rw [upL_ne n4, upL_self]
    have f21 : upL (upL f k.g0 A.tail) k.g1 Bl.tail k.g1 = Bl.tail := upL_self
    have offA : ∀ a A', A = a :: A' → ∀ h' ∈ c.hs, a ∉ upL (upL f k.g0 A.tail) k.g1 Bl.tail h' := fun a A' e h' hh' hm' => by
      have e0 : h' = k.g0 := Z.R.dis h' hh' k.g0 h0c a (hsub h' hh' a hm') (by rw [hA, e]; simp)
      subst e0
      rw [f20, e] at hm'
      have := Z.R.nod k.g0 h0c
      rw [hA, e] at this
      exact (List.nodup_cons.mp this).1 hm'
    have offB : ∀ b B', Bl = b :: B' → ∀ h' ∈ c.hs, b ∉ upL (upL f k.g0 A.tail) k.g1 Bl.tail h' := fun b B' e h' hh' hm' => by
      have e0 : h' = k.g1 := Z.R.dis h' hh' k.g1 h1c b (hsub h' hh' b hm') (by rw [hB, e]; simp)
      subst e0
      rw [f21, e] at hm'
      have := Z.R.nod k.g1 h1c
      rw [hB, e] at this
      exact (List.nodup_cons.mp this).1 hm'
    have hAx : ∀ y ∈ A, y ∈ xs := fun y hy => Z.R.sub k.g0 h0c y (by rw [hA]; exact hy)
    have hBx : ∀ y ∈ Bl, y ∈ xs := fun y hy => Z.R.sub k.g1 h1c y (by rw [hB]; exact hy)
    generalize hf2 : upL (upL f k.g0 A.tail) k.g1 Bl.tail = f2 at Z6 f2w f20 f21 offA offB
    clear hsub hf2
    obtain ⟨esw, nnw, hlw⟩ := hdL (pre := FX u k L ++ own) (tl := tl6) (Cx.law F7 N7 B X T) Z6.S (Z6.H hwc)
    have w1 := hlw.i
    have w2 := hlw.d
    have w3 := hlw.no (Str.ofString "append") (by decide +kernel) (by decide +kernel) (by decide +kernel) (by decide +kernel)
    cases A with
    | nil =>
      cases Bl with
      | nil =>
        dsimp only [popV] at F7 ⊢
        k_steps
        have e := H.mrg
        rw [hA, hB, mergeL_nil, List.append_nil] at e
        exact hQ _ _ _ _ tl6 nx6 pv6 f2 F7 (news_sub N7 fun p hp => by simp only [List.mem_append] at hp ⊢; grind) Z6 (f2w.trans e) f20 f21 ⟨rfl, rfl, rfl⟩ rfl hbr
      | cons b B' =>
        dsimp only [popV] at F7 ⊢
        k_steps
        refine ⟨?_⟩
        show wpAny _ _ (call (.ref 70) [.ref k.wh, .ref b] []) _ _ _
        refine app_op (s := { s with heap := h7, toks := tk, gens := gens3 }) (fx := FX u k L) (tl := tl6) (own := own) (toB (s := { s with heap := h7 }) (Cx.law F7 N7 B X T)) (FX.nd K) o6 Z6 hwc (hBx b (.head _)) (offB b B' rfl) ?_ rfl rfl fun h8 tk8 tl8 nx8 pv8 C8 o8 Z8 => ?_
        · decide
        obtain ⟨F8, N8, _, _, _, _, _, _, _⟩ := C8
        k_steps
        refine ⟨_, _, _, _, FX u k L ++ tl8, rfl, fun x => x, F8, N8, fun q hq b hb => ?_, tl8, nx8, pv8, _, rfl, Z8, H.stepB hA hB (fun _ _ e => nomatch e) ?_ ?_ ?_, ⟨rfl, rfl, rfl⟩, rfl⟩
        · rw [List.map_append] at hb
          rcases List.mem_append.mp hb with hb | hb
          · exact hofx q hq b hb
          · exact o8 q hq b hb
        · rw [upL_self, f2w]
        · rw [upL_ne (Ne.symm n1), f20]; rfl
        · rw [upL_ne (Ne.symm n2), f21]; rfl
    | cons a A' =>
      cases Bl with
      | nil =>
        dsimp only [popV] at F7 ⊢
        k_steps
        refine ⟨?_⟩
        show wpAny _ _ (call (.ref 70) [.ref k.wh, .ref a] []) _ _ _
        refine app_op (s := { s with heap := h7, toks := tk, gens := gens3 }) (fx := FX u k L) (tl := tl6) (own := own) (toB (s := { s with heap := h7 }) (Cx.law F7 N7 B X T)) (FX.nd K) o6 Z6 hwc (hAx a (.head _)) (offA a A' rfl) ?_ rfl rfl fun h8 tk8 tl8 nx8 pv8 C8 o8 Z8 => ?_
        · decide
        obtain ⟨F8, N8, _, _, _, _, _, _, _⟩ := C8
        k_steps
        refine ⟨_, _, _, _, FX u k L ++ tl8, rfl, fun x => x, F8, N8, fun q hq b hb => ?_, tl8, nx8, pv8, _, rfl, Z8, H.stepA hA hB (fun _ _ e => nomatch e) ?_ ?_ ?_, ⟨rfl, rfl, rfl⟩, rfl⟩
        · rw [List.map_append] at hb
          rcases List.mem_append.mp hb with hb | hb
          · exact hofx q hq b hb
          · exact o8 q hq b hb
        · rw [upL_self, f2w]
        · rw [upL_ne (Ne.symm n1), f20]; rfl
        · rw [upL_ne (Ne.symm n2), f21]; rfl
      | cons b B' =>
        dsimp only [popV] at F7 ⊢
        k_steps
        refine ⟨?_⟩
        have hax : a ∈ xs := hAx a (.head _)
        have hbx : b ∈ xs := hBx b (.head _)
        have N7f : News base L h7 (k.fx L ++ []) := news_sub N7 fun p hp => List.mem_append_left _ (List.mem_append_left _ (FX.of (by rwa [List.append_nil] at hp)))
        obtain ⟨_, _, _, ia, ta, ua, hma⟩ := row_tup K N7f (by rw [← C.rs]; exact List.mem_map.mpr ⟨a, hax, rfl⟩ : c.ta a ∈ k.rs)
        obtain ⟨_, _, _, ib, tb, ub, hmb⟩ := row_tup K N7f (by rw [← C.rs]; exact List.mem_map.mpr ⟨b, hbx, rfl⟩ : c.ta b ∈ k.rs)
        have mta : (c.ta a, tupObj [.int (kyOf k c a) ta, .int ia ua]) ∈ FX u k L ++ tl6 ++ own := List.mem_append_left _ (List.mem_append_left _ (FX.of hma))
        have mtb : (c.ta b, tupObj [.int (kyOf k c b) tb, .int ib ub]) ∈ FX u k L ++ tl6 ++ own := List.mem_append_left _ (List.mem_append_left _ (FX.of hmb))
        refine path_op (s := { s with heap := h7, toks := tk, gens := gens3 }) (fx := FX u k L) (tl := tl6) (own := own) (toB (s := { s with heap := h7 }) (Cx.law F7 N7 B X T)) (FX.nd K) o6 Z6 hax ?_ rfl rfl fun h8 tk8 C8 => ?_
        · decide
        obtain ⟨F8, N8, _, _, _, _, _, _, _⟩ := C8
        clear F7 N7 N7f
        k_steps
        refine ⟨?_⟩
        refine path_op (s := { s with heap := h8, toks := _, gens := gens3 }) (fx := FX u k L) (tl := tl6) (own := own) (Cx.law F8 N8 B X T) (FX.nd K) o6 Z6 hbx ?_ rfl rfl fun h9 tk9 C9 => ?_
        · decide
        obtain ⟨F9, N9, _, _, _, _, _, _, _⟩ := toA (s := { s with heap := h9 }) C9
        replace mta : (c.ta a, tupObj [.int (kyOf k c a) ta, .int ia ua]) ∈ (FX u k L ++ own) ++ tl6 := List.mem_append_left _ (List.mem_append_left _ (FX.of hma))
        replace mtb : (c.ta b, tupObj [.int (kyOf k c b) tb, .int ib ub]) ∈ (FX u k L ++ own) ++ tl6 := List.mem_append_left _ (List.mem_append_left _ (FX.of hmb))
        clear F8 N8
        have hab : a ≠ b := fun e => n4 (Z.R.dis k.g0 h0c k.g1 h1c a (by rw [hA]; simp) (by rw [hB, e]; simp))
        k_steps
        · refine ⟨?_⟩
          rename_i hle
          show wpAny _ _ (call (.ref 70) [.ref k.wh, .ref a] []) _ _ _
          refine app_op (s := { s with heap := h9, toks := tk, gens := gens3 }) (fx := FX u k L) (tl := tl6) (own := own) (toB (s := { s with heap := h9 }) (Cx.law F9 N9 B X T)) (FX.nd K) o6 Z6 hwc hax (offA a A' rfl) ?_ rfl rfl fun h10 tk10 tl10 nx10 pv10 C10 o10 Z10 => ?_
          · decide
          have mll10 : (k.ll, listOf #[.ref k.g0, .ref k.g1] 0) ∈ (FX u k L ++ own) ++ tl10 := List.mem_append_left _ (List.mem_append_left _ FX.ll)
          obtain ⟨es10, nn10, hl10⟩ := hdL (toA (s := { s with heap := h10 }) C10) Z10.S (Z10.H h1c)
          have p1 := hl10.i
          have p2 := hl10.d
          have p3 := hl10.no (Str.ofString "prepend") (by decide +kernel) (by decide +kernel) (by decide +kernel) (by decide +kernel)
          obtain ⟨F10, N10, _, _, _, _, _, _, _⟩ := toA (s := { s with heap := h10 }) C10
          clear F9 N9
          k_steps
          refine ⟨?_⟩
          show wpAny _ _ (call (.ref 77) [.ref k.g1, .ref b] []) _ _ _
          refine prep_op (s := { s with heap := h10, toks := _, gens := gens3 }) (fx := FX u k L) (tl := tl10) (own := own) C10 (FX.nd K) o10 Z10 h1c hbx (fun h' hh' hm' => ?_) ?_ rfl rfl fun h11 tk11 tl11 nx11 pv11 C11 o11 Z11 => ?_
          · by_cases e : h' = k.wh
            · subst e
              rw [upL_self] at hm'
              rcases List.mem_append.mp hm' with hm' | hm'
              · exact offB b B' rfl k.wh hh' hm'
              · exact hab (List.mem_singleton.mp hm').symm
            · rw [upL_ne e] at hm'
              exact offB b B' rfl h' hh' hm'
          · decide
          obtain ⟨F11, N11, _, _, _, _, _, _, _⟩ := C11
          clear F10 N10
          k_steps
          refine ⟨_, _, _, _, FX u k L ++ tl11, rfl, fun x => x, F11, N11, fun q hq b hb => ?_, tl11, nx11, pv11, _, rfl, Z11, H.stepA hA hB (fun b0 T0 e => by rw [← (List.cons.inj e).1]; exact hle) ?_ ?_ ?_, ⟨rfl, rfl, rfl⟩, rfl⟩
          · rw [List.map_append] at hb
            rcases List.mem_append.mp hb with hb | hb
            · exact hofx q hq b hb
            · exact o11 q hq b hb
          · rw [upL_ne n2, upL_self, f2w]
          · rw [upL_ne n4, upL_ne (Ne.symm n1), f20]; rfl
          · rw [upL_self, upL_ne (Ne.symm n2), f21]; rfl
        · refine ⟨?_⟩
          rename_i hle
          show wpAny _ _ (call (.ref 70) [.ref k.wh, .ref b] []) _ _ _
          refine app_op (s := { s with heap := h9, toks := tk, gens := gens3 }) (fx := FX u k L) (tl := tl6) (own := own) (toB (s := { s with heap := h9 }) (Cx.law F9 N9 B X T)) (FX.nd K) o6 Z6 hwc hbx (offB b B' rfl) ?_ rfl rfl fun h10 tk10 tl10 nx10 pv10 C10 o10 Z10 => ?_
          · decide
          have mll10 : (k.ll, listOf #[.ref k.g0, .ref k.g1] 0) ∈ (FX u k L ++ own) ++ tl10 := List.mem_append_left _ (List.mem_append_left _ FX.ll)
          obtain ⟨es10, nn10, hl10⟩ := hdL (toA (s := { s with heap := h10 }) C10) Z10.S (Z10.H h0c)
          have p1 := hl10.i
          have p2 := hl10.d
          have p3 := hl10.no (Str.ofString "prepend") (by decide +kernel) (by decide +kernel) (by decide +kernel) (by decide +kernel)
          obtain ⟨F10, N10, _, _, _, _, _, _, _⟩ := toA (s := { s with heap := h10 }) C10
          clear F9 N9
          k_steps
          refine ⟨?_⟩
          show wpAny _ _ (call (.ref 77) [.ref k.g0, .ref a] []) _ _ _
          refine prep_op (s := { s with heap := h10, toks := _, gens := gens3 }) (fx := FX u k L) (tl := tl10) (own := own) C10 (FX.nd K) o10 Z10 h0c hax (fun h' hh' hm' => ?_) ?_ rfl rfl fun h11 tk11 tl11 nx11 pv11 C11 o11 Z11 => ?_
          · by_cases e : h' = k.wh
            · subst e
              rw [upL_self] at hm'
              rcases List.mem_append.mp hm' with hm' | hm'
              · exact offA a A' rfl k.wh hh' hm'
              · exact hab (List.mem_singleton.mp hm')
            · rw [upL_ne e] at hm'
              exact offA a A' rfl h' hh' hm'
          · decide
          obtain ⟨F11, N11, _, _, _, _, _, _, _⟩ := C11
          clear F10 N10
          k_steps
          refine ⟨_, _, _, _, FX u k L ++ tl11, rfl, fun x => x, F11, N11, fun q hq b hb => ?_, tl11, nx11, pv11, _, rfl, Z11, H.stepB hA hB (fun b0 T0 e => by rw [← (List.cons.inj e).1]; exact hle) ?_ ?_ ?_, ⟨rfl, rfl, rfl⟩, rfl⟩
          · rw [List.map_append] at hb
            rcases List.mem_append.mp hb with hb | hb
            · exact hofx q hq b hb
            · exact o11 q hq b hb
          · rw [upL_ne n1, upL_self, f2w]
          · rw [upL_self, upL_ne (Ne.symm n1), f20]; rfl
          · rw [upL_ne (Ne.symm n4), upL_ne (Ne.symm n2), f21]; rfl
  · rintro m1 nw h3 tk3 gens3 ⟨tl, nx, pv, f, rfl, Z, H, hm, hdu⟩ hbr F3 N3
    exfalso
    have h1 := congrArg List.length H.mrg
    rw [List.length_append, H.len, whole_length K, hlen] at h1
    omega
end
end MineN
namespace MineN
theorem rstV13 : True := by
  w_top off
  trivial
open Mine
theorem fillV13 : PySem.Challenge.rw_fc0145_01.Holds → (∀ w : World, (hd.heap_39 w.params).In default) → True := by
  k_fill
  intros
  trivial
local macro_rules | `(tactic| k_steps) => `(tactic| repeat' (first | (k_unfold; (try dsimp only)) | walk1 | (dsimp only; walk1) | fail "no step"))
local macro_rules | `(tactic| walk_at "call ref") => `(tactic| (refine stopN ?_))
local macro_rules | `(tactic| walk_at "binaryOp Add ref ref") => `(tactic| (refine stopN ?_))
local macro_rules | `(tactic| walk_at "compareOp Eq ref ref") => `(tactic| (refine stopN ?_))
local macro_rules | `(tactic| walk_at "subscriptTail") => `(tactic| (k_here; (with_reducible show wpAny _ _ (subscriptTail _ _ (Value.ref _) (Value.int _ _)) _ _ _); (with_unfolding_all refine' item_litK ?k1 ?k2 ?k3 ?k4 ?_ ?k6; (case k1 => exact News.isList (by k_asm) (by assumption)); (case k2 => omega); (case k3 => omega); (case k4 => first | assumption | rfl); (case k6 => with_unfolding_all rfl); k_whole)))
local macro_rules | `(tactic| k_mem) => `(tactic| assumption)
local macro_rules | `(tactic| k_get) => `(tactic| assumption)
section
variable {w : World} {base : Heap} {L fa : Addr} {cd : Value} {m mg mb : Str → Option Value} {mean : ExcName → Option Value}
  {s : Shared} {Q : Flow → Shared → Prop} {E : Value → Shared → Prop} {k : LK} {u : DU} {c : NC} {xs : List Addr} {tl : List (Addr × Obj)} {nx pv : Addr → Option Addr} {f : Addr → List Addr}
theorem seg12 (B : Below callerA base [] base) (F : Fr base L s.heap m) (X : (hd.heap_39 w.params).In base) (T : Top VW LO mean mg mb base) (K : k.Ok) (C : NK k c xs) (N : News base L s.heap (FX u k L ++ tl)) (Z : c.St xs [] tl nx pv f)
    (hw : f k.wh = whole k c xs) (h0 : f k.g0 = []) (h1 : f k.g1 = []) (hm : k.Kn m) (hdu : m (Str.ofString "due") = some (.ref u.dl))
    (hmath : (whole k c xs).map c.ta = insL k.kr (pick k.rs 0 k.rs.length ++ pick k.rs 1 k.rs.length))
    (hQ : ∀ h' tk gens m', Fr base L h' m' → (AllBare s.gens → AllBare gens) → Q (.ret (.bool true)) { s with heap := h', toks := tk, gens := gens }) :
    wpAny (model PR w) (callerA.deeper (lawEnv L fa cd)) (exec (st 12) (lawEnv L fa cd)) Q E s := by
  conv => pattern (st 12); whnf
  unfold lawEnv
  conv => pattern (occs := *) lawScope; all_goals whnf
  have hcn := K.hcn
  have hrs := K.hrs
  have hlen : xs.length = k.rs.length := by rw [← C.rs, List.length_map]
  have hwc : k.wh ∈ c.hs := by rw [C.hs]; unfold LK.hs; simp
  have h0c : k.g0 ∈ c.hs := by rw [C.hs]; unfold LK.hs; simp
  have h1c : k.g1 ∈ c.hs := by rw [C.hs]; unfold LK.hs; simp
  have g2 := K.d2
  have mo2 : (L + 1 + 1, k.o2) ∈ FX u k L ++ tl := List.mem_append_left _ FX.o2
  rw [← kn_eq [(Str.ofString "whole", .ref k.wh), (Str.ofString "halves", .ref k.ll), (Str.ofString "due", .ref u.dl)] (allC (P := fun p => m p.1 = some p.2) hm.whole (allC (P := fun p => m p.1 = some p.2) hm.halves (all1 (P := fun p => m p.1 = some p.2) hdu)))] at F
  dsimp only [kn] at F
  k_steps
  refine ⟨?_⟩
  show wpAny _ _ (call (.ref 256) [.ref k.wh, .int k.cn k.t2] []) _ _ _
  have hl245 : ∀ y ∈ f k.wh, y ∈ c.hs ++ xs ∧ c.Ca y = 245 ∧ c.at_ y = routeAt (.ref (c.ta y)) := fun y hy =>
    have hyx := Z.R.sub k.wh hwc y hy
    ⟨List.mem_append_right _ hyx, (Z.nd y hyx).1, (Z.nd y hyx).2⟩
  have hlw : (f k.wh).length = xs.length := by rw [hw, whole_length K]
  refine row_spec (pre := FX u k L) (tl := tl) (l := f k.wh) (ta := c.ta) (Cx.law F N B X T) Z.S ?_ rfl rfl (Z.H hwc) (Z.R.seg k.wh hwc) hl245 (by omega) (by omega) fun h5 tk5 gens5 r5 k5 C5 lt5 hb5 => ?_
  · decide
  obtain ⟨F5, N5, _, _, _, _, _, _, _⟩ := C5
  have emath : ((f k.wh).map fun y => Value.ref (c.ta y)) = (insL k.kr (pick k.rs 0 k.rs.length ++ pick k.rs 1 k.rs.length)).map Value.ref := by
    rw [← hmath, List.map_map, hw]; rfl
  rw [emath] at N5
  have mdl5 : (u.dl, listOf #[.ref u.d0, .ref u.d1] u.q) ∈ (r5, listOf ((insL k.kr (pick k.rs 0 k.rs.length ++ pick k.rs 1 k.rs.length)).map Value.ref).toArray k5) :: (FX u k L ++ tl) := .tail _ (List.mem_append_left _ FX.dl)
  have md0 : (u.d0, listOf ((pick k.rs 0 k.rs.length).map Value.ref).toArray u.q0) ∈ (r5, listOf ((insL k.kr (pick k.rs 0 k.rs.length ++ pick k.rs 1 k.rs.length)).map Value.ref).toArray k5) :: (FX u k L ++ tl) := .tail _ (List.mem_append_left _ FX.d0)
  have md1 : (u.d1, listOf ((pick k.rs 1 k.rs.length).map Value.ref).toArray u.q1) ∈ (r5, listOf ((insL k.kr (pick k.rs 0 k.rs.length ++ pick k.rs 1 k.rs.length)).map Value.ref).toArray k5) :: (FX u k L ++ tl) := .tail _ (List.mem_append_left _ FX.d1)
  have hx0 : ([.ref u.d0, .ref u.d1] : List Value)[Int.toNat 0]? = some (.ref u.d0) := rfl
  have hx1 : ([.ref u.d0, .ref u.d1] : List Value)[Int.toNat 1]? = some (.ref u.d1) := rfl
  k_steps
  refine ⟨?_⟩
  have hp0 : (pick k.rs 0 k.rs.length).length ≤ k.rs.length := pick_le
  have hp1 : (pick k.rs 1 k.rs.length).length ≤ k.rs.length := pick_le
  have hp2 := pick_two (l := k.rs) (n := k.rs.length)
  refine add_lists (vs := (pick k.rs 0 k.rs.length).map Value.ref) (ws := (pick k.rs 1 k.rs.length).map Value.ref) F5 N5 (News.isList N5 md0) (News.isList N5 md1) (fun h6 F6 N6 => ?_) (by rw [List.length_map, List.length_map, PySem.sizeLine_eq]; omega)
  have el : (pick k.rs 0 k.rs.length).map Value.ref ++ (pick k.rs 1 k.rs.length).map Value.ref = (pick k.rs 0 k.rs.length ++ pick k.rs 1 k.rs.length).map Value.ref := (List.map_append ..).symm
  rw [el] at N6
  have hpl : (pick k.rs 0 k.rs.length ++ pick k.rs 1 k.rs.length).length = k.rs.length := by rw [List.length_append]; exact hp2
  have hpm : ∀ r ∈ pick k.rs 0 k.rs.length ++ pick k.rs 1 k.rs.length, r ∈ k.rs := fun r hr => by
    rcases List.mem_append.mp hr with hr | hr
    · exact pick_mem hr
    · exact pick_mem hr
  clear el md0 md1 mdl5 N5 F5
  generalize pick k.rs 0 k.rs.length ++ pick k.rs 1 k.rs.length = due at *
  k_steps
  refine ⟨?_⟩
  show wpAny _ _ (call (.ref 270) [.ref h5.objs.size] []) _ _ _
  replace N6 : News base L h6 ((h5.objs.size, listOf (due.map Value.ref).toArray 0) :: (r5, listOf ((insL k.kr due).map Value.ref).toArray k5) :: (FX u k L ++ tl)) := N6
  have hrows : ∀ r ∈ due, 0 ≤ k.kr r ∧ k.kr r ≤ 63 ∧ ∃ ik t u', (r, tupObj [.int (k.kr r) t, .int ik u']) ∈ (h5.objs.size, listOf (due.map Value.ref).toArray 0) :: (r5, listOf ((insL k.kr due).map Value.ref).toArray k5) :: (FX u k L ++ tl) := fun r hr => by
    obtain ⟨a1, a2, _, ik, t, u', a3⟩ := row_tup K (L := L) (X := []) (h := h6) (news_sub N6 fun p hp => .tail _ (.tail _ (List.mem_append_left _ (FX.of (by rwa [List.append_nil] at hp))))) (hpm r hr)
    exact ⟨a1, a2, ik, t, u', .tail _ (.tail _ (List.mem_append_left _ (FX.of a3)))⟩
  refine ordered_spec (s := { s with heap := h6, gens := gens5, toks := tk5 + 1 + 1 }) (kr := k.kr) (Cx.law F6 N6 B X T) ?_ rfl rfl (.head _) hrows (by omega) fun h7 tk7 gens7 D7 k7 C7 lt7 hb7 => ?_
  · decide
  obtain ⟨F7, N7, _, _, _, _, _, _, _⟩ := C7
  clear F6 N6
  k_steps
  refine ⟨?_⟩
  refine rows_eq N7 (.tail _ (.tail _ (.head _))) (.head _) (fun r hr => ?_) (by ke_room) ?_
  · obtain ⟨_, _, ik, t, u', hm'⟩ := hrows r (insL_mem hr)
    exact ⟨_, t, ik, u', .tail _ hm'⟩
  replace N7 : News base L h7 ((FX u k L ++ []) ++ tl) := news_sub N7 fun p hp => by simp only [List.mem_cons, List.mem_append, List.not_mem_nil, or_false] at hp ⊢; grind
  have mll : (k.ll, listOf #[.ref k.g0, .ref k.g1] 0) ∈ (FX u k L ++ []) ++ tl := List.mem_append_left _ (List.mem_append_left _ FX.ll)
  have hy0 : ([.ref k.g0, .ref k.g1] : List Value)[Int.toNat 0]? = some (.ref k.g0) := rfl
  have hy1 : ([.ref k.g0, .ref k.g1] : List Value)[Int.toNat 1]? = some (.ref k.g1) := rfl
  obtain ⟨es, nn, hl⟩ := hdL (pre := FX u k L ++ []) (tl := tl) (Cx.law F7 N7 B X T) Z.S (Z.H h0c)
  have l1 := hl.i
  have l2 := hl.d
  have l3 := hl.no (Str.ofString "is_empty") (by decide +kernel) (by decide +kernel) (by decide +kernel) (by decide +kernel)
  k_steps
  refine ⟨?_⟩
  show wpAny _ _ (call (.ref 49) [.ref k.g0] []) _ _ _
  refine empty_op (s := { s with heap := h7, toks := _, gens := gens7 }) (fx := FX u k L) (tl := tl) (own := []) (toB (s := { s with heap := h7 }) (Cx.law F7 N7 B X T)) (FX.nd K) (fun _ h => (by cases h)) Z h0c h0 ?_ rfl rfl fun h8 tk8 tl8 nx8 pv8 C8 o8 Z8 => ?_
  · decide
  obtain ⟨F8, N8, _, _, _, _, _, _, _⟩ := toA (s := { s with heap := h8 }) C8
  clear F7 N7 mll l1 l2 l3
  have mll : (k.ll, listOf #[.ref k.g0, .ref k.g1] 0) ∈ (FX u k L ++ []) ++ tl8 := List.mem_append_left _ (List.mem_append_left _ FX.ll)
  obtain ⟨es8, nn8, hl8⟩ := hdL (pre := FX u k L ++ []) (tl := tl8) (Cx.law F8 N8 B X T) Z8.S (Z8.H h1c)
  have r1 := hl8.i
  have r2 := hl8.d
  have r3 := hl8.no (Str.ofString "is_empty") (by decide +kernel) (by decide +kernel) (by decide +kernel) (by decide +kernel)
  k_steps
  refine ⟨?_⟩
  show wpAny _ _ (call (.ref 49) [.ref k.g1] []) _ _ _
  refine empty_op (s := { s with heap := h8, toks := _, gens := gens7 }) (fx := FX u k L) (tl := tl8) (own := []) (toB (s := { s with heap := h8 }) (Cx.law F8 N8 B X T)) (FX.nd K) (fun _ h => (by cases h)) Z8 h1c h1 ?_ rfl rfl fun h9 tk9 tl9 nx9 pv9 C9 o9 Z9 => ?_
  · decide
  obtain ⟨F9, N9, _, _, _, _, _, _, _⟩ := C9
  k_steps
  exact hQ _ _ _ _ F9 fun x => hb7 (hb5 x)
end
end MineN
namespace MineN
open Mine
/-! what the law reckons: sorting by digits, by insertion, merging -/
def Srt (ky : Addr → Int) (l : List Addr) : Prop := l.Pairwise fun x y => ky x ≤ ky y
/-- a sorted list is told by those of each key, in their order -/
theorem srt_ext {ky : Addr → Int} : ∀ {l l' : List Addr}, Srt ky l → Srt ky l' → (∀ v, l.filter (fun y => ky y == v) = l'.filter (fun y => ky y == v)) → l = l'
  | [], [], _, _, _ => rfl
  | [], b :: t, _, _, h => by
    have := h (ky b)
    rw [List.filter_nil, List.filter_cons_of_pos (by simp)] at this
    cases this
  | a :: r, [], _, _, h => by
    have := h (ky a)
    rw [List.filter_nil, List.filter_cons_of_pos (by simp)] at this
    cases this
  | a :: r, b :: t, s1, s2, h => by
    have c1 := List.pairwise_cons.mp s1
    have c2 := List.pairwise_cons.mp s2
    have ab : ky a ≤ ky b := by
      have : b ∈ (a :: r).filter fun y => ky y == ky b := by rw [h]; simp
      rcases List.mem_cons.mp (List.mem_filter.mp this).1 with e | e
      · rw [e]; exact Int.le_refl _
      · exact c1.1 b e
    have ba : ky b ≤ ky a := by
      have : a ∈ (b :: t).filter fun y => ky y == ky a := by rw [← h]; simp
      rcases List.mem_cons.mp (List.mem_filter.mp this).1 with e | e
      · rw [e]; exact Int.le_refl _
      · exact c2.1 a e
    have e : ky a = ky b := Int.le_antisymm ab ba
    have hv := h (ky a)
    rw [List.filter_cons_of_pos (by simp), List.filter_cons_of_pos (by simp [e])] at hv
    obtain ⟨rfl, hr⟩ := List.cons.inj hv
    congr 1
    refine srt_ext c1.2 c2.2 fun v => ?_
    have := h v
    by_cases q : ky a = v
    · rw [← q]; exact hr
    · rw [List.filter_cons_of_neg (by simpa using q), List.filter_cons_of_neg (by simpa using q)] at this
      exact this
/-! insertion -/
theorem placeOf_le {kr : Addr → Int} {x : Addr} {D : List Addr} : ∀ n, placeOf kr x D n ≤ n
  | 0 => Nat.le_refl _
  | n + 1 => by
    rw [placeOf_succ]
    split
    · exact Nat.le_succ_of_le (placeOf_le n)
    · exact Nat.le_refl _
theorem placeOf_hi {kr : Addr → Int} {x : Addr} {D : List Addr} : ∀ n j, placeOf kr x D n ≤ j → j < n → kr x < kr (D.getD j 0)
  | 0, j, _, h => absurd h (Nat.not_lt_zero _)
  | n + 1, j, h1, h2 => by
    rw [placeOf_succ] at h1
    split at h1
    · rename_i hlt
      by_cases e : j = n
      · rw [e]; exact hlt
      · exact placeOf_hi n j h1 (by omega)
    · omega
theorem placeOf_lo {kr : Addr → Int} {x : Addr} {D : List Addr} : ∀ n j, placeOf kr x D n = j + 1 → kr (D.getD j 0) ≤ kr x
  | 0, j, h => by cases h
  | n + 1, j, h => by
    rw [placeOf_succ] at h
    split at h
    · exact placeOf_lo n j h
    · rename_i hn
      obtain rfl : n = j := by omega
      omega
theorem getD_mem {D : List Addr} {j : Nat} (h : j < D.length) : D.getD j 0 = D[j] := by
  rw [List.getD_eq_getElem?_getD, List.getElem?_eq_getElem h]; rfl
theorem ins1_parts {kr : Addr → Int} {D : List Addr} {x : Addr} (s : Srt kr D) : (∀ y ∈ D.take (placeOf kr x D D.length), kr y ≤ kr x) ∧ ∀ y ∈ D.drop (placeOf kr x D D.length), kr x < kr y := by
  have hp := placeOf_le (kr := kr) (x := x) (D := D) D.length
  refine ⟨fun y hy => ?_, fun y hy => ?_⟩
  · obtain ⟨j, hj, rfl⟩ := List.mem_iff_getElem.mp hy
    rw [List.length_take] at hj
    rw [List.getElem_take]
    obtain ⟨p, hpe⟩ : ∃ p, placeOf kr x D D.length = p + 1 := ⟨placeOf kr x D D.length - 1, by omega⟩
    have h1 := placeOf_lo D.length p hpe
    rw [getD_mem (by omega)] at h1
    by_cases e : j = p
    · subst e; exact h1
    · exact Int.le_trans (List.pairwise_iff_getElem.mp s j p (by omega) (by omega) (by omega)) h1
  · obtain ⟨j, hj, rfl⟩ := List.mem_iff_getElem.mp hy
    rw [List.length_drop] at hj
    rw [List.getElem_drop]
    have h1 := placeOf_hi (kr := kr) (x := x) (D := D) D.length (placeOf kr x D D.length + j) (by omega) (by omega)
    rw [getD_mem (by omega)] at h1
    exact h1
theorem ins1_srt {kr : Addr → Int} {D : List Addr} {x : Addr} (s : Srt kr D) : Srt kr (ins1 kr D x) := by
  obtain ⟨h1, h2⟩ := ins1_parts (x := x) s
  unfold ins1 Srt
  have sp : (D.take (placeOf kr x D D.length) ++ D.drop (placeOf kr x D D.length)).Pairwise fun x y => kr x ≤ kr y := by rw [List.take_append_drop]; exact s
  obtain ⟨p1, p2, p3⟩ := List.pairwise_append.mp sp
  rw [List.append_assoc]
  refine List.pairwise_append.mpr ⟨p1, List.pairwise_cons.mpr ⟨fun y hy => Int.le_of_lt (h2 y hy), p2⟩, fun a ha b hb => ?_⟩
  rcases List.mem_cons.mp hb with rfl | hb
  · exact h1 a ha
  · exact p3 a ha b hb
theorem ins1_flt {kr : Addr → Int} {D : List Addr} {x : Addr} (s : Srt kr D) (v : Int) : (ins1 kr D x).filter (fun y => kr y == v) = D.filter (fun y => kr y == v) ++ [x].filter (fun y => kr y == v) := by
  obtain ⟨h1, h2⟩ := ins1_parts (x := x) s
  have e : D.filter (fun y => kr y == v) = (D.take (placeOf kr x D D.length)).filter (fun y => kr y == v) ++ (D.drop (placeOf kr x D D.length)).filter (fun y => kr y == v) := by rw [← List.filter_append, List.take_append_drop]
  rw [e]
  unfold ins1
  rw [List.filter_append, List.filter_append, List.append_assoc, List.append_assoc]
  congr 1
  by_cases q : kr x = v
  · rw [show (D.drop (placeOf kr x D D.length)).filter (fun y => kr y == v) = [] from List.filter_eq_nil_iff.mpr fun y hy => by
      have := h2 y hy
      simp only [beq_iff_eq]; omega]
    simp
  · rw [show [x].filter (fun y => kr y == v) = [] from List.filter_eq_nil_iff.mpr fun y hy => by rw [List.mem_singleton.mp hy]; simpa using q]
    simp
theorem insF {kr : Addr → Int} : ∀ (l D : List Addr), Srt kr D → Srt kr (l.foldl (ins1 kr) D) ∧ ∀ v, (l.foldl (ins1 kr) D).filter (fun y => kr y == v) = D.filter (fun y => kr y == v) ++ l.filter (fun y => kr y == v)
  | [], D, s => ⟨s, fun v => by rw [List.filter_nil, List.append_nil]; rfl⟩
  | x :: l, D, s => by
    obtain ⟨a, b⟩ := insF l (ins1 kr D x) (ins1_srt s)
    refine ⟨a, fun v => ?_⟩
    rw [List.foldl_cons, b v, ins1_flt s v, List.append_assoc, ← List.filter_append]
    rfl
theorem insL_srt {kr : Addr → Int} (l : List Addr) : Srt kr (insL kr l) := (insF l [] .nil).1
theorem insL_flt {kr : Addr → Int} (l : List Addr) (v : Int) : (insL kr l).filter (fun y => kr y == v) = l.filter (fun y => kr y == v) := by
  have := (insF (kr := kr) l [] .nil).2 v
  rw [List.filter_nil, List.nil_append] at this
  exact this
/-! passes -/
theorem flat_one {L : List Addr} {d : Int} : ∀ n : Nat, ((List.range n).flatMap fun j : Nat => if (j : Int) = d then L else []) = if 0 ≤ d ∧ d < (n : Int) then L else []
  | 0 => by rw [if_neg (by omega)]; rfl
  | n + 1 => by
    rw [List.range_succ, List.flatMap_append, List.flatMap_singleton, flat_one n]
    by_cases e : (n : Int) = d
    · rw [if_pos e, if_neg (by omega), if_pos (by omega), List.nil_append]
    · rw [if_neg e, List.append_nil]
      by_cases q : 0 ≤ d ∧ d < (n : Int)
      · rw [if_pos q, if_pos (by omega)]
      · rw [if_neg q, if_neg (by omega)]
theorem passD_flt {ky : Addr → Int} {bb d : Int} {n : Nat} (l : List Addr) (h : 3 ≤ bb ∧ bb ≤ 4) (hn : bb = (n : Int)) (v : Int) : (passD ky bb n d l).filter (fun y => ky y == v) = l.filter (fun y => ky y == v) := by
  unfold passD
  rw [List.filter_flatMap]
  have e : ∀ j : Nat, (l.filter fun y => digI bb d (ky y) == (j : Int)).filter (fun y => ky y == v) = if (j : Int) = digI bb d v then l.filter (fun y => ky y == v) else [] := fun j => by
    rw [List.filter_filter]
    by_cases q : (j : Int) = digI bb d v
    · rw [if_pos q]
      refine List.filter_congr fun y _ => ?_
      rw [Bool.eq_iff_iff]
      simp only [Bool.and_eq_true, beq_iff_eq]
      refine ⟨fun a => a.1, fun a => ⟨a, by rw [a, q]⟩⟩
    · rw [if_neg q]
      refine List.filter_eq_nil_iff.mpr fun y _ => ?_
      simp only [Bool.and_eq_true, beq_iff_eq]
      rintro ⟨rfl, b⟩
      exact q b.symm
  simp only [e]
  rw [flat_one, if_pos]
  rw [← hn]
  exact digI_lt h
theorem passes_flt {ky : Addr → Int} {bb : Int} {n : Nat} (l : List Addr) (h : 3 ≤ bb ∧ bb ≤ 4) (hn : bb = (n : Int)) (v : Int) : ∀ i, (passes ky bb n l i).filter (fun y => ky y == v) = l.filter (fun y => ky y == v)
  | 0 => rfl
  | i + 1 => by
    show (passD ky bb n (i : Int) (passes ky bb n l i)).filter _ = _
    rw [passD_flt _ h hn, passes_flt l h hn v i]
theorem flat_pw {g : Addr → Int} {R : Addr → Addr → Prop} {l : List Addr} (hR : l.Pairwise R) : ∀ n : Nat, ((List.range n).flatMap fun j : Nat => l.filter fun y => g y == (j : Int)).Pairwise (fun x y => g x < g y ∨ g x = g y ∧ R x y)
  | 0 => .nil
  | n + 1 => by
    rw [List.range_succ, List.flatMap_append, List.flatMap_singleton]
    refine List.pairwise_append.mpr ⟨flat_pw hR n, ?_, fun a ha b hb => ?_⟩
    · have hp := hR.filter fun y => g y == (n : Int)
      refine hp.imp_of_mem fun {a b} ha hb hr => .inr ⟨?_, hr⟩
      have h1 := eq_of_beq (List.mem_filter.mp ha).2
      have h2 := eq_of_beq (List.mem_filter.mp hb).2
      rw [h1, h2]
    · obtain ⟨j, hj, hm⟩ := List.mem_flatMap.mp ha
      have h1 := eq_of_beq (List.mem_filter.mp hm).2
      have h2 := eq_of_beq (List.mem_filter.mp hb).2
      have := List.mem_range.mp hj
      left; rw [h1, h2]; omega
theorem dig_val {bb k : Int} {i : Nat} (h0 : 0 ≤ k) (hb : 3 ≤ bb ∧ bb ≤ 4) : digI bb (i : Int) k = k / bb ^ i % bb := by
  unfold digI
  rw [Int.toNat_natCast]
  have hp : 0 ≤ bb ^ i := Int.pow_nonneg (by omega)
  rw [Int.fdiv_eq_ediv_of_nonneg _ hp, Int.fmod_eq_emod_of_nonneg _ (by omega)]
theorem passes_srt {ky : Addr → Int} {bb : Int} {n : Nat} (l : List Addr) (h : 3 ≤ bb ∧ bb ≤ 4) (hk : ∀ y ∈ l, 0 ≤ ky y ∧ ky y < bb ^ 3) (hn : bb = (n : Int)) : Srt ky (passes ky bb n l 3) := by
  have p0 : l.Pairwise fun _ _ => True := List.pairwise_of_forall fun _ _ => trivial
  have p1 := flat_pw (g := fun y => digI bb ((0 : Nat) : Int) (ky y)) p0 n
  have p2 := flat_pw (g := fun y => digI bb ((1 : Nat) : Int) (ky y)) p1 n
  have p3 := flat_pw (g := fun y => digI bb ((2 : Nat) : Int) (ky y)) p2 n
  have hm : ∀ y ∈ passes ky bb n l 3, 0 ≤ ky y ∧ ky y < bb ^ 3 := fun y hy => hk y ((passes_perm l h hn 3).mem_iff.mp hy)
  refine List.Pairwise.imp_of_mem (R := fun x y => digI bb ((2 : Nat) : Int) (ky x) < digI bb ((2 : Nat) : Int) (ky y) ∨ digI bb ((2 : Nat) : Int) (ky x) = digI bb ((2 : Nat) : Int) (ky y) ∧ (digI bb ((1 : Nat) : Int) (ky x) < digI bb ((1 : Nat) : Int) (ky y) ∨ digI bb ((1 : Nat) : Int) (ky x) = digI bb ((1 : Nat) : Int) (ky y) ∧ (digI bb ((0 : Nat) : Int) (ky x) < digI bb ((0 : Nat) : Int) (ky y) ∨ digI bb ((0 : Nat) : Int) (ky x) = digI bb ((0 : Nat) : Int) (ky y) ∧ True))) (fun {x y} hx hy hr => ?_) p3
  obtain ⟨a0, a1⟩ := hm x hx
  obtain ⟨b0, b1⟩ := hm y hy
  rw [dig_val a0 h, dig_val b0 h, dig_val a0 h, dig_val b0 h, dig_val a0 h, dig_val b0 h] at hr
  generalize ky x = X at *
  generalize ky y = Y at *
  have hb : bb = 3 ∨ bb = 4 := by omega
  rcases hb with rfl | rfl
  · simp only [show (3 : Int) ^ 0 = 1 from rfl, show (3 : Int) ^ 1 = 3 from rfl, show (3 : Int) ^ 2 = 9 from rfl, show (3 : Int) ^ 3 = 27 from rfl, and_true] at hr a1 b1
    omega
  · simp only [show (4 : Int) ^ 0 = 1 from rfl, show (4 : Int) ^ 1 = 4 from rfl, show (4 : Int) ^ 2 = 16 from rfl, show (4 : Int) ^ 3 = 64 from rfl, and_true] at hr a1 b1
    omega
/-! merging -/
theorem mergeL_mem {ky : Addr → Int} {y : Addr} : ∀ {a b : List Addr}, y ∈ mergeL ky a b → y ∈ a ∨ y ∈ b
  | [], b, h => by rw [mergeL_nil] at h; exact .inr h
  | a :: r, [], h => by rw [mergeL_nil'] at h; exact .inl h
  | a :: r, b :: t, h => by
    by_cases q : ky a ≤ ky b
    · rw [mergeL_le q] at h
      rcases List.mem_cons.mp h with e | h
      · exact .inl (by rw [e]; simp)
      · rcases mergeL_mem h with e | e
        · exact .inl (.tail _ e)
        · exact .inr e
    · rw [mergeL_gt q] at h
      rcases List.mem_cons.mp h with e | h
      · exact .inr (by rw [e]; simp)
      · rcases mergeL_mem h with e | e
        · exact .inl e
        · exact .inr (.tail _ e)
termination_by a b => a.length + b.length
theorem mergeL_srt {ky : Addr → Int} : ∀ {a b : List Addr}, Srt ky a → Srt ky b → Srt ky (mergeL ky a b)
  | [], b, _, h => by rw [mergeL_nil]; exact h
  | a :: r, [], h, _ => by rw [mergeL_nil']; exact h
  | a :: r, b :: t, h1, h2 => by
    have c1 := List.pairwise_cons.mp h1
    have c2 := List.pairwise_cons.mp h2
    by_cases q : ky a ≤ ky b
    · rw [mergeL_le q]
      refine List.pairwise_cons.mpr ⟨fun y hy => ?_, mergeL_srt c1.2 h2⟩
      rcases mergeL_mem hy with e | e
      · exact c1.1 y e
      · rcases List.mem_cons.mp e with e | e
        · rw [e]; exact q
        · exact Int.le_trans q (c2.1 y e)
    · rw [mergeL_gt q]
      refine List.pairwise_cons.mpr ⟨fun y hy => ?_, mergeL_srt h1 c2.2⟩
      rcases mergeL_mem hy with e | e
      · rcases List.mem_cons.mp e with e | e
        · rw [e]; omega
        · have := c1.1 y e; omega
      · exact c2.1 y e
termination_by a b => a.length + b.length
theorem mergeL_flt {ky : Addr → Int} {v : Int} : ∀ {a b : List Addr}, Srt ky a → Srt ky b → (mergeL ky a b).filter (fun y => ky y == v) = a.filter (fun y => ky y == v) ++ b.filter (fun y => ky y == v)
  | [], b, _, _ => by rw [mergeL_nil, List.filter_nil, List.nil_append]
  | a :: r, [], _, _ => by rw [mergeL_nil', List.filter_nil, List.append_nil]
  | a :: r, b :: t, h1, h2 => by
    have c1 := List.pairwise_cons.mp h1
    have c2 := List.pairwise_cons.mp h2
    by_cases q : ky a ≤ ky b
    · rw [mergeL_le q]
      have ih := mergeL_flt (v := v) c1.2 h2
      by_cases e : ky a = v
      · rw [List.filter_cons_of_pos (by simpa using e), List.filter_cons_of_pos (by simpa using e), ih]; rfl
      · rw [List.filter_cons_of_neg (by simpa using e), List.filter_cons_of_neg (by simpa using e), ih]
    · rw [mergeL_gt q]
      have ih := mergeL_flt (v := v) h1 c2.2
      by_cases e : ky b = v
      · have z : (a :: r).filter (fun y => ky y == v) = [] := List.filter_eq_nil_iff.mpr fun y hy => by
          simp only [beq_iff_eq]
          rcases List.mem_cons.mp hy with hy | hy
          · rw [hy]; omega
          · have := c1.1 y hy; omega
        have e1 : ∀ l : List Addr, (b :: l).filter (fun y => ky y == v) = b :: l.filter (fun y => ky y == v) := fun l => List.filter_cons_of_pos (by simpa using e)
        rw [e1, ih, z, e1]; rfl
      · have e1 : ∀ l : List Addr, (b :: l).filter (fun y => ky y == v) = l.filter (fun y => ky y == v) := fun l => List.filter_cons_of_neg (by simpa using e)
        rw [e1, ih, e1]
termination_by a b => a.length + b.length
/-! what the two meet in -/
theorem pick_map {ta : Addr → Addr} {xs : List Addr} {r : Nat} : (pick xs r xs.length).map ta = pick (xs.map ta) r (xs.map ta).length := by
  unfold pick
  rw [List.map_map, List.length_map]
  refine List.map_congr_left fun j hj => ?_
  have hjl := List.mem_range.mp (List.mem_filter.mp hj).1
  show ta (xs.getD j 0) = (xs.map ta).getD j 0
  rw [getD_mem hjl, getD_mem (by rw [List.length_map]; exact hjl), List.getElem_map]
theorem srt_map {kr : Addr → Int} {ta : Addr → Addr} {l : List Addr} (h : Srt (fun y => kr (ta y)) l) : Srt kr (l.map ta) := List.pairwise_map.mpr h
theorem flt_map {kr : Addr → Int} {ta : Addr → Addr} {l : List Addr} (v : Int) : (l.map ta).filter (fun y => kr y == v) = (l.filter fun y => kr (ta y) == v).map ta := by rw [List.filter_map]; rfl
section
variable {k : LK} {c : NC} {xs : List Addr}
theorem half_srt (K : k.Ok) (hk : ∀ y ∈ xs, 0 ≤ kyOf k c y ∧ kyOf k c y < k.bb ^ 3) (r : Nat) : Srt (kyOf k c) (half k c xs r) := passes_srt _ K.hbb (fun y hy => hk y (pick_mem hy)) K.hps.symm
theorem half_flt (K : k.Ok) (r : Nat) (v : Int) : (half k c xs r).filter (fun y => kyOf k c y == v) = (pick xs r xs.length).filter (fun y => kyOf k c y == v) := passes_flt _ K.hbb K.hps.symm v 3
theorem half_eq (K : k.Ok) (C : NK k c xs) (hk : ∀ y ∈ xs, 0 ≤ kyOf k c y ∧ kyOf k c y < k.bb ^ 3) (r : Nat) : (half k c xs r).map c.ta = insL k.kr (pick k.rs r k.rs.length) := by
  refine srt_ext (srt_map (half_srt K hk r)) (insL_srt _) fun v => ?_
  rw [insL_flt, flt_map, ← C.rs, ← pick_map, flt_map]
  exact congrArg _ (half_flt K r v)
theorem whole_eq (K : k.Ok) (C : NK k c xs) (hk : ∀ y ∈ xs, 0 ≤ kyOf k c y ∧ kyOf k c y < k.bb ^ 3) : (whole k c xs).map c.ta = insL k.kr (pick k.rs 0 k.rs.length ++ pick k.rs 1 k.rs.length) := by
  have s0 := half_srt K hk 0
  have s1 := half_srt K hk 1
  refine srt_ext (srt_map (mergeL_srt s0 s1)) (insL_srt _) fun v => ?_
  rw [insL_flt, flt_map, List.filter_append, ← C.rs, ← pick_map, ← pick_map, flt_map, flt_map, ← List.map_append]
  congr 1
  show (mergeL (kyOf k c) (half k c xs 0) (half k c xs 1)).filter (fun y => kyOf k c y == v) = _
  rw [mergeL_flt s0 s1, half_flt K, half_flt K]
  rfl
end
end MineN
namespace MineN
open Mine
section
variable {M : Model} {A : Around} {env : Env} {Q : Flow → Shared → Prop} {E : Value → Shared → Prop} {s : Shared}
theorem execs_appW {Γ : Ctx} {P : Flow → Pos → Shared → Prop} {X : Value → Pos → Shared → Prop} {bs : List Stmt} : ∀ {as : List Stmt} {p : Pos} {s : Shared},
    Sem.wp M Γ (execs as env) (fun f p' s' => match f with | .next => Sem.wp M Γ (execs bs env) P X p' s' | f => P f p' s') X p s → Sem.wp M Γ (execs (as ++ bs) env) P X p s
  | [], p, s, h => h
  | a :: as, p, s, h => by
    rw [execs_cons, Sem.wp_bind'] at h
    rw [List.cons_append, execs_cons, Sem.wp_bind']
    refine Sem.wp_mono M Γ _ (fun f p' s' h' => ?_) (fun _ _ _ h' => h') _ _ h
    cases f <;> first | exact execs_appW h' | exact h'
theorem execs_app {as bs : List Stmt} {s : Shared} (h : wpAny M A (execs as env) (fun f s' => match f with | .next => wpAny M A (execs bs env) Q E s' | f => Q f s') E s) : wpAny M A (execs (as ++ bs) env) Q E s := fun Γ p hΓ => by
  refine execs_appW (Sem.wp_mono M Γ _ (fun f p' s' h' => ?_) (fun _ _ _ h' => h') _ _ (h Γ p hΓ))
  cases f <;> first | exact h' Γ p' hΓ | exact h'
theorem execs_one {a : Stmt} {s : Shared} (h : wpAny M A (exec a env) Q E s) : wpAny M A (execs [a] env) Q E s := wpAny_execs_cons (wpAny_mono h (fun f s' h' => by cases f <;> first | exact wpAny_execs_nil h' | exact h') fun _ _ e => e)
end
theorem lawBody_eq : lawBody = [st 0, st 1, st 2, st 3] ++ [st 4] ++ [st 5] ++ [st 6] ++ [st 7, st 8] ++ [st 9] ++ [st 10] ++ [st 11] ++ [st 12] := by kernel_rfl
section
variable {w : World} {base : Heap} {L fa sc : Addr} {cd : Value} {mg mb : Str → Option Value} {mean : ExcName → Option Value} {s : Shared} {Q : Flow → Shared → Prop} {E : Value → Shared → Prop}
  {vs : List Value} {ns : List Int} {o1 o2 o3 o4 o5 : Obj}
theorem law_back {k : LK} {m : Str → Option Value} {tl : List (Addr × Obj)} (B : Below callerA base [] base) (F : Fr base L s.heap m) (X : (hd.heap_39 w.params).In base) (T : Top VW LO mean mg mb base) (K : k.Ok) (hm : k.Kn m) (N : News base L s.heap (k.fx L ++ tl)) (Z : HD tl k.mt k.dm k.hs)
    (hE : PassesOwn (model PR w) (callerA.deeper (lawEnv L fa cd)) (lawEnv L fa cd) E)
    (hQ : ∀ h' tk gens m', Fr base L h' m' → (AllBare s.gens → AllBare gens) → Q (.ret (.bool true)) { s with heap := h', toks := tk, gens := gens }) :
    wpAny (model PR w) (callerA.deeper (lawEnv L fa cd)) (execs ([st 6] ++ ([st 7, st 8] ++ ([st 9] ++ ([st 10] ++ ([st 11] ++ [st 12]))))) (lawEnv L fa cd)) Q E s := by
  refine execs_app (execs_one ?_)
  with_reducible refine seg6 B F X T K hm N Z hE ?_
  intro h1 tk1 gens1 m1 nw1 F1 N1 J1 b1
  dsimp only
  obtain ⟨c, tl1, xs, nx1, pv1, f1, rfl, c1, c2, c3, S1, e1, e2, e3, hm1⟩ := J1
  rw [List.take_length] at e1
  have C : NK k c xs := ⟨c3, e1⟩
  have hk : ∀ y ∈ xs, 0 ≤ kyOf k c y ∧ kyOf k c y < k.bb ^ 3 := fun y hy => by
    obtain ⟨a1, _, a3, _⟩ := row_tup K N1 (show c.ta y ∈ k.rs by rw [← e1]; exact List.mem_map.mpr ⟨y, hy, rfl⟩)
    exact ⟨a1, a3⟩
  refine execs_app ?_
  with_reducible refine seg8 B F1 X T K hm1 N1 S1 C e2 e3 hE ?_
  intro h2 tk2 gens2 m2 tl2 nx2 pv2 f2 F2 N2 S2 D2 hm2 b2
  dsimp only
  refine execs_app (execs_one ?_)
  with_reducible refine seg9 B F2 X T K hm2 N2 ?_
  intro h3 tk3 m3 dl d0 d1 q q0 q1 F3 hm3 hdu3 N3
  dsimp only
  have J3 : J10 ⟨dl, d0, d1, q, q0, q1⟩ k c xs L 0 m3 (FX ⟨dl, d0, d1, q, q0, q1⟩ k L ++ tl2) :=
    ⟨tl2, nx2, pv2, f2, rfl, S2, ⟨by rw [D2.wh, List.drop_length], by rw [if_neg (by decide)]; exact D2.h0, by rw [if_neg (by decide)]; exact D2.h1, D2.hp⟩, hm3, hdu3⟩
  have N3' : News base L h3 (FX ⟨dl, d0, d1, q, q0, q1⟩ k L ++ tl2) := by
    unfold FX DU.l; rw [List.append_assoc]; exact N3
  refine execs_app (execs_one ?_)
  with_reducible refine seg10 B F3 X T K C (fun i _ => half_eq K C hk i) N3' J3 hE ?_
  intro h4 tk4 gens4 m4 nw4 F4 N4 J4 b4
  dsimp only
  obtain ⟨tl4, nx4, pv4, f4, rfl, S4, H4, hm4, hdu4⟩ := J4
  have J5 : J11 ⟨dl, d0, d1, q, q0, q1⟩ k c xs L 0 m4 (FX ⟨dl, d0, d1, q, q0, q1⟩ k L ++ tl4) :=
    ⟨tl4, nx4, pv4, f4, rfl, S4, ⟨by rw [H4.wh]; rfl, by rw [H4.wh, H4.h0, H4.h1, if_pos (by decide), if_pos (by decide)]; rfl⟩, hm4, hdu4⟩
  refine execs_app (execs_one ?_)
  with_reducible refine seg11 B F4 X T K C N4 J5 hE ?_
  intro h5 tk5 gens5 m5 tl5 nx5 pv5 f5 F5 N5 S5 w5 g05 g15 hm5 hdu5 b5
  dsimp only
  refine execs_one ?_
  with_reducible refine seg12 B F5 X T K C N5 S5 w5 g05 g15 hm5 hdu5 (whole_eq K C hk) ?_
  intro h6 tk6 gens6 m6 F6 b6
  exact hQ _ _ _ _ F6 fun x => b6 (b5 (b4 (b2 (b1 x))))
theorem law_all (B : Below callerA base [] base) (F : Fr base L s.heap (fun y => if y = Str.ofString "script" then some (.ref sc) else none)) (X : (hd.heap_39 w.params).In base) (T : Top VW LO mean mg mb base)
    (N : News base L s.heap [(L + 1 + 1 + 1 + 1 + 1, o5), (L + 1 + 1 + 1 + 1, o4), (L + 1 + 1 + 1, o3), (L + 1 + 1, o2), (L + 1, o1)])
    (d5 : o5.data = .cell none) (d4 : o4.data = .cell none) (d3 : o3.data = .cell none) (d2 : o2.data = .cell none) (d1 : o1.data = .cell none)
    (hL : base.IsList sc vs.toArray) (hI : IntsAre vs ns) (hn : ns.length ≤ 63)
    (hE : PassesOwn (model PR w) (callerA.deeper (lawEnv L fa cd)) (lawEnv L fa cd) E)
    (hQ : ∀ h' tk gens m', Fr base L h' m' → (AllBare s.gens → AllBare gens) → Q (.ret (.bool true)) { s with heap := h', toks := tk, gens := gens }) :
    wpAny (model PR w) (callerA.deeper (lawEnv L fa cd)) (execs lawBody (lawEnv L fa cd)) Q E s := by
  rw [lawBody_eq]
  simp only [List.append_assoc]
  refine execs_app ?_
  with_reducible refine segA B F X T N d5 d4 d3 d2 d1 hL hI hn ?_
  intro h1 tk1 m1 cl cvs cs o1' o2' o3' o4' mk dmk t2 t3 F1 N1 hI1 hcs e1 e2 e3 e4 l1 l2 l3
  dsimp only
  have hcn : 1 ≤ 1 + (cs.getD 0 0).fmod 9 ∧ 1 + (cs.getD 0 0).fmod 9 ≤ 9 := by
    have a := Int.fmod_nonneg_of_pos (cs.getD 0 0) (b := 9) (by decide)
    have b := Int.fmod_lt_of_pos (cs.getD 0 0) (b := 9) (by decide)
    omega
  have hbb : 3 ≤ 3 + ((cs.getD 0 0).fdiv 9).fmod 2 ∧ 3 + ((cs.getD 0 0).fdiv 9).fmod 2 ≤ 4 := by
    have a := Int.fmod_nonneg_of_pos ((cs.getD 0 0).fdiv 9) (b := 2) (by decide)
    have b := Int.fmod_lt_of_pos ((cs.getD 0 0).fdiv 9) (b := 2) (by decide)
    omega
  generalize 1 + (cs.getD 0 0).fmod 9 = cn at e2 hcn
  generalize 3 + ((cs.getD 0 0).fdiv 9).fmod 2 = bb at e3 hbb
  refine execs_app (execs_one ?_)
  with_reducible refine segB B F1 X T N1 e1 e2 e3 e4 d5 l1 l2 l3 hbb ?_
  intro h2 tk2 m2 ll pl pk ps wh g0 g1 tl F2 q1 q2 q3 N2 Z2 hps
  dsimp only
  refine execs_app (execs_one ?_)
  with_reducible refine segC B F2 X T N2 e1 e2 e3 d5 hI1 hcs Z2 hbb hcn ?_
  intro h3 tk3 m3 rl rk rs pt o5' F3 N3 e5 hrs hrow hpt hmm
  dsimp only
  subst hmm
  obtain ⟨k, hk⟩ : ∃ k : LK, k = { cl := cl, ll := ll, pl := pl, rl := rl, wh := wh, g0 := g0, g1 := g1, mt := mk, dm := dmk, pk := pk, rk := rk, ps := ps, rs := rs, cvs := cvs, cs := cs, cn := cn, bb := bb, t2 := t2, t3 := t3, pt := pt, o1 := o1', o2 := o2', o3 := o3', o4 := o4', o5 := o5' } := ⟨_, rfl⟩
  have K : k.Ok := by subst hk; exact ⟨e1, e2, e3, e4, e5, hI1, hcs, hbb, hcn, hps, hrs, hrow, hpt⟩
  have hm : k.Kn m3 := by subst hk; exact ⟨q1, q2, q3⟩
  have NK : News base L h3 (k.fx L ++ tl) := by subst hk; unfold LK.fx; rw [List.append_assoc]; exact N3
  have ZK : HD tl k.mt k.dm k.hs := by subst hk; exact Z2
  with_reducible refine law_back B F3 X T K hm NK ZK hE ?_
  intro h4 tk4 gens4 m4 F4 b4
  exact hQ _ _ _ _ F4 b4
end
end MineN
namespace MineN
theorem rstW3 : True := by
  w_top off
  trivial
open Mine
set_option maxHeartbeats 400000 in
theorem t1 : PySem.Challenge.rw_fc0145_01.Holds := hd (by
  k_fill
  intro w s₀ s₁ mg mb G Y fa o pm cd doc dV kV ho hd hcd hD hmg hg args vals as hpre hlay hrd hwl hlo
  have KX := kIn_of Y
  have X := (Ground.X G).1
  have V := (Ground.X G).2
  try w_nolog (first | (have GL := glob_more (Ground.glob G (by first | k_qdec | decide +kernel) (by first | k_qdec | decide +kernel)) V) | (have GL := glob_more (Ground.glob G (by decide +kernel)) V))
  refine Ground.open G ?_
  intro T B D TE TW
  try (refine guard_noD D (by decide +kernel) ?_; clear D)
  obtain ⟨_, _, M⟩ := bmod_of_top T
  have TA := at_of_top T
  clear hmg
  wrow_args hpre hlay hrd hwl hlo
  refine enter_call ?_
  w_top on
  have K0 := below_caller (Top.heap T)
  w_call any ho hd hcd hD T F
  clear hd TA
  k_drop
  rename_i ns _ _ _ _ _ _ _ _ vs _ hL _ _ _ hI _ hlen _ h1 tk1 o5 o4 o3 o2 o1 d5 d4 d3 d2 d1 N0 _
  change wpAny (model PR _) (callerA.deeper (lawEnv _ _ _)) (execs lawBody (lawEnv _ _ _)) _ _ _
  with_reducible refine' law_all (ns := ns) (vs := vs) (o1 := o1) (o2 := o2) (o3 := o3) (o4 := o4) (o5 := o5) ?B ?F ?X ?T ?N ?d5 ?d4 ?d3 ?d2 ?d1 ?hL ?hI ?hn ?hE ?hQ
  case B => exact K0
  case X => exact KX
  case T => exact T
  case N => exact N0
  case hL => exact hL
  case hI => exact hI
  case hn => omega
  case hE => passes_own
  case F => exact F
  case d5 => exact d5
  case d4 => exact d4
  case d3 => exact d3
  case d2 => exact d2
  case d1 => exact d1
  intro h' tk gens m' F' hb
  have hb' : AllBare gens := hb (by rw [hg]; exact fun y hy => by simp at hy)
  refine goodWG_of (s' := { s₁ with heap := h', toks := tk }) hb' ?_
  wrow_close
  )
end MineN
theorem PySem.Challenge.cw_fc0145_01_holds : PySem.Challenge.rw_fc0145_01.Holds :=
  MineN.t1
