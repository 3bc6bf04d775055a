import PyProof.Rows.All
import Wide.All
import OpenK.AllK
import Wide.FinOn
import Lean
import PySem.Challenge.RW_aj5039_02
set_option Elab.async false
set_option linter.unusedVariables false
section
open PySem PySem.W PyProof.Rows
set_option maxRecDepth 100000
namespace Mine
section
variable {prog : Program} {w : World} {A : Around} {E : Value → Shared → Prop} {s : Shared} {h₀ : Heap} {L d : Addr} {m : Str → Option Value} {news : List (Addr × Obj)} {g : Obj → List (Addr × Obj)} {o : Obj} {kvs : List (Int × Value)} {k : Int} {t : Tok} {v : Value}

theorem lru_pop {Q : Value → Shared → Prop} (F : Fr h₀ L s.heap m) (N : News h₀ L s.heap news) (U : UpdF d o news g) (hd : o.IsDictOf (PySem.intKind prog w) kvs) (hv : valueAt kvs k = some v) (hsz : kvs.length ≤ sizeLine)
    (h : ∀ h' o', Fr h₀ L h' m → News h₀ L h' (g o') → o'.IsDictOf (PySem.intKind prog w) (without kvs k) → Q v { s with heap := h', toks := s.toks + 1 }) :
    wpAny (model prog w) A (call (.builtin "dict.pop") [.ref d, .int k t]) Q E s := by
  obtain ⟨pre, post, rfl, hg, a, b⟩ := U.split
  have hm := N (d, o) (List.mem_append_right _ (.head _))
  have hD : s.heap.DictOf (PySem.intKind prog w) d kvs := Heap.dictOf_iff.mpr ⟨o, hm.1, hd⟩
  refine call_meetsIn PySem.F.slot_dict_pop hD.typeIs PySem.F.entry_dict_pop (PySem.F.args_dict_pop_2 _ _) (meets_dict_pop_there (PySem.intKind prog w) d (intKind_is prog w k t) [] (.inl rfl) rfl) ⟨kvs, v, hD, hsz, hv, fun h' hmm hs => ?_⟩
  obtain ⟨o', ho', hd'⟩ := Heap.dictOf_iff.mp hmm
  exact h h' o' (F.change hs hm.2.1 hm.2.2) (hg o' ▸ N.setIn a b hs ho') hd'

theorem lru_pop_miss {Q : Value → Shared → Prop} (hh : A.handled = none) (N : News h₀ L s.heap news) (hp : (d, o) ∈ news) (hd : o.IsDictOf (PySem.intKind prog w) kvs) (lo : (d == sysModules) = false) (hv : valueAt kvs k = none)
    (h : ∀ h' e, Heap.NewExc s.heap h' e "KeyError" → E (.ref e) { s with heap := h', toks := s.toks + 1 }) :
    wpAny (model prog w) A (call (.builtin "dict.pop") [.ref d, .int k t]) Q E s := by
  have hD : s.heap.DictOf (PySem.intKind prog w) d kvs := Heap.dictOf_iff.mpr ⟨o, (N _ hp).1, hd⟩
  exact call_meetsIn PySem.F.slot_dict_pop hD.typeIs PySem.F.entry_dict_pop (PySem.F.args_dict_pop_2 _ _) (meets_dict_pop_missing (PySem.intKind prog w) d (intKind_is prog w k t) lo rfl) ⟨hh, kvs, hD, hv, h⟩

theorem lru_pop_dflt {dflt : Value} {Q : Value → Shared → Prop} (N : News h₀ L s.heap news) (hp : (d, o) ∈ news) (hd : o.IsDictOf (PySem.intKind prog w) kvs) (lo : (d == sysModules) = false) (hv : valueAt kvs k = none)
    (h : Q dflt { s with toks := s.toks + 1 }) : wpAny (model prog w) A (call (.builtin "dict.pop") [.ref d, .int k t, dflt]) Q E s := by
  have hD : s.heap.DictOf (PySem.intKind prog w) d kvs := Heap.dictOf_iff.mpr ⟨o, (N _ hp).1, hd⟩
  exact call_meetsIn PySem.F.slot_dict_pop hD.typeIs PySem.F.entry_dict_pop (PySem.F.args_dict_pop_3 _ _ _) (meets_dict_pop_default (PySem.intKind prog w) d (intKind_is prog w k t) lo rfl dflt) ⟨kvs, hD, hv, h⟩

theorem any_none (hv : valueAt kvs k = none) : (kvs.any fun kv => decide (kv.1 = k)) = false := by
  unfold valueAt at hv
  rw [Option.map_eq_none_iff, List.find?_eq_none] at hv
  rw [List.any_eq_false]
  exact hv
theorem stored_new (hv : valueAt kvs k = none) : stored kvs k v = kvs ++ [(k, v)] := by
  unfold stored
  rw [any_none hv]
  exact if_neg Bool.false_ne_true
theorem without_none : valueAt (without kvs k) k = none := by
  unfold valueAt without
  rw [Option.map_eq_none_iff, List.find?_eq_none]
  intro x hx
  have := (List.mem_filter.mp hx).2
  simpa using this

theorem lru_set_new {Q : Unit → Shared → Prop} (F : Fr h₀ L s.heap m) (N : News h₀ L s.heap news) (U : UpdF d o news g) (hd : o.IsDictOf (PySem.intKind prog w) kvs) (hv : valueAt kvs k = none) (hsz : kvs.length ≤ sizeLine)
    (h : ∀ h' o', Fr h₀ L h' m → News h₀ L h' (g o') → o'.IsDictOf (PySem.intKind prog w) (kvs ++ [(k, v)]) → Q () { s with heap := h', toks := s.toks + 1 }) : wpAny (model prog w) A (setItem (.ref d) (.int k t) v) Q E s :=
  kda_set F N U hd (intKind_is prog w k t) hsz fun h' o' F' N' hd' => h h' o' F' N' (by rw [stored_new hv] at hd'; exact hd')
end
end Mine
end
section
open PySem PySem.W PyProof.Rows PySem.Calls PyProof.V PySem.Spec
set_option maxRecDepth 100000
namespace Mine
theorem mem_frames {env : Env} {L b : Addr} {outer : List Env} (hf : env.frame = some L) (hm : b ∈ (env :: outer).filterMap (·.frame)) : b = L ∨ b ∈ outer.filterMap (·.frame) := by
  rw [List.filterMap_cons_some (b := L) hf] at hm
  exact List.mem_cons.mp hm
theorem none_back {g G : Heap} (k : ∀ b o, g.get? b = some o → G.get? b = some o) {b : Addr} (e : G.get? b = none) : g.get? b = none := by
  cases q : g.get? b with
  | none => rfl
  | some o => rw [k b o q] at e; cases e
theorem none_turn {fs : List Addr} {g g' : Heap} (T : KtsTurn fs g g') {b : Addr} (e : g'.get? b = none) : g.get? b = none := by
  cases q : g.get? b with
  | none => rfl
  | some o => obtain ⟨sl, hs⟩ := T.up q; rw [hs] at e; cases e
theorem self_none {g h : Heap} {L : Addr} {m : Str → Option Value} (F : Fr g L h m) : g.get? L = none := by
  cases q : g.get? L with
  | none => rfl
  | some o => exact absurd (Nat.lt_of_lt_of_le (Heap.lt_size q) F.above) (Nat.lt_irrefl _)

section
variable {prog : Program} {w : World} {A₀ A : Around} {s : Shared} {base h₀ g₀ : Heap} {outer : List Env} {L : Addr} {m : Str → Option Value} {env : Env} {news : List (Addr × Obj)} {K : Frag} {p : Program} {loose : List Str} {mean : ExcName → Option Value} {mg mb : Str → Option Value}
  {R : Result → Shared → Prop} {name qual : Str} {params : Arguments} {body : List Stmt} {scope : Scope} {cl : List (Str × Addr)} {dV kV doc pm cdv ct : Value} {an : Option Addr} {fo : Obj} {f : Addr} {args : Args} {binds : List (Str × Value)}

/-- what a frame's namespace needs of its object, through a turn of its slots -/
theorem ns_turned {g g' h : Heap} {fs : List Addr} (F : Fr h₀ L g m) (T : KtsTurn fs g g') (k : ∀ b o, g'.get? b = some o → h.get? b = some o) : h.Ns L m ∧ g'.get? L ≠ none := by
  obtain ⟨oL, es, ep, hL, hd, hk, hv⟩ := F.ns
  obtain ⟨sl, hs⟩ := T.up hL
  exact ⟨⟨_, es, ep, k _ _ hs, hd, hk, hv⟩, fun e => by rw [hs] at e; cases e⟩

/-- a call out of any frame, back to it through a ground whose frames were turned -/
theorem callT (B : Below A₀ base outer h₀) (F : Fr h₀ L s.heap m) (X₀ : K.In h₀) (N : News h₀ L s.heap news) (T : Top p loose mean mg mb h₀) (XB : K.In base) (TB : Top p loose mean mg mb base) (D : KtsDicts (outer.filterMap (·.frame)) h₀)
    (T0 : KtsTurn (outer.filterMap (·.frame)) g₀ h₀) (hA : A.frames = some (env :: outer)) (hf : env.frame = some L) (hke : env.scope.kind = .function)
    (ho : s.heap.get? f = some fo) (hd : fo.data = .func (fnX name qual params body scope cl dV kV doc pm an cdv ct)) (hcd : s.heap.CodeRec cdv qual) (hroom : A.depth < recursionLimit)
    (hbind : BindsTo s (fnX name qual params body scope cl dV kV doc pm an cdv ct) args binds) (hloc : ∀ y ∈ binds, scope.names.lookup y.1 = some .local)
    (h : ∀ g L' h₁, Fr h₀ L g m → Fr g L' h₁ (fun y => binds.reverse.lookup y) → News g L' h₁ news → Below A base (env :: outer) g → K.In g → Top p loose mean mg mb g → KtsDicts ((env :: outer).filterMap (·.frame)) g → (∀ p ∈ news, p.1 < L') →
      wpAny (model prog w) (A.deeper (envX qual scope L' f cdv cl)) (execs body (envX qual scope L' f cdv cl))
        (fun fl s' => LeaveS ((env :: outer).filterMap (·.frame)) A₀ base outer K p loose mean mg mb g₀ h₀ L m g R (match fl with | .ret v => v | _ => .none) s')
        (fun e s' => wpAny (model prog w) (A.deeper (envX qual scope L' f cdv cl)) (leaving (envX qual scope L' f cdv cl) e) (fun _ s'' => R (.error e) s'') (fun e' s'' => R (.error e') s'') s')
        { s with heap := h₁, toks := s.toks + binds.length })
    (hcell : ∀ x ∈ scope.names, x.2 ≠ .cell) (hco : scope.isCoroutine = false) (hgen : scope.isGenerator = false) (hk : scope.kind = .function) : codeAny (model prog w) A (.call (.ref f) args) R s := by
  obtain ⟨FG, BG, st, _⟩ := groundX (R := R) B F N hA hf hke
  refine codeAny_call_def (fd := fnX name qual params body scope cl dV kV doc pm an cdv ct) (body := body) (binds := binds) hroom ho hd (T.nolimit.keeps F.keep) hcd rfl hbind hcell hloc (fun h₁ hns hk₁ => ?_) hco hgen hk
  have DG : KtsDicts ((env :: outer).filterMap (·.frame)) (hideAll s.heap (news.map (·.1))) := fun b hb => by
    rcases mem_frames hf hb with rfl | hb
    · obtain ⟨oL, es, ep, hL, hd, _⟩ := FG.ns
      exact ⟨oL, es, ep, hL, hd⟩
    · obtain ⟨o, es, n, ho, hd⟩ := D b hb
      exact ⟨o, es, n, st b o ho, hd⟩
  refine wpAny_mono (h _ s.heap.objs.size h₁ FG ⟨hns, fun b o e => hk₁ b o (of_hideAll _ e), Nat.le_of_eq (hideAll_size _ _)⟩
    (fun p hp => ⟨hk₁ _ _ (N p hp).1, Nat.ne_of_lt (Heap.lt_size (N p hp).1), hideAll_none _ (List.mem_map_of_mem hp)⟩) BG (X₀.keeps st) (T.keeps st) DG (fun p hp => Heap.lt_size (N p hp).1)) (fun fl s' hl => ?_) fun _ _ y => y
  have nL := self_none F
  have key : ∀ g' L' m' news', KtsTurn ((env :: outer).filterMap (·.frame)) (hideAll s.heap (news.map (·.1))) g' → Fr g' L' s'.heap m' → News g' L' s'.heap news' →
      ∃ h₀', KtsTurn (outer.filterMap (·.frame)) h₀ h₀' ∧ Fr h₀' L s'.heap m ∧ News h₀' L s'.heap news' ∧ Below A₀ base outer h₀' := by
    intro g' L' m' news' T' F' N'
    obtain ⟨ns', hLn⟩ := ns_turned (h := s'.heap) FG T' F'.keep
    have back : ∀ b o, h₀.get? b = some o → ∃ sl, s'.heap.get? b = some { o with slots := sl } := fun b o e => by
      obtain ⟨sl, hs⟩ := T'.up (st b o e)
      exact ⟨sl, F'.keep _ _ hs⟩
    obtain ⟨T₁, S₁⟩ := kts_turn_at (h := s'.heap) (fs := outer.filterMap (·.frame)) (g := h₀)
      (fun b hb => let ⟨_, o, ho', _⟩ := B.frames.mem hb; ⟨o, ho'⟩)
      (fun b o e nm => F'.keep b o (T'.other b o (st b o e) fun q => (mem_frames hf q).elim (fun z => by rw [z, nL] at e; cases e) nm))
      (fun b o e _ => back b o e)
    refine ⟨_, T₁, ⟨ns', S₁, by rw [T₁.size]; exact F.above⟩, fun p hp => ⟨(N' p hp).1, fun q => hLn (q ▸ (N' p hp).2.2), ?_⟩, ⟨B.stack, fun b o e => T₁.other b o (B.stays b o e) fun hm => ?_, B.frames.of_keeps fun b o e _ => ?_⟩⟩
    · exact T₁.none_ _ (none_back (fun b o => st b o) (none_turn T' (N' p hp).2.2))
    · rw [(B.frames.mem hm).1] at e; cases e
    · obtain ⟨sl, hs⟩ := T₁.up e; exact ⟨_, hs, rfl⟩
  rcases hl with ⟨L', m', news', F', N', k⟩ | ⟨g', L', m', news', T', F', N', k⟩
  · have Tr : KtsTurn ((env :: outer).filterMap (·.frame)) (hideAll s.heap (news.map (·.1))) (hideAll s.heap (news.map (·.1))) := KtsTurn.refl
    obtain ⟨ns', hLn⟩ := ns_turned (h := s'.heap) FG Tr F'.keep
    exact k ⟨ns', fun b o e => F'.keep b o (st b o e), F.above⟩ fun p hp => ⟨(N' p hp).1, fun q => hLn (q ▸ (N' p hp).2.2), none_back (fun b o => st b o) (N' p hp).2.2⟩
  · obtain ⟨h₀', T₁, F₁, N₁, B₁⟩ := key g' L' m' news' T' F' N'
    exact k h₀' (T0.trans T₁) F₁ N₁ B₁ (XB.keeps B₁.stays) (TB.keeps B₁.stays) (D.turn T₁)

/-- the same out of the outermost frame: its ground stays -/
theorem callT0 (B : Below A₀ h₀ [] h₀) (F : Fr h₀ L s.heap m) (X₀ : K.In h₀) (N : News h₀ L s.heap news) (T : Top p loose mean mg mb h₀) (hA : A.frames = some [env]) (hf : env.frame = some L) (hke : env.scope.kind = .function)
    (ho : s.heap.get? f = some fo) (hd : fo.data = .func (fnX name qual params body scope cl dV kV doc pm an cdv ct)) (hcd : s.heap.CodeRec cdv qual) (hroom : A.depth < recursionLimit)
    (hbind : BindsTo s (fnX name qual params body scope cl dV kV doc pm an cdv ct) args binds) (hloc : ∀ y ∈ binds, scope.names.lookup y.1 = some .local)
    (h : ∀ g L' h₁, Fr h₀ L g m → Fr g L' h₁ (fun y => binds.reverse.lookup y) → News g L' h₁ news → Below A h₀ [env] g → K.In g → Top p loose mean mg mb g → KtsDicts ([env].filterMap (·.frame)) g → (∀ p ∈ news, p.1 < L') →
      wpAny (model prog w) (A.deeper (envX qual scope L' f cdv cl)) (execs body (envX qual scope L' f cdv cl))
        (fun fl s' => LeaveS0 ([env].filterMap (·.frame)) h₀ L m g R (match fl with | .ret v => v | _ => .none) s')
        (fun e s' => wpAny (model prog w) (A.deeper (envX qual scope L' f cdv cl)) (leaving (envX qual scope L' f cdv cl) e) (fun _ s'' => R (.error e) s'') (fun e' s'' => R (.error e') s'') s')
        { s with heap := h₁, toks := s.toks + binds.length })
    (hcell : ∀ x ∈ scope.names, x.2 ≠ .cell) (hco : scope.isCoroutine = false) (hgen : scope.isGenerator = false) (hk : scope.kind = .function) : codeAny (model prog w) A (.call (.ref f) args) R s := by
  refine callT (g₀ := h₀) (outer := []) B F X₀ N T X₀ T ktsDicts_nil KtsTurn.refl hA hf hke ho hd hcd hroom hbind hloc (fun g L' h₁ a b c d e f' g' l => wpAny_mono (h g L' h₁ a b c d e f' g' l) (fun fl s' hl => ?_) fun _ _ y => y) hcell hco hgen hk
  obtain ⟨g', L', m', news', T', F', N', k⟩ := hl
  refine .inr ⟨g', L', m', news', T', F', N', fun h₀' T₁ F₁ N₁ _ _ _ _ => k ⟨F₁.ns, fun b o e => F₁.keep b o (T₁.other b o e (by simp)), F.above⟩ fun p hp => ⟨(N₁ p hp).1, (N₁ p hp).2.1, none_turn T₁ (N₁ p hp).2.2⟩⟩
end

section
variable {M : Model} {A : Around} {E : Value → Shared → Prop} {s : Shared}
theorem looks_first {base : Heap} {env : Env} {outer : List Env} {L e : Addr} {oe : Obj} {vs : Array Value} {a0 : Value} {Q : Unit → Shared → Prop}
    (hfr : A.frames = some (env :: outer)) (hl : s.heap.FunFrames base (env :: outer)) (hf : env.frame = some L)
    (he : s.heap.get? e = some oe) (hkb : base.StaysIn s.heap) (hen : base.get? e = none) (hd : oe.data = .fields vs) (h1 : vs[1]? = some .none) (h0 : vs[0]? = some a0)
    (h : ∀ h', Heap.HeldW base (env :: outer) e oe.cls a0 L h' → s.heap.UpToSlots h' → Q () { s with heap := h' }) : wpAny M A (noteFrame (.ref e) env) Q E s := by
  unfold noteFrame
  simp only [hf]
  refine wpAny_bind (wpAny_field he hd h1 ?_)
  rw [if_neg (by decide)]
  exact wpAny_entryW hfr hl hf he hkb hen hd (Array.getElem?_eq_some_iff.mp h1).1 h0 fun h' hN => by
    obtain ⟨k1, k2, k3, k4⟩ := hN
    exact h h' ⟨k1, hen, k2, k3⟩ k4
end
section
variable {prog : Program} {w : World} {A₀ : Around} {E : Value → Shared → Prop} {s' : Shared} {base g g₀ h : Heap} {outer : List Env} {L a e : Addr} {m : Str → Option Value} {name : Str} {scope : Scope} {cd : Value}
  {b₀ : Stmt} {suite : List Stmt} {pos np : Pos} {rest : List ExceptHandler} {Q : Flow → Shared → Prop} {news : List (Addr × Obj)}
  {KF : Frag} {p : Program} {loose : List Str} {mean : ExcName → Option Value} {mg mb : Str → Option Value} {x : Str} {X T' : String}
/-- an exception that a built-in raises in a frame of any depth, caught by that frame's own clause -/
theorem caught_own (K : Below A₀ base outer g) (hx : Heap.NewExc h s'.heap e X) (F : Fr g L h m) (N : News g L h news) (XB : KF.In base) (TB : Top p loose mean mg mb base)
    (D : KtsDicts (outer.filterMap (·.frame)) g) (T0 : KtsTurn (outer.filterMap (·.frame)) g₀ g)
    (ex : nsIn KF mainGlobals x = some none) (hv : bootBuiltins x = some (.type T')) (hn' : x ≠ "__name__")
    (hexc : isSubtype (.type T') (.type "BaseException") = pure true) (hnt : isSubtype (.type ((Manifest.find? T').elim "type" fun y => y.metatype)) (.type "tuple") = pure false) (hsub : isSubtype (.type X) (.type T') = pure true)
    (k : ∀ h' g', KtsTurn (outer.filterMap (·.frame)) g₀ g' → Fr g' L h' m → News g' L h' news → Below A₀ base outer g' → KF.In g' → Top p loose mean mg mb g' → KtsDicts (outer.filterMap (·.frame)) g' →
      wpAny (model prog w) ((A₀.deeper (envOf name scope L a cd)).mark (some (.ref e))) (execs (b₀ :: suite) (envOf name scope L a cd)) Q E { s' with heap := h' })
    (hk : scope.kind = .function := by rfl) (hxk : (envOf name scope L a cd).kindOf x = some .globalImplicit := by rfl) (hd : (x == ("__debug__" : Str)) = false := by decide)
    (hE : PassesOwnAt (model prog w) ((A₀.deeper (envOf name scope L a cd)).mark (some (.ref e))) (A₀.deeper (envOf name scope L a cd)) (envOf name scope L a cd) E := by passes_own) :
    wpAny (model prog w) (A₀.deeper (envOf name scope L a cd)) (noteFrame (.ref e) (envOf name scope L a cd))
      (fun _ s₂ => wpAny (model prog w) (A₀.deeper (envOf name scope L a cd)) (setFlight (.ref e) none) (fun _ s₃ =>
        wpAny (model prog w) (A₀.deeper (envOf name scope L a cd)) (handleBy (.ref e) (envOf name scope L a cd) (.ExceptHandler (some (.Name x np)) none (b₀ :: suite) pos :: rest)) Q E s₃) E s₂) E s' := by
  have K' := K.push (name := name) (a := a) (cd := cd) F hk
  have hfe : (envOf name scope L a cd).frame = some L := rfl
  have hin : ∀ env ∈ (envOf name scope L a cd :: outer), ∀ b, env.frame = some b → b ∈ (envOf name scope L a cd :: outer).filterMap (·.frame) := fun env he b hb => List.mem_filterMap.mpr ⟨env, he, hb⟩
  -- what may not turn: all but the frames
  have sg : ∀ b o, h.get? b = some o → b ∉ (envOf name scope L a cd :: outer).filterMap (·.frame) → (hideAll h ((envOf name scope L a cd :: outer).filterMap (·.frame))).get? b = some o := fun b o q nm => hideAll_get _ q nm
  have hl : ∀ q ∈ news, q.1 ∉ (envOf name scope L a cd :: outer).filterMap (·.frame) := fun q hq hm => by
    rcases mem_frames hfe hm with z | z
    · exact (N q hq).2.1 z
    · obtain ⟨o, ho, _⟩ := (K.frames.mem z).2
      rw [(N q hq).2.2] at ho; cases ho
  obtain ⟨ob, tp, he, hcls, hdt⟩ := hx.there
  have hen : (hideAll h ((envOf name scope L a cd :: outer).filterMap (·.frame))).get? e = none := by
    cases q : (hideAll h ((envOf name scope L a cd :: outer).filterMap (·.frame))).get? e with
    | none => rfl
    | some o => have := of_hideAll _ q; rw [hx.new] at this; cases this
  refine looks_first (a0 := tp) K'.stack ((funFrames_hide K'.frames hin).of_keeps fun b o hb _ => ⟨o, hx.keeps b o hb, rfl⟩) rfl he (fun b o hb => hx.keeps b o (of_hideAll _ hb)) hen hdt rfl rfl fun h₄ hheld₄ hsm₄ => ?_
  refine wpAny_landsW hheld₄ fun h₅ hheld hsm₅' => ?_
  have hsm₅ : h.UpToSlots h₅ := ((Heap.UpToSlots.of_keeps hx.keeps).trans hsm₄).trans hsm₅'
  obtain ⟨g₅, T₅, F₅, K₅⟩ := kts_ground K F sg hheld.1 hsm₅
  obtain ⟨ob', hob, hobc⟩ := hheld.there
  rw [hcls] at hobc
  refine wpAny_handleBy_builtin (X := X) (T := T') (b := true) hexc hnt hsub (name_B F₅ (XB.keeps K₅.stays) (topRead_of (TB.keeps K₅.stays)) ex hv hn' ⟨rfl, ⟨ob', hob, hobc⟩, ?_⟩ hk hxk hd)
  refine lands_againW hheld fun h₆ hfl₆ hsm₆ => ?_
  obtain ⟨g₆, T₆, F₆, K₆⟩ := kts_ground K F sg hfl₆.1 (hsm₅.trans hsm₆)
  have Nl : News g₆ L h₆ news := fun q hq => ⟨hfl₆.1 _ _ (sg _ _ (N q hq).1 (hl q hq)), (N q hq).2.1, T₆.none_ _ (N q hq).2.2⟩
  exact wpAny_passesOwnAt hE (k h₆ g₆ (T0.trans T₆) F₆ Nl K₆ (XB.keeps K₆.stays) (TB.keeps K₆.stays) (D.turn T₆))
end
end Mine
end
section
open PySem PySem.W PyProof.Rows PySem.Calls PyProof.V PySem.Spec
set_option maxRecDepth 100000
namespace Mine
section
variable {prog : Program} {w : World} {A₀ A : Around} {s : Shared} {base h₀ g₀ : Heap} {outer : List Env} {L : Addr} {m : Str → Option Value} {env : Env} {news : List (Addr × Obj)} {K : Frag} {p : Program} {loose : List Str} {mean : ExcName → Option Value} {mg mb : Str → Option Value}
  {R : Result → Shared → Prop} {name qual : Str} {params : Arguments} {body : List Stmt} {scope : Scope} {dV kV doc pm cdv ct oc : Value} {an od : Option Addr} {osl : Array (Option Value)} {f : Addr} {args : Args} {binds : List (Str × Value)}
theorem callTK (B : Below A₀ base outer h₀) (F : Fr h₀ L s.heap m) (X₀ : K.In h₀) (N : News h₀ L s.heap news) (T : Top p loose mean mg mb h₀) (XB : K.In base) (TB : Top p loose mean mg mb base) (D : KtsDicts (outer.filterMap (·.frame)) h₀)
    (T0 : KtsTurn (outer.filterMap (·.frame)) g₀ h₀) (hA : A.frames = some (env :: outer)) (hf : env.frame = some L) (hke : env.scope.kind = .function)
    (ho : K.lookup f = some ⟨oc, od, .func (fnOf name qual params body scope dV kV doc pm an cdv ct), osl⟩) (hcd : codeIn K cdv qual = true) (hroom : A.depth < recursionLimit)
    (hbind : BindsTo s (fnOf name qual params body scope dV kV doc pm an cdv ct) args binds) (hloc : ∀ y ∈ binds, scope.names.lookup y.1 = some .local)
    (h : ∀ g L' h₁, Fr h₀ L g m → Fr g L' h₁ (fun y => binds.reverse.lookup y) → News g L' h₁ news → Below A base (env :: outer) g → K.In g → Top p loose mean mg mb g → KtsDicts ((env :: outer).filterMap (·.frame)) g → (∀ p ∈ news, p.1 < L') →
      wpAny (model prog w) (A.deeper (envOf qual scope L' f cdv)) (execs body (envOf qual scope L' f cdv))
        (fun fl s' => LeaveS ((env :: outer).filterMap (·.frame)) A₀ base outer K p loose mean mg mb g₀ h₀ L m g R (match fl with | .ret v => v | _ => .none) s')
        (fun e s' => wpAny (model prog w) (A.deeper (envOf qual scope L' f cdv)) (leaving (envOf qual scope L' f cdv) e) (fun _ s'' => R (.error e) s'') (fun e' s'' => R (.error e') s'') s')
        { s with heap := h₁, toks := s.toks + binds.length })
    (hcell : ∀ x ∈ scope.names, x.2 ≠ .cell) (hco : scope.isCoroutine = false) (hgen : scope.isGenerator = false) (hk : scope.kind = .function) : codeAny (model prog w) A (.call (.ref f) args) R s :=
  callT (cl := []) B F X₀ N T XB TB D T0 hA hf hke ((X₀.keeps F.keep) _ _ ho) rfl (codeRec_of (X₀.keeps F.keep) hcd) hroom hbind hloc h hcell hco hgen hk
theorem callT0K (B : Below A₀ h₀ [] h₀) (F : Fr h₀ L s.heap m) (X₀ : K.In h₀) (N : News h₀ L s.heap news) (T : Top p loose mean mg mb h₀) (hA : A.frames = some [env]) (hf : env.frame = some L) (hke : env.scope.kind = .function)
    (ho : K.lookup f = some ⟨oc, od, .func (fnOf name qual params body scope dV kV doc pm an cdv ct), osl⟩) (hcd : codeIn K cdv qual = true) (hroom : A.depth < recursionLimit)
    (hbind : BindsTo s (fnOf name qual params body scope dV kV doc pm an cdv ct) args binds) (hloc : ∀ y ∈ binds, scope.names.lookup y.1 = some .local)
    (h : ∀ g L' h₁, Fr h₀ L g m → Fr g L' h₁ (fun y => binds.reverse.lookup y) → News g L' h₁ news → Below A h₀ [env] g → K.In g → Top p loose mean mg mb g → KtsDicts ([env].filterMap (·.frame)) g → (∀ p ∈ news, p.1 < L') →
      wpAny (model prog w) (A.deeper (envOf qual scope L' f cdv)) (execs body (envOf qual scope L' f cdv))
        (fun fl s' => LeaveS0 ([env].filterMap (·.frame)) h₀ L m g R (match fl with | .ret v => v | _ => .none) s')
        (fun e s' => wpAny (model prog w) (A.deeper (envOf qual scope L' f cdv)) (leaving (envOf qual scope L' f cdv) e) (fun _ s'' => R (.error e) s'') (fun e' s'' => R (.error e') s'') s')
        { s with heap := h₁, toks := s.toks + binds.length })
    (hcell : ∀ x ∈ scope.names, x.2 ≠ .cell) (hco : scope.isCoroutine = false) (hgen : scope.isGenerator = false) (hk : scope.kind = .function) : codeAny (model prog w) A (.call (.ref f) args) R s :=
  callT0 (cl := []) B F X₀ N T hA hf hke ((X₀.keeps F.keep) _ _ ho) rfl (codeRec_of (X₀.keeps F.keep) hcd) hroom hbind hloc h hcell hco hgen hk
end
section
variable {M : Model} {A : Around} {E : Value → Shared → Prop} {s : Shared} {K : Frag} {x C L f : Addr} {h₀ : Heap} {m : Str → Option Value} {ox : Obj} {od : Option Obj} {i v : Value}
/-- del o[i] of an own class with __delitem__ -/
theorem own_delItem {Q : Unit → Shared → Prop} (F : Fr h₀ L s.heap m) (X₀ : K.In h₀) (I : InstAt s.heap x ox C od) (hq : noSeq K C = true) (hs : findIn K (.ref C) "__delitem__" = some (some (.ref f))) (hf : isFn K (.ref f) = true)
    (h : wpAny M A (call (.ref f) [.ref x, i]) (fun _ s' => Q () s') E s) : wpAny M A (delItem (.ref x) i) Q E s := by
  have X := X₀.keeps F.keep
  show wpAny M A (holding [.ref x, i] _) Q E s
  refine wpAny_holding ?_
  unfold sequenceKey
  refine wpAny_bind (wpAny_bind (I.type.here (wpAny_bind ((anyM_none X hq).here ?_))))
  exact wpAny_pure (wpAny_bind (special_fn X I hs (beq_iff_eq.mp hf) (wpAny_mono h (fun _ _ z => wpAny_pure z) fun _ _ z => z)))
end
theorem News.drop1 {h₀ h : Heap} {L : Addr} {p : Addr × Obj} {r : List (Addr × Obj)} (N : News h₀ L h (p :: r)) : News h₀ L h r := fun q hq => N q (.tail _ hq)
theorem News.keep1 {h₀ h : Heap} {L : Addr} {p q : Addr × Obj} {r : List (Addr × Obj)} (N : News h₀ L h (p :: q :: r)) : News h₀ L h (p :: r) := fun z hz => N z ((List.mem_cons.mp hz).elim (fun e => e ▸ .head _) fun e => .tail _ (.tail _ e))
end Mine
end
section
open PySem PySem.W PyProof.Rows PySem.Calls PyProof.V PySem.Spec
set_option maxRecDepth 100000
namespace Mine
section
variable {prog : Program} {w : World} {A : Around} {E : Value → Shared → Prop} {s : Shared} {a b : Addr} {S S' : Int → Bool} {n n' : Nat}

theorem entry_set_le : entryFor table "set.__le__" = some Builtin.«frozenset.__le__» := entryFor_alias (id' := "frozenset.__le__") (by kernel_rfl) rfl (by decide +kernel) (by kernel_rfl)
theorem entry_set_ne : entryFor table "set.__ne__" = some Builtin.«frozenset.__ne__» := entryFor_alias (id' := "frozenset.__ne__") (by kernel_rfl) rfl (by decide +kernel) (by kernel_rfl)

theorem isAnySet_of {Q : Bool → Shared → Prop} (hT : s.TypeIs (.ref a) "set") (h : Q true s) : wpAny (model prog w) A (Builtin.Frozenset.isAnySet (.ref a)) Q E s := by
  unfold Builtin.Frozenset.isAnySet
  unfold orM
  refine wpAny_bind (wpAny_isInstance hT sub_set_self ?_)
  exact wpAny_pure h

theorem sizeOf_of {Q : Nat → Shared → Prop} (hS : s.heap.SetOf (PySem.intKind prog w) a S n) (h : Q n s) : wpAny (model prog w) A (Builtin.Frozenset.sizeOf a) Q E s := by
  obtain ⟨o, es, ep, t, ho, _, hd, _, _, _, hf, hn⟩ := hS
  unfold Builtin.Frozenset.sizeOf
  exact wpAny_bind (wpAny_setEntries_of ho hd hf (wpAny_pure (by rw [hn]; exact h)))

theorem quiet_int {x : Value} {Q : Bool → Shared → Prop} (hk : ∃ k, (PySem.intKind prog w).is k x = true) (h : Q true s) : wpAny (model prog w) A (Builtin.Frozenset.quietEq x) Q E s := by
  obtain ⟨k, hk⟩ := hk
  obtain ⟨t, rfl⟩ := Value.isInt_shape hk
  exact wpAny_pure h

/-- a loop over a list that goes on at every item -/
theorem for_on {α β : Type} {M : Model} {f : α → β → Sem (ForInStep β)} {b : β} {Q : β → Shared → Prop} : ∀ (l : List α), (∀ x ∈ l, ∀ (P : ForInStep β → Shared → Prop), P (.yield b) s → wpAny M A (f x b) P E s) → Q b s → wpAny M A (forIn l b f) Q E s
  | [], _, h => by rw [List.forIn_nil]; exact wpAny_pure h
  | x :: l, hf, h => by
    rw [List.forIn_cons]
    exact wpAny_bind (hf x (.head _) _ (for_on l (fun y hy => hf y (.tail _ hy)) h))

theorem walkUnseen_of {Q : List (Int × Value) → Shared → Prop} (hS : s.heap.SetOf (PySem.intKind prog w) a S n) (hS' : s.heap.SetOf (PySem.intKind prog w) b S' n')
    (h : ∀ es, ElemsOf (PySem.intKind prog w) es → (∀ k, S k = true ↔ ∃ e ∈ es, (PySem.intKind prog w).is k e.2 = true) → Q es s) : wpAny (model prog w) A (Builtin.Frozenset.walkUnseen a b) Q E s := by
  obtain ⟨o, es, ep, t, ho, _, hd, hel, hmem, _, hf, hn⟩ := hS
  obtain ⟨o', es', ep', t', ho', _, hd', hel', _, _, hf', _⟩ := hS'
  unfold Builtin.Frozenset.walkUnseen
  refine wpAny_bind (wpAny_setEntries_of ho hd hf (wpAny_bind (wpAny_setEntries_of ho' hd' hf' (wpAny_bind ?_))))
  refine for_on (es.toList ++ es'.toList) (fun x hx P hP => ?_) ?_
  · have hk : ∃ k, (PySem.intKind prog w).is k x.2 = true := (List.mem_append.mp hx).elim (fun q => hel.keys x q) fun q => hel'.keys x q
    refine wpAny_bind (quiet_int hk ?_)
    exact wpAny_pure hP
  · exact wpAny_pure (h es.toList hel hmem)

theorem unchanged_of {id : String} {was : Nat} {Q : Unit → Shared → Prop} {o : Obj} {es : Array (Int × Value)} {t : SetTable} (ho : s.heap.get? a = some o) (hd : o.data = .set es was t) (hf : t.fits es.size = true) (h : Q () s) :
    wpAny (model prog w) A (Builtin.Frozenset.unchanged id a was) Q E s := by
  unfold Builtin.Frozenset.unchanged
  refine wpAny_bind (wpAny_setEpoch_of ho hd hf ?_)
  simp only [bne_self_eq_false, Bool.false_eq_true, ↓reduceIte]
  exact wpAny_pure h

theorem subsetOf_true {id : String} {Q : Bool → Shared → Prop} (hS : s.heap.SetOf (PySem.intKind prog w) a S n) (hS' : s.heap.SetOf (PySem.intKind prog w) b S' n') (hle : n ≤ n') (hsub : ∀ k, S k = true → S' k = true) (h : Q true s) :
    wpAny (model prog w) A (Builtin.Frozenset.subsetOf id a b) Q E s := by
  unfold Builtin.Frozenset.subsetOf
  refine wpAny_bind (sizeOf_of hS (wpAny_bind (sizeOf_of hS' ?_)))
  rw [if_neg (Nat.not_lt.mpr hle)]
  obtain ⟨o, es, ep, t, ho, hx, hd, hel, hmem, hb, hf, hn⟩ := _root_.id hS
  refine wpAny_bind (wpAny_setEpoch_of ho hd hf (wpAny_bind (walkUnseen_of hS hS' fun es' hel' hmem' => wpAny_bind ?_)))
  refine for_on es' (fun x hx P hP => ?_) ?_
  · obtain ⟨⟨k, hk, hh⟩, hsc⟩ := hel' x hx
    dsimp only
    rw [hh]
    refine wpAny_bind (wpAny_holding (wpAny_setFind_of hk hsc hS' fun r hr => ?_))
    have hS'k : S' k = true := hsub k ((hmem' k).mpr ⟨x, hx, hk⟩)
    rw [hS'k] at hr
    obtain ⟨i, rfl⟩ := Option.isSome_iff_exists.mp hr
    simp only [Option.isNone_some, Bool.false_eq_true, ↓reduceIte]
    exact wpAny_bind (unchanged_of ho hd hf (wpAny_pure hP))
  · exact wpAny_pure h
end
end Mine
end
section
open PySem PySem.W PyProof.Rows PySem.Calls PyProof.V PySem.Spec
set_option maxRecDepth 100000
namespace Mine
section
variable {prog : Program} {w : World} {A : Around} {E : Value → Shared → Prop} {s : Shared} {a b : Addr} {S S' : Int → Bool} {n n' : Nat}
theorem entry_set_eq : entryFor table "set.__eq__" = some Builtin.«frozenset.__eq__» := entryFor_alias (id' := "frozenset.__eq__") (by kernel_rfl) rfl (by decide +kernel) (by kernel_rfl)
theorem slot1_two {name : String} {x y : Value} {Q : Value × Value → Shared → Prop} (h : Q (x, y) s) : wpAny (model prog w) A (Builtin.Frozenset.slot1 name ⟨[x, y], []⟩) Q E s := by
  unfold Builtin.Frozenset.slot1 slotArgs
  simp only [List.isEmpty_nil, Bool.not_true, Bool.false_eq_true, ↓reduceIte, List.length_cons, List.length_nil, bne_self_eq_false, pure_bind]
  exact wpAny_pure h
theorem set_le_true {Q : Value → Shared → Prop} (hu : A.units < cLine) (hS : s.heap.SetOf (PySem.intKind prog w) a S n) (hS' : s.heap.SetOf (PySem.intKind prog w) b S' n') (hle : n ≤ n') (hsub : ∀ k, S k = true → S' k = true)
    (h : Q (.bool true) s) : wpAny (model prog w) A (compareOp .LtE (.ref a) (.ref b)) Q E s := by
  refine cmp_ofLtE (wpAny_richCompare_same_room hS.typeIs hS'.typeIs PySem.F.slot_set_le (wpAny_call_entry PySem.F.slot_set_le hS.typeIs entry_set_le ?_ (PySem.F.args_set_le_2 _ _)) hu)
  unfold Builtin.«frozenset.__le__»
  refine wpAny_bind (slot1_two (wpAny_bind (isAnySet_of hS'.typeIs ?_)))
  simp only [Bool.not_true, Bool.false_eq_true, ↓reduceIte]
  refine wpAny_bind (wpAny_pure (wpAny_bind (wpAny_pure (wpAny_bind (sizeOf_of hS (wpAny_bind (sizeOf_of hS' ?_)))))))
  exact wpAny_bind (subsetOf_true hS hS' hle hsub (wpAny_pure ⟨_, rfl, (by intro e; cases e), h⟩))

theorem sub_set_frozen : isSubtype (.type "set") (.type "frozenset") = pure false := by rw [isSubtype_type]; kernel_rfl
theorem notFrozen {Q : Bool → Shared → Prop} {b' : Value} (hT : s.TypeIs (.ref a) "set") (h : Q false s) : wpAny (model prog w) A (isInstance (.ref a) (.type "frozenset") <&&> isInstance b' (.type "frozenset")) Q E s := by
  unfold andM
  exact wpAny_bind (wpAny_isInstance (b := false) hT sub_set_frozen (wpAny_pure h))

theorem set_ne_false {Q : Value → Shared → Prop} (hu : A.units < cLine) (hS : s.heap.SetOf (PySem.intKind prog w) a S n) (hS' : s.heap.SetOf (PySem.intKind prog w) b S' n') (hn : n = n') (hsub : ∀ k, S k = true → S' k = true)
    (h : Q (.bool false) s) : wpAny (model prog w) A (compareOp .NotEq (.ref a) (.ref b)) Q E s := by
  refine cmp_ofNotEq (wpAny_richCompare_same_room hS.typeIs hS'.typeIs PySem.F.slot_set_ne (wpAny_call_entry PySem.F.slot_set_ne hS.typeIs entry_set_ne ?_ (PySem.F.args_set_ne_2 _ _)) hu)
  unfold Builtin.«frozenset.__ne__»
  refine wpAny_bind (slot1_two (wpAny_bind (isAnySet_of hS'.typeIs ?_)))
  simp only [Bool.not_true, Bool.false_eq_true, ↓reduceIte]
  refine wpAny_bind (wpAny_pure (wpAny_bind (wpAny_pure (wpAny_bind (sizeOf_of hS (wpAny_bind (sizeOf_of hS' ?_)))))))
  subst hn
  simp only [bne_self_eq_false, Bool.false_eq_true, ↓reduceIte]
  refine wpAny_bind (wpAny_bind (notFrozen hS.typeIs ?_))
  simp only [Bool.false_eq_true, ↓reduceIte]
  exact subsetOf_true hS hS' (Nat.le_refl _) hsub (wpAny_pure ⟨_, rfl, (by intro e; cases e), h⟩)
end
end Mine
end
section
open PySem PySem.W PyProof.Rows PySem.Calls PyProof.V PySem.Spec
set_option maxRecDepth 100000
namespace Mine
section
variable {prog : Program} {w : World} {A : Around} {E : Value → Shared → Prop} {s : Shared}

set_option maxHeartbeats 3200000 in
/-- set(x) of a thing that gives ints -/
theorem call_set_src {T : String} {r d : Addr} {n : Nat} {P : Nat → Value → Prop} {OK : Heap → Prop} {Q : Value → Shared → Prop} (src : KdlSrc prog w T r d n P OK) (hok : OK s.heap)
    (hs1 : isSubtype (.type T) (.type "set") = pure false) (hs2 : isSubtype (.type T) (.type "frozenset") = pure false) (hs3 : (Value.type T == Value.type "dict") = false) (hh : A.handled = none)
    (val : Nat → Int) (hval : ∀ i v, P i v → ∃ t, v = .int (val i) t) (hb : n + 1 < scanBound)
    (h : ∀ (h' : Heap) (tk : Nat), h'.SetOf (PySem.intKind prog w) s.heap.objs.size (fun k' => (firstMet val n).any (· == k')) (firstMet val n).length →
      (∀ b o, b < s.heap.objs.size → s.heap.get? b = some o → h'.get? b = some o) → Q (.ref s.heap.objs.size) { s with heap := h', toks := tk }) :
    wpAny (model prog w) A (call (.type "set") [.ref r]) Q E s := by
  obtain ⟨c, tl, hmro⟩ := PySem.F.called_set.mro
  have hmade := PySem.F.called_set.made
  have hsub := PySem.F.called_set.sub
  refine wpAny_call (codeAny_of_tree ?_)
  show wpAny _ _ (callAny (.type "set") _) _ _ _
  refine wpAny_pure ⟨Code.quiet_builtin _ (by decide +kernel), codeAny_builtin PySem.F.entry_type_call ?_⟩
  rw [Around.under_plain (weight_type_call_type "set" [.ref r] []) rfl]
  have h1 := PySem.F.called_set.notType
  have h2 := PySem.F.called_set.canCreate
  have hct := PySem.F.typeCall_set_1 (.ref r)
  repeat (any_goals (first | assumption | wp_step))
  refine codeAny_mono (code_set_new_1 (.ref r) (E := E) (Q₁ := fun obj s₁ => ∃ led : Bool, obj = .ref s.heap.objs.size ∧ s₁ = { s with heap := s.heap.push { cls := .type "set", dict := none, data := .set #[] 0 (.fresh 0 0 led) } }) fun led => ⟨led, rfl, rfl⟩) fun rr s₁ hr => ?_
  cases rr with
  | error e => exact hr
  | ok fl =>
    cases fl with
    | ret obj =>
      obtain ⟨led, rfl, rfl⟩ := hr
      have hS : (s.heap.push { cls := .type "set", dict := none, data := .set #[] 0 (.fresh 0 0 led) }).get? s.heap.objs.size = some { cls := .type "set", dict := none, data := .set #[] 0 (.fresh 0 0 led) } := Heap.get?_push_size _ rfl
      have hT : Shared.TypeIs { s with heap := s.heap.push { cls := .type "set", dict := none, data := .set #[] 0 (.fresh 0 0 led) } } (.ref s.heap.objs.size) "set" := ⟨_, hS, rfl⟩
      have hli := PySem.F.called_set.init.lookup
      have hbi := PySem.F.called_set.init.bind (.ref s.heap.objs.size)
      repeat (any_goals (first | assumption | wp_step))
      refine codeAny_mono (codeAny_call_builtin (R := wants (fun r s₂ => r = .none ∧ ∃ h' tk, s₂ = { s with heap := h', toks := tk } ∧
          h'.SetOf (PySem.intKind prog w) s.heap.objs.size (fun k' => (firstMet val n).any (· == k')) (firstMet val n).length ∧
          (∀ b o, b < s.heap.objs.size → s.heap.get? b = some o → h'.get? b = some o)) E) PySem.F.called_set.init.plain PySem.F.entry_set_init (check_set_init_1 hT ?_)) fun r₂ s₂ hr₂ => ?_
      · have hok1 : OK (s.heap.push { cls := .type "set", dict := none, data := .set #[] 0 (.fresh 0 0 led) }) := src.keep _ _ hok fun b _ o e => Heap.get?_push_of_some _ e
        have hTr : Shared.TypeIs { s with heap := s.heap.push { cls := .type "set", dict := none, data := .set #[] 0 (.fresh 0 0 led) } } (.ref r) T := src.type _ hok1
        obtain ⟨or_, hor, hcr⟩ := hTr
        obtain ⟨ocls, odict, odata, oslots⟩ := or_
        simp only at hcr
        subst hcr
        unfold Builtin.«set.__init__» noKeywords Builtin.Frozenset.updateFrom
        generalize hPI : pyIter = PI
        wp_walk
        subst hPI
        obtain ⟨hr1, hd1⟩ := src.there _ hok
        have hh3 : A.in1.in1.in1.handled = none := by simp [hh]
        obtain ⟨oI, St, hit, W, hst⟩ := src.iter A.in1.in1.in1 { s with heap := s.heap.push { cls := .type "set", dict := none, data := .set #[] 0 (.fresh 0 0 led) } } hh3 hok1
        refine wpAny_of_in1 (hit _ _ ?_)
        refine wpAny_bind (wpAny_runValue ?_)
        have hrS : r < s.heap.objs.size := hr1
        have hSf : s.heap.objs.size ∉ [(s.heap.push { cls := .type "set", dict := none, data := .set #[] 0 (.fresh 0 0 led) }).objs.size, d] := by
          rw [Heap.size_push]; simp only [List.mem_cons, List.not_mem_nil, or_false, not_or]
          exact ⟨Nat.ne_of_lt (Nat.lt_succ_self _), Nat.ne_of_gt hd1⟩
        refine codeAny_set_update_loopS W.toS s.heap.objs.size hSf val hval hb (n - 0) 0 _ (by omega) (Nat.zero_le _) hst ?hS0 ?hR
        case hS0 =>
          have hget : ((s.heap.push { cls := .type "set", dict := none, data := .set #[] 0 (.fresh 0 0 led) }).push oI).get? s.heap.objs.size = some { cls := .type "set", dict := none, data := .set #[] 0 (.fresh 0 0 led) } := Heap.get?_push_of_some _ hS
          exact SetOf_congr ((setObjOf_fresh (knd := PySem.intKind prog w) led).setOf hget (by unfold scanBound; omega)) (fun _ => rfl) rfl
        case hR =>
          intro s' hm hS'
          obtain ⟨h', g', d', tk', os'⟩ := s'
          have eg : g' = s.gens := hm.gens
          have ed : d' = s.drawn := hm.drawn
          have eo : os' = s.os := hm.os
          subst eg; subst ed; subst eo
          show wpAny _ _ _ _ _ _
          refine wpAny_pure ?_
          show wpAny _ _ (ret Value.none) _ _ _
          refine wpAny_pure ⟨rfl, h', tk', rfl, hS', fun b o hb e => ?_⟩
          have hb1 : b ≠ s.heap.objs.size := Nat.ne_of_lt hb
          have hb2 : b ≠ (s.heap.push { cls := .type "set", dict := none, data := .set #[] 0 (.fresh 0 0 led) }).objs.size := by
            rw [Heap.size_push]; exact Nat.ne_of_lt (Nat.lt_succ_of_lt hb)
          exact hm.heap b o (by simp only [List.mem_cons, List.not_mem_nil, or_false, not_or]; exact ⟨hb1, hb2⟩) (Heap.get?_push_of_some _ (Heap.get?_push_of_some _ e))
      · cases r₂ with
        | error e => exact hr₂
        | ok fl₂ =>
          cases fl₂ with
          | ret r =>
            obtain ⟨rfl, h', tk, rfl, hS', hk'⟩ := hr₂
            repeat (any_goals (first | assumption | wp_step))
            exact h _ _ hS' hk'
          | _ => exact hr₂.elim
    | _ => exact hr.elim
end
end Mine
end
section
open PySem PySem.W PyProof.Rows PySem.Calls PyProof.V PySem.Spec
set_option maxRecDepth 100000
namespace Mine
theorem firstMet_take (l : List Int) (hn : l.Nodup) : ∀ i, i ≤ l.length → firstMet (fun i => l.getD i 0) i = l.take i
  | 0, _ => by simp [firstMet_zero]
  | i + 1, hi => by
    rw [firstMet_succ, firstMet_take l hn i (by omega)]
    have hlt : i < l.length := hi
    have hg : l.getD i 0 = l[i] := by simp [hlt]
    rw [hg, step_dedup, List.take_succ_eq_append_getElem hlt, if_neg]
    intro h
    obtain ⟨x, hx, he⟩ := List.any_eq_true.mp h
    obtain ⟨j, hj, rfl⟩ := List.mem_take_iff_getElem.mp hx
    have e : l[j] = l[i] := by simpa using he
    have := (List.getElem_inj hn).mp e
    omega
theorem firstMet_all (l : List Int) (hn : l.Nodup) : firstMet (fun i => l.getD i 0) l.length = l := by
  rw [firstMet_take l hn _ (Nat.le_refl _), List.take_length]
theorem sub_keys_set : isSubtype (.type "dict_keys") (.type "set") = pure false := by rw [isSubtype_type]; kernel_rfl
theorem sub_keys_frozen : isSubtype (.type "dict_keys") (.type "frozenset") = pure false := by rw [isSubtype_type]; kernel_rfl
section
variable {prog : Program} {w : World} {A : Around} {E : Value → Shared → Prop} {s : Shared} {h₀ : Heap} {L d v a b : Addr} {m : Str → Option Value} {news : List (Addr × Obj)} {od oa ob : Obj} {kvs : List (Int × Value)} {l l' : List Int}
/-- a set object of just these ints -/
def SetIs (o : Obj) (l : List Int) : Prop := o.IntSetOf (fun k => l.any (· == k)) l.length

theorem fr_grown {h' : Heap} (F : Fr h₀ L s.heap m) (hk : ∀ b o, b < s.heap.objs.size → s.heap.get? b = some o → h'.get? b = some o) : Fr h₀ L h' m := by
  obtain ⟨oL, es, ep, hL, r⟩ := F.ns
  exact ⟨⟨oL, es, ep, hk _ _ (Heap.lt_size hL) hL, r⟩, fun b o e => hk b o (Heap.lt_size (F.keep b o e)) (F.keep b o e), F.above⟩

theorem lru_keys_set {Q : Value → Shared → Prop} (hh : A.handled = none) (F : Fr h₀ L s.heap m) (N : News h₀ L s.heap news) (hv : (v, { cls := .type "dict_keys", data := .fields #[.ref d] }) ∈ news) (hp : (d, od) ∈ news) (hod : od.IsDictOf (PySem.intKind prog w) kvs) (hlen : kvs.length ≤ 20)
    (h : ∀ D h' tk so, Fr h₀ L h' m → News h₀ L h' ((D, so) :: news) → (∀ p ∈ news, p.1 < D) → SetIs so (kvs.map (·.1)) → Q (.ref D) { s with heap := h', toks := tk }) :
    wpAny (model prog w) A (call (.type "set") [.ref v]) Q E s := by
  have hD : s.heap.DictOf (PySem.intKind prog w) d kvs := Heap.dictOf_iff.mpr ⟨od, (N _ hp).1, hod⟩
  obtain ⟨ep, hat⟩ := hD.dictAt
  have hn : (kvs.map (·.1)).Nodup := keysNodup_of_isDictOf hod
  refine call_set_src (kdl_keys (knd := PySem.intKind prog w) (r := v) (d := d) (kvs := kvs) (ep := ep)) ⟨⟨_, (N _ hv).1, rfl, rfl⟩, hat⟩ sub_keys_set sub_keys_frozen (by decide) hh (fun i => (kvs.map (·.1)).getD i 0) (fun i x hx => ?_) (by unfold scanBound; omega) fun h' tk hS hk => ?_
  · obtain ⟨k, y, hx, hk⟩ := hx
    obtain ⟨t, rfl⟩ := Value.isInt_shape hk
    refine ⟨t, ?_⟩
    have : (kvs.map (·.1))[i]? = some k := by rw [List.getElem?_map, hx]; rfl
    rw [List.getD_eq_getElem?_getD, this]; rfl
  · have e := firstMet_all (kvs.map (·.1)) hn
    rw [List.length_map] at e
    rw [e] at hS
    obtain ⟨so, ho, hso⟩ := hS.objOf
    exact h _ h' tk so (fr_grown F hk) (news_pushed F N (fun b o e => hk b o (Heap.lt_size e) e) ho rfl) (fun p hp => Heap.lt_size (N p hp).1) hso.intSetOf

theorem lru_list_set {vs : List Value} {n : Nat} {Q : Value → Shared → Prop} (hh : A.handled = none) (F : Fr h₀ L s.heap m) (N : News h₀ L s.heap news) (hv : (v, listOf vs.toArray n) ∈ news) (hi : IntsAre vs l) (hn : l.Nodup) (hlen : l.length ≤ 20)
    (h : ∀ D h' tk so, Fr h₀ L h' m → News h₀ L h' ((D, so) :: news) → (∀ p ∈ news, p.1 < D) → SetIs so l → Q (.ref D) { s with heap := h', toks := tk }) :
    wpAny (model prog w) A (call (.type "set") [.ref v]) Q E s := by
  have hl' : s.heap.IsList v vs.toArray := ⟨_, (N _ hv).1, rfl, n, rfl⟩
  have hvn : vs.length = l.length := IntsAre.length hi
  refine call_set_list (items := vs.toArray) (ns := l) hh hl' (by simpa using hi) (by unfold scanBound; rw [List.size_toArray]; omega) fun h' tk hS hk => ?_
  have es : vs.toArray.size = l.length := by rw [List.size_toArray, hvn]
  rw [es, firstMet_all l hn] at hS
  obtain ⟨so, ho, hso⟩ := hS.objOf
  exact h _ h' tk so (fr_grown F hk) (news_pushed F N (fun b o e => hk b o (Heap.lt_size e) e) ho rfl) (fun p hp => Heap.lt_size (N p hp).1) hso.intSetOf

theorem SetIs.at {h : Heap} (x : SetIs oa l) (ho : h.get? a = some oa) (hl : l.length ≤ 20) : h.SetOf (PySem.intKind prog w) a (fun k => l.any (· == k)) l.length := (x.kind prog w).setOf ho (by unfold scanBound; omega)

theorem lru_in {Q : Value → Shared → Prop} {k : Int} {t : Tok} (N : News h₀ L s.heap news) (ha : (a, oa) ∈ news) (hs : SetIs oa l) (hl : l.length ≤ 20) (h : Q (.bool (l.any (· == k))) { s with toks := s.toks + 1 }) :
    wpAny (model prog w) A (compareOp .In (.int k t) (.ref a)) Q E s := wpAny_inSet_of (intKind_is prog w k t) rfl (hs.at (N _ ha).1 hl) h
theorem lru_inB {Q : Value → Shared → Prop} {k : Int} {t : Tok} {b : Bool} (N : News h₀ L s.heap news) (ha : (a, oa) ∈ news) (hs : SetIs oa l) (hl : l.length ≤ 20) (hb : (l.any (· == k)) = b) (h : Q (.bool b) { s with toks := s.toks + 1 }) :
    wpAny (model prog w) A (compareOp .In (.int k t) (.ref a)) Q E s := lru_in N ha hs hl (by rw [hb]; exact h)
theorem lru_le {Q : Value → Shared → Prop} (hu : A.units < cLine) (N : News h₀ L s.heap news) (ha : (a, oa) ∈ news) (hb : (b, ob) ∈ news) (hs : SetIs oa l) (hs' : SetIs ob l') (hl : l.length ≤ 20) (hl' : l'.length ≤ 20) (hle : l.length ≤ l'.length) (hsub : ∀ k ∈ l, k ∈ l')
    (h : Q (.bool true) s) : wpAny (model prog w) A (compareOp .LtE (.ref a) (.ref b)) Q E s :=
  set_le_true hu (hs.at (N _ ha).1 hl) (hs'.at (N _ hb).1 hl') hle (fun k hk => by simp only [List.any_beq'] at *; simp_all) h
theorem lru_ne {Q : Value → Shared → Prop} (hu : A.units < cLine) (N : News h₀ L s.heap news) (ha : (a, oa) ∈ news) (hb : (b, ob) ∈ news) (hs : SetIs oa l) (hs' : SetIs ob l') (hl : l.length ≤ 20) (hl' : l'.length ≤ 20) (hle : l.length = l'.length) (hsub : ∀ k ∈ l, k ∈ l')
    (h : Q (.bool false) s) : wpAny (model prog w) A (compareOp .NotEq (.ref a) (.ref b)) Q E s :=
  set_ne_false hu (hs.at (N _ ha).1 hl) (hs'.at (N _ hb).1 hl') hle (fun k hk => by simp only [List.any_beq'] at *; simp_all) h
end
end Mine
end
section
namespace Mine
open_top hd for PySem.Challenge.rw_aj5039_02
end Mine
end
section
open PySem PySem.W PyProof.Rows PySem.Calls PyProof.V PySem.Spec
set_option maxRecDepth 100000
namespace Mine
noncomputable abbrev loose : List Str := looseW hd.view_39 [] ++ List.map (fun x => x.name) (recsOf hd.view_39) ++ List.map (fun x => x.fst) (litsOf hd.view_39) ++ List.map (fun x => x.name) (clssOf hd.view_39 (looseW hd.view_39 []))
/-- the dict of an object -/
abbrev cont (w : World) (t1 t2 t3 t4 : Tok) (mx : Int) (dis : Value) (c : Addr) : Obj := dictOf [⟨PyData.keyHash w.params (Str.ofString "_maxsize"), .str (Str.ofString "_maxsize") t1, .int mx t4⟩, ⟨PyData.keyHash w.params (Str.ofString "dispose_func"), .str (Str.ofString "dispose_func") t2, dis⟩, ⟨PyData.keyHash w.params (Str.ofString "_container"), .str (Str.ofString "_container") t3, .ref c⟩] 3

local macro_rules | `(tactic| k_room) => `(tactic| first | ((try simp only [depth_under_make, depth_under_kw, depth_in1, depth_deeper, depth_caller, depth_mark, recursionLimit]); first | decide | omega))
local macro_rules | `(tactic| k_units) => `(tactic| first | exact Nat.le_of_ble_eq_true rfl | ((try simp only [units_in1, units_deeper, Around.mark_units, cLine]); omega))
local macro_rules | `(tactic| k_all) => `(tactic| assumption)
local macro_rules | `(tactic| k_enter) => `(tactic| first
  | (refine' callT0K ?k1 ?k2 ?k3 ?k4 ?k5 ?kA ?kF ?kK ?k6 ?k7 ?k8 ?k9 ?kB ?_ ?c5 ?c2 ?c3 ?c4; (case kA => exact rfl); (case kF => exact rfl); (case kK => exact rfl); (case k2 => k_asm); (case k1 => assumption); (case k3 => k_asm); (case k4 => k_asm); (case k5 => k_asm); (case k6 => k_is); (case k7 => k_is); (case k8 => k_room); (case k9 => first | exact binds_K (by k_in) rfl (by k_is) rfl rfl rfl | exact BindsTo.of_eq rfl); (case kB => exact locs rfl); (case c2 => exact rfl); (case c3 => exact rfl); (case c4 => exact rfl); (case c5 => decide); k_whole; intro g' L' h' FG' F' N' B' X' T' D' l1; clear l1; (try dsimp only); (try k_fold))
  | (refine' callTK ?k1 ?k2 ?k3 ?k4 ?k5 ?XB ?TB ?D ?T0 ?kA ?kF ?kK ?k6 ?k7 ?k8 ?k9 ?kB ?_ ?c5 ?c2 ?c3 ?c4; (case kA => first | exact rfl | assumption | exact Around.frames_deeper (Below.stack (by assumption))); (case kF => first | exact rfl | assumption); (case kK => first | exact rfl | assumption); (case k2 => k_asm); (case k1 => assumption); (case XB => assumption); (case TB => assumption); (case D => assumption); (case T0 => first | assumption | exact KtsTurn.refl); (case k3 => k_asm); (case k4 => k_asm); (case k5 => k_asm); (case k6 => k_is); (case k7 => k_is); (case k8 => k_room); (case k9 => first | exact binds_K (by k_in) rfl (by k_is) rfl rfl rfl | exact BindsTo.of_eq rfl); (case kB => exact locs rfl); (case c2 => exact rfl); (case c3 => exact rfl); (case c4 => exact rfl); (case c5 => decide); k_whole; intro g' L' h' FG' F' N' B' X' T' D' l1; clear l1; (try dsimp only); (try k_fold)))
local macro_rules | `(tactic| walk_at "noteFrame ref") => `(tactic| (k_here; (rename Heap.NewExc _ _ _ _ => nxX); (with_reducible show wpAny _ _ (noteFrame _ _) (fun _ s₂ => wpAny _ _ (setFlight _ none) (fun _ s₃ => wpAny _ _ (handleBy _ _ (ExceptHandler.ExceptHandler (some (Expr.Name ("KeyError" : Str) _)) none _ _ :: _)) _ _ s₃) _ s₂) _ _); k_dflt (refine' caught_own (T' := "KeyError") ?K ?hx ?F ?N ?XB ?TB ?D ?T0 ?ex PyProof.Rows.Boot.«KeyError» ?hn kr_isExc_KeyError kr_notTuple_KeyError ?hs ?_; (case hx => exact nxX); (case F => assumption); (case N => assumption); (case K => assumption); (case XB => assumption); (case TB => assumption); (case D => assumption); (case T0 => first | assumption | exact KtsTurn.refl); (case hs => kts_sub); (case ex => k_is); (case hn => decide); k_whole); clear nxX; intro h' g' T' F' N' K' X' P' D'; (try k_sweep)))
local macro_rules | `(tactic| walk_at "call builtin:dict.pop") => `(tactic| (k_here; (with_reducible show wpAny _ _ (call (Value.builtin "dict.pop") [Value.ref _, Value.int _ _]) _ _ _); k_dflt (first
  | (refine' lru_pop ?F ?N ?U ?d ?v ?z ?_; (case F => k_asm); (case N => k_asm); (case U => k_updF); (case d => k_asm); (case v => assumption); (case z => first | (rw [sizeLine_eq]; omega) | (rw [sizeLine_eq, List.length_append, List.length_singleton]; omega)); k_whole; intro h' o' F' N' hd'; (try dsimp only at N'))
  | (refine' lru_pop_miss ?hh ?N ?p ?d ?lo ?v ?_; (case hh => first | exact rfl | assumption); (case N => k_asm); (case p => k_mem); (case d => k_asm); (case lo => assumption); (case v => assumption); k_whole; intro h' e' x'))))
local macro_rules | `(tactic| walk_at "setItem ref int") => `(tactic| (k_here; k_dflt (refine' lru_set_new ?F ?N ?U ?d ?v ?z ?_; (case F => k_asm); (case N => k_asm); (case U => k_updF); (case d => k_asm); (case v => first | assumption | exact without_none); (case z => first | (rw [sizeLine_eq]; omega) | (rw [sizeLine_eq]; exact Nat.le_trans (List.length_filter_le _ _) (by omega))); k_whole); intro h' o' F' N' hd'; (try dsimp only at N')))
local macro_rules | `(tactic| walk_at "call builtin:len") => `(tactic| (k_here; (with_reducible show wpAny _ _ (call (Value.builtin "len") [Value.ref _]) _ _ _); k_dflt (refine kda_len (knd := PySem.intKind _ _) (by k_asm) (by k_mem) (by k_asm) (by assumption) (by first | omega | (rw [List.length_append, List.length_singleton]; omega)) ?_)))
local macro_rules | `(tactic| walk_at "call builtin:iter") => `(tactic| (k_here; (with_reducible show wpAny _ _ (call (Value.builtin "iter") [Value.ref _]) _ _ _); k_dflt (refine kdk_iter (knd := PySem.intKind _ _) (by k_asm) (by k_asm) (by k_mem) (by k_asm) (by assumption) ?_); intro D' h' o' ep' F' N' l1 hi' ha'; (try k_lt l1)))
local macro_rules | `(tactic| walk_at "call builtin:next") => `(tactic| (k_here; (with_reducible show wpAny _ _ (call (Value.builtin "next") [Value.ref _]) _ _ _); k_dflt (refine' kdk_next (knd := PySem.intKind _ _) ?F ?N ?U ?i ?a ?p ?x ?_; (case F => k_asm); (case N => k_asm); (case U => k_updF); (case i => k_asm); (case a => k_asm); (case p => k_mem); (case x => assumption); intro h' o' y' hk' F' N' hi'; obtain ⟨t', ey'⟩ := PySem.Value.isInt_shape hk'; subst ey'); (try dsimp only at N')))
local macro_rules | `(tactic| walk_at "delItem ref int") => `(tactic| (k_here; (with_reducible show wpAny _ _ (delItem (Value.ref _) _) _ _ _); k_dflt (refine' own_delItem ?F ?X ?I ?hQ ?hS ?hF ?_; (case F => k_asm); (case X => k_asm); (case I => k_inst); (case hS => k_is); (case hF => k_is); (case hQ => k_is); k_whole)))
local macro_rules | `(tactic| walk_at "call type:set") => `(tactic| (k_here; (with_reducible show wpAny _ _ (call (Value.type "set") [Value.ref _]) _ _ _); k_dflt (first
  | (refine' lru_keys_set ?hh ?F ?N ?v ?p ?d ?z ?_; (case hh => first | exact rfl | assumption); (case F => k_asm); (case N => k_asm); (case v => k_mem); (case p => k_mem); (case d => k_asm); (case z => omega); k_whole; intro D' h' tk' so' F' N' l1 hs'; (try k_lt l1))
  | (refine' lru_list_set ?hh ?F ?N ?v ?i ?n ?z ?_; (case hh => first | exact rfl | assumption); (case F => k_asm); (case N => k_asm); (case v => k_mem); (case i => k_asm); (case n => assumption); (case z => omega); k_whole; intro D' h' tk' so' F' N' l1 hs'; (try k_lt l1)))))
local macro_rules | `(tactic| walk_at "call builtin:dict.pop") => `(tactic| (k_here; dsimp only [List.cons_append, List.nil_append]))
local macro_rules | `(tactic| walk_at "call builtin:list.append") => `(tactic| (k_here; dsimp only [List.cons_append, List.nil_append]))

section
variable {w : World} {mg mb : Str → Option Value} {mean : ExcName → Option Value} {A₀ A : Around} {base h₀ : Heap} {outer : List Env} {env : Env} {L : Addr} {m : Str → Option Value} {s : Shared} {x dx d : Addr} {k k0 : Int} {t t1 t2 t3 t4 : Tok} {mx : Int} {dis v v0 : Value} {od : Obj} {kvs : List (Int × Value)} {rest : List (Addr × Obj)} {E : Value → Shared → Prop}
set_option maxHeartbeats 8000000 in
theorem got_hit {Q : Value → Shared → Prop}
  (X : (hd.heap_39 w.params).In h₀) (B : Below A₀ base outer h₀) (T : Top topProg loose mean mg mb h₀) (XB : (hd.heap_39 w.params).In base) (TB : Top topProg loose mean mg mb base) (D : KtsDicts (outer.filterMap (·.frame)) h₀)
  (hA : A.frames = some (env :: outer)) (hf : env.frame = some L) (hke : env.scope.kind = .function) (hh : A.handled = none) (hdep : A.depth ≤ 900) (hun : A.units ≤ 9000)
  (F : Fr h₀ L s.heap m) (N : News h₀ L s.heap ((x, instObj 88 dx) :: (dx, cont w t1 t2 t3 t4 mx dis d) :: (d, od) :: rest)) (hod : od.IsDictOf (PySem.intKind PySem.Challenge.rw_aj5039_02.row.prog w) kvs) (lo : (d == sysModules) = false) (hlen : kvs.length ≤ 10) (ne1 : x ≠ dx) (ne2 : x ≠ d) (ne3 : dx ≠ d) (hr : ∀ p ∈ rest, p.1 ≠ d)
  (hv : valueAt kvs k = some v)
  (q : ∀ l h' h₀' tk od', KtsTurn (outer.filterMap (·.frame)) h₀ h₀' → Below A₀ base outer h₀' → KtsDicts (outer.filterMap (·.frame)) h₀' → Fr h₀' L h' m → News h₀' L h' ((l, listOf #[v] 0) :: (x, instObj 88 dx) :: (dx, cont w t1 t2 t3 t4 mx dis d) :: (d, od') :: rest) → od'.IsDictOf (PySem.intKind PySem.Challenge.rw_aj5039_02.row.prog w) (without kvs k ++ [(k, v)]) → (x < l ∧ dx < l ∧ d < l ∧ AllLt l rest) → Q (.ref l) { s with heap := h', toks := tk }) :
  wpAny (model PySem.Challenge.rw_aj5039_02.row.prog w) A (call (.ref 99) [.ref x, .int k t]) Q E s := by
  revert X
  k_fill
  intro X
  k_steps
  all_goals first | exact q _ _ _ _ _ (by first | assumption | exact KtsTurn.refl) (by assumption) (by assumption) (by assumption) (by assumption) (by assumption) (by assumption)
set_option maxHeartbeats 8000000 in
theorem got_miss {Q : Value → Shared → Prop}
  (X : (hd.heap_39 w.params).In h₀) (B : Below A₀ base outer h₀) (T : Top topProg loose mean mg mb h₀) (XB : (hd.heap_39 w.params).In base) (TB : Top topProg loose mean mg mb base) (D : KtsDicts (outer.filterMap (·.frame)) h₀)
  (hA : A.frames = some (env :: outer)) (hf : env.frame = some L) (hke : env.scope.kind = .function) (hh : A.handled = none) (hdep : A.depth ≤ 900) (hun : A.units ≤ 9000)
  (F : Fr h₀ L s.heap m) (N : News h₀ L s.heap ((x, instObj 88 dx) :: (dx, cont w t1 t2 t3 t4 mx dis d) :: (d, od) :: rest)) (hod : od.IsDictOf (PySem.intKind PySem.Challenge.rw_aj5039_02.row.prog w) kvs) (lo : (d == sysModules) = false) (hlen : kvs.length ≤ 10) (ne1 : x ≠ dx) (ne2 : x ≠ d) (ne3 : dx ≠ d) (hr : ∀ p ∈ rest, p.1 ≠ d)
  (hv : valueAt kvs k = none)
  (q : ∀ l h' h₀' tk, KtsTurn (outer.filterMap (·.frame)) h₀ h₀' → Below A₀ base outer h₀' → KtsDicts (outer.filterMap (·.frame)) h₀' → Fr h₀' L h' m → News h₀' L h' ((l, listOf #[] 0) :: (x, instObj 88 dx) :: (dx, cont w t1 t2 t3 t4 mx dis d) :: (d, od) :: rest) → (x < l ∧ dx < l ∧ d < l ∧ AllLt l rest) → Q (.ref l) { s with heap := h', toks := tk }) :
  wpAny (model PySem.Challenge.rw_aj5039_02.row.prog w) A (call (.ref 99) [.ref x, .int k t]) Q E s := by
  revert X
  k_fill
  intro X
  k_steps
  all_goals first | exact q _ _ _ _ (by first | assumption | exact KtsTurn.refl) (by assumption) (by assumption) (by assumption) (by assumption) (by assumption)
set_option maxHeartbeats 8000000 in
theorem deleted_hit {Q : Value → Shared → Prop}
  (X : (hd.heap_39 w.params).In h₀) (B : Below A₀ base outer h₀) (T : Top topProg loose mean mg mb h₀) (XB : (hd.heap_39 w.params).In base) (TB : Top topProg loose mean mg mb base) (D : KtsDicts (outer.filterMap (·.frame)) h₀)
  (hA : A.frames = some (env :: outer)) (hf : env.frame = some L) (hke : env.scope.kind = .function) (hh : A.handled = none) (hdep : A.depth ≤ 900) (hun : A.units ≤ 9000)
  (F : Fr h₀ L s.heap m) (N : News h₀ L s.heap ((x, instObj 88 dx) :: (dx, cont w t1 t2 t3 t4 mx .none d) :: (d, od) :: rest)) (hod : od.IsDictOf (PySem.intKind PySem.Challenge.rw_aj5039_02.row.prog w) kvs) (lo : (d == sysModules) = false) (hlen : kvs.length ≤ 10) (ne1 : x ≠ dx) (ne2 : x ≠ d) (ne3 : dx ≠ d) (hr : ∀ p ∈ rest, p.1 ≠ d)
  (hv : valueAt kvs k = some v)
  (q : ∀ h' h₀' tk od', KtsTurn (outer.filterMap (·.frame)) h₀ h₀' → Below A₀ base outer h₀' → KtsDicts (outer.filterMap (·.frame)) h₀' → Fr h₀' L h' m → News h₀' L h' ((x, instObj 88 dx) :: (dx, cont w t1 t2 t3 t4 mx .none d) :: (d, od') :: rest) → od'.IsDictOf (PySem.intKind PySem.Challenge.rw_aj5039_02.row.prog w) (without kvs k) → Q (.bool true) { s with heap := h', toks := tk }) :
  wpAny (model PySem.Challenge.rw_aj5039_02.row.prog w) A (call (.ref 106) [.ref x, .int k t]) Q E s := by
  revert X
  k_fill
  intro X
  k_steps
  all_goals first | exact q _ _ _ _ (by first | assumption | exact KtsTurn.refl) (by assumption) (by assumption) (by assumption) (by first | assumption | exact News.drop1 (by assumption) | exact News.drop1 (News.drop1 (by assumption)) | exact News.drop1 (News.drop1 (News.drop1 (by assumption)))) (by assumption)
set_option maxHeartbeats 8000000 in
theorem deleted_miss {Q : Value → Shared → Prop}
  (X : (hd.heap_39 w.params).In h₀) (B : Below A₀ base outer h₀) (T : Top topProg loose mean mg mb h₀) (XB : (hd.heap_39 w.params).In base) (TB : Top topProg loose mean mg mb base) (D : KtsDicts (outer.filterMap (·.frame)) h₀)
  (hA : A.frames = some (env :: outer)) (hf : env.frame = some L) (hke : env.scope.kind = .function) (hh : A.handled = none) (hdep : A.depth ≤ 900) (hun : A.units ≤ 9000)
  (F : Fr h₀ L s.heap m) (N : News h₀ L s.heap ((x, instObj 88 dx) :: (dx, cont w t1 t2 t3 t4 mx dis d) :: (d, od) :: rest)) (hod : od.IsDictOf (PySem.intKind PySem.Challenge.rw_aj5039_02.row.prog w) kvs) (lo : (d == sysModules) = false) (hlen : kvs.length ≤ 10) (ne1 : x ≠ dx) (ne2 : x ≠ d) (ne3 : dx ≠ d) (hr : ∀ p ∈ rest, p.1 ≠ d)
  (hv : valueAt kvs k = none)
  (q : ∀ h' h₀' tk, KtsTurn (outer.filterMap (·.frame)) h₀ h₀' → Below A₀ base outer h₀' → KtsDicts (outer.filterMap (·.frame)) h₀' → Fr h₀' L h' m → News h₀' L h' ((x, instObj 88 dx) :: (dx, cont w t1 t2 t3 t4 mx dis d) :: (d, od) :: rest) → Q (.bool false) { s with heap := h', toks := tk }) :
  wpAny (model PySem.Challenge.rw_aj5039_02.row.prog w) A (call (.ref 106) [.ref x, .int k t]) Q E s := by
  revert X
  k_fill
  intro X
  k_steps
  all_goals first | exact q _ _ _ (by first | assumption | exact KtsTurn.refl) (by assumption) (by assumption) (by assumption) (by assumption)
set_option maxHeartbeats 8000000 in
theorem set_hit {Q : Unit → Shared → Prop}
  (X : (hd.heap_39 w.params).In h₀) (B : Below A₀ base outer h₀) (T : Top topProg loose mean mg mb h₀) (XB : (hd.heap_39 w.params).In base) (TB : Top topProg loose mean mg mb base) (D : KtsDicts (outer.filterMap (·.frame)) h₀)
  (hA : A.frames = some (env :: outer)) (hf : env.frame = some L) (hke : env.scope.kind = .function) (hh : A.handled = none) (hdep : A.depth ≤ 900) (hun : A.units ≤ 9000)
  (F : Fr h₀ L s.heap m) (N : News h₀ L s.heap ((x, instObj 88 dx) :: (dx, cont w t1 t2 t3 t4 mx .none d) :: (d, od) :: rest)) (hod : od.IsDictOf (PySem.intKind PySem.Challenge.rw_aj5039_02.row.prog w) kvs) (lo : (d == sysModules) = false) (hlen : kvs.length ≤ 10) (ne1 : x ≠ dx) (ne2 : x ≠ d) (ne3 : dx ≠ d) (hr : ∀ p ∈ rest, p.1 ≠ d)
  (hv : valueAt kvs k = some v0)
  (q : ∀ h' h₀' tk od', KtsTurn (outer.filterMap (·.frame)) h₀ h₀' → Below A₀ base outer h₀' → KtsDicts (outer.filterMap (·.frame)) h₀' → Fr h₀' L h' m → News h₀' L h' ((x, instObj 88 dx) :: (dx, cont w t1 t2 t3 t4 mx .none d) :: (d, od') :: rest) → od'.IsDictOf (PySem.intKind PySem.Challenge.rw_aj5039_02.row.prog w) (without kvs k ++ [(k, v)]) → Q () { s with heap := h', toks := tk }) :
  wpAny (model PySem.Challenge.rw_aj5039_02.row.prog w) A (setItem (.ref x) (.int k t) v) Q E s := by
  revert X
  k_fill
  intro X
  k_steps
  all_goals first | exact q _ _ _ _ (by first | assumption | exact KtsTurn.refl) (by assumption) (by assumption) (by assumption) (by first | assumption | exact News.drop1 (by assumption) | exact News.drop1 (News.drop1 (by assumption)) | exact News.drop1 (News.drop1 (News.drop1 (by assumption)))) (by assumption)
set_option maxHeartbeats 8000000 in
theorem set_room {Q : Unit → Shared → Prop}
  (X : (hd.heap_39 w.params).In h₀) (B : Below A₀ base outer h₀) (T : Top topProg loose mean mg mb h₀) (XB : (hd.heap_39 w.params).In base) (TB : Top topProg loose mean mg mb base) (D : KtsDicts (outer.filterMap (·.frame)) h₀)
  (hA : A.frames = some (env :: outer)) (hf : env.frame = some L) (hke : env.scope.kind = .function) (hh : A.handled = none) (hdep : A.depth ≤ 900) (hun : A.units ≤ 9000)
  (F : Fr h₀ L s.heap m) (N : News h₀ L s.heap ((x, instObj 88 dx) :: (dx, cont w t1 t2 t3 t4 mx .none d) :: (d, od) :: rest)) (hod : od.IsDictOf (PySem.intKind PySem.Challenge.rw_aj5039_02.row.prog w) kvs) (lo : (d == sysModules) = false) (hlen : kvs.length ≤ 10) (ne1 : x ≠ dx) (ne2 : x ≠ d) (ne3 : dx ≠ d) (hr : ∀ p ∈ rest, p.1 ≠ d)
  (hv : valueAt kvs k = none) (hroom : ((kvs ++ [(k, v)]).length : Int) ≤ mx)
  (q : ∀ h' h₀' tk od', KtsTurn (outer.filterMap (·.frame)) h₀ h₀' → Below A₀ base outer h₀' → KtsDicts (outer.filterMap (·.frame)) h₀' → Fr h₀' L h' m → News h₀' L h' ((x, instObj 88 dx) :: (dx, cont w t1 t2 t3 t4 mx .none d) :: (d, od') :: rest) → od'.IsDictOf (PySem.intKind PySem.Challenge.rw_aj5039_02.row.prog w) (kvs ++ [(k, v)]) → Q () { s with heap := h', toks := tk }) :
  wpAny (model PySem.Challenge.rw_aj5039_02.row.prog w) A (setItem (.ref x) (.int k t) v) Q E s := by
  revert X
  k_fill
  intro X
  k_steps
  all_goals first | exact q _ _ _ _ (by first | assumption | exact KtsTurn.refl) (by assumption) (by assumption) (by assumption) (by first | assumption | exact News.drop1 (by assumption) | exact News.drop1 (News.drop1 (by assumption)) | exact News.drop1 (News.drop1 (News.drop1 (by assumption)))) (by assumption)
set_option maxHeartbeats 8000000 in
theorem set_evict {Q : Unit → Shared → Prop}
  (X : (hd.heap_39 w.params).In h₀) (B : Below A₀ base outer h₀) (T : Top topProg loose mean mg mb h₀) (XB : (hd.heap_39 w.params).In base) (TB : Top topProg loose mean mg mb base) (D : KtsDicts (outer.filterMap (·.frame)) h₀)
  (hA : A.frames = some (env :: outer)) (hf : env.frame = some L) (hke : env.scope.kind = .function) (hh : A.handled = none) (hdep : A.depth ≤ 900) (hun : A.units ≤ 9000)
  (F : Fr h₀ L s.heap m) (N : News h₀ L s.heap ((x, instObj 88 dx) :: (dx, cont w t1 t2 t3 t4 mx .none d) :: (d, od) :: rest)) (hod : od.IsDictOf (PySem.intKind PySem.Challenge.rw_aj5039_02.row.prog w) kvs) (lo : (d == sysModules) = false) (hlen : kvs.length ≤ 10) (ne1 : x ≠ dx) (ne2 : x ≠ d) (ne3 : dx ≠ d) (hr : ∀ p ∈ rest, p.1 ≠ d)
  (hv : valueAt kvs k = none) (hroom : mx < ((kvs ++ [(k, v)]).length : Int)) (hfst : (kvs ++ [(k, v)])[0]? = some (k0, v0)) (hv0 : valueAt (kvs ++ [(k, v)]) k0 = some v0)
  (q : ∀ h' h₀' tk od', KtsTurn (outer.filterMap (·.frame)) h₀ h₀' → Below A₀ base outer h₀' → KtsDicts (outer.filterMap (·.frame)) h₀' → Fr h₀' L h' m → News h₀' L h' ((x, instObj 88 dx) :: (dx, cont w t1 t2 t3 t4 mx .none d) :: (d, od') :: rest) → od'.IsDictOf (PySem.intKind PySem.Challenge.rw_aj5039_02.row.prog w) (without (kvs ++ [(k, v)]) k0) → Q () { s with heap := h', toks := tk }) :
  wpAny (model PySem.Challenge.rw_aj5039_02.row.prog w) A (setItem (.ref x) (.int k t) v) Q E s := by
  revert X
  k_fill
  intro X
  k_steps
  all_goals first | exact q _ _ _ _ (by first | assumption | exact KtsTurn.refl) (by assumption) (by assumption) (by assumption) (by first | assumption | exact News.drop1 (by assumption) | exact News.drop1 (News.drop1 (by assumption)) | exact News.drop1 (News.drop1 (News.drop1 (by assumption)))) (by assumption)
set_option maxHeartbeats 8000000 in
theorem keys_of {Q : Value → Shared → Prop}
  (X : (hd.heap_39 w.params).In h₀) (B : Below A₀ base outer h₀) (T : Top topProg loose mean mg mb h₀) (XB : (hd.heap_39 w.params).In base) (TB : Top topProg loose mean mg mb base) (D : KtsDicts (outer.filterMap (·.frame)) h₀)
  (hA : A.frames = some (env :: outer)) (hf : env.frame = some L) (hke : env.scope.kind = .function) (hh : A.handled = none) (hdep : A.depth ≤ 900) (hun : A.units ≤ 9000)
  (F : Fr h₀ L s.heap m) (N : News h₀ L s.heap ((x, instObj 88 dx) :: (dx, cont w t1 t2 t3 t4 mx dis d) :: (d, od) :: rest)) (hod : od.IsDictOf (PySem.intKind PySem.Challenge.rw_aj5039_02.row.prog w) kvs) (lo : (d == sysModules) = false) (hlen : kvs.length ≤ 10) (ne1 : x ≠ dx) (ne2 : x ≠ d) (ne3 : dx ≠ d) (hr : ∀ p ∈ rest, p.1 ≠ d)
  
  (q : ∀ l so h' h₀' tk, KtsTurn (outer.filterMap (·.frame)) h₀ h₀' → Below A₀ base outer h₀' → KtsDicts (outer.filterMap (·.frame)) h₀' → Fr h₀' L h' m → News h₀' L h' ((l, so) :: (x, instObj 88 dx) :: (dx, cont w t1 t2 t3 t4 mx dis d) :: (d, od) :: rest) → SetIs so (kvs.map (·.1)) → (x < l ∧ dx < l ∧ d < l ∧ AllLt l rest) → Q (.ref l) { s with heap := h', toks := tk }) :
  wpAny (model PySem.Challenge.rw_aj5039_02.row.prog w) A (call (.ref 85) [.ref x]) Q E s := by
  revert X
  k_fill
  intro X
  k_steps
  all_goals first | exact q _ _ _ _ _ (by first | assumption | exact KtsTurn.refl) (by assumption) (by assumption) (by assumption) (by first | assumption | exact News.keep1 (by assumption)) (by assumption) (by assumption) | (refine q _ _ _ _ _ (by first | assumption | exact KtsTurn.refl) (by assumption) (by assumption) (by assumption) (by first | assumption | exact News.keep1 (by assumption)) (by assumption) ?_; simp only [AllLt] at *; simp_all)
set_option maxHeartbeats 8000000 in
theorem len_of {Q : Value → Shared → Prop}
  (X : (hd.heap_39 w.params).In h₀) (B : Below A₀ base outer h₀) (T : Top topProg loose mean mg mb h₀) (XB : (hd.heap_39 w.params).In base) (TB : Top topProg loose mean mg mb base) (D : KtsDicts (outer.filterMap (·.frame)) h₀)
  (hA : A.frames = some (env :: outer)) (hf : env.frame = some L) (hke : env.scope.kind = .function) (hh : A.handled = none) (hdep : A.depth ≤ 900) (hun : A.units ≤ 9000)
  (F : Fr h₀ L s.heap m) (N : News h₀ L s.heap ((x, instObj 88 dx) :: (dx, cont w t1 t2 t3 t4 mx dis d) :: (d, od) :: rest)) (hod : od.IsDictOf (PySem.intKind PySem.Challenge.rw_aj5039_02.row.prog w) kvs) (lo : (d == sysModules) = false) (hlen : kvs.length ≤ 10) (ne1 : x ≠ dx) (ne2 : x ≠ d) (ne3 : dx ≠ d) (hr : ∀ p ∈ rest, p.1 ≠ d)
  
  (q : ∀ (l : Tok) h' h₀' tk, KtsTurn (outer.filterMap (·.frame)) h₀ h₀' → Below A₀ base outer h₀' → KtsDicts (outer.filterMap (·.frame)) h₀' → Fr h₀' L h' m → News h₀' L h' ((x, instObj 88 dx) :: (dx, cont w t1 t2 t3 t4 mx dis d) :: (d, od) :: rest) → Q (.int kvs.length l) { s with heap := h', toks := tk }) :
  wpAny (model PySem.Challenge.rw_aj5039_02.row.prog w) A (call (.builtin "len") [.ref x]) Q E s := by
  revert X
  k_fill
  intro X
  k_steps
  all_goals first | exact q _ _ _ _ (by first | assumption | exact KtsTurn.refl) (by assumption) (by assumption) (by assumption) (by assumption)
end
end Mine
end
section
open PySem PySem.W PyProof.Rows PySem.Calls PyProof.V PySem.Spec
set_option maxRecDepth 100000
namespace Mine
theorem allLt_mem {l : Addr} : ∀ {r : List (Addr × Obj)}, AllLt l r → ∀ p ∈ r, p.1 < l
  | [], _, _, h => nomatch h
  | q :: r, h, p, hp => (List.mem_cons.mp hp).elim (fun e => e ▸ h.1) fun e => allLt_mem h.2 p e
theorem fr_back {h₀ h₀' h : Heap} {L : Addr} {m : Str → Option Value} (T : KtsTurn ([] : List Addr) h₀ h₀') (F : Fr h₀' L h m) : Fr h₀ L h m :=
  ⟨F.ns, fun b o e => F.keep b o (T.other b o e (by simp)), by have := F.above; rw [T.size] at this; exact this⟩
theorem news_back {h₀ h₀' h : Heap} {L : Addr} {n : List (Addr × Obj)} (T : KtsTurn ([] : List Addr) h₀ h₀') (N : News h₀' L h n) : News h₀ L h n :=
  fun p hp => ⟨(N p hp).1, (N p hp).2.1, none_turn T (N p hp).2.2⟩
theorem News.sub {h₀ h : Heap} {L : Addr} {n n' : List (Addr × Obj)} (N : News h₀ L h n) (hs : ∀ p ∈ n', p ∈ n) : News h₀ L h n' := fun p hp => N p (hs p hp)

def setD (mx : Int) (kvs : List (Int × Value)) (k : Int) (v : Value) : List (Int × Value) :=
  if (valueAt kvs k).isSome then without kvs k ++ [(k, v)] else if ((kvs ++ [(k, v)]).length : Int) ≤ mx then kvs ++ [(k, v)] else (kvs ++ [(k, v)]).tail
theorem without_head {k0 : Int} {v0 : Value} {r : List (Int × Value)} (hn : (((k0, v0) :: r).map (·.1)).Nodup) : without ((k0, v0) :: r) k0 = r := by
  rw [List.map_cons, List.nodup_cons] at hn
  simp only [without, List.filter_cons, ne_eq, not_true_eq_false, decide_false, Bool.false_eq_true, if_false]
  exact without_of_not_mem r _ hn.1
theorem without_miss {kvs : List (Int × Value)} {k : Int} (hv : valueAt kvs k = none) : without kvs k = kvs := by
  refine without_of_not_mem kvs k fun hm => ?_
  obtain ⟨p, hp, rfl⟩ := List.mem_map.mp hm
  unfold valueAt at hv
  rw [Option.map_eq_none_iff, List.find?_eq_none] at hv
  simpa using hv p hp
section
variable {w : World} {mg mb : Str → Option Value} {mean : ExcName → Option Value} {A : Around} {h₀ : Heap} {env : Env} {L : Addr} {m : Str → Option Value} {s : Shared} {x dx d : Addr} {k : Int} {t t1 t2 t3 t4 : Tok} {mx : Int} {dis v : Value} {od : Obj} {kvs : List (Int × Value)} {news : List (Addr × Obj)} {g : Obj → List (Addr × Obj)} {E : Value → Shared → Prop}
theorem L_got_hit {Q : Value → Shared → Prop}
  (X : (hd.heap_39 w.params).In h₀) (T : Top topProg loose mean mg mb h₀) (B : Below callerA h₀ [] h₀) (hA : A.frames = some [env]) (hf : env.frame = some L) (hke : env.scope.kind = .function) (hh : A.handled = none) (hdep : A.depth ≤ 900) (hun : A.units ≤ 9000)
  (F : Fr h₀ L s.heap m) (N : News h₀ L s.heap news) (I1 : (x, instObj 88 dx) ∈ news) (I2 : (dx, cont w t1 t2 t3 t4 mx dis d) ∈ news) (U : UpdF d od news g) (hod : od.IsDictOf (PySem.intKind PySem.Challenge.rw_aj5039_02.row.prog w) kvs) (lo : (d == sysModules) = false) (hlen : kvs.length ≤ 10) (ne1 : x ≠ dx) (ne2 : x ≠ d) (ne3 : dx ≠ d)
  (hv : valueAt kvs k = some v)
  (q : ∀ l h' tk od', Fr h₀ L h' m → News h₀ L h' ((l, listOf #[v] 0) :: g od') → (∀ p ∈ news, p.1 < l) → od'.IsDictOf (PySem.intKind PySem.Challenge.rw_aj5039_02.row.prog w) (without kvs k ++ [(k, v)]) → Q (.ref l) { s with heap := h', toks := tk }) :
  wpAny (model PySem.Challenge.rw_aj5039_02.row.prog w) A (call (.ref 99) [.ref x, .int k t]) Q E s := by
  obtain ⟨pre, post, rfl, hg, a, b⟩ := U.split
  have N0 : News h₀ L s.heap ((x, instObj 88 dx) :: (dx, cont w t1 t2 t3 t4 mx dis d) :: (d, od) :: (pre ++ post)) := News.sub N fun p hp => by
    rcases List.mem_cons.mp hp with rfl | hp
    · exact I1
    rcases List.mem_cons.mp hp with rfl | hp
    · exact I2
    simp only [List.mem_cons, List.mem_append] at hp ⊢
    rcases hp with h | h | h
    · exact .inr (.inl h)
    · exact .inl h
    · exact .inr (.inr h)
  have hr : ∀ p ∈ pre ++ post, p.1 ≠ d := fun p hp => (List.mem_append.mp hp).elim (a p) (b p)
  have back : ∀ (n : List (Addr × Obj)) (o' : Obj), ∀ p ∈ n ++ g o', p ∈ n ++ ((x, instObj 88 dx) :: (dx, cont w t1 t2 t3 t4 mx dis d) :: (d, o') :: (pre ++ post)) := fun n o' p hp => by
    rw [hg] at hp
    simp only [List.mem_append, List.mem_cons] at hp ⊢
    rcases hp with h | h | h | h
    · exact .inl h
    · exact .inr (.inr (.inr (.inr (.inl h))))
    · exact .inr (.inr (.inr (.inl h)))
    · exact .inr (.inr (.inr (.inr (.inr h))))
  exact got_hit (outer := []) X B T X T ktsDicts_nil hA hf hke hh hdep hun F N0 hod lo hlen ne1 ne2 ne3 hr hv fun l h' h₀' tk od' T' _ _ F' N' hd' lt => q l h' tk od' (fr_back T' F') (News.sub (news_back T' N') (back [_] od')) (fun p hp => by
      obtain ⟨_, _, l3, l4⟩ := lt
      simp only [List.mem_append, List.mem_cons] at hp
      rcases hp with h | rfl | h
      · exact allLt_mem l4 p (List.mem_append_left _ h)
      · exact l3
      · exact allLt_mem l4 p (List.mem_append_right _ h)) hd'

theorem L_got_miss {Q : Value → Shared → Prop}
  (X : (hd.heap_39 w.params).In h₀) (T : Top topProg loose mean mg mb h₀) (B : Below callerA h₀ [] h₀) (hA : A.frames = some [env]) (hf : env.frame = some L) (hke : env.scope.kind = .function) (hh : A.handled = none) (hdep : A.depth ≤ 900) (hun : A.units ≤ 9000)
  (F : Fr h₀ L s.heap m) (N : News h₀ L s.heap news) (I1 : (x, instObj 88 dx) ∈ news) (I2 : (dx, cont w t1 t2 t3 t4 mx dis d) ∈ news) (U : UpdF d od news g) (hod : od.IsDictOf (PySem.intKind PySem.Challenge.rw_aj5039_02.row.prog w) kvs) (lo : (d == sysModules) = false) (hlen : kvs.length ≤ 10) (ne1 : x ≠ dx) (ne2 : x ≠ d) (ne3 : dx ≠ d)
  (hv : valueAt kvs k = none)
  (q : ∀ l h' tk, Fr h₀ L h' m → News h₀ L h' ((l, listOf #[] 0) :: news) → (∀ p ∈ news, p.1 < l) → Q (.ref l) { s with heap := h', toks := tk }) :
  wpAny (model PySem.Challenge.rw_aj5039_02.row.prog w) A (call (.ref 99) [.ref x, .int k t]) Q E s := by
  obtain ⟨pre, post, rfl, hg, a, b⟩ := U.split
  have N0 : News h₀ L s.heap ((x, instObj 88 dx) :: (dx, cont w t1 t2 t3 t4 mx dis d) :: (d, od) :: (pre ++ post)) := News.sub N fun p hp => by
    rcases List.mem_cons.mp hp with rfl | hp
    · exact I1
    rcases List.mem_cons.mp hp with rfl | hp
    · exact I2
    simp only [List.mem_cons, List.mem_append] at hp ⊢
    rcases hp with h | h | h
    · exact .inr (.inl h)
    · exact .inl h
    · exact .inr (.inr h)
  have hr : ∀ p ∈ pre ++ post, p.1 ≠ d := fun p hp => (List.mem_append.mp hp).elim (a p) (b p)
  have back : ∀ (n : List (Addr × Obj)) (o' : Obj), ∀ p ∈ n ++ g o', p ∈ n ++ ((x, instObj 88 dx) :: (dx, cont w t1 t2 t3 t4 mx dis d) :: (d, o') :: (pre ++ post)) := fun n o' p hp => by
    rw [hg] at hp
    simp only [List.mem_append, List.mem_cons] at hp ⊢
    rcases hp with h | h | h | h
    · exact .inl h
    · exact .inr (.inr (.inr (.inr (.inl h))))
    · exact .inr (.inr (.inr (.inl h)))
    · exact .inr (.inr (.inr (.inr (.inr h))))
  exact got_miss (outer := []) X B T X T ktsDicts_nil hA hf hke hh hdep hun F N0 hod lo hlen ne1 ne2 ne3 hr hv fun l h' h₀' tk T' _ _ F' N' lt => q l h' tk (fr_back T' F') (News.sub (news_back T' N') (by have := back [(l, listOf #[] 0)] od; rw [hg] at this; exact this)) (fun p hp => by
      obtain ⟨_, _, l3, l4⟩ := lt
      simp only [List.mem_append, List.mem_cons] at hp
      rcases hp with h | rfl | h
      · exact allLt_mem l4 p (List.mem_append_left _ h)
      · exact l3
      · exact allLt_mem l4 p (List.mem_append_right _ h))

theorem L_del {Q : Value → Shared → Prop}
  (X : (hd.heap_39 w.params).In h₀) (T : Top topProg loose mean mg mb h₀) (B : Below callerA h₀ [] h₀) (hA : A.frames = some [env]) (hf : env.frame = some L) (hke : env.scope.kind = .function) (hh : A.handled = none) (hdep : A.depth ≤ 900) (hun : A.units ≤ 9000)
  (F : Fr h₀ L s.heap m) (N : News h₀ L s.heap news) (I1 : (x, instObj 88 dx) ∈ news) (I2 : (dx, cont w t1 t2 t3 t4 mx .none d) ∈ news) (U : UpdF d od news g) (hod : od.IsDictOf (PySem.intKind PySem.Challenge.rw_aj5039_02.row.prog w) kvs) (lo : (d == sysModules) = false) (hlen : kvs.length ≤ 10) (ne1 : x ≠ dx) (ne2 : x ≠ d) (ne3 : dx ≠ d)
  
  (q : ∀ h' tk od', Fr h₀ L h' m → News h₀ L h' (g od') → od'.IsDictOf (PySem.intKind PySem.Challenge.rw_aj5039_02.row.prog w) (without kvs k) → Q (.bool (valueAt kvs k).isSome) { s with heap := h', toks := tk }) :
  wpAny (model PySem.Challenge.rw_aj5039_02.row.prog w) A (call (.ref 106) [.ref x, .int k t]) Q E s := by
  obtain ⟨pre, post, rfl, hg, a, b⟩ := U.split
  have N0 : News h₀ L s.heap ((x, instObj 88 dx) :: (dx, cont w t1 t2 t3 t4 mx .none d) :: (d, od) :: (pre ++ post)) := News.sub N fun p hp => by
    rcases List.mem_cons.mp hp with rfl | hp
    · exact I1
    rcases List.mem_cons.mp hp with rfl | hp
    · exact I2
    simp only [List.mem_cons, List.mem_append] at hp ⊢
    rcases hp with h | h | h
    · exact .inr (.inl h)
    · exact .inl h
    · exact .inr (.inr h)
  have hr : ∀ p ∈ pre ++ post, p.1 ≠ d := fun p hp => (List.mem_append.mp hp).elim (a p) (b p)
  have back : ∀ (n : List (Addr × Obj)) (o' : Obj), ∀ p ∈ n ++ g o', p ∈ n ++ ((x, instObj 88 dx) :: (dx, cont w t1 t2 t3 t4 mx .none d) :: (d, o') :: (pre ++ post)) := fun n o' p hp => by
    rw [hg] at hp
    simp only [List.mem_append, List.mem_cons] at hp ⊢
    rcases hp with h | h | h | h
    · exact .inl h
    · exact .inr (.inr (.inr (.inr (.inl h))))
    · exact .inr (.inr (.inr (.inl h)))
    · exact .inr (.inr (.inr (.inr (.inr h))))
  cases hv : valueAt kvs k with
  | some v =>
    exact deleted_hit (outer := []) X B T X T ktsDicts_nil hA hf hke hh hdep hun F N0 hod lo hlen ne1 ne2 ne3 hr hv fun h' h₀' tk od' T' _ _ F' N' hd' => by
      have := q h' tk od' (fr_back T' F') (News.sub (news_back T' N') (back [] od')) hd'
      rw [hv] at this; exact this
  | none =>
    exact deleted_miss (outer := []) X B T X T ktsDicts_nil hA hf hke hh hdep hun F N0 hod lo hlen ne1 ne2 ne3 hr hv fun h' h₀' tk T' _ _ F' N' => by
      have := q h' tk od (fr_back T' F') (News.sub (news_back T' N') (back [] od)) (by rw [without_miss hv]; exact hod)
      rw [hv] at this; exact this

theorem L_delB {Q : Value → Shared → Prop} {b0 : Bool}
  (X : (hd.heap_39 w.params).In h₀) (T : Top topProg loose mean mg mb h₀) (B : Below callerA h₀ [] h₀) (hA : A.frames = some [env]) (hf : env.frame = some L) (hke : env.scope.kind = .function) (hh : A.handled = none) (hdep : A.depth ≤ 900) (hun : A.units ≤ 9000)
  (F : Fr h₀ L s.heap m) (N : News h₀ L s.heap news) (I1 : (x, instObj 88 dx) ∈ news) (I2 : (dx, cont w t1 t2 t3 t4 mx .none d) ∈ news) (U : UpdF d od news g) (hod : od.IsDictOf (PySem.intKind PySem.Challenge.rw_aj5039_02.row.prog w) kvs) (lo : (d == sysModules) = false) (hlen : kvs.length ≤ 10) (ne1 : x ≠ dx) (ne2 : x ≠ d) (ne3 : dx ≠ d)
  (hb : (valueAt kvs k).isSome = b0) (q : ∀ h' tk od', Fr h₀ L h' m → News h₀ L h' (g od') → od'.IsDictOf (PySem.intKind PySem.Challenge.rw_aj5039_02.row.prog w) (without kvs k) → Q (.bool b0) { s with heap := h', toks := tk }) :
  wpAny (model PySem.Challenge.rw_aj5039_02.row.prog w) A (call (.ref 106) [.ref x, .int k t]) Q E s := by
  subst hb
  exact L_del X T B hA hf hke hh hdep hun F N I1 I2 U hod lo hlen ne1 ne2 ne3 q
theorem L_set {Q : Unit → Shared → Prop}
  (X : (hd.heap_39 w.params).In h₀) (T : Top topProg loose mean mg mb h₀) (B : Below callerA h₀ [] h₀) (hA : A.frames = some [env]) (hf : env.frame = some L) (hke : env.scope.kind = .function) (hh : A.handled = none) (hdep : A.depth ≤ 900) (hun : A.units ≤ 9000)
  (F : Fr h₀ L s.heap m) (N : News h₀ L s.heap news) (I1 : (x, instObj 88 dx) ∈ news) (I2 : (dx, cont w t1 t2 t3 t4 mx .none d) ∈ news) (U : UpdF d od news g) (hod : od.IsDictOf (PySem.intKind PySem.Challenge.rw_aj5039_02.row.prog w) kvs) (lo : (d == sysModules) = false) (hlen : kvs.length ≤ 10) (ne1 : x ≠ dx) (ne2 : x ≠ d) (ne3 : dx ≠ d)
  
  (q : ∀ h' tk od', Fr h₀ L h' m → News h₀ L h' (g od') → od'.IsDictOf (PySem.intKind PySem.Challenge.rw_aj5039_02.row.prog w) (setD mx kvs k v) → Q () { s with heap := h', toks := tk }) :
  wpAny (model PySem.Challenge.rw_aj5039_02.row.prog w) A (setItem (.ref x) (.int k t) v) Q E s := by
  obtain ⟨pre, post, rfl, hg, a, b⟩ := U.split
  have N0 : News h₀ L s.heap ((x, instObj 88 dx) :: (dx, cont w t1 t2 t3 t4 mx .none d) :: (d, od) :: (pre ++ post)) := News.sub N fun p hp => by
    rcases List.mem_cons.mp hp with rfl | hp
    · exact I1
    rcases List.mem_cons.mp hp with rfl | hp
    · exact I2
    simp only [List.mem_cons, List.mem_append] at hp ⊢
    rcases hp with h | h | h
    · exact .inr (.inl h)
    · exact .inl h
    · exact .inr (.inr h)
  have hr : ∀ p ∈ pre ++ post, p.1 ≠ d := fun p hp => (List.mem_append.mp hp).elim (a p) (b p)
  have back : ∀ (n : List (Addr × Obj)) (o' : Obj), ∀ p ∈ n ++ g o', p ∈ n ++ ((x, instObj 88 dx) :: (dx, cont w t1 t2 t3 t4 mx .none d) :: (d, o') :: (pre ++ post)) := fun n o' p hp => by
    rw [hg] at hp
    simp only [List.mem_append, List.mem_cons] at hp ⊢
    rcases hp with h | h | h | h
    · exact .inl h
    · exact .inr (.inr (.inr (.inr (.inl h))))
    · exact .inr (.inr (.inr (.inl h)))
    · exact .inr (.inr (.inr (.inr (.inr h))))
  cases hv : valueAt kvs k with
  | some v0 => exact set_hit (outer := []) X B T X T ktsDicts_nil hA hf hke hh hdep hun F N0 hod lo hlen ne1 ne2 ne3 hr hv fun h' h₀' tk od' T' _ _ F' N' hd' => q h' tk od' (fr_back T' F') (News.sub (news_back T' N') (back [] od')) (by rw [setD, hv]; exact hd')
  | none =>
    by_cases hroom : ((kvs ++ [(k, v)]).length : Int) ≤ mx
    · exact set_room (outer := []) X B T X T ktsDicts_nil hA hf hke hh hdep hun F N0 hod lo hlen ne1 ne2 ne3 hr hv hroom fun h' h₀' tk od' T' _ _ F' N' hd' => q h' tk od' (fr_back T' F') (News.sub (news_back T' N') (back [] od')) (by simp only [setD, hv, Option.isSome_none, Bool.false_eq_true, if_false, if_pos hroom]; exact hd')
    · obtain ⟨⟨k0, v0⟩, r, hc⟩ : ∃ p r, kvs ++ [(k, v)] = p :: r := by
        cases kvs with
        | nil => exact ⟨_, _, rfl⟩
        | cons p r => exact ⟨_, _, rfl⟩
      have hn : ((kvs ++ [(k, v)]).map (·.1)).Nodup := by
        have h1 := keysNodup_of_isDictOf hod
        rw [List.map_append, List.nodup_append]
        refine ⟨h1, by simp, fun y hy z hz e => ?_⟩
        simp only [List.map_cons, List.map_nil, List.mem_singleton] at hz
        subst e; subst hz
        obtain ⟨p, hp, hpe⟩ := List.mem_map.mp hy
        unfold valueAt at hv
        rw [Option.map_eq_none_iff, List.find?_eq_none] at hv
        exact hv p hp (by simpa using hpe)
      refine set_evict (outer := []) X B T X T ktsDicts_nil hA hf hke hh hdep hun F N0 hod lo hlen ne1 ne2 ne3 hr hv (by omega) (k0 := k0) (v0 := v0) (by rw [hc]; rfl) (by rw [hc]; simp [valueAt]) fun h' h₀' tk od' T' _ _ F' N' hd' => q h' tk od' (fr_back T' F') (News.sub (news_back T' N') (back [] od')) ?_
      simp only [setD, hv, Option.isSome_none, Bool.false_eq_true, if_false, if_neg hroom]
      rw [hc, List.tail_cons]
      rw [hc] at hd' hn
      rw [without_head hn] at hd'
      exact hd'

theorem L_keysR {Q : Value → Shared → Prop}
  (X : (hd.heap_39 w.params).In h₀) (T : Top topProg loose mean mg mb h₀) (B : Below callerA h₀ [] h₀) (hA : A.frames = some [env]) (hf : env.frame = some L) (hke : env.scope.kind = .function) (hh : A.handled = none) (hdep : A.depth ≤ 900) (hun : A.units ≤ 9000)
  (F : Fr h₀ L s.heap m) (N : News h₀ L s.heap news) (I1 : (x, instObj 88 dx) ∈ news) (I2 : (dx, cont w t1 t2 t3 t4 mx dis d) ∈ news) (I3 : (d, od) ∈ news) (hod : od.IsDictOf (PySem.intKind PySem.Challenge.rw_aj5039_02.row.prog w) kvs) (lo : (d == sysModules) = false) (hlen : kvs.length ≤ 10) (ne1 : x ≠ dx) (ne2 : x ≠ d) (ne3 : dx ≠ d)
  
  (q : ∀ l so h' tk, Fr h₀ L h' m → News h₀ L h' ((l, so) :: news) → (∀ p ∈ news, p.1 < l) → SetIs so (kvs.map (·.1)) → Q (.ref l) { s with heap := h', toks := tk }) :
  wpAny (model PySem.Challenge.rw_aj5039_02.row.prog w) A (call (.ref 85) [.ref x]) Q E s := by
  have hr : ∀ p ∈ news.filter (fun p => decide (p.1 ≠ d)), p.1 ≠ d := fun p hp => by simpa using (List.mem_filter.mp hp).2
  have N0 : News h₀ L s.heap ((x, instObj 88 dx) :: (dx, cont w t1 t2 t3 t4 mx dis d) :: (d, od) :: news.filter (fun p => decide (p.1 ≠ d))) := News.sub N fun p hp => by
    rcases List.mem_cons.mp hp with rfl | hp
    · exact I1
    rcases List.mem_cons.mp hp with rfl | hp
    · exact I2
    rcases List.mem_cons.mp hp with rfl | hp
    · exact I3
    exact (List.mem_filter.mp hp).1
  have split : ∀ p ∈ news, p = (d, od) ∨ p ∈ news.filter (fun p => decide (p.1 ≠ d)) := fun p hp => by
    by_cases e : p.1 = d
    · refine .inl (Prod.ext e ?_)
      have h1 := (N p hp).1
      rw [e, (N _ I3).1] at h1
      exact (Option.some.inj h1).symm
    · exact .inr (List.mem_filter.mpr ⟨hp, by simpa using e⟩)
  have back : ∀ (n : List (Addr × Obj)), ∀ p ∈ n ++ news, p ∈ n ++ ((x, instObj 88 dx) :: (dx, cont w t1 t2 t3 t4 mx dis d) :: (d, od) :: news.filter (fun p => decide (p.1 ≠ d))) := fun n p hp => by
    rcases List.mem_append.mp hp with h | h
    · exact List.mem_append_left _ h
    · refine List.mem_append_right _ ?_
      rcases split p h with rfl | h
      · exact .tail _ (.tail _ (.head _))
      · exact .tail _ (.tail _ (.tail _ h))
  exact keys_of (outer := []) X B T X T ktsDicts_nil hA hf hke hh hdep hun F N0 hod lo hlen ne1 ne2 ne3 hr fun l so h' h₀' tk T' _ _ F' N' hs lt => q l so h' tk (fr_back T' F') (News.sub (news_back T' N') (back [(l, so)])) (fun p hp => by
      obtain ⟨_, _, l3, l4⟩ := lt
      rcases split p hp with rfl | h
      · exact l3
      · exact allLt_mem l4 p h) hs

theorem L_lenR {Q : Value → Shared → Prop}
  (X : (hd.heap_39 w.params).In h₀) (T : Top topProg loose mean mg mb h₀) (B : Below callerA h₀ [] h₀) (hA : A.frames = some [env]) (hf : env.frame = some L) (hke : env.scope.kind = .function) (hh : A.handled = none) (hdep : A.depth ≤ 900) (hun : A.units ≤ 9000)
  (F : Fr h₀ L s.heap m) (N : News h₀ L s.heap news) (I1 : (x, instObj 88 dx) ∈ news) (I2 : (dx, cont w t1 t2 t3 t4 mx dis d) ∈ news) (I3 : (d, od) ∈ news) (hod : od.IsDictOf (PySem.intKind PySem.Challenge.rw_aj5039_02.row.prog w) kvs) (lo : (d == sysModules) = false) (hlen : kvs.length ≤ 10) (ne1 : x ≠ dx) (ne2 : x ≠ d) (ne3 : dx ≠ d)
  
  (q : ∀ u h' tk, Fr h₀ L h' m → News h₀ L h' news → Q (.int kvs.length u) { s with heap := h', toks := tk }) :
  wpAny (model PySem.Challenge.rw_aj5039_02.row.prog w) A (call (.builtin "len") [.ref x]) Q E s := by
  have hr : ∀ p ∈ news.filter (fun p => decide (p.1 ≠ d)), p.1 ≠ d := fun p hp => by simpa using (List.mem_filter.mp hp).2
  have N0 : News h₀ L s.heap ((x, instObj 88 dx) :: (dx, cont w t1 t2 t3 t4 mx dis d) :: (d, od) :: news.filter (fun p => decide (p.1 ≠ d))) := News.sub N fun p hp => by
    rcases List.mem_cons.mp hp with rfl | hp
    · exact I1
    rcases List.mem_cons.mp hp with rfl | hp
    · exact I2
    rcases List.mem_cons.mp hp with rfl | hp
    · exact I3
    exact (List.mem_filter.mp hp).1
  have split : ∀ p ∈ news, p = (d, od) ∨ p ∈ news.filter (fun p => decide (p.1 ≠ d)) := fun p hp => by
    by_cases e : p.1 = d
    · refine .inl (Prod.ext e ?_)
      have h1 := (N p hp).1
      rw [e, (N _ I3).1] at h1
      exact (Option.some.inj h1).symm
    · exact .inr (List.mem_filter.mpr ⟨hp, by simpa using e⟩)
  have back : ∀ (n : List (Addr × Obj)), ∀ p ∈ n ++ news, p ∈ n ++ ((x, instObj 88 dx) :: (dx, cont w t1 t2 t3 t4 mx dis d) :: (d, od) :: news.filter (fun p => decide (p.1 ≠ d))) := fun n p hp => by
    rcases List.mem_append.mp hp with h | h
    · exact List.mem_append_left _ h
    · refine List.mem_append_right _ ?_
      rcases split p h with rfl | h
      · exact .tail _ (.tail _ (.head _))
      · exact .tail _ (.tail _ (.tail _ h))
  exact len_of (outer := []) X B T X T ktsDicts_nil hA hf hke hh hdep hun F N0 hod lo hlen ne1 ne2 ne3 hr fun u h' h₀' tk T' _ _ F' N' => q u h' tk (fr_back T' F') (News.sub (news_back T' N') (back []))

theorem L_got_missR {Q : Value → Shared → Prop}
  (X : (hd.heap_39 w.params).In h₀) (T : Top topProg loose mean mg mb h₀) (B : Below callerA h₀ [] h₀) (hA : A.frames = some [env]) (hf : env.frame = some L) (hke : env.scope.kind = .function) (hh : A.handled = none) (hdep : A.depth ≤ 900) (hun : A.units ≤ 9000)
  (F : Fr h₀ L s.heap m) (N : News h₀ L s.heap news) (I1 : (x, instObj 88 dx) ∈ news) (I2 : (dx, cont w t1 t2 t3 t4 mx dis d) ∈ news) (I3 : (d, od) ∈ news) (hod : od.IsDictOf (PySem.intKind PySem.Challenge.rw_aj5039_02.row.prog w) kvs) (lo : (d == sysModules) = false) (hlen : kvs.length ≤ 10) (ne1 : x ≠ dx) (ne2 : x ≠ d) (ne3 : dx ≠ d)
  (hv : valueAt kvs k = none)
  (q : ∀ l h' tk, Fr h₀ L h' m → News h₀ L h' ((l, listOf #[] 0) :: news) → (∀ p ∈ news, p.1 < l) → Q (.ref l) { s with heap := h', toks := tk }) :
  wpAny (model PySem.Challenge.rw_aj5039_02.row.prog w) A (call (.ref 99) [.ref x, .int k t]) Q E s := by
  have hr : ∀ p ∈ news.filter (fun p => decide (p.1 ≠ d)), p.1 ≠ d := fun p hp => by simpa using (List.mem_filter.mp hp).2
  have N0 : News h₀ L s.heap ((x, instObj 88 dx) :: (dx, cont w t1 t2 t3 t4 mx dis d) :: (d, od) :: news.filter (fun p => decide (p.1 ≠ d))) := News.sub N fun p hp => by
    rcases List.mem_cons.mp hp with rfl | hp
    · exact I1
    rcases List.mem_cons.mp hp with rfl | hp
    · exact I2
    rcases List.mem_cons.mp hp with rfl | hp
    · exact I3
    exact (List.mem_filter.mp hp).1
  have split : ∀ p ∈ news, p = (d, od) ∨ p ∈ news.filter (fun p => decide (p.1 ≠ d)) := fun p hp => by
    by_cases e : p.1 = d
    · refine .inl (Prod.ext e ?_)
      have h1 := (N p hp).1
      rw [e, (N _ I3).1] at h1
      exact (Option.some.inj h1).symm
    · exact .inr (List.mem_filter.mpr ⟨hp, by simpa using e⟩)
  have back : ∀ (n : List (Addr × Obj)), ∀ p ∈ n ++ news, p ∈ n ++ ((x, instObj 88 dx) :: (dx, cont w t1 t2 t3 t4 mx dis d) :: (d, od) :: news.filter (fun p => decide (p.1 ≠ d))) := fun n p hp => by
    rcases List.mem_append.mp hp with h | h
    · exact List.mem_append_left _ h
    · refine List.mem_append_right _ ?_
      rcases split p h with rfl | h
      · exact .tail _ (.tail _ (.head _))
      · exact .tail _ (.tail _ (.tail _ h))
  exact got_miss (outer := []) X B T X T ktsDicts_nil hA hf hke hh hdep hun F N0 hod lo hlen ne1 ne2 ne3 hr hv fun l h' h₀' tk T' _ _ F' N' lt => q l h' tk (fr_back T' F') (News.sub (news_back T' N') (back [(l, listOf #[] 0)])) (fun p hp => by
      obtain ⟨_, _, l3, l4⟩ := lt
      rcases split p hp with rfl | h
      · exact l3
      · exact allLt_mem l4 p h)

theorem L_keys {Q : Value → Shared → Prop}
  (X : (hd.heap_39 w.params).In h₀) (T : Top topProg loose mean mg mb h₀) (B : Below callerA h₀ [] h₀) (hA : A.frames = some [env]) (hf : env.frame = some L) (hke : env.scope.kind = .function) (hh : A.handled = none) (hdep : A.depth ≤ 900) (hun : A.units ≤ 9000)
  (F : Fr h₀ L s.heap m) (N : News h₀ L s.heap news) (I1 : (x, instObj 88 dx) ∈ news) (I2 : (dx, cont w t1 t2 t3 t4 mx dis d) ∈ news) (U : UpdF d od news g) (hod : od.IsDictOf (PySem.intKind PySem.Challenge.rw_aj5039_02.row.prog w) kvs) (lo : (d == sysModules) = false) (hlen : kvs.length ≤ 10) (ne1 : x ≠ dx) (ne2 : x ≠ d) (ne3 : dx ≠ d)
  
  (q : ∀ l so h' tk, Fr h₀ L h' m → News h₀ L h' ((l, so) :: news) → (∀ p ∈ news, p.1 < l) → SetIs so (kvs.map (·.1)) → Q (.ref l) { s with heap := h', toks := tk }) :
  wpAny (model PySem.Challenge.rw_aj5039_02.row.prog w) A (call (.ref 85) [.ref x]) Q E s := by
  obtain ⟨pre, post, rfl, hg, a, b⟩ := U.split
  have N0 : News h₀ L s.heap ((x, instObj 88 dx) :: (dx, cont w t1 t2 t3 t4 mx dis d) :: (d, od) :: (pre ++ post)) := News.sub N fun p hp => by
    rcases List.mem_cons.mp hp with rfl | hp
    · exact I1
    rcases List.mem_cons.mp hp with rfl | hp
    · exact I2
    simp only [List.mem_cons, List.mem_append] at hp ⊢
    rcases hp with h | h | h
    · exact .inr (.inl h)
    · exact .inl h
    · exact .inr (.inr h)
  have hr : ∀ p ∈ pre ++ post, p.1 ≠ d := fun p hp => (List.mem_append.mp hp).elim (a p) (b p)
  have back : ∀ (n : List (Addr × Obj)) (o' : Obj), ∀ p ∈ n ++ g o', p ∈ n ++ ((x, instObj 88 dx) :: (dx, cont w t1 t2 t3 t4 mx dis d) :: (d, o') :: (pre ++ post)) := fun n o' p hp => by
    rw [hg] at hp
    simp only [List.mem_append, List.mem_cons] at hp ⊢
    rcases hp with h | h | h | h
    · exact .inl h
    · exact .inr (.inr (.inr (.inr (.inl h))))
    · exact .inr (.inr (.inr (.inl h)))
    · exact .inr (.inr (.inr (.inr (.inr h))))
  exact keys_of (outer := []) X B T X T ktsDicts_nil hA hf hke hh hdep hun F N0 hod lo hlen ne1 ne2 ne3 hr fun l so h' h₀' tk T' _ _ F' N' hs lt => q l so h' tk (fr_back T' F') (News.sub (news_back T' N') (by have := back [(l, so)] od; rw [hg] at this; exact this)) (fun p hp => by
      obtain ⟨_, _, l3, l4⟩ := lt
      simp only [List.mem_append, List.mem_cons] at hp
      rcases hp with h | rfl | h
      · exact allLt_mem l4 p (List.mem_append_left _ h)
      · exact l3
      · exact allLt_mem l4 p (List.mem_append_right _ h)) hs

theorem L_len {Q : Value → Shared → Prop}
  (X : (hd.heap_39 w.params).In h₀) (T : Top topProg loose mean mg mb h₀) (B : Below callerA h₀ [] h₀) (hA : A.frames = some [env]) (hf : env.frame = some L) (hke : env.scope.kind = .function) (hh : A.handled = none) (hdep : A.depth ≤ 900) (hun : A.units ≤ 9000)
  (F : Fr h₀ L s.heap m) (N : News h₀ L s.heap news) (I1 : (x, instObj 88 dx) ∈ news) (I2 : (dx, cont w t1 t2 t3 t4 mx dis d) ∈ news) (U : UpdF d od news g) (hod : od.IsDictOf (PySem.intKind PySem.Challenge.rw_aj5039_02.row.prog w) kvs) (lo : (d == sysModules) = false) (hlen : kvs.length ≤ 10) (ne1 : x ≠ dx) (ne2 : x ≠ d) (ne3 : dx ≠ d)
  
  (q : ∀ u h' tk, Fr h₀ L h' m → News h₀ L h' news → Q (.int kvs.length u) { s with heap := h', toks := tk }) :
  wpAny (model PySem.Challenge.rw_aj5039_02.row.prog w) A (call (.builtin "len") [.ref x]) Q E s := by
  obtain ⟨pre, post, rfl, hg, a, b⟩ := U.split
  have N0 : News h₀ L s.heap ((x, instObj 88 dx) :: (dx, cont w t1 t2 t3 t4 mx dis d) :: (d, od) :: (pre ++ post)) := News.sub N fun p hp => by
    rcases List.mem_cons.mp hp with rfl | hp
    · exact I1
    rcases List.mem_cons.mp hp with rfl | hp
    · exact I2
    simp only [List.mem_cons, List.mem_append] at hp ⊢
    rcases hp with h | h | h
    · exact .inr (.inl h)
    · exact .inl h
    · exact .inr (.inr h)
  have hr : ∀ p ∈ pre ++ post, p.1 ≠ d := fun p hp => (List.mem_append.mp hp).elim (a p) (b p)
  have back : ∀ (n : List (Addr × Obj)) (o' : Obj), ∀ p ∈ n ++ g o', p ∈ n ++ ((x, instObj 88 dx) :: (dx, cont w t1 t2 t3 t4 mx dis d) :: (d, o') :: (pre ++ post)) := fun n o' p hp => by
    rw [hg] at hp
    simp only [List.mem_append, List.mem_cons] at hp ⊢
    rcases hp with h | h | h | h
    · exact .inl h
    · exact .inr (.inr (.inr (.inr (.inl h))))
    · exact .inr (.inr (.inr (.inl h)))
    · exact .inr (.inr (.inr (.inr (.inr h))))
  exact len_of (outer := []) X B T X T ktsDicts_nil hA hf hke hh hdep hun F N0 hod lo hlen ne1 ne2 ne3 hr fun u h' h₀' tk T' _ _ F' N' => q u h' tk (fr_back T' F') (News.sub (news_back T' N') (by have := back [] od; rw [hg] at this; exact this))

end
end Mine
end
section
open PySem PySem.W PyProof.Rows PySem.Calls PyProof.V PySem.Spec
set_option maxRecDepth 100000
namespace Mine
def defScope : Stmt → Scope
  | Stmt.FunctionDef _ _ _ _ _ _ sc _ _ _ => sc
  | _ => default
def defBody : Stmt → List Stmt
  | Stmt.FunctionDef _ _ b _ _ _ _ _ _ _ => b
  | _ => []
def forBody : Stmt → List Stmt
  | Stmt.For _ _ b _ _ => b
  | _ => []
abbrev lawStmt : Stmt := PySem.Challenge.pw_aj5039_02.main.body.getD 6 (Stmt.Pass default)
abbrev lawScope : Scope := defScope lawStmt
abbrev loopBody : List Stmt := forBody ((defBody lawStmt).getD 5 (Stmt.Pass default))
abbrev lenv (L fa cd : Addr) : Env := envOfC "law" lawScope L fa (.ref cd)
abbrev names02 (lN lM lU : Addr) (size more : Int) (tsz tmo : Tok) (m : Str → Option Value) : Str → Option Value := fun y => if y = Str.ofString "numbers" then some (.ref lN) else if y = Str.ofString "missed" then some (.ref lM) else if y = Str.ofString "used" then some (.ref lU) else if y = Str.ofString "size" then some (.int size tsz) else if y = Str.ofString "more" then some (.int more tmo) else m y
/-- what the loop's turns keep of the frame's names -/
structure Nm (lN lM lU : Addr) (size more : Int) (m : Str → Option Value) : Prop where
  numbers : m (Str.ofString "numbers") = some (.ref lN)
  missed : m (Str.ofString "missed") = some (.ref lM)
  used : m (Str.ofString "used") = some (.ref lU)
  size : ∃ t, m (Str.ofString "size") = some (.int size t)
  more : ∃ t, m (Str.ofString "more") = some (.int more t)
theorem fr_eq {h₀ h : Heap} {L : Addr} {m m' : Str → Option Value} (F : Fr h₀ L h m) (e : ∀ y, m' y = m y) : Fr h₀ L h m' := by
  have : m' = m := funext e
  rw [this]; exact F
theorem Nm.open {lN lM lU : Addr} {size more : Int} {m : Str → Option Value} (x : Nm lN lM lU size more m) : ∃ tsz tmo, ∀ y, names02 lN lM lU size more tsz tmo m y = m y := by
  obtain ⟨t1, h1⟩ := x.size
  obtain ⟨t2, h2⟩ := x.more
  refine ⟨t1, t2, fun y => ?_⟩
  unfold names02
  split
  · rename_i e; rw [e, x.numbers]
  split
  · rename_i e; rw [e, x.missed]
  split
  · rename_i e; rw [e, x.used]
  split
  · rename_i e; rw [e, h1]
  split
  · rename_i e; rw [e, h2]
  rfl
theorem if_name {m : Str → Option Value} {x : Str} {v : Value} (e : m x = some v) (y : Str) : (if y = x then some v else m y) = m y := by
  split
  · rename_i q; rw [q, e]
  · rfl
theorem fr_put {h₀ h : Heap} {L : Addr} {m : Str → Option Value} {x : Str} {v : Value} (e : m x = some v) (F : Fr h₀ L h m) : Fr h₀ L h (fun y => if y = x then some v else m y) := fr_eq F (if_name e)
theorem ne_true_of {b : Bool} (h : b = false) : ¬ b = true := by rw [h]; exact Bool.false_ne_true
theorem For_F {prog : Program} {w : World} {A : Around} {E : Value → Shared → Prop} {Q : Flow → Shared → Prop} {x : Str} {px pos : Pos} {iter : Expr} {body : List Stmt} {env : Env} {h₀ : Heap} {s : Shared} {m : Str → Option Value} (_F : Fr h₀ env.locals s.heap m)
    (hx : env.kindOf x = some .local) (hp : (env.scope.kind == .class || (env.scope.kind == .module && env.locals != env.globals)) = false)
    (h : wpAny (model prog w) A (eval iter env) (fun xv s₁ => wpAny (model prog w) A (pyIter xv) (fun it s₂ => LoopAtV prog w A h₀ env x body Q E it s₂) E s₁) E s)
    (hs : ∀ x, foldedSetIterable iter env x = pure x) (hE : PassesOwn (model prog w) A env E) : wpAny (model prog w) A (exec (.For (.Name x px) iter body [] pos) env) Q E s := For_invV h₀ hx hp h hs hE
section
variable {prog : Program} {w : World} {A : Around} {E : Value → Shared → Prop} {s : Shared} {h₀ : Heap} {L d : Addr} {m : Str → Option Value} {news : List (Addr × Obj)} {g : Obj → List (Addr × Obj)} {o : Obj} {kvs : List (Int × Value)} {k : Int} {t : Tok}
/-- d.pop(k, x), whether k is there or not -/
theorem lru_popd {x : Value} {Q : Value → Shared → Prop} (F : Fr h₀ L s.heap m) (N : News h₀ L s.heap news) (U : UpdF d o news g) (hd : o.IsDictOf (PySem.intKind prog w) kvs) (lo : (d == sysModules) = false) (hsz : kvs.length ≤ sizeLine)
    (h : ∀ v h' o', Fr h₀ L h' m → News h₀ L h' (g o') → o'.IsDictOf (PySem.intKind prog w) (without kvs k) → Q v { s with heap := h', toks := s.toks + 1 }) :
    wpAny (model prog w) A (call (.builtin "dict.pop") [.ref d, .int k t, x]) Q E s := by
  obtain ⟨pre, post, rfl, hg, a, b⟩ := U.split
  have hm := N (d, o) (List.mem_append_right _ (.head _))
  have hD : s.heap.DictOf (PySem.intKind prog w) d kvs := Heap.dictOf_iff.mpr ⟨o, hm.1, hd⟩
  cases hv : valueAt kvs k with
  | none =>
    refine lru_pop_dflt N (List.mem_append_right _ (.head _)) hd lo hv ?_
    have := h x s.heap o F (by rw [hg]; exact N) (by rw [without_miss hv]; exact hd)
    exact this
  | some v =>
    refine call_meetsIn PySem.F.slot_dict_pop hD.typeIs PySem.F.entry_dict_pop (PySem.F.args_dict_pop_3 _ _ _) (meets_dict_pop_there (PySem.intKind prog w) d (intKind_is prog w k t) [x] (.inr ⟨x, rfl⟩) rfl) ⟨kvs, v, hD, hsz, hv, fun h' hmm hs => ?_⟩
    obtain ⟨o', ho', hd'⟩ := Heap.dictOf_iff.mp hmm
    exact h v h' o' (F.change hs hm.2.1 hm.2.2) (hg o' ▸ N.setIn a b hs ho') hd'
end
section
variable {prog : Program} {w : World} {A : Around} {E : Value → Shared → Prop} {s : Shared} {h₀ : Heap} {L v : Addr} {m : Str → Option Value} {news : List (Addr × Obj)} {l l' : List Int}
theorem lru_list_setE {vs : List Value} {n : Nat} {Q : Value → Shared → Prop} (hh : A.handled = none) (F : Fr h₀ L s.heap m) (N : News h₀ L s.heap news) (hv : (v, listOf vs.toArray n) ∈ news) (hi : IntsAre vs l) (he : l = l') (hn : l'.Nodup) (hlen : l'.length ≤ 20)
    (h : ∀ D h' tk so, Fr h₀ L h' m → News h₀ L h' ((D, so) :: news) → (∀ p ∈ news, p.1 < D) → SetIs so l' → Q (.ref D) { s with heap := h', toks := tk }) :
    wpAny (model prog w) A (call (.type "set") [.ref v]) Q E s := lru_list_set hh F N hv (he ▸ hi) hn hlen h
end
theorem off1_ne {D a : Addr} {o : Obj} : ∀ {l : List (Addr × Obj)}, LCg.Off1 D l → (a, o) ∈ l → @Ne Nat D a
  | [], _, h => nomatch h
  | p :: r, x, h => by
    rcases List.mem_cons.mp h with rfl | h
    · exact fun e => x.1 e.symm
    · exact off1_ne x.2 h
theorem foldl_ne (key : Int) (us : List Int) : ∀ l, us.foldl (fun l n => if n = key then l else l ++ [n]) l = l ++ us.filter (fun n => decide (n ≠ key)) := by
  induction us with
  | nil => intro l; simp
  | cons n r ih =>
    intro l
    rw [List.foldl_cons, ih]
    by_cases e : n = key
    · simp [e]
    · simp [e]
theorem mem_any {l : List Int} {k : Int} {b : Bool} (h : decide (k ∈ l) = b) : (l.any (· == k)) = b := by
  rw [← h]; simp [List.any_beq']
end Mine
end
section
open PySem PySem.W PyProof.Rows PySem.Calls PyProof.V PySem.Spec
set_option maxRecDepth 100000
namespace Mine
theorem any_isSome (kvs : List (Int × Value)) (k : Int) : ((kvs.map (·.1)).any (· == k)) = (valueAt kvs k).isSome := by
  induction kvs with
  | nil => rfl
  | cons p r ih =>
    by_cases h : p.1 = k
    · simp [valueAt, h]
    · have e : valueAt (p :: r) k = valueAt r k := by simp [valueAt, List.find?_cons, h]
      rw [e, ← ih]; simp [h]
theorem mem_isSome {kvs : List (Int × Value)} {k : Int} : (valueAt kvs k).isSome = true ↔ k ∈ kvs.map (·.1) := by
  rw [← any_isSome]; simp [List.any_eq_true]
theorem mem_of_valueAt {kvs : List (Int × Value)} {k : Int} {v : Value} (h : valueAt kvs k = some v) : (k, v) ∈ kvs := by
  unfold valueAt at h
  obtain ⟨p, hp, rfl⟩ := Option.map_eq_some_iff.mp h
  have h1 := List.find?_some hp
  have h2 := List.mem_of_find?_eq_some hp
  have : p.1 = k := by simpa using h1
  rw [← this]; exact h2
theorem keys_without (kvs : List (Int × Value)) (k : Int) : (without kvs k).map (·.1) = (kvs.map (·.1)).filter fun n => decide (n ≠ k) := by
  rw [without, List.filter_map]; rfl
theorem filter_id {l : List Int} {k : Int} (h : k ∉ l) : l.filter (fun n => decide (n ≠ k)) = l := by
  rw [List.filter_eq_self]
  intro a ha
  simp only [decide_eq_true_eq]
  exact fun e => h (e ▸ ha)
theorem filter_len {l : List Int} {k : Int} (hn : l.Nodup) (h : k ∈ l) : (l.filter (fun n => decide (n ≠ k))).length + 1 = l.length := by
  induction l with
  | nil => nomatch h
  | cons a r ih =>
    rw [List.nodup_cons] at hn
    by_cases e : a = k
    · subst e
      rw [List.filter_cons_of_neg (by simp), filter_id hn.1, List.length_cons]
    · rw [List.filter_cons_of_pos (by simpa using e), List.length_cons, List.length_cons, ih hn.2 (by rcases List.mem_cons.mp h with h | h; exact absurd h.symm e; exact h)]
theorem suf_app {a b t : List Int} (h : a <:+ b) : a ++ t <:+ b ++ t := by
  obtain ⟨p, rfl⟩ := h
  exact ⟨p, by rw [List.append_assoc]⟩
theorem suf_filter {a b : List Int} (k : Int) (h : a <:+ b) : a.filter (fun n => decide (n ≠ k)) <:+ b.filter (fun n => decide (n ≠ k)) := by
  obtain ⟨p, rfl⟩ := h
  exact ⟨p.filter _, by rw [List.filter_append]⟩
theorem nodup_suf {a b : List Int} (h : a <:+ b) (hn : b.Nodup) : a.Nodup := hn.sublist h.sublist
theorem suf_drop {a b : List Int} (h : a <:+ b) : b.drop (b.length - a.length) = a := by
  obtain ⟨p, rfl⟩ := h
  rw [List.length_append, Nat.add_sub_cancel, List.drop_left]
theorem suf_of_le {a b c : List Int} (h : a <:+ c) (h' : b <:+ c) (l : a.length ≤ b.length) : a <:+ b := List.suffix_of_suffix_length_le h h' l
theorem suf_eq {a b c : List Int} (h : a <:+ c) (h' : b <:+ c) (l : a.length = b.length) : a = b := (suf_of_le h h' (Nat.le_of_eq l)).eq_of_length l
/-- a list of other keys below seven is short -/
theorem seven : ∀ (n : Nat) (l : List Int), l.Nodup → (∀ k ∈ l, 0 ≤ k ∧ k < (n : Int)) → l.length ≤ n
  | 0, [], _, _ => Nat.le_refl _
  | 0, a :: _, _, h => by have := h a (List.mem_cons_self ..); omega
  | n + 1, l, hn, h => by
    have ih := seven n (l.filter fun x => decide (x ≠ (n : Int))) (hn.sublist List.filter_sublist) (fun k hk => by
      have h1 := List.mem_filter.mp hk
      have h2 := h k h1.1
      have h3 : k ≠ (n : Int) := by simpa using h1.2
      omega)
    by_cases hm : (n : Int) ∈ l
    · have := filter_len hn hm; omega
    · rw [filter_id hm] at ih; omega
section
variable {mx : Int} {kvs : List (Int × Value)} {k : Int} {v : Value} {us : List Int}
theorem tail_snoc {α : Type} {l : List α} {a : α} (h : 1 ≤ l.length) : (l ++ [a]).tail = l.tail ++ [a] := by
  cases l with
  | nil => simp at h
  | cons b r => rfl
theorem setD_in (h : (valueAt kvs k).isSome = true) : setD mx kvs k v = without kvs k ++ [(k, v)] := by rw [setD, if_pos h]
theorem setD_suf (hf : kvs.map (·.1) <:+ us) : (setD mx kvs k v).map (·.1) <:+ us.filter (fun n => decide (n ≠ k)) ++ [k] := by
  have hb : (kvs.map (·.1)).filter (fun n => decide (n ≠ k)) ++ [k] <:+ us.filter (fun n => decide (n ≠ k)) ++ [k] := suf_app (suf_filter k hf)
  unfold setD
  by_cases h : (valueAt kvs k).isSome = true
  · rw [if_pos h, List.map_append, keys_without]; exact hb
  · rw [if_neg h]
    have hk : k ∉ kvs.map (·.1) := fun e => h (mem_isSome.mpr e)
    rw [filter_id hk] at hb
    split
    · rw [List.map_append]; exact hb
    · rw [List.map_tail, List.map_append]; exact (List.tail_suffix _).trans hb
theorem without_suf (hf : kvs.map (·.1) <:+ us) : (without kvs k).map (·.1) <:+ us.filter (fun n => decide (n ≠ k)) := by
  rw [keys_without]; exact suf_filter k hf
theorem without_len (hn : (kvs.map (·.1)).Nodup) (h : (valueAt kvs k).isSome = true) : (without kvs k).length + 1 = kvs.length := by
  have := filter_len hn (mem_isSome.mp h)
  rw [← keys_without, List.length_map, List.length_map] at this
  exact this
theorem without_len' (h : ¬ (valueAt kvs k).isSome = true) : without kvs k = kvs := without_of_not_mem kvs k fun e => h (mem_isSome.mpr e)
theorem setD_len_in (hn : (kvs.map (·.1)).Nodup) (h : (valueAt kvs k).isSome = true) : (setD mx kvs k v).length = kvs.length := by
  rw [setD_in h, List.length_append, List.length_singleton, without_len hn h]
theorem setD_len_room (h : ¬ (valueAt kvs k).isSome = true) (hr : (kvs.length : Int) + 1 ≤ mx) : (setD mx kvs k v).length = kvs.length + 1 := by
  rw [setD, if_neg h, if_pos (by rw [List.length_append, List.length_singleton]; push_cast; omega), List.length_append, List.length_singleton]
theorem setD_len_full (h : ¬ (valueAt kvs k).isSome = true) (hr : ¬ (kvs.length : Int) + 1 ≤ mx) : (setD mx kvs k v).length = kvs.length := by
  rw [setD, if_neg h, if_neg (by rw [List.length_append, List.length_singleton]; push_cast; omega), List.length_tail, List.length_append, List.length_singleton]; rfl
theorem setD_mem {p : Int × Value} (h : p ∈ setD mx kvs k v) : (p ∈ kvs ∧ p.1 ≠ k) ∨ p = (k, v) := by
  unfold setD at h
  split at h
  · rcases List.mem_append.mp h with h | h
    · exact .inl ⟨(List.mem_filter.mp h).1, by simpa using (List.mem_filter.mp h).2⟩
    · exact .inr (List.mem_singleton.mp h)
  · rename_i hk
    have h' : p ∈ kvs ++ [(k, v)] := by
      split at h
      · exact h
      · exact List.mem_of_mem_tail h
    rcases List.mem_append.mp h' with h | h
    · exact .inl ⟨h, fun e => hk (mem_isSome.mpr (e ▸ List.mem_map_of_mem h))⟩
    · exact .inr (List.mem_singleton.mp h)
theorem stored_at (k' : Int) : valueAt (stored kvs k v) k' = if k' = k then some v else valueAt kvs k' := by
  induction kvs with
  | nil =>
    by_cases e : k' = k
    · subst e; simp [stored, valueAt]
    · have e2 : ¬ k = k' := fun h => e h.symm
      simp [stored, valueAt, e, e2]
  | cons p r ih =>
    unfold stored at ih ⊢
    by_cases e1 : p.1 = k
    · subst e1
      simp only [List.any_cons, decide_true, Bool.true_or, if_true, List.map_cons, valueAt, List.find?_cons]
      by_cases e : k' = p.1
      · subst e; simp
      · have e' : ¬ p.1 = k' := fun h => e h.symm
        simp only [e, e', decide_false, if_false]
        congr 1
        have : ∀ (r : List (Int × Value)), List.find? (fun kv => decide (kv.1 = k')) (r.map fun kv => if kv.1 = p.1 then (kv.1, v) else kv) = List.find? (fun kv => decide (kv.1 = k')) r := by
          intro r
          induction r with
          | nil => rfl
          | cons q r ih =>
            rw [List.map_cons]
            by_cases eq : q.1 = p.1
            · have e2 : ¬ q.1 = k' := fun h => e' (eq ▸ h)
              rw [if_pos eq, List.find?_cons_of_neg (by simpa using e2), List.find?_cons_of_neg (by simpa using e2), ih]
            · rw [if_neg eq]
              by_cases e3 : q.1 = k'
              · rw [List.find?_cons_of_pos (by simpa using e3), List.find?_cons_of_pos (by simpa using e3)]
              · rw [List.find?_cons_of_neg (by simpa using e3), List.find?_cons_of_neg (by simpa using e3), ih]
        rw [this]
    · have ea : ((p :: r).any fun kv => decide (kv.1 = k)) = r.any fun kv => decide (kv.1 = k) := by simp [e1]
      rw [ea]
      by_cases e : p.1 = k'
      · have e' : ¬ k' = k := fun h => e1 (e.trans h)
        split <;> simp [valueAt, e, e1, e']
      · have hv : valueAt (p :: r) k' = valueAt r k' := by simp [valueAt, e]
        rw [hv, ← ih]
        split <;> simp [valueAt, e, e1]
end
/-- the loop's law, with no program in sight -/
structure LInv (size more : Int) (us : List Int) (kvs0 kvs1 kvsV : List (Int × Value)) : Prop where
  nd : us.Nodup
  bd : ∀ k ∈ us, 0 ≤ k ∧ k < 7
  f0 : kvs0.map (·.1) <:+ us
  f1 : kvs1.map (·.1) <:+ us
  le : kvs0.length ≤ kvs1.length
  z0 : (kvs0.length : Int) ≤ size
  z1 : (kvs1.length : Int) ≤ size + more
  eq : more = 0 → kvs0.length = kvs1.length
  v0 : ∀ p ∈ kvs0, valueAt kvsV p.1 = some p.2
  v1 : ∀ p ∈ kvs1, valueAt kvsV p.1 = some p.2
  vk : ∀ k, (valueAt kvsV k).isSome = true ↔ k ∈ us
  vi : ∀ k v, valueAt kvsV k = some v → ∃ i t, v = .int i t
section
variable {size more : Int} {us : List Int} {kvs0 kvs1 kvsV : List (Int × Value)}
theorem LInv.keys (x : LInv size more us kvs0 kvs1 kvsV) : kvs0.map (·.1) <:+ kvs1.map (·.1) := suf_of_le x.f0 x.f1 (by simpa using x.le)
theorem LInv.lt (x : LInv size more us kvs0 kvs1 kvsV) {key : Int} (h0 : ¬ (valueAt kvs0 key).isSome = true) (h1 : (valueAt kvs1 key).isSome = true) : kvs0.length < kvs1.length := by
  rcases Nat.lt_or_ge kvs0.length kvs1.length with h | h
  · exact h
  · have e : kvs0.map (·.1) = kvs1.map (·.1) := x.keys.eq_of_length (by simpa using Nat.le_antisymm x.le h)
    rw [mem_isSome, e] at h0
    exact absurd (mem_isSome.mp h1) h0
theorem LInv.up (x : LInv size more us kvs0 kvs1 kvsV) {key : Int} (h : (valueAt kvs0 key).isSome = true) : (valueAt kvs1 key).isSome = true := mem_isSome.mpr (x.keys.subset (mem_isSome.mp h))
theorem LInv.n0 (x : LInv size more us kvs0 kvs1 kvsV) : (kvs0.map (·.1)).Nodup := nodup_suf x.f0 x.nd
theorem LInv.n1 (x : LInv size more us kvs0 kvs1 kvsV) : (kvs1.map (·.1)).Nodup := nodup_suf x.f1 x.nd
theorem LInv.touch (x : LInv size more us kvs0 kvs1 kvsV) (hs : 1 ≤ size) (hm : 0 ≤ more) {key : Int} (hk : 0 ≤ key ∧ key < 7) {i : Int} {t : Tok} {kvsV' : List (Int × Value)} (hV : valueAt kvsV' key = some (.int i t)) (hV' : ∀ a, a ≠ key → valueAt kvsV' a = valueAt kvsV a) :
    LInv size more (us.filter (fun n => decide (n ≠ key)) ++ [key]) (setD size kvs0 key (.int i t)) (setD (size + more) kvs1 key (.int i t)) kvsV' where
  nd := by
    rw [List.nodup_append]
    refine ⟨x.nd.sublist List.filter_sublist, by simp, fun a ha b hb e => ?_⟩
    rw [List.mem_singleton] at hb
    have := (List.mem_filter.mp ha).2
    simp [e, hb] at this
  bd := fun k h => by
    rcases List.mem_append.mp h with h | h
    · exact x.bd k ((List.mem_filter.mp h).1)
    · rw [List.mem_singleton.mp h]; exact hk
  f0 := setD_suf x.f0
  f1 := setD_suf x.f1
  le := by
    have l := x.le
    have z0 := x.z0
    have z1 := x.z1
    by_cases h0 : (valueAt kvs0 key).isSome = true
    · rw [setD_len_in x.n0 h0, setD_len_in x.n1 (x.up h0)]; exact l
    · by_cases h1 : (valueAt kvs1 key).isSome = true
      · have lt := x.lt h0 h1
        rw [setD_len_in x.n1 h1]
        by_cases r : (kvs0.length : Int) + 1 ≤ size
        · rw [setD_len_room h0 r]; exact lt
        · rw [setD_len_full h0 r]; exact l
      · by_cases r : (kvs0.length : Int) + 1 ≤ size
        · rw [setD_len_room h0 r]
          by_cases r' : (kvs1.length : Int) + 1 ≤ size + more
          · rw [setD_len_room h1 r']; omega
          · rw [setD_len_full h1 r']; omega
        · rw [setD_len_full h0 r]
          by_cases r' : (kvs1.length : Int) + 1 ≤ size + more
          · rw [setD_len_room h1 r']; omega
          · rw [setD_len_full h1 r']; exact l
  z0 := by
    by_cases h0 : (valueAt kvs0 key).isSome = true
    · rw [setD_len_in x.n0 h0]; exact x.z0
    · by_cases r : (kvs0.length : Int) + 1 ≤ size
      · rw [setD_len_room h0 r]; push_cast; exact r
      · rw [setD_len_full h0 r]; exact x.z0
  z1 := by
    by_cases h0 : (valueAt kvs1 key).isSome = true
    · rw [setD_len_in x.n1 h0]; exact x.z1
    · by_cases r : (kvs1.length : Int) + 1 ≤ size + more
      · rw [setD_len_room h0 r]; push_cast; exact r
      · rw [setD_len_full h0 r]; exact x.z1
  eq := fun e => by
    have q := x.eq e
    have ks : kvs0.map (·.1) = kvs1.map (·.1) := x.keys.eq_of_length (by simpa using q)
    by_cases h0 : (valueAt kvs0 key).isSome = true
    · rw [setD_len_in x.n0 h0, setD_len_in x.n1 (x.up h0)]; exact q
    · have h1 : ¬ (valueAt kvs1 key).isSome = true := by rw [mem_isSome, ← ks, ← mem_isSome]; exact h0
      by_cases r : (kvs0.length : Int) + 1 ≤ size
      · rw [setD_len_room h0 r, setD_len_room h1 (by omega), q]
      · rw [setD_len_full h0 r, setD_len_full h1 (by omega), q]
  v0 := fun p hp => by
    rcases setD_mem hp with ⟨h, e⟩ | h
    · rw [hV' _ e]; exact x.v0 p h
    · rw [h]; exact hV
  v1 := fun p hp => by
    rcases setD_mem hp with ⟨h, e⟩ | h
    · rw [hV' _ e]; exact x.v1 p h
    · rw [h]; exact hV
  vk := fun k => by
    by_cases e : k = key
    · subst e; rw [hV]; simp
    · rw [hV' k e, x.vk k, List.mem_append, List.mem_filter, List.mem_singleton]
      simp [e]
  vi := fun k v h => by
    by_cases e : k = key
    · subst e; rw [hV] at h; exact ⟨i, t, (Option.some.inj h).symm⟩
    · rw [hV' k e] at h; exact x.vi k v h
theorem LInv.drop (x : LInv size more us kvs0 kvs1 kvsV) (key : Int) :
    LInv size more (us.filter (fun n => decide (n ≠ key))) (without kvs0 key) (without kvs1 key) (without kvsV key) := by
  have hv : ∀ a, a ≠ key → valueAt (without kvsV key) a = valueAt kvsV a := by
    intro a e
    clear x
    induction kvsV with
    | nil => rfl
    | cons p r ih =>
      unfold without at ih ⊢
      by_cases h : p.1 = key
      · rw [List.filter_cons_of_neg (by simpa using h), ih]
        have : ¬ p.1 = a := fun q => e (q.symm.trans h)
        simp [valueAt, this]
      · rw [List.filter_cons_of_pos (by simpa using h)]
        by_cases q : p.1 = a
        · simp [valueAt, q]
        · have e1 : valueAt (p :: r) a = valueAt r a := by simp [valueAt, q]
          rw [e1, ← ih]; simp [valueAt, q]
  have hn : valueAt (without kvsV key) key = none := without_none
  have hm : ∀ (l : List (Int × Value)) p, p ∈ without l key → p ∈ l ∧ p.1 ≠ key := fun l p hp => ⟨(List.mem_filter.mp hp).1, by simpa using (List.mem_filter.mp hp).2⟩
  have hl : ∀ l : List (Int × Value), (without l key).length ≤ l.length := fun l => List.length_filter_le _ _
  exact {
    nd := x.nd.sublist List.filter_sublist
    bd := fun k h => x.bd k ((List.mem_filter.mp h).1)
    f0 := without_suf x.f0
    f1 := without_suf x.f1
    le := by
      have l := x.le
      by_cases h0 : (valueAt kvs0 key).isSome = true
      · have a := without_len x.n0 h0
        have b := without_len x.n1 (x.up h0)
        omega
      · rw [without_len' h0]
        by_cases h1 : (valueAt kvs1 key).isSome = true
        · have lt := x.lt h0 h1
          have b := without_len x.n1 h1
          omega
        · rw [without_len' h1]; exact l
    z0 := by have := x.z0; have := hl kvs0; omega
    z1 := by have := x.z1; have := hl kvs1; omega
    eq := fun e => by
      have q := x.eq e
      have ks : kvs0.map (·.1) = kvs1.map (·.1) := x.keys.eq_of_length (by simpa using q)
      have k2 : (without kvs0 key).map (·.1) = (without kvs1 key).map (·.1) := by rw [keys_without, keys_without, ks]
      simpa using congrArg List.length k2
    v0 := fun p hp => by rw [hv _ (hm _ _ hp).2]; exact x.v0 p (hm _ _ hp).1
    v1 := fun p hp => by rw [hv _ (hm _ _ hp).2]; exact x.v1 p (hm _ _ hp).1
    vk := fun k => by
      by_cases e : k = key
      · subst e; rw [hn]; simp
      · rw [hv k e, x.vk k, List.mem_filter]; simp [e]
    vi := fun k v h => by
      by_cases e : k = key
      · subst e; rw [hn] at h; exact nomatch h
      · rw [hv k e] at h; exact x.vi k v h }
end
end Mine
end
section
open PySem PySem.W PyProof.Rows PySem.Calls PyProof.V PySem.Spec
set_option maxRecDepth 100000
namespace Mine
local macro_rules | `(tactic| k_room) => `(tactic| first | ((try simp only [depth_under_make, depth_under_kw, depth_in1, depth_deeper, depth_caller, depth_mark, recursionLimit]); first | decide | omega))
local macro_rules | `(tactic| k_all) => `(tactic| assumption)
local macro_rules | `(tactic| walk_at "call ref") => `(tactic| (k_here; (with_reducible show wpAny _ _ (call (Value.ref 99) [Value.ref _, Value.int _ _]) _ _ _); k_dflt (first
  | (refine' L_got_hit ?X ?T ?B ?hA ?hf ?hke ?hh ?hdep ?hun ?F ?N ?I1 ?I2 ?U ?hod ?lo ?hlen ?ne1 ?ne2 ?ne3 ?hv ?_; (case F => k_asm); (case X => k_asm); (case T => k_asm); (case B => assumption); (case hA => exact rfl); (case hf => exact rfl); (case hke => exact rfl); (case hh => exact rfl); (case hdep => exact Nat.le_of_ble_eq_true rfl); (case hun => exact Nat.le_of_ble_eq_true rfl); (case N => k_asm); (case I1 => k_mem); (case I2 => k_mem); (case U => k_updF); (case hod => assumption); (case lo => assumption); (case hlen => assumption); (case ne1 => k_ne); (case ne2 => k_ne); (case ne3 => k_ne); (case hv => assumption); k_whole; intro l' h' tk' od' F' N' l1 hd'; (try dsimp only at N'); (try k_lt l1))
  | (refine' L_got_missR ?X ?T ?B ?hA ?hf ?hke ?hh ?hdep ?hun ?F ?N ?I1 ?I2 ?I3 ?hod ?lo ?hlen ?ne1 ?ne2 ?ne3 ?hv ?_; (case F => k_asm); (case X => k_asm); (case T => k_asm); (case B => assumption); (case hA => exact rfl); (case hf => exact rfl); (case hke => exact rfl); (case hh => exact rfl); (case hdep => exact Nat.le_of_ble_eq_true rfl); (case hun => exact Nat.le_of_ble_eq_true rfl); (case N => k_asm); (case I1 => k_mem); (case I2 => k_mem); (case I3 => k_mem); (case hod => assumption); (case lo => assumption); (case hlen => assumption); (case ne1 => k_ne); (case ne2 => k_ne); (case ne3 => k_ne); (case hv => assumption); k_whole; intro l' h' tk' F' N' l1; (try dsimp only at N'); (try k_lt l1)))))
local macro_rules | `(tactic| walk_at "call ref") => `(tactic| (k_here; (with_reducible show wpAny _ _ (call (Value.ref 106) [Value.ref _, Value.int _ _]) _ _ _); k_dflt (refine' L_delB ?X ?T ?B ?hA ?hf ?hke ?hh ?hdep ?hun ?F ?N ?I1 ?I2 ?U ?hod ?lo ?hlen ?ne1 ?ne2 ?ne3 ?hb ?_;  (case F => k_asm); (case X => k_asm); (case T => k_asm); (case B => assumption); (case hA => exact rfl); (case hf => exact rfl); (case hke => exact rfl); (case hh => exact rfl); (case hdep => exact Nat.le_of_ble_eq_true rfl); (case hun => exact Nat.le_of_ble_eq_true rfl); (case N => k_asm); (case I1 => k_mem); (case I2 => k_mem); (case U => k_updF); (case hod => assumption); (case lo => assumption); (case hlen => assumption); (case ne1 => k_ne); (case ne2 => k_ne); (case ne3 => k_ne); (case hb => assumption); k_whole; intro h' tk' od' F' N' hd'; (try dsimp only at N'))))
local macro_rules | `(tactic| walk_at "call ref") => `(tactic| (k_here; (with_reducible show wpAny _ _ (call (Value.ref 85) [Value.ref _]) _ _ _); k_dflt (refine' L_keysR ?X ?T ?B ?hA ?hf ?hke ?hh ?hdep ?hun ?F ?N ?I1 ?I2 ?I3 ?hod ?lo ?hlen ?ne1 ?ne2 ?ne3 ?_; (case F => k_asm); (case X => k_asm); (case T => k_asm); (case B => assumption); (case hA => exact rfl); (case hf => exact rfl); (case hke => exact rfl); (case hh => exact rfl); (case hdep => exact Nat.le_of_ble_eq_true rfl); (case hun => exact Nat.le_of_ble_eq_true rfl); (case N => k_asm); (case I1 => k_mem); (case I2 => k_mem); (case I3 => k_mem); (case hod => assumption); (case lo => assumption); (case hlen => assumption); (case ne1 => k_ne); (case ne2 => k_ne); (case ne3 => k_ne); k_whole; intro l' so' h' tk' F' N' l1 hs'; (try dsimp only at N'); (try k_lt l1))))
local macro_rules | `(tactic| walk_at "call builtin:len") => `(tactic| (k_here; (with_reducible show wpAny _ _ (call (Value.builtin "len") [Value.ref _]) _ _ _); k_dflt (refine' L_lenR ?X ?T ?B ?hA ?hf ?hke ?hh ?hdep ?hun ?F ?N ?I1 ?I2 ?I3 ?hod ?lo ?hlen ?ne1 ?ne2 ?ne3 ?_; (case F => k_asm); (case N => k_asm); (case I1 => k_mem); (case X => k_asm); (case T => k_asm); (case B => assumption); (case hA => exact rfl); (case hf => exact rfl); (case hke => exact rfl); (case hh => exact rfl); (case hdep => exact Nat.le_of_ble_eq_true rfl); (case hun => exact Nat.le_of_ble_eq_true rfl); (case I2 => k_mem); (case I3 => k_mem); (case hod => assumption); (case lo => assumption); (case hlen => assumption); (case ne1 => k_ne); (case ne2 => k_ne); (case ne3 => k_ne); k_whole; intro u' h' tk' F' N')))
local macro_rules | `(tactic| walk_at "setItem ref int") => `(tactic| (k_here; k_dflt (refine' kda_set (knd := PySem.intKind _ _) ?F ?N ?U ?d (intKind_is _ _ _ _) ?z ?_; (case F => k_asm); (case N => k_asm); (case U => k_updF); (case d => assumption); (case z => rw [sizeLine_eq]; omega); k_whole); intro h' o' F' N' hd'; (try dsimp only at N')))
local macro_rules | `(tactic| walk_at "setItem ref int") => `(tactic| (k_here; k_dflt (refine' L_set ?X ?T ?B ?hA ?hf ?hke ?hh ?hdep ?hun ?F ?N ?I1 ?I2 ?U ?hod ?lo ?hlen ?ne1 ?ne2 ?ne3 ?_; (case F => k_asm); (case N => k_asm); (case I1 => k_mem); (case X => k_asm); (case T => k_asm); (case B => assumption); (case hA => exact rfl); (case hf => exact rfl); (case hke => exact rfl); (case hh => exact rfl); (case hdep => exact Nat.le_of_ble_eq_true rfl); (case hun => exact Nat.le_of_ble_eq_true rfl); (case I2 => k_mem); (case U => k_updF); (case hod => assumption); (case lo => assumption); (case hlen => assumption); (case ne1 => k_ne); (case ne2 => k_ne); (case ne3 => k_ne); k_whole; intro h' tk' od' F' N' hd'; (try dsimp only at N'))))
local macro_rules | `(tactic| walk_at "compareOp In int ref") => `(tactic| (k_here; k_dflt (refine' lru_inB ?N ?a ?s ?l ?b ?_; (case N => k_asm); (case a => k_mem); (case s => assumption); (case l => rw [List.length_map]; omega); (case b => assumption); k_whole)))
local macro_rules | `(tactic| walk_at "compareOp In int ref") => `(tactic| (k_here; k_dflt (refine' kda_in (knd := PySem.intKind _ _) ?N ?a ?d ?lo (intKind_is _ _ _ _) _ ?b ?_; (case N => k_asm); (case a => k_mem); (case d => assumption); (case lo => assumption); (case b => assumption); k_whole)))
local macro_rules | `(tactic| walk_at "compareOp NotIn int ref") => `(tactic| (k_here; k_dflt (refine' kdg_notin (knd := PySem.intKind _ _) ?N ?a ?d ?lo (intKind_is _ _ _ _) _ ?b ?_; (case N => k_asm); (case a => k_mem); (case d => assumption); (case lo => assumption); (case b => assumption); k_whole)))
local macro_rules | `(tactic| walk_at "subscriptTail") => `(tactic| (k_here; (with_reducible show wpAny _ _ (subscriptTail _ _ (Value.ref _) (Value.int _ _)) _ _ _); k_dflt (refine' kda_item (knd := PySem.intKind _ _) ?N ?a ?d (intKind_is _ _ _ _) ?v ?_; (case N => k_asm); (case a => k_mem); (case d => assumption); (case v => assumption); k_whole)))
local macro_rules | `(tactic| walk_at "compareOp LtE ref ref") => `(tactic| (k_here; k_dflt (refine' lru_le ?u ?N ?a ?b ?s ?s' ?l ?l' ?le ?sub ?_; (case u => exact Nat.le_of_ble_eq_true rfl); (case N => k_asm); (case a => k_mem); (case b => k_mem); (case s => assumption); (case s' => assumption); (case l => first | assumption | omega); (case l' => first | assumption | omega); (case le => first | assumption | omega); (case sub => first | assumption | exact fun _ h => h); k_whole)))
local macro_rules | `(tactic| walk_at "compareOp NotEq ref ref") => `(tactic| (k_here; k_dflt (refine' lru_ne ?u ?N ?a ?b ?s ?s' ?l ?l' ?le ?sub ?_; (case u => exact Nat.le_of_ble_eq_true rfl); (case N => k_asm); (case a => k_mem); (case b => k_mem); (case s => assumption); (case s' => assumption); (case l => first | assumption | omega); (case l' => first | assumption | omega); (case le => first | assumption | omega); (case sub => first | assumption | exact fun _ h => h); k_whole)))
local macro_rules | `(tactic| walk_at "call type:set") => `(tactic| (k_here; (with_reducible show wpAny _ _ (call (Value.type "set") [Value.ref _]) _ _ _); k_dflt (first
  | (refine' lru_keys_set ?hh ?F ?N ?v ?p ?d ?z ?_; (case hh => first | exact rfl | assumption); (case F => k_asm); (case N => k_asm); (case v => k_mem); (case p => k_mem); (case d => k_asm); (case z => omega); k_whole; intro D' h' tk' so' F' N' l1 hs'; (try k_lt l1))
  | (refine' lru_list_setE ?hh ?F ?N ?v ?i ?e ?n ?z ?_; (case hh => first | exact rfl | assumption); (case F => k_asm); (case N => k_asm); (case v => k_mem); (case i => k_asm); (case e => assumption); (case n => assumption); (case z => assumption); k_whole; intro D' h' tk' so' F' N' l1 hs'; (try k_lt l1)))))
local macro_rules | `(tactic| lcg_off) => `(tactic| assumption)
local macro_rules | `(tactic| walk_at "CompRest") => `(tactic| (with_unfolding_all (refine LCg.CompRest.succ ?_; intro v' I' oI' C' oC' D' m' h' tk' E' hv' hC' hx' F' N' off' ne'; (first | lcg_open hv' | (obtain ⟨t9', hv9'⟩ := hv'; subst hv9')))))
local macro_rules | `(tactic| walk_at "ite") => `(tactic| (k_here; first | refine ite_pos (by assumption) ?_ | refine ite_neg (ne_true_of (by assumption)) ?_ | refine ite_neg (by simp; done) ?_ | refine ite_pos (by simp; done) ?_ | refine ite_neg (by simp; omega) ?_))
local macro_rules | `(tactic| walk_at "pyIter ref") => `(tactic| ((with_reducible show wpAny _ _ (pyIter (Value.ref _)) (fun it s₂ => LoopAtV _ _ _ _ _ _ _ _ _ it s₂) _ _); k_listUnr))
local macro_rules | `(tactic| walk_at "exec For Name Name cons nil") => `(tactic| (k_here; k_dflt (refine' For_F ?F ?x ?p ?_ ?s ?E; (case F => k_asm); (case x => rfl); (case p => rfl); (case s => intro _; rfl); (case E => exact PassesOwn.never); k_whole)))
local macro_rules | `(tactic| walk_at "call builtin:dict.pop") => `(tactic| (k_here; (with_reducible show wpAny _ _ (call (Value.builtin "dict.pop") [Value.ref _, Value.int _ _, _]) _ _ _); k_dflt (refine' lru_popd ?F ?N ?U ?d ?lo ?z ?_; (case F => k_asm); (case N => k_asm); (case U => k_updF); (case d => assumption); (case lo => assumption); (case z => rw [sizeLine_eq]; omega); k_whole); intro v' h' o' F' N' hd'; (try dsimp only at N')))
local macro_rules | `(tactic| walk_at "FinA") => `(tactic| ((unfold LCg.FinA); intro D' h' tk' F' N' o1'; (try simp only [List.nil_append, List.cons_append] at N'); (try dsimp only)))
local macro_rules | `(tactic| k_ne) => `(tactic| first | assumption | exact off1_ne (by assumption) (by k_mem) | exact (off1_ne (by assumption) (by k_mem)).symm)
local macro_rules | `(tactic| walk_at "subscriptTail Name Slice ref ref") => `(tactic| (k_here; (with_reducible show wpAny _ _ (subscriptTail _ (PySem.Expr.Slice _ _ none _) (Value.ref _) (Value.ref _)) _ _ _); k_dflt (refine' kmk_slice_ints ?F ?N ?l ?p ?q ?i ?m ?c ?_ ?s ?t ?z; (case F => k_asm); (case N => k_asm); (case l => kmk_list); (case p => kmk_part); (case q => kmk_part); (case i => assumption); (case m => exact kmk_from (by assumption) (by assumption)); (case c => exact List.length_drop ..); (case s => with_unfolding_all rfl); (case t => kmk_pure); (case z => assumption)); intro D' ws' h' F' N' l1 hI' hC' hL'; (try k_lt l1)))
local macro_rules | `(tactic| walk_at "call builtin:dict.pop") => `(tactic| (k_here; dsimp only [List.cons_append, List.nil_append]))
local macro_rules | `(tactic| walk_at "call builtin:list.append") => `(tactic| (k_here; dsimp only [List.cons_append, List.nil_append]))

section
variable {w : World} {mg mb : Str → Option Value} {mean : ExcName → Option Value} {h₀ : Heap} {L fa cd : Nat} {m : Str → Option Value} {s : Shared} {Q : Flow → Shared → Prop}
  {cC cV cK lN x0 dx0 d0 x1 dx1 d1 lC dV lM lU I lW s0 s1 : Nat} {oC oV oK od0 od1 oVd oI so0 so1 : Obj} {vsN vsU : List Value} {ns us : List Int} {nN nM nU nC nW : Nat} {a1 a2 a3 a4 b1 b2 b3 b4 tp tM0 tM1 tk9 tkey tv : Tok} {place size more m0 m1 kind key vi : Int} {kvs0 kvs1 kvsV : List (Int × Value)}
set_option maxHeartbeats 16000000 in
theorem seg1 {vK : Option Value}
  (X : (hd.heap_39 w.params).In h₀) (T : Top topProg loose mean mg mb h₀) (B : Below callerA h₀ [] h₀)
  (F : Fr h₀ L s.heap m) (nm : Nm lN lM lU size more m) (np : m (Str.ofString "place") = some (.int place tp))
  (N : News h₀ L s.heap [(cC, oC), (cV, oV), (cK, oK), (lN, listOf vsN.toArray nN), (x0, instObj 88 dx0), (dx0, cont w a1 a2 a3 a4 size .none d0), (d0, od0), (x1, instObj 88 dx1), (dx1, cont w b1 b2 b3 b4 (size + more) .none d1), (d1, od1), (lC, listOf #[.ref x0, .ref x1] nC), (dV, oVd), (lM, listOf #[.int m0 tM0, .int m1 tM1] nM), (lU, listOf vsU.toArray nU), (I, oI)])
  (hcC : oC.data = .cell (some (.ref lC))) (hcV : oV.data = .cell (some (.ref dV))) (eC : cC = L + 1) (eV : cV = L + 2) (eK : cK = L + 3)
  (o1 : L + 3 < lN) (o2 : lN < dx0) (o3 : dx0 < x0) (o4 : x0 < d0) (o5 : d0 < dx1) (o6 : dx1 < x1) (o7 : x1 < d1) (o8 : d1 < lC) (o9 : lC < dV) (o10 : dV < lM) (oU : LCg.Off1 lU [(cC, oC), (cV, oV), (cK, oK), (lN, listOf vsN.toArray nN), (x0, instObj 88 dx0), (dx0, cont w a1 a2 a3 a4 size .none d0), (d0, od0), (x1, instObj 88 dx1), (dx1, cont w b1 b2 b3 b4 (size + more) .none d1), (d1, od1), (lC, listOf #[.ref x0, .ref x1] nC), (dV, oVd), (lM, listOf #[.int m0 tM0, .int m1 tM1] nM), (I, oI)]) (o14 : lM < I)
  (lo0 : (d0 == sysModules) = false) (lo1 : (d1 == sysModules) = false) (loV : (dV == sysModules) = false) (hk0 : kvs0.length ≤ 10) (hk1 : kvs1.length ≤ 10) (hkV : kvsV.length ≤ 10)
  (hd0 : od0.IsDictOf (PySem.intKind PySem.Challenge.rw_aj5039_02.row.prog w) kvs0) (hd1 : od1.IsDictOf (PySem.intKind PySem.Challenge.rw_aj5039_02.row.prog w) kvs1) (hdV : oVd.IsDictOf (PySem.intKind PySem.Challenge.rw_aj5039_02.row.prog w) kvsV)
  (hcK : oK.data = .cell vK) (hN : IntsAre vsN ns) (hl0 : 2 ≤ place) (hl1 : place + 1 < ns.length) (hl2 : ns.length ≤ 34)
  (q : ∀ h' tk m' lW s0 s1 so0 so1 oK' nW tk9 tkey, Fr h₀ L h' m' → Nm lN lM lU size more m' → m' (Str.ofString "kind") = some (.int ((ns.getD place.toNat 0).fmod 4) tk9) → m' (Str.ofString "place") = some (.int place tp) → m' (Str.ofString "was") = some (.ref lW) →
    News h₀ L h' [(lW, listOf #[.ref s0, .ref s1] nW), (s0, so0), (s1, so1), (cC, oC), (cV, oV), (cK, oK'), (lN, listOf vsN.toArray nN), (x0, instObj 88 dx0), (dx0, cont w a1 a2 a3 a4 size .none d0), (d0, od0), (x1, instObj 88 dx1), (dx1, cont w b1 b2 b3 b4 (size + more) .none d1), (d1, od1), (lC, listOf #[.ref x0, .ref x1] nC), (dV, oVd), (lM, listOf #[.int m0 tM0, .int m1 tM1] nM), (lU, listOf vsU.toArray nU), (I, oI)] → oK'.data = .cell (some (.int ((ns.getD (place + 1).toNat 0).fmod 7) tkey)) → SetIs so0 (kvs0.map (·.1)) → SetIs so1 (kvs1.map (·.1)) → (@LT.lt Nat _ I s0 ∧ @LT.lt Nat _ lU s0 ∧ @LT.lt Nat _ s0 s1) → (@Ne Nat lW d0 ∧ @Ne Nat lW d1 ∧ @Ne Nat lW dV ∧ @Ne Nat lW lM) → Q .next { s with heap := h', toks := tk }) :
  wpAny (model PySem.Challenge.rw_aj5039_02.row.prog w) (callerA.deeper (lenv L fa cd)) (execs (loopBody.take 3) (lenv L fa cd)) Q (fun _ _ => False) s := by
  revert X
  k_fill
  intro X
  subst eC eV eK
  obtain ⟨tsz, tmo, enm⟩ := nm.open
  have F1 := fr_eq F enm
  have e1 := (enm (Str.ofString "place")).trans np
  have F2 := fr_put (m := names02 lN lM lU size more tsz tmo m) e1 F1
  clear F F1 e1
  conv => arg 3; arg 1; whnf
  k_steps
  all_goals first | (refine wpAny_pure (α := Flow) (a := Flow.next) ?_; exact q _ _ _ _ _ _ _ _ _ _ _ _ (by assumption) ⟨by exact rfl, by exact rfl, by exact rfl, ⟨_, by exact rfl⟩, ⟨_, by exact rfl⟩⟩ (by exact rfl) (by exact rfl) (by exact rfl) (News.sub (by assumption) (by lcg_sub)) (by assumption) (by assumption) (by assumption) ⟨by omega, by omega, by omega⟩ ⟨off1_ne (by assumption) (by k_mem), off1_ne (by assumption) (by k_mem), off1_ne (by assumption) (by k_mem), off1_ne (by assumption) (by k_mem)⟩)
end
end Mine
end
section
open PySem PySem.W PyProof.Rows PySem.Calls PyProof.V PySem.Spec
set_option maxRecDepth 100000
namespace Mine
local macro_rules | `(tactic| k_room) => `(tactic| first | ((try simp only [depth_under_make, depth_under_kw, depth_in1, depth_deeper, depth_caller, depth_mark, recursionLimit]); first | decide | omega))
local macro_rules | `(tactic| k_all) => `(tactic| assumption)
local macro_rules | `(tactic| walk_at "call ref") => `(tactic| (k_here; (with_reducible show wpAny _ _ (call (Value.ref 99) [Value.ref _, Value.int _ _]) _ _ _); k_dflt (first
  | (refine' L_got_hit ?X ?T ?B ?hA ?hf ?hke ?hh ?hdep ?hun ?F ?N ?I1 ?I2 ?U ?hod ?lo ?hlen ?ne1 ?ne2 ?ne3 ?hv ?_; (case F => k_asm); (case X => k_asm); (case T => k_asm); (case B => assumption); (case hA => exact rfl); (case hf => exact rfl); (case hke => exact rfl); (case hh => exact rfl); (case hdep => exact Nat.le_of_ble_eq_true rfl); (case hun => exact Nat.le_of_ble_eq_true rfl); (case N => k_asm); (case I1 => k_mem); (case I2 => k_mem); (case U => k_updF); (case hod => assumption); (case lo => assumption); (case hlen => assumption); (case ne1 => k_ne); (case ne2 => k_ne); (case ne3 => k_ne); (case hv => assumption); k_whole; intro l' h' tk' od' F' N' l1 hd'; (try dsimp only at N'); (try k_lt l1))
  | (refine' L_got_missR ?X ?T ?B ?hA ?hf ?hke ?hh ?hdep ?hun ?F ?N ?I1 ?I2 ?I3 ?hod ?lo ?hlen ?ne1 ?ne2 ?ne3 ?hv ?_; (case F => k_asm); (case X => k_asm); (case T => k_asm); (case B => assumption); (case hA => exact rfl); (case hf => exact rfl); (case hke => exact rfl); (case hh => exact rfl); (case hdep => exact Nat.le_of_ble_eq_true rfl); (case hun => exact Nat.le_of_ble_eq_true rfl); (case N => k_asm); (case I1 => k_mem); (case I2 => k_mem); (case I3 => k_mem); (case hod => assumption); (case lo => assumption); (case hlen => assumption); (case ne1 => k_ne); (case ne2 => k_ne); (case ne3 => k_ne); (case hv => assumption); k_whole; intro l' h' tk' F' N' l1; (try dsimp only at N'); (try k_lt l1)))))
local macro_rules | `(tactic| walk_at "call ref") => `(tactic| (k_here; (with_reducible show wpAny _ _ (call (Value.ref 106) [Value.ref _, Value.int _ _]) _ _ _); k_dflt (refine' L_delB ?X ?T ?B ?hA ?hf ?hke ?hh ?hdep ?hun ?F ?N ?I1 ?I2 ?U ?hod ?lo ?hlen ?ne1 ?ne2 ?ne3 ?hb ?_;  (case F => k_asm); (case X => k_asm); (case T => k_asm); (case B => assumption); (case hA => exact rfl); (case hf => exact rfl); (case hke => exact rfl); (case hh => exact rfl); (case hdep => exact Nat.le_of_ble_eq_true rfl); (case hun => exact Nat.le_of_ble_eq_true rfl); (case N => k_asm); (case I1 => k_mem); (case I2 => k_mem); (case U => k_updF); (case hod => assumption); (case lo => assumption); (case hlen => assumption); (case ne1 => k_ne); (case ne2 => k_ne); (case ne3 => k_ne); (case hb => assumption); k_whole; intro h' tk' od' F' N' hd'; (try dsimp only at N'))))
local macro_rules | `(tactic| walk_at "call ref") => `(tactic| (k_here; (with_reducible show wpAny _ _ (call (Value.ref 85) [Value.ref _]) _ _ _); k_dflt (refine' L_keysR ?X ?T ?B ?hA ?hf ?hke ?hh ?hdep ?hun ?F ?N ?I1 ?I2 ?I3 ?hod ?lo ?hlen ?ne1 ?ne2 ?ne3 ?_; (case F => k_asm); (case X => k_asm); (case T => k_asm); (case B => assumption); (case hA => exact rfl); (case hf => exact rfl); (case hke => exact rfl); (case hh => exact rfl); (case hdep => exact Nat.le_of_ble_eq_true rfl); (case hun => exact Nat.le_of_ble_eq_true rfl); (case N => k_asm); (case I1 => k_mem); (case I2 => k_mem); (case I3 => k_mem); (case hod => assumption); (case lo => assumption); (case hlen => assumption); (case ne1 => k_ne); (case ne2 => k_ne); (case ne3 => k_ne); k_whole; intro l' so' h' tk' F' N' l1 hs'; (try dsimp only at N'); (try k_lt l1))))
local macro_rules | `(tactic| walk_at "call builtin:len") => `(tactic| (k_here; (with_reducible show wpAny _ _ (call (Value.builtin "len") [Value.ref _]) _ _ _); k_dflt (refine' L_lenR ?X ?T ?B ?hA ?hf ?hke ?hh ?hdep ?hun ?F ?N ?I1 ?I2 ?I3 ?hod ?lo ?hlen ?ne1 ?ne2 ?ne3 ?_; (case F => k_asm); (case N => k_asm); (case I1 => k_mem); (case X => k_asm); (case T => k_asm); (case B => assumption); (case hA => exact rfl); (case hf => exact rfl); (case hke => exact rfl); (case hh => exact rfl); (case hdep => exact Nat.le_of_ble_eq_true rfl); (case hun => exact Nat.le_of_ble_eq_true rfl); (case I2 => k_mem); (case I3 => k_mem); (case hod => assumption); (case lo => assumption); (case hlen => assumption); (case ne1 => k_ne); (case ne2 => k_ne); (case ne3 => k_ne); k_whole; intro u' h' tk' F' N')))
local macro_rules | `(tactic| walk_at "setItem ref int") => `(tactic| (k_here; k_dflt (refine' kda_set (knd := PySem.intKind _ _) ?F ?N ?U ?d (intKind_is _ _ _ _) ?z ?_; (case F => k_asm); (case N => k_asm); (case U => k_updF); (case d => assumption); (case z => rw [sizeLine_eq]; omega); k_whole); intro h' o' F' N' hd'; (try dsimp only at N')))
local macro_rules | `(tactic| walk_at "setItem ref int") => `(tactic| (k_here; k_dflt (refine' L_set ?X ?T ?B ?hA ?hf ?hke ?hh ?hdep ?hun ?F ?N ?I1 ?I2 ?U ?hod ?lo ?hlen ?ne1 ?ne2 ?ne3 ?_; (case F => k_asm); (case N => k_asm); (case I1 => k_mem); (case X => k_asm); (case T => k_asm); (case B => assumption); (case hA => exact rfl); (case hf => exact rfl); (case hke => exact rfl); (case hh => exact rfl); (case hdep => exact Nat.le_of_ble_eq_true rfl); (case hun => exact Nat.le_of_ble_eq_true rfl); (case I2 => k_mem); (case U => k_updF); (case hod => assumption); (case lo => assumption); (case hlen => assumption); (case ne1 => k_ne); (case ne2 => k_ne); (case ne3 => k_ne); k_whole; intro h' tk' od' F' N' hd'; (try dsimp only at N'))))
local macro_rules | `(tactic| walk_at "compareOp In int ref") => `(tactic| (k_here; k_dflt (refine' lru_inB ?N ?a ?s ?l ?b ?_; (case N => k_asm); (case a => k_mem); (case s => assumption); (case l => rw [List.length_map]; omega); (case b => assumption); k_whole)))
local macro_rules | `(tactic| walk_at "compareOp In int ref") => `(tactic| (k_here; k_dflt (refine' kda_in (knd := PySem.intKind _ _) ?N ?a ?d ?lo (intKind_is _ _ _ _) _ ?b ?_; (case N => k_asm); (case a => k_mem); (case d => assumption); (case lo => assumption); (case b => assumption); k_whole)))
local macro_rules | `(tactic| walk_at "compareOp NotIn int ref") => `(tactic| (k_here; k_dflt (refine' kdg_notin (knd := PySem.intKind _ _) ?N ?a ?d ?lo (intKind_is _ _ _ _) _ ?b ?_; (case N => k_asm); (case a => k_mem); (case d => assumption); (case lo => assumption); (case b => assumption); k_whole)))
local macro_rules | `(tactic| walk_at "subscriptTail") => `(tactic| (k_here; (with_reducible show wpAny _ _ (subscriptTail _ _ (Value.ref _) (Value.int _ _)) _ _ _); k_dflt (refine' kda_item (knd := PySem.intKind _ _) ?N ?a ?d (intKind_is _ _ _ _) ?v ?_; (case N => k_asm); (case a => k_mem); (case d => assumption); (case v => assumption); k_whole)))
local macro_rules | `(tactic| walk_at "compareOp LtE ref ref") => `(tactic| (k_here; k_dflt (refine' lru_le ?u ?N ?a ?b ?s ?s' ?l ?l' ?le ?sub ?_; (case u => exact Nat.le_of_ble_eq_true rfl); (case N => k_asm); (case a => k_mem); (case b => k_mem); (case s => assumption); (case s' => assumption); (case l => first | assumption | omega); (case l' => first | assumption | omega); (case le => first | assumption | omega); (case sub => first | assumption | exact fun _ h => h); k_whole)))
local macro_rules | `(tactic| walk_at "compareOp NotEq ref ref") => `(tactic| (k_here; k_dflt (refine' lru_ne ?u ?N ?a ?b ?s ?s' ?l ?l' ?le ?sub ?_; (case u => exact Nat.le_of_ble_eq_true rfl); (case N => k_asm); (case a => k_mem); (case b => k_mem); (case s => assumption); (case s' => assumption); (case l => first | assumption | omega); (case l' => first | assumption | omega); (case le => first | assumption | omega); (case sub => first | assumption | exact fun _ h => h); k_whole)))
local macro_rules | `(tactic| walk_at "call type:set") => `(tactic| (k_here; (with_reducible show wpAny _ _ (call (Value.type "set") [Value.ref _]) _ _ _); k_dflt (first
  | (refine' lru_keys_set ?hh ?F ?N ?v ?p ?d ?z ?_; (case hh => first | exact rfl | assumption); (case F => k_asm); (case N => k_asm); (case v => k_mem); (case p => k_mem); (case d => k_asm); (case z => omega); k_whole; intro D' h' tk' so' F' N' l1 hs'; (try k_lt l1))
  | (refine' lru_list_setE ?hh ?F ?N ?v ?i ?e ?n ?z ?_; (case hh => first | exact rfl | assumption); (case F => k_asm); (case N => k_asm); (case v => k_mem); (case i => k_asm); (case e => assumption); (case n => assumption); (case z => assumption); k_whole; intro D' h' tk' so' F' N' l1 hs'; (try k_lt l1)))))
local macro_rules | `(tactic| lcg_off) => `(tactic| assumption)
local macro_rules | `(tactic| walk_at "CompRest") => `(tactic| (with_unfolding_all (refine LCg.CompRest.succ ?_; intro v' I' oI' C' oC' D' m' h' tk' E' hv' hC' hx' F' N' off' ne'; (first | lcg_open hv' | (obtain ⟨t9', hv9'⟩ := hv'; subst hv9')))))
local macro_rules | `(tactic| walk_at "ite") => `(tactic| (k_here; first | refine ite_pos (by assumption) ?_ | refine ite_neg (ne_true_of (by assumption)) ?_ | refine ite_neg (by simp; done) ?_ | refine ite_pos (by simp; done) ?_ | refine ite_neg (by simp; omega) ?_))
local macro_rules | `(tactic| walk_at "pyIter ref") => `(tactic| ((with_reducible show wpAny _ _ (pyIter (Value.ref _)) (fun it s₂ => LoopAtV _ _ _ _ _ _ _ _ _ it s₂) _ _); k_listUnr))
local macro_rules | `(tactic| walk_at "exec For Name Name cons nil") => `(tactic| (k_here; k_dflt (refine' For_F ?F ?x ?p ?_ ?s ?E; (case F => k_asm); (case x => rfl); (case p => rfl); (case s => intro _; rfl); (case E => exact PassesOwn.never); k_whole)))
local macro_rules | `(tactic| walk_at "call builtin:dict.pop") => `(tactic| (k_here; (with_reducible show wpAny _ _ (call (Value.builtin "dict.pop") [Value.ref _, Value.int _ _, _]) _ _ _); k_dflt (refine' lru_popd ?F ?N ?U ?d ?lo ?z ?_; (case F => k_asm); (case N => k_asm); (case U => k_updF); (case d => assumption); (case lo => assumption); (case z => rw [sizeLine_eq]; omega); k_whole); intro v' h' o' F' N' hd'; (try dsimp only at N')))
local macro_rules | `(tactic| walk_at "FinA") => `(tactic| ((unfold LCg.FinA); intro D' h' tk' F' N' o1'; (try simp only [List.nil_append, List.cons_append] at N'); (try dsimp only)))
local macro_rules | `(tactic| k_ne) => `(tactic| first | assumption | exact off1_ne (by assumption) (by k_mem) | exact (off1_ne (by assumption) (by k_mem)).symm)
local macro_rules | `(tactic| walk_at "subscriptTail Name Slice ref ref") => `(tactic| (k_here; (with_reducible show wpAny _ _ (subscriptTail _ (PySem.Expr.Slice _ _ none _) (Value.ref _) (Value.ref _)) _ _ _); k_dflt (refine' kmk_slice_ints ?F ?N ?l ?p ?q ?i ?m ?c ?_ ?s ?t ?z; (case F => k_asm); (case N => k_asm); (case l => kmk_list); (case p => kmk_part); (case q => kmk_part); (case i => assumption); (case m => exact kmk_from (by assumption) (by assumption)); (case c => exact List.length_drop ..); (case s => with_unfolding_all rfl); (case t => kmk_pure); (case z => assumption)); intro D' ws' h' F' N' l1 hI' hC' hL'; (try k_lt l1)))
local macro_rules | `(tactic| walk_at "call builtin:dict.pop") => `(tactic| (k_here; dsimp only [List.cons_append, List.nil_append]))
local macro_rules | `(tactic| walk_at "call builtin:list.append") => `(tactic| (k_here; dsimp only [List.cons_append, List.nil_append]))

section
variable {w : World} {mg mb : Str → Option Value} {mean : ExcName → Option Value} {h₀ : Heap} {L fa cd : Nat} {m : Str → Option Value} {s : Shared} {Q : Flow → Shared → Prop}
  {cC cV cK lN x0 dx0 d0 x1 dx1 d1 lC dV lM lU I lW s0 s1 : Nat} {oC oV oK od0 od1 oVd oI so0 so1 : Obj} {vsN vsU : List Value} {ns us : List Int} {nN nM nU nC nW : Nat} {a1 a2 a3 a4 b1 b2 b3 b4 tp tM0 tM1 tk9 tkey tv : Tok} {place size more m0 m1 kind key vi : Int} {kvs0 kvs1 kvsV : List (Int × Value)}
set_option maxHeartbeats 16000000 in
theorem seg2D
  (X : (hd.heap_39 w.params).In h₀) (T : Top topProg loose mean mg mb h₀) (B : Below callerA h₀ [] h₀)
  (F : Fr h₀ L s.heap m) (nm : Nm lN lM lU size more m) (nk : m (Str.ofString "kind") = some (.int kind tk9)) (np : m (Str.ofString "place") = some (.int place tp)) (nw : m (Str.ofString "was") = some (.ref lW))
  (N : News h₀ L s.heap [(lW, listOf #[.ref s0, .ref s1] nW), (s0, so0), (s1, so1), (cC, oC), (cV, oV), (cK, oK), (lN, listOf vsN.toArray nN), (x0, instObj 88 dx0), (dx0, cont w a1 a2 a3 a4 size .none d0), (d0, od0), (x1, instObj 88 dx1), (dx1, cont w b1 b2 b3 b4 (size + more) .none d1), (d1, od1), (lC, listOf #[.ref x0, .ref x1] nC), (dV, oVd), (lM, listOf #[.int m0 tM0, .int m1 tM1] nM), (lU, listOf vsU.toArray nU), (I, oI)])
  (hcC : oC.data = .cell (some (.ref lC))) (hcV : oV.data = .cell (some (.ref dV))) (eC : cC = L + 1) (eV : cV = L + 2) (eK : cK = L + 3)
  (o1 : L + 3 < lN) (o2 : lN < dx0) (o3 : dx0 < x0) (o4 : x0 < d0) (o5 : d0 < dx1) (o6 : dx1 < x1) (o7 : x1 < d1) (o8 : d1 < lC) (o9 : lC < dV) (o10 : dV < lM) (oU : LCg.Off1 lU [(cC, oC), (cV, oV), (cK, oK), (lN, listOf vsN.toArray nN), (x0, instObj 88 dx0), (dx0, cont w a1 a2 a3 a4 size .none d0), (d0, od0), (x1, instObj 88 dx1), (dx1, cont w b1 b2 b3 b4 (size + more) .none d1), (d1, od1), (lC, listOf #[.ref x0, .ref x1] nC), (dV, oVd), (lM, listOf #[.int m0 tM0, .int m1 tM1] nM), (I, oI)]) (o14 : lM < I)
  (lo0 : (d0 == sysModules) = false) (lo1 : (d1 == sysModules) = false) (loV : (dV == sysModules) = false) (hk0 : kvs0.length ≤ 10) (hk1 : kvs1.length ≤ 10) (hkV : kvsV.length ≤ 10)
  (hd0 : od0.IsDictOf (PySem.intKind PySem.Challenge.rw_aj5039_02.row.prog w) kvs0) (hd1 : od1.IsDictOf (PySem.intKind PySem.Challenge.rw_aj5039_02.row.prog w) kvs1) (hdV : oVd.IsDictOf (PySem.intKind PySem.Challenge.rw_aj5039_02.row.prog w) kvsV)
  (o16 : I < s0) (o17 : lU < s0) (o18 : s0 < s1) (w0 : lW ≠ d0) (w1 : lW ≠ d1) (wV : lW ≠ dV) (wM : lW ≠ lM) (hcK : oK.data = .cell (some (.int key tkey))) (hs0 : SetIs so0 (kvs0.map (·.1))) (hs1 : SetIs so1 (kvs1.map (·.1)))
  (kf : ([0, 1].any fun x => x == kind) = true)
  (hv0 : valueAt kvs0 key = some (.int vi tv)) (hv1 : valueAt kvs1 key = some (.int vi tv)) (hvV : valueAt kvsV key = some (.int vi tv)) (ha0 : ((kvs0.map (·.1)).any (· == key)) = true) (ha1 : ((kvs1.map (·.1)).any (· == key)) = true) (haV : (valueAt kvsV key).isSome = true)
  (q : ∀ h' tk m' od0' od1' oV' tM0' tM1' nM', Fr h₀ L h' m' → Nm lN lM lU size more m' → m' (Str.ofString "kind") = some (.int kind tk9) → m' (Str.ofString "place") = some (.int place tp) → News h₀ L h' [(cC, oC), (cV, oV), (cK, oK), (lN, listOf vsN.toArray nN), (x0, instObj 88 dx0), (dx0, cont w a1 a2 a3 a4 size .none d0), (d0, od0'), (x1, instObj 88 dx1), (dx1, cont w b1 b2 b3 b4 (size + more) .none d1), (d1, od1'), (lC, listOf #[.ref x0, .ref x1] nC), (dV, oV'), (lM, listOf #[.int m0 tM0', .int m1 tM1'] nM'), (lU, listOf vsU.toArray nU), (I, oI)] → od0'.IsDictOf (PySem.intKind PySem.Challenge.rw_aj5039_02.row.prog w) (without kvs0 key ++ [(key, .int vi tv)]) → od1'.IsDictOf (PySem.intKind PySem.Challenge.rw_aj5039_02.row.prog w) (without kvs1 key ++ [(key, .int vi tv)]) → oV'.IsDictOf (PySem.intKind PySem.Challenge.rw_aj5039_02.row.prog w) (kvsV) → Q .next { s with heap := h', toks := tk }) :
  wpAny (model PySem.Challenge.rw_aj5039_02.row.prog w) (callerA.deeper (lenv L fa cd)) (exec (loopBody.getD 3 (Stmt.Pass default)) (lenv L fa cd)) Q (fun _ _ => False) s := by
  revert X
  k_fill
  intro X
  subst eC eV eK
  obtain ⟨tsz, tmo, enm⟩ := nm.open
  have F1 := fr_eq F enm
  have e1 := (enm (Str.ofString "place")).trans np
  have F2 := fr_put (m := names02 lN lM lU size more tsz tmo m) e1 F1
  have e2 := (if_name e1 (Str.ofString "kind")).trans ((enm (Str.ofString "kind")).trans nk)
  have F3 := fr_put (x := Str.ofString "kind") (v := .int kind tk9) (by exact e2) F2
  have e3 := (if_name e2 (Str.ofString "was")).trans ((if_name e1 (Str.ofString "was")).trans ((enm (Str.ofString "was")).trans nw))
  have F4 := fr_put (x := Str.ofString "was") (v := .ref lW) (by exact e3) F3
  clear F F1 F2 F3 e1 e2 e3
  conv => arg 3; arg 1; whnf
  k_steps
  all_goals first | exact q _ _ _ _ _ _ _ _ _ (by assumption) ⟨rfl, rfl, rfl, ⟨_, rfl⟩, ⟨_, rfl⟩⟩ rfl rfl (News.sub (by assumption) (by lcg_sub)) (by assumption) (by assumption) (by assumption)
end
end Mine
end
section
open PySem PySem.W PyProof.Rows PySem.Calls PyProof.V PySem.Spec
set_option maxRecDepth 100000
namespace Mine
local macro_rules | `(tactic| k_room) => `(tactic| first | ((try simp only [depth_under_make, depth_under_kw, depth_in1, depth_deeper, depth_caller, depth_mark, recursionLimit]); first | decide | omega))
local macro_rules | `(tactic| k_all) => `(tactic| assumption)
local macro_rules | `(tactic| walk_at "call ref") => `(tactic| (k_here; (with_reducible show wpAny _ _ (call (Value.ref 99) [Value.ref _, Value.int _ _]) _ _ _); k_dflt (first
  | (refine' L_got_hit ?X ?T ?B ?hA ?hf ?hke ?hh ?hdep ?hun ?F ?N ?I1 ?I2 ?U ?hod ?lo ?hlen ?ne1 ?ne2 ?ne3 ?hv ?_; (case F => k_asm); (case X => k_asm); (case T => k_asm); (case B => assumption); (case hA => exact rfl); (case hf => exact rfl); (case hke => exact rfl); (case hh => exact rfl); (case hdep => exact Nat.le_of_ble_eq_true rfl); (case hun => exact Nat.le_of_ble_eq_true rfl); (case N => k_asm); (case I1 => k_mem); (case I2 => k_mem); (case U => k_updF); (case hod => assumption); (case lo => assumption); (case hlen => assumption); (case ne1 => k_ne); (case ne2 => k_ne); (case ne3 => k_ne); (case hv => assumption); k_whole; intro l' h' tk' od' F' N' l1 hd'; (try dsimp only at N'); (try k_lt l1))
  | (refine' L_got_missR ?X ?T ?B ?hA ?hf ?hke ?hh ?hdep ?hun ?F ?N ?I1 ?I2 ?I3 ?hod ?lo ?hlen ?ne1 ?ne2 ?ne3 ?hv ?_; (case F => k_asm); (case X => k_asm); (case T => k_asm); (case B => assumption); (case hA => exact rfl); (case hf => exact rfl); (case hke => exact rfl); (case hh => exact rfl); (case hdep => exact Nat.le_of_ble_eq_true rfl); (case hun => exact Nat.le_of_ble_eq_true rfl); (case N => k_asm); (case I1 => k_mem); (case I2 => k_mem); (case I3 => k_mem); (case hod => assumption); (case lo => assumption); (case hlen => assumption); (case ne1 => k_ne); (case ne2 => k_ne); (case ne3 => k_ne); (case hv => assumption); k_whole; intro l' h' tk' F' N' l1; (try dsimp only at N'); (try k_lt l1)))))
local macro_rules | `(tactic| walk_at "call ref") => `(tactic| (k_here; (with_reducible show wpAny _ _ (call (Value.ref 106) [Value.ref _, Value.int _ _]) _ _ _); k_dflt (refine' L_delB ?X ?T ?B ?hA ?hf ?hke ?hh ?hdep ?hun ?F ?N ?I1 ?I2 ?U ?hod ?lo ?hlen ?ne1 ?ne2 ?ne3 ?hb ?_;  (case F => k_asm); (case X => k_asm); (case T => k_asm); (case B => assumption); (case hA => exact rfl); (case hf => exact rfl); (case hke => exact rfl); (case hh => exact rfl); (case hdep => exact Nat.le_of_ble_eq_true rfl); (case hun => exact Nat.le_of_ble_eq_true rfl); (case N => k_asm); (case I1 => k_mem); (case I2 => k_mem); (case U => k_updF); (case hod => assumption); (case lo => assumption); (case hlen => assumption); (case ne1 => k_ne); (case ne2 => k_ne); (case ne3 => k_ne); (case hb => assumption); k_whole; intro h' tk' od' F' N' hd'; (try dsimp only at N'))))
local macro_rules | `(tactic| walk_at "call ref") => `(tactic| (k_here; (with_reducible show wpAny _ _ (call (Value.ref 85) [Value.ref _]) _ _ _); k_dflt (refine' L_keysR ?X ?T ?B ?hA ?hf ?hke ?hh ?hdep ?hun ?F ?N ?I1 ?I2 ?I3 ?hod ?lo ?hlen ?ne1 ?ne2 ?ne3 ?_; (case F => k_asm); (case X => k_asm); (case T => k_asm); (case B => assumption); (case hA => exact rfl); (case hf => exact rfl); (case hke => exact rfl); (case hh => exact rfl); (case hdep => exact Nat.le_of_ble_eq_true rfl); (case hun => exact Nat.le_of_ble_eq_true rfl); (case N => k_asm); (case I1 => k_mem); (case I2 => k_mem); (case I3 => k_mem); (case hod => assumption); (case lo => assumption); (case hlen => assumption); (case ne1 => k_ne); (case ne2 => k_ne); (case ne3 => k_ne); k_whole; intro l' so' h' tk' F' N' l1 hs'; (try dsimp only at N'); (try k_lt l1))))
local macro_rules | `(tactic| walk_at "call builtin:len") => `(tactic| (k_here; (with_reducible show wpAny _ _ (call (Value.builtin "len") [Value.ref _]) _ _ _); k_dflt (refine' L_lenR ?X ?T ?B ?hA ?hf ?hke ?hh ?hdep ?hun ?F ?N ?I1 ?I2 ?I3 ?hod ?lo ?hlen ?ne1 ?ne2 ?ne3 ?_; (case F => k_asm); (case N => k_asm); (case I1 => k_mem); (case X => k_asm); (case T => k_asm); (case B => assumption); (case hA => exact rfl); (case hf => exact rfl); (case hke => exact rfl); (case hh => exact rfl); (case hdep => exact Nat.le_of_ble_eq_true rfl); (case hun => exact Nat.le_of_ble_eq_true rfl); (case I2 => k_mem); (case I3 => k_mem); (case hod => assumption); (case lo => assumption); (case hlen => assumption); (case ne1 => k_ne); (case ne2 => k_ne); (case ne3 => k_ne); k_whole; intro u' h' tk' F' N')))
local macro_rules | `(tactic| walk_at "setItem ref int") => `(tactic| (k_here; k_dflt (refine' kda_set (knd := PySem.intKind _ _) ?F ?N ?U ?d (intKind_is _ _ _ _) ?z ?_; (case F => k_asm); (case N => k_asm); (case U => k_updF); (case d => assumption); (case z => rw [sizeLine_eq]; omega); k_whole); intro h' o' F' N' hd'; (try dsimp only at N')))
local macro_rules | `(tactic| walk_at "setItem ref int") => `(tactic| (k_here; k_dflt (refine' L_set ?X ?T ?B ?hA ?hf ?hke ?hh ?hdep ?hun ?F ?N ?I1 ?I2 ?U ?hod ?lo ?hlen ?ne1 ?ne2 ?ne3 ?_; (case F => k_asm); (case N => k_asm); (case I1 => k_mem); (case X => k_asm); (case T => k_asm); (case B => assumption); (case hA => exact rfl); (case hf => exact rfl); (case hke => exact rfl); (case hh => exact rfl); (case hdep => exact Nat.le_of_ble_eq_true rfl); (case hun => exact Nat.le_of_ble_eq_true rfl); (case I2 => k_mem); (case U => k_updF); (case hod => assumption); (case lo => assumption); (case hlen => assumption); (case ne1 => k_ne); (case ne2 => k_ne); (case ne3 => k_ne); k_whole; intro h' tk' od' F' N' hd'; (try dsimp only at N'))))
local macro_rules | `(tactic| walk_at "compareOp In int ref") => `(tactic| (k_here; k_dflt (refine' lru_inB ?N ?a ?s ?l ?b ?_; (case N => k_asm); (case a => k_mem); (case s => assumption); (case l => rw [List.length_map]; omega); (case b => assumption); k_whole)))
local macro_rules | `(tactic| walk_at "compareOp In int ref") => `(tactic| (k_here; k_dflt (refine' kda_in (knd := PySem.intKind _ _) ?N ?a ?d ?lo (intKind_is _ _ _ _) _ ?b ?_; (case N => k_asm); (case a => k_mem); (case d => assumption); (case lo => assumption); (case b => assumption); k_whole)))
local macro_rules | `(tactic| walk_at "compareOp NotIn int ref") => `(tactic| (k_here; k_dflt (refine' kdg_notin (knd := PySem.intKind _ _) ?N ?a ?d ?lo (intKind_is _ _ _ _) _ ?b ?_; (case N => k_asm); (case a => k_mem); (case d => assumption); (case lo => assumption); (case b => assumption); k_whole)))
local macro_rules | `(tactic| walk_at "subscriptTail") => `(tactic| (k_here; (with_reducible show wpAny _ _ (subscriptTail _ _ (Value.ref _) (Value.int _ _)) _ _ _); k_dflt (refine' kda_item (knd := PySem.intKind _ _) ?N ?a ?d (intKind_is _ _ _ _) ?v ?_; (case N => k_asm); (case a => k_mem); (case d => assumption); (case v => assumption); k_whole)))
local macro_rules | `(tactic| walk_at "compareOp LtE ref ref") => `(tactic| (k_here; k_dflt (refine' lru_le ?u ?N ?a ?b ?s ?s' ?l ?l' ?le ?sub ?_; (case u => exact Nat.le_of_ble_eq_true rfl); (case N => k_asm); (case a => k_mem); (case b => k_mem); (case s => assumption); (case s' => assumption); (case l => first | assumption | omega); (case l' => first | assumption | omega); (case le => first | assumption | omega); (case sub => first | assumption | exact fun _ h => h); k_whole)))
local macro_rules | `(tactic| walk_at "compareOp NotEq ref ref") => `(tactic| (k_here; k_dflt (refine' lru_ne ?u ?N ?a ?b ?s ?s' ?l ?l' ?le ?sub ?_; (case u => exact Nat.le_of_ble_eq_true rfl); (case N => k_asm); (case a => k_mem); (case b => k_mem); (case s => assumption); (case s' => assumption); (case l => first | assumption | omega); (case l' => first | assumption | omega); (case le => first | assumption | omega); (case sub => first | assumption | exact fun _ h => h); k_whole)))
local macro_rules | `(tactic| walk_at "call type:set") => `(tactic| (k_here; (with_reducible show wpAny _ _ (call (Value.type "set") [Value.ref _]) _ _ _); k_dflt (first
  | (refine' lru_keys_set ?hh ?F ?N ?v ?p ?d ?z ?_; (case hh => first | exact rfl | assumption); (case F => k_asm); (case N => k_asm); (case v => k_mem); (case p => k_mem); (case d => k_asm); (case z => omega); k_whole; intro D' h' tk' so' F' N' l1 hs'; (try k_lt l1))
  | (refine' lru_list_setE ?hh ?F ?N ?v ?i ?e ?n ?z ?_; (case hh => first | exact rfl | assumption); (case F => k_asm); (case N => k_asm); (case v => k_mem); (case i => k_asm); (case e => assumption); (case n => assumption); (case z => assumption); k_whole; intro D' h' tk' so' F' N' l1 hs'; (try k_lt l1)))))
local macro_rules | `(tactic| lcg_off) => `(tactic| assumption)
local macro_rules | `(tactic| walk_at "CompRest") => `(tactic| (with_unfolding_all (refine LCg.CompRest.succ ?_; intro v' I' oI' C' oC' D' m' h' tk' E' hv' hC' hx' F' N' off' ne'; (first | lcg_open hv' | (obtain ⟨t9', hv9'⟩ := hv'; subst hv9')))))
local macro_rules | `(tactic| walk_at "ite") => `(tactic| (k_here; first | refine ite_pos (by assumption) ?_ | refine ite_neg (ne_true_of (by assumption)) ?_ | refine ite_neg (by simp; done) ?_ | refine ite_pos (by simp; done) ?_ | refine ite_neg (by simp; omega) ?_))
local macro_rules | `(tactic| walk_at "pyIter ref") => `(tactic| ((with_reducible show wpAny _ _ (pyIter (Value.ref _)) (fun it s₂ => LoopAtV _ _ _ _ _ _ _ _ _ it s₂) _ _); k_listUnr))
local macro_rules | `(tactic| walk_at "exec For Name Name cons nil") => `(tactic| (k_here; k_dflt (refine' For_F ?F ?x ?p ?_ ?s ?E; (case F => k_asm); (case x => rfl); (case p => rfl); (case s => intro _; rfl); (case E => exact PassesOwn.never); k_whole)))
local macro_rules | `(tactic| walk_at "call builtin:dict.pop") => `(tactic| (k_here; (with_reducible show wpAny _ _ (call (Value.builtin "dict.pop") [Value.ref _, Value.int _ _, _]) _ _ _); k_dflt (refine' lru_popd ?F ?N ?U ?d ?lo ?z ?_; (case F => k_asm); (case N => k_asm); (case U => k_updF); (case d => assumption); (case lo => assumption); (case z => rw [sizeLine_eq]; omega); k_whole); intro v' h' o' F' N' hd'; (try dsimp only at N')))
local macro_rules | `(tactic| walk_at "FinA") => `(tactic| ((unfold LCg.FinA); intro D' h' tk' F' N' o1'; (try simp only [List.nil_append, List.cons_append] at N'); (try dsimp only)))
local macro_rules | `(tactic| k_ne) => `(tactic| first | assumption | exact off1_ne (by assumption) (by k_mem) | exact (off1_ne (by assumption) (by k_mem)).symm)
local macro_rules | `(tactic| walk_at "subscriptTail Name Slice ref ref") => `(tactic| (k_here; (with_reducible show wpAny _ _ (subscriptTail _ (PySem.Expr.Slice _ _ none _) (Value.ref _) (Value.ref _)) _ _ _); k_dflt (refine' kmk_slice_ints ?F ?N ?l ?p ?q ?i ?m ?c ?_ ?s ?t ?z; (case F => k_asm); (case N => k_asm); (case l => kmk_list); (case p => kmk_part); (case q => kmk_part); (case i => assumption); (case m => exact kmk_from (by assumption) (by assumption)); (case c => exact List.length_drop ..); (case s => with_unfolding_all rfl); (case t => kmk_pure); (case z => assumption)); intro D' ws' h' F' N' l1 hI' hC' hL'; (try k_lt l1)))
local macro_rules | `(tactic| walk_at "call builtin:dict.pop") => `(tactic| (k_here; dsimp only [List.cons_append, List.nil_append]))
local macro_rules | `(tactic| walk_at "call builtin:list.append") => `(tactic| (k_here; dsimp only [List.cons_append, List.nil_append]))

section
variable {w : World} {mg mb : Str → Option Value} {mean : ExcName → Option Value} {h₀ : Heap} {L fa cd : Nat} {m : Str → Option Value} {s : Shared} {Q : Flow → Shared → Prop}
  {cC cV cK lN x0 dx0 d0 x1 dx1 d1 lC dV lM lU I lW s0 s1 : Nat} {oC oV oK od0 od1 oVd oI so0 so1 : Obj} {vsN vsU : List Value} {ns us : List Int} {nN nM nU nC nW : Nat} {a1 a2 a3 a4 b1 b2 b3 b4 tp tM0 tM1 tk9 tkey tv : Tok} {place size more m0 m1 kind key vi : Int} {kvs0 kvs1 kvsV : List (Int × Value)}
set_option maxHeartbeats 16000000 in
theorem seg2C
  (X : (hd.heap_39 w.params).In h₀) (T : Top topProg loose mean mg mb h₀) (B : Below callerA h₀ [] h₀)
  (F : Fr h₀ L s.heap m) (nm : Nm lN lM lU size more m) (nk : m (Str.ofString "kind") = some (.int kind tk9)) (np : m (Str.ofString "place") = some (.int place tp)) (nw : m (Str.ofString "was") = some (.ref lW))
  (N : News h₀ L s.heap [(lW, listOf #[.ref s0, .ref s1] nW), (s0, so0), (s1, so1), (cC, oC), (cV, oV), (cK, oK), (lN, listOf vsN.toArray nN), (x0, instObj 88 dx0), (dx0, cont w a1 a2 a3 a4 size .none d0), (d0, od0), (x1, instObj 88 dx1), (dx1, cont w b1 b2 b3 b4 (size + more) .none d1), (d1, od1), (lC, listOf #[.ref x0, .ref x1] nC), (dV, oVd), (lM, listOf #[.int m0 tM0, .int m1 tM1] nM), (lU, listOf vsU.toArray nU), (I, oI)])
  (hcC : oC.data = .cell (some (.ref lC))) (hcV : oV.data = .cell (some (.ref dV))) (eC : cC = L + 1) (eV : cV = L + 2) (eK : cK = L + 3)
  (o1 : L + 3 < lN) (o2 : lN < dx0) (o3 : dx0 < x0) (o4 : x0 < d0) (o5 : d0 < dx1) (o6 : dx1 < x1) (o7 : x1 < d1) (o8 : d1 < lC) (o9 : lC < dV) (o10 : dV < lM) (oU : LCg.Off1 lU [(cC, oC), (cV, oV), (cK, oK), (lN, listOf vsN.toArray nN), (x0, instObj 88 dx0), (dx0, cont w a1 a2 a3 a4 size .none d0), (d0, od0), (x1, instObj 88 dx1), (dx1, cont w b1 b2 b3 b4 (size + more) .none d1), (d1, od1), (lC, listOf #[.ref x0, .ref x1] nC), (dV, oVd), (lM, listOf #[.int m0 tM0, .int m1 tM1] nM), (I, oI)]) (o14 : lM < I)
  (lo0 : (d0 == sysModules) = false) (lo1 : (d1 == sysModules) = false) (loV : (dV == sysModules) = false) (hk0 : kvs0.length ≤ 10) (hk1 : kvs1.length ≤ 10) (hkV : kvsV.length ≤ 10)
  (hd0 : od0.IsDictOf (PySem.intKind PySem.Challenge.rw_aj5039_02.row.prog w) kvs0) (hd1 : od1.IsDictOf (PySem.intKind PySem.Challenge.rw_aj5039_02.row.prog w) kvs1) (hdV : oVd.IsDictOf (PySem.intKind PySem.Challenge.rw_aj5039_02.row.prog w) kvsV)
  (o16 : I < s0) (o17 : lU < s0) (o18 : s0 < s1) (w0 : lW ≠ d0) (w1 : lW ≠ d1) (wV : lW ≠ dV) (wM : lW ≠ lM) (hcK : oK.data = .cell (some (.int key tkey))) (hs0 : SetIs so0 (kvs0.map (·.1))) (hs1 : SetIs so1 (kvs1.map (·.1)))
  (kf : ([0, 1].any fun x => x == kind) = true)
  (hv0 : valueAt kvs0 key = none) (hv1 : valueAt kvs1 key = some (.int vi tv)) (hvV : valueAt kvsV key = some (.int vi tv)) (ha0 : ((kvs0.map (·.1)).any (· == key)) = false) (ha1 : ((kvs1.map (·.1)).any (· == key)) = true) (haV : (valueAt kvsV key).isSome = true)
  (q : ∀ h' tk m' od0' od1' oV' tM0' tM1' nM', Fr h₀ L h' m' → Nm lN lM lU size more m' → m' (Str.ofString "kind") = some (.int kind tk9) → m' (Str.ofString "place") = some (.int place tp) → News h₀ L h' [(cC, oC), (cV, oV), (cK, oK), (lN, listOf vsN.toArray nN), (x0, instObj 88 dx0), (dx0, cont w a1 a2 a3 a4 size .none d0), (d0, od0'), (x1, instObj 88 dx1), (dx1, cont w b1 b2 b3 b4 (size + more) .none d1), (d1, od1'), (lC, listOf #[.ref x0, .ref x1] nC), (dV, oV'), (lM, listOf #[.int (m0 + 1) tM0', .int m1 tM1'] nM'), (lU, listOf vsU.toArray nU), (I, oI)] → od0'.IsDictOf (PySem.intKind PySem.Challenge.rw_aj5039_02.row.prog w) (setD size kvs0 key (.int vi tv)) → od1'.IsDictOf (PySem.intKind PySem.Challenge.rw_aj5039_02.row.prog w) (without kvs1 key ++ [(key, .int vi tv)]) → oV'.IsDictOf (PySem.intKind PySem.Challenge.rw_aj5039_02.row.prog w) (kvsV) → Q .next { s with heap := h', toks := tk }) :
  wpAny (model PySem.Challenge.rw_aj5039_02.row.prog w) (callerA.deeper (lenv L fa cd)) (exec (loopBody.getD 3 (Stmt.Pass default)) (lenv L fa cd)) Q (fun _ _ => False) s := by
  revert X
  k_fill
  intro X
  subst eC eV eK
  obtain ⟨tsz, tmo, enm⟩ := nm.open
  have F1 := fr_eq F enm
  have e1 := (enm (Str.ofString "place")).trans np
  have F2 := fr_put (m := names02 lN lM lU size more tsz tmo m) e1 F1
  have e2 := (if_name e1 (Str.ofString "kind")).trans ((enm (Str.ofString "kind")).trans nk)
  have F3 := fr_put (x := Str.ofString "kind") (v := .int kind tk9) (by exact e2) F2
  have e3 := (if_name e2 (Str.ofString "was")).trans ((if_name e1 (Str.ofString "was")).trans ((enm (Str.ofString "was")).trans nw))
  have F4 := fr_put (x := Str.ofString "was") (v := .ref lW) (by exact e3) F3
  clear F F1 F2 F3 e1 e2 e3
  conv => arg 3; arg 1; whnf
  k_steps
  all_goals first | exact q _ _ _ _ _ _ _ _ _ (by assumption) ⟨rfl, rfl, rfl, ⟨_, rfl⟩, ⟨_, rfl⟩⟩ rfl rfl (News.sub (by assumption) (by lcg_sub)) (by assumption) (by assumption) (by assumption)
end
end Mine
end
section
open PySem PySem.W PyProof.Rows PySem.Calls PyProof.V PySem.Spec
set_option maxRecDepth 100000
namespace Mine
local macro_rules | `(tactic| k_room) => `(tactic| first | ((try simp only [depth_under_make, depth_under_kw, depth_in1, depth_deeper, depth_caller, depth_mark, recursionLimit]); first | decide | omega))
local macro_rules | `(tactic| k_all) => `(tactic| assumption)
local macro_rules | `(tactic| walk_at "call ref") => `(tactic| (k_here; (with_reducible show wpAny _ _ (call (Value.ref 99) [Value.ref _, Value.int _ _]) _ _ _); k_dflt (first
  | (refine' L_got_hit ?X ?T ?B ?hA ?hf ?hke ?hh ?hdep ?hun ?F ?N ?I1 ?I2 ?U ?hod ?lo ?hlen ?ne1 ?ne2 ?ne3 ?hv ?_; (case F => k_asm); (case X => k_asm); (case T => k_asm); (case B => assumption); (case hA => exact rfl); (case hf => exact rfl); (case hke => exact rfl); (case hh => exact rfl); (case hdep => exact Nat.le_of_ble_eq_true rfl); (case hun => exact Nat.le_of_ble_eq_true rfl); (case N => k_asm); (case I1 => k_mem); (case I2 => k_mem); (case U => k_updF); (case hod => assumption); (case lo => assumption); (case hlen => assumption); (case ne1 => k_ne); (case ne2 => k_ne); (case ne3 => k_ne); (case hv => assumption); k_whole; intro l' h' tk' od' F' N' l1 hd'; (try dsimp only at N'); (try k_lt l1))
  | (refine' L_got_missR ?X ?T ?B ?hA ?hf ?hke ?hh ?hdep ?hun ?F ?N ?I1 ?I2 ?I3 ?hod ?lo ?hlen ?ne1 ?ne2 ?ne3 ?hv ?_; (case F => k_asm); (case X => k_asm); (case T => k_asm); (case B => assumption); (case hA => exact rfl); (case hf => exact rfl); (case hke => exact rfl); (case hh => exact rfl); (case hdep => exact Nat.le_of_ble_eq_true rfl); (case hun => exact Nat.le_of_ble_eq_true rfl); (case N => k_asm); (case I1 => k_mem); (case I2 => k_mem); (case I3 => k_mem); (case hod => assumption); (case lo => assumption); (case hlen => assumption); (case ne1 => k_ne); (case ne2 => k_ne); (case ne3 => k_ne); (case hv => assumption); k_whole; intro l' h' tk' F' N' l1; (try dsimp only at N'); (try k_lt l1)))))
local macro_rules | `(tactic| walk_at "call ref") => `(tactic| (k_here; (with_reducible show wpAny _ _ (call (Value.ref 106) [Value.ref _, Value.int _ _]) _ _ _); k_dflt (refine' L_delB ?X ?T ?B ?hA ?hf ?hke ?hh ?hdep ?hun ?F ?N ?I1 ?I2 ?U ?hod ?lo ?hlen ?ne1 ?ne2 ?ne3 ?hb ?_;  (case F => k_asm); (case X => k_asm); (case T => k_asm); (case B => assumption); (case hA => exact rfl); (case hf => exact rfl); (case hke => exact rfl); (case hh => exact rfl); (case hdep => exact Nat.le_of_ble_eq_true rfl); (case hun => exact Nat.le_of_ble_eq_true rfl); (case N => k_asm); (case I1 => k_mem); (case I2 => k_mem); (case U => k_updF); (case hod => assumption); (case lo => assumption); (case hlen => assumption); (case ne1 => k_ne); (case ne2 => k_ne); (case ne3 => k_ne); (case hb => assumption); k_whole; intro h' tk' od' F' N' hd'; (try dsimp only at N'))))
local macro_rules | `(tactic| walk_at "call ref") => `(tactic| (k_here; (with_reducible show wpAny _ _ (call (Value.ref 85) [Value.ref _]) _ _ _); k_dflt (refine' L_keysR ?X ?T ?B ?hA ?hf ?hke ?hh ?hdep ?hun ?F ?N ?I1 ?I2 ?I3 ?hod ?lo ?hlen ?ne1 ?ne2 ?ne3 ?_; (case F => k_asm); (case X => k_asm); (case T => k_asm); (case B => assumption); (case hA => exact rfl); (case hf => exact rfl); (case hke => exact rfl); (case hh => exact rfl); (case hdep => exact Nat.le_of_ble_eq_true rfl); (case hun => exact Nat.le_of_ble_eq_true rfl); (case N => k_asm); (case I1 => k_mem); (case I2 => k_mem); (case I3 => k_mem); (case hod => assumption); (case lo => assumption); (case hlen => assumption); (case ne1 => k_ne); (case ne2 => k_ne); (case ne3 => k_ne); k_whole; intro l' so' h' tk' F' N' l1 hs'; (try dsimp only at N'); (try k_lt l1))))
local macro_rules | `(tactic| walk_at "call builtin:len") => `(tactic| (k_here; (with_reducible show wpAny _ _ (call (Value.builtin "len") [Value.ref _]) _ _ _); k_dflt (refine' L_lenR ?X ?T ?B ?hA ?hf ?hke ?hh ?hdep ?hun ?F ?N ?I1 ?I2 ?I3 ?hod ?lo ?hlen ?ne1 ?ne2 ?ne3 ?_; (case F => k_asm); (case N => k_asm); (case I1 => k_mem); (case X => k_asm); (case T => k_asm); (case B => assumption); (case hA => exact rfl); (case hf => exact rfl); (case hke => exact rfl); (case hh => exact rfl); (case hdep => exact Nat.le_of_ble_eq_true rfl); (case hun => exact Nat.le_of_ble_eq_true rfl); (case I2 => k_mem); (case I3 => k_mem); (case hod => assumption); (case lo => assumption); (case hlen => assumption); (case ne1 => k_ne); (case ne2 => k_ne); (case ne3 => k_ne); k_whole; intro u' h' tk' F' N')))
local macro_rules | `(tactic| walk_at "setItem ref int") => `(tactic| (k_here; k_dflt (refine' kda_set (knd := PySem.intKind _ _) ?F ?N ?U ?d (intKind_is _ _ _ _) ?z ?_; (case F => k_asm); (case N => k_asm); (case U => k_updF); (case d => assumption); (case z => rw [sizeLine_eq]; omega); k_whole); intro h' o' F' N' hd'; (try dsimp only at N')))
local macro_rules | `(tactic| walk_at "setItem ref int") => `(tactic| (k_here; k_dflt (refine' L_set ?X ?T ?B ?hA ?hf ?hke ?hh ?hdep ?hun ?F ?N ?I1 ?I2 ?U ?hod ?lo ?hlen ?ne1 ?ne2 ?ne3 ?_; (case F => k_asm); (case N => k_asm); (case I1 => k_mem); (case X => k_asm); (case T => k_asm); (case B => assumption); (case hA => exact rfl); (case hf => exact rfl); (case hke => exact rfl); (case hh => exact rfl); (case hdep => exact Nat.le_of_ble_eq_true rfl); (case hun => exact Nat.le_of_ble_eq_true rfl); (case I2 => k_mem); (case U => k_updF); (case hod => assumption); (case lo => assumption); (case hlen => assumption); (case ne1 => k_ne); (case ne2 => k_ne); (case ne3 => k_ne); k_whole; intro h' tk' od' F' N' hd'; (try dsimp only at N'))))
local macro_rules | `(tactic| walk_at "compareOp In int ref") => `(tactic| (k_here; k_dflt (refine' lru_inB ?N ?a ?s ?l ?b ?_; (case N => k_asm); (case a => k_mem); (case s => assumption); (case l => rw [List.length_map]; omega); (case b => assumption); k_whole)))
local macro_rules | `(tactic| walk_at "compareOp In int ref") => `(tactic| (k_here; k_dflt (refine' kda_in (knd := PySem.intKind _ _) ?N ?a ?d ?lo (intKind_is _ _ _ _) _ ?b ?_; (case N => k_asm); (case a => k_mem); (case d => assumption); (case lo => assumption); (case b => assumption); k_whole)))
local macro_rules | `(tactic| walk_at "compareOp NotIn int ref") => `(tactic| (k_here; k_dflt (refine' kdg_notin (knd := PySem.intKind _ _) ?N ?a ?d ?lo (intKind_is _ _ _ _) _ ?b ?_; (case N => k_asm); (case a => k_mem); (case d => assumption); (case lo => assumption); (case b => assumption); k_whole)))
local macro_rules | `(tactic| walk_at "subscriptTail") => `(tactic| (k_here; (with_reducible show wpAny _ _ (subscriptTail _ _ (Value.ref _) (Value.int _ _)) _ _ _); k_dflt (refine' kda_item (knd := PySem.intKind _ _) ?N ?a ?d (intKind_is _ _ _ _) ?v ?_; (case N => k_asm); (case a => k_mem); (case d => assumption); (case v => assumption); k_whole)))
local macro_rules | `(tactic| walk_at "compareOp LtE ref ref") => `(tactic| (k_here; k_dflt (refine' lru_le ?u ?N ?a ?b ?s ?s' ?l ?l' ?le ?sub ?_; (case u => exact Nat.le_of_ble_eq_true rfl); (case N => k_asm); (case a => k_mem); (case b => k_mem); (case s => assumption); (case s' => assumption); (case l => first | assumption | omega); (case l' => first | assumption | omega); (case le => first | assumption | omega); (case sub => first | assumption | exact fun _ h => h); k_whole)))
local macro_rules | `(tactic| walk_at "compareOp NotEq ref ref") => `(tactic| (k_here; k_dflt (refine' lru_ne ?u ?N ?a ?b ?s ?s' ?l ?l' ?le ?sub ?_; (case u => exact Nat.le_of_ble_eq_true rfl); (case N => k_asm); (case a => k_mem); (case b => k_mem); (case s => assumption); (case s' => assumption); (case l => first | assumption | omega); (case l' => first | assumption | omega); (case le => first | assumption | omega); (case sub => first | assumption | exact fun _ h => h); k_whole)))
local macro_rules | `(tactic| walk_at "call type:set") => `(tactic| (k_here; (with_reducible show wpAny _ _ (call (Value.type "set") [Value.ref _]) _ _ _); k_dflt (first
  | (refine' lru_keys_set ?hh ?F ?N ?v ?p ?d ?z ?_; (case hh => first | exact rfl | assumption); (case F => k_asm); (case N => k_asm); (case v => k_mem); (case p => k_mem); (case d => k_asm); (case z => omega); k_whole; intro D' h' tk' so' F' N' l1 hs'; (try k_lt l1))
  | (refine' lru_list_setE ?hh ?F ?N ?v ?i ?e ?n ?z ?_; (case hh => first | exact rfl | assumption); (case F => k_asm); (case N => k_asm); (case v => k_mem); (case i => k_asm); (case e => assumption); (case n => assumption); (case z => assumption); k_whole; intro D' h' tk' so' F' N' l1 hs'; (try k_lt l1)))))
local macro_rules | `(tactic| lcg_off) => `(tactic| assumption)
local macro_rules | `(tactic| walk_at "CompRest") => `(tactic| (with_unfolding_all (refine LCg.CompRest.succ ?_; intro v' I' oI' C' oC' D' m' h' tk' E' hv' hC' hx' F' N' off' ne'; (first | lcg_open hv' | (obtain ⟨t9', hv9'⟩ := hv'; subst hv9')))))
local macro_rules | `(tactic| walk_at "ite") => `(tactic| (k_here; first | refine ite_pos (by assumption) ?_ | refine ite_neg (ne_true_of (by assumption)) ?_ | refine ite_neg (by simp; done) ?_ | refine ite_pos (by simp; done) ?_ | refine ite_neg (by simp; omega) ?_))
local macro_rules | `(tactic| walk_at "pyIter ref") => `(tactic| ((with_reducible show wpAny _ _ (pyIter (Value.ref _)) (fun it s₂ => LoopAtV _ _ _ _ _ _ _ _ _ it s₂) _ _); k_listUnr))
local macro_rules | `(tactic| walk_at "exec For Name Name cons nil") => `(tactic| (k_here; k_dflt (refine' For_F ?F ?x ?p ?_ ?s ?E; (case F => k_asm); (case x => rfl); (case p => rfl); (case s => intro _; rfl); (case E => exact PassesOwn.never); k_whole)))
local macro_rules | `(tactic| walk_at "call builtin:dict.pop") => `(tactic| (k_here; (with_reducible show wpAny _ _ (call (Value.builtin "dict.pop") [Value.ref _, Value.int _ _, _]) _ _ _); k_dflt (refine' lru_popd ?F ?N ?U ?d ?lo ?z ?_; (case F => k_asm); (case N => k_asm); (case U => k_updF); (case d => assumption); (case lo => assumption); (case z => rw [sizeLine_eq]; omega); k_whole); intro v' h' o' F' N' hd'; (try dsimp only at N')))
local macro_rules | `(tactic| walk_at "FinA") => `(tactic| ((unfold LCg.FinA); intro D' h' tk' F' N' o1'; (try simp only [List.nil_append, List.cons_append] at N'); (try dsimp only)))
local macro_rules | `(tactic| k_ne) => `(tactic| first | assumption | exact off1_ne (by assumption) (by k_mem) | exact (off1_ne (by assumption) (by k_mem)).symm)
local macro_rules | `(tactic| walk_at "subscriptTail Name Slice ref ref") => `(tactic| (k_here; (with_reducible show wpAny _ _ (subscriptTail _ (PySem.Expr.Slice _ _ none _) (Value.ref _) (Value.ref _)) _ _ _); k_dflt (refine' kmk_slice_ints ?F ?N ?l ?p ?q ?i ?m ?c ?_ ?s ?t ?z; (case F => k_asm); (case N => k_asm); (case l => kmk_list); (case p => kmk_part); (case q => kmk_part); (case i => assumption); (case m => exact kmk_from (by assumption) (by assumption)); (case c => exact List.length_drop ..); (case s => with_unfolding_all rfl); (case t => kmk_pure); (case z => assumption)); intro D' ws' h' F' N' l1 hI' hC' hL'; (try k_lt l1)))
local macro_rules | `(tactic| walk_at "call builtin:dict.pop") => `(tactic| (k_here; dsimp only [List.cons_append, List.nil_append]))
local macro_rules | `(tactic| walk_at "call builtin:list.append") => `(tactic| (k_here; dsimp only [List.cons_append, List.nil_append]))

section
variable {w : World} {mg mb : Str → Option Value} {mean : ExcName → Option Value} {h₀ : Heap} {L fa cd : Nat} {m : Str → Option Value} {s : Shared} {Q : Flow → Shared → Prop}
  {cC cV cK lN x0 dx0 d0 x1 dx1 d1 lC dV lM lU I lW s0 s1 : Nat} {oC oV oK od0 od1 oVd oI so0 so1 : Obj} {vsN vsU : List Value} {ns us : List Int} {nN nM nU nC nW : Nat} {a1 a2 a3 a4 b1 b2 b3 b4 tp tM0 tM1 tk9 tkey tv : Tok} {place size more m0 m1 kind key vi : Int} {kvs0 kvs1 kvsV : List (Int × Value)}
set_option maxHeartbeats 16000000 in
theorem seg2B
  (X : (hd.heap_39 w.params).In h₀) (T : Top topProg loose mean mg mb h₀) (B : Below callerA h₀ [] h₀)
  (F : Fr h₀ L s.heap m) (nm : Nm lN lM lU size more m) (nk : m (Str.ofString "kind") = some (.int kind tk9)) (np : m (Str.ofString "place") = some (.int place tp)) (nw : m (Str.ofString "was") = some (.ref lW))
  (N : News h₀ L s.heap [(lW, listOf #[.ref s0, .ref s1] nW), (s0, so0), (s1, so1), (cC, oC), (cV, oV), (cK, oK), (lN, listOf vsN.toArray nN), (x0, instObj 88 dx0), (dx0, cont w a1 a2 a3 a4 size .none d0), (d0, od0), (x1, instObj 88 dx1), (dx1, cont w b1 b2 b3 b4 (size + more) .none d1), (d1, od1), (lC, listOf #[.ref x0, .ref x1] nC), (dV, oVd), (lM, listOf #[.int m0 tM0, .int m1 tM1] nM), (lU, listOf vsU.toArray nU), (I, oI)])
  (hcC : oC.data = .cell (some (.ref lC))) (hcV : oV.data = .cell (some (.ref dV))) (eC : cC = L + 1) (eV : cV = L + 2) (eK : cK = L + 3)
  (o1 : L + 3 < lN) (o2 : lN < dx0) (o3 : dx0 < x0) (o4 : x0 < d0) (o5 : d0 < dx1) (o6 : dx1 < x1) (o7 : x1 < d1) (o8 : d1 < lC) (o9 : lC < dV) (o10 : dV < lM) (oU : LCg.Off1 lU [(cC, oC), (cV, oV), (cK, oK), (lN, listOf vsN.toArray nN), (x0, instObj 88 dx0), (dx0, cont w a1 a2 a3 a4 size .none d0), (d0, od0), (x1, instObj 88 dx1), (dx1, cont w b1 b2 b3 b4 (size + more) .none d1), (d1, od1), (lC, listOf #[.ref x0, .ref x1] nC), (dV, oVd), (lM, listOf #[.int m0 tM0, .int m1 tM1] nM), (I, oI)]) (o14 : lM < I)
  (lo0 : (d0 == sysModules) = false) (lo1 : (d1 == sysModules) = false) (loV : (dV == sysModules) = false) (hk0 : kvs0.length ≤ 10) (hk1 : kvs1.length ≤ 10) (hkV : kvsV.length ≤ 10)
  (hd0 : od0.IsDictOf (PySem.intKind PySem.Challenge.rw_aj5039_02.row.prog w) kvs0) (hd1 : od1.IsDictOf (PySem.intKind PySem.Challenge.rw_aj5039_02.row.prog w) kvs1) (hdV : oVd.IsDictOf (PySem.intKind PySem.Challenge.rw_aj5039_02.row.prog w) kvsV)
  (o16 : I < s0) (o17 : lU < s0) (o18 : s0 < s1) (w0 : lW ≠ d0) (w1 : lW ≠ d1) (wV : lW ≠ dV) (wM : lW ≠ lM) (hcK : oK.data = .cell (some (.int key tkey))) (hs0 : SetIs so0 (kvs0.map (·.1))) (hs1 : SetIs so1 (kvs1.map (·.1)))
  (kf : ([0, 1].any fun x => x == kind) = true)
  (hv0 : valueAt kvs0 key = none) (hv1 : valueAt kvs1 key = none) (hvV : valueAt kvsV key = some (.int vi tv)) (ha0 : ((kvs0.map (·.1)).any (· == key)) = false) (ha1 : ((kvs1.map (·.1)).any (· == key)) = false) (haV : (valueAt kvsV key).isSome = true)
  (q : ∀ h' tk m' od0' od1' oV' tM0' tM1' nM', Fr h₀ L h' m' → Nm lN lM lU size more m' → m' (Str.ofString "kind") = some (.int kind tk9) → m' (Str.ofString "place") = some (.int place tp) → News h₀ L h' [(cC, oC), (cV, oV), (cK, oK), (lN, listOf vsN.toArray nN), (x0, instObj 88 dx0), (dx0, cont w a1 a2 a3 a4 size .none d0), (d0, od0'), (x1, instObj 88 dx1), (dx1, cont w b1 b2 b3 b4 (size + more) .none d1), (d1, od1'), (lC, listOf #[.ref x0, .ref x1] nC), (dV, oV'), (lM, listOf #[.int (m0 + 1) tM0', .int (m1 + 1) tM1'] nM'), (lU, listOf vsU.toArray nU), (I, oI)] → od0'.IsDictOf (PySem.intKind PySem.Challenge.rw_aj5039_02.row.prog w) (setD size kvs0 key (.int vi tv)) → od1'.IsDictOf (PySem.intKind PySem.Challenge.rw_aj5039_02.row.prog w) (setD (size + more) kvs1 key (.int vi tv)) → oV'.IsDictOf (PySem.intKind PySem.Challenge.rw_aj5039_02.row.prog w) (kvsV) → Q .next { s with heap := h', toks := tk }) :
  wpAny (model PySem.Challenge.rw_aj5039_02.row.prog w) (callerA.deeper (lenv L fa cd)) (exec (loopBody.getD 3 (Stmt.Pass default)) (lenv L fa cd)) Q (fun _ _ => False) s := by
  revert X
  k_fill
  intro X
  subst eC eV eK
  obtain ⟨tsz, tmo, enm⟩ := nm.open
  have F1 := fr_eq F enm
  have e1 := (enm (Str.ofString "place")).trans np
  have F2 := fr_put (m := names02 lN lM lU size more tsz tmo m) e1 F1
  have e2 := (if_name e1 (Str.ofString "kind")).trans ((enm (Str.ofString "kind")).trans nk)
  have F3 := fr_put (x := Str.ofString "kind") (v := .int kind tk9) (by exact e2) F2
  have e3 := (if_name e2 (Str.ofString "was")).trans ((if_name e1 (Str.ofString "was")).trans ((enm (Str.ofString "was")).trans nw))
  have F4 := fr_put (x := Str.ofString "was") (v := .ref lW) (by exact e3) F3
  clear F F1 F2 F3 e1 e2 e3
  conv => arg 3; arg 1; whnf
  k_steps
  all_goals first | exact q _ _ _ _ _ _ _ _ _ (by assumption) ⟨rfl, rfl, rfl, ⟨_, rfl⟩, ⟨_, rfl⟩⟩ rfl rfl (News.sub (by assumption) (by lcg_sub)) (by assumption) (by assumption) (by assumption)
end
end Mine
end
section
open PySem PySem.W PyProof.Rows PySem.Calls PyProof.V PySem.Spec
set_option maxRecDepth 100000
namespace Mine
local macro_rules | `(tactic| k_room) => `(tactic| first | ((try simp only [depth_under_make, depth_under_kw, depth_in1, depth_deeper, depth_caller, depth_mark, recursionLimit]); first | decide | omega))
local macro_rules | `(tactic| k_all) => `(tactic| assumption)
local macro_rules | `(tactic| walk_at "call ref") => `(tactic| (k_here; (with_reducible show wpAny _ _ (call (Value.ref 99) [Value.ref _, Value.int _ _]) _ _ _); k_dflt (first
  | (refine' L_got_hit ?X ?T ?B ?hA ?hf ?hke ?hh ?hdep ?hun ?F ?N ?I1 ?I2 ?U ?hod ?lo ?hlen ?ne1 ?ne2 ?ne3 ?hv ?_; (case F => k_asm); (case X => k_asm); (case T => k_asm); (case B => assumption); (case hA => exact rfl); (case hf => exact rfl); (case hke => exact rfl); (case hh => exact rfl); (case hdep => exact Nat.le_of_ble_eq_true rfl); (case hun => exact Nat.le_of_ble_eq_true rfl); (case N => k_asm); (case I1 => k_mem); (case I2 => k_mem); (case U => k_updF); (case hod => assumption); (case lo => assumption); (case hlen => assumption); (case ne1 => k_ne); (case ne2 => k_ne); (case ne3 => k_ne); (case hv => assumption); k_whole; intro l' h' tk' od' F' N' l1 hd'; (try dsimp only at N'); (try k_lt l1))
  | (refine' L_got_missR ?X ?T ?B ?hA ?hf ?hke ?hh ?hdep ?hun ?F ?N ?I1 ?I2 ?I3 ?hod ?lo ?hlen ?ne1 ?ne2 ?ne3 ?hv ?_; (case F => k_asm); (case X => k_asm); (case T => k_asm); (case B => assumption); (case hA => exact rfl); (case hf => exact rfl); (case hke => exact rfl); (case hh => exact rfl); (case hdep => exact Nat.le_of_ble_eq_true rfl); (case hun => exact Nat.le_of_ble_eq_true rfl); (case N => k_asm); (case I1 => k_mem); (case I2 => k_mem); (case I3 => k_mem); (case hod => assumption); (case lo => assumption); (case hlen => assumption); (case ne1 => k_ne); (case ne2 => k_ne); (case ne3 => k_ne); (case hv => assumption); k_whole; intro l' h' tk' F' N' l1; (try dsimp only at N'); (try k_lt l1)))))
local macro_rules | `(tactic| walk_at "call ref") => `(tactic| (k_here; (with_reducible show wpAny _ _ (call (Value.ref 106) [Value.ref _, Value.int _ _]) _ _ _); k_dflt (refine' L_delB ?X ?T ?B ?hA ?hf ?hke ?hh ?hdep ?hun ?F ?N ?I1 ?I2 ?U ?hod ?lo ?hlen ?ne1 ?ne2 ?ne3 ?hb ?_;  (case F => k_asm); (case X => k_asm); (case T => k_asm); (case B => assumption); (case hA => exact rfl); (case hf => exact rfl); (case hke => exact rfl); (case hh => exact rfl); (case hdep => exact Nat.le_of_ble_eq_true rfl); (case hun => exact Nat.le_of_ble_eq_true rfl); (case N => k_asm); (case I1 => k_mem); (case I2 => k_mem); (case U => k_updF); (case hod => assumption); (case lo => assumption); (case hlen => assumption); (case ne1 => k_ne); (case ne2 => k_ne); (case ne3 => k_ne); (case hb => assumption); k_whole; intro h' tk' od' F' N' hd'; (try dsimp only at N'))))
local macro_rules | `(tactic| walk_at "call ref") => `(tactic| (k_here; (with_reducible show wpAny _ _ (call (Value.ref 85) [Value.ref _]) _ _ _); k_dflt (refine' L_keysR ?X ?T ?B ?hA ?hf ?hke ?hh ?hdep ?hun ?F ?N ?I1 ?I2 ?I3 ?hod ?lo ?hlen ?ne1 ?ne2 ?ne3 ?_; (case F => k_asm); (case X => k_asm); (case T => k_asm); (case B => assumption); (case hA => exact rfl); (case hf => exact rfl); (case hke => exact rfl); (case hh => exact rfl); (case hdep => exact Nat.le_of_ble_eq_true rfl); (case hun => exact Nat.le_of_ble_eq_true rfl); (case N => k_asm); (case I1 => k_mem); (case I2 => k_mem); (case I3 => k_mem); (case hod => assumption); (case lo => assumption); (case hlen => assumption); (case ne1 => k_ne); (case ne2 => k_ne); (case ne3 => k_ne); k_whole; intro l' so' h' tk' F' N' l1 hs'; (try dsimp only at N'); (try k_lt l1))))
local macro_rules | `(tactic| walk_at "call builtin:len") => `(tactic| (k_here; (with_reducible show wpAny _ _ (call (Value.builtin "len") [Value.ref _]) _ _ _); k_dflt (refine' L_lenR ?X ?T ?B ?hA ?hf ?hke ?hh ?hdep ?hun ?F ?N ?I1 ?I2 ?I3 ?hod ?lo ?hlen ?ne1 ?ne2 ?ne3 ?_; (case F => k_asm); (case N => k_asm); (case I1 => k_mem); (case X => k_asm); (case T => k_asm); (case B => assumption); (case hA => exact rfl); (case hf => exact rfl); (case hke => exact rfl); (case hh => exact rfl); (case hdep => exact Nat.le_of_ble_eq_true rfl); (case hun => exact Nat.le_of_ble_eq_true rfl); (case I2 => k_mem); (case I3 => k_mem); (case hod => assumption); (case lo => assumption); (case hlen => assumption); (case ne1 => k_ne); (case ne2 => k_ne); (case ne3 => k_ne); k_whole; intro u' h' tk' F' N')))
local macro_rules | `(tactic| walk_at "setItem ref int") => `(tactic| (k_here; k_dflt (refine' kda_set (knd := PySem.intKind _ _) ?F ?N ?U ?d (intKind_is _ _ _ _) ?z ?_; (case F => k_asm); (case N => k_asm); (case U => k_updF); (case d => assumption); (case z => rw [sizeLine_eq]; omega); k_whole); intro h' o' F' N' hd'; (try dsimp only at N')))
local macro_rules | `(tactic| walk_at "setItem ref int") => `(tactic| (k_here; k_dflt (refine' L_set ?X ?T ?B ?hA ?hf ?hke ?hh ?hdep ?hun ?F ?N ?I1 ?I2 ?U ?hod ?lo ?hlen ?ne1 ?ne2 ?ne3 ?_; (case F => k_asm); (case N => k_asm); (case I1 => k_mem); (case X => k_asm); (case T => k_asm); (case B => assumption); (case hA => exact rfl); (case hf => exact rfl); (case hke => exact rfl); (case hh => exact rfl); (case hdep => exact Nat.le_of_ble_eq_true rfl); (case hun => exact Nat.le_of_ble_eq_true rfl); (case I2 => k_mem); (case U => k_updF); (case hod => assumption); (case lo => assumption); (case hlen => assumption); (case ne1 => k_ne); (case ne2 => k_ne); (case ne3 => k_ne); k_whole; intro h' tk' od' F' N' hd'; (try dsimp only at N'))))
local macro_rules | `(tactic| walk_at "compareOp In int ref") => `(tactic| (k_here; k_dflt (refine' lru_inB ?N ?a ?s ?l ?b ?_; (case N => k_asm); (case a => k_mem); (case s => assumption); (case l => rw [List.length_map]; omega); (case b => assumption); k_whole)))
local macro_rules | `(tactic| walk_at "compareOp In int ref") => `(tactic| (k_here; k_dflt (refine' kda_in (knd := PySem.intKind _ _) ?N ?a ?d ?lo (intKind_is _ _ _ _) _ ?b ?_; (case N => k_asm); (case a => k_mem); (case d => assumption); (case lo => assumption); (case b => assumption); k_whole)))
local macro_rules | `(tactic| walk_at "compareOp NotIn int ref") => `(tactic| (k_here; k_dflt (refine' kdg_notin (knd := PySem.intKind _ _) ?N ?a ?d ?lo (intKind_is _ _ _ _) _ ?b ?_; (case N => k_asm); (case a => k_mem); (case d => assumption); (case lo => assumption); (case b => assumption); k_whole)))
local macro_rules | `(tactic| walk_at "subscriptTail") => `(tactic| (k_here; (with_reducible show wpAny _ _ (subscriptTail _ _ (Value.ref _) (Value.int _ _)) _ _ _); k_dflt (refine' kda_item (knd := PySem.intKind _ _) ?N ?a ?d (intKind_is _ _ _ _) ?v ?_; (case N => k_asm); (case a => k_mem); (case d => assumption); (case v => assumption); k_whole)))
local macro_rules | `(tactic| walk_at "compareOp LtE ref ref") => `(tactic| (k_here; k_dflt (refine' lru_le ?u ?N ?a ?b ?s ?s' ?l ?l' ?le ?sub ?_; (case u => exact Nat.le_of_ble_eq_true rfl); (case N => k_asm); (case a => k_mem); (case b => k_mem); (case s => assumption); (case s' => assumption); (case l => first | assumption | omega); (case l' => first | assumption | omega); (case le => first | assumption | omega); (case sub => first | assumption | exact fun _ h => h); k_whole)))
local macro_rules | `(tactic| walk_at "compareOp NotEq ref ref") => `(tactic| (k_here; k_dflt (refine' lru_ne ?u ?N ?a ?b ?s ?s' ?l ?l' ?le ?sub ?_; (case u => exact Nat.le_of_ble_eq_true rfl); (case N => k_asm); (case a => k_mem); (case b => k_mem); (case s => assumption); (case s' => assumption); (case l => first | assumption | omega); (case l' => first | assumption | omega); (case le => first | assumption | omega); (case sub => first | assumption | exact fun _ h => h); k_whole)))
local macro_rules | `(tactic| walk_at "call type:set") => `(tactic| (k_here; (with_reducible show wpAny _ _ (call (Value.type "set") [Value.ref _]) _ _ _); k_dflt (first
  | (refine' lru_keys_set ?hh ?F ?N ?v ?p ?d ?z ?_; (case hh => first | exact rfl | assumption); (case F => k_asm); (case N => k_asm); (case v => k_mem); (case p => k_mem); (case d => k_asm); (case z => omega); k_whole; intro D' h' tk' so' F' N' l1 hs'; (try k_lt l1))
  | (refine' lru_list_setE ?hh ?F ?N ?v ?i ?e ?n ?z ?_; (case hh => first | exact rfl | assumption); (case F => k_asm); (case N => k_asm); (case v => k_mem); (case i => k_asm); (case e => assumption); (case n => assumption); (case z => assumption); k_whole; intro D' h' tk' so' F' N' l1 hs'; (try k_lt l1)))))
local macro_rules | `(tactic| lcg_off) => `(tactic| assumption)
local macro_rules | `(tactic| walk_at "CompRest") => `(tactic| (with_unfolding_all (refine LCg.CompRest.succ ?_; intro v' I' oI' C' oC' D' m' h' tk' E' hv' hC' hx' F' N' off' ne'; (first | lcg_open hv' | (obtain ⟨t9', hv9'⟩ := hv'; subst hv9')))))
local macro_rules | `(tactic| walk_at "ite") => `(tactic| (k_here; first | refine ite_pos (by assumption) ?_ | refine ite_neg (ne_true_of (by assumption)) ?_ | refine ite_neg (by simp; done) ?_ | refine ite_pos (by simp; done) ?_ | refine ite_neg (by simp; omega) ?_))
local macro_rules | `(tactic| walk_at "pyIter ref") => `(tactic| ((with_reducible show wpAny _ _ (pyIter (Value.ref _)) (fun it s₂ => LoopAtV _ _ _ _ _ _ _ _ _ it s₂) _ _); k_listUnr))
local macro_rules | `(tactic| walk_at "exec For Name Name cons nil") => `(tactic| (k_here; k_dflt (refine' For_F ?F ?x ?p ?_ ?s ?E; (case F => k_asm); (case x => rfl); (case p => rfl); (case s => intro _; rfl); (case E => exact PassesOwn.never); k_whole)))
local macro_rules | `(tactic| walk_at "call builtin:dict.pop") => `(tactic| (k_here; (with_reducible show wpAny _ _ (call (Value.builtin "dict.pop") [Value.ref _, Value.int _ _, _]) _ _ _); k_dflt (refine' lru_popd ?F ?N ?U ?d ?lo ?z ?_; (case F => k_asm); (case N => k_asm); (case U => k_updF); (case d => assumption); (case lo => assumption); (case z => rw [sizeLine_eq]; omega); k_whole); intro v' h' o' F' N' hd'; (try dsimp only at N')))
local macro_rules | `(tactic| walk_at "FinA") => `(tactic| ((unfold LCg.FinA); intro D' h' tk' F' N' o1'; (try simp only [List.nil_append, List.cons_append] at N'); (try dsimp only)))
local macro_rules | `(tactic| k_ne) => `(tactic| first | assumption | exact off1_ne (by assumption) (by k_mem) | exact (off1_ne (by assumption) (by k_mem)).symm)
local macro_rules | `(tactic| walk_at "subscriptTail Name Slice ref ref") => `(tactic| (k_here; (with_reducible show wpAny _ _ (subscriptTail _ (PySem.Expr.Slice _ _ none _) (Value.ref _) (Value.ref _)) _ _ _); k_dflt (refine' kmk_slice_ints ?F ?N ?l ?p ?q ?i ?m ?c ?_ ?s ?t ?z; (case F => k_asm); (case N => k_asm); (case l => kmk_list); (case p => kmk_part); (case q => kmk_part); (case i => assumption); (case m => exact kmk_from (by assumption) (by assumption)); (case c => exact List.length_drop ..); (case s => with_unfolding_all rfl); (case t => kmk_pure); (case z => assumption)); intro D' ws' h' F' N' l1 hI' hC' hL'; (try k_lt l1)))
local macro_rules | `(tactic| walk_at "call builtin:dict.pop") => `(tactic| (k_here; dsimp only [List.cons_append, List.nil_append]))
local macro_rules | `(tactic| walk_at "call builtin:list.append") => `(tactic| (k_here; dsimp only [List.cons_append, List.nil_append]))

section
variable {w : World} {mg mb : Str → Option Value} {mean : ExcName → Option Value} {h₀ : Heap} {L fa cd : Nat} {m : Str → Option Value} {s : Shared} {Q : Flow → Shared → Prop}
  {cC cV cK lN x0 dx0 d0 x1 dx1 d1 lC dV lM lU I lW s0 s1 : Nat} {oC oV oK od0 od1 oVd oI so0 so1 : Obj} {vsN vsU : List Value} {ns us : List Int} {nN nM nU nC nW : Nat} {a1 a2 a3 a4 b1 b2 b3 b4 tp tM0 tM1 tk9 tkey tv : Tok} {place size more m0 m1 kind key vi : Int} {kvs0 kvs1 kvsV : List (Int × Value)}
set_option maxHeartbeats 16000000 in
theorem seg2A
  (X : (hd.heap_39 w.params).In h₀) (T : Top topProg loose mean mg mb h₀) (B : Below callerA h₀ [] h₀)
  (F : Fr h₀ L s.heap m) (nm : Nm lN lM lU size more m) (nk : m (Str.ofString "kind") = some (.int kind tk9)) (np : m (Str.ofString "place") = some (.int place tp)) (nw : m (Str.ofString "was") = some (.ref lW))
  (N : News h₀ L s.heap [(lW, listOf #[.ref s0, .ref s1] nW), (s0, so0), (s1, so1), (cC, oC), (cV, oV), (cK, oK), (lN, listOf vsN.toArray nN), (x0, instObj 88 dx0), (dx0, cont w a1 a2 a3 a4 size .none d0), (d0, od0), (x1, instObj 88 dx1), (dx1, cont w b1 b2 b3 b4 (size + more) .none d1), (d1, od1), (lC, listOf #[.ref x0, .ref x1] nC), (dV, oVd), (lM, listOf #[.int m0 tM0, .int m1 tM1] nM), (lU, listOf vsU.toArray nU), (I, oI)])
  (hcC : oC.data = .cell (some (.ref lC))) (hcV : oV.data = .cell (some (.ref dV))) (eC : cC = L + 1) (eV : cV = L + 2) (eK : cK = L + 3)
  (o1 : L + 3 < lN) (o2 : lN < dx0) (o3 : dx0 < x0) (o4 : x0 < d0) (o5 : d0 < dx1) (o6 : dx1 < x1) (o7 : x1 < d1) (o8 : d1 < lC) (o9 : lC < dV) (o10 : dV < lM) (oU : LCg.Off1 lU [(cC, oC), (cV, oV), (cK, oK), (lN, listOf vsN.toArray nN), (x0, instObj 88 dx0), (dx0, cont w a1 a2 a3 a4 size .none d0), (d0, od0), (x1, instObj 88 dx1), (dx1, cont w b1 b2 b3 b4 (size + more) .none d1), (d1, od1), (lC, listOf #[.ref x0, .ref x1] nC), (dV, oVd), (lM, listOf #[.int m0 tM0, .int m1 tM1] nM), (I, oI)]) (o14 : lM < I)
  (lo0 : (d0 == sysModules) = false) (lo1 : (d1 == sysModules) = false) (loV : (dV == sysModules) = false) (hk0 : kvs0.length ≤ 10) (hk1 : kvs1.length ≤ 10) (hkV : kvsV.length ≤ 10)
  (hd0 : od0.IsDictOf (PySem.intKind PySem.Challenge.rw_aj5039_02.row.prog w) kvs0) (hd1 : od1.IsDictOf (PySem.intKind PySem.Challenge.rw_aj5039_02.row.prog w) kvs1) (hdV : oVd.IsDictOf (PySem.intKind PySem.Challenge.rw_aj5039_02.row.prog w) kvsV)
  (o16 : I < s0) (o17 : lU < s0) (o18 : s0 < s1) (w0 : lW ≠ d0) (w1 : lW ≠ d1) (wV : lW ≠ dV) (wM : lW ≠ lM) (hcK : oK.data = .cell (some (.int key tkey))) (hs0 : SetIs so0 (kvs0.map (·.1))) (hs1 : SetIs so1 (kvs1.map (·.1)))
  (kf : ([0, 1].any fun x => x == kind) = true)
  (hv0 : valueAt kvs0 key = none) (hv1 : valueAt kvs1 key = none) (hvV : valueAt kvsV key = none) (ha0 : ((kvs0.map (·.1)).any (· == key)) = false) (ha1 : ((kvs1.map (·.1)).any (· == key)) = false) (haV : (valueAt kvsV key).isSome = false)
  (q : ∀ h' tk m' od0' od1' oV' tM0' tM1' nM', Fr h₀ L h' m' → Nm lN lM lU size more m' → m' (Str.ofString "kind") = some (.int kind tk9) → m' (Str.ofString "place") = some (.int place tp) → News h₀ L h' [(cC, oC), (cV, oV), (cK, oK), (lN, listOf vsN.toArray nN), (x0, instObj 88 dx0), (dx0, cont w a1 a2 a3 a4 size .none d0), (d0, od0'), (x1, instObj 88 dx1), (dx1, cont w b1 b2 b3 b4 (size + more) .none d1), (d1, od1'), (lC, listOf #[.ref x0, .ref x1] nC), (dV, oV'), (lM, listOf #[.int (m0 + 1) tM0', .int (m1 + 1) tM1'] nM'), (lU, listOf vsU.toArray nU), (I, oI)] → od0'.IsDictOf (PySem.intKind PySem.Challenge.rw_aj5039_02.row.prog w) (setD size kvs0 key (.int place tp)) → od1'.IsDictOf (PySem.intKind PySem.Challenge.rw_aj5039_02.row.prog w) (setD (size + more) kvs1 key (.int place tp)) → oV'.IsDictOf (PySem.intKind PySem.Challenge.rw_aj5039_02.row.prog w) (stored kvsV key (.int place tp)) → Q .next { s with heap := h', toks := tk }) :
  wpAny (model PySem.Challenge.rw_aj5039_02.row.prog w) (callerA.deeper (lenv L fa cd)) (exec (loopBody.getD 3 (Stmt.Pass default)) (lenv L fa cd)) Q (fun _ _ => False) s := by
  revert X
  k_fill
  intro X
  subst eC eV eK
  obtain ⟨tsz, tmo, enm⟩ := nm.open
  have F1 := fr_eq F enm
  have e1 := (enm (Str.ofString "place")).trans np
  have F2 := fr_put (m := names02 lN lM lU size more tsz tmo m) e1 F1
  have e2 := (if_name e1 (Str.ofString "kind")).trans ((enm (Str.ofString "kind")).trans nk)
  have F3 := fr_put (x := Str.ofString "kind") (v := .int kind tk9) (by exact e2) F2
  have e3 := (if_name e2 (Str.ofString "was")).trans ((if_name e1 (Str.ofString "was")).trans ((enm (Str.ofString "was")).trans nw))
  have F4 := fr_put (x := Str.ofString "was") (v := .ref lW) (by exact e3) F3
  clear F F1 F2 F3 e1 e2 e3
  conv => arg 3; arg 1; whnf
  k_steps
  all_goals first | exact q _ _ _ _ _ _ _ _ _ (by assumption) ⟨rfl, rfl, rfl, ⟨_, rfl⟩, ⟨_, rfl⟩⟩ rfl rfl (News.sub (by assumption) (by lcg_sub)) (by assumption) (by assumption) (by assumption)
end
end Mine
end
section
open PySem PySem.W PyProof.Rows PySem.Calls PyProof.V PySem.Spec
set_option maxRecDepth 100000
namespace Mine
local macro_rules | `(tactic| k_room) => `(tactic| first | ((try simp only [depth_under_make, depth_under_kw, depth_in1, depth_deeper, depth_caller, depth_mark, recursionLimit]); first | decide | omega))
local macro_rules | `(tactic| k_all) => `(tactic| assumption)
local macro_rules | `(tactic| walk_at "call ref") => `(tactic| (k_here; (with_reducible show wpAny _ _ (call (Value.ref 99) [Value.ref _, Value.int _ _]) _ _ _); k_dflt (first
  | (refine' L_got_hit ?X ?T ?B ?hA ?hf ?hke ?hh ?hdep ?hun ?F ?N ?I1 ?I2 ?U ?hod ?lo ?hlen ?ne1 ?ne2 ?ne3 ?hv ?_; (case F => k_asm); (case X => k_asm); (case T => k_asm); (case B => assumption); (case hA => exact rfl); (case hf => exact rfl); (case hke => exact rfl); (case hh => exact rfl); (case hdep => exact Nat.le_of_ble_eq_true rfl); (case hun => exact Nat.le_of_ble_eq_true rfl); (case N => k_asm); (case I1 => k_mem); (case I2 => k_mem); (case U => k_updF); (case hod => assumption); (case lo => assumption); (case hlen => assumption); (case ne1 => k_ne); (case ne2 => k_ne); (case ne3 => k_ne); (case hv => assumption); k_whole; intro l' h' tk' od' F' N' l1 hd'; (try dsimp only at N'); (try k_lt l1))
  | (refine' L_got_missR ?X ?T ?B ?hA ?hf ?hke ?hh ?hdep ?hun ?F ?N ?I1 ?I2 ?I3 ?hod ?lo ?hlen ?ne1 ?ne2 ?ne3 ?hv ?_; (case F => k_asm); (case X => k_asm); (case T => k_asm); (case B => assumption); (case hA => exact rfl); (case hf => exact rfl); (case hke => exact rfl); (case hh => exact rfl); (case hdep => exact Nat.le_of_ble_eq_true rfl); (case hun => exact Nat.le_of_ble_eq_true rfl); (case N => k_asm); (case I1 => k_mem); (case I2 => k_mem); (case I3 => k_mem); (case hod => assumption); (case lo => assumption); (case hlen => assumption); (case ne1 => k_ne); (case ne2 => k_ne); (case ne3 => k_ne); (case hv => assumption); k_whole; intro l' h' tk' F' N' l1; (try dsimp only at N'); (try k_lt l1)))))
local macro_rules | `(tactic| walk_at "call ref") => `(tactic| (k_here; (with_reducible show wpAny _ _ (call (Value.ref 106) [Value.ref _, Value.int _ _]) _ _ _); k_dflt (refine' L_delB ?X ?T ?B ?hA ?hf ?hke ?hh ?hdep ?hun ?F ?N ?I1 ?I2 ?U ?hod ?lo ?hlen ?ne1 ?ne2 ?ne3 ?hb ?_;  (case F => k_asm); (case X => k_asm); (case T => k_asm); (case B => assumption); (case hA => exact rfl); (case hf => exact rfl); (case hke => exact rfl); (case hh => exact rfl); (case hdep => exact Nat.le_of_ble_eq_true rfl); (case hun => exact Nat.le_of_ble_eq_true rfl); (case N => k_asm); (case I1 => k_mem); (case I2 => k_mem); (case U => k_updF); (case hod => assumption); (case lo => assumption); (case hlen => assumption); (case ne1 => k_ne); (case ne2 => k_ne); (case ne3 => k_ne); (case hb => assumption); k_whole; intro h' tk' od' F' N' hd'; (try dsimp only at N'))))
local macro_rules | `(tactic| walk_at "call ref") => `(tactic| (k_here; (with_reducible show wpAny _ _ (call (Value.ref 85) [Value.ref _]) _ _ _); k_dflt (refine' L_keysR ?X ?T ?B ?hA ?hf ?hke ?hh ?hdep ?hun ?F ?N ?I1 ?I2 ?I3 ?hod ?lo ?hlen ?ne1 ?ne2 ?ne3 ?_; (case F => k_asm); (case X => k_asm); (case T => k_asm); (case B => assumption); (case hA => exact rfl); (case hf => exact rfl); (case hke => exact rfl); (case hh => exact rfl); (case hdep => exact Nat.le_of_ble_eq_true rfl); (case hun => exact Nat.le_of_ble_eq_true rfl); (case N => k_asm); (case I1 => k_mem); (case I2 => k_mem); (case I3 => k_mem); (case hod => assumption); (case lo => assumption); (case hlen => assumption); (case ne1 => k_ne); (case ne2 => k_ne); (case ne3 => k_ne); k_whole; intro l' so' h' tk' F' N' l1 hs'; (try dsimp only at N'); (try k_lt l1))))
local macro_rules | `(tactic| walk_at "call builtin:len") => `(tactic| (k_here; (with_reducible show wpAny _ _ (call (Value.builtin "len") [Value.ref _]) _ _ _); k_dflt (refine' L_lenR ?X ?T ?B ?hA ?hf ?hke ?hh ?hdep ?hun ?F ?N ?I1 ?I2 ?I3 ?hod ?lo ?hlen ?ne1 ?ne2 ?ne3 ?_; (case F => k_asm); (case N => k_asm); (case I1 => k_mem); (case X => k_asm); (case T => k_asm); (case B => assumption); (case hA => exact rfl); (case hf => exact rfl); (case hke => exact rfl); (case hh => exact rfl); (case hdep => exact Nat.le_of_ble_eq_true rfl); (case hun => exact Nat.le_of_ble_eq_true rfl); (case I2 => k_mem); (case I3 => k_mem); (case hod => assumption); (case lo => assumption); (case hlen => assumption); (case ne1 => k_ne); (case ne2 => k_ne); (case ne3 => k_ne); k_whole; intro u' h' tk' F' N')))
local macro_rules | `(tactic| walk_at "setItem ref int") => `(tactic| (k_here; k_dflt (refine' kda_set (knd := PySem.intKind _ _) ?F ?N ?U ?d (intKind_is _ _ _ _) ?z ?_; (case F => k_asm); (case N => k_asm); (case U => k_updF); (case d => assumption); (case z => rw [sizeLine_eq]; omega); k_whole); intro h' o' F' N' hd'; (try dsimp only at N')))
local macro_rules | `(tactic| walk_at "setItem ref int") => `(tactic| (k_here; k_dflt (refine' L_set ?X ?T ?B ?hA ?hf ?hke ?hh ?hdep ?hun ?F ?N ?I1 ?I2 ?U ?hod ?lo ?hlen ?ne1 ?ne2 ?ne3 ?_; (case F => k_asm); (case N => k_asm); (case I1 => k_mem); (case X => k_asm); (case T => k_asm); (case B => assumption); (case hA => exact rfl); (case hf => exact rfl); (case hke => exact rfl); (case hh => exact rfl); (case hdep => exact Nat.le_of_ble_eq_true rfl); (case hun => exact Nat.le_of_ble_eq_true rfl); (case I2 => k_mem); (case U => k_updF); (case hod => assumption); (case lo => assumption); (case hlen => assumption); (case ne1 => k_ne); (case ne2 => k_ne); (case ne3 => k_ne); k_whole; intro h' tk' od' F' N' hd'; (try dsimp only at N'))))
local macro_rules | `(tactic| walk_at "compareOp In int ref") => `(tactic| (k_here; k_dflt (refine' lru_inB ?N ?a ?s ?l ?b ?_; (case N => k_asm); (case a => k_mem); (case s => assumption); (case l => rw [List.length_map]; omega); (case b => assumption); k_whole)))
local macro_rules | `(tactic| walk_at "compareOp In int ref") => `(tactic| (k_here; k_dflt (refine' kda_in (knd := PySem.intKind _ _) ?N ?a ?d ?lo (intKind_is _ _ _ _) _ ?b ?_; (case N => k_asm); (case a => k_mem); (case d => assumption); (case lo => assumption); (case b => assumption); k_whole)))
local macro_rules | `(tactic| walk_at "compareOp NotIn int ref") => `(tactic| (k_here; k_dflt (refine' kdg_notin (knd := PySem.intKind _ _) ?N ?a ?d ?lo (intKind_is _ _ _ _) _ ?b ?_; (case N => k_asm); (case a => k_mem); (case d => assumption); (case lo => assumption); (case b => assumption); k_whole)))
local macro_rules | `(tactic| walk_at "subscriptTail") => `(tactic| (k_here; (with_reducible show wpAny _ _ (subscriptTail _ _ (Value.ref _) (Value.int _ _)) _ _ _); k_dflt (refine' kda_item (knd := PySem.intKind _ _) ?N ?a ?d (intKind_is _ _ _ _) ?v ?_; (case N => k_asm); (case a => k_mem); (case d => assumption); (case v => assumption); k_whole)))
local macro_rules | `(tactic| walk_at "compareOp LtE ref ref") => `(tactic| (k_here; k_dflt (refine' lru_le ?u ?N ?a ?b ?s ?s' ?l ?l' ?le ?sub ?_; (case u => exact Nat.le_of_ble_eq_true rfl); (case N => k_asm); (case a => k_mem); (case b => k_mem); (case s => assumption); (case s' => assumption); (case l => first | assumption | omega); (case l' => first | assumption | omega); (case le => first | assumption | omega); (case sub => first | assumption | exact fun _ h => h); k_whole)))
local macro_rules | `(tactic| walk_at "compareOp NotEq ref ref") => `(tactic| (k_here; k_dflt (refine' lru_ne ?u ?N ?a ?b ?s ?s' ?l ?l' ?le ?sub ?_; (case u => exact Nat.le_of_ble_eq_true rfl); (case N => k_asm); (case a => k_mem); (case b => k_mem); (case s => assumption); (case s' => assumption); (case l => first | assumption | omega); (case l' => first | assumption | omega); (case le => first | assumption | omega); (case sub => first | assumption | exact fun _ h => h); k_whole)))
local macro_rules | `(tactic| walk_at "call type:set") => `(tactic| (k_here; (with_reducible show wpAny _ _ (call (Value.type "set") [Value.ref _]) _ _ _); k_dflt (first
  | (refine' lru_keys_set ?hh ?F ?N ?v ?p ?d ?z ?_; (case hh => first | exact rfl | assumption); (case F => k_asm); (case N => k_asm); (case v => k_mem); (case p => k_mem); (case d => k_asm); (case z => omega); k_whole; intro D' h' tk' so' F' N' l1 hs'; (try k_lt l1))
  | (refine' lru_list_setE ?hh ?F ?N ?v ?i ?e ?n ?z ?_; (case hh => first | exact rfl | assumption); (case F => k_asm); (case N => k_asm); (case v => k_mem); (case i => k_asm); (case e => assumption); (case n => assumption); (case z => assumption); k_whole; intro D' h' tk' so' F' N' l1 hs'; (try k_lt l1)))))
local macro_rules | `(tactic| lcg_off) => `(tactic| assumption)
local macro_rules | `(tactic| walk_at "CompRest") => `(tactic| (with_unfolding_all (refine LCg.CompRest.succ ?_; intro v' I' oI' C' oC' D' m' h' tk' E' hv' hC' hx' F' N' off' ne'; (first | lcg_open hv' | (obtain ⟨t9', hv9'⟩ := hv'; subst hv9')))))
local macro_rules | `(tactic| walk_at "ite") => `(tactic| (k_here; first | refine ite_pos (by assumption) ?_ | refine ite_neg (ne_true_of (by assumption)) ?_ | refine ite_neg (by simp; done) ?_ | refine ite_pos (by simp; done) ?_ | refine ite_neg (by simp; omega) ?_))
local macro_rules | `(tactic| walk_at "pyIter ref") => `(tactic| ((with_reducible show wpAny _ _ (pyIter (Value.ref _)) (fun it s₂ => LoopAtV _ _ _ _ _ _ _ _ _ it s₂) _ _); k_listUnr))
local macro_rules | `(tactic| walk_at "exec For Name Name cons nil") => `(tactic| (k_here; k_dflt (refine' For_F ?F ?x ?p ?_ ?s ?E; (case F => k_asm); (case x => rfl); (case p => rfl); (case s => intro _; rfl); (case E => exact PassesOwn.never); k_whole)))
local macro_rules | `(tactic| walk_at "call builtin:dict.pop") => `(tactic| (k_here; (with_reducible show wpAny _ _ (call (Value.builtin "dict.pop") [Value.ref _, Value.int _ _, _]) _ _ _); k_dflt (refine' lru_popd ?F ?N ?U ?d ?lo ?z ?_; (case F => k_asm); (case N => k_asm); (case U => k_updF); (case d => assumption); (case lo => assumption); (case z => rw [sizeLine_eq]; omega); k_whole); intro v' h' o' F' N' hd'; (try dsimp only at N')))
local macro_rules | `(tactic| walk_at "FinA") => `(tactic| ((unfold LCg.FinA); intro D' h' tk' F' N' o1'; (try simp only [List.nil_append, List.cons_append] at N'); (try dsimp only)))
local macro_rules | `(tactic| k_ne) => `(tactic| first | assumption | exact off1_ne (by assumption) (by k_mem) | exact (off1_ne (by assumption) (by k_mem)).symm)
local macro_rules | `(tactic| walk_at "subscriptTail Name Slice ref ref") => `(tactic| (k_here; (with_reducible show wpAny _ _ (subscriptTail _ (PySem.Expr.Slice _ _ none _) (Value.ref _) (Value.ref _)) _ _ _); k_dflt (refine' kmk_slice_ints ?F ?N ?l ?p ?q ?i ?m ?c ?_ ?s ?t ?z; (case F => k_asm); (case N => k_asm); (case l => kmk_list); (case p => kmk_part); (case q => kmk_part); (case i => assumption); (case m => exact kmk_from (by assumption) (by assumption)); (case c => exact List.length_drop ..); (case s => with_unfolding_all rfl); (case t => kmk_pure); (case z => assumption)); intro D' ws' h' F' N' l1 hI' hC' hL'; (try k_lt l1)))
local macro_rules | `(tactic| walk_at "call builtin:dict.pop") => `(tactic| (k_here; dsimp only [List.cons_append, List.nil_append]))
local macro_rules | `(tactic| walk_at "call builtin:list.append") => `(tactic| (k_here; dsimp only [List.cons_append, List.nil_append]))

section
variable {w : World} {mg mb : Str → Option Value} {mean : ExcName → Option Value} {h₀ : Heap} {L fa cd : Nat} {m : Str → Option Value} {s : Shared} {Q : Flow → Shared → Prop}
  {cC cV cK lN x0 dx0 d0 x1 dx1 d1 lC dV lM lU I lW s0 s1 : Nat} {oC oV oK od0 od1 oVd oI so0 so1 : Obj} {vsN vsU : List Value} {ns us : List Int} {nN nM nU nC nW : Nat} {a1 a2 a3 a4 b1 b2 b3 b4 tp tM0 tM1 tk9 tkey tv : Tok} {place size more m0 m1 kind key vi : Int} {kvs0 kvs1 kvsV : List (Int × Value)}
set_option maxHeartbeats 16000000 in
theorem seg2E
  (X : (hd.heap_39 w.params).In h₀) (T : Top topProg loose mean mg mb h₀) (B : Below callerA h₀ [] h₀)
  (F : Fr h₀ L s.heap m) (nm : Nm lN lM lU size more m) (nk : m (Str.ofString "kind") = some (.int kind tk9)) (np : m (Str.ofString "place") = some (.int place tp)) (nw : m (Str.ofString "was") = some (.ref lW))
  (N : News h₀ L s.heap [(lW, listOf #[.ref s0, .ref s1] nW), (s0, so0), (s1, so1), (cC, oC), (cV, oV), (cK, oK), (lN, listOf vsN.toArray nN), (x0, instObj 88 dx0), (dx0, cont w a1 a2 a3 a4 size .none d0), (d0, od0), (x1, instObj 88 dx1), (dx1, cont w b1 b2 b3 b4 (size + more) .none d1), (d1, od1), (lC, listOf #[.ref x0, .ref x1] nC), (dV, oVd), (lM, listOf #[.int m0 tM0, .int m1 tM1] nM), (lU, listOf vsU.toArray nU), (I, oI)])
  (hcC : oC.data = .cell (some (.ref lC))) (hcV : oV.data = .cell (some (.ref dV))) (eC : cC = L + 1) (eV : cV = L + 2) (eK : cK = L + 3)
  (o1 : L + 3 < lN) (o2 : lN < dx0) (o3 : dx0 < x0) (o4 : x0 < d0) (o5 : d0 < dx1) (o6 : dx1 < x1) (o7 : x1 < d1) (o8 : d1 < lC) (o9 : lC < dV) (o10 : dV < lM) (oU : LCg.Off1 lU [(cC, oC), (cV, oV), (cK, oK), (lN, listOf vsN.toArray nN), (x0, instObj 88 dx0), (dx0, cont w a1 a2 a3 a4 size .none d0), (d0, od0), (x1, instObj 88 dx1), (dx1, cont w b1 b2 b3 b4 (size + more) .none d1), (d1, od1), (lC, listOf #[.ref x0, .ref x1] nC), (dV, oVd), (lM, listOf #[.int m0 tM0, .int m1 tM1] nM), (I, oI)]) (o14 : lM < I)
  (lo0 : (d0 == sysModules) = false) (lo1 : (d1 == sysModules) = false) (loV : (dV == sysModules) = false) (hk0 : kvs0.length ≤ 10) (hk1 : kvs1.length ≤ 10) (hkV : kvsV.length ≤ 10)
  (hd0 : od0.IsDictOf (PySem.intKind PySem.Challenge.rw_aj5039_02.row.prog w) kvs0) (hd1 : od1.IsDictOf (PySem.intKind PySem.Challenge.rw_aj5039_02.row.prog w) kvs1) (hdV : oVd.IsDictOf (PySem.intKind PySem.Challenge.rw_aj5039_02.row.prog w) kvsV)
  (o16 : I < s0) (o17 : lU < s0) (o18 : s0 < s1) (w0 : lW ≠ d0) (w1 : lW ≠ d1) (wV : lW ≠ dV) (wM : lW ≠ lM) (hcK : oK.data = .cell (some (.int key tkey))) (hs0 : SetIs so0 (kvs0.map (·.1))) (hs1 : SetIs so1 (kvs1.map (·.1)))
  (kf : ([0, 1].any fun x => x == kind) = false) (kf2 : decide (kind = 2) = true) (kf3 : (kind == 2) = true)
  
  (q : ∀ h' tk m' od0' od1' oV' tM0' tM1' nM', Fr h₀ L h' m' → Nm lN lM lU size more m' → m' (Str.ofString "kind") = some (.int kind tk9) → m' (Str.ofString "place") = some (.int place tp) → News h₀ L h' [(cC, oC), (cV, oV), (cK, oK), (lN, listOf vsN.toArray nN), (x0, instObj 88 dx0), (dx0, cont w a1 a2 a3 a4 size .none d0), (d0, od0'), (x1, instObj 88 dx1), (dx1, cont w b1 b2 b3 b4 (size + more) .none d1), (d1, od1'), (lC, listOf #[.ref x0, .ref x1] nC), (dV, oV'), (lM, listOf #[.int m0 tM0', .int m1 tM1'] nM'), (lU, listOf vsU.toArray nU), (I, oI)] → od0'.IsDictOf (PySem.intKind PySem.Challenge.rw_aj5039_02.row.prog w) (setD size kvs0 key (.int place tp)) → od1'.IsDictOf (PySem.intKind PySem.Challenge.rw_aj5039_02.row.prog w) (setD (size + more) kvs1 key (.int place tp)) → oV'.IsDictOf (PySem.intKind PySem.Challenge.rw_aj5039_02.row.prog w) (stored kvsV key (.int place tp)) → Q .next { s with heap := h', toks := tk }) :
  wpAny (model PySem.Challenge.rw_aj5039_02.row.prog w) (callerA.deeper (lenv L fa cd)) (exec (loopBody.getD 3 (Stmt.Pass default)) (lenv L fa cd)) Q (fun _ _ => False) s := by
  revert X
  k_fill
  intro X
  subst eC eV eK
  obtain ⟨tsz, tmo, enm⟩ := nm.open
  have F1 := fr_eq F enm
  have e1 := (enm (Str.ofString "place")).trans np
  have F2 := fr_put (m := names02 lN lM lU size more tsz tmo m) e1 F1
  have e2 := (if_name e1 (Str.ofString "kind")).trans ((enm (Str.ofString "kind")).trans nk)
  have F3 := fr_put (x := Str.ofString "kind") (v := .int kind tk9) (by exact e2) F2
  have e3 := (if_name e2 (Str.ofString "was")).trans ((if_name e1 (Str.ofString "was")).trans ((enm (Str.ofString "was")).trans nw))
  have F4 := fr_put (x := Str.ofString "was") (v := .ref lW) (by exact e3) F3
  clear F F1 F2 F3 e1 e2 e3
  conv => arg 3; arg 1; whnf
  k_steps
  all_goals first | exact q _ _ _ _ _ _ _ _ _ (by assumption) ⟨rfl, rfl, rfl, ⟨_, rfl⟩, ⟨_, rfl⟩⟩ rfl rfl (News.sub (by assumption) (by lcg_sub)) (by assumption) (by assumption) (by assumption)
end
end Mine
end
section
open PySem PySem.W PyProof.Rows PySem.Calls PyProof.V PySem.Spec
set_option maxRecDepth 100000
namespace Mine
local macro_rules | `(tactic| k_room) => `(tactic| first | ((try simp only [depth_under_make, depth_under_kw, depth_in1, depth_deeper, depth_caller, depth_mark, recursionLimit]); first | decide | omega))
local macro_rules | `(tactic| k_all) => `(tactic| assumption)
local macro_rules | `(tactic| walk_at "call ref") => `(tactic| (k_here; (with_reducible show wpAny _ _ (call (Value.ref 99) [Value.ref _, Value.int _ _]) _ _ _); k_dflt (first
  | (refine' L_got_hit ?X ?T ?B ?hA ?hf ?hke ?hh ?hdep ?hun ?F ?N ?I1 ?I2 ?U ?hod ?lo ?hlen ?ne1 ?ne2 ?ne3 ?hv ?_; (case F => k_asm); (case X => k_asm); (case T => k_asm); (case B => assumption); (case hA => exact rfl); (case hf => exact rfl); (case hke => exact rfl); (case hh => exact rfl); (case hdep => exact Nat.le_of_ble_eq_true rfl); (case hun => exact Nat.le_of_ble_eq_true rfl); (case N => k_asm); (case I1 => k_mem); (case I2 => k_mem); (case U => k_updF); (case hod => assumption); (case lo => assumption); (case hlen => assumption); (case ne1 => k_ne); (case ne2 => k_ne); (case ne3 => k_ne); (case hv => assumption); k_whole; intro l' h' tk' od' F' N' l1 hd'; (try dsimp only at N'); (try k_lt l1))
  | (refine' L_got_missR ?X ?T ?B ?hA ?hf ?hke ?hh ?hdep ?hun ?F ?N ?I1 ?I2 ?I3 ?hod ?lo ?hlen ?ne1 ?ne2 ?ne3 ?hv ?_; (case F => k_asm); (case X => k_asm); (case T => k_asm); (case B => assumption); (case hA => exact rfl); (case hf => exact rfl); (case hke => exact rfl); (case hh => exact rfl); (case hdep => exact Nat.le_of_ble_eq_true rfl); (case hun => exact Nat.le_of_ble_eq_true rfl); (case N => k_asm); (case I1 => k_mem); (case I2 => k_mem); (case I3 => k_mem); (case hod => assumption); (case lo => assumption); (case hlen => assumption); (case ne1 => k_ne); (case ne2 => k_ne); (case ne3 => k_ne); (case hv => assumption); k_whole; intro l' h' tk' F' N' l1; (try dsimp only at N'); (try k_lt l1)))))
local macro_rules | `(tactic| walk_at "call ref") => `(tactic| (k_here; (with_reducible show wpAny _ _ (call (Value.ref 106) [Value.ref _, Value.int _ _]) _ _ _); k_dflt (refine' L_delB ?X ?T ?B ?hA ?hf ?hke ?hh ?hdep ?hun ?F ?N ?I1 ?I2 ?U ?hod ?lo ?hlen ?ne1 ?ne2 ?ne3 ?hb ?_;  (case F => k_asm); (case X => k_asm); (case T => k_asm); (case B => assumption); (case hA => exact rfl); (case hf => exact rfl); (case hke => exact rfl); (case hh => exact rfl); (case hdep => exact Nat.le_of_ble_eq_true rfl); (case hun => exact Nat.le_of_ble_eq_true rfl); (case N => k_asm); (case I1 => k_mem); (case I2 => k_mem); (case U => k_updF); (case hod => assumption); (case lo => assumption); (case hlen => assumption); (case ne1 => k_ne); (case ne2 => k_ne); (case ne3 => k_ne); (case hb => assumption); k_whole; intro h' tk' od' F' N' hd'; (try dsimp only at N'))))
local macro_rules | `(tactic| walk_at "call ref") => `(tactic| (k_here; (with_reducible show wpAny _ _ (call (Value.ref 85) [Value.ref _]) _ _ _); k_dflt (refine' L_keysR ?X ?T ?B ?hA ?hf ?hke ?hh ?hdep ?hun ?F ?N ?I1 ?I2 ?I3 ?hod ?lo ?hlen ?ne1 ?ne2 ?ne3 ?_; (case F => k_asm); (case X => k_asm); (case T => k_asm); (case B => assumption); (case hA => exact rfl); (case hf => exact rfl); (case hke => exact rfl); (case hh => exact rfl); (case hdep => exact Nat.le_of_ble_eq_true rfl); (case hun => exact Nat.le_of_ble_eq_true rfl); (case N => k_asm); (case I1 => k_mem); (case I2 => k_mem); (case I3 => k_mem); (case hod => assumption); (case lo => assumption); (case hlen => assumption); (case ne1 => k_ne); (case ne2 => k_ne); (case ne3 => k_ne); k_whole; intro l' so' h' tk' F' N' l1 hs'; (try dsimp only at N'); (try k_lt l1))))
local macro_rules | `(tactic| walk_at "call builtin:len") => `(tactic| (k_here; (with_reducible show wpAny _ _ (call (Value.builtin "len") [Value.ref _]) _ _ _); k_dflt (refine' L_lenR ?X ?T ?B ?hA ?hf ?hke ?hh ?hdep ?hun ?F ?N ?I1 ?I2 ?I3 ?hod ?lo ?hlen ?ne1 ?ne2 ?ne3 ?_; (case F => k_asm); (case N => k_asm); (case I1 => k_mem); (case X => k_asm); (case T => k_asm); (case B => assumption); (case hA => exact rfl); (case hf => exact rfl); (case hke => exact rfl); (case hh => exact rfl); (case hdep => exact Nat.le_of_ble_eq_true rfl); (case hun => exact Nat.le_of_ble_eq_true rfl); (case I2 => k_mem); (case I3 => k_mem); (case hod => assumption); (case lo => assumption); (case hlen => assumption); (case ne1 => k_ne); (case ne2 => k_ne); (case ne3 => k_ne); k_whole; intro u' h' tk' F' N')))
local macro_rules | `(tactic| walk_at "setItem ref int") => `(tactic| (k_here; k_dflt (refine' kda_set (knd := PySem.intKind _ _) ?F ?N ?U ?d (intKind_is _ _ _ _) ?z ?_; (case F => k_asm); (case N => k_asm); (case U => k_updF); (case d => assumption); (case z => rw [sizeLine_eq]; omega); k_whole); intro h' o' F' N' hd'; (try dsimp only at N')))
local macro_rules | `(tactic| walk_at "setItem ref int") => `(tactic| (k_here; k_dflt (refine' L_set ?X ?T ?B ?hA ?hf ?hke ?hh ?hdep ?hun ?F ?N ?I1 ?I2 ?U ?hod ?lo ?hlen ?ne1 ?ne2 ?ne3 ?_; (case F => k_asm); (case N => k_asm); (case I1 => k_mem); (case X => k_asm); (case T => k_asm); (case B => assumption); (case hA => exact rfl); (case hf => exact rfl); (case hke => exact rfl); (case hh => exact rfl); (case hdep => exact Nat.le_of_ble_eq_true rfl); (case hun => exact Nat.le_of_ble_eq_true rfl); (case I2 => k_mem); (case U => k_updF); (case hod => assumption); (case lo => assumption); (case hlen => assumption); (case ne1 => k_ne); (case ne2 => k_ne); (case ne3 => k_ne); k_whole; intro h' tk' od' F' N' hd'; (try dsimp only at N'))))
local macro_rules | `(tactic| walk_at "compareOp In int ref") => `(tactic| (k_here; k_dflt (refine' lru_inB ?N ?a ?s ?l ?b ?_; (case N => k_asm); (case a => k_mem); (case s => assumption); (case l => rw [List.length_map]; omega); (case b => assumption); k_whole)))
local macro_rules | `(tactic| walk_at "compareOp In int ref") => `(tactic| (k_here; k_dflt (refine' kda_in (knd := PySem.intKind _ _) ?N ?a ?d ?lo (intKind_is _ _ _ _) _ ?b ?_; (case N => k_asm); (case a => k_mem); (case d => assumption); (case lo => assumption); (case b => assumption); k_whole)))
local macro_rules | `(tactic| walk_at "compareOp NotIn int ref") => `(tactic| (k_here; k_dflt (refine' kdg_notin (knd := PySem.intKind _ _) ?N ?a ?d ?lo (intKind_is _ _ _ _) _ ?b ?_; (case N => k_asm); (case a => k_mem); (case d => assumption); (case lo => assumption); (case b => assumption); k_whole)))
local macro_rules | `(tactic| walk_at "subscriptTail") => `(tactic| (k_here; (with_reducible show wpAny _ _ (subscriptTail _ _ (Value.ref _) (Value.int _ _)) _ _ _); k_dflt (refine' kda_item (knd := PySem.intKind _ _) ?N ?a ?d (intKind_is _ _ _ _) ?v ?_; (case N => k_asm); (case a => k_mem); (case d => assumption); (case v => assumption); k_whole)))
local macro_rules | `(tactic| walk_at "compareOp LtE ref ref") => `(tactic| (k_here; k_dflt (refine' lru_le ?u ?N ?a ?b ?s ?s' ?l ?l' ?le ?sub ?_; (case u => exact Nat.le_of_ble_eq_true rfl); (case N => k_asm); (case a => k_mem); (case b => k_mem); (case s => assumption); (case s' => assumption); (case l => first | assumption | omega); (case l' => first | assumption | omega); (case le => first | assumption | omega); (case sub => first | assumption | exact fun _ h => h); k_whole)))
local macro_rules | `(tactic| walk_at "compareOp NotEq ref ref") => `(tactic| (k_here; k_dflt (refine' lru_ne ?u ?N ?a ?b ?s ?s' ?l ?l' ?le ?sub ?_; (case u => exact Nat.le_of_ble_eq_true rfl); (case N => k_asm); (case a => k_mem); (case b => k_mem); (case s => assumption); (case s' => assumption); (case l => first | assumption | omega); (case l' => first | assumption | omega); (case le => first | assumption | omega); (case sub => first | assumption | exact fun _ h => h); k_whole)))
local macro_rules | `(tactic| walk_at "call type:set") => `(tactic| (k_here; (with_reducible show wpAny _ _ (call (Value.type "set") [Value.ref _]) _ _ _); k_dflt (first
  | (refine' lru_keys_set ?hh ?F ?N ?v ?p ?d ?z ?_; (case hh => first | exact rfl | assumption); (case F => k_asm); (case N => k_asm); (case v => k_mem); (case p => k_mem); (case d => k_asm); (case z => omega); k_whole; intro D' h' tk' so' F' N' l1 hs'; (try k_lt l1))
  | (refine' lru_list_setE ?hh ?F ?N ?v ?i ?e ?n ?z ?_; (case hh => first | exact rfl | assumption); (case F => k_asm); (case N => k_asm); (case v => k_mem); (case i => k_asm); (case e => assumption); (case n => assumption); (case z => assumption); k_whole; intro D' h' tk' so' F' N' l1 hs'; (try k_lt l1)))))
local macro_rules | `(tactic| lcg_off) => `(tactic| assumption)
local macro_rules | `(tactic| walk_at "CompRest") => `(tactic| (with_unfolding_all (refine LCg.CompRest.succ ?_; intro v' I' oI' C' oC' D' m' h' tk' E' hv' hC' hx' F' N' off' ne'; (first | lcg_open hv' | (obtain ⟨t9', hv9'⟩ := hv'; subst hv9')))))
local macro_rules | `(tactic| walk_at "ite") => `(tactic| (k_here; first | refine ite_pos (by assumption) ?_ | refine ite_neg (ne_true_of (by assumption)) ?_ | refine ite_neg (by simp; done) ?_ | refine ite_pos (by simp; done) ?_ | refine ite_neg (by simp; omega) ?_))
local macro_rules | `(tactic| walk_at "pyIter ref") => `(tactic| ((with_reducible show wpAny _ _ (pyIter (Value.ref _)) (fun it s₂ => LoopAtV _ _ _ _ _ _ _ _ _ it s₂) _ _); k_listUnr))
local macro_rules | `(tactic| walk_at "exec For Name Name cons nil") => `(tactic| (k_here; k_dflt (refine' For_F ?F ?x ?p ?_ ?s ?E; (case F => k_asm); (case x => rfl); (case p => rfl); (case s => intro _; rfl); (case E => exact PassesOwn.never); k_whole)))
local macro_rules | `(tactic| walk_at "call builtin:dict.pop") => `(tactic| (k_here; (with_reducible show wpAny _ _ (call (Value.builtin "dict.pop") [Value.ref _, Value.int _ _, _]) _ _ _); k_dflt (refine' lru_popd ?F ?N ?U ?d ?lo ?z ?_; (case F => k_asm); (case N => k_asm); (case U => k_updF); (case d => assumption); (case lo => assumption); (case z => rw [sizeLine_eq]; omega); k_whole); intro v' h' o' F' N' hd'; (try dsimp only at N')))
local macro_rules | `(tactic| walk_at "FinA") => `(tactic| ((unfold LCg.FinA); intro D' h' tk' F' N' o1'; (try simp only [List.nil_append, List.cons_append] at N'); (try dsimp only)))
local macro_rules | `(tactic| k_ne) => `(tactic| first | assumption | exact off1_ne (by assumption) (by k_mem) | exact (off1_ne (by assumption) (by k_mem)).symm)
local macro_rules | `(tactic| walk_at "subscriptTail Name Slice ref ref") => `(tactic| (k_here; (with_reducible show wpAny _ _ (subscriptTail _ (PySem.Expr.Slice _ _ none _) (Value.ref _) (Value.ref _)) _ _ _); k_dflt (refine' kmk_slice_ints ?F ?N ?l ?p ?q ?i ?m ?c ?_ ?s ?t ?z; (case F => k_asm); (case N => k_asm); (case l => kmk_list); (case p => kmk_part); (case q => kmk_part); (case i => assumption); (case m => exact kmk_from (by assumption) (by assumption)); (case c => exact List.length_drop ..); (case s => with_unfolding_all rfl); (case t => kmk_pure); (case z => assumption)); intro D' ws' h' F' N' l1 hI' hC' hL'; (try k_lt l1)))
local macro_rules | `(tactic| walk_at "call builtin:dict.pop") => `(tactic| (k_here; dsimp only [List.cons_append, List.nil_append]))
local macro_rules | `(tactic| walk_at "call builtin:list.append") => `(tactic| (k_here; dsimp only [List.cons_append, List.nil_append]))

section
variable {w : World} {mg mb : Str → Option Value} {mean : ExcName → Option Value} {h₀ : Heap} {L fa cd : Nat} {m : Str → Option Value} {s : Shared} {Q : Flow → Shared → Prop}
  {cC cV cK lN x0 dx0 d0 x1 dx1 d1 lC dV lM lU I lW s0 s1 : Nat} {oC oV oK od0 od1 oVd oI so0 so1 : Obj} {vsN vsU : List Value} {ns us : List Int} {nN nM nU nC nW : Nat} {a1 a2 a3 a4 b1 b2 b3 b4 tp tM0 tM1 tk9 tkey tv : Tok} {place size more m0 m1 kind key vi : Int} {kvs0 kvs1 kvsV : List (Int × Value)}
set_option maxHeartbeats 16000000 in
theorem seg2F
  (X : (hd.heap_39 w.params).In h₀) (T : Top topProg loose mean mg mb h₀) (B : Below callerA h₀ [] h₀)
  (F : Fr h₀ L s.heap m) (nm : Nm lN lM lU size more m) (nk : m (Str.ofString "kind") = some (.int kind tk9)) (np : m (Str.ofString "place") = some (.int place tp)) (nw : m (Str.ofString "was") = some (.ref lW))
  (N : News h₀ L s.heap [(lW, listOf #[.ref s0, .ref s1] nW), (s0, so0), (s1, so1), (cC, oC), (cV, oV), (cK, oK), (lN, listOf vsN.toArray nN), (x0, instObj 88 dx0), (dx0, cont w a1 a2 a3 a4 size .none d0), (d0, od0), (x1, instObj 88 dx1), (dx1, cont w b1 b2 b3 b4 (size + more) .none d1), (d1, od1), (lC, listOf #[.ref x0, .ref x1] nC), (dV, oVd), (lM, listOf #[.int m0 tM0, .int m1 tM1] nM), (lU, listOf vsU.toArray nU), (I, oI)])
  (hcC : oC.data = .cell (some (.ref lC))) (hcV : oV.data = .cell (some (.ref dV))) (eC : cC = L + 1) (eV : cV = L + 2) (eK : cK = L + 3)
  (o1 : L + 3 < lN) (o2 : lN < dx0) (o3 : dx0 < x0) (o4 : x0 < d0) (o5 : d0 < dx1) (o6 : dx1 < x1) (o7 : x1 < d1) (o8 : d1 < lC) (o9 : lC < dV) (o10 : dV < lM) (oU : LCg.Off1 lU [(cC, oC), (cV, oV), (cK, oK), (lN, listOf vsN.toArray nN), (x0, instObj 88 dx0), (dx0, cont w a1 a2 a3 a4 size .none d0), (d0, od0), (x1, instObj 88 dx1), (dx1, cont w b1 b2 b3 b4 (size + more) .none d1), (d1, od1), (lC, listOf #[.ref x0, .ref x1] nC), (dV, oVd), (lM, listOf #[.int m0 tM0, .int m1 tM1] nM), (I, oI)]) (o14 : lM < I)
  (lo0 : (d0 == sysModules) = false) (lo1 : (d1 == sysModules) = false) (loV : (dV == sysModules) = false) (hk0 : kvs0.length ≤ 10) (hk1 : kvs1.length ≤ 10) (hkV : kvsV.length ≤ 10)
  (hd0 : od0.IsDictOf (PySem.intKind PySem.Challenge.rw_aj5039_02.row.prog w) kvs0) (hd1 : od1.IsDictOf (PySem.intKind PySem.Challenge.rw_aj5039_02.row.prog w) kvs1) (hdV : oVd.IsDictOf (PySem.intKind PySem.Challenge.rw_aj5039_02.row.prog w) kvsV)
  (o16 : I < s0) (o17 : lU < s0) (o18 : s0 < s1) (w0 : lW ≠ d0) (w1 : lW ≠ d1) (wV : lW ≠ dV) (wM : lW ≠ lM) (hcK : oK.data = .cell (some (.int key tkey))) (hs0 : SetIs so0 (kvs0.map (·.1))) (hs1 : SetIs so1 (kvs1.map (·.1)))
  (kf : ([0, 1].any fun x => x == kind) = false) (kf2 : decide (kind = 2) = false) (kf3 : (kind == 2) = false)
  {bb0 bb1 : Bool} (hb0 : (valueAt kvs0 key).isSome = bb0) (hb1 : (valueAt kvs1 key).isSome = bb1) (ha0 : ((kvs0.map (·.1)).any (· == key)) = bb0) (ha1 : ((kvs1.map (·.1)).any (· == key)) = bb1)
  (q : ∀ h' tk m' od0' od1' oV' tM0' tM1' nM', Fr h₀ L h' m' → Nm lN lM lU size more m' → m' (Str.ofString "kind") = some (.int kind tk9) → m' (Str.ofString "place") = some (.int place tp) → News h₀ L h' [(cC, oC), (cV, oV), (cK, oK), (lN, listOf vsN.toArray nN), (x0, instObj 88 dx0), (dx0, cont w a1 a2 a3 a4 size .none d0), (d0, od0'), (x1, instObj 88 dx1), (dx1, cont w b1 b2 b3 b4 (size + more) .none d1), (d1, od1'), (lC, listOf #[.ref x0, .ref x1] nC), (dV, oV'), (lM, listOf #[.int m0 tM0', .int m1 tM1'] nM'), (lU, listOf vsU.toArray nU), (I, oI)] → od0'.IsDictOf (PySem.intKind PySem.Challenge.rw_aj5039_02.row.prog w) (without kvs0 key) → od1'.IsDictOf (PySem.intKind PySem.Challenge.rw_aj5039_02.row.prog w) (without kvs1 key) → oV'.IsDictOf (PySem.intKind PySem.Challenge.rw_aj5039_02.row.prog w) (without kvsV key) → Q .next { s with heap := h', toks := tk }) :
  wpAny (model PySem.Challenge.rw_aj5039_02.row.prog w) (callerA.deeper (lenv L fa cd)) (exec (loopBody.getD 3 (Stmt.Pass default)) (lenv L fa cd)) Q (fun _ _ => False) s := by
  revert X
  k_fill
  intro X
  subst eC eV eK
  obtain ⟨tsz, tmo, enm⟩ := nm.open
  have F1 := fr_eq F enm
  have e1 := (enm (Str.ofString "place")).trans np
  have F2 := fr_put (m := names02 lN lM lU size more tsz tmo m) e1 F1
  have e2 := (if_name e1 (Str.ofString "kind")).trans ((enm (Str.ofString "kind")).trans nk)
  have F3 := fr_put (x := Str.ofString "kind") (v := .int kind tk9) (by exact e2) F2
  have e3 := (if_name e2 (Str.ofString "was")).trans ((if_name e1 (Str.ofString "was")).trans ((enm (Str.ofString "was")).trans nw))
  have F4 := fr_put (x := Str.ofString "was") (v := .ref lW) (by exact e3) F3
  clear F F1 F2 F3 e1 e2 e3
  conv => arg 3; arg 1; whnf
  k_steps
  all_goals first | exact q _ _ _ _ _ _ _ _ _ (by assumption) ⟨rfl, rfl, rfl, ⟨_, rfl⟩, ⟨_, rfl⟩⟩ rfl rfl (News.sub (by assumption) (by lcg_sub)) (by assumption) (by assumption) (by assumption)
end
end Mine
end
section
open PySem PySem.W PyProof.Rows PySem.Calls PyProof.V PySem.Spec
set_option maxRecDepth 100000
namespace Mine
local macro_rules | `(tactic| k_room) => `(tactic| first | ((try simp only [depth_under_make, depth_under_kw, depth_in1, depth_deeper, depth_caller, depth_mark, recursionLimit]); first | decide | omega))
local macro_rules | `(tactic| k_all) => `(tactic| assumption)
local macro_rules | `(tactic| walk_at "call ref") => `(tactic| (k_here; (with_reducible show wpAny _ _ (call (Value.ref 99) [Value.ref _, Value.int _ _]) _ _ _); k_dflt (first
  | (refine' L_got_hit ?X ?T ?B ?hA ?hf ?hke ?hh ?hdep ?hun ?F ?N ?I1 ?I2 ?U ?hod ?lo ?hlen ?ne1 ?ne2 ?ne3 ?hv ?_; (case F => k_asm); (case X => k_asm); (case T => k_asm); (case B => assumption); (case hA => exact rfl); (case hf => exact rfl); (case hke => exact rfl); (case hh => exact rfl); (case hdep => exact Nat.le_of_ble_eq_true rfl); (case hun => exact Nat.le_of_ble_eq_true rfl); (case N => k_asm); (case I1 => k_mem); (case I2 => k_mem); (case U => k_updF); (case hod => assumption); (case lo => assumption); (case hlen => assumption); (case ne1 => k_ne); (case ne2 => k_ne); (case ne3 => k_ne); (case hv => assumption); k_whole; intro l' h' tk' od' F' N' l1 hd'; (try dsimp only at N'); (try k_lt l1))
  | (refine' L_got_missR ?X ?T ?B ?hA ?hf ?hke ?hh ?hdep ?hun ?F ?N ?I1 ?I2 ?I3 ?hod ?lo ?hlen ?ne1 ?ne2 ?ne3 ?hv ?_; (case F => k_asm); (case X => k_asm); (case T => k_asm); (case B => assumption); (case hA => exact rfl); (case hf => exact rfl); (case hke => exact rfl); (case hh => exact rfl); (case hdep => exact Nat.le_of_ble_eq_true rfl); (case hun => exact Nat.le_of_ble_eq_true rfl); (case N => k_asm); (case I1 => k_mem); (case I2 => k_mem); (case I3 => k_mem); (case hod => assumption); (case lo => assumption); (case hlen => assumption); (case ne1 => k_ne); (case ne2 => k_ne); (case ne3 => k_ne); (case hv => assumption); k_whole; intro l' h' tk' F' N' l1; (try dsimp only at N'); (try k_lt l1)))))
local macro_rules | `(tactic| walk_at "call ref") => `(tactic| (k_here; (with_reducible show wpAny _ _ (call (Value.ref 106) [Value.ref _, Value.int _ _]) _ _ _); k_dflt (refine' L_delB ?X ?T ?B ?hA ?hf ?hke ?hh ?hdep ?hun ?F ?N ?I1 ?I2 ?U ?hod ?lo ?hlen ?ne1 ?ne2 ?ne3 ?hb ?_;  (case F => k_asm); (case X => k_asm); (case T => k_asm); (case B => assumption); (case hA => exact rfl); (case hf => exact rfl); (case hke => exact rfl); (case hh => exact rfl); (case hdep => exact Nat.le_of_ble_eq_true rfl); (case hun => exact Nat.le_of_ble_eq_true rfl); (case N => k_asm); (case I1 => k_mem); (case I2 => k_mem); (case U => k_updF); (case hod => assumption); (case lo => assumption); (case hlen => assumption); (case ne1 => k_ne); (case ne2 => k_ne); (case ne3 => k_ne); (case hb => assumption); k_whole; intro h' tk' od' F' N' hd'; (try dsimp only at N'))))
local macro_rules | `(tactic| walk_at "call ref") => `(tactic| (k_here; (with_reducible show wpAny _ _ (call (Value.ref 85) [Value.ref _]) _ _ _); k_dflt (refine' L_keysR ?X ?T ?B ?hA ?hf ?hke ?hh ?hdep ?hun ?F ?N ?I1 ?I2 ?I3 ?hod ?lo ?hlen ?ne1 ?ne2 ?ne3 ?_; (case F => k_asm); (case X => k_asm); (case T => k_asm); (case B => assumption); (case hA => exact rfl); (case hf => exact rfl); (case hke => exact rfl); (case hh => exact rfl); (case hdep => exact Nat.le_of_ble_eq_true rfl); (case hun => exact Nat.le_of_ble_eq_true rfl); (case N => k_asm); (case I1 => k_mem); (case I2 => k_mem); (case I3 => k_mem); (case hod => assumption); (case lo => assumption); (case hlen => assumption); (case ne1 => k_ne); (case ne2 => k_ne); (case ne3 => k_ne); k_whole; intro l' so' h' tk' F' N' l1 hs'; (try dsimp only at N'); (try k_lt l1))))
local macro_rules | `(tactic| walk_at "call builtin:len") => `(tactic| (k_here; (with_reducible show wpAny _ _ (call (Value.builtin "len") [Value.ref _]) _ _ _); k_dflt (refine' L_lenR ?X ?T ?B ?hA ?hf ?hke ?hh ?hdep ?hun ?F ?N ?I1 ?I2 ?I3 ?hod ?lo ?hlen ?ne1 ?ne2 ?ne3 ?_; (case F => k_asm); (case N => k_asm); (case I1 => k_mem); (case X => k_asm); (case T => k_asm); (case B => assumption); (case hA => exact rfl); (case hf => exact rfl); (case hke => exact rfl); (case hh => exact rfl); (case hdep => exact Nat.le_of_ble_eq_true rfl); (case hun => exact Nat.le_of_ble_eq_true rfl); (case I2 => k_mem); (case I3 => k_mem); (case hod => assumption); (case lo => assumption); (case hlen => assumption); (case ne1 => k_ne); (case ne2 => k_ne); (case ne3 => k_ne); k_whole; intro u' h' tk' F' N')))
local macro_rules | `(tactic| walk_at "setItem ref int") => `(tactic| (k_here; k_dflt (refine' kda_set (knd := PySem.intKind _ _) ?F ?N ?U ?d (intKind_is _ _ _ _) ?z ?_; (case F => k_asm); (case N => k_asm); (case U => k_updF); (case d => assumption); (case z => rw [sizeLine_eq]; omega); k_whole); intro h' o' F' N' hd'; (try dsimp only at N')))
local macro_rules | `(tactic| walk_at "setItem ref int") => `(tactic| (k_here; k_dflt (refine' L_set ?X ?T ?B ?hA ?hf ?hke ?hh ?hdep ?hun ?F ?N ?I1 ?I2 ?U ?hod ?lo ?hlen ?ne1 ?ne2 ?ne3 ?_; (case F => k_asm); (case N => k_asm); (case I1 => k_mem); (case X => k_asm); (case T => k_asm); (case B => assumption); (case hA => exact rfl); (case hf => exact rfl); (case hke => exact rfl); (case hh => exact rfl); (case hdep => exact Nat.le_of_ble_eq_true rfl); (case hun => exact Nat.le_of_ble_eq_true rfl); (case I2 => k_mem); (case U => k_updF); (case hod => assumption); (case lo => assumption); (case hlen => assumption); (case ne1 => k_ne); (case ne2 => k_ne); (case ne3 => k_ne); k_whole; intro h' tk' od' F' N' hd'; (try dsimp only at N'))))
local macro_rules | `(tactic| walk_at "compareOp In int ref") => `(tactic| (k_here; k_dflt (refine' lru_inB ?N ?a ?s ?l ?b ?_; (case N => k_asm); (case a => k_mem); (case s => assumption); (case l => rw [List.length_map]; omega); (case b => assumption); k_whole)))
local macro_rules | `(tactic| walk_at "compareOp In int ref") => `(tactic| (k_here; k_dflt (refine' kda_in (knd := PySem.intKind _ _) ?N ?a ?d ?lo (intKind_is _ _ _ _) _ ?b ?_; (case N => k_asm); (case a => k_mem); (case d => assumption); (case lo => assumption); (case b => assumption); k_whole)))
local macro_rules | `(tactic| walk_at "compareOp NotIn int ref") => `(tactic| (k_here; k_dflt (refine' kdg_notin (knd := PySem.intKind _ _) ?N ?a ?d ?lo (intKind_is _ _ _ _) _ ?b ?_; (case N => k_asm); (case a => k_mem); (case d => assumption); (case lo => assumption); (case b => assumption); k_whole)))
local macro_rules | `(tactic| walk_at "subscriptTail") => `(tactic| (k_here; (with_reducible show wpAny _ _ (subscriptTail _ _ (Value.ref _) (Value.int _ _)) _ _ _); k_dflt (refine' kda_item (knd := PySem.intKind _ _) ?N ?a ?d (intKind_is _ _ _ _) ?v ?_; (case N => k_asm); (case a => k_mem); (case d => assumption); (case v => assumption); k_whole)))
local macro_rules | `(tactic| walk_at "compareOp LtE ref ref") => `(tactic| (k_here; k_dflt (refine' lru_le ?u ?N ?a ?b ?s ?s' ?l ?l' ?le ?sub ?_; (case u => exact Nat.le_of_ble_eq_true rfl); (case N => k_asm); (case a => k_mem); (case b => k_mem); (case s => assumption); (case s' => assumption); (case l => first | assumption | omega); (case l' => first | assumption | omega); (case le => first | assumption | omega); (case sub => first | assumption | exact fun _ h => h); k_whole)))
local macro_rules | `(tactic| walk_at "compareOp NotEq ref ref") => `(tactic| (k_here; k_dflt (refine' lru_ne ?u ?N ?a ?b ?s ?s' ?l ?l' ?le ?sub ?_; (case u => exact Nat.le_of_ble_eq_true rfl); (case N => k_asm); (case a => k_mem); (case b => k_mem); (case s => assumption); (case s' => assumption); (case l => first | assumption | omega); (case l' => first | assumption | omega); (case le => first | assumption | omega); (case sub => first | assumption | exact fun _ h => h); k_whole)))
local macro_rules | `(tactic| walk_at "call type:set") => `(tactic| (k_here; (with_reducible show wpAny _ _ (call (Value.type "set") [Value.ref _]) _ _ _); k_dflt (first
  | (refine' lru_keys_set ?hh ?F ?N ?v ?p ?d ?z ?_; (case hh => first | exact rfl | assumption); (case F => k_asm); (case N => k_asm); (case v => k_mem); (case p => k_mem); (case d => k_asm); (case z => omega); k_whole; intro D' h' tk' so' F' N' l1 hs'; (try k_lt l1))
  | (refine' lru_list_setE ?hh ?F ?N ?v ?i ?e ?n ?z ?_; (case hh => first | exact rfl | assumption); (case F => k_asm); (case N => k_asm); (case v => k_mem); (case i => k_asm); (case e => assumption); (case n => assumption); (case z => assumption); k_whole; intro D' h' tk' so' F' N' l1 hs'; (try k_lt l1)))))
local macro_rules | `(tactic| lcg_off) => `(tactic| assumption)
local macro_rules | `(tactic| walk_at "CompRest") => `(tactic| (with_unfolding_all (refine LCg.CompRest.succ ?_; intro v' I' oI' C' oC' D' m' h' tk' E' hv' hC' hx' F' N' off' ne'; (first | lcg_open hv' | (obtain ⟨t9', hv9'⟩ := hv'; subst hv9')))))
local macro_rules | `(tactic| walk_at "ite") => `(tactic| (k_here; first | refine ite_pos (by assumption) ?_ | refine ite_neg (ne_true_of (by assumption)) ?_ | refine ite_neg (by simp; done) ?_ | refine ite_pos (by simp; done) ?_ | refine ite_neg (by simp; omega) ?_))
local macro_rules | `(tactic| walk_at "pyIter ref") => `(tactic| ((with_reducible show wpAny _ _ (pyIter (Value.ref _)) (fun it s₂ => LoopAtV _ _ _ _ _ _ _ _ _ it s₂) _ _); k_listUnr))
local macro_rules | `(tactic| walk_at "exec For Name Name cons nil") => `(tactic| (k_here; k_dflt (refine' For_F ?F ?x ?p ?_ ?s ?E; (case F => k_asm); (case x => rfl); (case p => rfl); (case s => intro _; rfl); (case E => exact PassesOwn.never); k_whole)))
local macro_rules | `(tactic| walk_at "call builtin:dict.pop") => `(tactic| (k_here; (with_reducible show wpAny _ _ (call (Value.builtin "dict.pop") [Value.ref _, Value.int _ _, _]) _ _ _); k_dflt (refine' lru_popd ?F ?N ?U ?d ?lo ?z ?_; (case F => k_asm); (case N => k_asm); (case U => k_updF); (case d => assumption); (case lo => assumption); (case z => rw [sizeLine_eq]; omega); k_whole); intro v' h' o' F' N' hd'; (try dsimp only at N')))
local macro_rules | `(tactic| walk_at "FinA") => `(tactic| ((unfold LCg.FinA); intro D' h' tk' F' N' o1'; (try simp only [List.nil_append, List.cons_append] at N'); (try dsimp only)))
local macro_rules | `(tactic| k_ne) => `(tactic| first | assumption | exact off1_ne (by assumption) (by k_mem) | exact (off1_ne (by assumption) (by k_mem)).symm)
local macro_rules | `(tactic| walk_at "subscriptTail Name Slice ref ref") => `(tactic| (k_here; (with_reducible show wpAny _ _ (subscriptTail _ (PySem.Expr.Slice _ _ none _) (Value.ref _) (Value.ref _)) _ _ _); k_dflt (refine' kmk_slice_ints ?F ?N ?l ?p ?q ?i ?m ?c ?_ ?s ?t ?z; (case F => k_asm); (case N => k_asm); (case l => kmk_list); (case p => kmk_part); (case q => kmk_part); (case i => assumption); (case m => exact kmk_from (by assumption) (by assumption)); (case c => exact List.length_drop ..); (case s => with_unfolding_all rfl); (case t => kmk_pure); (case z => assumption)); intro D' ws' h' F' N' l1 hI' hC' hL'; (try k_lt l1)))
local macro_rules | `(tactic| walk_at "call builtin:dict.pop") => `(tactic| (k_here; dsimp only [List.cons_append, List.nil_append]))
local macro_rules | `(tactic| walk_at "call builtin:list.append") => `(tactic| (k_here; dsimp only [List.cons_append, List.nil_append]))

section
variable {w : World} {mg mb : Str → Option Value} {mean : ExcName → Option Value} {h₀ : Heap} {L fa cd : Nat} {m : Str → Option Value} {s : Shared} {Q : Flow → Shared → Prop}
  {cC cV cK lN x0 dx0 d0 x1 dx1 d1 lC dV lM lU I lW s0 s1 : Nat} {oC oV oK od0 od1 oVd oI so0 so1 : Obj} {vsN vsU : List Value} {ns us : List Int} {nN nM nU nC nW : Nat} {a1 a2 a3 a4 b1 b2 b3 b4 tp tM0 tM1 tk9 tkey tv : Tok} {place size more m0 m1 kind key vi : Int} {kvs0 kvs1 kvsV : List (Int × Value)}
set_option maxHeartbeats 16000000 in
theorem seg3a
  (X : (hd.heap_39 w.params).In h₀) (T : Top topProg loose mean mg mb h₀) (B : Below callerA h₀ [] h₀)
  (F : Fr h₀ L s.heap m) (nm : Nm lN lM lU size more m) (nk : m (Str.ofString "kind") = some (.int kind tk9)) (np : m (Str.ofString "place") = some (.int place tp))
  (N : News h₀ L s.heap [(cC, oC), (cV, oV), (cK, oK), (lN, listOf vsN.toArray nN), (x0, instObj 88 dx0), (dx0, cont w a1 a2 a3 a4 size .none d0), (d0, od0), (x1, instObj 88 dx1), (dx1, cont w b1 b2 b3 b4 (size + more) .none d1), (d1, od1), (lC, listOf #[.ref x0, .ref x1] nC), (dV, oVd), (lM, listOf #[.int m0 tM0, .int m1 tM1] nM), (lU, listOf vsU.toArray nU), (I, oI)])
  (hcC : oC.data = .cell (some (.ref lC))) (hcV : oV.data = .cell (some (.ref dV))) (eC : cC = L + 1) (eV : cV = L + 2) (eK : cK = L + 3)
  (o1 : L + 3 < lN) (o2 : lN < dx0) (o3 : dx0 < x0) (o4 : x0 < d0) (o5 : d0 < dx1) (o6 : dx1 < x1) (o7 : x1 < d1) (o8 : d1 < lC) (o9 : lC < dV) (o10 : dV < lM) (oU : LCg.Off1 lU [(cC, oC), (cV, oV), (cK, oK), (lN, listOf vsN.toArray nN), (x0, instObj 88 dx0), (dx0, cont w a1 a2 a3 a4 size .none d0), (d0, od0), (x1, instObj 88 dx1), (dx1, cont w b1 b2 b3 b4 (size + more) .none d1), (d1, od1), (lC, listOf #[.ref x0, .ref x1] nC), (dV, oVd), (lM, listOf #[.int m0 tM0, .int m1 tM1] nM), (I, oI)]) (o14 : lM < I)
  (lo0 : (d0 == sysModules) = false) (lo1 : (d1 == sysModules) = false) (loV : (dV == sysModules) = false) (hk0 : kvs0.length ≤ 10) (hk1 : kvs1.length ≤ 10) (hkV : kvsV.length ≤ 10)
  (hd0 : od0.IsDictOf (PySem.intKind PySem.Challenge.rw_aj5039_02.row.prog w) kvs0) (hd1 : od1.IsDictOf (PySem.intKind PySem.Challenge.rw_aj5039_02.row.prog w) kvs1) (hdV : oVd.IsDictOf (PySem.intKind PySem.Challenge.rw_aj5039_02.row.prog w) kvsV)
  (hcK : oK.data = .cell (some (.int key tkey))) (hU : IntsAre vsU us) (hul : us.length ≤ 10)
  (q : ∀ h' tk lU' vsU' nU', Fr h₀ L h' (fun y => if y = Str.ofString "used" then some (.ref lU') else m y) → News h₀ L h' [(cC, oC), (cV, oV), (cK, oK), (lN, listOf vsN.toArray nN), (x0, instObj 88 dx0), (dx0, cont w a1 a2 a3 a4 size .none d0), (d0, od0), (x1, instObj 88 dx1), (dx1, cont w b1 b2 b3 b4 (size + more) .none d1), (d1, od1), (lC, listOf #[.ref x0, .ref x1] nC), (dV, oVd), (lM, listOf #[.int m0 tM0, .int m1 tM1] nM), (lU', listOf vsU'.toArray nU'), (I, oI)] → IntsAre vsU' (us.filter (fun n => decide (n ≠ key))) → (@Ne Nat lU' L ∧ LCg.Off1 lU' [(cC, oC), (cV, oV), (cK, oK), (lN, listOf vsN.toArray nN), (x0, instObj 88 dx0), (dx0, cont w a1 a2 a3 a4 size .none d0), (d0, od0), (x1, instObj 88 dx1), (dx1, cont w b1 b2 b3 b4 (size + more) .none d1), (d1, od1), (lC, listOf #[.ref x0, .ref x1] nC), (dV, oVd), (lM, listOf #[.int m0 tM0, .int m1 tM1] nM), (lU, listOf vsU.toArray nU), (I, oI)]) → Q .next { s with heap := h', toks := tk }) :
  wpAny (model PySem.Challenge.rw_aj5039_02.row.prog w) (callerA.deeper (lenv L fa cd)) (exec (loopBody.getD 4 (Stmt.Pass default)) (lenv L fa cd)) Q (fun _ _ => False) s := by
  revert X
  k_fill
  intro X
  subst eC eV eK
  obtain ⟨tsz, tmo, enm⟩ := nm.open
  have F1 := fr_eq F enm
  conv => arg 3; arg 1; whnf
  refine LCt.Assign_ListComp_T (F₀ := F1) (by rfl) (by with_unfolding_all rfl) (by with_unfolding_all rfl) (by decide) (by rfl) (by decide) (by rfl) (by rfl) (by rfl) ?_
  walk1
  refine LCt.CompSrcT.ledger (by rfl) (by k_asm) (by k_asm) (by k_mem) (by rw [List.size_toArray, IntsAre.length hU, sizeLine_eq]; omega) ?_
  intro g'
  refine' kci_list (fun l n => if n = key then l else l ++ [n]) hU (fun k' t' I' oI' C' oC' D' m' ys' l' h' tk' E' hk' hI' hC' hx' F' N' off' ne' hm => ?_) ?_ ?_
  · clear F1 F N
    k_steps
  · intro ys hys hle D h tk F' N' o1
    rw [foldl_ne, List.nil_append] at hys
    exact q h tk D ys ys.length (fr_eq F' fun y => by rw [enm]) (News.sub N' (by lcg_sub)) hys ⟨(N' _ (.head _)).2.1, o1⟩
  · intro l n; dsimp only; split <;> simp
end
end Mine
end
section
open PySem PySem.W PyProof.Rows PySem.Calls PyProof.V PySem.Spec
set_option maxRecDepth 100000
namespace Mine
local macro_rules | `(tactic| k_room) => `(tactic| first | ((try simp only [depth_under_make, depth_under_kw, depth_in1, depth_deeper, depth_caller, depth_mark, recursionLimit]); first | decide | omega))
local macro_rules | `(tactic| k_all) => `(tactic| assumption)
local macro_rules | `(tactic| walk_at "call ref") => `(tactic| (k_here; (with_reducible show wpAny _ _ (call (Value.ref 99) [Value.ref _, Value.int _ _]) _ _ _); k_dflt (first
  | (refine' L_got_hit ?X ?T ?B ?hA ?hf ?hke ?hh ?hdep ?hun ?F ?N ?I1 ?I2 ?U ?hod ?lo ?hlen ?ne1 ?ne2 ?ne3 ?hv ?_; (case F => k_asm); (case X => k_asm); (case T => k_asm); (case B => assumption); (case hA => exact rfl); (case hf => exact rfl); (case hke => exact rfl); (case hh => exact rfl); (case hdep => exact Nat.le_of_ble_eq_true rfl); (case hun => exact Nat.le_of_ble_eq_true rfl); (case N => k_asm); (case I1 => k_mem); (case I2 => k_mem); (case U => k_updF); (case hod => assumption); (case lo => assumption); (case hlen => assumption); (case ne1 => k_ne); (case ne2 => k_ne); (case ne3 => k_ne); (case hv => assumption); k_whole; intro l' h' tk' od' F' N' l1 hd'; (try dsimp only at N'); (try k_lt l1))
  | (refine' L_got_missR ?X ?T ?B ?hA ?hf ?hke ?hh ?hdep ?hun ?F ?N ?I1 ?I2 ?I3 ?hod ?lo ?hlen ?ne1 ?ne2 ?ne3 ?hv ?_; (case F => k_asm); (case X => k_asm); (case T => k_asm); (case B => assumption); (case hA => exact rfl); (case hf => exact rfl); (case hke => exact rfl); (case hh => exact rfl); (case hdep => exact Nat.le_of_ble_eq_true rfl); (case hun => exact Nat.le_of_ble_eq_true rfl); (case N => k_asm); (case I1 => k_mem); (case I2 => k_mem); (case I3 => k_mem); (case hod => assumption); (case lo => assumption); (case hlen => assumption); (case ne1 => k_ne); (case ne2 => k_ne); (case ne3 => k_ne); (case hv => assumption); k_whole; intro l' h' tk' F' N' l1; (try dsimp only at N'); (try k_lt l1)))))
local macro_rules | `(tactic| walk_at "call ref") => `(tactic| (k_here; (with_reducible show wpAny _ _ (call (Value.ref 106) [Value.ref _, Value.int _ _]) _ _ _); k_dflt (refine' L_delB ?X ?T ?B ?hA ?hf ?hke ?hh ?hdep ?hun ?F ?N ?I1 ?I2 ?U ?hod ?lo ?hlen ?ne1 ?ne2 ?ne3 ?hb ?_;  (case F => k_asm); (case X => k_asm); (case T => k_asm); (case B => assumption); (case hA => exact rfl); (case hf => exact rfl); (case hke => exact rfl); (case hh => exact rfl); (case hdep => exact Nat.le_of_ble_eq_true rfl); (case hun => exact Nat.le_of_ble_eq_true rfl); (case N => k_asm); (case I1 => k_mem); (case I2 => k_mem); (case U => k_updF); (case hod => assumption); (case lo => assumption); (case hlen => assumption); (case ne1 => k_ne); (case ne2 => k_ne); (case ne3 => k_ne); (case hb => assumption); k_whole; intro h' tk' od' F' N' hd'; (try dsimp only at N'))))
local macro_rules | `(tactic| walk_at "call ref") => `(tactic| (k_here; (with_reducible show wpAny _ _ (call (Value.ref 85) [Value.ref _]) _ _ _); k_dflt (refine' L_keysR ?X ?T ?B ?hA ?hf ?hke ?hh ?hdep ?hun ?F ?N ?I1 ?I2 ?I3 ?hod ?lo ?hlen ?ne1 ?ne2 ?ne3 ?_; (case F => k_asm); (case X => k_asm); (case T => k_asm); (case B => assumption); (case hA => exact rfl); (case hf => exact rfl); (case hke => exact rfl); (case hh => exact rfl); (case hdep => exact Nat.le_of_ble_eq_true rfl); (case hun => exact Nat.le_of_ble_eq_true rfl); (case N => k_asm); (case I1 => k_mem); (case I2 => k_mem); (case I3 => k_mem); (case hod => assumption); (case lo => assumption); (case hlen => assumption); (case ne1 => k_ne); (case ne2 => k_ne); (case ne3 => k_ne); k_whole; intro l' so' h' tk' F' N' l1 hs'; (try dsimp only at N'); (try k_lt l1))))
local macro_rules | `(tactic| walk_at "call builtin:len") => `(tactic| (k_here; (with_reducible show wpAny _ _ (call (Value.builtin "len") [Value.ref _]) _ _ _); k_dflt (refine' L_lenR ?X ?T ?B ?hA ?hf ?hke ?hh ?hdep ?hun ?F ?N ?I1 ?I2 ?I3 ?hod ?lo ?hlen ?ne1 ?ne2 ?ne3 ?_; (case F => k_asm); (case N => k_asm); (case I1 => k_mem); (case X => k_asm); (case T => k_asm); (case B => assumption); (case hA => exact rfl); (case hf => exact rfl); (case hke => exact rfl); (case hh => exact rfl); (case hdep => exact Nat.le_of_ble_eq_true rfl); (case hun => exact Nat.le_of_ble_eq_true rfl); (case I2 => k_mem); (case I3 => k_mem); (case hod => assumption); (case lo => assumption); (case hlen => assumption); (case ne1 => k_ne); (case ne2 => k_ne); (case ne3 => k_ne); k_whole; intro u' h' tk' F' N')))
local macro_rules | `(tactic| walk_at "setItem ref int") => `(tactic| (k_here; k_dflt (refine' kda_set (knd := PySem.intKind _ _) ?F ?N ?U ?d (intKind_is _ _ _ _) ?z ?_; (case F => k_asm); (case N => k_asm); (case U => k_updF); (case d => assumption); (case z => rw [sizeLine_eq]; omega); k_whole); intro h' o' F' N' hd'; (try dsimp only at N')))
local macro_rules | `(tactic| walk_at "setItem ref int") => `(tactic| (k_here; k_dflt (refine' L_set ?X ?T ?B ?hA ?hf ?hke ?hh ?hdep ?hun ?F ?N ?I1 ?I2 ?U ?hod ?lo ?hlen ?ne1 ?ne2 ?ne3 ?_; (case F => k_asm); (case N => k_asm); (case I1 => k_mem); (case X => k_asm); (case T => k_asm); (case B => assumption); (case hA => exact rfl); (case hf => exact rfl); (case hke => exact rfl); (case hh => exact rfl); (case hdep => exact Nat.le_of_ble_eq_true rfl); (case hun => exact Nat.le_of_ble_eq_true rfl); (case I2 => k_mem); (case U => k_updF); (case hod => assumption); (case lo => assumption); (case hlen => assumption); (case ne1 => k_ne); (case ne2 => k_ne); (case ne3 => k_ne); k_whole; intro h' tk' od' F' N' hd'; (try dsimp only at N'))))
local macro_rules | `(tactic| walk_at "compareOp In int ref") => `(tactic| (k_here; k_dflt (refine' lru_inB ?N ?a ?s ?l ?b ?_; (case N => k_asm); (case a => k_mem); (case s => assumption); (case l => rw [List.length_map]; omega); (case b => assumption); k_whole)))
local macro_rules | `(tactic| walk_at "compareOp In int ref") => `(tactic| (k_here; k_dflt (refine' kda_in (knd := PySem.intKind _ _) ?N ?a ?d ?lo (intKind_is _ _ _ _) _ ?b ?_; (case N => k_asm); (case a => k_mem); (case d => assumption); (case lo => assumption); (case b => assumption); k_whole)))
local macro_rules | `(tactic| walk_at "compareOp NotIn int ref") => `(tactic| (k_here; k_dflt (refine' kdg_notin (knd := PySem.intKind _ _) ?N ?a ?d ?lo (intKind_is _ _ _ _) _ ?b ?_; (case N => k_asm); (case a => k_mem); (case d => assumption); (case lo => assumption); (case b => assumption); k_whole)))
local macro_rules | `(tactic| walk_at "subscriptTail") => `(tactic| (k_here; (with_reducible show wpAny _ _ (subscriptTail _ _ (Value.ref _) (Value.int _ _)) _ _ _); k_dflt (refine' kda_item (knd := PySem.intKind _ _) ?N ?a ?d (intKind_is _ _ _ _) ?v ?_; (case N => k_asm); (case a => k_mem); (case d => assumption); (case v => assumption); k_whole)))
local macro_rules | `(tactic| walk_at "compareOp LtE ref ref") => `(tactic| (k_here; k_dflt (refine' lru_le ?u ?N ?a ?b ?s ?s' ?l ?l' ?le ?sub ?_; (case u => exact Nat.le_of_ble_eq_true rfl); (case N => k_asm); (case a => k_mem); (case b => k_mem); (case s => assumption); (case s' => assumption); (case l => first | assumption | omega); (case l' => first | assumption | omega); (case le => first | assumption | omega); (case sub => first | assumption | exact fun _ h => h); k_whole)))
local macro_rules | `(tactic| walk_at "compareOp NotEq ref ref") => `(tactic| (k_here; k_dflt (refine' lru_ne ?u ?N ?a ?b ?s ?s' ?l ?l' ?le ?sub ?_; (case u => exact Nat.le_of_ble_eq_true rfl); (case N => k_asm); (case a => k_mem); (case b => k_mem); (case s => assumption); (case s' => assumption); (case l => first | assumption | omega); (case l' => first | assumption | omega); (case le => first | assumption | omega); (case sub => first | assumption | exact fun _ h => h); k_whole)))
local macro_rules | `(tactic| walk_at "call type:set") => `(tactic| (k_here; (with_reducible show wpAny _ _ (call (Value.type "set") [Value.ref _]) _ _ _); k_dflt (first
  | (refine' lru_keys_set ?hh ?F ?N ?v ?p ?d ?z ?_; (case hh => first | exact rfl | assumption); (case F => k_asm); (case N => k_asm); (case v => k_mem); (case p => k_mem); (case d => k_asm); (case z => omega); k_whole; intro D' h' tk' so' F' N' l1 hs'; (try k_lt l1))
  | (refine' lru_list_setE ?hh ?F ?N ?v ?i ?e ?n ?z ?_; (case hh => first | exact rfl | assumption); (case F => k_asm); (case N => k_asm); (case v => k_mem); (case i => k_asm); (case e => assumption); (case n => assumption); (case z => assumption); k_whole; intro D' h' tk' so' F' N' l1 hs'; (try k_lt l1)))))
local macro_rules | `(tactic| lcg_off) => `(tactic| assumption)
local macro_rules | `(tactic| walk_at "CompRest") => `(tactic| (with_unfolding_all (refine LCg.CompRest.succ ?_; intro v' I' oI' C' oC' D' m' h' tk' E' hv' hC' hx' F' N' off' ne'; (first | lcg_open hv' | (obtain ⟨t9', hv9'⟩ := hv'; subst hv9')))))
local macro_rules | `(tactic| walk_at "ite") => `(tactic| (k_here; first | refine ite_pos (by assumption) ?_ | refine ite_neg (ne_true_of (by assumption)) ?_ | refine ite_neg (by simp; done) ?_ | refine ite_pos (by simp; done) ?_ | refine ite_neg (by simp; omega) ?_))
local macro_rules | `(tactic| walk_at "pyIter ref") => `(tactic| ((with_reducible show wpAny _ _ (pyIter (Value.ref _)) (fun it s₂ => LoopAtV _ _ _ _ _ _ _ _ _ it s₂) _ _); k_listUnr))
local macro_rules | `(tactic| walk_at "exec For Name Name cons nil") => `(tactic| (k_here; k_dflt (refine' For_F ?F ?x ?p ?_ ?s ?E; (case F => k_asm); (case x => rfl); (case p => rfl); (case s => intro _; rfl); (case E => exact PassesOwn.never); k_whole)))
local macro_rules | `(tactic| walk_at "call builtin:dict.pop") => `(tactic| (k_here; (with_reducible show wpAny _ _ (call (Value.builtin "dict.pop") [Value.ref _, Value.int _ _, _]) _ _ _); k_dflt (refine' lru_popd ?F ?N ?U ?d ?lo ?z ?_; (case F => k_asm); (case N => k_asm); (case U => k_updF); (case d => assumption); (case lo => assumption); (case z => rw [sizeLine_eq]; omega); k_whole); intro v' h' o' F' N' hd'; (try dsimp only at N')))
local macro_rules | `(tactic| walk_at "FinA") => `(tactic| ((unfold LCg.FinA); intro D' h' tk' F' N' o1'; (try simp only [List.nil_append, List.cons_append] at N'); (try dsimp only)))
local macro_rules | `(tactic| k_ne) => `(tactic| first | assumption | exact off1_ne (by assumption) (by k_mem) | exact (off1_ne (by assumption) (by k_mem)).symm)
local macro_rules | `(tactic| walk_at "subscriptTail Name Slice ref ref") => `(tactic| (k_here; (with_reducible show wpAny _ _ (subscriptTail _ (PySem.Expr.Slice _ _ none _) (Value.ref _) (Value.ref _)) _ _ _); k_dflt (refine' kmk_slice_ints ?F ?N ?l ?p ?q ?i ?m ?c ?_ ?s ?t ?z; (case F => k_asm); (case N => k_asm); (case l => kmk_list); (case p => kmk_part); (case q => kmk_part); (case i => assumption); (case m => exact kmk_from (by assumption) (by assumption)); (case c => exact List.length_drop ..); (case s => with_unfolding_all rfl); (case t => kmk_pure); (case z => assumption)); intro D' ws' h' F' N' l1 hI' hC' hL'; (try k_lt l1)))
local macro_rules | `(tactic| walk_at "call builtin:dict.pop") => `(tactic| (k_here; dsimp only [List.cons_append, List.nil_append]))
local macro_rules | `(tactic| walk_at "call builtin:list.append") => `(tactic| (k_here; dsimp only [List.cons_append, List.nil_append]))

section
variable {w : World} {mg mb : Str → Option Value} {mean : ExcName → Option Value} {h₀ : Heap} {L fa cd : Nat} {m : Str → Option Value} {s : Shared} {Q : Flow → Shared → Prop}
  {cC cV cK lN x0 dx0 d0 x1 dx1 d1 lC dV lM lU I lW s0 s1 : Nat} {oC oV oK od0 od1 oVd oI so0 so1 : Obj} {vsN vsU : List Value} {ns us : List Int} {nN nM nU nC nW : Nat} {a1 a2 a3 a4 b1 b2 b3 b4 tp tM0 tM1 tk9 tkey tv : Tok} {place size more m0 m1 kind key vi : Int} {kvs0 kvs1 kvsV : List (Int × Value)}
set_option maxHeartbeats 16000000 in
theorem seg3bT
  (X : (hd.heap_39 w.params).In h₀) (T : Top topProg loose mean mg mb h₀) (B : Below callerA h₀ [] h₀)
  (F : Fr h₀ L s.heap m) (nm : Nm lN lM lU size more m) (nk : m (Str.ofString "kind") = some (.int kind tk9))
  (N : News h₀ L s.heap [(cC, oC), (cV, oV), (cK, oK), (lN, listOf vsN.toArray nN), (x0, instObj 88 dx0), (dx0, cont w a1 a2 a3 a4 size .none d0), (d0, od0), (x1, instObj 88 dx1), (dx1, cont w b1 b2 b3 b4 (size + more) .none d1), (d1, od1), (lC, listOf #[.ref x0, .ref x1] nC), (dV, oVd), (lM, listOf #[.int m0 tM0, .int m1 tM1] nM), (lU, listOf vsU.toArray nU), (I, oI)])
  (hcC : oC.data = .cell (some (.ref lC))) (hcV : oV.data = .cell (some (.ref dV))) (eC : cC = L + 1) (eV : cV = L + 2) (eK : cK = L + 3)
  (o1 : L + 3 < lN) (o2 : lN < dx0) (o3 : dx0 < x0) (o4 : x0 < d0) (o5 : d0 < dx1) (o6 : dx1 < x1) (o7 : x1 < d1) (o8 : d1 < lC) (o9 : lC < dV) (o10 : dV < lM) (oU : LCg.Off1 lU [(cC, oC), (cV, oV), (cK, oK), (lN, listOf vsN.toArray nN), (x0, instObj 88 dx0), (dx0, cont w a1 a2 a3 a4 size .none d0), (d0, od0), (x1, instObj 88 dx1), (dx1, cont w b1 b2 b3 b4 (size + more) .none d1), (d1, od1), (lC, listOf #[.ref x0, .ref x1] nC), (dV, oVd), (lM, listOf #[.int m0 tM0, .int m1 tM1] nM), (I, oI)]) (o14 : lM < I)
  (lo0 : (d0 == sysModules) = false) (lo1 : (d1 == sysModules) = false) (loV : (dV == sysModules) = false) (hk0 : kvs0.length ≤ 10) (hk1 : kvs1.length ≤ 10) (hkV : kvsV.length ≤ 10)
  (hd0 : od0.IsDictOf (PySem.intKind PySem.Challenge.rw_aj5039_02.row.prog w) kvs0) (hd1 : od1.IsDictOf (PySem.intKind PySem.Challenge.rw_aj5039_02.row.prog w) kvs1) (hdV : oVd.IsDictOf (PySem.intKind PySem.Challenge.rw_aj5039_02.row.prog w) kvsV)
  (hcK : oK.data = .cell (some (.int key tkey))) (hul : vsU.length ≤ 10) (kn : decide (kind ≠ 3) = true) (kn2 : (!(kind == 3)) = true) (kn3 : (kind != 3) = true) (kn4 : (!decide (kind = 3)) = true)
  (q : ∀ h' tk nU', Fr h₀ L h' m → News h₀ L h' [(cC, oC), (cV, oV), (cK, oK), (lN, listOf vsN.toArray nN), (x0, instObj 88 dx0), (dx0, cont w a1 a2 a3 a4 size .none d0), (d0, od0), (x1, instObj 88 dx1), (dx1, cont w b1 b2 b3 b4 (size + more) .none d1), (d1, od1), (lC, listOf #[.ref x0, .ref x1] nC), (dV, oVd), (lM, listOf #[.int m0 tM0, .int m1 tM1] nM), (lU, listOf (vsU.toArray.push (Value.int key tkey)) nU'), (I, oI)] → Q .next { s with heap := h', toks := tk }) :
  wpAny (model PySem.Challenge.rw_aj5039_02.row.prog w) (callerA.deeper (lenv L fa cd)) (exec (loopBody.getD 5 (Stmt.Pass default)) (lenv L fa cd)) Q (fun _ _ => False) s := by
  revert X
  k_fill
  intro X
  subst eC eV eK
  obtain ⟨tsz, tmo, enm⟩ := nm.open
  have F1 := fr_eq F enm
  have e2 := (enm (Str.ofString "kind")).trans nk
  have F3 := fr_put (m := names02 lN lM lU size more tsz tmo m) (x := Str.ofString "kind") (v := .int kind tk9) e2 F1
  clear F F1
  conv => arg 3; arg 1; whnf
  k_steps
  all_goals first | exact q _ _ _ (fr_eq (by assumption) fun y => ((if_name e2 y).trans (enm y)).symm) (News.sub (by assumption) (by lcg_sub))
set_option maxHeartbeats 16000000 in
theorem seg3bF
  (X : (hd.heap_39 w.params).In h₀) (T : Top topProg loose mean mg mb h₀) (B : Below callerA h₀ [] h₀)
  (F : Fr h₀ L s.heap m) (nm : Nm lN lM lU size more m) (nk : m (Str.ofString "kind") = some (.int kind tk9))
  (N : News h₀ L s.heap [(cC, oC), (cV, oV), (cK, oK), (lN, listOf vsN.toArray nN), (x0, instObj 88 dx0), (dx0, cont w a1 a2 a3 a4 size .none d0), (d0, od0), (x1, instObj 88 dx1), (dx1, cont w b1 b2 b3 b4 (size + more) .none d1), (d1, od1), (lC, listOf #[.ref x0, .ref x1] nC), (dV, oVd), (lM, listOf #[.int m0 tM0, .int m1 tM1] nM), (lU, listOf vsU.toArray nU), (I, oI)])
  (hcC : oC.data = .cell (some (.ref lC))) (hcV : oV.data = .cell (some (.ref dV))) (eC : cC = L + 1) (eV : cV = L + 2) (eK : cK = L + 3)
  (o1 : L + 3 < lN) (o2 : lN < dx0) (o3 : dx0 < x0) (o4 : x0 < d0) (o5 : d0 < dx1) (o6 : dx1 < x1) (o7 : x1 < d1) (o8 : d1 < lC) (o9 : lC < dV) (o10 : dV < lM) (oU : LCg.Off1 lU [(cC, oC), (cV, oV), (cK, oK), (lN, listOf vsN.toArray nN), (x0, instObj 88 dx0), (dx0, cont w a1 a2 a3 a4 size .none d0), (d0, od0), (x1, instObj 88 dx1), (dx1, cont w b1 b2 b3 b4 (size + more) .none d1), (d1, od1), (lC, listOf #[.ref x0, .ref x1] nC), (dV, oVd), (lM, listOf #[.int m0 tM0, .int m1 tM1] nM), (I, oI)]) (o14 : lM < I)
  (lo0 : (d0 == sysModules) = false) (lo1 : (d1 == sysModules) = false) (loV : (dV == sysModules) = false) (hk0 : kvs0.length ≤ 10) (hk1 : kvs1.length ≤ 10) (hkV : kvsV.length ≤ 10)
  (hd0 : od0.IsDictOf (PySem.intKind PySem.Challenge.rw_aj5039_02.row.prog w) kvs0) (hd1 : od1.IsDictOf (PySem.intKind PySem.Challenge.rw_aj5039_02.row.prog w) kvs1) (hdV : oVd.IsDictOf (PySem.intKind PySem.Challenge.rw_aj5039_02.row.prog w) kvsV)
  (hcK : oK.data = .cell (some (.int key tkey))) (hul : vsU.length ≤ 10) (kn : decide (kind ≠ 3) = false) (kn2 : (!(kind == 3)) = false) (kn3 : (kind != 3) = false) (kn4 : (!decide (kind = 3)) = false)
  (q : ∀ h' tk nU', Fr h₀ L h' m → News h₀ L h' [(cC, oC), (cV, oV), (cK, oK), (lN, listOf vsN.toArray nN), (x0, instObj 88 dx0), (dx0, cont w a1 a2 a3 a4 size .none d0), (d0, od0), (x1, instObj 88 dx1), (dx1, cont w b1 b2 b3 b4 (size + more) .none d1), (d1, od1), (lC, listOf #[.ref x0, .ref x1] nC), (dV, oVd), (lM, listOf #[.int m0 tM0, .int m1 tM1] nM), (lU, listOf vsU.toArray nU'), (I, oI)] → Q .next { s with heap := h', toks := tk }) :
  wpAny (model PySem.Challenge.rw_aj5039_02.row.prog w) (callerA.deeper (lenv L fa cd)) (exec (loopBody.getD 5 (Stmt.Pass default)) (lenv L fa cd)) Q (fun _ _ => False) s := by
  revert X
  k_fill
  intro X
  subst eC eV eK
  obtain ⟨tsz, tmo, enm⟩ := nm.open
  have F1 := fr_eq F enm
  have e2 := (enm (Str.ofString "kind")).trans nk
  have F3 := fr_put (m := names02 lN lM lU size more tsz tmo m) (x := Str.ofString "kind") (v := .int kind tk9) e2 F1
  clear F F1
  conv => arg 3; arg 1; whnf
  k_steps
  all_goals first | exact q _ _ _ (fr_eq (by assumption) fun y => ((if_name e2 y).trans (enm y)).symm) (News.sub (by assumption) (by lcg_sub))
end
end Mine
end
section
open PySem PySem.W PyProof.Rows PySem.Calls PyProof.V PySem.Spec
set_option maxRecDepth 100000
namespace Mine
local macro_rules | `(tactic| k_room) => `(tactic| first | ((try simp only [depth_under_make, depth_under_kw, depth_in1, depth_deeper, depth_caller, depth_mark, recursionLimit]); first | decide | omega))
local macro_rules | `(tactic| k_all) => `(tactic| assumption)
local macro_rules | `(tactic| walk_at "call ref") => `(tactic| (k_here; (with_reducible show wpAny _ _ (call (Value.ref 99) [Value.ref _, Value.int _ _]) _ _ _); k_dflt (first
  | (refine' L_got_hit ?X ?T ?B ?hA ?hf ?hke ?hh ?hdep ?hun ?F ?N ?I1 ?I2 ?U ?hod ?lo ?hlen ?ne1 ?ne2 ?ne3 ?hv ?_; (case F => k_asm); (case X => k_asm); (case T => k_asm); (case B => assumption); (case hA => exact rfl); (case hf => exact rfl); (case hke => exact rfl); (case hh => exact rfl); (case hdep => exact Nat.le_of_ble_eq_true rfl); (case hun => exact Nat.le_of_ble_eq_true rfl); (case N => k_asm); (case I1 => k_mem); (case I2 => k_mem); (case U => k_updF); (case hod => assumption); (case lo => assumption); (case hlen => assumption); (case ne1 => k_ne); (case ne2 => k_ne); (case ne3 => k_ne); (case hv => assumption); k_whole; intro l' h' tk' od' F' N' l1 hd'; (try dsimp only at N'); (try k_lt l1))
  | (refine' L_got_missR ?X ?T ?B ?hA ?hf ?hke ?hh ?hdep ?hun ?F ?N ?I1 ?I2 ?I3 ?hod ?lo ?hlen ?ne1 ?ne2 ?ne3 ?hv ?_; (case F => k_asm); (case X => k_asm); (case T => k_asm); (case B => assumption); (case hA => exact rfl); (case hf => exact rfl); (case hke => exact rfl); (case hh => exact rfl); (case hdep => exact Nat.le_of_ble_eq_true rfl); (case hun => exact Nat.le_of_ble_eq_true rfl); (case N => k_asm); (case I1 => k_mem); (case I2 => k_mem); (case I3 => k_mem); (case hod => assumption); (case lo => assumption); (case hlen => assumption); (case ne1 => k_ne); (case ne2 => k_ne); (case ne3 => k_ne); (case hv => assumption); k_whole; intro l' h' tk' F' N' l1; (try dsimp only at N'); (try k_lt l1)))))
local macro_rules | `(tactic| walk_at "call ref") => `(tactic| (k_here; (with_reducible show wpAny _ _ (call (Value.ref 106) [Value.ref _, Value.int _ _]) _ _ _); k_dflt (refine' L_delB ?X ?T ?B ?hA ?hf ?hke ?hh ?hdep ?hun ?F ?N ?I1 ?I2 ?U ?hod ?lo ?hlen ?ne1 ?ne2 ?ne3 ?hb ?_;  (case F => k_asm); (case X => k_asm); (case T => k_asm); (case B => assumption); (case hA => exact rfl); (case hf => exact rfl); (case hke => exact rfl); (case hh => exact rfl); (case hdep => exact Nat.le_of_ble_eq_true rfl); (case hun => exact Nat.le_of_ble_eq_true rfl); (case N => k_asm); (case I1 => k_mem); (case I2 => k_mem); (case U => k_updF); (case hod => assumption); (case lo => assumption); (case hlen => assumption); (case ne1 => k_ne); (case ne2 => k_ne); (case ne3 => k_ne); (case hb => assumption); k_whole; intro h' tk' od' F' N' hd'; (try dsimp only at N'))))
local macro_rules | `(tactic| walk_at "call ref") => `(tactic| (k_here; (with_reducible show wpAny _ _ (call (Value.ref 85) [Value.ref _]) _ _ _); k_dflt (refine' L_keysR ?X ?T ?B ?hA ?hf ?hke ?hh ?hdep ?hun ?F ?N ?I1 ?I2 ?I3 ?hod ?lo ?hlen ?ne1 ?ne2 ?ne3 ?_; (case F => k_asm); (case X => k_asm); (case T => k_asm); (case B => assumption); (case hA => exact rfl); (case hf => exact rfl); (case hke => exact rfl); (case hh => exact rfl); (case hdep => exact Nat.le_of_ble_eq_true rfl); (case hun => exact Nat.le_of_ble_eq_true rfl); (case N => k_asm); (case I1 => k_mem); (case I2 => k_mem); (case I3 => k_mem); (case hod => assumption); (case lo => assumption); (case hlen => assumption); (case ne1 => k_ne); (case ne2 => k_ne); (case ne3 => k_ne); k_whole; intro l' so' h' tk' F' N' l1 hs'; (try dsimp only at N'); (try k_lt l1))))
local macro_rules | `(tactic| walk_at "call builtin:len") => `(tactic| (k_here; (with_reducible show wpAny _ _ (call (Value.builtin "len") [Value.ref _]) _ _ _); k_dflt (refine' L_lenR ?X ?T ?B ?hA ?hf ?hke ?hh ?hdep ?hun ?F ?N ?I1 ?I2 ?I3 ?hod ?lo ?hlen ?ne1 ?ne2 ?ne3 ?_; (case F => k_asm); (case N => k_asm); (case I1 => k_mem); (case X => k_asm); (case T => k_asm); (case B => assumption); (case hA => exact rfl); (case hf => exact rfl); (case hke => exact rfl); (case hh => exact rfl); (case hdep => exact Nat.le_of_ble_eq_true rfl); (case hun => exact Nat.le_of_ble_eq_true rfl); (case I2 => k_mem); (case I3 => k_mem); (case hod => assumption); (case lo => assumption); (case hlen => assumption); (case ne1 => k_ne); (case ne2 => k_ne); (case ne3 => k_ne); k_whole; intro u' h' tk' F' N')))
local macro_rules | `(tactic| walk_at "setItem ref int") => `(tactic| (k_here; k_dflt (refine' kda_set (knd := PySem.intKind _ _) ?F ?N ?U ?d (intKind_is _ _ _ _) ?z ?_; (case F => k_asm); (case N => k_asm); (case U => k_updF); (case d => assumption); (case z => rw [sizeLine_eq]; omega); k_whole); intro h' o' F' N' hd'; (try dsimp only at N')))
local macro_rules | `(tactic| walk_at "setItem ref int") => `(tactic| (k_here; k_dflt (refine' L_set ?X ?T ?B ?hA ?hf ?hke ?hh ?hdep ?hun ?F ?N ?I1 ?I2 ?U ?hod ?lo ?hlen ?ne1 ?ne2 ?ne3 ?_; (case F => k_asm); (case N => k_asm); (case I1 => k_mem); (case X => k_asm); (case T => k_asm); (case B => assumption); (case hA => exact rfl); (case hf => exact rfl); (case hke => exact rfl); (case hh => exact rfl); (case hdep => exact Nat.le_of_ble_eq_true rfl); (case hun => exact Nat.le_of_ble_eq_true rfl); (case I2 => k_mem); (case U => k_updF); (case hod => assumption); (case lo => assumption); (case hlen => assumption); (case ne1 => k_ne); (case ne2 => k_ne); (case ne3 => k_ne); k_whole; intro h' tk' od' F' N' hd'; (try dsimp only at N'))))
local macro_rules | `(tactic| walk_at "compareOp In int ref") => `(tactic| (k_here; k_dflt (refine' lru_inB ?N ?a ?s ?l ?b ?_; (case N => k_asm); (case a => k_mem); (case s => assumption); (case l => rw [List.length_map]; omega); (case b => assumption); k_whole)))
local macro_rules | `(tactic| walk_at "compareOp In int ref") => `(tactic| (k_here; k_dflt (refine' kda_in (knd := PySem.intKind _ _) ?N ?a ?d ?lo (intKind_is _ _ _ _) _ ?b ?_; (case N => k_asm); (case a => k_mem); (case d => assumption); (case lo => assumption); (case b => assumption); k_whole)))
local macro_rules | `(tactic| walk_at "compareOp NotIn int ref") => `(tactic| (k_here; k_dflt (refine' kdg_notin (knd := PySem.intKind _ _) ?N ?a ?d ?lo (intKind_is _ _ _ _) _ ?b ?_; (case N => k_asm); (case a => k_mem); (case d => assumption); (case lo => assumption); (case b => assumption); k_whole)))
local macro_rules | `(tactic| walk_at "subscriptTail") => `(tactic| (k_here; (with_reducible show wpAny _ _ (subscriptTail _ _ (Value.ref _) (Value.int _ _)) _ _ _); k_dflt (refine' kda_item (knd := PySem.intKind _ _) ?N ?a ?d (intKind_is _ _ _ _) ?v ?_; (case N => k_asm); (case a => k_mem); (case d => assumption); (case v => assumption); k_whole)))
local macro_rules | `(tactic| walk_at "compareOp LtE ref ref") => `(tactic| (k_here; k_dflt (refine' lru_le ?u ?N ?a ?b ?s ?s' ?l ?l' ?le ?sub ?_; (case u => exact Nat.le_of_ble_eq_true rfl); (case N => k_asm); (case a => k_mem); (case b => k_mem); (case s => assumption); (case s' => assumption); (case l => first | assumption | omega); (case l' => first | assumption | omega); (case le => first | assumption | omega); (case sub => first | assumption | exact fun _ h => h); k_whole)))
local macro_rules | `(tactic| walk_at "compareOp NotEq ref ref") => `(tactic| (k_here; k_dflt (refine' lru_ne ?u ?N ?a ?b ?s ?s' ?l ?l' ?le ?sub ?_; (case u => exact Nat.le_of_ble_eq_true rfl); (case N => k_asm); (case a => k_mem); (case b => k_mem); (case s => assumption); (case s' => assumption); (case l => first | assumption | omega); (case l' => first | assumption | omega); (case le => first | assumption | omega); (case sub => first | assumption | exact fun _ h => h); k_whole)))
local macro_rules | `(tactic| walk_at "call type:set") => `(tactic| (k_here; (with_reducible show wpAny _ _ (call (Value.type "set") [Value.ref _]) _ _ _); k_dflt (first
  | (refine' lru_keys_set ?hh ?F ?N ?v ?p ?d ?z ?_; (case hh => first | exact rfl | assumption); (case F => k_asm); (case N => k_asm); (case v => k_mem); (case p => k_mem); (case d => k_asm); (case z => omega); k_whole; intro D' h' tk' so' F' N' l1 hs'; (try k_lt l1))
  | (refine' lru_list_setE ?hh ?F ?N ?v ?i ?e ?n ?z ?_; (case hh => first | exact rfl | assumption); (case F => k_asm); (case N => k_asm); (case v => k_mem); (case i => k_asm); (case e => assumption); (case n => assumption); (case z => assumption); k_whole; intro D' h' tk' so' F' N' l1 hs'; (try k_lt l1)))))
local macro_rules | `(tactic| lcg_off) => `(tactic| assumption)
local macro_rules | `(tactic| walk_at "CompRest") => `(tactic| (with_unfolding_all (refine LCg.CompRest.succ ?_; intro v' I' oI' C' oC' D' m' h' tk' E' hv' hC' hx' F' N' off' ne'; (first | lcg_open hv' | (obtain ⟨t9', hv9'⟩ := hv'; subst hv9')))))
local macro_rules | `(tactic| walk_at "ite") => `(tactic| (k_here; first | refine ite_pos (by assumption) ?_ | refine ite_neg (ne_true_of (by assumption)) ?_ | refine ite_neg (by simp; done) ?_ | refine ite_pos (by simp; done) ?_ | refine ite_neg (by simp; omega) ?_))
local macro_rules | `(tactic| walk_at "pyIter ref") => `(tactic| ((with_reducible show wpAny _ _ (pyIter (Value.ref _)) (fun it s₂ => LoopAtV _ _ _ _ _ _ _ _ _ it s₂) _ _); k_listUnr))
local macro_rules | `(tactic| walk_at "exec For Name Name cons nil") => `(tactic| (k_here; k_dflt (refine' For_F ?F ?x ?p ?_ ?s ?E; (case F => k_asm); (case x => rfl); (case p => rfl); (case s => intro _; rfl); (case E => exact PassesOwn.never); k_whole)))
local macro_rules | `(tactic| walk_at "call builtin:dict.pop") => `(tactic| (k_here; (with_reducible show wpAny _ _ (call (Value.builtin "dict.pop") [Value.ref _, Value.int _ _, _]) _ _ _); k_dflt (refine' lru_popd ?F ?N ?U ?d ?lo ?z ?_; (case F => k_asm); (case N => k_asm); (case U => k_updF); (case d => assumption); (case lo => assumption); (case z => rw [sizeLine_eq]; omega); k_whole); intro v' h' o' F' N' hd'; (try dsimp only at N')))
local macro_rules | `(tactic| walk_at "FinA") => `(tactic| ((unfold LCg.FinA); intro D' h' tk' F' N' o1'; (try simp only [List.nil_append, List.cons_append] at N'); (try dsimp only)))
local macro_rules | `(tactic| k_ne) => `(tactic| first | assumption | exact off1_ne (by assumption) (by k_mem) | exact (off1_ne (by assumption) (by k_mem)).symm)
local macro_rules | `(tactic| walk_at "subscriptTail Name Slice ref ref") => `(tactic| (k_here; (with_reducible show wpAny _ _ (subscriptTail _ (PySem.Expr.Slice _ _ none _) (Value.ref _) (Value.ref _)) _ _ _); k_dflt (refine' kmk_slice_ints ?F ?N ?l ?p ?q ?i ?m ?c ?_ ?s ?t ?z; (case F => k_asm); (case N => k_asm); (case l => kmk_list); (case p => kmk_part); (case q => kmk_part); (case i => assumption); (case m => exact kmk_from (by assumption) (by assumption)); (case c => exact List.length_drop ..); (case s => with_unfolding_all rfl); (case t => kmk_pure); (case z => assumption)); intro D' ws' h' F' N' l1 hI' hC' hL'; (try k_lt l1)))
local macro_rules | `(tactic| walk_at "call builtin:dict.pop") => `(tactic| (k_here; dsimp only [List.cons_append, List.nil_append]))
local macro_rules | `(tactic| walk_at "call builtin:list.append") => `(tactic| (k_here; dsimp only [List.cons_append, List.nil_append]))

section
variable {w : World} {mg mb : Str → Option Value} {mean : ExcName → Option Value} {h₀ : Heap} {L fa cd : Nat} {m : Str → Option Value} {s : Shared} {Q : Flow → Shared → Prop}
  {cC cV cK lN x0 dx0 d0 x1 dx1 d1 lC dV lM lU I lW s0 s1 : Nat} {oC oV oK od0 od1 oVd oI so0 so1 : Obj} {vsN vsU : List Value} {ns us : List Int} {nN nM nU nC nW : Nat} {a1 a2 a3 a4 b1 b2 b3 b4 tp tM0 tM1 tk9 tkey tv : Tok} {place size more m0 m1 kind key vi : Int} {kvs0 kvs1 kvsV : List (Int × Value)}
set_option maxHeartbeats 16000000 in
theorem seg3c1 
  (X : (hd.heap_39 w.params).In h₀) (T : Top topProg loose mean mg mb h₀) (B : Below callerA h₀ [] h₀)
  (F : Fr h₀ L s.heap m) (nm : Nm lN lM lU size more m) 
  (N : News h₀ L s.heap [(cC, oC), (cV, oV), (cK, oK), (lN, listOf vsN.toArray nN), (x0, instObj 88 dx0), (dx0, cont w a1 a2 a3 a4 size .none d0), (d0, od0), (x1, instObj 88 dx1), (dx1, cont w b1 b2 b3 b4 (size + more) .none d1), (d1, od1), (lC, listOf #[.ref x0, .ref x1] nC), (dV, oVd), (lM, listOf #[.int m0 tM0, .int m1 tM1] nM), (lU, listOf vsU.toArray nU), (I, oI)])
  (hcC : oC.data = .cell (some (.ref lC))) (hcV : oV.data = .cell (some (.ref dV))) (eC : cC = L + 1) (eV : cV = L + 2) (eK : cK = L + 3)
  (o1 : L + 3 < lN) (o2 : lN < dx0) (o3 : dx0 < x0) (o4 : x0 < d0) (o5 : d0 < dx1) (o6 : dx1 < x1) (o7 : x1 < d1) (o8 : d1 < lC) (o9 : lC < dV) (o10 : dV < lM) (oU : LCg.Off1 lU [(cC, oC), (cV, oV), (cK, oK), (lN, listOf vsN.toArray nN), (x0, instObj 88 dx0), (dx0, cont w a1 a2 a3 a4 size .none d0), (d0, od0), (x1, instObj 88 dx1), (dx1, cont w b1 b2 b3 b4 (size + more) .none d1), (d1, od1), (lC, listOf #[.ref x0, .ref x1] nC), (dV, oVd), (lM, listOf #[.int m0 tM0, .int m1 tM1] nM), (I, oI)]) (o14 : lM < I)
  (lo0 : (d0 == sysModules) = false) (lo1 : (d1 == sysModules) = false) (loV : (dV == sysModules) = false) (hk0 : kvs0.length ≤ 10) (hk1 : kvs1.length ≤ 10) (hkV : kvsV.length ≤ 10)
  (hd0 : od0.IsDictOf (PySem.intKind PySem.Challenge.rw_aj5039_02.row.prog w) kvs0) (hd1 : od1.IsDictOf (PySem.intKind PySem.Challenge.rw_aj5039_02.row.prog w) kvs1) (hdV : oVd.IsDictOf (PySem.intKind PySem.Challenge.rw_aj5039_02.row.prog w) kvsV)
  
  (q : ∀ h' tk m' s0 s1 so0 so1, Fr h₀ L h' m' → Nm lN lM lU size more m' → m' (Str.ofString "small") = some (.ref s0) → m' (Str.ofString "great") = some (.ref s1) → News h₀ L h' [(s0, so0), (s1, so1), (cC, oC), (cV, oV), (cK, oK), (lN, listOf vsN.toArray nN), (x0, instObj 88 dx0), (dx0, cont w a1 a2 a3 a4 size .none d0), (d0, od0), (x1, instObj 88 dx1), (dx1, cont w b1 b2 b3 b4 (size + more) .none d1), (d1, od1), (lC, listOf #[.ref x0, .ref x1] nC), (dV, oVd), (lM, listOf #[.int m0 tM0, .int m1 tM1] nM), (lU, listOf vsU.toArray nU), (I, oI)] → SetIs so0 (kvs0.map (·.1)) → SetIs so1 (kvs1.map (·.1)) → (@LT.lt Nat _ I s0 ∧ @LT.lt Nat _ lU s0 ∧ @LT.lt Nat _ s0 s1) → Q .next { s with heap := h', toks := tk }) :
  wpAny (model PySem.Challenge.rw_aj5039_02.row.prog w) (callerA.deeper (lenv L fa cd)) (exec (loopBody.getD 6 (Stmt.Pass default)) (lenv L fa cd)) Q (fun _ _ => False) s := by
  revert X
  k_fill
  intro X
  subst eC eV eK
  obtain ⟨tsz, tmo, enm⟩ := nm.open
  have F1 := fr_eq F enm
  clear F
  conv => arg 3; arg 1; whnf
  k_steps
  all_goals first | exact q _ _ _ _ _ _ _ (by assumption) ⟨by exact rfl, by exact rfl, by exact rfl, ⟨_, by exact rfl⟩, ⟨_, by exact rfl⟩⟩ (by exact rfl) (by exact rfl) (News.sub (by assumption) (by lcg_sub)) (by assumption) (by assumption) ⟨by omega, by omega, by omega⟩
end
end Mine
end
section
open PySem PySem.W PyProof.Rows PySem.Calls PyProof.V PySem.Spec
set_option maxRecDepth 100000
namespace Mine
local macro_rules | `(tactic| k_room) => `(tactic| first | ((try simp only [depth_under_make, depth_under_kw, depth_in1, depth_deeper, depth_caller, depth_mark, recursionLimit]); first | decide | omega))
local macro_rules | `(tactic| k_all) => `(tactic| assumption)
local macro_rules | `(tactic| walk_at "call ref") => `(tactic| (k_here; (with_reducible show wpAny _ _ (call (Value.ref 99) [Value.ref _, Value.int _ _]) _ _ _); k_dflt (first
  | (refine' L_got_hit ?X ?T ?B ?hA ?hf ?hke ?hh ?hdep ?hun ?F ?N ?I1 ?I2 ?U ?hod ?lo ?hlen ?ne1 ?ne2 ?ne3 ?hv ?_; (case F => k_asm); (case X => k_asm); (case T => k_asm); (case B => assumption); (case hA => exact rfl); (case hf => exact rfl); (case hke => exact rfl); (case hh => exact rfl); (case hdep => exact Nat.le_of_ble_eq_true rfl); (case hun => exact Nat.le_of_ble_eq_true rfl); (case N => k_asm); (case I1 => k_mem); (case I2 => k_mem); (case U => k_updF); (case hod => assumption); (case lo => assumption); (case hlen => assumption); (case ne1 => k_ne); (case ne2 => k_ne); (case ne3 => k_ne); (case hv => assumption); k_whole; intro l' h' tk' od' F' N' l1 hd'; (try dsimp only at N'); (try k_lt l1))
  | (refine' L_got_missR ?X ?T ?B ?hA ?hf ?hke ?hh ?hdep ?hun ?F ?N ?I1 ?I2 ?I3 ?hod ?lo ?hlen ?ne1 ?ne2 ?ne3 ?hv ?_; (case F => k_asm); (case X => k_asm); (case T => k_asm); (case B => assumption); (case hA => exact rfl); (case hf => exact rfl); (case hke => exact rfl); (case hh => exact rfl); (case hdep => exact Nat.le_of_ble_eq_true rfl); (case hun => exact Nat.le_of_ble_eq_true rfl); (case N => k_asm); (case I1 => k_mem); (case I2 => k_mem); (case I3 => k_mem); (case hod => assumption); (case lo => assumption); (case hlen => assumption); (case ne1 => k_ne); (case ne2 => k_ne); (case ne3 => k_ne); (case hv => assumption); k_whole; intro l' h' tk' F' N' l1; (try dsimp only at N'); (try k_lt l1)))))
local macro_rules | `(tactic| walk_at "call ref") => `(tactic| (k_here; (with_reducible show wpAny _ _ (call (Value.ref 106) [Value.ref _, Value.int _ _]) _ _ _); k_dflt (refine' L_delB ?X ?T ?B ?hA ?hf ?hke ?hh ?hdep ?hun ?F ?N ?I1 ?I2 ?U ?hod ?lo ?hlen ?ne1 ?ne2 ?ne3 ?hb ?_;  (case F => k_asm); (case X => k_asm); (case T => k_asm); (case B => assumption); (case hA => exact rfl); (case hf => exact rfl); (case hke => exact rfl); (case hh => exact rfl); (case hdep => exact Nat.le_of_ble_eq_true rfl); (case hun => exact Nat.le_of_ble_eq_true rfl); (case N => k_asm); (case I1 => k_mem); (case I2 => k_mem); (case U => k_updF); (case hod => assumption); (case lo => assumption); (case hlen => assumption); (case ne1 => k_ne); (case ne2 => k_ne); (case ne3 => k_ne); (case hb => assumption); k_whole; intro h' tk' od' F' N' hd'; (try dsimp only at N'))))
local macro_rules | `(tactic| walk_at "call ref") => `(tactic| (k_here; (with_reducible show wpAny _ _ (call (Value.ref 85) [Value.ref _]) _ _ _); k_dflt (refine' L_keysR ?X ?T ?B ?hA ?hf ?hke ?hh ?hdep ?hun ?F ?N ?I1 ?I2 ?I3 ?hod ?lo ?hlen ?ne1 ?ne2 ?ne3 ?_; (case F => k_asm); (case X => k_asm); (case T => k_asm); (case B => assumption); (case hA => exact rfl); (case hf => exact rfl); (case hke => exact rfl); (case hh => exact rfl); (case hdep => exact Nat.le_of_ble_eq_true rfl); (case hun => exact Nat.le_of_ble_eq_true rfl); (case N => k_asm); (case I1 => k_mem); (case I2 => k_mem); (case I3 => k_mem); (case hod => assumption); (case lo => assumption); (case hlen => assumption); (case ne1 => k_ne); (case ne2 => k_ne); (case ne3 => k_ne); k_whole; intro l' so' h' tk' F' N' l1 hs'; (try dsimp only at N'); (try k_lt l1))))
local macro_rules | `(tactic| walk_at "call builtin:len") => `(tactic| (k_here; (with_reducible show wpAny _ _ (call (Value.builtin "len") [Value.ref _]) _ _ _); k_dflt (refine' L_lenR ?X ?T ?B ?hA ?hf ?hke ?hh ?hdep ?hun ?F ?N ?I1 ?I2 ?I3 ?hod ?lo ?hlen ?ne1 ?ne2 ?ne3 ?_; (case F => k_asm); (case N => k_asm); (case I1 => k_mem); (case X => k_asm); (case T => k_asm); (case B => assumption); (case hA => exact rfl); (case hf => exact rfl); (case hke => exact rfl); (case hh => exact rfl); (case hdep => exact Nat.le_of_ble_eq_true rfl); (case hun => exact Nat.le_of_ble_eq_true rfl); (case I2 => k_mem); (case I3 => k_mem); (case hod => assumption); (case lo => assumption); (case hlen => assumption); (case ne1 => k_ne); (case ne2 => k_ne); (case ne3 => k_ne); k_whole; intro u' h' tk' F' N')))
local macro_rules | `(tactic| walk_at "setItem ref int") => `(tactic| (k_here; k_dflt (refine' kda_set (knd := PySem.intKind _ _) ?F ?N ?U ?d (intKind_is _ _ _ _) ?z ?_; (case F => k_asm); (case N => k_asm); (case U => k_updF); (case d => assumption); (case z => rw [sizeLine_eq]; omega); k_whole); intro h' o' F' N' hd'; (try dsimp only at N')))
local macro_rules | `(tactic| walk_at "setItem ref int") => `(tactic| (k_here; k_dflt (refine' L_set ?X ?T ?B ?hA ?hf ?hke ?hh ?hdep ?hun ?F ?N ?I1 ?I2 ?U ?hod ?lo ?hlen ?ne1 ?ne2 ?ne3 ?_; (case F => k_asm); (case N => k_asm); (case I1 => k_mem); (case X => k_asm); (case T => k_asm); (case B => assumption); (case hA => exact rfl); (case hf => exact rfl); (case hke => exact rfl); (case hh => exact rfl); (case hdep => exact Nat.le_of_ble_eq_true rfl); (case hun => exact Nat.le_of_ble_eq_true rfl); (case I2 => k_mem); (case U => k_updF); (case hod => assumption); (case lo => assumption); (case hlen => assumption); (case ne1 => k_ne); (case ne2 => k_ne); (case ne3 => k_ne); k_whole; intro h' tk' od' F' N' hd'; (try dsimp only at N'))))
local macro_rules | `(tactic| walk_at "compareOp In int ref") => `(tactic| (k_here; k_dflt (refine' lru_inB ?N ?a ?s ?l ?b ?_; (case N => k_asm); (case a => k_mem); (case s => assumption); (case l => rw [List.length_map]; omega); (case b => assumption); k_whole)))
local macro_rules | `(tactic| walk_at "compareOp In int ref") => `(tactic| (k_here; k_dflt (refine' kda_in (knd := PySem.intKind _ _) ?N ?a ?d ?lo (intKind_is _ _ _ _) _ ?b ?_; (case N => k_asm); (case a => k_mem); (case d => assumption); (case lo => assumption); (case b => assumption); k_whole)))
local macro_rules | `(tactic| walk_at "compareOp NotIn int ref") => `(tactic| (k_here; k_dflt (refine' kdg_notin (knd := PySem.intKind _ _) ?N ?a ?d ?lo (intKind_is _ _ _ _) _ ?b ?_; (case N => k_asm); (case a => k_mem); (case d => assumption); (case lo => assumption); (case b => assumption); k_whole)))
local macro_rules | `(tactic| walk_at "subscriptTail") => `(tactic| (k_here; (with_reducible show wpAny _ _ (subscriptTail _ _ (Value.ref _) (Value.int _ _)) _ _ _); k_dflt (refine' kda_item (knd := PySem.intKind _ _) ?N ?a ?d (intKind_is _ _ _ _) ?v ?_; (case N => k_asm); (case a => k_mem); (case d => assumption); (case v => assumption); k_whole)))
local macro_rules | `(tactic| walk_at "compareOp LtE ref ref") => `(tactic| (k_here; k_dflt (refine' lru_le ?u ?N ?a ?b ?s ?s' ?l ?l' ?le ?sub ?_; (case u => exact Nat.le_of_ble_eq_true rfl); (case N => k_asm); (case a => k_mem); (case b => k_mem); (case s => assumption); (case s' => assumption); (case l => first | assumption | omega); (case l' => first | assumption | omega); (case le => first | assumption | omega); (case sub => first | assumption | exact fun _ h => h); k_whole)))
local macro_rules | `(tactic| walk_at "compareOp NotEq ref ref") => `(tactic| (k_here; k_dflt (refine' lru_ne ?u ?N ?a ?b ?s ?s' ?l ?l' ?le ?sub ?_; (case u => exact Nat.le_of_ble_eq_true rfl); (case N => k_asm); (case a => k_mem); (case b => k_mem); (case s => assumption); (case s' => assumption); (case l => first | assumption | omega); (case l' => first | assumption | omega); (case le => first | assumption | omega); (case sub => first | assumption | exact fun _ h => h); k_whole)))
local macro_rules | `(tactic| walk_at "call type:set") => `(tactic| (k_here; (with_reducible show wpAny _ _ (call (Value.type "set") [Value.ref _]) _ _ _); k_dflt (first
  | (refine' lru_keys_set ?hh ?F ?N ?v ?p ?d ?z ?_; (case hh => first | exact rfl | assumption); (case F => k_asm); (case N => k_asm); (case v => k_mem); (case p => k_mem); (case d => k_asm); (case z => omega); k_whole; intro D' h' tk' so' F' N' l1 hs'; (try k_lt l1))
  | (refine' lru_list_setE ?hh ?F ?N ?v ?i ?e ?n ?z ?_; (case hh => first | exact rfl | assumption); (case F => k_asm); (case N => k_asm); (case v => k_mem); (case i => k_asm); (case e => assumption); (case n => assumption); (case z => assumption); k_whole; intro D' h' tk' so' F' N' l1 hs'; (try k_lt l1)))))
local macro_rules | `(tactic| lcg_off) => `(tactic| assumption)
local macro_rules | `(tactic| walk_at "CompRest") => `(tactic| (with_unfolding_all (refine LCg.CompRest.succ ?_; intro v' I' oI' C' oC' D' m' h' tk' E' hv' hC' hx' F' N' off' ne'; (first | lcg_open hv' | (obtain ⟨t9', hv9'⟩ := hv'; subst hv9')))))
local macro_rules | `(tactic| walk_at "ite") => `(tactic| (k_here; first | refine ite_pos (by assumption) ?_ | refine ite_neg (ne_true_of (by assumption)) ?_ | refine ite_neg (by simp; done) ?_ | refine ite_pos (by simp; done) ?_ | refine ite_neg (by simp; omega) ?_))
local macro_rules | `(tactic| walk_at "pyIter ref") => `(tactic| ((with_reducible show wpAny _ _ (pyIter (Value.ref _)) (fun it s₂ => LoopAtV _ _ _ _ _ _ _ _ _ it s₂) _ _); k_listUnr))
local macro_rules | `(tactic| walk_at "exec For Name Name cons nil") => `(tactic| (k_here; k_dflt (refine' For_F ?F ?x ?p ?_ ?s ?E; (case F => k_asm); (case x => rfl); (case p => rfl); (case s => intro _; rfl); (case E => exact PassesOwn.never); k_whole)))
local macro_rules | `(tactic| walk_at "call builtin:dict.pop") => `(tactic| (k_here; (with_reducible show wpAny _ _ (call (Value.builtin "dict.pop") [Value.ref _, Value.int _ _, _]) _ _ _); k_dflt (refine' lru_popd ?F ?N ?U ?d ?lo ?z ?_; (case F => k_asm); (case N => k_asm); (case U => k_updF); (case d => assumption); (case lo => assumption); (case z => rw [sizeLine_eq]; omega); k_whole); intro v' h' o' F' N' hd'; (try dsimp only at N')))
local macro_rules | `(tactic| walk_at "FinA") => `(tactic| ((unfold LCg.FinA); intro D' h' tk' F' N' o1'; (try simp only [List.nil_append, List.cons_append] at N'); (try dsimp only)))
local macro_rules | `(tactic| k_ne) => `(tactic| first | assumption | exact off1_ne (by assumption) (by k_mem) | exact (off1_ne (by assumption) (by k_mem)).symm)
local macro_rules | `(tactic| walk_at "subscriptTail Name Slice ref ref") => `(tactic| (k_here; (with_reducible show wpAny _ _ (subscriptTail _ (PySem.Expr.Slice _ _ none _) (Value.ref _) (Value.ref _)) _ _ _); k_dflt (refine' kmk_slice_ints ?F ?N ?l ?p ?q ?i ?m ?c ?_ ?s ?t ?z; (case F => k_asm); (case N => k_asm); (case l => kmk_list); (case p => kmk_part); (case q => kmk_part); (case i => assumption); (case m => exact kmk_from (by assumption) (by assumption)); (case c => exact List.length_drop ..); (case s => with_unfolding_all rfl); (case t => kmk_pure); (case z => assumption)); intro D' ws' h' F' N' l1 hI' hC' hL'; (try k_lt l1)))
local macro_rules | `(tactic| walk_at "call builtin:dict.pop") => `(tactic| (k_here; dsimp only [List.cons_append, List.nil_append]))
local macro_rules | `(tactic| walk_at "call builtin:list.append") => `(tactic| (k_here; dsimp only [List.cons_append, List.nil_append]))

section
variable {w : World} {mg mb : Str → Option Value} {mean : ExcName → Option Value} {h₀ : Heap} {L fa cd : Nat} {m : Str → Option Value} {s : Shared} {Q : Flow → Shared → Prop}
  {cC cV cK lN x0 dx0 d0 x1 dx1 d1 lC dV lM lU I lW s0 s1 : Nat} {oC oV oK od0 od1 oVd oI so0 so1 : Obj} {vsN vsU : List Value} {ns us : List Int} {nN nM nU nC nW : Nat} {a1 a2 a3 a4 b1 b2 b3 b4 tp tM0 tM1 tk9 tkey tv : Tok} {place size more m0 m1 kind key vi : Int} {kvs0 kvs1 kvsV : List (Int × Value)}
set_option maxHeartbeats 16000000 in
theorem seg3c2 {bz : Bool}
  (X : (hd.heap_39 w.params).In h₀) (T : Top topProg loose mean mg mb h₀) (B : Below callerA h₀ [] h₀)
  (F : Fr h₀ L s.heap m) (nm : Nm lN lM lU size more m) (n0 : m (Str.ofString "small") = some (.ref s0)) (n1 : m (Str.ofString "great") = some (.ref s1))
  (N : News h₀ L s.heap [(s0, so0), (s1, so1), (cC, oC), (cV, oV), (cK, oK), (lN, listOf vsN.toArray nN), (x0, instObj 88 dx0), (dx0, cont w a1 a2 a3 a4 size .none d0), (d0, od0), (x1, instObj 88 dx1), (dx1, cont w b1 b2 b3 b4 (size + more) .none d1), (d1, od1), (lC, listOf #[.ref x0, .ref x1] nC), (dV, oVd), (lM, listOf #[.int m0 tM0, .int m1 tM1] nM), (lU, listOf vsU.toArray nU), (I, oI)])
  (hcC : oC.data = .cell (some (.ref lC))) (hcV : oV.data = .cell (some (.ref dV))) (eC : cC = L + 1) (eV : cV = L + 2) (eK : cK = L + 3)
  (o1 : L + 3 < lN) (o2 : lN < dx0) (o3 : dx0 < x0) (o4 : x0 < d0) (o5 : d0 < dx1) (o6 : dx1 < x1) (o7 : x1 < d1) (o8 : d1 < lC) (o9 : lC < dV) (o10 : dV < lM) (oU : LCg.Off1 lU [(cC, oC), (cV, oV), (cK, oK), (lN, listOf vsN.toArray nN), (x0, instObj 88 dx0), (dx0, cont w a1 a2 a3 a4 size .none d0), (d0, od0), (x1, instObj 88 dx1), (dx1, cont w b1 b2 b3 b4 (size + more) .none d1), (d1, od1), (lC, listOf #[.ref x0, .ref x1] nC), (dV, oVd), (lM, listOf #[.int m0 tM0, .int m1 tM1] nM), (I, oI)]) (o14 : lM < I)
  (lo0 : (d0 == sysModules) = false) (lo1 : (d1 == sysModules) = false) (loV : (dV == sysModules) = false) (hk0 : kvs0.length ≤ 10) (hk1 : kvs1.length ≤ 10) (hkV : kvsV.length ≤ 10)
  (hd0 : od0.IsDictOf (PySem.intKind PySem.Challenge.rw_aj5039_02.row.prog w) kvs0) (hd1 : od1.IsDictOf (PySem.intKind PySem.Challenge.rw_aj5039_02.row.prog w) kvs1) (hdV : oVd.IsDictOf (PySem.intKind PySem.Challenge.rw_aj5039_02.row.prog w) kvsV)
  (p0 : I < s0) (p1 : lU < s0) (p2 : s0 < s1) (hs0 : SetIs so0 (kvs0.map (·.1))) (hs1 : SetIs so1 (kvs1.map (·.1))) (hm10 : ¬ m0 < m1) (hle : (kvs0.map (·.1)).length ≤ (kvs1.map (·.1)).length) (hsub : ∀ k ∈ kvs0.map (·.1), k ∈ kvs1.map (·.1)) (hll : (kvs0.map (·.1)).length ≤ 20) (hll1 : (kvs1.map (·.1)).length ≤ 20) (hbz : (more == 0) = bz) (hz : bz = true → (kvs0.map (·.1)).length = (kvs1.map (·.1)).length)
  (q : ∀ h' tk, Fr h₀ L h' m → News h₀ L h' [(cC, oC), (cV, oV), (cK, oK), (lN, listOf vsN.toArray nN), (x0, instObj 88 dx0), (dx0, cont w a1 a2 a3 a4 size .none d0), (d0, od0), (x1, instObj 88 dx1), (dx1, cont w b1 b2 b3 b4 (size + more) .none d1), (d1, od1), (lC, listOf #[.ref x0, .ref x1] nC), (dV, oVd), (lM, listOf #[.int m0 tM0, .int m1 tM1] nM), (lU, listOf vsU.toArray nU), (I, oI)] → Q .next { s with heap := h', toks := tk }) :
  wpAny (model PySem.Challenge.rw_aj5039_02.row.prog w) (callerA.deeper (lenv L fa cd)) (exec (loopBody.getD 7 (Stmt.Pass default)) (lenv L fa cd)) Q (fun _ _ => False) s := by
  revert X
  k_fill
  intro X
  subst eC eV eK
  obtain ⟨tsz, tmo, enm⟩ := nm.open
  have F1 := fr_eq F enm
  have e2 := ((enm (Str.ofString "small")).trans n0)
  have F2 := fr_put (m := names02 lN lM lU size more tsz tmo m) (x := Str.ofString "small") (v := .ref s0) (by exact e2) F1
  have e3 := ((if_name e2 (Str.ofString "great")).trans ((enm (Str.ofString "great")).trans n1))
  have F3 := fr_put (x := Str.ofString "great") (v := .ref s1) (by exact e3) F2
  clear F F1 F2
  conv => arg 3; arg 1; whnf
  cases bz
  all_goals (try have hzz := hz rfl)
  all_goals k_steps
  all_goals first | (exfalso; exact hm10 (by assumption)) | exact q _ _ (fr_eq (by assumption) fun y => ((if_name (m := fun y => if y = Str.ofString "small" then some (.ref s0) else names02 lN lM lU size more tsz tmo m y) (by exact e3) y).trans ((if_name e2 y).trans (enm y))).symm) (News.sub (by assumption) (by lcg_sub))
end
end Mine
end
section
open PySem PySem.W PyProof.Rows PySem.Calls PyProof.V PySem.Spec
set_option maxRecDepth 100000
namespace Mine
local macro_rules | `(tactic| k_room) => `(tactic| first | ((try simp only [depth_under_make, depth_under_kw, depth_in1, depth_deeper, depth_caller, depth_mark, recursionLimit]); first | decide | omega))
local macro_rules | `(tactic| k_all) => `(tactic| assumption)
local macro_rules | `(tactic| walk_at "call ref") => `(tactic| (k_here; (with_reducible show wpAny _ _ (call (Value.ref 99) [Value.ref _, Value.int _ _]) _ _ _); k_dflt (first
  | (refine' L_got_hit ?X ?T ?B ?hA ?hf ?hke ?hh ?hdep ?hun ?F ?N ?I1 ?I2 ?U ?hod ?lo ?hlen ?ne1 ?ne2 ?ne3 ?hv ?_; (case F => k_asm); (case X => k_asm); (case T => k_asm); (case B => assumption); (case hA => exact rfl); (case hf => exact rfl); (case hke => exact rfl); (case hh => exact rfl); (case hdep => exact Nat.le_of_ble_eq_true rfl); (case hun => exact Nat.le_of_ble_eq_true rfl); (case N => k_asm); (case I1 => k_mem); (case I2 => k_mem); (case U => k_updF); (case hod => assumption); (case lo => assumption); (case hlen => assumption); (case ne1 => k_ne); (case ne2 => k_ne); (case ne3 => k_ne); (case hv => assumption); k_whole; intro l' h' tk' od' F' N' l1 hd'; (try dsimp only at N'); (try k_lt l1))
  | (refine' L_got_missR ?X ?T ?B ?hA ?hf ?hke ?hh ?hdep ?hun ?F ?N ?I1 ?I2 ?I3 ?hod ?lo ?hlen ?ne1 ?ne2 ?ne3 ?hv ?_; (case F => k_asm); (case X => k_asm); (case T => k_asm); (case B => assumption); (case hA => exact rfl); (case hf => exact rfl); (case hke => exact rfl); (case hh => exact rfl); (case hdep => exact Nat.le_of_ble_eq_true rfl); (case hun => exact Nat.le_of_ble_eq_true rfl); (case N => k_asm); (case I1 => k_mem); (case I2 => k_mem); (case I3 => k_mem); (case hod => assumption); (case lo => assumption); (case hlen => assumption); (case ne1 => k_ne); (case ne2 => k_ne); (case ne3 => k_ne); (case hv => assumption); k_whole; intro l' h' tk' F' N' l1; (try dsimp only at N'); (try k_lt l1)))))
local macro_rules | `(tactic| walk_at "call ref") => `(tactic| (k_here; (with_reducible show wpAny _ _ (call (Value.ref 106) [Value.ref _, Value.int _ _]) _ _ _); k_dflt (refine' L_delB ?X ?T ?B ?hA ?hf ?hke ?hh ?hdep ?hun ?F ?N ?I1 ?I2 ?U ?hod ?lo ?hlen ?ne1 ?ne2 ?ne3 ?hb ?_;  (case F => k_asm); (case X => k_asm); (case T => k_asm); (case B => assumption); (case hA => exact rfl); (case hf => exact rfl); (case hke => exact rfl); (case hh => exact rfl); (case hdep => exact Nat.le_of_ble_eq_true rfl); (case hun => exact Nat.le_of_ble_eq_true rfl); (case N => k_asm); (case I1 => k_mem); (case I2 => k_mem); (case U => k_updF); (case hod => assumption); (case lo => assumption); (case hlen => assumption); (case ne1 => k_ne); (case ne2 => k_ne); (case ne3 => k_ne); (case hb => assumption); k_whole; intro h' tk' od' F' N' hd'; (try dsimp only at N'))))
local macro_rules | `(tactic| walk_at "call ref") => `(tactic| (k_here; (with_reducible show wpAny _ _ (call (Value.ref 85) [Value.ref _]) _ _ _); k_dflt (refine' L_keysR ?X ?T ?B ?hA ?hf ?hke ?hh ?hdep ?hun ?F ?N ?I1 ?I2 ?I3 ?hod ?lo ?hlen ?ne1 ?ne2 ?ne3 ?_; (case F => k_asm); (case X => k_asm); (case T => k_asm); (case B => assumption); (case hA => exact rfl); (case hf => exact rfl); (case hke => exact rfl); (case hh => exact rfl); (case hdep => exact Nat.le_of_ble_eq_true rfl); (case hun => exact Nat.le_of_ble_eq_true rfl); (case N => k_asm); (case I1 => k_mem); (case I2 => k_mem); (case I3 => k_mem); (case hod => assumption); (case lo => assumption); (case hlen => assumption); (case ne1 => k_ne); (case ne2 => k_ne); (case ne3 => k_ne); k_whole; intro l' so' h' tk' F' N' l1 hs'; (try dsimp only at N'); (try k_lt l1))))
local macro_rules | `(tactic| walk_at "call builtin:len") => `(tactic| (k_here; (with_reducible show wpAny _ _ (call (Value.builtin "len") [Value.ref _]) _ _ _); k_dflt (refine' L_lenR ?X ?T ?B ?hA ?hf ?hke ?hh ?hdep ?hun ?F ?N ?I1 ?I2 ?I3 ?hod ?lo ?hlen ?ne1 ?ne2 ?ne3 ?_; (case F => k_asm); (case N => k_asm); (case I1 => k_mem); (case X => k_asm); (case T => k_asm); (case B => assumption); (case hA => exact rfl); (case hf => exact rfl); (case hke => exact rfl); (case hh => exact rfl); (case hdep => exact Nat.le_of_ble_eq_true rfl); (case hun => exact Nat.le_of_ble_eq_true rfl); (case I2 => k_mem); (case I3 => k_mem); (case hod => assumption); (case lo => assumption); (case hlen => assumption); (case ne1 => k_ne); (case ne2 => k_ne); (case ne3 => k_ne); k_whole; intro u' h' tk' F' N')))
local macro_rules | `(tactic| walk_at "setItem ref int") => `(tactic| (k_here; k_dflt (refine' kda_set (knd := PySem.intKind _ _) ?F ?N ?U ?d (intKind_is _ _ _ _) ?z ?_; (case F => k_asm); (case N => k_asm); (case U => k_updF); (case d => assumption); (case z => rw [sizeLine_eq]; omega); k_whole); intro h' o' F' N' hd'; (try dsimp only at N')))
local macro_rules | `(tactic| walk_at "setItem ref int") => `(tactic| (k_here; k_dflt (refine' L_set ?X ?T ?B ?hA ?hf ?hke ?hh ?hdep ?hun ?F ?N ?I1 ?I2 ?U ?hod ?lo ?hlen ?ne1 ?ne2 ?ne3 ?_; (case F => k_asm); (case N => k_asm); (case I1 => k_mem); (case X => k_asm); (case T => k_asm); (case B => assumption); (case hA => exact rfl); (case hf => exact rfl); (case hke => exact rfl); (case hh => exact rfl); (case hdep => exact Nat.le_of_ble_eq_true rfl); (case hun => exact Nat.le_of_ble_eq_true rfl); (case I2 => k_mem); (case U => k_updF); (case hod => assumption); (case lo => assumption); (case hlen => assumption); (case ne1 => k_ne); (case ne2 => k_ne); (case ne3 => k_ne); k_whole; intro h' tk' od' F' N' hd'; (try dsimp only at N'))))
local macro_rules | `(tactic| walk_at "compareOp In int ref") => `(tactic| (k_here; k_dflt (refine' lru_inB ?N ?a ?s ?l ?b ?_; (case N => k_asm); (case a => k_mem); (case s => assumption); (case l => rw [List.length_map]; omega); (case b => assumption); k_whole)))
local macro_rules | `(tactic| walk_at "compareOp In int ref") => `(tactic| (k_here; k_dflt (refine' kda_in (knd := PySem.intKind _ _) ?N ?a ?d ?lo (intKind_is _ _ _ _) _ ?b ?_; (case N => k_asm); (case a => k_mem); (case d => assumption); (case lo => assumption); (case b => assumption); k_whole)))
local macro_rules | `(tactic| walk_at "compareOp NotIn int ref") => `(tactic| (k_here; k_dflt (refine' kdg_notin (knd := PySem.intKind _ _) ?N ?a ?d ?lo (intKind_is _ _ _ _) _ ?b ?_; (case N => k_asm); (case a => k_mem); (case d => assumption); (case lo => assumption); (case b => assumption); k_whole)))
local macro_rules | `(tactic| walk_at "subscriptTail") => `(tactic| (k_here; (with_reducible show wpAny _ _ (subscriptTail _ _ (Value.ref _) (Value.int _ _)) _ _ _); k_dflt (refine' kda_item (knd := PySem.intKind _ _) ?N ?a ?d (intKind_is _ _ _ _) ?v ?_; (case N => k_asm); (case a => k_mem); (case d => assumption); (case v => assumption); k_whole)))
local macro_rules | `(tactic| walk_at "compareOp LtE ref ref") => `(tactic| (k_here; k_dflt (refine' lru_le ?u ?N ?a ?b ?s ?s' ?l ?l' ?le ?sub ?_; (case u => exact Nat.le_of_ble_eq_true rfl); (case N => k_asm); (case a => k_mem); (case b => k_mem); (case s => assumption); (case s' => assumption); (case l => first | assumption | omega); (case l' => first | assumption | omega); (case le => first | assumption | omega); (case sub => first | assumption | exact fun _ h => h); k_whole)))
local macro_rules | `(tactic| walk_at "compareOp NotEq ref ref") => `(tactic| (k_here; k_dflt (refine' lru_ne ?u ?N ?a ?b ?s ?s' ?l ?l' ?le ?sub ?_; (case u => exact Nat.le_of_ble_eq_true rfl); (case N => k_asm); (case a => k_mem); (case b => k_mem); (case s => assumption); (case s' => assumption); (case l => first | assumption | omega); (case l' => first | assumption | omega); (case le => first | assumption | omega); (case sub => first | assumption | exact fun _ h => h); k_whole)))
local macro_rules | `(tactic| walk_at "call type:set") => `(tactic| (k_here; (with_reducible show wpAny _ _ (call (Value.type "set") [Value.ref _]) _ _ _); k_dflt (first
  | (refine' lru_keys_set ?hh ?F ?N ?v ?p ?d ?z ?_; (case hh => first | exact rfl | assumption); (case F => k_asm); (case N => k_asm); (case v => k_mem); (case p => k_mem); (case d => k_asm); (case z => omega); k_whole; intro D' h' tk' so' F' N' l1 hs'; (try k_lt l1))
  | (refine' lru_list_setE ?hh ?F ?N ?v ?i ?e ?n ?z ?_; (case hh => first | exact rfl | assumption); (case F => k_asm); (case N => k_asm); (case v => k_mem); (case i => k_asm); (case e => assumption); (case n => assumption); (case z => assumption); k_whole; intro D' h' tk' so' F' N' l1 hs'; (try k_lt l1)))))
local macro_rules | `(tactic| lcg_off) => `(tactic| assumption)
local macro_rules | `(tactic| walk_at "CompRest") => `(tactic| (with_unfolding_all (refine LCg.CompRest.succ ?_; intro v' I' oI' C' oC' D' m' h' tk' E' hv' hC' hx' F' N' off' ne'; (first | lcg_open hv' | (obtain ⟨t9', hv9'⟩ := hv'; subst hv9')))))
local macro_rules | `(tactic| walk_at "ite") => `(tactic| (k_here; first | refine ite_pos (by assumption) ?_ | refine ite_neg (ne_true_of (by assumption)) ?_ | refine ite_neg (by simp; done) ?_ | refine ite_pos (by simp; done) ?_ | refine ite_neg (by simp; omega) ?_))
local macro_rules | `(tactic| walk_at "pyIter ref") => `(tactic| ((with_reducible show wpAny _ _ (pyIter (Value.ref _)) (fun it s₂ => LoopAtV _ _ _ _ _ _ _ _ _ it s₂) _ _); k_listUnr))
local macro_rules | `(tactic| walk_at "exec For Name Name cons nil") => `(tactic| (k_here; k_dflt (refine' For_F ?F ?x ?p ?_ ?s ?E; (case F => k_asm); (case x => rfl); (case p => rfl); (case s => intro _; rfl); (case E => exact PassesOwn.never); k_whole)))
local macro_rules | `(tactic| walk_at "call builtin:dict.pop") => `(tactic| (k_here; (with_reducible show wpAny _ _ (call (Value.builtin "dict.pop") [Value.ref _, Value.int _ _, _]) _ _ _); k_dflt (refine' lru_popd ?F ?N ?U ?d ?lo ?z ?_; (case F => k_asm); (case N => k_asm); (case U => k_updF); (case d => assumption); (case lo => assumption); (case z => rw [sizeLine_eq]; omega); k_whole); intro v' h' o' F' N' hd'; (try dsimp only at N')))
local macro_rules | `(tactic| walk_at "FinA") => `(tactic| ((unfold LCg.FinA); intro D' h' tk' F' N' o1'; (try simp only [List.nil_append, List.cons_append] at N'); (try dsimp only)))
local macro_rules | `(tactic| k_ne) => `(tactic| first | assumption | exact off1_ne (by assumption) (by k_mem) | exact (off1_ne (by assumption) (by k_mem)).symm)
local macro_rules | `(tactic| walk_at "subscriptTail Name Slice ref ref") => `(tactic| (k_here; (with_reducible show wpAny _ _ (subscriptTail _ (PySem.Expr.Slice _ _ none _) (Value.ref _) (Value.ref _)) _ _ _); k_dflt (refine' kmk_slice_ints ?F ?N ?l ?p ?q ?i ?m ?c ?_ ?s ?t ?z; (case F => k_asm); (case N => k_asm); (case l => kmk_list); (case p => kmk_part); (case q => kmk_part); (case i => assumption); (case m => exact kmk_from (by assumption) (by assumption)); (case c => exact List.length_drop ..); (case s => with_unfolding_all rfl); (case t => kmk_pure); (case z => assumption)); intro D' ws' h' F' N' l1 hI' hC' hL'; (try k_lt l1)))
local macro_rules | `(tactic| walk_at "call builtin:dict.pop") => `(tactic| (k_here; dsimp only [List.cons_append, List.nil_append]))
local macro_rules | `(tactic| walk_at "call builtin:list.append") => `(tactic| (k_here; dsimp only [List.cons_append, List.nil_append]))

section
variable {w : World} {mg mb : Str → Option Value} {mean : ExcName → Option Value} {h₀ : Heap} {L fa cd : Nat} {m : Str → Option Value} {s : Shared} {Q : Flow → Shared → Prop}
  {cC cV cK lN x0 dx0 d0 x1 dx1 d1 lC dV lM lU I lW s0 s1 : Nat} {oC oV oK od0 od1 oVd oI so0 so1 : Obj} {vsN vsU : List Value} {ns us : List Int} {nN nM nU nC nW : Nat} {a1 a2 a3 a4 b1 b2 b3 b4 tp tM0 tM1 tk9 tkey tv : Tok} {place size more m0 m1 kind key vi : Int} {kvs0 kvs1 kvsV : List (Int × Value)}
set_option maxHeartbeats 16000000 in
theorem seg3c3 
  (X : (hd.heap_39 w.params).In h₀) (T : Top topProg loose mean mg mb h₀) (B : Below callerA h₀ [] h₀)
  (F : Fr h₀ L s.heap m) (nm : Nm lN lM lU size more m) 
  (N : News h₀ L s.heap [(cC, oC), (cV, oV), (cK, oK), (lN, listOf vsN.toArray nN), (x0, instObj 88 dx0), (dx0, cont w a1 a2 a3 a4 size .none d0), (d0, od0), (x1, instObj 88 dx1), (dx1, cont w b1 b2 b3 b4 (size + more) .none d1), (d1, od1), (lC, listOf #[.ref x0, .ref x1] nC), (dV, oVd), (lM, listOf #[.int m0 tM0, .int m1 tM1] nM), (lU, listOf vsU.toArray nU), (I, oI)])
  (hcC : oC.data = .cell (some (.ref lC))) (hcV : oV.data = .cell (some (.ref dV))) (eC : cC = L + 1) (eV : cV = L + 2) (eK : cK = L + 3)
  (o1 : L + 3 < lN) (o2 : lN < dx0) (o3 : dx0 < x0) (o4 : x0 < d0) (o5 : d0 < dx1) (o6 : dx1 < x1) (o7 : x1 < d1) (o8 : d1 < lC) (o9 : lC < dV) (o10 : dV < lM) (oU : LCg.Off1 lU [(cC, oC), (cV, oV), (cK, oK), (lN, listOf vsN.toArray nN), (x0, instObj 88 dx0), (dx0, cont w a1 a2 a3 a4 size .none d0), (d0, od0), (x1, instObj 88 dx1), (dx1, cont w b1 b2 b3 b4 (size + more) .none d1), (d1, od1), (lC, listOf #[.ref x0, .ref x1] nC), (dV, oVd), (lM, listOf #[.int m0 tM0, .int m1 tM1] nM), (I, oI)]) (o14 : lM < I)
  (lo0 : (d0 == sysModules) = false) (lo1 : (d1 == sysModules) = false) (loV : (dV == sysModules) = false) (hk0 : kvs0.length ≤ 10) (hk1 : kvs1.length ≤ 10) (hkV : kvsV.length ≤ 10)
  (hd0 : od0.IsDictOf (PySem.intKind PySem.Challenge.rw_aj5039_02.row.prog w) kvs0) (hd1 : od1.IsDictOf (PySem.intKind PySem.Challenge.rw_aj5039_02.row.prog w) kvs1) (hdV : oVd.IsDictOf (PySem.intKind PySem.Challenge.rw_aj5039_02.row.prog w) kvsV)
  (hU : IntsAre vsU us) (hul : us.length ≤ 10) (hnd : us.Nodup) (hs0 : (kvs0.length : Int) ≤ size) (hs1 : (kvs1.length : Int) ≤ size + more) (hu0 : kvs0.length ≤ us.length) (hu1 : kvs1.length ≤ us.length) (hll : (kvs0.map (·.1)).length ≤ 20) (hll1 : (kvs1.map (·.1)).length ≤ 20) (hsg0 : 0 ≤ (us.length : Int) - (kvs0.length : Int)) (hsg1 : 0 ≤ (us.length : Int) - (kvs1.length : Int)) (hsz : vsU.toArray.size ≤ sizeLine) (hn0 : (kvs0.map (·.1)).Nodup) (hn1 : (kvs1.map (·.1)).Nodup) (hK0 : List.drop ((us.length : Int) - (kvs0.length : Int)).toNat us = kvs0.map (·.1)) (hK1 : List.drop ((us.length : Int) - (kvs1.length : Int)).toNat us = kvs1.map (·.1))
  (q : ∀ h' tk m', Fr h₀ L h' m' → Nm lN lM lU size more m' → News h₀ L h' [(cC, oC), (cV, oV), (cK, oK), (lN, listOf vsN.toArray nN), (x0, instObj 88 dx0), (dx0, cont w a1 a2 a3 a4 size .none d0), (d0, od0), (x1, instObj 88 dx1), (dx1, cont w b1 b2 b3 b4 (size + more) .none d1), (d1, od1), (lC, listOf #[.ref x0, .ref x1] nC), (dV, oVd), (lM, listOf #[.int m0 tM0, .int m1 tM1] nM), (lU, listOf vsU.toArray nU), (I, oI)] → Q .next { s with heap := h', toks := tk }) :
  wpAny (model PySem.Challenge.rw_aj5039_02.row.prog w) (callerA.deeper (lenv L fa cd)) (exec (loopBody.getD 8 (Stmt.Pass default)) (lenv L fa cd)) Q (fun _ _ => False) s := by
  revert X
  k_fill
  intro X
  subst eC eV eK
  obtain ⟨tsz, tmo, enm⟩ := nm.open
  have F1 := fr_eq F enm
  clear F
  conv => arg 3; arg 1; whnf
  k_steps
  all_goals first | exact q _ _ _ (by assumption) ⟨by exact rfl, by exact rfl, by exact rfl, ⟨_, by exact rfl⟩, ⟨_, by exact rfl⟩⟩ (News.sub (by assumption) (by lcg_sub))
end
end Mine
end
section
open PySem PySem.W PyProof.Rows PySem.Calls PyProof.V PySem.Spec
set_option maxRecDepth 100000
namespace Mine
theorem execs_app {M : Model} {A : Around} {E : Value → Shared → Prop} {env : Env} {b a : List Stmt} {s : Shared} {Q : Flow → Shared → Prop} (h : wpAny M A (execs a env) (fun f s' => match f with | .next => wpAny M A (execs b env) Q E s' | f => Q f s') E s) : wpAny M A (execs (a ++ b) env) Q E s := by
  intro Γ p hΓ
  have h1 := h Γ p hΓ
  clear h
  revert p s
  induction a with
  | nil =>
    intro s p h
    rw [execs_nil] at h
    exact h Γ p hΓ
  | cons st r ih =>
    intro s p h
    rw [List.cons_append]
    rw [execs_cons, Sem.wp_bind'] at h ⊢
    refine Sem.wp_mono M Γ _ (fun f p' s' hf => ?_) (fun _ _ _ e => e) p s h
    cases f with
    | next => exact ih p' hf
    | _ => exact hf
theorem LInv.len {size more : Int} {us : List Int} {kvs0 kvs1 kvsV : List (Int × Value)} (x : LInv size more us kvs0 kvs1 kvsV) : us.length ≤ 7 ∧ kvs0.length ≤ us.length ∧ kvs1.length ≤ us.length := by
  have a := x.f0.sublist.length_le
  have b := x.f1.sublist.length_le
  rw [List.length_map] at a b
  exact ⟨seven 7 us x.nd x.bd, a, b⟩
theorem LInv.lenV {size more : Int} {us : List Int} {kvs0 kvs1 kvsV : List (Int × Value)} (x : LInv size more us kvs0 kvs1 kvsV) (hn : (kvsV.map (·.1)).Nodup) : kvsV.length ≤ 7 := by
  have := seven 7 _ hn fun k hk => x.bd k ((x.vk k).mp (mem_isSome.mpr hk))
  rwa [List.length_map] at this
theorem off1_sub {D : Addr} : ∀ {l' l : List (Addr × Obj)}, LCg.Off1 D l → (∀ p ∈ l', p ∈ l) → LCg.Off1 D l'
  | [], _, _, _ => trivial
  | p :: r, _, h, hs => ⟨(off1_ne h (hs p (List.mem_cons_self ..))).symm, off1_sub h fun x hx => hs x (List.mem_cons_of_mem _ hx)⟩
section
variable {w : World} {mg mb : Str → Option Value} {mean : ExcName → Option Value} {h₀ : Heap} {L fa cd : Nat} {m : Str → Option Value} {s : Shared} {Q : Flow → Shared → Prop}
  {lN x0 dx0 d0 x1 dx1 d1 lC dV lM lU I : Nat} {oC oV oK od0 od1 oVd oI : Obj} {vsN vsU : List Value} {ns us us0 : List Int} {nN nM nU nC : Nat} {a1 a2 a3 a4 b1 b2 b3 b4 tp tM0 tM1 tk9 tkey : Tok} {place size more m0 m1 kind key : Int} {kvs0 kvs1 kvsV : List (Int × Value)}
set_option maxHeartbeats 4000000 in
theorem tail02 (X : (hd.heap_39 w.params).In h₀) (T : Top topProg loose mean mg mb h₀) (B : Below callerA h₀ [] h₀)
  (F : Fr h₀ L s.heap m) (nm : Nm lN lM lU size more m) (nk : m (Str.ofString "kind") = some (.int kind tk9)) (np : m (Str.ofString "place") = some (.int place tp))
  (N : News h₀ L s.heap [(L + 1, oC), (L + 2, oV), (L + 3, oK), (lN, listOf vsN.toArray nN), (x0, instObj 88 dx0), (dx0, cont w a1 a2 a3 a4 size .none d0), (d0, od0), (x1, instObj 88 dx1), (dx1, cont w b1 b2 b3 b4 (size + more) .none d1), (d1, od1), (lC, listOf #[.ref x0, .ref x1] nC), (dV, oVd), (lM, listOf #[.int m0 tM0, .int m1 tM1] nM), (lU, listOf vsU.toArray nU), (I, oI)])
  (hcC : oC.data = .cell (some (.ref lC))) (hcV : oV.data = .cell (some (.ref dV)))
  (o1 : L + 3 < lN) (o2 : lN < dx0) (o3 : dx0 < x0) (o4 : x0 < d0) (o5 : d0 < dx1) (o6 : dx1 < x1) (o7 : x1 < d1) (o8 : d1 < lC) (o9 : lC < dV) (o10 : dV < lM) (oU : LCg.Off1 lU [(L + 1, oC), (L + 2, oV), (L + 3, oK), (lN, listOf vsN.toArray nN), (x0, instObj 88 dx0), (dx0, cont w a1 a2 a3 a4 size .none d0), (d0, od0), (x1, instObj 88 dx1), (dx1, cont w b1 b2 b3 b4 (size + more) .none d1), (d1, od1), (lC, listOf #[.ref x0, .ref x1] nC), (dV, oVd), (lM, listOf #[.int m0 tM0, .int m1 tM1] nM), (I, oI)]) (o14 : lM < I)
  (lo0 : (d0 == sysModules) = false) (lo1 : (d1 == sysModules) = false) (loV : (dV == sysModules) = false)
  (hd0 : od0.IsDictOf (PySem.intKind PySem.Challenge.rw_aj5039_02.row.prog w) kvs0) (hd1 : od1.IsDictOf (PySem.intKind PySem.Challenge.rw_aj5039_02.row.prog w) kvs1) (hdV : oVd.IsDictOf (PySem.intKind PySem.Challenge.rw_aj5039_02.row.prog w) kvsV)
  (hcK : oK.data = .cell (some (.int key tkey))) (hU : IntsAre vsU us) (hul : us.length ≤ 10) (hm10 : m1 ≤ m0)
  (x : LInv size more (if kind = 3 then us.filter (fun n => decide (n ≠ key)) else us.filter (fun n => decide (n ≠ key)) ++ [key]) kvs0 kvs1 kvsV)
  (q : ∀ h' tk m' oK' od0' od1' oV' vsU' us' nU' lU' kvs0' kvs1' kvsV' m0' m1' tM0' tM1' nM' vK, Fr h₀ L h' m' → Nm lN lM lU' size more m' → News h₀ L h' [(L + 1, oC), (L + 2, oV), (L + 3, oK'), (lN, listOf vsN.toArray nN), (x0, instObj 88 dx0), (dx0, cont w a1 a2 a3 a4 size .none d0), (d0, od0'), (x1, instObj 88 dx1), (dx1, cont w b1 b2 b3 b4 (size + more) .none d1), (d1, od1'), (lC, listOf #[.ref x0, .ref x1] nC), (dV, oV'), (lM, listOf #[.int m0' tM0', .int m1' tM1'] nM'), (lU', listOf vsU'.toArray nU'), (I, oI)] → oK'.data = .cell vK → od0'.IsDictOf (PySem.intKind PySem.Challenge.rw_aj5039_02.row.prog w) kvs0' → od1'.IsDictOf (PySem.intKind PySem.Challenge.rw_aj5039_02.row.prog w) kvs1' → oV'.IsDictOf (PySem.intKind PySem.Challenge.rw_aj5039_02.row.prog w) kvsV' → IntsAre vsU' us' → LInv size more us' kvs0' kvs1' kvsV' → m1' ≤ m0' → LCg.Off1 lU' [(L + 1, oC), (L + 2, oV), (L + 3, oK'), (lN, listOf vsN.toArray nN), (x0, instObj 88 dx0), (dx0, cont w a1 a2 a3 a4 size .none d0), (d0, od0'), (x1, instObj 88 dx1), (dx1, cont w b1 b2 b3 b4 (size + more) .none d1), (d1, od1'), (lC, listOf #[.ref x0, .ref x1] nC), (dV, oV'), (lM, listOf #[.int m0' tM0', .int m1' tM1'] nM'), (I, oI)] → Q .next { s with heap := h', toks := tk }) :
  wpAny (model PySem.Challenge.rw_aj5039_02.row.prog w) (callerA.deeper (lenv L fa cd)) (execs (loopBody.drop 4) (lenv L fa cd)) Q (fun _ _ => False) s := by
  have hln := x.len
  have hk0 : kvs0.length ≤ 10 := by omega
  have hk1 : kvs1.length ≤ 10 := by omega
  have hkV : kvsV.length ≤ 10 := Nat.le_trans (x.lenV (keysNodup_of_isDictOf hdV)) (by omega)
  have fin : ∀ (s : Shared) (m : Str → Option Value) (lU : Nat) (vsU : List Value) (us : List Int) (nU : Nat) (q : ∀ h' tk m', Fr h₀ L h' m' → Nm lN lM lU size more m' → News h₀ L h' [(L + 1, oC), (L + 2, oV), (L + 3, oK), (lN, listOf vsN.toArray nN), (x0, instObj 88 dx0), (dx0, cont w a1 a2 a3 a4 size .none d0), (d0, od0), (x1, instObj 88 dx1), (dx1, cont w b1 b2 b3 b4 (size + more) .none d1), (d1, od1), (lC, listOf #[.ref x0, .ref x1] nC), (dV, oVd), (lM, listOf #[.int m0 tM0, .int m1 tM1] nM), (lU, listOf vsU.toArray nU), (I, oI)] → Q .next { s with heap := h', toks := tk }), Fr h₀ L s.heap m → Nm lN lM lU size more m → News h₀ L s.heap [(L + 1, oC), (L + 2, oV), (L + 3, oK), (lN, listOf vsN.toArray nN), (x0, instObj 88 dx0), (dx0, cont w a1 a2 a3 a4 size .none d0), (d0, od0), (x1, instObj 88 dx1), (dx1, cont w b1 b2 b3 b4 (size + more) .none d1), (d1, od1), (lC, listOf #[.ref x0, .ref x1] nC), (dV, oVd), (lM, listOf #[.int m0 tM0, .int m1 tM1] nM), (lU, listOf vsU.toArray nU), (I, oI)] → IntsAre vsU us → LInv size more us kvs0 kvs1 kvsV → LCg.Off1 lU [(L + 1, oC), (L + 2, oV), (L + 3, oK), (lN, listOf vsN.toArray nN), (x0, instObj 88 dx0), (dx0, cont w a1 a2 a3 a4 size .none d0), (d0, od0), (x1, instObj 88 dx1), (dx1, cont w b1 b2 b3 b4 (size + more) .none d1), (d1, od1), (lC, listOf #[.ref x0, .ref x1] nC), (dV, oVd), (lM, listOf #[.int m0 tM0, .int m1 tM1] nM), (I, oI)] →
      wpAny (model PySem.Challenge.rw_aj5039_02.row.prog w) (callerA.deeper (lenv L fa cd)) (execs (loopBody.drop 6) (lenv L fa cd)) Q (fun _ _ => False) s := by
    intro s m lU vsU us nU q F nm N hU x oU
    have hln := x.len
    have hle : (kvs0.map (·.1)).length ≤ (kvs1.map (·.1)).length := by simpa using x.le
    refine wpAny_execs_cons (seg3c1 X T B F nm N hcC hcV rfl rfl rfl o1 o2 o3 o4 o5 o6 o7 o8 o9 o10 oU o14 lo0 lo1 loV hk0 hk1 hkV hd0 hd1 hdV fun h' tk m' s0 s1 so0 so1 F nm n0 n1 N hs0 hs1 hlt => ?_)
    refine wpAny_execs_cons (seg3c2 X T B F nm n0 n1 N hcC hcV rfl rfl rfl o1 o2 o3 o4 o5 o6 o7 o8 o9 o10 oU o14 lo0 lo1 loV hk0 hk1 hkV hd0 hd1 hdV hlt.1 hlt.2.1 hlt.2.2 hs0 hs1 (by omega) hle (fun k hk => x.keys.subset hk) (by rw [List.length_map]; omega) (by rw [List.length_map]; omega) rfl (fun e => by simpa using x.eq (by simpa using e)) fun h' tk F N => ?_)
    refine wpAny_execs_cons (seg3c3 X T B F nm N hcC hcV rfl rfl rfl o1 o2 o3 o4 o5 o6 o7 o8 o9 o10 oU o14 lo0 lo1 loV hk0 hk1 hkV hd0 hd1 hdV hU (by omega) x.nd x.z0 x.z1 (by omega) (by omega) (by rw [List.length_map]; omega) (by rw [List.length_map]; omega) (by omega) (by omega) (by rw [List.size_toArray, IntsAre.length hU, sizeLine_eq]; omega) x.n0 x.n1 (by have := suf_drop x.f0; rw [List.length_map] at this; rw [← Int.toNat_sub] at this; exact this) (by have := suf_drop x.f1; rw [List.length_map] at this; rw [← Int.toNat_sub] at this; exact this) fun h' tk m' F nm N => ?_)
    exact wpAny_execs_nil (q _ _ _ F nm N)
  have hvl : vsU.length = us.length := IntsAre.length hU
  refine wpAny_execs_cons (seg3a X T B F nm nk np N hcC hcV rfl rfl rfl o1 o2 o3 o4 o5 o6 o7 o8 o9 o10 oU o14 lo0 lo1 loV hk0 hk1 hkV hd0 hd1 hdV hcK hU hul fun h' tk lU' vsU' nU' F N hU' ho => ?_)
  have nm' : Nm lN lM lU' size more (fun y => if y = Str.ofString "used" then some (.ref lU') else m y) := ⟨(if_neg (by decide)).trans nm.numbers, (if_neg (by decide)).trans nm.missed, if_pos rfl, let ⟨t, e⟩ := nm.size; ⟨t, (if_neg (by decide)).trans e⟩, let ⟨t, e⟩ := nm.more; ⟨t, (if_neg (by decide)).trans e⟩⟩
  have nk' : (fun y => if y = Str.ofString "used" then some (.ref lU') else m y) (Str.ofString "kind") = some (.int kind tk9) := (if_neg (by decide)).trans nk
  have oU : LCg.Off1 lU' [(L + 1, oC), (L + 2, oV), (L + 3, oK), (lN, listOf vsN.toArray nN), (x0, instObj 88 dx0), (dx0, cont w a1 a2 a3 a4 size .none d0), (d0, od0), (x1, instObj 88 dx1), (dx1, cont w b1 b2 b3 b4 (size + more) .none d1), (d1, od1), (lC, listOf #[.ref x0, .ref x1] nC), (dV, oVd), (lM, listOf #[.int m0 tM0, .int m1 tM1] nM), (I, oI)] := off1_sub ho.2 (by lcg_sub)
  have hfl : (us.filter (fun n => decide (n ≠ key))).length ≤ us.length := List.length_filter_le _ _
  have hvl' : vsU'.length = (us.filter (fun n => decide (n ≠ key))).length := IntsAre.length hU'
  by_cases k3 : kind = 3
  · rw [if_pos k3] at x
    refine wpAny_execs_cons (seg3bF X T B F nm' nk' N hcC hcV rfl rfl rfl o1 o2 o3 o4 o5 o6 o7 o8 o9 o10 oU o14 lo0 lo1 loV hk0 hk1 hkV hd0 hd1 hdV hcK (by omega) (by simp [k3]) (by simp [k3]) (by simp [k3]) (by simp [k3]) fun h' tk nU'' F N => ?_)
    exact fin _ _ _ _ _ _ (fun h' tk m' F nm N => q _ _ _ _ _ _ _ _ _ _ _ _ _ _ _ _ _ _ _ _ F nm N hcK hd0 hd1 hdV hU' x hm10 oU) F nm' N hU' x oU
  · rw [if_neg k3] at x
    refine wpAny_execs_cons (seg3bT X T B F nm' nk' N hcC hcV rfl rfl rfl o1 o2 o3 o4 o5 o6 o7 o8 o9 o10 oU o14 lo0 lo1 loV hk0 hk1 hkV hd0 hd1 hdV hcK (by omega) (by simp [k3]) (by simp [k3]) (by simp [k3]) (by simp [k3]) fun h' tk nU'' F N => ?_)
    rw [List.push_toArray] at N
    have hU2 := hU'.append (IntsAre.cons key tkey IntsAre.nil)
    exact fin _ _ _ _ _ _ (fun h' tk m' F nm N => q _ _ _ _ _ _ _ _ _ _ _ _ _ _ _ _ _ _ _ _ F nm N hcK hd0 hd1 hdV hU2 x hm10 oU) F nm' N hU2 x oU
set_option maxHeartbeats 4000000 in
theorem turn02 (X : (hd.heap_39 w.params).In h₀) (T : Top topProg loose mean mg mb h₀) (B : Below callerA h₀ [] h₀)
  (F : Fr h₀ L s.heap m) (nm : Nm lN lM lU size more m) (np : m (Str.ofString "place") = some (.int place tp))
  (N : News h₀ L s.heap [(L + 1, oC), (L + 2, oV), (L + 3, oK), (lN, listOf vsN.toArray nN), (x0, instObj 88 dx0), (dx0, cont w a1 a2 a3 a4 size .none d0), (d0, od0), (x1, instObj 88 dx1), (dx1, cont w b1 b2 b3 b4 (size + more) .none d1), (d1, od1), (lC, listOf #[.ref x0, .ref x1] nC), (dV, oVd), (lM, listOf #[.int m0 tM0, .int m1 tM1] nM), (lU, listOf vsU.toArray nU), (I, oI)])
  (hcC : oC.data = .cell (some (.ref lC))) (hcV : oV.data = .cell (some (.ref dV)))
  (o1 : L + 3 < lN) (o2 : lN < dx0) (o3 : dx0 < x0) (o4 : x0 < d0) (o5 : d0 < dx1) (o6 : dx1 < x1) (o7 : x1 < d1) (o8 : d1 < lC) (o9 : lC < dV) (o10 : dV < lM) (oU : LCg.Off1 lU [(L + 1, oC), (L + 2, oV), (L + 3, oK), (lN, listOf vsN.toArray nN), (x0, instObj 88 dx0), (dx0, cont w a1 a2 a3 a4 size .none d0), (d0, od0), (x1, instObj 88 dx1), (dx1, cont w b1 b2 b3 b4 (size + more) .none d1), (d1, od1), (lC, listOf #[.ref x0, .ref x1] nC), (dV, oVd), (lM, listOf #[.int m0 tM0, .int m1 tM1] nM), (I, oI)]) (o14 : lM < I)
  (lo0 : (d0 == sysModules) = false) (lo1 : (d1 == sysModules) = false) (loV : (dV == sysModules) = false)
  (hd0 : od0.IsDictOf (PySem.intKind PySem.Challenge.rw_aj5039_02.row.prog w) kvs0) (hd1 : od1.IsDictOf (PySem.intKind PySem.Challenge.rw_aj5039_02.row.prog w) kvs1) (hdV : oVd.IsDictOf (PySem.intKind PySem.Challenge.rw_aj5039_02.row.prog w) kvsV)
  {vK : Option Value} (hcK : oK.data = .cell vK) (hN : IntsAre vsN ns) (hl0 : 2 ≤ place) (hl1 : place + 1 < ns.length) (hl2 : ns.length ≤ 34) (hs : 1 ≤ size) (hm : 0 ≤ more) (hU : IntsAre vsU us) (hm10 : m1 ≤ m0)
  (x : LInv size more us kvs0 kvs1 kvsV)
  (q : ∀ h' tk m' oK' od0' od1' oV' vsU' us' nU' lU' kvs0' kvs1' kvsV' m0' m1' tM0' tM1' nM' vK, Fr h₀ L h' m' → Nm lN lM lU' size more m' → News h₀ L h' [(L + 1, oC), (L + 2, oV), (L + 3, oK'), (lN, listOf vsN.toArray nN), (x0, instObj 88 dx0), (dx0, cont w a1 a2 a3 a4 size .none d0), (d0, od0'), (x1, instObj 88 dx1), (dx1, cont w b1 b2 b3 b4 (size + more) .none d1), (d1, od1'), (lC, listOf #[.ref x0, .ref x1] nC), (dV, oV'), (lM, listOf #[.int m0' tM0', .int m1' tM1'] nM'), (lU', listOf vsU'.toArray nU'), (I, oI)] → oK'.data = .cell vK → od0'.IsDictOf (PySem.intKind PySem.Challenge.rw_aj5039_02.row.prog w) kvs0' → od1'.IsDictOf (PySem.intKind PySem.Challenge.rw_aj5039_02.row.prog w) kvs1' → oV'.IsDictOf (PySem.intKind PySem.Challenge.rw_aj5039_02.row.prog w) kvsV' → IntsAre vsU' us' → LInv size more us' kvs0' kvs1' kvsV' → m1' ≤ m0' → LCg.Off1 lU' [(L + 1, oC), (L + 2, oV), (L + 3, oK'), (lN, listOf vsN.toArray nN), (x0, instObj 88 dx0), (dx0, cont w a1 a2 a3 a4 size .none d0), (d0, od0'), (x1, instObj 88 dx1), (dx1, cont w b1 b2 b3 b4 (size + more) .none d1), (d1, od1'), (lC, listOf #[.ref x0, .ref x1] nC), (dV, oV'), (lM, listOf #[.int m0' tM0', .int m1' tM1'] nM'), (I, oI)] → Q .next { s with heap := h', toks := tk }) :
  wpAny (model PySem.Challenge.rw_aj5039_02.row.prog w) (callerA.deeper (lenv L fa cd)) (execs loopBody (lenv L fa cd)) Q (fun _ _ => False) s := by
  have hln := x.len
  have hk0 : kvs0.length ≤ 10 := by omega
  have hk1 : kvs1.length ≤ 10 := by omega
  have hkV : kvsV.length ≤ 10 := Nat.le_trans (x.lenV (keysNodup_of_isDictOf hdV)) (by omega)
  refine execs_app (a := loopBody.take 3) (b := loopBody.drop 3) (seg1 X T B F nm np N hcC hcV rfl rfl rfl o1 o2 o3 o4 o5 o6 o7 o8 o9 o10 oU o14 lo0 lo1 loV hk0 hk1 hkV hd0 hd1 hdV hcK hN hl0 hl1 hl2 fun h' tk m lW s0 s1 so0 so1 oK nW tk9 tkey F nm nk np nw N hcK hs0 hs1 hlt hw => ?_)
  have hk : 0 ≤ (ns.getD (place + 1).toNat 0).fmod 7 ∧ (ns.getD (place + 1).toNat 0).fmod 7 < 7 := ⟨Int.fmod_nonneg_of_pos _ (by decide), Int.fmod_lt_of_pos _ (by decide)⟩
  have hkd : 0 ≤ (ns.getD place.toNat 0).fmod 4 ∧ (ns.getD place.toNat 0).fmod 4 < 4 := ⟨Int.fmod_nonneg_of_pos _ (by decide), Int.fmod_lt_of_pos _ (by decide)⟩
  generalize (ns.getD (place + 1).toNat 0).fmod 7 = key at *
  generalize (ns.getD place.toNat 0).fmod 4 = kind at *
  have go : ∀ (h' : Heap) (tk : Nat) (m : Str → Option Value) (od0 od1 oVd : Obj) (kvs0 kvs1 kvsV : List (Int × Value)) (m0 m1 : Int) (tM0 tM1 : Tok) (nM : Nat), Fr h₀ L h' m → Nm lN lM lU size more m → m (Str.ofString "kind") = some (.int kind tk9) → m (Str.ofString "place") = some (.int place tp) → News h₀ L h' [(L + 1, oC), (L + 2, oV), (L + 3, oK), (lN, listOf vsN.toArray nN), (x0, instObj 88 dx0), (dx0, cont w a1 a2 a3 a4 size .none d0), (d0, od0), (x1, instObj 88 dx1), (dx1, cont w b1 b2 b3 b4 (size + more) .none d1), (d1, od1), (lC, listOf #[.ref x0, .ref x1] nC), (dV, oVd), (lM, listOf #[.int m0 tM0, .int m1 tM1] nM), (lU, listOf vsU.toArray nU), (I, oI)] →
      od0.IsDictOf (PySem.intKind PySem.Challenge.rw_aj5039_02.row.prog w) kvs0 → od1.IsDictOf (PySem.intKind PySem.Challenge.rw_aj5039_02.row.prog w) kvs1 → oVd.IsDictOf (PySem.intKind PySem.Challenge.rw_aj5039_02.row.prog w) kvsV → m1 ≤ m0 → LInv size more (if kind = 3 then us.filter (fun n => decide (n ≠ key)) else us.filter (fun n => decide (n ≠ key)) ++ [key]) kvs0 kvs1 kvsV →
      wpAny (model PySem.Challenge.rw_aj5039_02.row.prog w) (callerA.deeper (lenv L fa cd)) (execs (loopBody.drop 4) (lenv L fa cd)) Q (fun _ _ => False) { s with heap := h', toks := tk } := by
    intro h' tk m od0 od1 oVd kvs0 kvs1 kvsV m0 m1 tM0 tM1 nM F nm nk np N hd0 hd1 hdV hm10 x
    exact tail02 X T B F nm nk np N hcC hcV o1 o2 o3 o4 o5 o6 o7 o8 o9 o10 oU o14 lo0 lo1 loV hd0 hd1 hdV hcK hU (by omega) hm10 x fun h' tk m' oK' od0' od1' oV' vsU' us' nU' lU' kvs0' kvs1' kvsV' m0' m1' tM0' tM1' nM' vK F nm N a b c d e f g i => q h' tk m' oK' od0' od1' oV' vsU' us' nU' lU' kvs0' kvs1' kvsV' m0' m1' tM0' tM1' nM' vK F nm N a b c d e f g i
  by_cases k3 : kind = 3
  · refine wpAny_execs_cons (seg2F (bb0 := (valueAt kvs0 key).isSome) (bb1 := (valueAt kvs1 key).isSome) X T B F nm nk np nw N hcC hcV rfl rfl rfl o1 o2 o3 o4 o5 o6 o7 o8 o9 o10 oU o14 lo0 lo1 loV hk0 hk1 hkV hd0 hd1 hdV hlt.1 hlt.2.1 hlt.2.2 hw.1 hw.2.1 hw.2.2.1 hw.2.2.2 hcK hs0 hs1 (by simp [k3]) (by simp [k3]) (by simp [k3]) rfl rfl (any_isSome _ _) (any_isSome _ _) fun h' tk m' od0' od1' oV' tM0' tM1' nM' F nm nk np N hd0 hd1 hdV => ?_)
    exact go _ _ _ _ _ _ _ _ _ _ _ _ _ _ F nm nk np N hd0 hd1 hdV hm10 (by rw [if_pos k3]; exact x.drop key)
  · by_cases k2 : kind = 2
    · refine wpAny_execs_cons (seg2E X T B F nm nk np nw N hcC hcV rfl rfl rfl o1 o2 o3 o4 o5 o6 o7 o8 o9 o10 oU o14 lo0 lo1 loV hk0 hk1 hkV hd0 hd1 hdV hlt.1 hlt.2.1 hlt.2.2 hw.1 hw.2.1 hw.2.2.1 hw.2.2.2 hcK hs0 hs1 (by simp [k2]) (by simp [k2]) (by simp [k2]) fun h' tk m' od0' od1' oV' tM0' tM1' nM' F nm nk np N hd0 hd1 hdV => ?_)
      exact go _ _ _ _ _ _ _ _ _ _ _ _ _ _ F nm nk np N hd0 hd1 hdV hm10 (by rw [if_neg k3]; exact x.touch hs hm hk (by rw [stored_at, if_pos rfl]) fun a e => by rw [stored_at, if_neg e])
    · have kf : ([0, 1].any fun x => x == kind) = true := by
        have : kind = 0 ∨ kind = 1 := by omega
        rcases this with e | e <;> simp [e]
      cases h0 : valueAt kvs0 key with
      | some v0 =>
        have hV := x.v0 _ (mem_of_valueAt h0)
        obtain ⟨i, t, rfl⟩ := x.vi _ _ hV
        have i0 : (valueAt kvs0 key).isSome = true := by rw [h0]; rfl
        have i1 := x.up i0
        obtain ⟨v1, h1⟩ := Option.isSome_iff_exists.mp i1
        have hV1 := x.v1 _ (mem_of_valueAt h1)
        obtain rfl : v1 = .int i t := Option.some.inj (hV1.symm.trans hV)
        refine wpAny_execs_cons (seg2D X T B F nm nk np nw N hcC hcV rfl rfl rfl o1 o2 o3 o4 o5 o6 o7 o8 o9 o10 oU o14 lo0 lo1 loV hk0 hk1 hkV hd0 hd1 hdV hlt.1 hlt.2.1 hlt.2.2 hw.1 hw.2.1 hw.2.2.1 hw.2.2.2 hcK hs0 hs1 kf h0 h1 hV ((any_isSome _ _).trans i0) ((any_isSome _ _).trans i1) (by rw [hV]; rfl) fun h' tk m' od0' od1' oV' tM0' tM1' nM' F nm nk np N hd0 hd1 hdV => ?_)
        exact go _ _ _ _ _ _ _ _ _ _ _ _ _ _ F nm nk np N hd0 hd1 hdV hm10 (by rw [if_neg k3, ← setD_in (mx := size) i0, ← setD_in (mx := size + more) i1]; exact x.touch hs hm hk hV fun _ _ => rfl)
      | none =>
        have n0 : (valueAt kvs0 key).isSome = false := by rw [h0]; rfl
        cases h1 : valueAt kvs1 key with
        | some v1 =>
          have hV := x.v1 _ (mem_of_valueAt h1)
          obtain ⟨i, t, rfl⟩ := x.vi _ _ hV
          have i1 : (valueAt kvs1 key).isSome = true := by rw [h1]; rfl
          refine wpAny_execs_cons (seg2C X T B F nm nk np nw N hcC hcV rfl rfl rfl o1 o2 o3 o4 o5 o6 o7 o8 o9 o10 oU o14 lo0 lo1 loV hk0 hk1 hkV hd0 hd1 hdV hlt.1 hlt.2.1 hlt.2.2 hw.1 hw.2.1 hw.2.2.1 hw.2.2.2 hcK hs0 hs1 kf h0 h1 hV ((any_isSome _ _).trans n0) ((any_isSome _ _).trans i1) (by rw [hV]; rfl) fun h' tk m' od0' od1' oV' tM0' tM1' nM' F nm nk np N hd0 hd1 hdV => ?_)
          exact go _ _ _ _ _ _ _ _ _ _ _ _ _ _ F nm nk np N hd0 hd1 hdV (by omega) (by rw [if_neg k3, ← setD_in (mx := size + more) i1]; exact x.touch hs hm hk hV fun _ _ => rfl)
        | none =>
          have n1 : (valueAt kvs1 key).isSome = false := by rw [h1]; rfl
          cases hV : valueAt kvsV key with
          | some v =>
            obtain ⟨i, t, rfl⟩ := x.vi _ _ hV
            refine wpAny_execs_cons (seg2B X T B F nm nk np nw N hcC hcV rfl rfl rfl o1 o2 o3 o4 o5 o6 o7 o8 o9 o10 oU o14 lo0 lo1 loV hk0 hk1 hkV hd0 hd1 hdV hlt.1 hlt.2.1 hlt.2.2 hw.1 hw.2.1 hw.2.2.1 hw.2.2.2 hcK hs0 hs1 kf h0 h1 hV ((any_isSome _ _).trans n0) ((any_isSome _ _).trans n1) (by rw [hV]; rfl) fun h' tk m' od0' od1' oV' tM0' tM1' nM' F nm nk np N hd0 hd1 hdV => ?_)
            exact go _ _ _ _ _ _ _ _ _ _ _ _ _ _ F nm nk np N hd0 hd1 hdV (by omega) (by rw [if_neg k3]; exact x.touch hs hm hk hV fun _ _ => rfl)
          | none =>
            refine wpAny_execs_cons (seg2A X T B F nm nk np nw N hcC hcV rfl rfl rfl o1 o2 o3 o4 o5 o6 o7 o8 o9 o10 oU o14 lo0 lo1 loV hk0 hk1 hkV hd0 hd1 hdV hlt.1 hlt.2.1 hlt.2.2 hw.1 hw.2.1 hw.2.2.1 hw.2.2.2 hcK hs0 hs1 kf h0 h1 hV ((any_isSome _ _).trans n0) ((any_isSome _ _).trans n1) (by rw [hV]; rfl) fun h' tk m' od0' od1' oV' tM0' tM1' nM' F nm nk np N hd0 hd1 hdV => ?_)
            exact go _ _ _ _ _ _ _ _ _ _ _ _ _ _ F nm nk np N hd0 hd1 hdV (by omega) (by rw [if_neg k3]; exact x.touch hs hm hk (by rw [stored_at, if_pos rfl]) fun a e => by rw [stored_at, if_neg e])
end
end Mine
end
section
open PySem PySem.W PyProof.Rows PySem.Calls PyProof.V PySem.Spec
set_option maxRecDepth 100000
namespace Mine
/-- a stop for the walker -/
def Halt (P : Prop) : Prop := P
theorem halt {P : Prop} (h : Halt P) : P := h
theorem krs_inv {prog : Program} {w : World} {A : Around} {E : Value → Shared → Prop} {s : Shared} {env : Env} {h₀ : Heap} {x : Str} {body : List Stmt} {Q : Flow → Shared → Prop} {I : Addr} {a c : Int} {n : Nat} (J : Nat → (Str → Option Value) → List (Addr × Obj) → Prop)
    (step : ∀ i m news t h tk, i < n → J i m news → Fr h₀ env.locals h (fun y => if y = x then some (.int (a + (i : Int) * c) t) else m y) → News h₀ env.locals h ((I, krsIt (a + ((i + 1 : Nat) : Int) * c) ((n : Int) - ((i + 1 : Nat) : Int)) c) :: news) →
      wpAny (model prog w) A (execs body env) (fun f s₂ => f = .next ∧ ∃ h' tk' m' news', s₂ = { s with heap := h', toks := tk' } ∧ Fr h₀ env.locals h' m' ∧ News h₀ env.locals h' ((I, krsIt (a + ((i + 1 : Nat) : Int) * c) ((n : Int) - ((i + 1 : Nat) : Int)) c) :: news') ∧ (∀ p ∈ news', p.1 ≠ I) ∧ J (i + 1) m' news') E { s with heap := h, toks := tk })
    (fin : ∀ m news h tk, J n m news → Fr h₀ env.locals h m → News h₀ env.locals h news → Q .next { s with heap := h, toks := tk }) :
    ∀ k i m news, i + k = n → J i m news → KrsRest prog w A E h₀ env x body Q s I a c n k i m news := by
  intro k
  induction k with
  | zero => intro i m news e j h tk F N; rw [Nat.add_zero] at e; exact fin m news h tk (e ▸ j) F N
  | succ k ih =>
    intro i m news e j t h tk F N
    refine wpAny_mono (step i m news t h tk (by omega) j F N) (fun f s₂ p => ?_) fun _ _ e => e
    obtain ⟨rfl, h', tk', m', news', rfl, F', N', o, j'⟩ := p
    exact ⟨h', tk', m', news', rfl, F', N', o, ih (i + 1) m' news' (by omega) j'⟩
local macro_rules | `(tactic| walk_at "pyIter ref") => `(tactic| ((with_reducible show wpAny _ _ (pyIter (Value.ref _)) (fun it s₂ => LoopAtV _ _ _ _ _ _ _ _ _ it s₂) _ _); refine halt ?_))
local macro_rules | `(tactic| walk_at "exec For Name Call cons nil") => `(tactic| (k_here; k_dflt (refine' For_F ?F ?x ?p ?_ ?s ?E; (case F => k_asm); (case x => rfl); (case p => rfl); (case s => intro _; rfl); (case E => exact PassesOwn.never); k_whole)))
section
variable {w : World} {mg mb : Str → Option Value} {mean : ExcName → Option Value} {h₀ : Heap} {L fa cd : Nat} {m : Str → Option Value} {s : Shared} {Q : Flow → Shared → Prop}
  {lN x0 dx0 d0 x1 dx1 d1 lC dV lM lU I : Nat} {oC oV oK od0 od1 oVd oI : Obj} {vsN vsU : List Value} {ns us us0 : List Int} {nN nM nU nC : Nat} {a1 a2 a3 a4 b1 b2 b3 b4 tp tM0 tM1 tk9 tkey : Tok} {place size more m0 m1 kind key : Int} {kvs0 kvs1 kvsV : List (Int × Value)}
set_option maxHeartbeats 8000000 in
theorem loop02 (X : (hd.heap_39 w.params).In h₀) (T : Top topProg loose mean mg mb h₀) (B : Below callerA h₀ [] h₀)
  (F : Fr h₀ L s.heap m) (nm : Nm lN lM lU size more m)
  (N : News h₀ L s.heap [(L + 1, oC), (L + 2, oV), (L + 3, oK), (lN, listOf vsN.toArray nN), (x0, instObj 88 dx0), (dx0, cont w a1 a2 a3 a4 size .none d0), (d0, od0), (x1, instObj 88 dx1), (dx1, cont w b1 b2 b3 b4 (size + more) .none d1), (d1, od1), (lC, listOf #[.ref x0, .ref x1] nC), (dV, oVd), (lM, listOf #[.int m0 tM0, .int m1 tM1] nM), (lU, listOf vsU.toArray nU)])
  (hcC : oC.data = .cell (some (.ref lC))) (hcV : oV.data = .cell (some (.ref dV)))
  (o1 : L + 3 < lN) (o2 : lN < dx0) (o3 : dx0 < x0) (o4 : x0 < d0) (o5 : d0 < dx1) (o6 : dx1 < x1) (o7 : x1 < d1) (o8 : d1 < lC) (o9 : lC < dV) (o10 : dV < lM) (oU : LCg.Off1 lU [(L + 1, oC), (L + 2, oV), (L + 3, oK), (lN, listOf vsN.toArray nN), (x0, instObj 88 dx0), (dx0, cont w a1 a2 a3 a4 size .none d0), (d0, od0), (x1, instObj 88 dx1), (dx1, cont w b1 b2 b3 b4 (size + more) .none d1), (d1, od1), (lC, listOf #[.ref x0, .ref x1] nC), (dV, oVd), (lM, listOf #[.int m0 tM0, .int m1 tM1] nM)])
  (lo0 : (d0 == sysModules) = false) (lo1 : (d1 == sysModules) = false) (loV : (dV == sysModules) = false)
  (hd0 : od0.IsDictOf (PySem.intKind PySem.Challenge.rw_aj5039_02.row.prog w) kvs0) (hd1 : od1.IsDictOf (PySem.intKind PySem.Challenge.rw_aj5039_02.row.prog w) kvs1) (hdV : oVd.IsDictOf (PySem.intKind PySem.Challenge.rw_aj5039_02.row.prog w) kvsV) (o11 : lC < lU) (o12 : lU < dV)
  {vK : Option Value} (hcK : oK.data = .cell vK) (hN : IntsAre vsN ns) (hl1 : 2 ≤ ns.length) (hl2 : ns.length ≤ 34) (hs : 1 ≤ size) (hm : 0 ≤ more) (hU : IntsAre vsU us) (hm10 : m1 ≤ m0)
  (x : LInv size more us kvs0 kvs1 kvsV)
  (q : ∀ h' tk m' oK' od0' od1' oV' vsU' us' nU' lU' kvs0' kvs1' kvsV' m0' m1' tM0' tM1' nM' vK, Fr h₀ L h' m' → Nm lN lM lU' size more m' → News h₀ L h' [(L + 1, oC), (L + 2, oV), (L + 3, oK'), (lN, listOf vsN.toArray nN), (x0, instObj 88 dx0), (dx0, cont w a1 a2 a3 a4 size .none d0), (d0, od0'), (x1, instObj 88 dx1), (dx1, cont w b1 b2 b3 b4 (size + more) .none d1), (d1, od1'), (lC, listOf #[.ref x0, .ref x1] nC), (dV, oV'), (lM, listOf #[.int m0' tM0', .int m1' tM1'] nM'), (lU', listOf vsU'.toArray nU')] → oK'.data = .cell vK → od0'.IsDictOf (PySem.intKind PySem.Challenge.rw_aj5039_02.row.prog w) kvs0' → od1'.IsDictOf (PySem.intKind PySem.Challenge.rw_aj5039_02.row.prog w) kvs1' → oV'.IsDictOf (PySem.intKind PySem.Challenge.rw_aj5039_02.row.prog w) kvsV' → IntsAre vsU' us' → LInv size more us' kvs0' kvs1' kvsV' → m1' ≤ m0' → LCg.Off1 lU' [(L + 1, oC), (L + 2, oV), (L + 3, oK'), (lN, listOf vsN.toArray nN), (x0, instObj 88 dx0), (dx0, cont w a1 a2 a3 a4 size .none d0), (d0, od0'), (x1, instObj 88 dx1), (dx1, cont w b1 b2 b3 b4 (size + more) .none d1), (d1, od1'), (lC, listOf #[.ref x0, .ref x1] nC), (dV, oV'), (lM, listOf #[.int m0' tM0', .int m1' tM1'] nM')] → Q .next { s with heap := h', toks := tk }) :
  wpAny (model PySem.Challenge.rw_aj5039_02.row.prog w) (callerA.deeper (lenv L fa cd)) (exec ((defBody lawStmt).getD 5 (Stmt.Pass default)) (lenv L fa cd)) Q (fun _ _ => False) s := by
  have hvN : vsN.toArray.size = ns.length := by rw [List.size_toArray, IntsAre.length hN]
  have F0 := F
  have X0 := X
  revert X
  k_fill
  intro X
  obtain ⟨tsz, tmo, enm⟩ := nm.open
  have F1 := fr_eq F enm
  clear F
  conv => arg 3; arg 1; whnf
  k_steps
  rename_i h1 tk1 t1 u1 v1 hR F1 N1 hkeep
  unfold Halt
  have hrs : Builtin.Range.rangeSize 2 ((ns.length : Int) - 1) 2 = (((ns.length - 2) / 2 : Nat) : Int) := by
    unfold Builtin.Range.rangeSize
    simp only [show ((2 : Int) > 0) by decide, if_true]
    split <;> omega
  have hsm : Builtin.Range.small 2 ((ns.length : Int) - 1) 2 = true := by
    unfold Builtin.Range.small
    rw [hrs]
    simp only [Builtin.Range.rangeFitsLong, Bool.and_eq_true, Bool.or_eq_true, decide_eq_true_eq, beq_iff_eq, show ((2 : Int) > 0) by decide, if_true]
    omega
  refine krs_iter (n := (ns.length - 2) / 2) rfl hR hsm hrs F1 N1 fun I hI => ?_
  have hMI : lM < I := hI (lM, _) (by k_mem)
  have hUI : lU < I := hI (lU, _) (by k_mem)
  clear hI
  refine krs_inv (body := loopBody) (fun (i : Nat) (m : Str → Option Value) (news : List (Addr × Obj)) => ∃ (oK od0 od1 oVd : Obj) (vsU : List Value) (us : List Int) (nU : Nat) (lU : Nat) (kvs0 kvs1 kvsV : List (Int × Value)) (m0 m1 : Int) (tM0 tM1 : Tok) (nM : Nat) (vK : Option Value), news = [(L + 1, oC), (L + 2, oV), (L + 3, oK), (lN, listOf vsN.toArray nN), (x0, instObj 88 dx0), (dx0, cont w a1 a2 a3 a4 size .none d0), (d0, od0), (x1, instObj 88 dx1), (dx1, cont w b1 b2 b3 b4 (size + more) .none d1), (d1, od1), (lC, listOf #[.ref x0, .ref x1] nC), (dV, oVd), (lM, listOf #[.int m0 tM0, .int m1 tM1] nM), (lU, listOf vsU.toArray nU)] ∧ Nm lN lM lU size more m ∧ oK.data = .cell vK ∧ od0.IsDictOf (PySem.intKind PySem.Challenge.rw_aj5039_02.row.prog w) kvs0 ∧ od1.IsDictOf (PySem.intKind PySem.Challenge.rw_aj5039_02.row.prog w) kvs1 ∧ oVd.IsDictOf (PySem.intKind PySem.Challenge.rw_aj5039_02.row.prog w) kvsV ∧ IntsAre vsU us ∧ LInv size more us kvs0 kvs1 kvsV ∧ m1 ≤ m0 ∧ (∀ oI, LCg.Off1 lU [(L + 1, oC), (L + 2, oV), (L + 3, oK), (lN, listOf vsN.toArray nN), (x0, instObj 88 dx0), (dx0, cont w a1 a2 a3 a4 size .none d0), (d0, od0), (x1, instObj 88 dx1), (dx1, cont w b1 b2 b3 b4 (size + more) .none d1), (d1, od1), (lC, listOf #[.ref x0, .ref x1] nC), (dV, oVd), (lM, listOf #[.int m0 tM0, .int m1 tM1] nM), (I, oI)])) ?_ ?_ ((ns.length - 2) / 2) 0 _ _ (Nat.zero_add _) ?_
  · rintro i m news t h tk hi ⟨oK, od0, od1, oVd, vsU, us, nU, lU, kvs0, kvs1, kvsV, m0, m1, tM0, tM1, nM, vK, rfl, nm, hcK, hd0, hd1, hdV, hU, x, hm10, oU⟩ F N
    have hpl : (if Str.ofString "place" = Str.ofString "place" then some (Value.int (2 + (i : Int) * 2) t) else m (Str.ofString "place")) = some (.int (2 + (i : Int) * 2) t) := if_pos rfl
    have nm' : Nm lN lM lU size more (fun y => if y = Str.ofString "place" then some (.int (2 + (i : Int) * 2) t) else m y) := ⟨(if_neg (by decide)).trans nm.numbers, (if_neg (by decide)).trans nm.missed, (if_neg (by decide)).trans nm.used, let ⟨t, e⟩ := nm.size; ⟨t, (if_neg (by decide)).trans e⟩, let ⟨t, e⟩ := nm.more; ⟨t, (if_neg (by decide)).trans e⟩⟩
    refine turn02 (I := I) (oI := krsIt (2 + ((i + 1 : Nat) : Int) * 2) (((((ns.length - 2) / 2 : Nat) : Int)) - ((i + 1 : Nat) : Int)) 2) X0 T B F nm' hpl (News.sub N (by lcg_sub)) hcC hcV o1 o2 o3 o4 o5 o6 o7 o8 o9 o10 (oU _) hMI lo0 lo1 loV hd0 hd1 hdV hcK hN (by omega) (by omega) hl2 hs hm hU hm10 x fun h' tk m' oK' od0' od1' oV' vsU' us' nU' lU' kvs0' kvs1' kvsV' m0' m1' tM0' tM1' nM' vK F nm N a b c d e f g i => ?_
    have hne : I ≠ lU' := (off1_ne i (by k_mem)).symm
    have hoff : LCg.Off1 I [(L + 1, oC), (L + 2, oV), (L + 3, oK'), (lN, listOf vsN.toArray nN), (x0, instObj 88 dx0), (dx0, cont w a1 a2 a3 a4 size .none d0), (d0, od0'), (x1, instObj 88 dx1), (dx1, cont w b1 b2 b3 b4 (size + more) .none d1), (d1, od1'), (lC, listOf #[.ref x0, .ref x1] nC), (dV, oV'), (lM, listOf #[.int m0' tM0', .int m1' tM1'] nM'), (lU', listOf vsU'.toArray nU')] := ⟨by omega, by omega, by omega, by omega, by omega, by omega, by omega, by omega, by omega, by omega, by omega, by omega, by omega, hne.symm, trivial⟩
    exact ⟨rfl, h', tk, m', _, rfl, F, News.sub N (by lcg_sub), fun p hp => (off1_ne hoff hp).symm, oK', od0', od1', oV', vsU', us', nU', lU', kvs0', kvs1', kvsV', m0', m1', tM0', tM1', nM', vK, rfl, nm, a, b, c, d, e, f, g, fun _ => i⟩
  · rintro m news h tk ⟨oK, od0, od1, oVd, vsU, us, nU, lU, kvs0, kvs1, kvsV, m0, m1, tM0, tM1, nM, vK, rfl, nm, hcK, hd0, hd1, hdV, hU, x, hm10, oU⟩ F N
    exact q h tk m oK od0 od1 oVd vsU us nU lU kvs0 kvs1 kvsV m0 m1 tM0 tM1 nM vK F nm N hcK hd0 hd1 hdV hU x hm10 (off1_sub (oU default) (by lcg_sub))
  · refine ⟨oK, od0, od1, oVd, vsU, us, nU, lU, kvs0, kvs1, kvsV, m0, m1, tM0, tM1, nM, vK, rfl, ⟨rfl, rfl, rfl, ⟨_, rfl⟩, ⟨_, rfl⟩⟩, hcK, hd0, hd1, hdV, hU, x, hm10, fun oI => ⟨by omega, by omega, by omega, by omega, by omega, by omega, by omega, by omega, by omega, by omega, by omega, by omega, by omega, by omega, trivial⟩⟩
end
end Mine
end
section
open PySem PySem.W PyProof.Rows PySem.Calls PyProof.V PySem.Spec
set_option maxRecDepth 100000
namespace Mine
local macro_rules | `(tactic| walk_at "eval Dict nil nil") => `(tactic| (k_here; k_dflt (refine' newDict_K ?k1 ?k2 (TopRead.nolimit (by k_asm)) ?_; (case k1 => k_asm); (case k2 => k_asm); k_whole); intro d' h' o' F' N' l1 lo' hs' fs' hi' fi'; (try k_lt l1)))
section
variable {w : World} {mg mb : Str → Option Value} {mean : ExcName → Option Value} {h₀ : Heap} {L fa cd : Nat} {m : Str → Option Value} {s : Shared} {Q : Flow → Shared → Prop}
  {lN x0 dx0 d0 x1 dx1 d1 lC dV lM lU I : Nat} {oC oV oK od0 od1 oVd oI : Obj} {vsN vsU : List Value} {ns us us0 : List Int} {nN nM nU nC : Nat} {a1 a2 a3 a4 b1 b2 b3 b4 tp tM0 tM1 tk9 tkey : Tok} {place size more m0 m1 kind key : Int} {kvs0 kvs1 kvsV : List (Int × Value)}
set_option maxHeartbeats 8000000 in
theorem init1 (X : (hd.heap_39 w.params).In h₀) (T : Top topProg loose mean mg mb h₀) (B : Below callerA h₀ [] h₀)
  (F : Fr h₀ L s.heap m) (nn : m (Str.ofString "numbers") = some (.ref lN))
  (N : News h₀ L s.heap [(L + 1, oC), (L + 2, oV), (L + 3, oK), (lN, listOf vsN.toArray nN)])
  (o1 : L + 3 < lN) (hN : IntsAre vsN ns) (hl1 : 2 ≤ ns.length) (hl2 : ns.length ≤ 34)
  (q : ∀ h' tk tsz tmo, Fr h₀ L h' (fun y => if y = Str.ofString "more" then some (.int ((ns.getD 1 0).fmod 4) tmo) else if y = Str.ofString "size" then some (.int (1 + (ns.getD 0 0).fmod 3) tsz) else if y = Str.ofString "numbers" then some (.ref lN) else m y) → News h₀ L h' [(L + 1, oC), (L + 2, oV), (L + 3, oK), (lN, listOf vsN.toArray nN)] → Q .next { s with heap := h', toks := tk }) :
  wpAny (model PySem.Challenge.rw_aj5039_02.row.prog w) (callerA.deeper (lenv L fa cd)) (execs (((defBody lawStmt).drop 1).take 2) (lenv L fa cd)) Q (fun _ _ => False) s := by
  revert X
  k_fill
  intro X
  have F1 := fr_put nn F
  clear F
  conv => arg 3; arg 1; whnf
  k_steps
  all_goals first | exact wpAny_execs_nil (q _ _ _ _ (by assumption) (News.sub (by assumption) (by lcg_sub)))
set_option maxHeartbeats 8000000 in
theorem init2 (X : (hd.heap_39 w.params).In h₀) (T : Top topProg loose mean mg mb h₀) (B : Below callerA h₀ [] h₀) {tsz tmo : Tok}
  (F : Fr h₀ L s.heap m) (nn : m (Str.ofString "numbers") = some (.ref lN)) (nz : m (Str.ofString "size") = some (.int size tsz)) (no : m (Str.ofString "more") = some (.int more tmo))
  (N : News h₀ L s.heap [(L + 1, oC), (L + 2, oV), (L + 3, oK), (lN, listOf vsN.toArray nN)])
  (o1 : L + 3 < lN) (hcC : oC.data = .cell none) (hcV : oV.data = .cell none) (hcK : oK.data = .cell none) (hs : 1 ≤ size) (hs3 : size ≤ 3) (hm : 0 ≤ more) (hm3 : more ≤ 3)
  (q : ∀ (h' : Heap) (tk : Nat) (m' : Str → Option Value) (oD oC' oV' oVd od0 od1 : Obj) (lD lM dV lU lC d1 x1 dx1 d0 x0 dx0 : Nat) (a1 a2 a3 a4 b1 b2 b3 b4 tM0 tM1 : Tok), Fr h₀ L h' m' → Nm lN lM lU size more m' →
    News h₀ L h' [(lD, oD), (lM, listOf #[.int 0 tM0, .int 0 tM1] 0), (dV, oVd), (lU, listOf #[] 0), (lC, listOf #[.ref x0, .ref x1] 0), (d1, od1), (x1, instObj 88 dx1), (dx1, cont w b1 b2 b3 b4 (size + more) .none d1), (d0, od0), (x0, instObj 88 dx0), (dx0, cont w a1 a2 a3 a4 size .none d0), (L + 1, oC'), (L + 2, oV'), (L + 3, oK), (lN, listOf vsN.toArray nN)] →
    oC'.data = .cell (some (.ref lC)) → oV'.data = .cell (some (.ref dV)) → od0.IsDictOf (PySem.intKind PySem.Challenge.rw_aj5039_02.row.prog w) [] → od1.IsDictOf (PySem.intKind PySem.Challenge.rw_aj5039_02.row.prog w) [] → oVd.IsDictOf (PySem.intKind PySem.Challenge.rw_aj5039_02.row.prog w) [] → (d0 == sysModules) = false → (d1 == sysModules) = false → (dV == sysModules) = false →
    (lN < dx0 ∧ dx0 < x0 ∧ x0 < d0 ∧ d0 < dx1 ∧ dx1 < x1 ∧ x1 < d1 ∧ d1 < lC ∧ lC < dV ∧ dV < lM ∧ lC < lU ∧ lU < dV) → Q .next { s with heap := h', toks := tk }) :
  wpAny (model PySem.Challenge.rw_aj5039_02.row.prog w) (callerA.deeper (lenv L fa cd)) (execs (((defBody lawStmt).drop 3).take 2) (lenv L fa cd)) Q (fun _ _ => False) s := by
  revert X
  k_fill
  intro X
  have F1 := fr_put nn F
  have F2 := fr_put (m := fun y => if y = Str.ofString "numbers" then some (.ref lN) else m y) (x := Str.ofString "size") (v := .int size tsz) ((if_name nn _).trans nz) F1
  have F3 := fr_put (m := fun y => if y = Str.ofString "size" then some (.int size tsz) else if y = Str.ofString "numbers" then some (.ref lN) else m y) (x := Str.ofString "more") (v := .int more tmo) ((if_name (m := fun y => if y = Str.ofString "numbers" then some (.ref lN) else m y) ((if_name nn _).trans nz) _).trans ((if_name nn _).trans no)) F2
  clear F F1 F2
  conv => arg 3; arg 1; whnf
  k_steps
  all_goals first | exact wpAny_execs_nil (q _ _ _ _ _ _ _ _ _ _ _ _ _ _ _ _ _ _ _ _ _ _ _ _ _ _ _ _ _ _ (by assumption) ⟨by exact rfl, by exact rfl, by exact rfl, ⟨_, by exact rfl⟩, ⟨_, by exact rfl⟩⟩ (by assumption) (by assumption) (by assumption) (by assumption) (by assumption) (by assumption) (by assumption) (by assumption) (by assumption) ⟨by omega, by omega, by omega, by omega, by omega, by omega, by omega, by omega, by omega, by omega, by omega⟩)
end
end Mine
end
section
open PySem PySem.W PyProof.Rows PySem.Calls PyProof.V PySem.Spec
set_option maxRecDepth 100000
namespace Mine
theorem foldl_in (f : Int → Bool) (us : List Int) : ∀ l, us.foldl (fun l n => if f n = true then l ++ [n] else l) l = l ++ us.filter f := by
  induction us with
  | nil => intro l; simp
  | cons n r ih =>
    intro l
    rw [List.foldl_cons, ih]
    by_cases e : f n = true
    · simp [e]
    · simp [e]
section
variable {h₀ h' : Heap} {L I C D : Addr} {m : Str → Option Value} {s₁ : Shared} {oI oC oD : Obj} {S : List (Addr × Obj) → Prop} {y : Value} {tk : Nat} {all news : List (Addr × Obj)} {l r : List Int} {a : Int} {t : Tok}
theorem end_no (F : Fr h₀ L h' m) (N : News h₀ L h' all) (sub : ∀ p ∈ (I, oI) :: (C, oC) :: (D, oD) :: news, p ∈ all) (off : LCg.Off3 I C D news) (hS : S news) (e : r = l) :
    LCg.CompEnd h₀ L m s₁ I oI C oC D oD S (fun _ news' => KCiNo news l r news') y { s₁ with heap := h', toks := tk } := LCg.CompEnd.intro F N news sub off hS ⟨rfl, e⟩
theorem end_el (F : Fr h₀ L h' m) (N : News h₀ L h' all) (sub : ∀ p ∈ (I, oI) :: (C, oC) :: (D, oD) :: news, p ∈ all) (off : LCg.Off3 I C D news) (hS : S news) (e : r = l ++ [a]) :
    LCg.CompEnd h₀ L m s₁ I oI C oC D oD S (fun y news' => KCiEl news l r y news') (.int a t) { s₁ with heap := h', toks := tk } := LCg.CompEnd.intro F N news sub off hS ⟨rfl, a, t, rfl, e⟩
end
local macro_rules | `(tactic| k_room) => `(tactic| first | ((try simp only [depth_under_make, depth_under_kw, depth_in1, depth_deeper, depth_caller, depth_mark, recursionLimit]); first | decide | omega))
local macro_rules | `(tactic| k_all) => `(tactic| assumption)
local macro_rules | `(tactic| walk_at "call ref") => `(tactic| (k_here; (with_reducible show wpAny _ _ (call (Value.ref 99) [Value.ref _, Value.int _ _]) _ _ _); k_dflt (first
  | (refine' L_got_hit ?X ?T ?B ?hA ?hf ?hke ?hh ?hdep ?hun ?F ?N ?I1 ?I2 ?U ?hod ?lo ?hlen ?ne1 ?ne2 ?ne3 ?hv ?_; (case F => k_asm); (case X => k_asm); (case T => k_asm); (case B => assumption); (case hA => exact rfl); (case hf => exact rfl); (case hke => exact rfl); (case hh => exact rfl); (case hdep => exact Nat.le_of_ble_eq_true rfl); (case hun => exact Nat.le_of_ble_eq_true rfl); (case N => k_asm); (case I1 => k_mem); (case I2 => k_mem); (case U => k_updF); (case hod => assumption); (case lo => assumption); (case hlen => assumption); (case ne1 => k_ne); (case ne2 => k_ne); (case ne3 => k_ne); (case hv => assumption); k_whole; intro l' h' tk' od' F' N' l1 hd'; (try dsimp only at N'); (try k_lt l1))
  | (refine' L_got_missR ?X ?T ?B ?hA ?hf ?hke ?hh ?hdep ?hun ?F ?N ?I1 ?I2 ?I3 ?hod ?lo ?hlen ?ne1 ?ne2 ?ne3 ?hv ?_; (case F => k_asm); (case X => k_asm); (case T => k_asm); (case B => assumption); (case hA => exact rfl); (case hf => exact rfl); (case hke => exact rfl); (case hh => exact rfl); (case hdep => exact Nat.le_of_ble_eq_true rfl); (case hun => exact Nat.le_of_ble_eq_true rfl); (case N => k_asm); (case I1 => k_mem); (case I2 => k_mem); (case I3 => k_mem); (case hod => assumption); (case lo => assumption); (case hlen => assumption); (case ne1 => k_ne); (case ne2 => k_ne); (case ne3 => k_ne); (case hv => assumption); k_whole; intro l' h' tk' F' N' l1; (try dsimp only at N'); (try k_lt l1)))))
local macro_rules | `(tactic| walk_at "call ref") => `(tactic| (k_here; (with_reducible show wpAny _ _ (call (Value.ref 106) [Value.ref _, Value.int _ _]) _ _ _); k_dflt (refine' L_delB ?X ?T ?B ?hA ?hf ?hke ?hh ?hdep ?hun ?F ?N ?I1 ?I2 ?U ?hod ?lo ?hlen ?ne1 ?ne2 ?ne3 ?hb ?_;  (case F => k_asm); (case X => k_asm); (case T => k_asm); (case B => assumption); (case hA => exact rfl); (case hf => exact rfl); (case hke => exact rfl); (case hh => exact rfl); (case hdep => exact Nat.le_of_ble_eq_true rfl); (case hun => exact Nat.le_of_ble_eq_true rfl); (case N => k_asm); (case I1 => k_mem); (case I2 => k_mem); (case U => k_updF); (case hod => assumption); (case lo => assumption); (case hlen => assumption); (case ne1 => k_ne); (case ne2 => k_ne); (case ne3 => k_ne); (case hb => assumption); k_whole; intro h' tk' od' F' N' hd'; (try dsimp only at N'))))
local macro_rules | `(tactic| walk_at "call ref") => `(tactic| (k_here; (with_reducible show wpAny _ _ (call (Value.ref 85) [Value.ref _]) _ _ _); k_dflt (refine' L_keysR ?X ?T ?B ?hA ?hf ?hke ?hh ?hdep ?hun ?F ?N ?I1 ?I2 ?I3 ?hod ?lo ?hlen ?ne1 ?ne2 ?ne3 ?_; (case F => k_asm); (case X => k_asm); (case T => k_asm); (case B => assumption); (case hA => exact rfl); (case hf => exact rfl); (case hke => exact rfl); (case hh => exact rfl); (case hdep => exact Nat.le_of_ble_eq_true rfl); (case hun => exact Nat.le_of_ble_eq_true rfl); (case N => k_asm); (case I1 => k_mem); (case I2 => k_mem); (case I3 => k_mem); (case hod => assumption); (case lo => assumption); (case hlen => assumption); (case ne1 => k_ne); (case ne2 => k_ne); (case ne3 => k_ne); k_whole; intro l' so' h' tk' F' N' l1 hs'; (try dsimp only at N'); (try k_lt l1))))
local macro_rules | `(tactic| walk_at "call builtin:len") => `(tactic| (k_here; (with_reducible show wpAny _ _ (call (Value.builtin "len") [Value.ref _]) _ _ _); k_dflt (refine' L_lenR ?X ?T ?B ?hA ?hf ?hke ?hh ?hdep ?hun ?F ?N ?I1 ?I2 ?I3 ?hod ?lo ?hlen ?ne1 ?ne2 ?ne3 ?_; (case F => k_asm); (case N => k_asm); (case I1 => k_mem); (case X => k_asm); (case T => k_asm); (case B => assumption); (case hA => exact rfl); (case hf => exact rfl); (case hke => exact rfl); (case hh => exact rfl); (case hdep => exact Nat.le_of_ble_eq_true rfl); (case hun => exact Nat.le_of_ble_eq_true rfl); (case I2 => k_mem); (case I3 => k_mem); (case hod => assumption); (case lo => assumption); (case hlen => assumption); (case ne1 => k_ne); (case ne2 => k_ne); (case ne3 => k_ne); k_whole; intro u' h' tk' F' N')))
local macro_rules | `(tactic| walk_at "setItem ref int") => `(tactic| (k_here; k_dflt (refine' kda_set (knd := PySem.intKind _ _) ?F ?N ?U ?d (intKind_is _ _ _ _) ?z ?_; (case F => k_asm); (case N => k_asm); (case U => k_updF); (case d => assumption); (case z => rw [sizeLine_eq]; omega); k_whole); intro h' o' F' N' hd'; (try dsimp only at N')))
local macro_rules | `(tactic| walk_at "setItem ref int") => `(tactic| (k_here; k_dflt (refine' L_set ?X ?T ?B ?hA ?hf ?hke ?hh ?hdep ?hun ?F ?N ?I1 ?I2 ?U ?hod ?lo ?hlen ?ne1 ?ne2 ?ne3 ?_; (case F => k_asm); (case N => k_asm); (case I1 => k_mem); (case X => k_asm); (case T => k_asm); (case B => assumption); (case hA => exact rfl); (case hf => exact rfl); (case hke => exact rfl); (case hh => exact rfl); (case hdep => exact Nat.le_of_ble_eq_true rfl); (case hun => exact Nat.le_of_ble_eq_true rfl); (case I2 => k_mem); (case U => k_updF); (case hod => assumption); (case lo => assumption); (case hlen => assumption); (case ne1 => k_ne); (case ne2 => k_ne); (case ne3 => k_ne); k_whole; intro h' tk' od' F' N' hd'; (try dsimp only at N'))))
local macro_rules | `(tactic| walk_at "compareOp In int ref") => `(tactic| (k_here; k_dflt (refine' lru_inB ?N ?a ?s ?l ?b ?_; (case N => k_asm); (case a => k_mem); (case s => assumption); (case l => rw [List.length_map]; omega); (case b => assumption); k_whole)))
local macro_rules | `(tactic| walk_at "compareOp In int ref") => `(tactic| (k_here; k_dflt (refine' kda_in (knd := PySem.intKind _ _) ?N ?a ?d ?lo (intKind_is _ _ _ _) _ ?b ?_; (case N => k_asm); (case a => k_mem); (case d => assumption); (case lo => assumption); (case b => assumption); k_whole)))
local macro_rules | `(tactic| walk_at "compareOp NotIn int ref") => `(tactic| (k_here; k_dflt (refine' kdg_notin (knd := PySem.intKind _ _) ?N ?a ?d ?lo (intKind_is _ _ _ _) _ ?b ?_; (case N => k_asm); (case a => k_mem); (case d => assumption); (case lo => assumption); (case b => assumption); k_whole)))
local macro_rules | `(tactic| walk_at "subscriptTail") => `(tactic| (k_here; (with_reducible show wpAny _ _ (subscriptTail _ _ (Value.ref _) (Value.int _ _)) _ _ _); k_dflt (refine' kda_item (knd := PySem.intKind _ _) ?N ?a ?d (intKind_is _ _ _ _) ?v ?_; (case N => k_asm); (case a => k_mem); (case d => assumption); (case v => assumption); k_whole)))
local macro_rules | `(tactic| walk_at "compareOp LtE ref ref") => `(tactic| (k_here; k_dflt (refine' lru_le ?u ?N ?a ?b ?s ?s' ?l ?l' ?le ?sub ?_; (case u => exact Nat.le_of_ble_eq_true rfl); (case N => k_asm); (case a => k_mem); (case b => k_mem); (case s => assumption); (case s' => assumption); (case l => first | assumption | omega); (case l' => first | assumption | omega); (case le => first | assumption | omega); (case sub => first | assumption | exact fun _ h => h); k_whole)))
local macro_rules | `(tactic| walk_at "compareOp NotEq ref ref") => `(tactic| (k_here; k_dflt (refine' lru_ne ?u ?N ?a ?b ?s ?s' ?l ?l' ?le ?sub ?_; (case u => exact Nat.le_of_ble_eq_true rfl); (case N => k_asm); (case a => k_mem); (case b => k_mem); (case s => assumption); (case s' => assumption); (case l => first | assumption | omega); (case l' => first | assumption | omega); (case le => first | assumption | omega); (case sub => first | assumption | exact fun _ h => h); k_whole)))
local macro_rules | `(tactic| walk_at "call type:set") => `(tactic| (k_here; (with_reducible show wpAny _ _ (call (Value.type "set") [Value.ref _]) _ _ _); k_dflt (first
  | (refine' lru_keys_set ?hh ?F ?N ?v ?p ?d ?z ?_; (case hh => first | exact rfl | assumption); (case F => k_asm); (case N => k_asm); (case v => k_mem); (case p => k_mem); (case d => k_asm); (case z => omega); k_whole; intro D' h' tk' so' F' N' l1 hs'; (try k_lt l1))
  | (refine' lru_list_setE ?hh ?F ?N ?v ?i ?e ?n ?z ?_; (case hh => first | exact rfl | assumption); (case F => k_asm); (case N => k_asm); (case v => k_mem); (case i => k_asm); (case e => assumption); (case n => assumption); (case z => assumption); k_whole; intro D' h' tk' so' F' N' l1 hs'; (try k_lt l1)))))
local macro_rules | `(tactic| lcg_off) => `(tactic| assumption)
local macro_rules | `(tactic| walk_at "CompRest") => `(tactic| (with_unfolding_all (refine LCg.CompRest.succ ?_; intro v' I' oI' C' oC' D' m' h' tk' E' hv' hC' hx' F' N' off' ne'; (first | lcg_open hv' | (obtain ⟨t9', hv9'⟩ := hv'; subst hv9')))))
local macro_rules | `(tactic| walk_at "ite") => `(tactic| (k_here; first | refine ite_pos (by assumption) ?_ | refine ite_neg (ne_true_of (by assumption)) ?_ | refine ite_neg (by simp; done) ?_ | refine ite_pos (by simp; done) ?_ | refine ite_neg (by simp; omega) ?_))
local macro_rules | `(tactic| walk_at "pyIter ref") => `(tactic| ((with_reducible show wpAny _ _ (pyIter (Value.ref _)) (fun it s₂ => LoopAtV _ _ _ _ _ _ _ _ _ it s₂) _ _); k_listUnr))
local macro_rules | `(tactic| walk_at "exec For Name Name cons nil") => `(tactic| (k_here; k_dflt (refine' For_F ?F ?x ?p ?_ ?s ?E; (case F => k_asm); (case x => rfl); (case p => rfl); (case s => intro _; rfl); (case E => exact PassesOwn.never); k_whole)))
local macro_rules | `(tactic| walk_at "call builtin:dict.pop") => `(tactic| (k_here; (with_reducible show wpAny _ _ (call (Value.builtin "dict.pop") [Value.ref _, Value.int _ _, _]) _ _ _); k_dflt (refine' lru_popd ?F ?N ?U ?d ?lo ?z ?_; (case F => k_asm); (case N => k_asm); (case U => k_updF); (case d => assumption); (case lo => assumption); (case z => rw [sizeLine_eq]; omega); k_whole); intro v' h' o' F' N' hd'; (try dsimp only at N')))
local macro_rules | `(tactic| walk_at "FinA") => `(tactic| ((unfold LCg.FinA); intro D' h' tk' F' N' o1'; (try simp only [List.nil_append, List.cons_append] at N'); (try dsimp only)))
local macro_rules | `(tactic| k_ne) => `(tactic| first | assumption | exact off1_ne (by assumption) (by k_mem) | exact (off1_ne (by assumption) (by k_mem)).symm)
local macro_rules | `(tactic| walk_at "subscriptTail Name Slice ref ref") => `(tactic| (k_here; (with_reducible show wpAny _ _ (subscriptTail _ (PySem.Expr.Slice _ _ none _) (Value.ref _) (Value.ref _)) _ _ _); k_dflt (refine' kmk_slice_ints ?F ?N ?l ?p ?q ?i ?m ?c ?_ ?s ?t ?z; (case F => k_asm); (case N => k_asm); (case l => kmk_list); (case p => kmk_part); (case q => kmk_part); (case i => assumption); (case m => exact kmk_from (by assumption) (by assumption)); (case c => exact List.length_drop ..); (case s => with_unfolding_all rfl); (case t => kmk_pure); (case z => assumption)); intro D' ws' h' F' N' l1 hI' hC' hL'; (try k_lt l1)))
local macro_rules | `(tactic| walk_at "call builtin:dict.pop") => `(tactic| (k_here; dsimp only [List.cons_append, List.nil_append]))
local macro_rules | `(tactic| walk_at "call builtin:list.append") => `(tactic| (k_here; dsimp only [List.cons_append, List.nil_append]))

local macro_rules | `(tactic| walk_at "CompEnd") => `(tactic| first | refine end_no (by assumption) (by assumption) (by lcg_sub) (by assumption) (by lcg_src) (by simp) | refine end_el (by assumption) (by assumption) (by lcg_sub) (by assumption) (by lcg_src) (by simp))
section
variable {w : World} {mg mb : Str → Option Value} {mean : ExcName → Option Value} {h₀ : Heap} {L fa cd : Nat} {m : Str → Option Value} {s : Shared} {Q : Flow → Shared → Prop}
  {lN x0 dx0 d0 x1 dx1 d1 lC dV lM lU I : Nat} {oC oV oK od0 od1 oVd oI : Obj} {vsN vsU : List Value} {ns us us0 : List Int} {nN nM nU nC : Nat} {a1 a2 a3 a4 b1 b2 b3 b4 tp tM0 tM1 tk9 tkey : Tok} {place size more m0 m1 kind key : Int} {kvs0 kvs1 kvsV : List (Int × Value)}
set_option maxHeartbeats 8000000 in
theorem end1 (X : (hd.heap_39 w.params).In h₀) (T : Top topProg loose mean mg mb h₀) (B : Below callerA h₀ [] h₀)
  (F : Fr h₀ L s.heap m) (nm : Nm lN lM lU size more m)
  (N : News h₀ L s.heap [(L + 1, oC), (L + 2, oV), (L + 3, oK), (lN, listOf vsN.toArray nN), (x0, instObj 88 dx0), (dx0, cont w a1 a2 a3 a4 size .none d0), (d0, od0), (x1, instObj 88 dx1), (dx1, cont w b1 b2 b3 b4 (size + more) .none d1), (d1, od1), (lC, listOf #[.ref x0, .ref x1] nC), (dV, oVd), (lM, listOf #[.int m0 tM0, .int m1 tM1] nM), (lU, listOf vsU.toArray nU)])
  (hcC : oC.data = .cell (some (.ref lC))) (hcV : oV.data = .cell (some (.ref dV)))
  (o1 : L + 3 < lN) (o2 : lN < dx0) (o3 : dx0 < x0) (o4 : x0 < d0) (o5 : d0 < dx1) (o6 : dx1 < x1) (o7 : x1 < d1) (o8 : d1 < lC) (o9 : lC < dV) (o10 : dV < lM) (oU : LCg.Off1 lU [(L + 1, oC), (L + 2, oV), (L + 3, oK), (lN, listOf vsN.toArray nN), (x0, instObj 88 dx0), (dx0, cont w a1 a2 a3 a4 size .none d0), (d0, od0), (x1, instObj 88 dx1), (dx1, cont w b1 b2 b3 b4 (size + more) .none d1), (d1, od1), (lC, listOf #[.ref x0, .ref x1] nC), (dV, oVd), (lM, listOf #[.int m0 tM0, .int m1 tM1] nM)])
  (hk0 : kvs0.length ≤ 10) (hk1 : kvs1.length ≤ 10) (hkV : kvsV.length ≤ 10) (lo0 : (d0 == sysModules) = false) (lo1 : (d1 == sysModules) = false) (loV : (dV == sysModules) = false)
  (hd0 : od0.IsDictOf (PySem.intKind PySem.Challenge.rw_aj5039_02.row.prog w) kvs0) (hd1 : od1.IsDictOf (PySem.intKind PySem.Challenge.rw_aj5039_02.row.prog w) kvs1) (hdV : oVd.IsDictOf (PySem.intKind PySem.Challenge.rw_aj5039_02.row.prog w) kvsV) {vK : Option Value} (hcK : oK.data = .cell vK)
  (hU : IntsAre vsU us) (hul : us.length ≤ 10)
  (q : ∀ h' tk lO vsO nO, Fr h₀ L h' (fun y => if y = Str.ofString "order" then some (.ref lO) else m y) → News h₀ L h' [(lO, listOf (List.toArray vsO) nO), (L + 1, oC), (L + 2, oV), (L + 3, oK), (lN, listOf vsN.toArray nN), (x0, instObj 88 dx0), (dx0, cont w a1 a2 a3 a4 size .none d0), (d0, od0), (x1, instObj 88 dx1), (dx1, cont w b1 b2 b3 b4 (size + more) .none d1), (d1, od1), (lC, listOf #[.ref x0, .ref x1] nC), (dV, oVd), (lM, listOf #[.int m0 tM0, .int m1 tM1] nM), (lU, listOf vsU.toArray nU)] → IntsAre vsO (us.filter (fun n => (kvs0.map (·.1)).any (· == n))) → (@Ne Nat lO L ∧ LCg.Off1 lO [(L + 1, oC), (L + 2, oV), (L + 3, oK), (lN, listOf vsN.toArray nN), (x0, instObj 88 dx0), (dx0, cont w a1 a2 a3 a4 size .none d0), (d0, od0), (x1, instObj 88 dx1), (dx1, cont w b1 b2 b3 b4 (size + more) .none d1), (d1, od1), (lC, listOf #[.ref x0, .ref x1] nC), (dV, oVd), (lM, listOf #[.int m0 tM0, .int m1 tM1] nM), (lU, listOf vsU.toArray nU)]) → Q .next { s with heap := h', toks := tk }) :
  wpAny (model PySem.Challenge.rw_aj5039_02.row.prog w) (callerA.deeper (lenv L fa cd)) (exec ((defBody lawStmt).getD 6 (Stmt.Pass default)) (lenv L fa cd)) Q (fun _ _ => False) s := by
  revert X
  k_fill
  intro X
  obtain ⟨tsz, tmo, enm⟩ := nm.open
  have F1 := fr_eq F enm
  conv => arg 3; arg 1; whnf
  refine LCt.Assign_ListComp_T (F₀ := F1) (by rfl) (by with_unfolding_all rfl) (by with_unfolding_all rfl) (by decide) (by rfl) (by decide) (by rfl) (by rfl) (by rfl) ?_
  walk1
  refine LCt.CompSrcT.ledger (by rfl) (by k_asm) (by k_asm) (by k_mem) (by rw [List.size_toArray, IntsAre.length hU, sizeLine_eq]; omega) ?_
  intro g'
  refine' kci_list (fun l n => if (kvs0.map (·.1)).any (· == n) = true then l ++ [n] else l) hU (fun k' t' I' oI' C' oC' D' m' ys' l' h' tk' E' hk' hI' hC' hx' F' N' off' ne' hm => ?_) ?_ ?_
  · clear F1 F N
    cases hb : (kvs0.map (·.1)).any (· == k')
    · k_steps
    · k_steps
  · intro ys hys hle D h tk F' N' o1
    rw [foldl_in, List.nil_append] at hys
    exact q h tk D ys ys.length (fr_eq F' fun y => by rw [enm]) (News.sub N' (by lcg_sub)) hys ⟨(N' _ (.head _)).2.1, o1⟩
  · intro l n; dsimp only; split <;> simp
end
end Mine
end
section
open PySem PySem.W PyProof.Rows PySem.Calls PyProof.V PySem.Spec
set_option maxRecDepth 100000
namespace Mine
abbrev twoC (elt t1 i1 t2 i2 : Expr) (scope : Scope) (pos : Pos) : Expr := .ListComp elt [⟨t1, i1, [], 0⟩, ⟨t2, i2, [], 0⟩] scope pos
theorem compTurn2_0 (elt t1 i1 t2 i2 : Expr) (scope : Scope) (pos : Pos) (it acc : Value) (env : Env) :
    compTurn (twoC elt t1 i1 t2 i2 scope pos) 0 it acc env = (standAt i1.pos >>= fun _ => pyNext it >>= fun r => match r with
      | none => pure (.done .next)
      | some v => letOwnedTupleGo t1 it v >>= fun _ => assign t1 env v >>= fun _ =>
        eval i2 env >>= fun x => standAt i2.pos >>= fun _ => foldedSetIterable i2 env x >>= fun x => holding [x] (pyIter x) >>= fun it2 => runOwn (.compStart (twoC elt t1 i1 t2 i2 scope pos) 1 it2 acc env) env >>= fun _ =>
        again (.compLoop (twoC elt t1 i1 t2 i2 scope pos) 0 it acc env)) := by rfl
theorem compTurn2_1 (elt t1 i1 t2 i2 : Expr) (scope : Scope) (pos : Pos) (it acc : Value) (env : Env) :
    compTurn (twoC elt t1 i1 t2 i2 scope pos) 1 it acc env = (standAt i2.pos >>= fun _ => pyNext it >>= fun r => match r with
      | none => pure (.done .next)
      | some v => letOwnedTupleGo t2 it v >>= fun _ => assign t2 env v >>= fun _ =>
        (eval elt env >>= fun x => call (.builtin "list.append") [acc, x] >>= fun _ => pure ()) >>= fun _ =>
        again (.compLoop (twoC elt t1 i1 t2 i2 scope pos) 1 it acc env)) := by rfl
section
variable {prog : Program} {w : World} {A : Around} {R : Result → Shared → Prop} {s : Shared} {elt t1 i1 t2 i2 : Expr} {scope : Scope} {pos : Pos} {it acc : Value} {env : Env}
abbrev noteR (prog : Program) (w : World) (A : Around) (env : Env) (R : Result → Shared → Prop) : Value → Shared → Prop := notedBy (model prog w) A env fun e s' => R (.error e) s'
theorem loop2_1 (I : Nat → Shared → Prop)
    (turn : ∀ n s, I n s → wpAny (model prog w) A (pyNext it) (fun r s₁ => match r with
      | none => R (.ok .next) s₁
      | some v => wpAny (model prog w) A (assign t2 env v) (fun _ s₂ => wpAny (model prog w) A (eval elt env) (fun x s₃ =>
          wpAny (model prog w) A (call (.builtin "list.append") [acc, x]) (fun _ s₄ => ∃ m, m < n ∧ I m s₄) (noteR prog w A env R) s₃) (noteR prog w A env R) s₂) (noteR prog w A env R) s₁) (noteR prog w A env R) s)
    (n : Nat) (h : I n s) (ht : ∀ v, letOwnedTupleGo t2 it v = pure ()) :
    codeAny (model prog w) A (.compLoop (twoC elt t1 i1 t2 i2 scope pos) 1 it acc env) R s := by
  refine codeAny_loop rfl I (fun n s hI => ?_) n h
  show wpAny _ _ ((compTurn (twoC elt t1 i1 t2 i2 scope pos) 1 it acc env).onRaise (fun x => do noteFrame x env; theTreesLotGoes x)) _ _ s
  refine wpAny_noted ?_
  rw [compTurn2_1]
  refine wpAny_bind (wpAny_standAt (wpAny_bind (wpAny_mono (turn n s hI) (fun r s₁ h₁ => ?_) fun _ _ h' => h')))
  cases r with
  | none => exact wpAny_pure h₁
  | some v =>
    refine wpAny_bind (wpAny_of_eq (ht v) ?_)
    exact wpAny_bind (wpAny_mono h₁ (fun _ s₂ h₂ => wpAny_bind (wpAny_bind (wpAny_mono h₂ (fun x s₃ h₃ => wpAny_bind (wpAny_mono h₃
      (fun _ s₄ h₄ => wpAny_pure (wpAny_pure ⟨rfl, h₄⟩)) fun _ _ h' => h')) fun _ _ h' => h'))) fun _ _ h' => h')
theorem start2_1
    (h0 : codeAny (model prog w) A (.compLoop (twoC elt t1 i1 t2 i2 scope pos) 1 it acc env) R s)
    (h : wpAny (model prog w) A (pyIter it) (fun it' s' => codeAny (model prog w) A (.compLoop (twoC elt t1 i1 t2 i2 scope pos) 1 it' acc env) R s') (noteR prog w A env R) s) :
    codeAny (model prog w) A (.compStart (twoC elt t1 i1 t2 i2 scope pos) 1 it acc env) R s := by
  refine codeAny_of_tree ?_
  show wpAny _ _ ((compStart (twoC elt t1 i1 t2 i2 scope pos) 1 it acc env).onRaise (fun x => do noteFrame x env; standAt theWindowsPlace)) _ _ s
  refine wpAny_notedAt ?_
  unfold compStart
  show wpAny _ _ (ask >>= _) _ _ s
  refine wpAny_bind (wpAny_askSetting (wpAny_ite ?_))
  split
  · first
      | exact wpAny_bind (wpAny_pure (wpAny_pure (And.intro rfl h0)))
      | exact wpAny_pure (And.intro rfl h0)
  · first
      | exact wpAny_bind (wpAny_rule (wpAny_bind (wpAny_standAt (wpAny_bind (wpAny_mono h (fun it' s' h' => wpAny_pure (And.intro rfl h')) fun _ _ x => x)))))
      | (refine wpAny_bind (wpAny_rule ?_); show wpAny _ _ (standAt i2.pos >>= _) _ _ s; exact wpAny_bind (wpAny_standAt (wpAny_bind (wpAny_mono h (fun it' s' h' => wpAny_pure (And.intro rfl h')) fun _ _ x => x))))
theorem loop2_0 (I : Nat → Shared → Prop)
    (turn : ∀ n s, I n s → wpAny (model prog w) A (pyNext it) (fun r s₁ => match r with
      | none => R (.ok .next) s₁
      | some v => wpAny (model prog w) A (assign t1 env v) (fun _ s₂ => wpAny (model prog w) A (eval i2 env) (fun x s₃ =>
          wpAny (model prog w) A (pyIter x) (fun it2 s₄ => codeAny (model prog w) A (.compStart (twoC elt t1 i1 t2 i2 scope pos) 1 it2 acc env) (fun r s₅ => r = .ok .next ∧ ∃ m, m < n ∧ I m s₅) s₄) (noteR prog w A env R) s₃) (noteR prog w A env R) s₂) (noteR prog w A env R) s₁) (noteR prog w A env R) s)
    (n : Nat) (h : I n s) (ht : ∀ v, letOwnedTupleGo t1 it v = pure ()) (hf : ∀ x, foldedSetIterable i2 env x = pure x) (hh : A.mark none = A) :
    codeAny (model prog w) A (.compLoop (twoC elt t1 i1 t2 i2 scope pos) 0 it acc env) R s := by
  refine codeAny_loop rfl I (fun n s hI => ?_) n h
  show wpAny _ _ ((compTurn (twoC elt t1 i1 t2 i2 scope pos) 0 it acc env).onRaise (fun x => do noteFrame x env; theTreesLotGoes x)) _ _ s
  refine wpAny_noted ?_
  rw [compTurn2_0]
  refine wpAny_bind (wpAny_standAt (wpAny_bind (wpAny_mono (turn n s hI) (fun r s₁ h₁ => ?_) fun _ _ h' => h')))
  cases r with
  | none => exact wpAny_pure h₁
  | some v =>
    refine wpAny_bind (wpAny_of_eq (ht v) ?_)
    refine wpAny_bind (wpAny_mono h₁ (fun _ s₂ h₂ => wpAny_bind (wpAny_mono h₂ (fun x s₃ h₃ => ?_) fun _ _ h' => h')) fun _ _ h' => h')
    refine wpAny_bind (wpAny_standAt (wpAny_bind (wpAny_of_eq (hf x) (wpAny_bind (wpAny_holding (wpAny_mono h₃ (fun it2 s₄ h₄ => ?_) fun _ _ h' => h'))))))
    refine wpAny_bind (wpAny_runOwn ?_)
    show codeAny _ (A.mark none) _ _ _
    rw [hh]
    refine codeAny_mono h₄ fun r s₅ h₅ => ?_
    obtain ⟨rfl, h₅⟩ := h₅
    exact wpAny_pure ⟨rfl, h₅⟩
end
end Mine
end
section
open PySem PySem.W PyProof.Rows PySem.Calls PyProof.V PySem.Spec
set_option maxRecDepth 100000
namespace Mine
/-- a stop for the walker -/
def TwoEnd (P : Prop) : Prop := P
theorem iter_of {h : Heap} {I ax : Addr} {i : Nat} (x : h.IsListIter I ax i) : ∃ o, h.get? I = some o ∧ ∀ h' : Heap, h'.get? I = some o → h'.IsListIter I ax i := by
  obtain ⟨o, q, r⟩ := x
  exact ⟨o, q, fun h' e => ⟨o, e, r⟩⟩
theorem off1_of {D : Addr} : ∀ {l : List (Addr × Obj)}, (∀ a ∈ l.map (·.1), a ≠ D) → LCg.Off1 D l
  | [], _ => trivial
  | p :: r, h => ⟨h p.1 (by simp), off1_of fun a ha => h a (by rw [List.map_cons]; exact List.mem_cons_of_mem _ ha)⟩
section
variable {prog : Program} {w : World} {A : Around} {E : Value → Shared → Prop} {s : Shared} {h₀ : Heap} {L : Addr} {m : Str → Option Value} {env : Env}
theorem ListComp_two {elt i1 i2 : Expr} {x1 x2 : Str} {p1 p2 : Pos} {scope : Scope} {cl : List (Str × Addr)} {pos : Pos} {Q : Value → Shared → Prop} (Inv : Nat → Nat → List Value → List (Addr × Obj) → Prop) {ax bx : Addr} {its jts : Array Value} {ka kb : Nat} {adr : List Addr} {news : List (Addr × Obj)}
    (F : Fr h₀ L s.heap m) (N : News h₀ L s.heap news) (hh : A.handled = none)
    (hclos : closureFor scope env = pure cl) (hcell : ∀ y ∈ scope.names, y.2 ≠ .cell) (hkind : scope.kind = .function)
    (hnames : ∀ y ∈ scope.names, y.2 = .local → scope.names.lookup y.1 = some .local) (hx1 : scope.names.lookup x1 = some .local) (hx2 : scope.names.lookup x2 = some .local) (hne : x1 ≠ x2)
    (h1 : ∀ (Q : Value → Shared → Prop), Q (.ref ax) s → wpAny (model prog w) A (eval i1 env) Q E s)
    (hs : ∀ x, foldedSetIterable i1 env x = pure x) (hf : ∀ (e : Env) x, foldedSetIterable i2 e x = pure x)
    (inv0 : Inv 0 0 [] news)
    (adrs : ∀ i j ys nw, Inv i j ys nw → nw.map (·.1) = adr ∧ (ax, ({ cls := .type "list", data := .seq its ka } : Obj)) ∈ nw ∧ (bx, ({ cls := .type "list", data := .seq jts kb } : Obj)) ∈ nw ∧ ys.length ≤ sizeLine)
    (iter2 : ∀ C oC m₂ h tk ys nw i (E' : Value → Shared → Prop) (Q' : Value → Shared → Prop), LCg.NsObj oC m₂ → Fr h₀ L h m → News h₀ L h ((C, oC) :: nw) → Inv i 0 ys nw → Q' (.ref bx) { s with heap := h, toks := tk } → wpAny (model prog w) A (eval i2 (compEnvC scope cl C env)) Q' E' { s with heap := h, toks := tk })
    (turn : ∀ i j v1 v2 C oC m₂ I oI J oJ D ys nw h tk (E' : Value → Shared → Prop), its[i]? = some v1 → jts[j]? = some v2 → LCg.NsObj oC m₂ → m₂ x1 = some v1 → m₂ x2 = some v2 → Inv i j ys nw → Fr h₀ L h m → News h₀ L h ((J, oJ) :: (I, oI) :: (C, oC) :: (D, LCg.lst ys) :: nw) →
      LCg.Off1 J nw → LCg.Off1 I nw → LCg.Off1 C nw → LCg.Off1 D nw → ((@Ne Nat J I) ∧ (@Ne Nat J C) ∧ (@Ne Nat J D) ∧ (@Ne Nat I C) ∧ (@Ne Nat I D) ∧ (@Ne Nat C D)) →
      wpAny (model prog w) A (eval elt (compEnvC scope cl C env)) (fun y s' => TwoEnd (∃ h' tk' nw', s' = { s with heap := h', toks := tk' } ∧ Fr h₀ L h' m ∧ News h₀ L h' ((J, oJ) :: (I, oI) :: (C, oC) :: (D, LCg.lst ys) :: nw') ∧ Inv i (j + 1) (ys ++ [y]) nw')) E' { s with heap := h, toks := tk })
    (next : ∀ i ys nw, i < its.size → Inv i jts.size ys nw → Inv (i + 1) 0 ys nw)
    (fin : ∀ D h tk ys nw, Inv its.size 0 ys nw → Fr h₀ L h m → News h₀ L h ((D, LCg.lst ys) :: nw) → LCg.Off1 D nw → Q (.ref D) { s with heap := h, toks := tk }) :
    wpAny (model prog w) A (eval (twoC elt (.Name x1 p1) i1 (.Name x2 p2) i2 scope pos) env) Q E s := by
  obtain ⟨hadr, hma, hmb, _⟩ := adrs 0 0 [] news inv0
  rw [eval_ListComp]
  refine wpAny_comprehension_free (use := none) rfl hs hclos hkind hnames (h1 _ ?_)
  have hl : s.heap.IsList ax its := ⟨_, (N _ hma).1, rfl, ka, rfl⟩
  have haI : ax ≠ s.heap.objs.size := Nat.ne_of_lt (Heap.lt_size (N _ hma).1)
  refine wpAny_pyIter_list hl ?_
  have up1 : ∀ b o, s.heap.get? b = some o → (s.heap.push { cls := .type "list_iterator", data := .fields #[.ref ax, .int 0 0] }).get? b = some o := fun b o e => Heap.get?_push_of_some _ e
  have hI0 : (s.heap.push { cls := .type "list_iterator", data := .fields #[.ref ax, .int 0 0] }).IsListIter s.heap.objs.size ax 0 := ⟨_, Heap.get?_push_size _ rfl, rfl, rfl⟩
  have hI₀ : h₀.get? s.heap.objs.size = none := next_is_new F
  have hLI : L < s.heap.objs.size := F.ns.lt
  have hadrI : ∀ a ∈ adr, a < s.heap.objs.size := fun a ha => by
    rw [← hadr] at ha
    obtain ⟨p, hp, rfl⟩ := List.mem_map.mp ha
    exact Heap.lt_size (N p hp).1
  have F1 := F.keeps up1
  have N1 : News h₀ L _ news := N.grown up1
  generalize hH1 : s.heap.push { cls := .type "list_iterator", data := .fields #[.ref ax, .int 0 0] } = H1 at F1 N1 hI0 ⊢
  have hz1 : H1.objs.size = s.heap.objs.size + 1 := by rw [← hH1, Heap.size_push]
  generalize hIe : s.heap.objs.size = I at *
  refine wpAny_newObj_type (wpAny_newFunctionEnv hcell (by intro y hy; simp at hy) (fun h₁ hns₁ hsb₁ => ?_) hkind)
  dsimp only at hns₁ hsb₁ ⊢
  have hD₀ : h₀.get? H1.objs.size = none := next_is_new F1
  have F2 : Fr h₀ L (H1.push { cls := .type "list", dict := none, data := .seq ([] : List Value).toArray }) m := F1.keeps fun b o e => Heap.get?_push_of_some _ e
  have N2 : News h₀ L (H1.push { cls := .type "list", dict := none, data := .seq ([] : List Value).toArray }) news := N1.grown fun b o e => Heap.get?_push_of_some _ e
  have eD2 : (H1.push { cls := .type "list", dict := none, data := .seq ([] : List Value).toArray }).get? H1.objs.size = some (LCg.lst []) := Heap.get?_push_size _ rfl
  obtain ⟨oI0, eI0, lI0⟩ := iter_of hI0
  have eI2 : (H1.push { cls := .type "list", dict := none, data := .seq ([] : List Value).toArray }).get? I = some oI0 := Heap.get?_push_of_some _ eI0
  have hz2 : (H1.push { cls := .type "list", dict := none, data := .seq ([] : List Value).toArray }).objs.size = H1.objs.size + 1 := Heap.size_push ..
  have hC₀ : h₀.get? (H1.push { cls := .type "list", dict := none, data := .seq ([] : List Value).toArray }).objs.size = none := next_is_new F2
  generalize hH2 : H1.push { cls := .type "list", dict := none, data := .seq ([] : List Value).toArray } = H2 at hns₁ hsb₁ F2 N2 eD2 eI2 hz2 hC₀ ⊢
  generalize hDe : H1.objs.size = D at *
  generalize hCe : H2.objs.size = C at *
  have hID : I ≠ D := Nat.ne_of_lt (by omega)
  have hIC : I ≠ C := Nat.ne_of_lt (by omega)
  have hDC : D ≠ C := Nat.ne_of_lt (by omega)
  have hLIn : @LT.lt Nat _ L I := hLI
  have hLD : L ≠ D := Nat.ne_of_lt (by omega)
  have hLC : L ≠ C := Nat.ne_of_lt (by omega)
  have hLI' : L ≠ I := Nat.ne_of_lt (by omega)
  have old : ∀ b o, H2.get? b = some o → h₁.get? b = some o := fun b o e => hsb₁.extBut b o (fun q => Nat.lt_irrefl _ (by have := Heap.lt_size e; rw [hCe] at this; exact q ▸ this)) (Heap.get?_push_of_some _ e)
  have F3 := F2.keeps old
  have N3 : News h₀ L h₁ ((D, LCg.lst []) :: news) := fun p hp => by
    rcases List.mem_cons.mp hp with rfl | hp
    · exact ⟨old _ _ eD2, hLD.symm, hD₀⟩
    · exact (N2.grown old) p hp
  have eI3 := old _ _ eI2
  obtain ⟨oC0, eC3, nC0⟩ := LCg.ns_obj hns₁
  have hadD : ∀ a ∈ adr, a < D := fun a ha => Nat.lt_trans (hadrI a ha) (by omega)
  have hadC : ∀ a ∈ adr, a < C := fun a ha => Nat.lt_trans (hadrI a ha) (by omega)
  let O : Nat → Shared → Prop := fun n s' => ∃ i h tk ys nw m₂ oC oI, n = its.size + 1 - i ∧ i ≤ its.size ∧ s' = { s with heap := h, toks := tk } ∧ Fr h₀ L h m ∧ News h₀ L h ((D, LCg.lst ys) :: nw) ∧ h.get? I = some oI ∧ (∀ h' : Heap, h'.get? I = some oI → h'.IsListIter I ax i) ∧ h.get? C = some oC ∧ LCg.NsObj oC m₂ ∧ Inv i 0 ys nw
  have loop : ∀ s₃ : Shared, s₃ = { s with heap := h₁, toks := s.toks + ([] : List (Str × Value)).length } →
      codeAny (model prog w) A (.compLoop (twoC elt (.Name x1 p1) i1 (.Name x2 p2) i2 scope pos) 0 (.ref I) (.ref D) (compEnvC scope cl C env)) (compPost (model prog w) A E none Q (.ref D) C) s₃ := by
    rintro s₃ rfl
    refine loop2_0 O ?_ (its.size + 1) ⟨0, h₁, _, [], news, _, oC0, oI0, rfl, Nat.zero_le _, rfl, F3, N3, eI3, lI0, eC3, nC0, inv0⟩ (fun _ => rfl) (hf _) rfl
    rintro n s' ⟨i, h, tk, ys, nw, m₂, oC, oI, rfl, hi, rfl, F, N, eI, lI, eC, nC, inv⟩
    obtain ⟨hadr, hma, hmb, hys⟩ := adrs i 0 ys nw inv
    have hla : h.IsList ax its := ⟨_, (N _ (List.mem_cons_of_mem _ hma)).1, rfl, ka, rfl⟩
    have nadr : ∀ p ∈ nw, p.1 ∈ adr := fun p hp => hadr ▸ List.mem_map_of_mem hp
    have ne1 : ∀ p ∈ (D, LCg.lst ys) :: nw, p.1 ≠ I := fun p hp => by
      rcases List.mem_cons.mp hp with rfl | hp
      · exact hID.symm
      · exact Nat.ne_of_lt (hadrI _ (nadr p hp))
    have ne2 : ∀ p ∈ (D, LCg.lst ys) :: nw, p.1 ≠ C := fun p hp => by
      rcases List.mem_cons.mp hp with rfl | hp
      · exact hDC
      · exact Nat.ne_of_lt (hadC _ (nadr p hp))
    by_cases hlt : i < its.size
    · refine (Walks.list hh I ax haI its).item i _ _ _ hlt ⟨lI h eI, hla⟩ fun v h₂ tk₂ hPv hst₂ hk₂ => ?_
      obtain ⟨oI2, eI2, lI2⟩ := iter_of hst₂.1
      have F₂ : Fr h₀ L h₂ m := LCg.fr_but F hk₂ hLI' hI₀
      have N₂ := LCg.news_but N hk₂ ne1
      have eC2 : h₂.get? C = some oC := hk₂ _ _ (by simpa using hIC.symm) eC
      refine wpAny_assign_Name (wpAny_storeName_local (lookup_relabel_local hx1) (nC.ns eC2) (fun h₃ hn₃ hs₃ => ?_) (by simp [compEnvC, relabel, hkind]))
      obtain ⟨oC3, eC3, nC3⟩ := LCg.ns_obj hn₃
      have F₃ : Fr h₀ L h₃ m := F₂.change hs₃ hLC.symm hC₀
      have N₃ : News h₀ L h₃ ((D, LCg.lst ys) :: nw) := fun p hp => ⟨hs₃.extBut _ _ (ne2 p hp) (N₂ p hp).1, (N₂ p hp).2⟩
      have eI3 : h₃.get? I = some oI2 := hs₃.extBut _ _ hIC eI2
      refine iter2 C oC3 _ h₃ _ ys nw i _ _ nC3 F₃ (fun p hp => ?_) inv ?_
      · rcases List.mem_cons.mp hp with rfl | hp
        · exact ⟨eC3, hLC.symm, hC₀⟩
        · exact N₃ p (List.mem_cons_of_mem _ hp)
      have hlb : h₃.IsList bx jts := ⟨_, (N₃ _ (List.mem_cons_of_mem _ hmb)).1, rfl, kb, rfl⟩
      have hbJ : bx ≠ h₃.objs.size := Nat.ne_of_lt (Heap.lt_size (N₃ _ (List.mem_cons_of_mem _ hmb)).1)
      refine wpAny_pyIter_list hlb ?_
      have up3 : ∀ b o, h₃.get? b = some o → (h₃.push { cls := .type "list_iterator", data := .fields #[.ref bx, .int 0 0] }).get? b = some o := fun b o e => Heap.get?_push_of_some _ e
      have hJ0 : (h₃.push { cls := .type "list_iterator", data := .fields #[.ref bx, .int 0 0] }).IsListIter h₃.objs.size bx 0 := ⟨_, Heap.get?_push_size _ rfl, rfl, rfl⟩
      have hJ₀ : h₀.get? h₃.objs.size = none := next_is_new F₃
      have F₄ := F₃.keeps up3
      have N₄ := N₃.grown up3
      have eI4 := up3 _ _ eI3
      have eC4 := up3 _ _ eC3
      have hIJ : I ≠ h₃.objs.size := Nat.ne_of_lt (Heap.lt_size eI3)
      have hCJ : C ≠ h₃.objs.size := Nat.ne_of_lt (Heap.lt_size eC3)
      have hDJ : D ≠ h₃.objs.size := Nat.ne_of_lt (Heap.lt_size (N₃ _ List.mem_cons_self).1)
      have hLJ : L ≠ h₃.objs.size := Nat.ne_of_lt F₃.ns.lt
      have hadJ : ∀ a ∈ adr, a ≠ h₃.objs.size := fun a ha => by
        rw [← hadr] at ha
        obtain ⟨p, hp, rfl⟩ := List.mem_map.mp ha
        exact Nat.ne_of_lt (Heap.lt_size (N₃ p (List.mem_cons_of_mem _ hp)).1)
      have hlb4 := hlb.push ({ cls := .type "list_iterator", data := .fields #[.ref bx, .int 0 0] } : Obj)
      generalize h₃.push { cls := .type "list_iterator", data := .fields #[.ref bx, .int 0 0] } = H4 at F₄ N₄ eI4 eC4 hJ0 hlb4 ⊢
      generalize h₃.objs.size = J at *
      obtain ⟨oJ0, eJ4, lJ0⟩ := iter_of hJ0
      have inner : ∀ (tkk : Nat) (s₃ : Shared), s₃ = { s with heap := H4, toks := tkk } →
          codeAny (model prog w) A (.compLoop (twoC elt (.Name x1 p1) i1 (.Name x2 p2) i2 scope pos) 1 (.ref J) (.ref D) (compEnvC scope cl C env)) (fun r s₅ => r = .ok .next ∧ ∃ n', n' < its.size + 1 - i ∧ O n' s₅) s₃ := by
        rintro tkk s₃ rfl
        refine loop2_1 (fun n s' => ∃ j h tk ys nw m₂ oC oJ, n = jts.size + 1 - j ∧ j ≤ jts.size ∧ s' = { s with heap := h, toks := tk } ∧ Fr h₀ L h m ∧ News h₀ L h ((D, LCg.lst ys) :: nw) ∧ h.get? I = some oI2 ∧ h.get? J = some oJ ∧ (∀ h' : Heap, h'.get? J = some oJ → h'.IsListIter J bx j) ∧ h.get? C = some oC ∧ LCg.NsObj oC m₂ ∧ m₂ x1 = some v ∧ Inv i j ys nw) ?_ (jts.size + 1)
          ⟨0, H4, tkk, ys, nw, _, oC3, oJ0, rfl, Nat.zero_le _, rfl, F₄, N₄, eI4, eJ4, lJ0, eC4, nC3, if_pos rfl, inv⟩ (fun _ => rfl)
        clear inv hadr hma hmb hys nadr ne1 ne2 hla hlb hlb4
        rintro n s' ⟨j, h, tk, ys, nw, m₂, oC, oJ, rfl, hj, rfl, F, N, eI, eJ, lJ, eC, nC, hmx, inv⟩
        obtain ⟨hadr, hma, hmb, hys⟩ := adrs i j ys nw inv
        have hlb : h.IsList bx jts := ⟨_, (N _ (List.mem_cons_of_mem _ hmb)).1, rfl, kb, rfl⟩
        have nadr : ∀ p ∈ nw, p.1 ∈ adr := fun p hp => hadr ▸ List.mem_map_of_mem hp
        have ne1 : ∀ p ∈ (D, LCg.lst ys) :: nw, p.1 ≠ J := fun p hp => by
          rcases List.mem_cons.mp hp with rfl | hp
          · exact hDJ
          · exact hadJ _ (nadr p hp)
        have ne2 : ∀ p ∈ (D, LCg.lst ys) :: nw, p.1 ≠ C := fun p hp => by
          rcases List.mem_cons.mp hp with rfl | hp
          · exact hDC
          · exact Nat.ne_of_lt (hadC _ (nadr p hp))
        by_cases hjt : j < jts.size
        · refine (Walks.list hh J bx hbJ jts).item j _ _ _ hjt ⟨lJ h eJ, hlb⟩ fun v2 h₂ tk₂ hPv2 hst₂ hk₂ => ?_
          obtain ⟨oJ2, eJ2, lJ2⟩ := iter_of hst₂.1
          have F₂ : Fr h₀ L h₂ m := LCg.fr_but F hk₂ hLJ hJ₀
          have N₂ := LCg.news_but N hk₂ ne1
          have eC2 : h₂.get? C = some oC := hk₂ _ _ (by simpa using hCJ) eC
          have eI2 : h₂.get? I = some oI2 := hk₂ _ _ (by simpa using hIJ) eI
          refine wpAny_assign_Name (wpAny_storeName_local (lookup_relabel_local hx2) (nC.ns eC2) (fun h₃ hn₃ hs₃ => ?_) (by simp [compEnvC, relabel, hkind]))
          obtain ⟨oC3, eC3, nC3⟩ := LCg.ns_obj hn₃
          have F₃ : Fr h₀ L h₃ m := F₂.change hs₃ hLC.symm hC₀
          have N₃ : News h₀ L h₃ ((D, LCg.lst ys) :: nw) := fun p hp => ⟨hs₃.extBut _ _ (ne2 p hp) (N₂ p hp).1, (N₂ p hp).2⟩
          have eI3 : h₃.get? I = some oI2 := hs₃.extBut _ _ hIC eI2
          have eJ3 : h₃.get? J = some oJ2 := hs₃.extBut _ _ hCJ.symm eJ2
          have N₄ : News h₀ L h₃ ((J, oJ2) :: (I, oI2) :: (C, oC3) :: (D, LCg.lst ys) :: nw) := fun p hp => by
            rcases List.mem_cons.mp hp with rfl | hp
            · exact ⟨eJ3, hLJ.symm, hJ₀⟩
            rcases List.mem_cons.mp hp with rfl | hp
            · exact ⟨eI3, hLI'.symm, hI₀⟩
            rcases List.mem_cons.mp hp with rfl | hp
            · exact ⟨eC3, hLC.symm, hC₀⟩
            exact N₃ p hp
          refine wpAny_mono (turn i j v v2 C oC3 _ I oI2 J oJ2 D ys nw h₃ _ _ hPv hPv2 nC3 ((if_neg hne).trans hmx) (if_pos rfl) inv F₃ N₄ (off1_of fun a ha => hadJ a (hadr ▸ ha)) (off1_of fun a ha => Nat.ne_of_lt (hadrI a (hadr ▸ ha))) (off1_of fun a ha => Nat.ne_of_lt (hadC a (hadr ▸ ha))) (off1_of fun a ha => Nat.ne_of_lt (hadD a (hadr ▸ ha))) ⟨hIJ.symm, hCJ.symm, hDJ.symm, hIC, hID, hDC.symm⟩) (fun y s₄ h₄ => ?_) fun _ _ e => e
          unfold TwoEnd at h₄
          obtain ⟨h', tk', nw', rfl, F', N', inv'⟩ := h₄
          have zJ := (N' (J, oJ2) List.mem_cons_self).1
          have zI := (N' (I, oI2) (List.mem_cons_of_mem _ List.mem_cons_self)).1
          have zC := (N' (C, oC3) (List.mem_cons_of_mem _ (List.mem_cons_of_mem _ List.mem_cons_self))).1
          have zD := (N' (D, LCg.lst ys) (List.mem_cons_of_mem _ (List.mem_cons_of_mem _ (List.mem_cons_of_mem _ List.mem_cons_self)))).1
          refine append_at (hsz := by show ys.toArray.size ≤ sizeLine; rw [List.size_toArray]; exact hys) zD fun h₅ hs₅ hD₅ => ?_
          obtain ⟨hadr', _, _, _⟩ := adrs i (j + 1) _ nw' inv'
          refine ⟨jts.size + 1 - (j + 1), by omega, j + 1, h₅, _, ys ++ [y], nw', _, oC3, oJ2, rfl, hjt, rfl, F'.change hs₅ hLD.symm hD₀, fun p hp => ?_, hs₅.extBut _ _ hID zI, hs₅.extBut _ _ hDJ.symm zJ, lJ2, hs₅.extBut _ _ hDC.symm zC, nC3, (if_neg hne).trans hmx, inv'⟩
          rcases List.mem_cons.mp hp with rfl | hp
          · exact ⟨hD₅.trans (congrArg some (LCg.lst_snoc ys y)), hLD.symm, hD₀⟩
          · have z := N' p (List.mem_cons_of_mem _ (List.mem_cons_of_mem _ (List.mem_cons_of_mem _ (List.mem_cons_of_mem _ hp))))
            exact ⟨hs₅.extBut _ _ (Nat.ne_of_lt (hadD _ (hadr' ▸ List.mem_map_of_mem hp))) z.1, z.2⟩
        · obtain rfl : j = jts.size := Nat.le_antisymm hj (Nat.not_lt.mp hjt)
          refine (Walks.list hh J bx hbJ jts).done _ _ _ ⟨lJ h eJ, hlb⟩ fun h₂ tk₂ hk₂ => ?_
          have F₂ : Fr h₀ L h₂ m := LCg.fr_but F hk₂ hLJ hJ₀
          have N₂ := LCg.news_but N hk₂ ne1
          have eC2 : h₂.get? C = some oC := hk₂ _ _ (by simpa using hCJ) eC
          have eI2 : h₂.get? I = some oI2 := hk₂ _ _ (by simpa using hIJ) eI
          exact ⟨rfl, its.size + 1 - (i + 1), by omega, i + 1, h₂, tk₂, ys, nw, m₂, oC, oI2, rfl, hlt, rfl, F₂, N₂, eI2, lI2, eC2, nC, next i ys nw hlt inv⟩
      exact start2_1 (inner _ _ rfl) ((Walks.list hh J bx hbJ jts).self 0 _ _ _ ⟨hJ0, hlb4⟩ (inner _ _ rfl))
    · obtain rfl : i = its.size := Nat.le_antisymm hi (Nat.not_lt.mp hlt)
      refine (Walks.list hh I ax haI its).done _ _ _ ⟨lI h eI, hla⟩ fun h₂ tk₂ hk₂ => ?_
      have F₂ : Fr h₀ L h₂ m := LCg.fr_but F hk₂ hLI' hI₀
      have N₂ := LCg.news_but N hk₂ ne1
      have eC2 : h₂.get? C = some oC := hk₂ _ _ (by simpa using hIC.symm) eC
      exact ⟨m₂, nC.ns eC2, fun h'' hs'' => fin D h'' tk₂ ys nw inv (F₂.change hs'' hLC.symm hC₀) (fun p hp => ⟨hs''.extBut _ _ (ne2 p hp) (N₂ p hp).1, (N₂ p hp).2⟩) (off1_of fun a ha => Nat.ne_of_lt (hadD a (hadr ▸ ha)))⟩
  exact codeAny_compStart_list (loop _ rfl) ((Walks.list hh I ax haI its).self 0 _ _ _ ⟨lI0 _ eI3, ⟨_, (N3 _ (List.mem_cons_of_mem _ hma)).1, rfl, ka, rfl⟩⟩ (loop _ rfl))
end
end Mine
end
section
open PySem PySem.W PyProof.Rows PySem.Calls PyProof.V PySem.Spec
set_option maxRecDepth 100000
namespace Mine
theorem without_at {kvs : List (Int × Value)} {k a : Int} (e : a ≠ k) : valueAt (without kvs k) a = valueAt kvs a := by
  induction kvs with
  | nil => rfl
  | cons p r ih =>
    unfold without at ih ⊢
    by_cases h : p.1 = k
    · rw [List.filter_cons_of_neg (by simpa using h), ih]
      have : ¬ p.1 = a := fun q => e (q.symm.trans h)
      simp [valueAt, this]
    · rw [List.filter_cons_of_pos (by simpa using h)]
      by_cases q : p.1 = a
      · simp [valueAt, q]
      · have e1 : valueAt (p :: r) a = valueAt r a := by simp [valueAt, q]
        rw [e1, ← ih]; simp [valueAt, q]
theorem again_at {kvs : List (Int × Value)} {k : Int} {v : Value} (hv : valueAt kvs k = some v) (a : Int) : valueAt (without kvs k ++ [(k, v)]) a = valueAt kvs a := by
  by_cases e : a = k
  · subst e
    have h1 : valueAt (without kvs a) a = none := without_none
    rw [hv]
    unfold valueAt at h1 ⊢
    rw [Option.map_eq_none_iff] at h1
    rw [List.find?_append, h1]; simp
  · rw [← without_at (kvs := kvs) e]
    unfold valueAt
    rw [List.find?_append]
    have : ¬ k = a := fun q => e q.symm
    simp [this]
theorem again_len {kvs : List (Int × Value)} {k : Int} {v : Value} (hn : (kvs.map (·.1)).Nodup) (hv : valueAt kvs k = some v) : (without kvs k ++ [(k, v)]).length = kvs.length := by
  rw [List.length_append, List.length_singleton, without_len hn (by rw [hv]; rfl)]
local macro_rules | `(tactic| k_room) => `(tactic| first | ((try simp only [depth_under_make, depth_under_kw, depth_in1, depth_deeper, depth_caller, depth_mark, recursionLimit]); first | decide | omega))
local macro_rules | `(tactic| k_all) => `(tactic| assumption)
local macro_rules | `(tactic| walk_at "call ref") => `(tactic| (k_here; (with_reducible show wpAny _ _ (call (Value.ref 99) [Value.ref _, Value.int _ _]) _ _ _); k_dflt (first
  | (refine' L_got_hit ?X ?T ?B ?hA ?hf ?hke ?hh ?hdep ?hun ?F ?N ?I1 ?I2 ?U ?hod ?lo ?hlen ?ne1 ?ne2 ?ne3 ?hv ?_; (case F => k_asm); (case X => k_asm); (case T => k_asm); (case B => assumption); (case hA => exact rfl); (case hf => exact rfl); (case hke => exact rfl); (case hh => exact rfl); (case hdep => exact Nat.le_of_ble_eq_true rfl); (case hun => exact Nat.le_of_ble_eq_true rfl); (case N => k_asm); (case I1 => k_mem); (case I2 => k_mem); (case U => k_updF); (case hod => assumption); (case lo => assumption); (case hlen => assumption); (case ne1 => k_ne); (case ne2 => k_ne); (case ne3 => k_ne); (case hv => assumption); k_whole; intro l' h' tk' od' F' N' l1 hd'; (try dsimp only at N'); (try k_lt l1))
  | (refine' L_got_missR ?X ?T ?B ?hA ?hf ?hke ?hh ?hdep ?hun ?F ?N ?I1 ?I2 ?I3 ?hod ?lo ?hlen ?ne1 ?ne2 ?ne3 ?hv ?_; (case F => k_asm); (case X => k_asm); (case T => k_asm); (case B => assumption); (case hA => exact rfl); (case hf => exact rfl); (case hke => exact rfl); (case hh => exact rfl); (case hdep => exact Nat.le_of_ble_eq_true rfl); (case hun => exact Nat.le_of_ble_eq_true rfl); (case N => k_asm); (case I1 => k_mem); (case I2 => k_mem); (case I3 => k_mem); (case hod => assumption); (case lo => assumption); (case hlen => assumption); (case ne1 => k_ne); (case ne2 => k_ne); (case ne3 => k_ne); (case hv => assumption); k_whole; intro l' h' tk' F' N' l1; (try dsimp only at N'); (try k_lt l1)))))
local macro_rules | `(tactic| walk_at "call ref") => `(tactic| (k_here; (with_reducible show wpAny _ _ (call (Value.ref 106) [Value.ref _, Value.int _ _]) _ _ _); k_dflt (refine' L_delB ?X ?T ?B ?hA ?hf ?hke ?hh ?hdep ?hun ?F ?N ?I1 ?I2 ?U ?hod ?lo ?hlen ?ne1 ?ne2 ?ne3 ?hb ?_;  (case F => k_asm); (case X => k_asm); (case T => k_asm); (case B => assumption); (case hA => exact rfl); (case hf => exact rfl); (case hke => exact rfl); (case hh => exact rfl); (case hdep => exact Nat.le_of_ble_eq_true rfl); (case hun => exact Nat.le_of_ble_eq_true rfl); (case N => k_asm); (case I1 => k_mem); (case I2 => k_mem); (case U => k_updF); (case hod => assumption); (case lo => assumption); (case hlen => assumption); (case ne1 => k_ne); (case ne2 => k_ne); (case ne3 => k_ne); (case hb => assumption); k_whole; intro h' tk' od' F' N' hd'; (try dsimp only at N'))))
local macro_rules | `(tactic| walk_at "call ref") => `(tactic| (k_here; (with_reducible show wpAny _ _ (call (Value.ref 85) [Value.ref _]) _ _ _); k_dflt (refine' L_keysR ?X ?T ?B ?hA ?hf ?hke ?hh ?hdep ?hun ?F ?N ?I1 ?I2 ?I3 ?hod ?lo ?hlen ?ne1 ?ne2 ?ne3 ?_; (case F => k_asm); (case X => k_asm); (case T => k_asm); (case B => assumption); (case hA => exact rfl); (case hf => exact rfl); (case hke => exact rfl); (case hh => exact rfl); (case hdep => exact Nat.le_of_ble_eq_true rfl); (case hun => exact Nat.le_of_ble_eq_true rfl); (case N => k_asm); (case I1 => k_mem); (case I2 => k_mem); (case I3 => k_mem); (case hod => assumption); (case lo => assumption); (case hlen => assumption); (case ne1 => k_ne); (case ne2 => k_ne); (case ne3 => k_ne); k_whole; intro l' so' h' tk' F' N' l1 hs'; (try dsimp only at N'); (try k_lt l1))))
local macro_rules | `(tactic| walk_at "call builtin:len") => `(tactic| (k_here; (with_reducible show wpAny _ _ (call (Value.builtin "len") [Value.ref _]) _ _ _); k_dflt (refine' L_lenR ?X ?T ?B ?hA ?hf ?hke ?hh ?hdep ?hun ?F ?N ?I1 ?I2 ?I3 ?hod ?lo ?hlen ?ne1 ?ne2 ?ne3 ?_; (case F => k_asm); (case N => k_asm); (case I1 => k_mem); (case X => k_asm); (case T => k_asm); (case B => assumption); (case hA => exact rfl); (case hf => exact rfl); (case hke => exact rfl); (case hh => exact rfl); (case hdep => exact Nat.le_of_ble_eq_true rfl); (case hun => exact Nat.le_of_ble_eq_true rfl); (case I2 => k_mem); (case I3 => k_mem); (case hod => assumption); (case lo => assumption); (case hlen => assumption); (case ne1 => k_ne); (case ne2 => k_ne); (case ne3 => k_ne); k_whole; intro u' h' tk' F' N')))
local macro_rules | `(tactic| walk_at "setItem ref int") => `(tactic| (k_here; k_dflt (refine' kda_set (knd := PySem.intKind _ _) ?F ?N ?U ?d (intKind_is _ _ _ _) ?z ?_; (case F => k_asm); (case N => k_asm); (case U => k_updF); (case d => assumption); (case z => rw [sizeLine_eq]; omega); k_whole); intro h' o' F' N' hd'; (try dsimp only at N')))
local macro_rules | `(tactic| walk_at "setItem ref int") => `(tactic| (k_here; k_dflt (refine' L_set ?X ?T ?B ?hA ?hf ?hke ?hh ?hdep ?hun ?F ?N ?I1 ?I2 ?U ?hod ?lo ?hlen ?ne1 ?ne2 ?ne3 ?_; (case F => k_asm); (case N => k_asm); (case I1 => k_mem); (case X => k_asm); (case T => k_asm); (case B => assumption); (case hA => exact rfl); (case hf => exact rfl); (case hke => exact rfl); (case hh => exact rfl); (case hdep => exact Nat.le_of_ble_eq_true rfl); (case hun => exact Nat.le_of_ble_eq_true rfl); (case I2 => k_mem); (case U => k_updF); (case hod => assumption); (case lo => assumption); (case hlen => assumption); (case ne1 => k_ne); (case ne2 => k_ne); (case ne3 => k_ne); k_whole; intro h' tk' od' F' N' hd'; (try dsimp only at N'))))
local macro_rules | `(tactic| walk_at "compareOp In int ref") => `(tactic| (k_here; k_dflt (refine' lru_inB ?N ?a ?s ?l ?b ?_; (case N => k_asm); (case a => k_mem); (case s => assumption); (case l => rw [List.length_map]; omega); (case b => assumption); k_whole)))
local macro_rules | `(tactic| walk_at "compareOp In int ref") => `(tactic| (k_here; k_dflt (refine' kda_in (knd := PySem.intKind _ _) ?N ?a ?d ?lo (intKind_is _ _ _ _) _ ?b ?_; (case N => k_asm); (case a => k_mem); (case d => assumption); (case lo => assumption); (case b => assumption); k_whole)))
local macro_rules | `(tactic| walk_at "compareOp NotIn int ref") => `(tactic| (k_here; k_dflt (refine' kdg_notin (knd := PySem.intKind _ _) ?N ?a ?d ?lo (intKind_is _ _ _ _) _ ?b ?_; (case N => k_asm); (case a => k_mem); (case d => assumption); (case lo => assumption); (case b => assumption); k_whole)))
local macro_rules | `(tactic| walk_at "subscriptTail") => `(tactic| (k_here; (with_reducible show wpAny _ _ (subscriptTail _ _ (Value.ref _) (Value.int _ _)) _ _ _); k_dflt (refine' kda_item (knd := PySem.intKind _ _) ?N ?a ?d (intKind_is _ _ _ _) ?v ?_; (case N => k_asm); (case a => k_mem); (case d => assumption); (case v => assumption); k_whole)))
local macro_rules | `(tactic| walk_at "compareOp LtE ref ref") => `(tactic| (k_here; k_dflt (refine' lru_le ?u ?N ?a ?b ?s ?s' ?l ?l' ?le ?sub ?_; (case u => exact Nat.le_of_ble_eq_true rfl); (case N => k_asm); (case a => k_mem); (case b => k_mem); (case s => assumption); (case s' => assumption); (case l => first | assumption | omega); (case l' => first | assumption | omega); (case le => first | assumption | omega); (case sub => first | assumption | exact fun _ h => h); k_whole)))
local macro_rules | `(tactic| walk_at "compareOp NotEq ref ref") => `(tactic| (k_here; k_dflt (refine' lru_ne ?u ?N ?a ?b ?s ?s' ?l ?l' ?le ?sub ?_; (case u => exact Nat.le_of_ble_eq_true rfl); (case N => k_asm); (case a => k_mem); (case b => k_mem); (case s => assumption); (case s' => assumption); (case l => first | assumption | omega); (case l' => first | assumption | omega); (case le => first | assumption | omega); (case sub => first | assumption | exact fun _ h => h); k_whole)))
local macro_rules | `(tactic| walk_at "call type:set") => `(tactic| (k_here; (with_reducible show wpAny _ _ (call (Value.type "set") [Value.ref _]) _ _ _); k_dflt (first
  | (refine' lru_keys_set ?hh ?F ?N ?v ?p ?d ?z ?_; (case hh => first | exact rfl | assumption); (case F => k_asm); (case N => k_asm); (case v => k_mem); (case p => k_mem); (case d => k_asm); (case z => omega); k_whole; intro D' h' tk' so' F' N' l1 hs'; (try k_lt l1))
  | (refine' lru_list_setE ?hh ?F ?N ?v ?i ?e ?n ?z ?_; (case hh => first | exact rfl | assumption); (case F => k_asm); (case N => k_asm); (case v => k_mem); (case i => k_asm); (case e => assumption); (case n => assumption); (case z => assumption); k_whole; intro D' h' tk' so' F' N' l1 hs'; (try k_lt l1)))))
local macro_rules | `(tactic| lcg_off) => `(tactic| assumption)
local macro_rules | `(tactic| walk_at "CompRest") => `(tactic| (with_unfolding_all (refine LCg.CompRest.succ ?_; intro v' I' oI' C' oC' D' m' h' tk' E' hv' hC' hx' F' N' off' ne'; (first | lcg_open hv' | (obtain ⟨t9', hv9'⟩ := hv'; subst hv9')))))
local macro_rules | `(tactic| walk_at "ite") => `(tactic| (k_here; first | refine ite_pos (by assumption) ?_ | refine ite_neg (ne_true_of (by assumption)) ?_ | refine ite_neg (by simp; done) ?_ | refine ite_pos (by simp; done) ?_ | refine ite_neg (by simp; omega) ?_))
local macro_rules | `(tactic| walk_at "pyIter ref") => `(tactic| ((with_reducible show wpAny _ _ (pyIter (Value.ref _)) (fun it s₂ => LoopAtV _ _ _ _ _ _ _ _ _ it s₂) _ _); k_listUnr))
local macro_rules | `(tactic| walk_at "exec For Name Name cons nil") => `(tactic| (k_here; k_dflt (refine' For_F ?F ?x ?p ?_ ?s ?E; (case F => k_asm); (case x => rfl); (case p => rfl); (case s => intro _; rfl); (case E => exact PassesOwn.never); k_whole)))
local macro_rules | `(tactic| walk_at "call builtin:dict.pop") => `(tactic| (k_here; (with_reducible show wpAny _ _ (call (Value.builtin "dict.pop") [Value.ref _, Value.int _ _, _]) _ _ _); k_dflt (refine' lru_popd ?F ?N ?U ?d ?lo ?z ?_; (case F => k_asm); (case N => k_asm); (case U => k_updF); (case d => assumption); (case lo => assumption); (case z => rw [sizeLine_eq]; omega); k_whole); intro v' h' o' F' N' hd'; (try dsimp only at N')))
local macro_rules | `(tactic| walk_at "FinA") => `(tactic| ((unfold LCg.FinA); intro D' h' tk' F' N' o1'; (try simp only [List.nil_append, List.cons_append] at N'); (try dsimp only)))
local macro_rules | `(tactic| k_ne) => `(tactic| first | assumption | exact off1_ne (by assumption) (by k_mem) | exact (off1_ne (by assumption) (by k_mem)).symm)
local macro_rules | `(tactic| walk_at "subscriptTail Name Slice ref ref") => `(tactic| (k_here; (with_reducible show wpAny _ _ (subscriptTail _ (PySem.Expr.Slice _ _ none _) (Value.ref _) (Value.ref _)) _ _ _); k_dflt (refine' kmk_slice_ints ?F ?N ?l ?p ?q ?i ?m ?c ?_ ?s ?t ?z; (case F => k_asm); (case N => k_asm); (case l => kmk_list); (case p => kmk_part); (case q => kmk_part); (case i => assumption); (case m => exact kmk_from (by assumption) (by assumption)); (case c => exact List.length_drop ..); (case s => with_unfolding_all rfl); (case t => kmk_pure); (case z => assumption)); intro D' ws' h' F' N' l1 hI' hC' hL'; (try k_lt l1)))
local macro_rules | `(tactic| walk_at "call builtin:dict.pop") => `(tactic| (k_here; dsimp only [List.cons_append, List.nil_append]))
local macro_rules | `(tactic| walk_at "call builtin:list.append") => `(tactic| (k_here; dsimp only [List.cons_append, List.nil_append]))

local macro_rules | `(tactic| walk_at "eval ListComp") => `(tactic| refine halt ?_)
section
variable {w : World} {mg mb : Str → Option Value} {mean : ExcName → Option Value} {h₀ : Heap} {L fa cd : Nat} {m : Str → Option Value} {s : Shared} {Q : Flow → Shared → Prop}
  {lN x0 dx0 d0 x1 dx1 d1 lC dV lM lU I : Nat} {oC oV oK od0 od1 oVd oI : Obj} {vsN vsU : List Value} {ns us us0 : List Int} {nN nM nU nC : Nat} {a1 a2 a3 a4 b1 b2 b3 b4 tp tM0 tM1 tk9 tkey : Tok} {place size more m0 m1 kind key : Int} {kvs0 kvs1 kvsV : List (Int × Value)}
set_option maxHeartbeats 8000000 in
theorem end2 (X : (hd.heap_39 w.params).In h₀) (T : Top topProg loose mean mg mb h₀) (B : Below callerA h₀ [] h₀) {lO nO' : Nat} {vsO : List Value} {ord : List Int}
  (F : Fr h₀ L s.heap m) (nO : m (Str.ofString "order") = some (.ref lO))
  (N : News h₀ L s.heap [(lO, listOf vsO.toArray nO'), (L + 1, oC), (L + 2, oV), (L + 3, oK), (lN, listOf vsN.toArray nN), (x0, instObj 88 dx0), (dx0, cont w a1 a2 a3 a4 size .none d0), (d0, od0), (x1, instObj 88 dx1), (dx1, cont w b1 b2 b3 b4 (size + more) .none d1), (d1, od1), (lC, listOf #[.ref x0, .ref x1] nC), (dV, oVd), (lM, listOf #[.int m0 tM0, .int m1 tM1] nM), (lU, listOf vsU.toArray nU)])
  (hcC : oC.data = .cell (some (.ref lC))) (hcV : oV.data = .cell (some (.ref dV)))
  (o1 : L + 3 < lN) (o2 : lN < dx0) (o3 : dx0 < x0) (o4 : x0 < d0) (o5 : d0 < dx1) (o6 : dx1 < x1) (o7 : x1 < d1) (o8 : d1 < lC) (o9 : lC < dV) (o10 : dV < lM) (oU : LCg.Off1 lU [(L + 1, oC), (L + 2, oV), (L + 3, oK), (lN, listOf vsN.toArray nN), (x0, instObj 88 dx0), (dx0, cont w a1 a2 a3 a4 size .none d0), (d0, od0), (x1, instObj 88 dx1), (dx1, cont w b1 b2 b3 b4 (size + more) .none d1), (d1, od1), (lC, listOf #[.ref x0, .ref x1] nC), (dV, oVd), (lM, listOf #[.int m0 tM0, .int m1 tM1] nM)])
  (hk0 : kvs0.length ≤ 10) (hk1 : kvs1.length ≤ 10) (hkV : kvsV.length ≤ 10) (lo0 : (d0 == sysModules) = false) (lo1 : (d1 == sysModules) = false) (loV : (dV == sysModules) = false)
  (hd0 : od0.IsDictOf (PySem.intKind PySem.Challenge.rw_aj5039_02.row.prog w) kvs0) (hd1 : od1.IsDictOf (PySem.intKind PySem.Challenge.rw_aj5039_02.row.prog w) kvs1) (hdV : oVd.IsDictOf (PySem.intKind PySem.Challenge.rw_aj5039_02.row.prog w) kvsV) (oO : LCg.Off1 lO [(L + 1, oC), (L + 2, oV), (L + 3, oK), (lN, listOf vsN.toArray nN), (x0, instObj 88 dx0), (dx0, cont w a1 a2 a3 a4 size .none d0), (d0, od0), (x1, instObj 88 dx1), (dx1, cont w b1 b2 b3 b4 (size + more) .none d1), (d1, od1), (lC, listOf #[.ref x0, .ref x1] nC), (dV, oVd), (lM, listOf #[.int m0 tM0, .int m1 tM1] nM), (lU, listOf vsU.toArray nU)]) {vK : Option Value} (hcK : oK.data = .cell vK)
  (hO : IntsAre vsO ord) (hol : ord.length ≤ 10) (h0 : ∀ k ∈ ord, valueAt kvs0 k = valueAt kvsV k) (h1 : ∀ k ∈ ord, valueAt kvs1 k = valueAt kvsV k) (hV : ∀ k ∈ ord, ∃ i t, valueAt kvsV k = some (.int i t))
  (q : ∀ h' tk, Fr h₀ L h' m → Q (.ret (.bool true)) { s with heap := h', toks := tk }) :
  wpAny (model PySem.Challenge.rw_aj5039_02.row.prog w) (callerA.deeper (lenv L fa cd)) (exec ((defBody lawStmt).getD 7 (Stmt.Pass default)) (lenv L fa cd)) Q (fun _ _ => False) s := by
  revert X
  k_fill
  intro X
  have F1 := fr_put nO F
  clear F
  conv => arg 3; arg 1; whnf
  k_steps
  unfold Halt
  have F1' := F1
  have N' := N
  have hz : vsO.toArray.size = ord.length := by rw [List.size_toArray, IntsAre.length hO]
  refine ListComp_two (fun i j ys nw => ∃ (od0 od1 : Obj) (kvs0 kvs1 : List (Int × Value)), nw = [(lO, listOf vsO.toArray nO'), (L + 1, oC), (L + 2, oV), (L + 3, oK), (lN, listOf vsN.toArray nN), (x0, instObj 88 dx0), (dx0, cont w a1 a2 a3 a4 size .none d0), (d0, od0), (x1, instObj 88 dx1), (dx1, cont w b1 b2 b3 b4 (size + more) .none d1), (d1, od1), (lC, listOf #[.ref x0, .ref x1] nC), (dV, oVd), (lM, listOf #[.int m0 tM0, .int m1 tM1] nM), (lU, listOf vsU.toArray nU)] ∧ od0.IsDictOf (PySem.intKind PySem.Challenge.rw_aj5039_02.row.prog w) kvs0 ∧ od1.IsDictOf (PySem.intKind PySem.Challenge.rw_aj5039_02.row.prog w) kvs1 ∧ kvs0.length ≤ 10 ∧ kvs1.length ≤ 10 ∧ (∀ k ∈ ord, valueAt kvs0 k = valueAt kvsV k) ∧ (∀ k ∈ ord, valueAt kvs1 k = valueAt kvsV k) ∧ (∀ y ∈ ys, y = .bool true) ∧ i ≤ ord.length ∧ j ≤ 2 ∧ ys.length = 2 * i + j)
    (ka := nO') (kb := nC) (jts := #[.ref x0, .ref x1]) (ax := lO) (bx := lC) (its := vsO.toArray) (adr := [lO, L + 1, L + 2, L + 3, lN, x0, dx0, d0, x1, dx1, d1, lC, dV, lM, lU]) F1' N' rfl (by with_unfolding_all rfl) (by decide) (by rfl) (by decide) (by rfl) (by rfl) (by decide) ?_ (fun _ => rfl) (fun _ _ => rfl) ⟨od0, od1, kvs0, kvs1, rfl, hd0, hd1, hk0, hk1, h0, h1, (fun _ h => nomatch h), Nat.zero_le _, Nat.zero_le _, rfl⟩ ?_ ?_ ?_ ?_ ?_
  · intro Q' hq
    k_steps
    all_goals first | exact hq
  · rintro i j ys nw ⟨od0, od1, kvs0, kvs1, rfl, -, -, -, -, -, -, -, hi, hj, hy⟩
    refine ⟨rfl, by k_mem, by k_mem, ?_⟩
    rw [hy, sizeLine_eq]; omega
  · clear F1' N' N F1
    rintro C oC m₂ h tk ys nw i E' Q' hC F N ⟨od0, od1, kvs0, kvs1, rfl, -⟩ hq
    k_steps
    all_goals first | exact hq
  · clear F1' N' N F1 hd0 hd1 hk0 hk1 h0 h1
    rintro i j v1 v2 C oC m₂ I oI J oJ D ys nw h tk E' hv1 hv2 hC hm1 hm2 ⟨od0, od1, kvs0, kvs1, rfl, hd0, hd1, hk0, hk1, h0, h1, hy, hi, hj, hyl⟩ F N offJ offI offC offD ⟨n1, n2, n3, n4, n5, n6⟩
    obtain ⟨k, t, rfl, hk⟩ := IntsAre.at hO i v1 (by simpa using hv1)
    have hko : k ∈ ord := List.mem_of_getElem? hk
    obtain ⟨vi, tv, hvV⟩ := hV k hko
    have hil : i < ord.length := by
      obtain ⟨h, _⟩ := List.getElem?_eq_some_iff.mp hk
      exact h
    have hv0 := (h0 k hko).trans hvV
    have hv1' := (h1 k hko).trans hvV
    have hjj : (j = 0 ∧ v2 = .ref x0) ∨ (j = 1 ∧ v2 = .ref x1) := by
      match j, hv2 with
      | 0, h => exact .inl ⟨rfl, (Option.some.inj h).symm⟩
      | 1, h => exact .inr ⟨rfl, (Option.some.inj h).symm⟩
      | j + 2, h => exact nomatch (show (none : Option Value) = some v2 from h)
    clear hv1 hv2 hi hj
    rcases hjj with ⟨rfl, rfl⟩ | ⟨rfl, rfl⟩
    · have ln := again_len (keysNodup_of_isDictOf hd0) hv0
      have at0 := again_at hv0
      k_steps
      all_goals first | (unfold TwoEnd; refine ⟨_, _, _, rfl, (by assumption), News.sub (by assumption) (by lcg_sub), ⟨_, od1, _, kvs1, rfl, (by assumption), hd1, (by omega), hk1, (fun a ha => (at0 a).trans (h0 a ha)), h1, ?_, Nat.le_of_lt hil, (by omega), ?_⟩⟩; (intro y hy'; (rcases List.mem_append.mp hy' with h | h; exact hy y h; exact List.mem_singleton.mp h)); (rw [List.length_append, List.length_singleton, hyl]))
    · have ln := again_len (keysNodup_of_isDictOf hd1) hv1'
      have at1 := again_at hv1'
      k_steps
      all_goals first | (unfold TwoEnd; refine ⟨_, _, _, rfl, (by assumption), News.sub (by assumption) (by lcg_sub), ⟨od0, _, kvs0, _, rfl, hd0, (by assumption), hk0, (by omega), h0, (fun a ha => (at1 a).trans (h1 a ha)), ?_, Nat.le_of_lt hil, (by omega), ?_⟩⟩; (intro y hy'; (rcases List.mem_append.mp hy' with h | h; exact hy y h; exact List.mem_singleton.mp h)); (rw [List.length_append, List.length_singleton, hyl]))
  · rintro i ys nw hi ⟨od0, od1, kvs0, kvs1, e, a, b, c, d, f, g, hy, hi', hj, hyl⟩
    exact ⟨od0, od1, kvs0, kvs1, e, a, b, c, d, f, g, hy, by omega, Nat.zero_le _, by rw [hyl]; show 2 * i + 2 = _; omega⟩
  · clear F1' N' N F1
    rintro D h tk ys nw ⟨od0, od1, kvs0, kvs1, rfl, hd0, hd1, hk0, hk1, h0, h1, hy, hi, hj, hyl⟩ F N o1
    have hb : ∀ (ys : List Value), (∀ y ∈ ys, y = .bool true) → LSm.BoolsAre ys (ys.map fun _ => true) := by
      intro ys
      induction ys with
      | nil => intro _; exact LSm.BoolsAre.nil
      | cons y r ih =>
        intro h
        obtain rfl := h y (List.mem_cons_self ..)
        exact LSm.BoolsAre.cons _ (ih fun y hy => h y (List.mem_cons_of_mem _ hy))
    have hb := hb ys hy
    have e : (ys.map fun _ => true).all id = true := by simp
    have hl : h.IsList D ys.toArray := ⟨_, (N _ List.mem_cons_self).1, rfl, _, rfl⟩
    k_steps
    all_goals (refine LSm.all_bools F N rfl hl hb fun h' tk F N => ?_; rw [e]; exact q _ _ (fr_eq F fun y => (if_name nO y).symm))
end
end Mine
end
section
open PySem PySem.W PyProof.Rows PySem.Calls PyProof.V PySem.Spec
set_option maxRecDepth 100000
namespace Mine
def RestThm : Prop := ∀ (w : World) (mg mb : Str → Option Value) (mean : ExcName → Option Value) (h₀ : Heap) (L fa cd : Nat) (m : Str → Option Value) (s : Shared) (Q : Flow → Shared → Prop) (E : Value → Shared → Prop) (lN : Nat) (oC oV oK : Obj) (vsN : List Value) (ns : List Int) (nN : Nat),
  (hd.heap_39 w.params).In h₀ → Top hd.view_39 (looseW hd.view_39 []) mean mg mb h₀ → Below callerA h₀ [] h₀ → Fr h₀ L s.heap m → m (Str.ofString "numbers") = some (.ref lN) → News h₀ L s.heap [(L + 1, oC), (L + 2, oV), (L + 3, oK), (lN, listOf vsN.toArray nN)] → L + 3 < lN → oC.data = .cell none → oV.data = .cell none → oK.data = .cell none → IntsAre vsN ns → 2 ≤ ns.length → ns.length ≤ 34 →
  (∀ h' tk m', Fr h₀ L h' m' → Q (.ret (.bool true)) { s with heap := h', toks := tk }) → wpAny (model PySem.Challenge.rw_aj5039_02.row.prog w) (callerA.deeper (lenv L fa cd)) (execs ((defBody lawStmt).drop 1) (lenv L fa cd)) Q E s
local macro_rules | `(tactic| walk_at "execs cons Assign cons") => `(tactic| (refine (‹RestThm› : RestThm) _ _ _ _ _ _ _ _ _ _ _ _ _ _ _ _ _ _ _ (by assumption) (by assumption) (by assumption) (by assumption) (by exact rfl) (News.sub (by assumption) (by lcg_sub)) (by omega) (by first | assumption | exact Eq.trans (by assumption) (by with_unfolding_all rfl)) (by first | assumption | exact Eq.trans (by assumption) (by with_unfolding_all rfl)) (by first | assumption | exact Eq.trans (by assumption) (by with_unfolding_all rfl)) (by assumption) (by rw [List.length_take, List.length_append]; simp only [List.length_take, List.length_cons, List.length_nil]; split <;> omega) (by rw [List.length_take, List.length_append]; simp only [List.length_take, List.length_cons, List.length_nil]; split <;> omega) ?_; intro h' tk' m' F'))
set_option maxHeartbeats 16000000 in
theorem head (hR : RestThm) : PySem.Challenge.rw_aj5039_02.Holds := hd (by
  k_go0
  all_goals try k_fold
  k_steps)
end Mine
end
section
open PySem PySem.W PyProof.Rows PySem.Calls PyProof.V PySem.Spec
set_option maxRecDepth 100000
namespace Mine
set_option maxHeartbeats 4000000 in
theorem rest02 : RestThm := by
  intro w mg mb mean h₀ L fa cd m s Q E lN oC oV oK vsN ns nN X T0 B F nn N o1 hcC hcV hcK hN hl1 hl2 q
  have T : Top topProg loose mean mg mb h₀ := ghost_top (tabs := []) (fun _ h => (nomatch h)) T0
  refine wpAny_mono (Q := Q) (E := fun _ _ => False) ?_ (fun _ _ h => h) (fun _ _ h => h.elim)
  refine execs_app (a := ((defBody lawStmt).drop 1).take 2) (b := (defBody lawStmt).drop 3) (init1 X T B F nn N o1 hN hl1 hl2 fun h' tk tsz tmo F N => ?_)
  have b1 : 0 ≤ (ns.getD 0 0).fmod 3 := Int.fmod_nonneg_of_pos _ (by decide)
  have b2 : (ns.getD 0 0).fmod 3 < 3 := Int.fmod_lt_of_pos _ (by decide)
  have hmo : 0 ≤ (ns.getD 1 0).fmod 4 := Int.fmod_nonneg_of_pos _ (by decide)
  have b4 : (ns.getD 1 0).fmod 4 < 4 := Int.fmod_lt_of_pos _ (by decide)
  have hs : 1 ≤ 1 + (ns.getD 0 0).fmod 3 := by omega
  refine execs_app (a := ((defBody lawStmt).drop 3).take 2) (b := (defBody lawStmt).drop 5) (init2 X T B F ((if_neg (by decide)).trans ((if_neg (by decide)).trans (if_pos rfl))) ((if_neg (by decide)).trans (if_pos rfl)) (if_pos rfl) N o1 hcC hcV hcK hs (by omega) hmo (by omega) fun h' tk m' oD oC' oV' oVd od0 od1 lD lM dV lU lC d1 x1 dx1 d0 x0 dx0 a1 a2 a3 a4 b1 b2 b3 b4 tM0 tM1 F nm N hcC hcV hd0 hd1 hdV lo0 lo1 loV hp => ?_)
  obtain ⟨p1, p2, p3, p4, p5, p6, p7, p8, p9, p10, p11⟩ := hp
  refine wpAny_execs_cons (loop02 (vsU := []) (us := []) (kvs0 := []) (kvs1 := []) (kvsV := []) (m0 := 0) (m1 := 0) (nM := 0) (nU := 0) (nC := 0) X T B F nm (News.sub N (by lcg_sub)) hcC hcV o1 p1 p2 p3 p4 p5 p6 p7 p8 p9 ⟨by omega, by omega, by omega, by omega, by omega, by omega, by omega, by omega, by omega, by omega, by omega, by omega, by omega, trivial⟩ lo0 lo1 loV hd0 hd1 hdV p10 p11 hcK hN hl1 hl2 hs hmo IntsAre.nil (Int.le_refl _)
    { nd := List.nodup_nil, bd := fun _ h => (nomatch h), f0 := List.nil_suffix, f1 := List.nil_suffix, le := Nat.le_refl _, z0 := by show (0 : Int) ≤ _; omega, z1 := by show (0 : Int) ≤ _; omega, eq := fun _ => rfl, v0 := fun _ h => (nomatch h), v1 := fun _ h => (nomatch h), vk := fun k => by simp [valueAt], vi := fun _ _ h => (nomatch h) }
    fun h' tk m' oK od0 od1 oVd vsU us nU lU kvs0 kvs1 kvsV m0 m1 tM0 tM1 nM vK F nm N hcK hd0 hd1 hdV hU x hm10 oU => ?_)
  have hln := x.len
  have hk0 : kvs0.length ≤ 10 := by omega
  have hk1 : kvs1.length ≤ 10 := by omega
  have hkV : kvsV.length ≤ 10 := Nat.le_trans (x.lenV (keysNodup_of_isDictOf hdV)) (by omega)
  refine wpAny_execs_cons (end1 X T B F nm N hcC hcV o1 p1 p2 p3 p4 p5 p6 p7 p8 p9 oU hk0 hk1 hkV lo0 lo1 loV hd0 hd1 hdV hcK hU (by omega) fun h' tk lO vsO nO F N hO ho => ?_)
  have hin : ∀ k ∈ us.filter (fun n => (kvs0.map (·.1)).any (· == n)), (valueAt kvs0 k).isSome = true := fun k hk => by
    have := (List.mem_filter.mp hk).2
    rwa [any_isSome] at this
  have g0 : ∀ (kvs : List (Int × Value)) k, (∀ p ∈ kvs, valueAt kvsV p.1 = some p.2) → (valueAt kvs k).isSome = true → valueAt kvs k = valueAt kvsV k := fun kvs k hv hi => by
    obtain ⟨v, e⟩ := Option.isSome_iff_exists.mp hi
    rw [e]; exact (hv _ (mem_of_valueAt e)).symm
  have hfl : (us.filter (fun n => (kvs0.map (·.1)).any (· == n))).length ≤ us.length := List.length_filter_le _ _
  exact wpAny_execs_cons (end2 X T B F (if_pos rfl) N hcC hcV o1 p1 p2 p3 p4 p5 p6 p7 p8 p9 oU hk0 hk1 hkV lo0 lo1 loV hd0 hd1 hdV ho.2 hcK hO (by omega) (fun k hk => g0 _ k x.v0 (hin k hk)) (fun k hk => g0 _ k x.v1 (x.up (hin k hk))) (fun k hk => by
    have e := g0 _ k x.v0 (hin k hk)
    obtain ⟨v, e'⟩ := Option.isSome_iff_exists.mp (hin k hk)
    obtain ⟨i, t, rfl⟩ := x.vi k v (e.symm.trans e')
    exact ⟨i, t, e.symm.trans e'⟩) fun h' tk F => q h' tk _ F)
theorem holds02 : PySem.Challenge.rw_aj5039_02.Holds := head rest02
end Mine
end
open PySem PySem.W PyProof.Rows
theorem PySem.Challenge.cw_aj5039_02_holds : PySem.Challenge.rw_aj5039_02.Holds :=
  Mine.holds02
