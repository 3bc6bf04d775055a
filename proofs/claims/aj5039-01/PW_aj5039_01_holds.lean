import PyProof.Rows.All
import Wide.All
import OpenK.AllK
import Wide.FinOn
import Lean
import PySem.Challenge.RW_aj5039_01
set_option Elab.async false
set_option linter.unusedVariables false
set_option linter.unusedSimpArgs false
section
open PySem PySem.W PyProof.Rows
set_option maxRecDepth 100000
namespace Mine
section
variable {prog : Program} {w : World} {A : Around} {E : Value → Shared → Prop} {s : Shared} {h₀ : Heap} {L d : Addr} {m : Str → Option Value} {news : List (Addr × Obj)} {g : Obj → List (Addr × Obj)} {o : Obj} {kvs : List (Int × Value)} {k : Int} {t : Tok} {v : Value}

theorem lru_pop {Q : Value → Shared → Prop} (F : Fr h₀ L s.heap m) (N : News h₀ L s.heap news) (U : UpdF d o news g) (hd : o.IsDictOf (PySem.intKind prog w) kvs) (hv : valueAt kvs k = some v) (hsz : kvs.length ≤ sizeLine)
    (h : ∀ h' o', Fr h₀ L h' m → News h₀ L h' (g o') → o'.IsDictOf (PySem.intKind prog w) (without kvs k) → Q v { s with heap := h', toks := s.toks + 1 }) :
    wpAny (model prog w) A (call (.builtin "dict.pop") [.ref d, .int k t]) Q E s := by
  obtain ⟨pre, post, rfl, hg, a, b⟩ := U.split
  have hm := N (d, o) (List.mem_append_right _ (.head _))
  have hD : s.heap.DictOf (PySem.intKind prog w) d kvs := Heap.dictOf_iff.mpr ⟨o, hm.1, hd⟩
  refine call_meetsIn PySem.F.slot_dict_pop hD.typeIs PySem.F.entry_dict_pop (PySem.F.args_dict_pop_2 _ _) (meets_dict_pop_there (PySem.intKind prog w) d (intKind_is prog w k t) [] (.inl rfl) rfl) ⟨kvs, v, hD, hsz, hv, fun h' hmm hs => ?_⟩
  obtain ⟨o', ho', hd'⟩ := Heap.dictOf_iff.mp hmm
  exact h h' o' (F.change hs hm.2.1 hm.2.2) (hg o' ▸ N.setIn a b hs ho') hd'

theorem lru_pop_miss {Q : Value → Shared → Prop} (hh : A.handled = none) (N : News h₀ L s.heap news) (hp : (d, o) ∈ news) (hd : o.IsDictOf (PySem.intKind prog w) kvs) (lo : (d == sysModules) = false) (hv : valueAt kvs k = none)
    (h : ∀ h' e, Heap.NewExc s.heap h' e "KeyError" → E (.ref e) { s with heap := h', toks := s.toks + 1 }) :
    wpAny (model prog w) A (call (.builtin "dict.pop") [.ref d, .int k t]) Q E s := by
  have hD : s.heap.DictOf (PySem.intKind prog w) d kvs := Heap.dictOf_iff.mpr ⟨o, (N _ hp).1, hd⟩
  exact call_meetsIn PySem.F.slot_dict_pop hD.typeIs PySem.F.entry_dict_pop (PySem.F.args_dict_pop_2 _ _) (meets_dict_pop_missing (PySem.intKind prog w) d (intKind_is prog w k t) lo rfl) ⟨hh, kvs, hD, hv, h⟩

theorem lru_pop_dflt {dflt : Value} {Q : Value → Shared → Prop} (N : News h₀ L s.heap news) (hp : (d, o) ∈ news) (hd : o.IsDictOf (PySem.intKind prog w) kvs) (lo : (d == sysModules) = false) (hv : valueAt kvs k = none)
    (h : Q dflt { s with toks := s.toks + 1 }) : wpAny (model prog w) A (call (.builtin "dict.pop") [.ref d, .int k t, dflt]) Q E s := by
  have hD : s.heap.DictOf (PySem.intKind prog w) d kvs := Heap.dictOf_iff.mpr ⟨o, (N _ hp).1, hd⟩
  exact call_meetsIn PySem.F.slot_dict_pop hD.typeIs PySem.F.entry_dict_pop (PySem.F.args_dict_pop_3 _ _ _) (meets_dict_pop_default (PySem.intKind prog w) d (intKind_is prog w k t) lo rfl dflt) ⟨kvs, hD, hv, h⟩

theorem any_none (hv : valueAt kvs k = none) : (kvs.any fun kv => decide (kv.1 = k)) = false := by
  unfold valueAt at hv
  rw [Option.map_eq_none_iff, List.find?_eq_none] at hv
  rw [List.any_eq_false]
  exact hv
theorem stored_new (hv : valueAt kvs k = none) : stored kvs k v = kvs ++ [(k, v)] := by
  unfold stored
  rw [any_none hv]
  exact if_neg Bool.false_ne_true
theorem without_none : valueAt (without kvs k) k = none := by
  unfold valueAt without
  rw [Option.map_eq_none_iff, List.find?_eq_none]
  intro x hx
  have := (List.mem_filter.mp hx).2
  simpa using this

theorem lru_set_new {Q : Unit → Shared → Prop} (F : Fr h₀ L s.heap m) (N : News h₀ L s.heap news) (U : UpdF d o news g) (hd : o.IsDictOf (PySem.intKind prog w) kvs) (hv : valueAt kvs k = none) (hsz : kvs.length ≤ sizeLine)
    (h : ∀ h' o', Fr h₀ L h' m → News h₀ L h' (g o') → o'.IsDictOf (PySem.intKind prog w) (kvs ++ [(k, v)]) → Q () { s with heap := h', toks := s.toks + 1 }) : wpAny (model prog w) A (setItem (.ref d) (.int k t) v) Q E s :=
  kda_set F N U hd (intKind_is prog w k t) hsz fun h' o' F' N' hd' => h h' o' F' N' (by rw [stored_new hv] at hd'; exact hd')
end
end Mine
end
section
open PySem PySem.W PyProof.Rows PySem.Calls PyProof.V PySem.Spec
set_option maxRecDepth 100000
namespace Mine
theorem mem_frames {env : Env} {L b : Addr} {outer : List Env} (hf : env.frame = some L) (hm : b ∈ (env :: outer).filterMap (·.frame)) : b = L ∨ b ∈ outer.filterMap (·.frame) := by
  rw [List.filterMap_cons_some (b := L) hf] at hm
  exact List.mem_cons.mp hm
theorem none_back {g G : Heap} (k : ∀ b o, g.get? b = some o → G.get? b = some o) {b : Addr} (e : G.get? b = none) : g.get? b = none := by
  cases q : g.get? b with
  | none => rfl
  | some o => rw [k b o q] at e; cases e
theorem none_turn {fs : List Addr} {g g' : Heap} (T : KtsTurn fs g g') {b : Addr} (e : g'.get? b = none) : g.get? b = none := by
  cases q : g.get? b with
  | none => rfl
  | some o => obtain ⟨sl, hs⟩ := T.up q; rw [hs] at e; cases e
theorem self_none {g h : Heap} {L : Addr} {m : Str → Option Value} (F : Fr g L h m) : g.get? L = none := by
  cases q : g.get? L with
  | none => rfl
  | some o => exact absurd (Nat.lt_of_lt_of_le (Heap.lt_size q) F.above) (Nat.lt_irrefl _)

section
variable {prog : Program} {w : World} {A₀ A : Around} {s : Shared} {base h₀ g₀ : Heap} {outer : List Env} {L : Addr} {m : Str → Option Value} {env : Env} {news : List (Addr × Obj)} {K : Frag} {p : Program} {loose : List Str} {mean : ExcName → Option Value} {mg mb : Str → Option Value}
  {R : Result → Shared → Prop} {name qual : Str} {params : Arguments} {body : List Stmt} {scope : Scope} {cl : List (Str × Addr)} {dV kV doc pm cdv ct : Value} {an : Option Addr} {fo : Obj} {f : Addr} {args : Args} {binds : List (Str × Value)}

/-- what a frame's namespace needs of its object, through a turn of its slots -/
theorem ns_turned {g g' h : Heap} {fs : List Addr} (F : Fr h₀ L g m) (T : KtsTurn fs g g') (k : ∀ b o, g'.get? b = some o → h.get? b = some o) : h.Ns L m ∧ g'.get? L ≠ none := by
  obtain ⟨oL, es, ep, hL, hd, hk, hv⟩ := F.ns
  obtain ⟨sl, hs⟩ := T.up hL
  exact ⟨⟨_, es, ep, k _ _ hs, hd, hk, hv⟩, fun e => by rw [hs] at e; cases e⟩

/-- a call out of any frame, back to it through a ground whose frames were turned -/
theorem callT (B : Below A₀ base outer h₀) (F : Fr h₀ L s.heap m) (X₀ : K.In h₀) (N : News h₀ L s.heap news) (T : Top p loose mean mg mb h₀) (XB : K.In base) (TB : Top p loose mean mg mb base) (D : KtsDicts (outer.filterMap (·.frame)) h₀)
    (T0 : KtsTurn (outer.filterMap (·.frame)) g₀ h₀) (hA : A.frames = some (env :: outer)) (hf : env.frame = some L) (hke : env.scope.kind = .function)
    (ho : s.heap.get? f = some fo) (hd : fo.data = .func (fnX name qual params body scope cl dV kV doc pm an cdv ct)) (hcd : s.heap.CodeRec cdv qual) (hroom : A.depth < recursionLimit)
    (hbind : BindsTo s (fnX name qual params body scope cl dV kV doc pm an cdv ct) args binds) (hloc : ∀ y ∈ binds, scope.names.lookup y.1 = some .local)
    (h : ∀ g L' h₁, Fr h₀ L g m → Fr g L' h₁ (fun y => binds.reverse.lookup y) → News g L' h₁ news → Below A base (env :: outer) g → K.In g → Top p loose mean mg mb g → KtsDicts ((env :: outer).filterMap (·.frame)) g → (∀ p ∈ news, p.1 < L') →
      wpAny (model prog w) (A.deeper (envX qual scope L' f cdv cl)) (execs body (envX qual scope L' f cdv cl))
        (fun fl s' => LeaveS ((env :: outer).filterMap (·.frame)) A₀ base outer K p loose mean mg mb g₀ h₀ L m g R (match fl with | .ret v => v | _ => .none) s')
        (fun e s' => wpAny (model prog w) (A.deeper (envX qual scope L' f cdv cl)) (leaving (envX qual scope L' f cdv cl) e) (fun _ s'' => R (.error e) s'') (fun e' s'' => R (.error e') s'') s')
        { s with heap := h₁, toks := s.toks + binds.length })
    (hcell : ∀ x ∈ scope.names, x.2 ≠ .cell) (hco : scope.isCoroutine = false) (hgen : scope.isGenerator = false) (hk : scope.kind = .function) : codeAny (model prog w) A (.call (.ref f) args) R s := by
  obtain ⟨FG, BG, st, _⟩ := groundX (R := R) B F N hA hf hke
  refine codeAny_call_def (fd := fnX name qual params body scope cl dV kV doc pm an cdv ct) (body := body) (binds := binds) hroom ho hd (T.nolimit.keeps F.keep) hcd rfl hbind hcell hloc (fun h₁ hns hk₁ => ?_) hco hgen hk
  have DG : KtsDicts ((env :: outer).filterMap (·.frame)) (hideAll s.heap (news.map (·.1))) := fun b hb => by
    rcases mem_frames hf hb with rfl | hb
    · obtain ⟨oL, es, ep, hL, hd, _⟩ := FG.ns
      exact ⟨oL, es, ep, hL, hd⟩
    · obtain ⟨o, es, n, ho, hd⟩ := D b hb
      exact ⟨o, es, n, st b o ho, hd⟩
  refine wpAny_mono (h _ s.heap.objs.size h₁ FG ⟨hns, fun b o e => hk₁ b o (of_hideAll _ e), Nat.le_of_eq (hideAll_size _ _)⟩
    (fun p hp => ⟨hk₁ _ _ (N p hp).1, Nat.ne_of_lt (Heap.lt_size (N p hp).1), hideAll_none _ (List.mem_map_of_mem hp)⟩) BG (X₀.keeps st) (T.keeps st) DG (fun p hp => Heap.lt_size (N p hp).1)) (fun fl s' hl => ?_) fun _ _ y => y
  have nL := self_none F
  have key : ∀ g' L' m' news', KtsTurn ((env :: outer).filterMap (·.frame)) (hideAll s.heap (news.map (·.1))) g' → Fr g' L' s'.heap m' → News g' L' s'.heap news' →
      ∃ h₀', KtsTurn (outer.filterMap (·.frame)) h₀ h₀' ∧ Fr h₀' L s'.heap m ∧ News h₀' L s'.heap news' ∧ Below A₀ base outer h₀' := by
    intro g' L' m' news' T' F' N'
    obtain ⟨ns', hLn⟩ := ns_turned (h := s'.heap) FG T' F'.keep
    have back : ∀ b o, h₀.get? b = some o → ∃ sl, s'.heap.get? b = some { o with slots := sl } := fun b o e => by
      obtain ⟨sl, hs⟩ := T'.up (st b o e)
      exact ⟨sl, F'.keep _ _ hs⟩
    obtain ⟨T₁, S₁⟩ := kts_turn_at (h := s'.heap) (fs := outer.filterMap (·.frame)) (g := h₀)
      (fun b hb => let ⟨_, o, ho', _⟩ := B.frames.mem hb; ⟨o, ho'⟩)
      (fun b o e nm => F'.keep b o (T'.other b o (st b o e) fun q => (mem_frames hf q).elim (fun z => by rw [z, nL] at e; cases e) nm))
      (fun b o e _ => back b o e)
    refine ⟨_, T₁, ⟨ns', S₁, by rw [T₁.size]; exact F.above⟩, fun p hp => ⟨(N' p hp).1, fun q => hLn (q ▸ (N' p hp).2.2), ?_⟩, ⟨B.stack, fun b o e => T₁.other b o (B.stays b o e) fun hm => ?_, B.frames.of_keeps fun b o e _ => ?_⟩⟩
    · exact T₁.none_ _ (none_back (fun b o => st b o) (none_turn T' (N' p hp).2.2))
    · rw [(B.frames.mem hm).1] at e; cases e
    · obtain ⟨sl, hs⟩ := T₁.up e; exact ⟨_, hs, rfl⟩
  rcases hl with ⟨L', m', news', F', N', k⟩ | ⟨g', L', m', news', T', F', N', k⟩
  · have Tr : KtsTurn ((env :: outer).filterMap (·.frame)) (hideAll s.heap (news.map (·.1))) (hideAll s.heap (news.map (·.1))) := KtsTurn.refl
    obtain ⟨ns', hLn⟩ := ns_turned (h := s'.heap) FG Tr F'.keep
    exact k ⟨ns', fun b o e => F'.keep b o (st b o e), F.above⟩ fun p hp => ⟨(N' p hp).1, fun q => hLn (q ▸ (N' p hp).2.2), none_back (fun b o => st b o) (N' p hp).2.2⟩
  · obtain ⟨h₀', T₁, F₁, N₁, B₁⟩ := key g' L' m' news' T' F' N'
    exact k h₀' (T0.trans T₁) F₁ N₁ B₁ (XB.keeps B₁.stays) (TB.keeps B₁.stays) (D.turn T₁)

/-- the same out of the outermost frame: its ground stays -/
theorem callT0 (B : Below A₀ h₀ [] h₀) (F : Fr h₀ L s.heap m) (X₀ : K.In h₀) (N : News h₀ L s.heap news) (T : Top p loose mean mg mb h₀) (hA : A.frames = some [env]) (hf : env.frame = some L) (hke : env.scope.kind = .function)
    (ho : s.heap.get? f = some fo) (hd : fo.data = .func (fnX name qual params body scope cl dV kV doc pm an cdv ct)) (hcd : s.heap.CodeRec cdv qual) (hroom : A.depth < recursionLimit)
    (hbind : BindsTo s (fnX name qual params body scope cl dV kV doc pm an cdv ct) args binds) (hloc : ∀ y ∈ binds, scope.names.lookup y.1 = some .local)
    (h : ∀ g L' h₁, Fr h₀ L g m → Fr g L' h₁ (fun y => binds.reverse.lookup y) → News g L' h₁ news → Below A h₀ [env] g → K.In g → Top p loose mean mg mb g → KtsDicts ([env].filterMap (·.frame)) g → (∀ p ∈ news, p.1 < L') →
      wpAny (model prog w) (A.deeper (envX qual scope L' f cdv cl)) (execs body (envX qual scope L' f cdv cl))
        (fun fl s' => LeaveS0 ([env].filterMap (·.frame)) h₀ L m g R (match fl with | .ret v => v | _ => .none) s')
        (fun e s' => wpAny (model prog w) (A.deeper (envX qual scope L' f cdv cl)) (leaving (envX qual scope L' f cdv cl) e) (fun _ s'' => R (.error e) s'') (fun e' s'' => R (.error e') s'') s')
        { s with heap := h₁, toks := s.toks + binds.length })
    (hcell : ∀ x ∈ scope.names, x.2 ≠ .cell) (hco : scope.isCoroutine = false) (hgen : scope.isGenerator = false) (hk : scope.kind = .function) : codeAny (model prog w) A (.call (.ref f) args) R s := by
  refine callT (g₀ := h₀) (outer := []) B F X₀ N T X₀ T ktsDicts_nil KtsTurn.refl hA hf hke ho hd hcd hroom hbind hloc (fun g L' h₁ a b c d e f' g' l => wpAny_mono (h g L' h₁ a b c d e f' g' l) (fun fl s' hl => ?_) fun _ _ y => y) hcell hco hgen hk
  obtain ⟨g', L', m', news', T', F', N', k⟩ := hl
  refine .inr ⟨g', L', m', news', T', F', N', fun h₀' T₁ F₁ N₁ _ _ _ _ => k ⟨F₁.ns, fun b o e => F₁.keep b o (T₁.other b o e (by simp)), F.above⟩ fun p hp => ⟨(N₁ p hp).1, (N₁ p hp).2.1, none_turn T₁ (N₁ p hp).2.2⟩⟩
end

section
variable {M : Model} {A : Around} {E : Value → Shared → Prop} {s : Shared}
theorem looks_first {base : Heap} {env : Env} {outer : List Env} {L e : Addr} {oe : Obj} {vs : Array Value} {a0 : Value} {Q : Unit → Shared → Prop}
    (hfr : A.frames = some (env :: outer)) (hl : s.heap.FunFrames base (env :: outer)) (hf : env.frame = some L)
    (he : s.heap.get? e = some oe) (hkb : base.StaysIn s.heap) (hen : base.get? e = none) (hd : oe.data = .fields vs) (h1 : vs[1]? = some .none) (h0 : vs[0]? = some a0)
    (h : ∀ h', Heap.HeldW base (env :: outer) e oe.cls a0 L h' → s.heap.UpToSlots h' → Q () { s with heap := h' }) : wpAny M A (noteFrame (.ref e) env) Q E s := by
  unfold noteFrame
  simp only [hf]
  refine wpAny_bind (wpAny_field he hd h1 ?_)
  rw [if_neg (by decide)]
  exact wpAny_entryW hfr hl hf he hkb hen hd (Array.getElem?_eq_some_iff.mp h1).1 h0 fun h' hN => by
    obtain ⟨k1, k2, k3, k4⟩ := hN
    exact h h' ⟨k1, hen, k2, k3⟩ k4
end
section
variable {prog : Program} {w : World} {A₀ : Around} {E : Value → Shared → Prop} {s' : Shared} {base g g₀ h : Heap} {outer : List Env} {L a e : Addr} {m : Str → Option Value} {name : Str} {scope : Scope} {cd : Value}
  {b₀ : Stmt} {suite : List Stmt} {pos np : Pos} {rest : List ExceptHandler} {Q : Flow → Shared → Prop} {news : List (Addr × Obj)}
  {KF : Frag} {p : Program} {loose : List Str} {mean : ExcName → Option Value} {mg mb : Str → Option Value} {x : Str} {X T' : String}
/-- an exception that a built-in raises in a frame of any depth, caught by that frame's own clause -/
theorem caught_own (K : Below A₀ base outer g) (hx : Heap.NewExc h s'.heap e X) (F : Fr g L h m) (N : News g L h news) (XB : KF.In base) (TB : Top p loose mean mg mb base)
    (D : KtsDicts (outer.filterMap (·.frame)) g) (T0 : KtsTurn (outer.filterMap (·.frame)) g₀ g)
    (ex : nsIn KF mainGlobals x = some none) (hv : bootBuiltins x = some (.type T')) (hn' : x ≠ "__name__")
    (hexc : isSubtype (.type T') (.type "BaseException") = pure true) (hnt : isSubtype (.type ((Manifest.find? T').elim "type" fun y => y.metatype)) (.type "tuple") = pure false) (hsub : isSubtype (.type X) (.type T') = pure true)
    (k : ∀ h' g', KtsTurn (outer.filterMap (·.frame)) g₀ g' → Fr g' L h' m → News g' L h' news → Below A₀ base outer g' → KF.In g' → Top p loose mean mg mb g' → KtsDicts (outer.filterMap (·.frame)) g' →
      wpAny (model prog w) ((A₀.deeper (envOf name scope L a cd)).mark (some (.ref e))) (execs (b₀ :: suite) (envOf name scope L a cd)) Q E { s' with heap := h' })
    (hk : scope.kind = .function := by rfl) (hxk : (envOf name scope L a cd).kindOf x = some .globalImplicit := by rfl) (hd : (x == ("__debug__" : Str)) = false := by decide)
    (hE : PassesOwnAt (model prog w) ((A₀.deeper (envOf name scope L a cd)).mark (some (.ref e))) (A₀.deeper (envOf name scope L a cd)) (envOf name scope L a cd) E := by passes_own) :
    wpAny (model prog w) (A₀.deeper (envOf name scope L a cd)) (noteFrame (.ref e) (envOf name scope L a cd))
      (fun _ s₂ => wpAny (model prog w) (A₀.deeper (envOf name scope L a cd)) (setFlight (.ref e) none) (fun _ s₃ =>
        wpAny (model prog w) (A₀.deeper (envOf name scope L a cd)) (handleBy (.ref e) (envOf name scope L a cd) (.ExceptHandler (some (.Name x np)) none (b₀ :: suite) pos :: rest)) Q E s₃) E s₂) E s' := by
  have K' := K.push (name := name) (a := a) (cd := cd) F hk
  have hfe : (envOf name scope L a cd).frame = some L := rfl
  have hin : ∀ env ∈ (envOf name scope L a cd :: outer), ∀ b, env.frame = some b → b ∈ (envOf name scope L a cd :: outer).filterMap (·.frame) := fun env he b hb => List.mem_filterMap.mpr ⟨env, he, hb⟩
  -- what may not turn: all but the frames
  have sg : ∀ b o, h.get? b = some o → b ∉ (envOf name scope L a cd :: outer).filterMap (·.frame) → (hideAll h ((envOf name scope L a cd :: outer).filterMap (·.frame))).get? b = some o := fun b o q nm => hideAll_get _ q nm
  have hl : ∀ q ∈ news, q.1 ∉ (envOf name scope L a cd :: outer).filterMap (·.frame) := fun q hq hm => by
    rcases mem_frames hfe hm with z | z
    · exact (N q hq).2.1 z
    · obtain ⟨o, ho, _⟩ := (K.frames.mem z).2
      rw [(N q hq).2.2] at ho; cases ho
  obtain ⟨ob, tp, he, hcls, hdt⟩ := hx.there
  have hen : (hideAll h ((envOf name scope L a cd :: outer).filterMap (·.frame))).get? e = none := by
    cases q : (hideAll h ((envOf name scope L a cd :: outer).filterMap (·.frame))).get? e with
    | none => rfl
    | some o => have := of_hideAll _ q; rw [hx.new] at this; cases this
  refine looks_first (a0 := tp) K'.stack ((funFrames_hide K'.frames hin).of_keeps fun b o hb _ => ⟨o, hx.keeps b o hb, rfl⟩) rfl he (fun b o hb => hx.keeps b o (of_hideAll _ hb)) hen hdt rfl rfl fun h₄ hheld₄ hsm₄ => ?_
  refine wpAny_landsW hheld₄ fun h₅ hheld hsm₅' => ?_
  have hsm₅ : h.UpToSlots h₅ := ((Heap.UpToSlots.of_keeps hx.keeps).trans hsm₄).trans hsm₅'
  obtain ⟨g₅, T₅, F₅, K₅⟩ := kts_ground K F sg hheld.1 hsm₅
  obtain ⟨ob', hob, hobc⟩ := hheld.there
  rw [hcls] at hobc
  refine wpAny_handleBy_builtin (X := X) (T := T') (b := true) hexc hnt hsub (name_B F₅ (XB.keeps K₅.stays) (topRead_of (TB.keeps K₅.stays)) ex hv hn' ⟨rfl, ⟨ob', hob, hobc⟩, ?_⟩ hk hxk hd)
  refine lands_againW hheld fun h₆ hfl₆ hsm₆ => ?_
  obtain ⟨g₆, T₆, F₆, K₆⟩ := kts_ground K F sg hfl₆.1 (hsm₅.trans hsm₆)
  have Nl : News g₆ L h₆ news := fun q hq => ⟨hfl₆.1 _ _ (sg _ _ (N q hq).1 (hl q hq)), (N q hq).2.1, T₆.none_ _ (N q hq).2.2⟩
  exact wpAny_passesOwnAt hE (k h₆ g₆ (T0.trans T₆) F₆ Nl K₆ (XB.keeps K₆.stays) (TB.keeps K₆.stays) (D.turn T₆))
end
end Mine
end
section
open PySem PySem.W PyProof.Rows PySem.Calls PyProof.V PySem.Spec
set_option maxRecDepth 100000
namespace Mine
section
variable {prog : Program} {w : World} {A₀ A : Around} {s : Shared} {base h₀ g₀ : Heap} {outer : List Env} {L : Addr} {m : Str → Option Value} {env : Env} {news : List (Addr × Obj)} {K : Frag} {p : Program} {loose : List Str} {mean : ExcName → Option Value} {mg mb : Str → Option Value}
  {R : Result → Shared → Prop} {name qual : Str} {params : Arguments} {body : List Stmt} {scope : Scope} {dV kV doc pm cdv ct oc : Value} {an od : Option Addr} {osl : Array (Option Value)} {f : Addr} {args : Args} {binds : List (Str × Value)}
theorem callTK (B : Below A₀ base outer h₀) (F : Fr h₀ L s.heap m) (X₀ : K.In h₀) (N : News h₀ L s.heap news) (T : Top p loose mean mg mb h₀) (XB : K.In base) (TB : Top p loose mean mg mb base) (D : KtsDicts (outer.filterMap (·.frame)) h₀)
    (T0 : KtsTurn (outer.filterMap (·.frame)) g₀ h₀) (hA : A.frames = some (env :: outer)) (hf : env.frame = some L) (hke : env.scope.kind = .function)
    (ho : K.lookup f = some ⟨oc, od, .func (fnOf name qual params body scope dV kV doc pm an cdv ct), osl⟩) (hcd : codeIn K cdv qual = true) (hroom : A.depth < recursionLimit)
    (hbind : BindsTo s (fnOf name qual params body scope dV kV doc pm an cdv ct) args binds) (hloc : ∀ y ∈ binds, scope.names.lookup y.1 = some .local)
    (h : ∀ g L' h₁, Fr h₀ L g m → Fr g L' h₁ (fun y => binds.reverse.lookup y) → News g L' h₁ news → Below A base (env :: outer) g → K.In g → Top p loose mean mg mb g → KtsDicts ((env :: outer).filterMap (·.frame)) g → (∀ p ∈ news, p.1 < L') →
      wpAny (model prog w) (A.deeper (envOf qual scope L' f cdv)) (execs body (envOf qual scope L' f cdv))
        (fun fl s' => LeaveS ((env :: outer).filterMap (·.frame)) A₀ base outer K p loose mean mg mb g₀ h₀ L m g R (match fl with | .ret v => v | _ => .none) s')
        (fun e s' => wpAny (model prog w) (A.deeper (envOf qual scope L' f cdv)) (leaving (envOf qual scope L' f cdv) e) (fun _ s'' => R (.error e) s'') (fun e' s'' => R (.error e') s'') s')
        { s with heap := h₁, toks := s.toks + binds.length })
    (hcell : ∀ x ∈ scope.names, x.2 ≠ .cell) (hco : scope.isCoroutine = false) (hgen : scope.isGenerator = false) (hk : scope.kind = .function) : codeAny (model prog w) A (.call (.ref f) args) R s :=
  callT (cl := []) B F X₀ N T XB TB D T0 hA hf hke ((X₀.keeps F.keep) _ _ ho) rfl (codeRec_of (X₀.keeps F.keep) hcd) hroom hbind hloc h hcell hco hgen hk
theorem callT0K (B : Below A₀ h₀ [] h₀) (F : Fr h₀ L s.heap m) (X₀ : K.In h₀) (N : News h₀ L s.heap news) (T : Top p loose mean mg mb h₀) (hA : A.frames = some [env]) (hf : env.frame = some L) (hke : env.scope.kind = .function)
    (ho : K.lookup f = some ⟨oc, od, .func (fnOf name qual params body scope dV kV doc pm an cdv ct), osl⟩) (hcd : codeIn K cdv qual = true) (hroom : A.depth < recursionLimit)
    (hbind : BindsTo s (fnOf name qual params body scope dV kV doc pm an cdv ct) args binds) (hloc : ∀ y ∈ binds, scope.names.lookup y.1 = some .local)
    (h : ∀ g L' h₁, Fr h₀ L g m → Fr g L' h₁ (fun y => binds.reverse.lookup y) → News g L' h₁ news → Below A h₀ [env] g → K.In g → Top p loose mean mg mb g → KtsDicts ([env].filterMap (·.frame)) g → (∀ p ∈ news, p.1 < L') →
      wpAny (model prog w) (A.deeper (envOf qual scope L' f cdv)) (execs body (envOf qual scope L' f cdv))
        (fun fl s' => LeaveS0 ([env].filterMap (·.frame)) h₀ L m g R (match fl with | .ret v => v | _ => .none) s')
        (fun e s' => wpAny (model prog w) (A.deeper (envOf qual scope L' f cdv)) (leaving (envOf qual scope L' f cdv) e) (fun _ s'' => R (.error e) s'') (fun e' s'' => R (.error e') s'') s')
        { s with heap := h₁, toks := s.toks + binds.length })
    (hcell : ∀ x ∈ scope.names, x.2 ≠ .cell) (hco : scope.isCoroutine = false) (hgen : scope.isGenerator = false) (hk : scope.kind = .function) : codeAny (model prog w) A (.call (.ref f) args) R s :=
  callT0 (cl := []) B F X₀ N T hA hf hke ((X₀.keeps F.keep) _ _ ho) rfl (codeRec_of (X₀.keeps F.keep) hcd) hroom hbind hloc h hcell hco hgen hk
end
section
variable {M : Model} {A : Around} {E : Value → Shared → Prop} {s : Shared} {K : Frag} {x C L f : Addr} {h₀ : Heap} {m : Str → Option Value} {ox : Obj} {od : Option Obj} {i v : Value}
/-- del o[i] of an own class with __delitem__ -/
theorem own_delItem {Q : Unit → Shared → Prop} (F : Fr h₀ L s.heap m) (X₀ : K.In h₀) (I : InstAt s.heap x ox C od) (hq : noSeq K C = true) (hs : findIn K (.ref C) "__delitem__" = some (some (.ref f))) (hf : isFn K (.ref f) = true)
    (h : wpAny M A (call (.ref f) [.ref x, i]) (fun _ s' => Q () s') E s) : wpAny M A (delItem (.ref x) i) Q E s := by
  have X := X₀.keeps F.keep
  show wpAny M A (holding [.ref x, i] _) Q E s
  refine wpAny_holding ?_
  unfold sequenceKey
  refine wpAny_bind (wpAny_bind (I.type.here (wpAny_bind ((anyM_none X hq).here ?_))))
  exact wpAny_pure (wpAny_bind (special_fn X I hs (beq_iff_eq.mp hf) (wpAny_mono h (fun _ _ z => wpAny_pure z) fun _ _ z => z)))
end
theorem News.drop1 {h₀ h : Heap} {L : Addr} {p : Addr × Obj} {r : List (Addr × Obj)} (N : News h₀ L h (p :: r)) : News h₀ L h r := fun q hq => N q (.tail _ hq)
theorem News.keep1 {h₀ h : Heap} {L : Addr} {p q : Addr × Obj} {r : List (Addr × Obj)} (N : News h₀ L h (p :: q :: r)) : News h₀ L h (p :: r) := fun z hz => N z ((List.mem_cons.mp hz).elim (fun e => e ▸ .head _) fun e => .tail _ (.tail _ e))
end Mine
end
section
open PySem PySem.W PyProof.Rows PySem.Calls PyProof.V PySem.Spec
set_option maxRecDepth 100000
namespace Mine
section
variable {prog : Program} {w : World} {A : Around} {E : Value → Shared → Prop} {s : Shared} {a b : Addr} {S S' : Int → Bool} {n n' : Nat}

theorem entry_set_le : entryFor table "set.__le__" = some Builtin.«frozenset.__le__» := entryFor_alias (id' := "frozenset.__le__") (by kernel_rfl) rfl (by decide +kernel) (by kernel_rfl)
theorem entry_set_ne : entryFor table "set.__ne__" = some Builtin.«frozenset.__ne__» := entryFor_alias (id' := "frozenset.__ne__") (by kernel_rfl) rfl (by decide +kernel) (by kernel_rfl)

theorem isAnySet_of {Q : Bool → Shared → Prop} (hT : s.TypeIs (.ref a) "set") (h : Q true s) : wpAny (model prog w) A (Builtin.Frozenset.isAnySet (.ref a)) Q E s := by
  unfold Builtin.Frozenset.isAnySet
  unfold orM
  refine wpAny_bind (wpAny_isInstance hT sub_set_self ?_)
  exact wpAny_pure h

theorem sizeOf_of {Q : Nat → Shared → Prop} (hS : s.heap.SetOf (PySem.intKind prog w) a S n) (h : Q n s) : wpAny (model prog w) A (Builtin.Frozenset.sizeOf a) Q E s := by
  obtain ⟨o, es, ep, t, ho, _, hd, _, _, _, hf, hn⟩ := hS
  unfold Builtin.Frozenset.sizeOf
  exact wpAny_bind (wpAny_setEntries_of ho hd hf (wpAny_pure (by rw [hn]; exact h)))

theorem quiet_int {x : Value} {Q : Bool → Shared → Prop} (hk : ∃ k, (PySem.intKind prog w).is k x = true) (h : Q true s) : wpAny (model prog w) A (Builtin.Frozenset.quietEq x) Q E s := by
  obtain ⟨k, hk⟩ := hk
  obtain ⟨t, rfl⟩ := Value.isInt_shape hk
  exact wpAny_pure h

/-- a loop over a list that goes on at every item -/
theorem for_on {α β : Type} {M : Model} {f : α → β → Sem (ForInStep β)} {b : β} {Q : β → Shared → Prop} : ∀ (l : List α), (∀ x ∈ l, ∀ (P : ForInStep β → Shared → Prop), P (.yield b) s → wpAny M A (f x b) P E s) → Q b s → wpAny M A (forIn l b f) Q E s
  | [], _, h => by rw [List.forIn_nil]; exact wpAny_pure h
  | x :: l, hf, h => by
    rw [List.forIn_cons]
    exact wpAny_bind (hf x (.head _) _ (for_on l (fun y hy => hf y (.tail _ hy)) h))

theorem walkUnseen_of {Q : List (Int × Value) → Shared → Prop} (hS : s.heap.SetOf (PySem.intKind prog w) a S n) (hS' : s.heap.SetOf (PySem.intKind prog w) b S' n')
    (h : ∀ es, ElemsOf (PySem.intKind prog w) es → (∀ k, S k = true ↔ ∃ e ∈ es, (PySem.intKind prog w).is k e.2 = true) → Q es s) : wpAny (model prog w) A (Builtin.Frozenset.walkUnseen a b) Q E s := by
  obtain ⟨o, es, ep, t, ho, _, hd, hel, hmem, _, hf, hn⟩ := hS
  obtain ⟨o', es', ep', t', ho', _, hd', hel', _, _, hf', _⟩ := hS'
  unfold Builtin.Frozenset.walkUnseen
  refine wpAny_bind (wpAny_setEntries_of ho hd hf (wpAny_bind (wpAny_setEntries_of ho' hd' hf' (wpAny_bind ?_))))
  refine for_on (es.toList ++ es'.toList) (fun x hx P hP => ?_) ?_
  · have hk : ∃ k, (PySem.intKind prog w).is k x.2 = true := (List.mem_append.mp hx).elim (fun q => hel.keys x q) fun q => hel'.keys x q
    refine wpAny_bind (quiet_int hk ?_)
    exact wpAny_pure hP
  · exact wpAny_pure (h es.toList hel hmem)

theorem unchanged_of {id : String} {was : Nat} {Q : Unit → Shared → Prop} {o : Obj} {es : Array (Int × Value)} {t : SetTable} (ho : s.heap.get? a = some o) (hd : o.data = .set es was t) (hf : t.fits es.size = true) (h : Q () s) :
    wpAny (model prog w) A (Builtin.Frozenset.unchanged id a was) Q E s := by
  unfold Builtin.Frozenset.unchanged
  refine wpAny_bind (wpAny_setEpoch_of ho hd hf ?_)
  simp only [bne_self_eq_false, Bool.false_eq_true, ↓reduceIte]
  exact wpAny_pure h

theorem subsetOf_true {id : String} {Q : Bool → Shared → Prop} (hS : s.heap.SetOf (PySem.intKind prog w) a S n) (hS' : s.heap.SetOf (PySem.intKind prog w) b S' n') (hle : n ≤ n') (hsub : ∀ k, S k = true → S' k = true) (h : Q true s) :
    wpAny (model prog w) A (Builtin.Frozenset.subsetOf id a b) Q E s := by
  unfold Builtin.Frozenset.subsetOf
  refine wpAny_bind (sizeOf_of hS (wpAny_bind (sizeOf_of hS' ?_)))
  rw [if_neg (Nat.not_lt.mpr hle)]
  obtain ⟨o, es, ep, t, ho, hx, hd, hel, hmem, hb, hf, hn⟩ := _root_.id hS
  refine wpAny_bind (wpAny_setEpoch_of ho hd hf (wpAny_bind (walkUnseen_of hS hS' fun es' hel' hmem' => wpAny_bind ?_)))
  refine for_on es' (fun x hx P hP => ?_) ?_
  · obtain ⟨⟨k, hk, hh⟩, hsc⟩ := hel' x hx
    dsimp only
    rw [hh]
    refine wpAny_bind (wpAny_holding (wpAny_setFind_of hk hsc hS' fun r hr => ?_))
    have hS'k : S' k = true := hsub k ((hmem' k).mpr ⟨x, hx, hk⟩)
    rw [hS'k] at hr
    obtain ⟨i, rfl⟩ := Option.isSome_iff_exists.mp hr
    simp only [Option.isNone_some, Bool.false_eq_true, ↓reduceIte]
    exact wpAny_bind (unchanged_of ho hd hf (wpAny_pure hP))
  · exact wpAny_pure h
end
end Mine
end
section
open PySem PySem.W PyProof.Rows PySem.Calls PyProof.V PySem.Spec
set_option maxRecDepth 100000
namespace Mine
section
variable {prog : Program} {w : World} {A : Around} {E : Value → Shared → Prop} {s : Shared} {a b : Addr} {S S' : Int → Bool} {n n' : Nat}
theorem entry_set_eq : entryFor table "set.__eq__" = some Builtin.«frozenset.__eq__» := entryFor_alias (id' := "frozenset.__eq__") (by kernel_rfl) rfl (by decide +kernel) (by kernel_rfl)
theorem slot1_two {name : String} {x y : Value} {Q : Value × Value → Shared → Prop} (h : Q (x, y) s) : wpAny (model prog w) A (Builtin.Frozenset.slot1 name ⟨[x, y], []⟩) Q E s := by
  unfold Builtin.Frozenset.slot1 slotArgs
  simp only [List.isEmpty_nil, Bool.not_true, Bool.false_eq_true, ↓reduceIte, List.length_cons, List.length_nil, bne_self_eq_false, pure_bind]
  exact wpAny_pure h
theorem set_le_true {Q : Value → Shared → Prop} (hu : A.units < cLine) (hS : s.heap.SetOf (PySem.intKind prog w) a S n) (hS' : s.heap.SetOf (PySem.intKind prog w) b S' n') (hle : n ≤ n') (hsub : ∀ k, S k = true → S' k = true)
    (h : Q (.bool true) s) : wpAny (model prog w) A (compareOp .LtE (.ref a) (.ref b)) Q E s := by
  refine cmp_ofLtE (wpAny_richCompare_same_room hS.typeIs hS'.typeIs PySem.F.slot_set_le (wpAny_call_entry PySem.F.slot_set_le hS.typeIs entry_set_le ?_ (PySem.F.args_set_le_2 _ _)) hu)
  unfold Builtin.«frozenset.__le__»
  refine wpAny_bind (slot1_two (wpAny_bind (isAnySet_of hS'.typeIs ?_)))
  simp only [Bool.not_true, Bool.false_eq_true, ↓reduceIte]
  refine wpAny_bind (wpAny_pure (wpAny_bind (wpAny_pure (wpAny_bind (sizeOf_of hS (wpAny_bind (sizeOf_of hS' ?_)))))))
  exact wpAny_bind (subsetOf_true hS hS' hle hsub (wpAny_pure ⟨_, rfl, (by intro e; cases e), h⟩))

theorem sub_set_frozen : isSubtype (.type "set") (.type "frozenset") = pure false := by rw [isSubtype_type]; kernel_rfl
theorem notFrozen {Q : Bool → Shared → Prop} {b' : Value} (hT : s.TypeIs (.ref a) "set") (h : Q false s) : wpAny (model prog w) A (isInstance (.ref a) (.type "frozenset") <&&> isInstance b' (.type "frozenset")) Q E s := by
  unfold andM
  exact wpAny_bind (wpAny_isInstance (b := false) hT sub_set_frozen (wpAny_pure h))

theorem set_ne_false {Q : Value → Shared → Prop} (hu : A.units < cLine) (hS : s.heap.SetOf (PySem.intKind prog w) a S n) (hS' : s.heap.SetOf (PySem.intKind prog w) b S' n') (hn : n = n') (hsub : ∀ k, S k = true → S' k = true)
    (h : Q (.bool false) s) : wpAny (model prog w) A (compareOp .NotEq (.ref a) (.ref b)) Q E s := by
  refine cmp_ofNotEq (wpAny_richCompare_same_room hS.typeIs hS'.typeIs PySem.F.slot_set_ne (wpAny_call_entry PySem.F.slot_set_ne hS.typeIs entry_set_ne ?_ (PySem.F.args_set_ne_2 _ _)) hu)
  unfold Builtin.«frozenset.__ne__»
  refine wpAny_bind (slot1_two (wpAny_bind (isAnySet_of hS'.typeIs ?_)))
  simp only [Bool.not_true, Bool.false_eq_true, ↓reduceIte]
  refine wpAny_bind (wpAny_pure (wpAny_bind (wpAny_pure (wpAny_bind (sizeOf_of hS (wpAny_bind (sizeOf_of hS' ?_)))))))
  subst hn
  simp only [bne_self_eq_false, Bool.false_eq_true, ↓reduceIte]
  refine wpAny_bind (wpAny_bind (notFrozen hS.typeIs ?_))
  simp only [Bool.false_eq_true, ↓reduceIte]
  exact subsetOf_true hS hS' (Nat.le_refl _) hsub (wpAny_pure ⟨_, rfl, (by intro e; cases e), h⟩)
end
end Mine
end
section
open PySem PySem.W PyProof.Rows PySem.Calls PyProof.V PySem.Spec
set_option maxRecDepth 100000
namespace Mine
section
variable {prog : Program} {w : World} {A : Around} {E : Value → Shared → Prop} {s : Shared}

set_option maxHeartbeats 3200000 in
/-- set(x) of a thing that gives ints -/
theorem call_set_src {T : String} {r d : Addr} {n : Nat} {P : Nat → Value → Prop} {OK : Heap → Prop} {Q : Value → Shared → Prop} (src : KdlSrc prog w T r d n P OK) (hok : OK s.heap)
    (hs1 : isSubtype (.type T) (.type "set") = pure false) (hs2 : isSubtype (.type T) (.type "frozenset") = pure false) (hs3 : (Value.type T == Value.type "dict") = false) (hh : A.handled = none)
    (val : Nat → Int) (hval : ∀ i v, P i v → ∃ t, v = .int (val i) t) (hb : n + 1 < scanBound)
    (h : ∀ (h' : Heap) (tk : Nat), h'.SetOf (PySem.intKind prog w) s.heap.objs.size (fun k' => (firstMet val n).any (· == k')) (firstMet val n).length →
      (∀ b o, b < s.heap.objs.size → s.heap.get? b = some o → h'.get? b = some o) → Q (.ref s.heap.objs.size) { s with heap := h', toks := tk }) :
    wpAny (model prog w) A (call (.type "set") [.ref r]) Q E s := by
  obtain ⟨c, tl, hmro⟩ := PySem.F.called_set.mro
  have hmade := PySem.F.called_set.made
  have hsub := PySem.F.called_set.sub
  refine wpAny_call (codeAny_of_tree ?_)
  show wpAny _ _ (callAny (.type "set") _) _ _ _
  refine wpAny_pure ⟨Code.quiet_builtin _ (by decide +kernel), codeAny_builtin PySem.F.entry_type_call ?_⟩
  rw [Around.under_plain (weight_type_call_type "set" [.ref r] []) rfl]
  have h1 := PySem.F.called_set.notType
  have h2 := PySem.F.called_set.canCreate
  have hct := PySem.F.typeCall_set_1 (.ref r)
  repeat (any_goals (first | assumption | wp_step))
  refine codeAny_mono (code_set_new_1 (.ref r) (E := E) (Q₁ := fun obj s₁ => ∃ led : Bool, obj = .ref s.heap.objs.size ∧ s₁ = { s with heap := s.heap.push { cls := .type "set", dict := none, data := .set #[] 0 (.fresh 0 0 led) } }) fun led => ⟨led, rfl, rfl⟩) fun rr s₁ hr => ?_
  cases rr with
  | error e => exact hr
  | ok fl =>
    cases fl with
    | ret obj =>
      obtain ⟨led, rfl, rfl⟩ := hr
      have hS : (s.heap.push { cls := .type "set", dict := none, data := .set #[] 0 (.fresh 0 0 led) }).get? s.heap.objs.size = some { cls := .type "set", dict := none, data := .set #[] 0 (.fresh 0 0 led) } := Heap.get?_push_size _ rfl
      have hT : Shared.TypeIs { s with heap := s.heap.push { cls := .type "set", dict := none, data := .set #[] 0 (.fresh 0 0 led) } } (.ref s.heap.objs.size) "set" := ⟨_, hS, rfl⟩
      have hli := PySem.F.called_set.init.lookup
      have hbi := PySem.F.called_set.init.bind (.ref s.heap.objs.size)
      repeat (any_goals (first | assumption | wp_step))
      refine codeAny_mono (codeAny_call_builtin (R := wants (fun r s₂ => r = .none ∧ ∃ h' tk, s₂ = { s with heap := h', toks := tk } ∧
          h'.SetOf (PySem.intKind prog w) s.heap.objs.size (fun k' => (firstMet val n).any (· == k')) (firstMet val n).length ∧
          (∀ b o, b < s.heap.objs.size → s.heap.get? b = some o → h'.get? b = some o)) E) PySem.F.called_set.init.plain PySem.F.entry_set_init (check_set_init_1 hT ?_)) fun r₂ s₂ hr₂ => ?_
      · have hok1 : OK (s.heap.push { cls := .type "set", dict := none, data := .set #[] 0 (.fresh 0 0 led) }) := src.keep _ _ hok fun b _ o e => Heap.get?_push_of_some _ e
        have hTr : Shared.TypeIs { s with heap := s.heap.push { cls := .type "set", dict := none, data := .set #[] 0 (.fresh 0 0 led) } } (.ref r) T := src.type _ hok1
        obtain ⟨or_, hor, hcr⟩ := hTr
        obtain ⟨ocls, odict, odata, oslots⟩ := or_
        simp only at hcr
        subst hcr
        unfold Builtin.«set.__init__» noKeywords Builtin.Frozenset.updateFrom
        generalize hPI : pyIter = PI
        wp_walk
        subst hPI
        obtain ⟨hr1, hd1⟩ := src.there _ hok
        have hh3 : A.in1.in1.in1.handled = none := by simp [hh]
        obtain ⟨oI, St, hit, W, hst⟩ := src.iter A.in1.in1.in1 { s with heap := s.heap.push { cls := .type "set", dict := none, data := .set #[] 0 (.fresh 0 0 led) } } hh3 hok1
        refine wpAny_of_in1 (hit _ _ ?_)
        refine wpAny_bind (wpAny_runValue ?_)
        have hrS : r < s.heap.objs.size := hr1
        have hSf : s.heap.objs.size ∉ [(s.heap.push { cls := .type "set", dict := none, data := .set #[] 0 (.fresh 0 0 led) }).objs.size, d] := by
          rw [Heap.size_push]; simp only [List.mem_cons, List.not_mem_nil, or_false, not_or]
          exact ⟨Nat.ne_of_lt (Nat.lt_succ_self _), Nat.ne_of_gt hd1⟩
        refine codeAny_set_update_loopS W.toS s.heap.objs.size hSf val hval hb (n - 0) 0 _ (by omega) (Nat.zero_le _) hst ?hS0 ?hR
        case hS0 =>
          have hget : ((s.heap.push { cls := .type "set", dict := none, data := .set #[] 0 (.fresh 0 0 led) }).push oI).get? s.heap.objs.size = some { cls := .type "set", dict := none, data := .set #[] 0 (.fresh 0 0 led) } := Heap.get?_push_of_some _ hS
          exact SetOf_congr ((setObjOf_fresh (knd := PySem.intKind prog w) led).setOf hget (by unfold scanBound; omega)) (fun _ => rfl) rfl
        case hR =>
          intro s' hm hS'
          obtain ⟨h', g', d', tk', os'⟩ := s'
          have eg : g' = s.gens := hm.gens
          have ed : d' = s.drawn := hm.drawn
          have eo : os' = s.os := hm.os
          subst eg; subst ed; subst eo
          show wpAny _ _ _ _ _ _
          refine wpAny_pure ?_
          show wpAny _ _ (ret Value.none) _ _ _
          refine wpAny_pure ⟨rfl, h', tk', rfl, hS', fun b o hb e => ?_⟩
          have hb1 : b ≠ s.heap.objs.size := Nat.ne_of_lt hb
          have hb2 : b ≠ (s.heap.push { cls := .type "set", dict := none, data := .set #[] 0 (.fresh 0 0 led) }).objs.size := by
            rw [Heap.size_push]; exact Nat.ne_of_lt (Nat.lt_succ_of_lt hb)
          exact hm.heap b o (by simp only [List.mem_cons, List.not_mem_nil, or_false, not_or]; exact ⟨hb1, hb2⟩) (Heap.get?_push_of_some _ (Heap.get?_push_of_some _ e))
      · cases r₂ with
        | error e => exact hr₂
        | ok fl₂ =>
          cases fl₂ with
          | ret r =>
            obtain ⟨rfl, h', tk, rfl, hS', hk'⟩ := hr₂
            repeat (any_goals (first | assumption | wp_step))
            exact h _ _ hS' hk'
          | _ => exact hr₂.elim
    | _ => exact hr.elim
end
end Mine
end
section
open PySem PySem.W PyProof.Rows PySem.Calls PyProof.V PySem.Spec
set_option maxRecDepth 100000
namespace Mine
theorem firstMet_take (l : List Int) (hn : l.Nodup) : ∀ i, i ≤ l.length → firstMet (fun i => l.getD i 0) i = l.take i
  | 0, _ => by simp [firstMet_zero]
  | i + 1, hi => by
    rw [firstMet_succ, firstMet_take l hn i (by omega)]
    have hlt : i < l.length := hi
    have hg : l.getD i 0 = l[i] := by simp [hlt]
    rw [hg, step_dedup, List.take_succ_eq_append_getElem hlt, if_neg]
    intro h
    obtain ⟨x, hx, he⟩ := List.any_eq_true.mp h
    obtain ⟨j, hj, rfl⟩ := List.mem_take_iff_getElem.mp hx
    have e : l[j] = l[i] := by simpa using he
    have := (List.getElem_inj hn).mp e
    omega
theorem firstMet_all (l : List Int) (hn : l.Nodup) : firstMet (fun i => l.getD i 0) l.length = l := by
  rw [firstMet_take l hn _ (Nat.le_refl _), List.take_length]
theorem sub_keys_set : isSubtype (.type "dict_keys") (.type "set") = pure false := by rw [isSubtype_type]; kernel_rfl
theorem sub_keys_frozen : isSubtype (.type "dict_keys") (.type "frozenset") = pure false := by rw [isSubtype_type]; kernel_rfl
section
variable {prog : Program} {w : World} {A : Around} {E : Value → Shared → Prop} {s : Shared} {h₀ : Heap} {L d v a b : Addr} {m : Str → Option Value} {news : List (Addr × Obj)} {od oa ob : Obj} {kvs : List (Int × Value)} {l l' : List Int}
/-- a set object of just these ints -/
def SetIs (o : Obj) (l : List Int) : Prop := o.IntSetOf (fun k => l.any (· == k)) l.length

theorem fr_grown {h' : Heap} (F : Fr h₀ L s.heap m) (hk : ∀ b o, b < s.heap.objs.size → s.heap.get? b = some o → h'.get? b = some o) : Fr h₀ L h' m := by
  obtain ⟨oL, es, ep, hL, r⟩ := F.ns
  exact ⟨⟨oL, es, ep, hk _ _ (Heap.lt_size hL) hL, r⟩, fun b o e => hk b o (Heap.lt_size (F.keep b o e)) (F.keep b o e), F.above⟩

theorem lru_keys_set {Q : Value → Shared → Prop} (hh : A.handled = none) (F : Fr h₀ L s.heap m) (N : News h₀ L s.heap news) (hv : (v, { cls := .type "dict_keys", data := .fields #[.ref d] }) ∈ news) (hp : (d, od) ∈ news) (hod : od.IsDictOf (PySem.intKind prog w) kvs) (hlen : kvs.length ≤ 20)
    (h : ∀ D h' tk so, Fr h₀ L h' m → News h₀ L h' ((D, so) :: news) → (∀ p ∈ news, p.1 < D) → SetIs so (kvs.map (·.1)) → Q (.ref D) { s with heap := h', toks := tk }) :
    wpAny (model prog w) A (call (.type "set") [.ref v]) Q E s := by
  have hD : s.heap.DictOf (PySem.intKind prog w) d kvs := Heap.dictOf_iff.mpr ⟨od, (N _ hp).1, hod⟩
  obtain ⟨ep, hat⟩ := hD.dictAt
  have hn : (kvs.map (·.1)).Nodup := keysNodup_of_isDictOf hod
  refine call_set_src (kdl_keys (knd := PySem.intKind prog w) (r := v) (d := d) (kvs := kvs) (ep := ep)) ⟨⟨_, (N _ hv).1, rfl, rfl⟩, hat⟩ sub_keys_set sub_keys_frozen (by decide) hh (fun i => (kvs.map (·.1)).getD i 0) (fun i x hx => ?_) (by unfold scanBound; omega) fun h' tk hS hk => ?_
  · obtain ⟨k, y, hx, hk⟩ := hx
    obtain ⟨t, rfl⟩ := Value.isInt_shape hk
    refine ⟨t, ?_⟩
    have : (kvs.map (·.1))[i]? = some k := by rw [List.getElem?_map, hx]; rfl
    rw [List.getD_eq_getElem?_getD, this]; rfl
  · have e := firstMet_all (kvs.map (·.1)) hn
    rw [List.length_map] at e
    rw [e] at hS
    obtain ⟨so, ho, hso⟩ := hS.objOf
    exact h _ h' tk so (fr_grown F hk) (news_pushed F N (fun b o e => hk b o (Heap.lt_size e) e) ho rfl) (fun p hp => Heap.lt_size (N p hp).1) hso.intSetOf

theorem lru_list_set {vs : List Value} {n : Nat} {Q : Value → Shared → Prop} (hh : A.handled = none) (F : Fr h₀ L s.heap m) (N : News h₀ L s.heap news) (hv : (v, listOf vs.toArray n) ∈ news) (hi : IntsAre vs l) (hn : l.Nodup) (hlen : l.length ≤ 20)
    (h : ∀ D h' tk so, Fr h₀ L h' m → News h₀ L h' ((D, so) :: news) → (∀ p ∈ news, p.1 < D) → SetIs so l → Q (.ref D) { s with heap := h', toks := tk }) :
    wpAny (model prog w) A (call (.type "set") [.ref v]) Q E s := by
  have hl' : s.heap.IsList v vs.toArray := ⟨_, (N _ hv).1, rfl, n, rfl⟩
  have hvn : vs.length = l.length := IntsAre.length hi
  refine call_set_list (items := vs.toArray) (ns := l) hh hl' (by simpa using hi) (by unfold scanBound; rw [List.size_toArray]; omega) fun h' tk hS hk => ?_
  have es : vs.toArray.size = l.length := by rw [List.size_toArray, hvn]
  rw [es, firstMet_all l hn] at hS
  obtain ⟨so, ho, hso⟩ := hS.objOf
  exact h _ h' tk so (fr_grown F hk) (news_pushed F N (fun b o e => hk b o (Heap.lt_size e) e) ho rfl) (fun p hp => Heap.lt_size (N p hp).1) hso.intSetOf

theorem SetIs.at {h : Heap} (x : SetIs oa l) (ho : h.get? a = some oa) (hl : l.length ≤ 20) : h.SetOf (PySem.intKind prog w) a (fun k => l.any (· == k)) l.length := (x.kind prog w).setOf ho (by unfold scanBound; omega)

theorem lru_in {Q : Value → Shared → Prop} {k : Int} {t : Tok} (N : News h₀ L s.heap news) (ha : (a, oa) ∈ news) (hs : SetIs oa l) (hl : l.length ≤ 20) (h : Q (.bool (l.any (· == k))) { s with toks := s.toks + 1 }) :
    wpAny (model prog w) A (compareOp .In (.int k t) (.ref a)) Q E s := wpAny_inSet_of (intKind_is prog w k t) rfl (hs.at (N _ ha).1 hl) h
theorem lru_inB {Q : Value → Shared → Prop} {k : Int} {t : Tok} {b : Bool} (N : News h₀ L s.heap news) (ha : (a, oa) ∈ news) (hs : SetIs oa l) (hl : l.length ≤ 20) (hb : (l.any (· == k)) = b) (h : Q (.bool b) { s with toks := s.toks + 1 }) :
    wpAny (model prog w) A (compareOp .In (.int k t) (.ref a)) Q E s := lru_in N ha hs hl (by rw [hb]; exact h)
theorem lru_le {Q : Value → Shared → Prop} (hu : A.units < cLine) (N : News h₀ L s.heap news) (ha : (a, oa) ∈ news) (hb : (b, ob) ∈ news) (hs : SetIs oa l) (hs' : SetIs ob l') (hl : l.length ≤ 20) (hl' : l'.length ≤ 20) (hle : l.length ≤ l'.length) (hsub : ∀ k ∈ l, k ∈ l')
    (h : Q (.bool true) s) : wpAny (model prog w) A (compareOp .LtE (.ref a) (.ref b)) Q E s :=
  set_le_true hu (hs.at (N _ ha).1 hl) (hs'.at (N _ hb).1 hl') hle (fun k hk => by simp only [List.any_beq'] at *; simp_all) h
theorem lru_ne {Q : Value → Shared → Prop} (hu : A.units < cLine) (N : News h₀ L s.heap news) (ha : (a, oa) ∈ news) (hb : (b, ob) ∈ news) (hs : SetIs oa l) (hs' : SetIs ob l') (hl : l.length ≤ 20) (hl' : l'.length ≤ 20) (hle : l.length = l'.length) (hsub : ∀ k ∈ l, k ∈ l')
    (h : Q (.bool false) s) : wpAny (model prog w) A (compareOp .NotEq (.ref a) (.ref b)) Q E s :=
  set_ne_false hu (hs.at (N _ ha).1 hl) (hs'.at (N _ hb).1 hl') hle (fun k hk => by simp only [List.any_beq'] at *; simp_all) h
end
end Mine
end
section
open PySem PySem.W PyProof.Rows PySem.Calls PyProof.V PySem.Spec
set_option maxRecDepth 100000
namespace Mine
/-- the small keys that a word of bits tells, rising -/
def pl (m : Nat) : List Nat := (List.range 7).filter m.testBit
def keysM (m : Nat) : List Int := (pl m).map Int.ofNat
theorem pl_len (m : Nat) : (pl m).length ≤ 7 := by
  unfold pl
  exact Nat.le_trans (List.length_filter_le _ _) (by simp)
theorem mem_pl {m k : Nat} : k ∈ pl m ↔ k < 7 ∧ m.testBit k = true := by
  unfold pl; rw [List.mem_filter, List.mem_range]
theorem pl_lt {m k : Nat} (h : k ∈ pl m) : k < 7 := (mem_pl.mp h).1
theorem below_add : ∀ m : Fin 128, ∀ k : Fin 7, m.val.testBit k.val = false → SetTable.insertAt (pl m.val).toArray (SetTable.below (pl m.val).toArray k.val) k.val = (pl (m.val ||| 1 <<< k.val)).toArray := by decide +kernel
theorem below_walk : ∀ m : Fin 128, ∀ i : Fin 7, i.val < (pl m.val).length → SetTable.below (pl m.val).toArray (if i.val = 0 then 0 else (pl m.val).getD (i.val - 1) 0 + 1) = i.val := by decide +kernel
theorem below_end : ∀ m : Fin 128, (pl m.val).length ≤ SetTable.below (pl m.val).toArray (if (pl m.val).length = 0 then 0 else (pl m.val).getD ((pl m.val).length - 1) 0 + 1) := by decide +kernel
theorem bits_small7 : ∀ k : Fin 7, SetTable.bits (Int.ofNat k.val) % (7 + 1) = k.val := by decide +kernel
theorem bits_small15 : ∀ k : Fin 7, SetTable.bits (Int.ofNat k.val) % (15 + 1) = k.val := by decide +kernel
theorem hash_small : ∀ k : Fin 7, hashInt (Int.ofNat k.val) = Int.ofNat k.val := by decide +kernel
theorem lay15 : ∀ m : Fin 128, (pl m.val).length ≤ 3 → ((SetTable.layClean 15 (keysM m.val).toArray).map fun owner => (List.range (15 + 1)).filterMap fun j => (owner.getD j none).map (j, ·)) = some ((pl m.val).zip (List.range (pl m.val).length)) := by decide +kernel
end Mine
end
section
open PySem PySem.W PyProof.Rows PySem.Calls PyProof.V PySem.Spec
set_option maxRecDepth 100000
namespace Mine
/-- a set of small ints, its table known -/
structure SSd (bt : Bool) (mask m : Nat) (es : Array (Int × Value)) (t : SetTable) : Prop where
  mask : t.mask = mask
  dum : t.dummies = #[]
  place : t.place = (pl m).toArray
  led : t.led = !bt
  plain : t.plain = true
  fst : es.toList.map (·.1) = keysM m
  int : ∀ e ∈ es.toList, ∃ u, e.2 = .int e.1 u
def SSo (bt : Bool) (mask m : Nat) (o : Obj) : Prop := o.ExactSet ∧ ∃ es ep t, o.data = .set es ep t ∧ SSd bt mask m es t
section
variable {bt : Bool} {mask m : Nat} {es : Array (Int × Value)} {t : SetTable}
theorem SSd.size (x : SSd bt mask m es t) : es.size = (pl m).length := by
  have := congrArg List.length x.fst
  rw [List.length_map, Array.length_toList, keysM, List.length_map] at this
  exact this
theorem SSd.fits (x : SSd bt mask m es t) (h : (pl m).length ≤ mask) : t.fits es.size = true := by
  unfold SetTable.fits SetTable.fill
  rw [x.place, x.dum, x.mask, x.size]
  simp [h]
theorem keysM_small {k : Int} (h : k ∈ keysM m) : ∃ j : Fin 7, k = Int.ofNat j.val ∧ m.testBit j.val = true := by
  obtain ⟨j, hj, rfl⟩ := List.mem_map.mp h
  exact ⟨⟨j, (mem_pl.mp hj).1⟩, rfl, (mem_pl.mp hj).2⟩
theorem SSd.elems (x : SSd bt mask m es t) {prog : Program} {w : World} : ElemsOf (PySem.intKind prog w) es.toList := by
  intro e he
  obtain ⟨u, hu⟩ := x.int e he
  have h1 : e.1 ∈ keysM m := x.fst ▸ List.mem_map_of_mem he
  obtain ⟨j, hj, _⟩ := keysM_small h1
  refine ⟨⟨e.1, by rw [hu]; exact intKind_is _ _ _ _, ?_⟩, by rw [hu]; rfl⟩
  show e.1 = hashInt e.1
  rw [hj]; exact (hash_small j).symm
theorem SSd.mem (x : SSd bt mask m es t) {prog : Program} {w : World} (k : Int) : (keysM m).any (· == k) = true ↔ ∃ e ∈ es.toList, (PySem.intKind prog w).is k e.2 = true := by
  rw [List.any_eq_true]
  constructor
  · rintro ⟨a, ha, e⟩
    have e : a = k := by simpa using e
    subst e
    rw [← x.fst] at ha
    obtain ⟨p, hp, rfl⟩ := List.mem_map.mp ha
    obtain ⟨u, hu⟩ := x.int p hp
    exact ⟨p, hp, by rw [hu]; exact intKind_is _ _ _ _⟩
  · rintro ⟨p, hp, h⟩
    obtain ⟨u, hu⟩ := x.int p hp
    rw [hu] at h
    obtain rfl : k = p.1 := (PySem.intKind prog w).inj _ _ _ h (intKind_is _ _ _ _)
    exact ⟨p.1, x.fst ▸ List.mem_map_of_mem hp, by simp⟩
theorem SSo.setIs {o : Obj} (x : SSo bt mask m o) (h : (pl m).length ≤ mask) : SetIs o (keysM m) := by
  obtain ⟨hex, es, ep, t, hd, y⟩ := x
  intro prog w
  refine ⟨hex, es, ep, t, hd, y.elems, y.mem, ?_, y.fits h⟩
  rw [y.size, keysM, List.length_map]
theorem has_none (j : Nat) : SetTable.has #[] j = false := by
  unfold SetTable.has
  simp
theorem SSd.slotFree (x : SSd bt mask m es t) {k : Nat} (hk : m.testBit k = false) : t.slot k = .empty := by
  unfold SetTable.slot
  rw [x.dum, has_none]
  have : (t.place[SetTable.below t.place k]? == some k) = false := by
    rw [beq_eq_false_iff_ne]
    intro e
    rw [x.place] at e
    rw [List.getElem?_toArray] at e
    have := (mem_pl.mp (List.mem_of_getElem? e)).2
    rw [hk] at this; cases this
  dsimp only
  rw [this]
  simp
theorem SSd.free (x : SSd bt mask m es t) (hm : mask = 7 ∨ mask = 15) {k : Fin 7} (hk : m.testBit k.val = false) : t.freeSlot (Int.ofNat k.val) = some (k.val, false) := by
  have hb : SetTable.bits (Int.ofNat k.val) % (t.mask + 1) = k.val := by
    rw [x.mask]
    rcases hm with rfl | rfl
    · exact bits_small7 k
    · exact bits_small15 k
  have hp : (t.probeStart (Int.ofNat k.val)).j = k.val := hb
  have hd : (t.probeStart (Int.ofNat k.val)).dummy = none := rfl
  unfold SetTable.freeSlot SetTable.probe
  have h220 : ∃ n, 10 * SetTable.turns t.mask = n + 1 := by
    rw [x.mask]; unfold SetTable.turns
    exact ⟨10 * (mask + 15) - 1, by omega⟩
  obtain ⟨n, hn⟩ := h220
  rw [hn]
  unfold SetTable.probe.go
  rw [hp, x.slotFree hk, hd]
  rfl
theorem insertAt_map {α β : Type} (f : α → β) (xs : Array α) (p : Nat) (x : α) : (SetTable.insertAt xs p x).map f = SetTable.insertAt (xs.map f) p (f x) := by
  unfold SetTable.insertAt
  simp [Array.map_append, Array.map_push, Array.map_extract]
theorem SSd.new (x : SSd bt mask m es t) (hm7 : m < 128) (hm : mask = 7 ∨ mask = 15) {k : Fin 7} (hk : m.testBit k.val = false) {v : Value} (hv : ∃ u, v = .int (Int.ofNat k.val) u) :
    ∃ es' t', layNew t es (Int.ofNat k.val) v = (es', t', false, false) ∧ SSd bt mask (m ||| 1 <<< k.val) es' t' := by
  unfold layNew
  rw [x.free hm hk]
  have hput : t.put k.val = ({ t with place := (pl (m ||| 1 <<< k.val)).toArray, dummies := #[] }, SetTable.below (pl m).toArray k.val) := by
    unfold SetTable.put
    rw [x.dum, has_none, x.place]
    have := below_add ⟨m, hm7⟩ k hk
    simp only at this
    dsimp only
    rw [this]
    simp
  dsimp only
  rw [hput]
  have hfst : (SetTable.insertAt es (SetTable.below (pl m).toArray k.val) (Int.ofNat k.val, v)).toList.map (·.1) = keysM (m ||| 1 <<< k.val) := by
    have h1 : (SetTable.insertAt es (SetTable.below (pl m).toArray k.val) (Int.ofNat k.val, v)).map (·.1) = ((pl (m ||| 1 <<< k.val)).toArray).map Int.ofNat := by
      rw [insertAt_map, ← below_add ⟨m, hm7⟩ k hk, insertAt_map]
      congr 1
      apply Array.toList_inj.mp
      rw [Array.toList_map, x.fst, Array.toList_map]
      rfl
    have := congrArg Array.toList h1
    rw [Array.toList_map, Array.toList_map] at this
    rw [this]
    rfl
  have hint : ∀ e ∈ (SetTable.insertAt es (SetTable.below (pl m).toArray k.val) (Int.ofNat k.val, v)).toList, ∃ u, e.2 = .int e.1 u := by
    intro e he
    unfold SetTable.insertAt at he
    simp only [Array.toList_append, Array.toList_push, List.mem_append, List.mem_singleton, Array.toList_extract] at he
    rcases he with (h | rfl) | h
    · exact x.int e (List.mem_of_mem_drop (List.mem_of_mem_take h))
    · exact hv
    · exact x.int e (List.mem_of_mem_drop (List.mem_of_mem_take h))
  have y : SSd bt mask (m ||| 1 <<< k.val) (SetTable.insertAt es (SetTable.below (pl m).toArray k.val) (Int.ofNat k.val, v)) { t with place := (pl (m ||| 1 <<< k.val)).toArray, dummies := #[] } :=
    { mask := x.mask, dum := rfl, place := rfl, led := x.led, plain := x.plain, fst := hfst, int := hint }
  have hfit := y.fits (by have := pl_len (m ||| 1 <<< k.val); rcases hm with rfl | rfl <;> omega)
  refine ⟨_, _, ?_, y⟩
  dsimp only
  rw [hfit]
  simp only [SetTable.orStandIn, hfit, Bool.not_true, if_true]
end
end Mine
end
section
open PySem PySem.W PyProof.Rows PySem.Calls PyProof.V PySem.Spec
set_option maxRecDepth 100000
namespace Mine
theorem pl_add : ∀ m : Fin 128, ∀ k : Fin 7, m.val.testBit k.val = false → (pl (m.val ||| 1 <<< k.val)).length = (pl m.val).length + 1 := by decide +kernel
theorem or_lt : ∀ m : Fin 128, ∀ k : Fin 7, m.val ||| 1 <<< k.val < 128 := by decide +kernel
theorem pl_zero : ∀ m : Fin 128, (pl m.val).length = 0 → m.val = 0 := by decide +kernel
theorem bit_or (m : Nat) (k j : Nat) : (m ||| 1 <<< k).testBit j = (m.testBit j || decide (j = k)) := by
  rw [Nat.testBit_or, Nat.one_shiftLeft, Nat.testBit_two_pow]
  congr 1
  exact decide_eq_decide.mpr ⟨fun h => h.symm, fun h => h.symm⟩
theorem erase_perm {α : Type} (l : List α) (i : Nat) (h : i < l.length) : (l[i] :: l.eraseIdx i).Perm l := by
  induction l generalizing i with
  | nil => exact absurd h (by simp)
  | cons a r ih =>
    cases i with
    | zero => exact List.Perm.refl _
    | succ i => exact (List.Perm.swap _ _ _).trans ((ih i (by simpa using h)).cons a)
theorem pickGo_perm {α : Type} (next : Nat → Nat) : ∀ (fuel k : Nat) (left : List α) (out : Array α), left.length = fuel → (pickOrder.go next fuel k left out).toList.Perm (out.toList ++ left)
  | 0, k, left, out, h => by
    obtain rfl := List.length_eq_zero_iff.mp h
    unfold pickOrder.go
    simp
  | fuel + 1, k, left, out, h => by
    have hlt : next k % left.length < left.length := Nat.mod_lt _ (by omega)
    unfold pickOrder.go
    rw [List.getElem?_eq_getElem hlt]
    dsimp only
    refine (pickGo_perm next fuel (k + 1) _ _ (by rw [List.length_eraseIdx_of_lt hlt]; omega)).trans ?_
    rw [Array.toList_push, List.append_assoc]
    exact (erase_perm left _ hlt).append_left _
theorem pickOrder_perm {α : Type} (next : Nat → Nat) (xs : Array α) : (pickOrder next xs).toList.Perm xs.toList := by
  unfold pickOrder
  simpa using pickGo_perm next xs.size 0 xs.toList #[] (by simp)
section
variable {prog : Program} {w : World} {A : Around} {E : Value → Shared → Prop} {s : Shared} {a : Addr} {o : Obj} {mask m : Nat} {es : Array (Int × Value)} {ep : Nat} {t : SetTable}
abbrev btOf (w : World) : Bool := w.params.followText "set-order"
theorem walk_ss {Q : Array (Int × Value) → Shared → Prop} (ho : s.heap.get? a = some o) (hd : o.data = .set es ep t) (x : SSd (btOf w) mask m es t) (hl : (pl m).length ≤ mask)
    (h : ∀ es', es'.toList.Perm es.toList → Q es' s) : wpAny (model prog w) A (setWalk a) Q E s := by
  unfold setWalk setsByText
  refine wpAny_bind (wpAny_setState_of ho hd (x.fits hl) ?_)
  dsimp only
  refine wpAny_bind (wpAny_bind (wpAny_askSetting (wpAny_pure ?_)))
  have hled := x.led
  have hpl := x.plain
  obtain ⟨mask', place, dummies, finger, led, moves, plain⟩ := t
  simp only at hled hpl
  subst hled hpl
  show wpAny _ _ (if btOf w = true then _ else _) _ _ _
  generalize btOf w = b at *
  cases b with
  | true =>
    rw [if_pos rfl]
    exact wpAny_bind (wpAny_askSetting (wpAny_pure (h _ (pickOrder_perm _ _))))
  | false =>
    rw [if_neg Bool.false_ne_true]
    split
    · rename_i h1
      exact absurd (show false = true from h1) Bool.false_ne_true
    · refine wpAny_bind ?_
      refine wpAny_pure ?_
      exact wpAny_pure (h _ (List.Perm.refl _))
theorem walkUnseen_ss {others : List Addr} {filled : Option Addr} {Q : Array (Int × Value) → Shared → Prop} (ho : s.heap.get? a = some o) (hd : o.data = .set es ep t) (x : SSd (btOf w) mask m es t) (hl : (pl m).length ≤ mask)
    (h : ∀ es', es'.toList.Perm es.toList → Q es' s) : wpAny (model prog w) A (setWalkUnseen a others filled) Q E s := by
  unfold setWalkUnseen
  refine wpAny_bind (wpAny_setState_of ho hd (x.fits hl) ?_)
  dsimp only
  refine wpAny_bind (m := setsByText) ?_
  unfold setsByText
  refine wpAny_bind (wpAny_askSetting (wpAny_pure ?_))
  rw [if_pos (by rw [x.led, x.plain]; show (btOf w || (!btOf w && true) || _) = true; cases btOf w <;> rfl)]
  exact walk_ss ho hd x hl h
end
end Mine
end
section
open PySem PySem.W PyProof.Rows PySem.Calls PyProof.V PySem.Spec
set_option maxRecDepth 100000
namespace Mine
section
variable {prog : Program} {w : World} {A : Around} {E : Value → Shared → Prop} {s : Shared} {a : Addr} {o : Obj} {mask m : Nat} {es : Array (Int × Value)} {ep : Nat} {t : SetTable}
theorem store_ss {bt : Bool} {h : Heap} (ho : h.get? a = some o) (hex : o.ExactSet) (hd : o.data = .set es ep t) {es' : Array (Int × Value)} {t' : SetTable} {mask' m' : Nat} (x : SSd bt mask' m' es' t') :
    ∃ o', (h.update a (Obj.putSet es' t')).get? a = some o' ∧ SSo bt mask' m' o' := by
  have hg : (h.update a (Obj.putSet es' t')).get? a = some { o with data := .set es' (ep + 1) t' } := by
    have := Heap.get?_update_self (Obj.putSet es' t') ho (by rw [putSet_of es' t' hd]; rfl)
    rw [putSet_of es' t' hd] at this; exact this
  exact ⟨_, hg, hex, es', ep + 1, t', rfl, x⟩
theorem add_ss {k : Fin 7} {v : Value} {Q : Bool → Shared → Prop} (ho : s.heap.get? a = some o) (x : SSo (btOf w) mask m o) (hm7 : m < 128) (hm : mask = 7 ∨ mask = 15) (hk : m.testBit k.val = false) (hv : ∃ u, v = .int (Int.ofNat k.val) u)
    (hroom : ((pl m).length + 1) * 5 < mask * 3)
    (h : ∀ h' o', Heap.SameBut a s.heap h' → h'.get? a = some o' → SSo (btOf w) mask (m ||| 1 <<< k.val) o' → Q true { s with heap := h' }) :
    wpAny (model prog w) A (setAddHashed a v (Int.ofNat k.val)) Q E s := by
  obtain ⟨hex, es, ep, t, hd, x⟩ := x
  have hl : (pl m).length ≤ mask := by omega
  have hf := x.fits hl
  have hel : ElemsOf (PySem.intKind prog w) es.toList := x.elems
  have hsc : v.scannable = true := by obtain ⟨u, rfl⟩ := hv; rfl
  have hkey : (PySem.intKind prog w).is (Int.ofNat k.val) v = true := by obtain ⟨u, rfl⟩ := hv; exact intKind_is _ _ _ _
  have hhash : (PySem.intKind prog w).hash (Int.ofNat k.val) = Int.ofNat k.val := hash_small k
  have hb : es.size < scanBound := by rw [x.size]; have := pl_len m; unfold scanBound; omega
  unfold setAddHashed setAddHashedIn
  refine wpAny_holding (wpAny_bind (wpAny_setState_of ho hd hf ?_))
  dsimp only
  rw [byScan_of hsc hb hel]
  simp only [↓reduceIte]
  unfold setAddByScan
  refine wpAny_bind ?_
  refine wpAny_bind (wpAny_rule ?_)
  have hscan : ∀ (Q : ScanMet → Shared → Prop), Q (match es.toList.findIdx? (fun e => (PySem.intKind prog w).is (Int.ofNat k.val) e.2) with | some j => .found (0 + j) | none => .absent) s → wpAny (model prog w) A (setScan a v (Int.ofNat k.val) true es) Q E s := fun Q hQ => by
    have := wpAny_setScan_of (prog := prog) (w := w) (A := A) (E := E) (s := s) (adding := true) (Q := Q) hkey ho hd hf hel hQ
    rw [hhash] at this
    exact this
  refine wpAny_bind (hscan _ ?_)
  have hnone : List.findIdx? (fun e => (PySem.intKind prog w).is (Int.ofNat k.val) e.2) es.toList = none := by
    rw [List.findIdx?_eq_none_iff]
    intro e he
    cases hq : (PySem.intKind prog w).is (Int.ofNat k.val) e.2 with
    | false => rfl
    | true =>
      have := (x.mem (prog := prog) (w := w) (Int.ofNat k.val)).mpr ⟨e, he, hq⟩
      obtain ⟨y, hy, e'⟩ := List.any_eq_true.mp this
      obtain rfl : y = Int.ofNat k.val := by simpa using e'
      obtain ⟨j, hj, hb'⟩ := keysM_small hy
      have : j.val = k.val := (Int.ofNat.inj hj).symm
      rw [this, hk] at hb'; cases hb'
  rw [hnone]
  dsimp only
  obtain ⟨es', t', hnew, y⟩ := x.new hm7 hm hk hv
  rw [hnew]
  dsimp only
  have hz : es'.size ≤ sizeLine := by rw [y.size]; have := pl_len (m ||| 1 <<< k.val); rw [sizeLine_eq]; omega
  refine wpAny_bind (wpAny_pure ?_)
  rw [if_pos y.plain, hashByValue_scannable 8 hsc]
  have hpk : plainKind v = true := by obtain ⟨u, rfl⟩ := hv; rfl
  rw [hpk]
  refine wpAny_bind (wpAny_pure ?_)
  simp only [if_true]
  have hfull : t'.tooFull = false := by
    unfold SetTable.tooFull SetTable.fill
    rw [y.place, y.dum, y.mask]
    have := pl_add ⟨m, hm7⟩ k hk
    simp only at this
    simp only [List.size_toArray, List.size_toArray, List.length_nil, Nat.add_zero, this, decide_eq_false_iff_not]
    omega
  refine wpAny_bind (wpAny_storeSet_of ho hd ?_ hz)
  rw [hfull]
  simp only [Bool.and_false, Bool.false_eq_true, if_false]
  obtain ⟨o', ho', hx'⟩ := store_ss ho hex hd y
  exact wpAny_pure (wpAny_pure (h _ o' (Heap.SameBut.update s.heap a _) ho' hx'))
end
end Mine
end
section
open PySem PySem.W PyProof.Rows PySem.Calls PyProof.V PySem.Spec
set_option maxRecDepth 100000
namespace Mine
section
variable {prog : Program} {w : World} {A : Around} {E : Value → Shared → Prop} {s : Shared} {a : Addr} {o : Obj} {mask m : Nat} {es : Array (Int × Value)} {ep : Nat} {t : SetTable} {bt : Bool}
theorem SSd.relaid (x : SSd bt 7 m es t) (hm : m < 128) (hl : (pl m).length ≤ 3) {wanted : Nat} (hw : SetTable.sizeAbove wanted = 16) :
    ∃ t', t.relaid (es.map (·.1)) wanted = some (t', (List.range es.size).toArray) ∧ SSd bt 15 m es t' := by
  have hh : es.map (·.1) = (keysM m).toArray := by
    apply Array.toList_inj.mp
    rw [Array.toList_map, x.fst]
  have hlay := lay15 ⟨m, hm⟩ hl
  simp only at hlay
  unfold SetTable.relaid SetTable.laid
  rw [hh, hw]
  obtain ⟨owner, ho, hlive⟩ := Option.map_eq_some_iff.mp hlay
  show ∃ t', (SetTable.layClean 15 (keysM m).toArray).bind _ = _ ∧ _
  rw [ho]
  have e1 : ((pl m).zip (List.range (pl m).length)).map (·.1) = pl m := by
    rw [List.map_fst_zip]
    rw [List.length_range]; exact Nat.le_refl _
  have e2 : ((pl m).zip (List.range (pl m).length)).map (·.2) = List.range (pl m).length := by
    rw [List.map_snd_zip]
    rw [List.length_range]; exact Nat.le_refl _
  refine ⟨{ mask := 15, place := (pl m).toArray, dummies := #[], finger := t.finger, led := t.led, moves := t.movedTo 15, plain := t.plain }, ?_, { mask := rfl, dum := rfl, place := rfl, led := x.led, plain := x.plain, fst := x.fst, int := x.int }⟩
  show some _ = some _
  rw [x.size]
  have h15 : (16 - 1 : Nat) = 15 := rfl
  simp only [h15]
  rw [hlive, e1, e2]
theorem relay_ss {wanted : Nat} {Q : Unit → Shared → Prop} (ho : s.heap.get? a = some o) (x : SSo (btOf w) 7 m o) (hm : m < 128) (hl : (pl m).length ≤ 3) (hw : SetTable.sizeAbove wanted = 16)
    (h : ∀ h' o', Heap.SameBut a s.heap h' → h'.get? a = some o' → SSo (btOf w) 15 m o' → Q () { s with heap := h' }) : wpAny (model prog w) A (setRelay a wanted) Q E s := by
  obtain ⟨hex, es, ep, t, hd, x⟩ := x
  unfold setRelay
  refine wpAny_bind (wpAny_setState_of ho hd (x.fits (by omega)) ?_)
  dsimp only
  obtain ⟨t', ht, y⟩ := x.relaid hm hl hw
  rw [ht, hw]
  rw [if_neg (by rw [sizeLine_eq]; omega)]
  have hes : (List.range es.size).toArray.filterMap (fun i => es[i]?) = es := by
    apply Array.toList_inj.mp
    rw [Array.toList_filterMap]
    exact filterMap_getElem?_range es
  refine wpAny_bind ?_
  refine wpAny_mono (Q := fun r s' => r = (es, t') ∧ s' = s) (E := E) ?_ ?_ fun _ _ e => e
  · show wpAny _ _ (if ((List.range es.size).toArray.filterMap (fun i => es[i]?)).size != es.size then _ else pure ((List.range es.size).toArray.filterMap (fun i => es[i]?), t')) _ _ _
    rw [hes]
    simp only [bne_self_eq_false, Bool.false_eq_true, if_false]
    exact wpAny_pure ⟨rfl, rfl⟩
  · rintro r s' ⟨rfl, rfl⟩
    dsimp only
    obtain ⟨o', ho', hx'⟩ := store_ss ho hex hd y
    have hz : es.size ≤ sizeLine := by rw [x.size]; have := pl_len m; rw [sizeLine_eq]; omega
    exact wpAny_storeSet_of ho hd (h _ o' (Heap.SameBut.update s'.heap a _) ho' hx') hz
end
end Mine
end
section
open PySem PySem.W PyProof.Rows PySem.Calls PyProof.V PySem.Spec
set_option maxRecDepth 100000
namespace Mine
theorem bits_eq {m m' : Nat} (h1 : m < 128) (h2 : m' < 128) (h : ∀ j, j < 7 → m.testBit j = m'.testBit j) : m = m' := by
  apply Nat.eq_of_testBit_eq
  intro j
  by_cases hj : j < 7
  · exact h j hj
  · have hp : (128 : Nat) ≤ 2 ^ j := by
      have := Nat.pow_le_pow_right (n := 2) (by decide) (show 7 ≤ j by omega)
      exact this
    rw [Nat.testBit_lt_two_pow (by omega), Nat.testBit_lt_two_pow (by omega)]
section
variable {prog : Program} {w : World} {A : Around} {E : Value → Shared → Prop} {r a : Addr} {oa : Obj} {mask : Nat}
theorem addAll_ss {β : Type} {f : (Int × Value) → β → Sem (ForInStep β)} {b : β} {Q : β → Shared → Prop} (hra : r ≠ a) (hm : mask = 7 ∨ mask = 15)
    (turn : ∀ (e : Int × Value) (s : Shared) (P : ForInStep β → Shared → Prop), wpAny (model prog w) A (setAddHashed r e.2 e.1) (fun _ s₁ => s₁.heap.get? a = some oa ∧ P (.yield b) s₁) E s → wpAny (model prog w) A (f e b) P E s) :
    ∀ (l : List (Int × Value)) (m : Nat) (s : Shared) (o : Obj), s.heap.get? r = some o → SSo (btOf w) mask m o → m < 128 → s.heap.get? a = some oa →
      (∀ e ∈ l, ∃ k : Fin 7, e.1 = Int.ofNat k.val ∧ (∃ u, e.2 = .int (Int.ofNat k.val) u) ∧ m.testBit k.val = false) → (l.map (·.1)).Nodup → ((pl m).length + l.length) * 5 < mask * 3 →
      (∀ h' o' m', Heap.SameBut r s.heap h' → h'.get? r = some o' → SSo (btOf w) mask m' o' → m' < 128 → (∀ j, m'.testBit j = (m.testBit j || l.any fun e => e.1 == Int.ofNat j)) → Q b { s with heap := h' }) →
      wpAny (model prog w) A (forIn l b f) Q E s
  | [], m, s, o, ho, x, hm7, ha, hl, hn, hc, h => by
    rw [List.forIn_nil]
    exact wpAny_pure (h s.heap o m (Heap.SameBut.refl _ _) ho x hm7 fun j => by simp)
  | e :: l, m, s, o, ho, x, hm7, ha, hl, hn, hc, h => by
    obtain ⟨k, hk1, hk2, hk3⟩ := hl e (.head _)
    have hadd := pl_add ⟨m, hm7⟩ k hk3
    have hlt := or_lt ⟨m, hm7⟩ k
    simp only at hadd hlt
    rw [List.length_cons] at hc
    rw [List.map_cons, List.nodup_cons] at hn
    rw [List.forIn_cons]
    refine wpAny_bind (turn e s _ ?_)
    rw [hk1]
    refine add_ss ho x hm7 hm hk3 hk2 (by omega) fun h' o' hs ho' x' => ⟨(hs.2 a hra.symm).trans ha, ?_⟩
    refine addAll_ss hra hm turn l (m ||| 1 <<< k.val) _ o' ho' x' hlt ((hs.2 a hra.symm).trans ha) (fun e' he' => ?_) hn.2 (by rw [hadd]; omega) fun h'' o'' m'' hs' ho'' x'' hlt'' hb => ?_
    · obtain ⟨k', a1, a2, a3⟩ := hl e' (.tail _ he')
      refine ⟨k', a1, a2, ?_⟩
      rw [bit_or, a3]
      simp only [Bool.false_or, decide_eq_false_iff_not]
      intro e2
      exact hn.1 (by rw [hk1, ← e2, ← a1]; exact List.mem_map_of_mem he')
    · refine h h'' o'' m'' (hs.trans hs') ho'' x'' hlt'' fun j => ?_
      rw [hb, bit_or, List.any_cons, hk1, Bool.or_assoc]
      congr 2
      rw [Bool.eq_iff_iff]
      simp only [decide_eq_true_eq, beq_iff_eq]
      exact ⟨fun e => by rw [e], fun e => (Int.ofNat.inj e).symm⟩
theorem size16 : ∀ n : Fin 7, 5 ≤ n.val → SetTable.sizeAbove (n.val * 2) = 16 := by decide +kernel
theorem merge_ss {s : Shared} {or : Obj} {m1 m2 : Nat} {ep : Nat} {es : Array (Int × Value)} {t : SetTable} {each : Sem Unit} {Q : Unit → Shared → Prop} (hra : r ≠ a) (hr : s.heap.get? r = some or) (x : SSo (btOf w) 7 m1 or) (ha : s.heap.get? a = some oa)
    (hd : oa.data = .set es ep t) (y : SSd (btOf w) 7 m2 es t) (hm1 : m1 < 128) (hm2 : m2 < 128) (l1 : (pl m1).length ≤ 3) (l2 : (pl m2).length ≤ 3) (dj : ∀ j, j < 7 → ¬ (m1.testBit j = true ∧ m2.testBit j = true))
    (heach : ∀ (s' : Shared) (P : Unit → Shared → Prop), s'.heap.get? a = some oa → P () s' → wpAny (model prog w) A each P E s')
    (h : ∀ h' o' mask', Heap.SameBut r s.heap h' → h'.get? r = some o' → SSo (btOf w) mask' (m1 ||| m2) o' → (pl (m1 ||| m2)).length ≤ mask' → (m1 = 0 → mask' = 7) → Q () { s with heap := h' }) :
    wpAny (model prog w) A (setMerge r a each) Q E s := by
  have hlt : m1 ||| m2 < 128 := Nat.or_lt_two_pow (n := 7) hm1 hm2
  have hl6 : (pl (m1 ||| m2)).length ≤ 7 := pl_len _
  unfold setMerge
  rw [if_neg (by simpa using hra)]
  refine wpAny_bind (wpAny_setState_of ha hd (y.fits (by omega)) ?_)
  dsimp only
  by_cases he : es.isEmpty = true
  · rw [if_pos he]
    have : m2 = 0 := pl_zero ⟨m2, hm2⟩ (by have := y.size; rw [Array.isEmpty_iff_size_eq_zero.mp he] at this; exact this.symm)
    subst this
    rw [Nat.or_zero] at h hl6
    exact wpAny_pure (h s.heap or 7 (Heap.SameBut.refl _ _) hr x hl6 fun _ => rfl)
  · rw [if_neg he]
    have hp2 : 0 < (pl m2).length := by
      rw [← y.size]
      rcases Nat.eq_zero_or_pos es.size with h0 | h0
      · exact absurd (Array.isEmpty_iff_size_eq_zero.mpr h0) he
      · exact h0
    -- the room
    have room : ∀ (P : Unit → Shared → Prop), (∀ h' o' mask', Heap.SameBut r s.heap h' → h'.get? r = some o' → SSo (btOf w) mask' m1 o' → (mask' = 7 ∨ mask' = 15) → ((pl m1).length + (pl m2).length) * 5 < mask' * 3 → ((pl m1).length = 0 → mask' = 7) → P () { s with heap := h' }) → wpAny (model prog w) A (setRoomFor r es.size) P E s := by
      intro P hP
      obtain ⟨hex, es1, ep1, t1, hd1, x1⟩ := id x
      unfold setRoomFor
      refine wpAny_bind (wpAny_setState_of hr hd1 (x1.fits (by omega)) ?_)
      unfold SetTable.roomFor SetTable.fill
      dsimp only
      rw [x1.place, x1.dum, x1.mask, y.size]
      simp only [List.size_toArray, Array.size_empty, List.length_nil, Nat.add_zero]
      by_cases hc : ((pl m1).length + (pl m2).length) * 5 ≥ 7 * 3
      · rw [if_pos hc]
        dsimp only
        refine relay_ss hr x hm1 l1 (size16 ⟨(pl m1).length + (pl m2).length, by omega⟩ (by show 5 ≤ (pl m1).length + (pl m2).length; omega)) fun h' o' hs ho' x' => hP h' o' 15 hs ho' x' (.inr rfl) (by omega) (by omega)
      · rw [if_neg hc]
        exact wpAny_pure (hP s.heap or 7 (Heap.SameBut.refl _ _) hr x (.inl rfl) (by omega) fun _ => rfl)
    refine wpAny_bind (room _ fun h' o' mask' hs ho' x' hmk hc hz => ?_)
    have ha' : h'.get? a = some oa := (hs.2 a hra.symm).trans ha
    obtain ⟨hex, es1, ep1, t1, hd1, x1⟩ := id x'
    refine wpAny_bind (wpAny_setState_of ho' hd1 (x1.fits (by rcases hmk with rfl | rfl <;> omega)) ?_)
    dsimp only
    by_cases h0 : (pl m1).length = 0
    · have e7 := hz h0
      subst e7
      have e0 : m1 = 0 := pl_zero ⟨m1, hm1⟩ h0
      subst e0
      rw [Nat.zero_or] at h hl6
      have hroad : t1.road t = .slotForSlot := by
        unfold SetTable.road SetTable.fill
        rw [x1.place, x1.dum, x1.mask, y.mask, y.dum]
        simp [h0]
      rw [hroad]
      dsimp only
      have z : SSd (btOf w) 7 m2 es { t with finger := t1.finger, led := t1.led && t.led, moves := t1.moves, plain := t1.plain && t.plain } :=
        { mask := y.mask, dum := y.dum, place := y.place, led := by show (t1.led && t.led) = _; rw [x1.led, y.led, Bool.and_self], plain := by show (t1.plain && t.plain) = _; rw [x1.plain, y.plain]; rfl, fst := y.fst, int := y.int }
      obtain ⟨o'', ho'', hx''⟩ := store_ss ho' hex hd1 z
      exact wpAny_storeSet_of ho' hd1 (h _ o'' 7 (hs.trans (Heap.SameBut.update h' r _)) ho'' hx'' hl6 fun _ => rfl) (by rw [y.size, sizeLine_eq]; omega)
    · have hroad : t1.road t = .oneByOne := by
        unfold SetTable.road SetTable.fill
        rw [x1.place, x1.dum]
        simp [h0]
      rw [hroad]
      dsimp only
      refine wpAny_bind (walkUnseen_ss ha' hd y (by omega) fun es' hp => ?_)
      rw [← Array.forIn_toList]
      have hpe : ∀ e ∈ es'.toList, e ∈ es.toList := fun e h => hp.mem_iff.mp h
      have hlen : es'.toList.length = (pl m2).length := by rw [hp.length_eq, Array.length_toList, y.size]
      refine wpAny_bind (addAll_ss hra hmk ?_ es'.toList m1 _ o' ho' x' hm1 ha' (fun e he => ?_) ?_ (by rw [hlen]; exact hc) fun h'' o'' m'' hs'' ho'' x'' hlt'' hb => ?_)
      · intro e s' P hP
        refine wpAny_bind (wpAny_holding (wpAny_mono hP (fun _ s₁ hq => ?_) fun _ _ e => e))
        refine wpAny_bind (heach s₁ _ hq.1 ?_)
        refine wpAny_bind (wpAny_setState_of hq.1 hd (y.fits (by omega)) ?_)
        simp only [bne_self_eq_false, Bool.false_eq_true, if_false]
        exact wpAny_bind (wpAny_pure (wpAny_pure hq.2))
      · have he1 : e.1 ∈ keysM m2 := y.fst ▸ List.mem_map_of_mem (hpe e he)
        obtain ⟨k, hk, hkb⟩ := keysM_small he1
        obtain ⟨u, hu⟩ := y.int e (hpe e he)
        refine ⟨k, hk, ⟨u, by rw [hu, hk]⟩, ?_⟩
        cases hq : m1.testBit k.val with
        | false => rfl
        | true => exact absurd ⟨hq, hkb⟩ (dj k.val k.isLt)
      · have h1 : (es.toList.map (·.1)).Nodup := by
          rw [y.fst]
          unfold keysM pl
          exact List.pairwise_map.mpr ((List.nodup_range.sublist List.filter_sublist).imp fun h e => h (Int.ofNat.inj e))
        exact (hp.map _).nodup_iff.mpr h1
      · have e : m'' = m1 ||| m2 := bits_eq hlt'' hlt fun j hj => by
          rw [hb, Nat.testBit_or]
          congr 1
          rw [Bool.eq_iff_iff, List.any_eq_true]
          constructor
          · rintro ⟨e, he, h1⟩
            have h1 : e.1 = Int.ofNat j := by simpa using h1
            have he1 : e.1 ∈ keysM m2 := y.fst ▸ List.mem_map_of_mem (hpe e he)
            obtain ⟨k, hk, hkb⟩ := keysM_small he1
            rw [h1] at hk
            rw [Int.ofNat.inj hk]; exact hkb
          · intro hbit
            have : Int.ofNat j ∈ es.toList.map (·.1) := by
              rw [y.fst]; exact List.mem_map_of_mem (mem_pl.mpr ⟨hj, hbit⟩)
            obtain ⟨e, he, h1⟩ := List.mem_map.mp this
            exact ⟨e, hp.mem_iff.mpr he, by simp [h1]⟩
        subst e
        refine wpAny_pure (h h'' o'' mask' (hs.trans hs'') ho'' x'' (by rcases hmk with rfl | rfl <;> omega) fun e0 => absurd (by rw [e0]; rfl) h0)
end
end Mine
end
section
open PySem PySem.W PyProof.Rows PySem.Calls PyProof.V PySem.Spec
set_option maxRecDepth 100000
namespace Mine
abbrev freshSet (w : World) : Obj := { cls := .type "set", dict := none, data := .set #[] 0 (.fresh 0 0 (!btOf w)) }
theorem fresh_ss (w : World) : SSo (btOf w) 7 0 (freshSet w) := by
  refine ⟨⟨rfl, rfl, rfl⟩, #[], 0, _, rfl, ?_⟩
  exact { mask := rfl, dum := rfl, place := by show #[] = _; decide +kernel, led := rfl, plain := rfl, fst := by decide +kernel, int := fun e he => by simp at he }
theorem SSo.typeIs {bt : Bool} {mask m : Nat} {o : Obj} {s : Shared} {a : Addr} (x : SSo bt mask m o) (ho : s.heap.get? a = some o) : s.TypeIs (.ref a) "set" := ⟨o, ho, x.1.1⟩
section
variable {prog : Program} {w : World} {A : Around} {E : Value → Shared → Prop} {s : Shared} {a b : Addr} {oa ob : Obj} {m1 m2 : Nat}
theorem newSet_ss {Q : Value → Shared → Prop} (h : Q (.ref s.heap.objs.size) { s with heap := s.heap.push (freshSet w) }) : wpAny (model prog w) A (newSet (.type "set")) Q E s := by
  unfold newSet setsByText
  refine wpAny_bind (wpAny_bind (wpAny_askSetting (wpAny_pure ?_)))
  dsimp only
  simp only [newObj]
  exact wpAny_bind (wpAny_alloc (wpAny_pure h))
theorem baseOf_ss {Q : Value → Shared → Prop} (hT : s.TypeIs (.ref a) "set") (h : Q (.type "set") s) : wpAny (model prog w) A (Builtin.Frozenset.baseOf a) Q E s := by
  unfold Builtin.Frozenset.baseOf
  refine wpAny_bind (wpAny_isInstance hT sub_set_self ?_)
  exact wpAny_pure h
theorem copyOf_ss {Q : Value → Shared → Prop} (ha : s.heap.get? a = some oa) (x : SSo (btOf w) 7 m1 oa) (hm1 : m1 < 128) (l1 : (pl m1).length ≤ 3)
    (h : ∀ h' o', Heap.SameBut s.heap.objs.size (s.heap.push (freshSet w)) h' → h'.get? s.heap.objs.size = some o' → SSo (btOf w) 7 m1 o' → Q (.ref s.heap.objs.size) { s with heap := h' }) : wpAny (model prog w) A (Builtin.Frozenset.copyOf a) Q E s := by
  have hlt := Heap.lt_size ha
  obtain ⟨hex, es, ep, t, hd, y⟩ := id x
  unfold Builtin.Frozenset.copyOf
  refine wpAny_bind (baseOf_ss (x.typeIs ha) (wpAny_bind (newSet_ss ?_)))
  refine wpAny_bind (wpAny_pure ?_)
  refine wpAny_bind (merge_ss (m1 := 0) (Nat.ne_of_gt hlt) (Heap.get?_push_size _ rfl) (fresh_ss w) (Heap.get?_push_of_some _ ha) hd y (by decide) hm1 (by decide) l1 (fun j _ => by simp) (fun s' P _ hP => wpAny_pure hP) fun h' o' mask' hs ho' x' hl hz => ?_)
  rw [Nat.zero_or] at x'
  have := hz rfl
  subst this
  exact wpAny_pure (h h' o' hs ho' x')
theorem isAny_ss {Q : Bool → Shared → Prop} (hT : s.TypeIs (.ref a) "set") (h : Q true s) : wpAny (model prog w) A (Builtin.Frozenset.isAnySet (.ref a)) Q E s := isAnySet_of hT h
theorem entry_set_or : entryFor table "set.__or__" = some Builtin.«frozenset.__or__» := entryFor_alias (id' := "frozenset.__or__") (by kernel_rfl) rfl (by decide +kernel) (by kernel_rfl)
theorem entry_set_and : entryFor table "set.__and__" = some Builtin.«frozenset.__and__» := entryFor_alias (id' := "frozenset.__and__") (by kernel_rfl) rfl (by decide +kernel) (by kernel_rfl)
theorem or_ss {Q : Value → Shared → Prop} (hab : a ≠ b) (ha : s.heap.get? a = some oa) (x : SSo (btOf w) 7 m1 oa) (hb : s.heap.get? b = some ob) (y : SSo (btOf w) 7 m2 ob) (hm1 : m1 < 128) (hm2 : m2 < 128) (l1 : (pl m1).length ≤ 3) (l2 : (pl m2).length ≤ 3)
    (dj : ∀ j, j < 7 → ¬ (m1.testBit j = true ∧ m2.testBit j = true))
    (h : ∀ h' o' mask', Heap.SameBut s.heap.objs.size (s.heap.push (freshSet w)) h' → h'.get? s.heap.objs.size = some o' → SSo (btOf w) mask' (m1 ||| m2) o' → (pl (m1 ||| m2)).length ≤ mask' → Q (.ref s.heap.objs.size) { s with heap := h' }) :
    wpAny (model prog w) A (binaryOp .BitOr (.ref a) (.ref b)) Q E s := by
  have hlb := Heap.lt_size hb
  refine wpAny_binaryOp_same (op := .BitOr) (T := "set") (x.typeIs ha) (y.typeIs hb) PySem.F.fills_set_or PySem.F.slot_set_or (wpAny_call_entry PySem.F.slot_set_or (x.typeIs ha) entry_set_or ?_ (PySem.F.args_set_or_2 _ _))
  unfold Builtin.«frozenset.__or__»
  refine wpAny_bind (slot1_two (wpAny_bind ?_))
  unfold andM
  refine wpAny_bind (isAnySet_of (x.typeIs ha) ?_)
  refine isAnySet_of (y.typeIs hb) ?_
  simp only [Bool.not_true, Bool.false_eq_true, if_false]
  refine wpAny_bind (wpAny_pure (wpAny_bind (wpAny_bind (copyOf_ss ha x hm1 l1 fun h' o' hs ho' x' => ?_))))
  rw [if_pos (by simp only [bne_iff_ne, ne_eq, Value.ref.injEq]; exact fun e => hab e.symm)]
  refine wpAny_bind (wpAny_pure ?_)
  have hb' : h'.get? b = some ob := by
    rw [hs.2 b (Nat.ne_of_lt hlb)]
    exact Heap.get?_push_of_some _ hb
  obtain ⟨hexb, esb, epb, tb, hdb, yb⟩ := id y
  have hTb : ∀ hh : Heap, hh.get? b = some ob → Shared.TypeIs { s with heap := hh } (.ref b) "set" := fun hh e => ⟨ob, e, hexb.1⟩
  refine wpAny_bind (wpAny_holding ?_)
  unfold Builtin.Frozenset.updateFrom
  refine wpAny_bind (isAnySet_of (hTb _ hb') ?_)
  simp only [if_true]
  refine wpAny_bind (wpAny_pure ?_)
  unfold Builtin.Frozenset.merge
  refine wpAny_bind (wpAny_setEpoch_of hb' hdb (yb.fits (by omega)) ?_)
  refine merge_ss (Nat.ne_of_gt hlb) ho' x' hb' hdb yb hm1 hm2 l1 l2 dj (fun s' P hg hP => unchanged_of hg hdb (yb.fits (by omega)) hP) fun h'' o'' mask' hs' ho'' x'' hl'' _ => ?_
  refine wpAny_pure (wpAny_pure ⟨_, rfl, (by intro e; cases e), h h'' o'' mask' (hs.trans hs') ho'' x'' hl''⟩)
end
end Mine
end
section
open PySem PySem.W PyProof.Rows PySem.Calls PyProof.V PySem.Spec
set_option maxRecDepth 100000
namespace Mine
section
variable {prog : Program} {w : World} {A : Around} {E : Value → Shared → Prop} {s : Shared} {a b : Addr} {oa ob : Obj} {m1 m2 : Nat}
theorem SSo.setOf {mask m : Nat} (x : SSo (btOf w) mask m oa) (h : (pl m).length ≤ mask) (ho : s.heap.get? a = some oa) : s.heap.SetOf (PySem.intKind prog w) a (fun k => (keysM m).any (· == k)) (keysM m).length :=
  SetIs.at (x.setIs h) ho (by rw [keysM, List.length_map]; have := pl_len m; omega)
/-- the walk of one set whose elements the other lacks -/
theorem and_walk (ha : s.heap.get? a = some oa) (x : SSo (btOf w) 7 m1 oa) (l1 : (pl m1).length ≤ 3)
    (dj : ∀ j, j < 7 → ¬ (m1.testBit j = true ∧ m2.testBit j = true)) {β : Type} {b0 : β} {Q : β → Shared → Prop} {f : (Int × Value) → β → Sem (ForInStep β)} {es : Array (Int × Value)} (y' : SSd (btOf w) 7 m2 es t)
    (turn : ∀ (e : Int × Value) (P : ForInStep β → Shared → Prop), wpAny (model prog w) A (setFind a e.2 e.1) (fun r s₁ => r = none ∧ s₁ = s ∧ P (.yield b0) s₁) E s → wpAny (model prog w) A (f e b0) P E s)
    (h : Q b0 s) {es' : Array (Int × Value)} (hp : es'.toList.Perm es.toList) : wpAny (model prog w) A (forIn es' b0 f) Q E s := by
  rw [← Array.forIn_toList]
  refine for_on es'.toList (fun e he P hP => turn e P ?_) h
  have he' := hp.mem_iff.mp he
  have h1 : e.1 ∈ keysM m2 := y'.fst ▸ List.mem_map_of_mem he'
  obtain ⟨k, hk, hkb⟩ := keysM_small h1
  obtain ⟨u, hu⟩ := y'.int e he'
  have hkey : (PySem.intKind prog w).is e.1 e.2 = true := by rw [hu]; exact intKind_is _ _ _ _
  have hhash : (PySem.intKind prog w).hash e.1 = e.1 := by show hashInt e.1 = e.1; rw [hk]; exact hash_small k
  have := wpAny_setFind_of (prog := prog) (w := w) (A := A) (E := E) (s := s) (Q := fun r s₁ => r = none ∧ s₁ = s ∧ P (.yield b0) s₁) hkey (by rw [hu]; rfl) (x.setOf (by omega) ha) fun r hr => by
    have : ((keysM m1).any (· == e.1)) = false := by
      rw [List.any_eq_false]
      intro z hz e'
      obtain rfl : z = e.1 := by simpa using e'
      obtain ⟨j, hj, hjb⟩ := keysM_small hz
      rw [hk] at hj
      have : k.val = j.val := Int.ofNat.inj hj
      exact dj j.val j.isLt ⟨hjb, this ▸ hkb⟩
    rw [this] at hr
    refine ⟨?_, rfl, hP⟩
    cases r with
    | none => rfl
    | some _ => cases hr
  rw [hhash] at this
  exact this
theorem and_ss {Q : Value → Shared → Prop} (hab : a ≠ b) (ha : s.heap.get? a = some oa) (x : SSo (btOf w) 7 m1 oa) (hb : s.heap.get? b = some ob) (y : SSo (btOf w) 7 m2 ob) (l1 : (pl m1).length ≤ 3) (l2 : (pl m2).length ≤ 3)
    (dj : ∀ j, j < 7 → ¬ (m1.testBit j = true ∧ m2.testBit j = true))
    (h : Q (.ref s.heap.objs.size) { s with heap := s.heap.push (freshSet w) }) :
    wpAny (model prog w) A (binaryOp .BitAnd (.ref a) (.ref b)) Q E s := by
  refine wpAny_binaryOp_same (op := .BitAnd) (T := "set") (x.typeIs ha) (y.typeIs hb) PySem.F.fills_set_and PySem.F.slot_set_and (wpAny_call_entry PySem.F.slot_set_and (x.typeIs ha) entry_set_and ?_ (PySem.F.args_set_and_2 _ _))
  unfold Builtin.«frozenset.__and__»
  refine wpAny_bind (slot1_two (wpAny_bind ?_))
  unfold andM
  refine wpAny_bind (isAnySet_of (x.typeIs ha) ?_)
  refine isAnySet_of (y.typeIs hb) ?_
  simp only [Bool.not_true, Bool.false_eq_true, if_false]
  refine wpAny_bind (wpAny_pure (wpAny_bind ?_))
  unfold Builtin.Frozenset.intersection
  rw [if_neg (by simp only [beq_iff_eq, Value.ref.injEq]; exact fun e => hab e.symm)]
  refine wpAny_bind (baseOf_ss (x.typeIs ha) (wpAny_bind (newSet_ss ?_)))
  refine wpAny_bind (wpAny_pure ?_)
  have ha' : (s.heap.push (freshSet w)).get? a = some oa := Heap.get?_push_of_some _ ha
  have hb' : (s.heap.push (freshSet w)).get? b = some ob := Heap.get?_push_of_some _ hb
  have hTb : Shared.TypeIs { s with heap := s.heap.push (freshSet w) } (.ref b) "set" := ⟨ob, hb', y.1.1⟩
  refine wpAny_bind (wpAny_holding ?_)
  refine wpAny_bind (isAnySet_of hTb ?_)
  simp only [if_true]
  refine wpAny_bind (wpAny_pure ?_)
  refine wpAny_bind (sizeOf_of (y.setOf (prog := prog) (s := { s with heap := s.heap.push (freshSet w) }) (by omega) hb') ?_)
  refine wpAny_bind (sizeOf_of (x.setOf (prog := prog) (s := { s with heap := s.heap.push (freshSet w) }) (by omega) ha') ?_)
  obtain ⟨hexa, esa, epa, ta, hda, xa⟩ := id x
  obtain ⟨hexb, esb, epb, tb, hdb, yb⟩ := id y
  split
  · dsimp only
    refine wpAny_bind (wpAny_setEpoch_of ha' hda (xa.fits (by omega)) ?_)
    refine wpAny_bind (walkUnseen_ss ha' hda xa (by omega) fun es' hp => ?_)
    refine wpAny_bind (and_walk hb' y l2 (fun j hj h => dj j hj ⟨h.2, h.1⟩) xa (fun e P hP => ?_) ?_ hp)
    · refine wpAny_bind (wpAny_holding (wpAny_bind (wpAny_mono hP (fun r s₁ hr => ?_) fun _ _ e => e)))
      obtain ⟨rfl, rfl, hr⟩ := hr
      simp only [Option.isSome_none, Bool.false_eq_true, if_false]
      exact wpAny_pure (wpAny_bind (unchanged_of ha' hda (xa.fits (by omega)) (wpAny_pure hr)))
    · exact wpAny_pure (wpAny_pure (wpAny_pure ⟨_, rfl, (by intro e; cases e), h⟩))
  · dsimp only
    refine wpAny_bind (wpAny_setEpoch_of hb' hdb (yb.fits (by omega)) ?_)
    refine wpAny_bind (walkUnseen_ss hb' hdb yb (by omega) fun es' hp => ?_)
    refine wpAny_bind (and_walk ha' x l1 dj yb (fun e P hP => ?_) ?_ hp)
    · refine wpAny_bind (wpAny_holding (wpAny_bind (wpAny_mono hP (fun r s₁ hr => ?_) fun _ _ e => e)))
      obtain ⟨rfl, rfl, hr⟩ := hr
      simp only [Option.isSome_none, Bool.false_eq_true, if_false]
      exact wpAny_pure (wpAny_bind (unchanged_of hb' hdb (yb.fits (by omega)) (wpAny_pure hr)))
    · exact wpAny_pure (wpAny_pure (wpAny_pure ⟨_, rfl, (by intro e; cases e), h⟩))
end
end Mine
end
section
open PySem PySem.W PyProof.Rows PySem.Calls PyProof.V PySem.Spec
set_option maxRecDepth 100000
namespace Mine
/-- the word of bits of a list of small keys -/
def mkl (ks : List Int) : Nat := ks.foldl (fun m k => m ||| 1 <<< k.toNat) 0
theorem foldl_bit (ks : List Int) : ∀ (m j : Nat), (ks.foldl (fun m k => m ||| 1 <<< k.toNat) m).testBit j = (m.testBit j || ks.any fun k => k.toNat == j) := by
  induction ks with
  | nil => intro m j; simp
  | cons k r ih =>
    intro m j
    rw [List.foldl_cons, ih, bit_or, List.any_cons, Bool.or_assoc]
    congr 2
    rw [Bool.eq_iff_iff]
    simp only [decide_eq_true_eq, beq_iff_eq]
    exact ⟨fun e => e.symm, fun e => e.symm⟩
theorem mkl_bit (ks : List Int) (j : Nat) : (mkl ks).testBit j = ks.any fun k => k.toNat == j := by
  unfold mkl; rw [foldl_bit]; simp
theorem mkl_snoc (ks : List Int) (k : Int) : mkl (ks ++ [k]) = mkl ks ||| 1 <<< k.toNat := by
  unfold mkl; rw [List.foldl_append]; rfl
theorem mkl_lt {ks : List Int} (h : ∀ k ∈ ks, 0 ≤ k ∧ k < 7) : mkl ks < 128 := by
  apply Nat.lt_pow_two_of_testBit (n := 7)
  intro j hj
  rw [mkl_bit, List.any_eq_false]
  intro k hk e
  have := h k hk
  have e : k.toNat = j := by simpa using e
  omega
theorem mkl_mem {ks : List Int} (h : ∀ k ∈ ks, 0 ≤ k ∧ k < 7) {k : Int} (h0 : 0 ≤ k) : (mkl ks).testBit k.toNat = true ↔ k ∈ ks := by
  rw [mkl_bit, List.any_eq_true]
  constructor
  · rintro ⟨y, hy, e⟩
    have e : y.toNat = k.toNat := by simpa using e
    have := h y hy
    obtain rfl : y = k := by omega
    exact hy
  · intro hk
    exact ⟨k, hk, by simp⟩
theorem keysM_mkl {ks : List Int} (h : ∀ k ∈ ks, 0 ≤ k ∧ k < 7) {k : Int} : k ∈ keysM (mkl ks) ↔ k ∈ ks := by
  unfold keysM
  rw [List.mem_map]
  constructor
  · rintro ⟨j, hj, rfl⟩
    have := (mem_pl.mp hj).2
    exact (mkl_mem h (Int.natCast_nonneg j)).mp this
  · intro hk
    have hb := h k hk
    refine ⟨k.toNat, mem_pl.mpr ⟨by omega, (mkl_mem h hb.1).mpr hk⟩, ?_⟩
    show ((k.toNat : Nat) : Int) = k
    omega
theorem keysM_nodup (m : Nat) : (keysM m).Nodup := List.pairwise_map.mpr ((List.nodup_range.sublist List.filter_sublist).imp fun h e => h (Int.ofNat.inj e))
theorem len_eq {l l' : List Int} (h1 : l.Nodup) (h2 : l'.Nodup) (h : ∀ k, k ∈ l ↔ k ∈ l') : l.length = l'.length := ((List.perm_ext_iff_of_nodup h1 h2).mpr h).length_eq
theorem pl_mkl {ks : List Int} (h : ∀ k ∈ ks, 0 ≤ k ∧ k < 7) (hn : ks.Nodup) : (pl (mkl ks)).length = ks.length := by
  have := len_eq (keysM_nodup (mkl ks)) hn fun k => keysM_mkl h
  rw [← this, keysM, List.length_map]
section
variable {prog : Program} {w : World} {A : Around} {R : Result → Shared → Prop} {I : Addr} {fp wr : List Addr} {G : Array GenState → Array GenState → Prop} {n : Nat} {P : Nat → Value → Prop} {St : Nat → Shared → Prop}
theorem loop_ss (W : WalksS prog w A.in1 I fp wr G n P St) (S : Addr) (hSf : S ∉ fp) (ks : List Int) (hks : n = ks.length) (hnd : ks.Nodup) (hsm : ∀ k ∈ ks, 0 ≤ k ∧ k < 7) (hl3 : ks.length ≤ 3)
    (hval : ∀ i v, P i v → ∃ t, v = .int (ks.getD i 0) t) :
    ∀ (k i : Nat) (s : Shared), n - i = k → i ≤ n → St i s → (∃ o, s.heap.get? S = some o ∧ SSo (btOf w) 7 (mkl (ks.take i)) o) →
      (∀ s', Moved (S :: wr) G s s' → (∃ o, s'.heap.get? S = some o ∧ SSo (btOf w) 7 (mkl ks) o) → R (.ok (.ret .none)) s') →
      codeAny (model prog w) A (.builtin "set.update.loop" ⟨[.ref S, .ref I], []⟩) R s := by
  have hSw : S ∉ wr := fun h => hSf (W.sub _ h)
  have hsub : ∀ b ∈ wr, b ∈ S :: wr := fun b hb => List.mem_cons_of_mem _ hb
  intro k
  induction k with
  | zero =>
    intro i s hk hi hst hS hR
    have hin : i = n := by omega
    subst hin
    refine codeAny_builtin PyProof.Rows.F.entry_set_update_loop ?_
    rw [Around.under_plainId PyProof.Rows.F.plain_set_update_loop _]
    show wpAny _ A.in1 (pyNext (.ref I) >>= _) _ _ s
    refine wpAny_bind (W.done s _ _ hst fun s' hm => ?_)
    show wpAny _ A.in1 (ret Value.none) _ _ s'
    refine wpAny_pure (hR s' (hm.mono hsub) ?_)
    obtain ⟨o, ho, x⟩ := hS
    rw [hks, List.take_length] at x
    exact ⟨o, hm.heap S _ hSw ho, x⟩
  | succ k ih =>
    intro i s hk hi hst hS hR
    have hlt : i < n := by omega
    refine codeAny_builtin PyProof.Rows.F.entry_set_update_loop ?_
    rw [Around.under_plainId PyProof.Rows.F.plain_set_update_loop _]
    show wpAny _ A.in1 (pyNext (.ref I) >>= _) _ _ s
    refine wpAny_bind (W.item i s _ _ hlt hst fun v s' hP hst' hm => ?_)
    obtain ⟨t, rfl⟩ := hval i v hP
    obtain ⟨o, ho, x⟩ := hS
    have ho' : s'.heap.get? S = some o := hm.heap S _ hSw ho
    have hil : i < ks.length := by omega
    have hg : ks.getD i 0 = ks[i] := by simp [hil]
    have hmem : ks.getD i 0 ∈ ks := by rw [hg]; exact List.getElem_mem hil
    have hb := hsm _ hmem
    have htk : ks.take (i + 1) = ks.take i ++ [ks.getD i 0] := by rw [hg]; exact List.take_succ_eq_append_getElem hil
    have hsmt : ∀ k ∈ ks.take i, 0 ≤ k ∧ k < 7 := fun k hk => hsm k (List.mem_of_mem_take hk)
    have hnt : ks.getD i 0 ∉ ks.take i := by
      have h1 : (ks.take (i + 1)).Nodup := hnd.sublist (List.take_sublist ..)
      rw [htk, List.nodup_append] at h1
      intro hq
      exact h1.2.2 _ hq _ (List.mem_singleton.mpr rfl) rfl
    obtain ⟨q, hq⟩ : ∃ q : Fin 7, ks.getD i 0 = Int.ofNat q.val := ⟨⟨(ks.getD i 0).toNat, by omega⟩, by show _ = (((ks.getD i 0).toNat : Nat) : Int); omega⟩
    show wpAny _ A.in1 (holding [Value.int (ks.getD i 0) t] (setAdd S (.int (ks.getD i 0) t)) >>= _) _ _ s'
    refine wpAny_bind (wpAny_holding ?_)
    unfold setAdd
    refine wpAny_holding ?_
    refine wpAny_bind ((PySem.intKind prog w).pyHash (k := ks.getD i 0) (intKind_is _ _ _ _) ?_)
    have hhash : (PySem.intKind prog w).hash (ks.getD i 0) = Int.ofNat q.val := by rw [hq]; exact hash_small q
    rw [hhash]
    have hk0 : (mkl (ks.take i)).testBit q.val = false := by
      rw [← Bool.not_eq_true]
      intro e
      have := (mkl_mem hsmt hb.1 (k := ks.getD i 0)).mp (by rw [hq]; exact e)
      exact hnt this
    refine add_ss (s := { s' with toks := s'.toks + 1 }) ho' x (mkl_lt hsmt) (.inl rfl) hk0 ⟨t, by rw [hq]⟩ (by rw [pl_mkl hsmt (hnd.sublist (List.take_sublist ..)), List.length_take]; omega) fun h' o' hsb ho'' x'' => ?_
    have hSi : SSo (btOf w) 7 (mkl (ks.take (i + 1))) o' := by
      rw [htk, mkl_snoc, hq]; exact x''
    refine wpAny_pure ⟨plainId_quiet PyProof.Rows.F.plain_set_update_loop _, ih (i + 1) _ (by omega) hlt (W.frame _ s' _ _ hst' (Nat.le_succ _) fun b hb o e => ?_) ⟨o', ho'', hSi⟩ fun s'' hm'' hS'' => ?_⟩
    · rw [hsb.2 b (fun h : b = S => hSf (by rw [← h]; exact hb))]; exact e
    · refine hR s'' (Moved.trans W.gtrans ((hm.mono hsub).then_heap (Nat.le_succ _) fun b o hb e => ?_) hm'') hS''
      rw [hsb.2 b (fun h : b = S => hb (by rw [h]; exact List.mem_cons_self))]; exact e
end
section
variable {prog : Program} {w : World} {A : Around} {E : Value → Shared → Prop} {s : Shared}
theorem code_set_new_ss (a : Value) {Q₁ : Value → Shared → Prop} (h : Q₁ (.ref s.heap.objs.size) { s with heap := s.heap.push (freshSet w) }) :
    codeAny (model prog w) A (.call (.builtin "set.__new__") ⟨[.type "set", a], []⟩) (wants Q₁ E) s := by
  refine codeAny_of_tree ?_
  show wpAny _ A.in1 (do checkBuiltinCall "set.__new__" ⟨[.type "set", a], []⟩; again (.builtin "set.__new__" ⟨[.type "set", a], []⟩)) _ _ s
  refine wpAny_bind (wpAny_of_eq (PySem.F.newCall_set_1 a) (wpAny_pure ⟨plainId_quiet PySem.F.plain_set_new _, codeAny_builtin PySem.F.entry_set_new ?_⟩))
  rw [Around.under_plainId PySem.F.plain_set_new _]
  unfold Builtin.«set.__new__» Builtin.Frozenset.newClass
  have hsub := sub_set_self
  obtain ⟨hp, g, d, tk, os⟩ := s
  dsimp only
  wp_walk
  refine wpAny_askSetting (wpAny_pure ?_)
  dsimp only
  simp only [newObj]
  refine wpAny_bind (wpAny_alloc (wpAny_pure ?_))
  exact wpAny_pure h
set_option maxHeartbeats 3200000 in
theorem call_set_small {T : String} {r d : Addr} {n : Nat} {P : Nat → Value → Prop} {OK : Heap → Prop} {Q : Value → Shared → Prop} (src : KdlSrc prog w T r d n P OK) (hok : OK s.heap)
    (hs1 : isSubtype (.type T) (.type "set") = pure false) (hs2 : isSubtype (.type T) (.type "frozenset") = pure false) (hs3 : (Value.type T == Value.type "dict") = false) (hh : A.handled = none)
    (ks : List Int) (hks : n = ks.length) (hnd : ks.Nodup) (hsm : ∀ k ∈ ks, 0 ≤ k ∧ k < 7) (hl3 : ks.length ≤ 3) (hval : ∀ i v, P i v → ∃ t, v = .int (ks.getD i 0) t)
    (h : ∀ (h' : Heap) (tk : Nat) (o : Obj), h'.get? s.heap.objs.size = some o → SSo (btOf w) 7 (mkl ks) o →
      (∀ b o, b < s.heap.objs.size → s.heap.get? b = some o → h'.get? b = some o) → Q (.ref s.heap.objs.size) { s with heap := h', toks := tk }) :
    wpAny (model prog w) A (call (.type "set") [.ref r]) Q E s := by
  obtain ⟨c, tl, hmro⟩ := PySem.F.called_set.mro
  have hmade := PySem.F.called_set.made
  have hsub := PySem.F.called_set.sub
  refine wpAny_call (codeAny_of_tree ?_)
  show wpAny _ _ (callAny (.type "set") _) _ _ _
  refine wpAny_pure ⟨Code.quiet_builtin _ (by decide +kernel), codeAny_builtin PySem.F.entry_type_call ?_⟩
  rw [Around.under_plain (weight_type_call_type "set" [.ref r] []) rfl]
  have h1 := PySem.F.called_set.notType
  have h2 := PySem.F.called_set.canCreate
  have hct := PySem.F.typeCall_set_1 (.ref r)
  repeat (any_goals (first | assumption | wp_step))
  refine codeAny_mono (code_set_new_ss (.ref r) (E := E) (Q₁ := fun obj s₁ => obj = .ref s.heap.objs.size ∧ s₁ = { s with heap := s.heap.push (freshSet w) }) ⟨rfl, rfl⟩) fun rr s₁ hr => ?_
  cases rr with
  | error e => exact hr
  | ok fl =>
    cases fl with
    | ret obj =>
      obtain ⟨rfl, rfl⟩ := hr
      have hS : (s.heap.push (freshSet w)).get? s.heap.objs.size = some (freshSet w) := Heap.get?_push_size _ rfl
      have hT : Shared.TypeIs { s with heap := s.heap.push (freshSet w) } (.ref s.heap.objs.size) "set" := ⟨_, hS, rfl⟩
      have hli := PySem.F.called_set.init.lookup
      have hbi := PySem.F.called_set.init.bind (.ref s.heap.objs.size)
      repeat (any_goals (first | assumption | wp_step))
      refine codeAny_mono (codeAny_call_builtin (R := wants (fun r s₂ => r = .none ∧ ∃ h' tk, s₂ = { s with heap := h', toks := tk } ∧
          (∃ o, h'.get? s.heap.objs.size = some o ∧ SSo (btOf w) 7 (mkl ks) o) ∧
          (∀ b o, b < s.heap.objs.size → s.heap.get? b = some o → h'.get? b = some o)) E) PySem.F.called_set.init.plain PySem.F.entry_set_init (check_set_init_1 hT ?_)) fun r₂ s₂ hr₂ => ?_
      · have hok1 : OK (s.heap.push (freshSet w)) := src.keep _ _ hok fun b _ o e => Heap.get?_push_of_some _ e
        have hTr : Shared.TypeIs { s with heap := s.heap.push (freshSet w) } (.ref r) T := src.type _ hok1
        obtain ⟨or_, hor, hcr⟩ := hTr
        obtain ⟨ocls, odict, odata, oslots⟩ := or_
        simp only at hcr
        subst hcr
        unfold Builtin.«set.__init__» noKeywords Builtin.Frozenset.updateFrom
        generalize hPI : pyIter = PI
        wp_walk
        subst hPI
        obtain ⟨hr1, hd1⟩ := src.there _ hok
        have hh3 : A.in1.in1.in1.handled = none := by simp [hh]
        obtain ⟨oI, St, hit, W, hst⟩ := src.iter A.in1.in1.in1 { s with heap := s.heap.push (freshSet w) } hh3 hok1
        refine wpAny_of_in1 (hit _ _ ?_)
        refine wpAny_bind (wpAny_runValue ?_)
        have hrS : r < s.heap.objs.size := hr1
        have hSf : s.heap.objs.size ∉ [(s.heap.push (freshSet w)).objs.size, d] := by
          rw [Heap.size_push]; simp only [List.mem_cons, List.not_mem_nil, or_false, not_or]
          exact ⟨Nat.ne_of_lt (Nat.lt_succ_self _), Nat.ne_of_gt hd1⟩
        refine loop_ss W.toS s.heap.objs.size hSf ks hks hnd hsm hl3 hval (n - 0) 0 _ (by omega) (Nat.zero_le _) hst ?hS0 ?hR
        case hS0 =>
          exact ⟨freshSet w, Heap.get?_push_of_some _ hS, fresh_ss w⟩
        case hR =>
          intro s' hm hS'
          obtain ⟨h', g', d', tk', os'⟩ := s'
          have eg : g' = s.gens := hm.gens
          have ed : d' = s.drawn := hm.drawn
          have eo : os' = s.os := hm.os
          subst eg; subst ed; subst eo
          show wpAny _ _ _ _ _ _
          refine wpAny_pure ?_
          show wpAny _ _ (ret Value.none) _ _ _
          refine wpAny_pure ⟨rfl, h', tk', rfl, hS', fun b o hb e => ?_⟩
          have hb1 : b ≠ s.heap.objs.size := Nat.ne_of_lt hb
          have hb2 : b ≠ (s.heap.push (freshSet w)).objs.size := by
            rw [Heap.size_push]; exact Nat.ne_of_lt (Nat.lt_succ_of_lt hb)
          exact hm.heap b o (by simp only [List.mem_cons, List.not_mem_nil, or_false, not_or]; exact ⟨hb1, hb2⟩) (Heap.get?_push_of_some _ (Heap.get?_push_of_some _ e))
      · cases r₂ with
        | error e => exact hr₂
        | ok fl₂ =>
          cases fl₂ with
          | ret r =>
            obtain ⟨rfl, h', tk, rfl, hS', hk'⟩ := hr₂
            repeat (any_goals (first | assumption | wp_step))
            obtain ⟨o, ho, hx⟩ := hS'
            exact h _ _ o ho hx hk'
          | _ => exact hr₂.elim
    | _ => exact hr.elim
end
section
variable {prog : Program} {w : World} {A : Around} {E : Value → Shared → Prop} {s : Shared} {h₀ : Heap} {L d v : Addr} {m : Str → Option Value} {news : List (Addr × Obj)} {od : Obj} {kvs : List (Int × Value)}
/-- keys of a small dict as a set, its table known -/
def SmOf (w : World) (o : Obj) (ks : List Int) : Prop := SSo (btOf w) 7 (mkl ks) o
theorem lru_keys_small {Q : Value → Shared → Prop} (hh : A.handled = none) (F : Fr h₀ L s.heap m) (N : News h₀ L s.heap news) (hv : (v, { cls := .type "dict_keys", data := .fields #[.ref d] }) ∈ news) (hp : (d, od) ∈ news) (hod : od.IsDictOf (PySem.intKind prog w) kvs) (hlen : kvs.length ≤ 3) (hsm : ∀ k ∈ kvs.map (·.1), 0 ≤ k ∧ k < 7)
    (h : ∀ D h' tk so, Fr h₀ L h' m → News h₀ L h' ((D, so) :: news) → (∀ p ∈ news, p.1 < D) → SmOf w so (kvs.map (·.1)) → Q (.ref D) { s with heap := h', toks := tk }) :
    wpAny (model prog w) A (call (.type "set") [.ref v]) Q E s := by
  have hD : s.heap.DictOf (PySem.intKind prog w) d kvs := Heap.dictOf_iff.mpr ⟨od, (N _ hp).1, hod⟩
  obtain ⟨ep, hat⟩ := hD.dictAt
  have hn : (kvs.map (·.1)).Nodup := keysNodup_of_isDictOf hod
  refine call_set_small (kdl_keys (knd := PySem.intKind prog w) (r := v) (d := d) (kvs := kvs) (ep := ep)) ⟨⟨_, (N _ hv).1, rfl, rfl⟩, hat⟩ sub_keys_set sub_keys_frozen (by decide) hh (kvs.map (·.1)) (by rw [List.length_map]) hn hsm (by rw [List.length_map]; exact hlen) (fun i x hx => ?_) fun h' tk o ho hx hk => ?_
  · obtain ⟨k, y, hx, hk⟩ := hx
    obtain ⟨t, rfl⟩ := Value.isInt_shape hk
    refine ⟨t, ?_⟩
    have : (kvs.map (·.1))[i]? = some k := by rw [List.getElem?_map, hx]; rfl
    rw [List.getD_eq_getElem?_getD, this]; rfl
  · exact h _ h' tk o (fr_grown F hk) (news_pushed F N (fun b o e => hk b o (Heap.lt_size e) e) ho rfl) (fun p hp => Heap.lt_size (N p hp).1) hx
end
end Mine
end
section
open PySem PySem.W PyProof.Rows PySem.Calls PyProof.V PySem.Spec
set_option maxRecDepth 100000
namespace Mine
theorem slot_setiter_next : Slot "set_iterator" "__next__" "set_iterator.__next__" :=
  .of (owner := "set_iterator") (n := "__next__") (by rw [typeLookup_type, builtinLookup_eq_fast]; kernel_rfl) (by decide +kernel) (by decide +kernel) (by decide +kernel)
    (by first | exact .inl (by decide +kernel) | exact .inr (by decide +kernel)) (by rw [isSubtype_type]; kernel_rfl)
theorem slot_setiter_iter : Slot "set_iterator" "__iter__" "set_iterator.__iter__" :=
  .of (owner := "set_iterator") (n := "__iter__") (by rw [typeLookup_type, builtinLookup_eq_fast]; kernel_rfl) (by decide +kernel) (by decide +kernel) (by decide +kernel)
    (by first | exact .inl (by decide +kernel) | exact .inr (by decide +kernel)) (by rw [isSubtype_type]; kernel_rfl)
theorem entry_setiter_next : entryFor table "set_iterator.__next__" = some Builtin.«set_iterator.__next__» := entryFor_of_fast (by kernel_rfl)
theorem entry_setiter_iter : entryFor table "set_iterator.__iter__" = some Builtin.«dict_keyiterator.__iter__» :=
  entryFor_alias (id' := "dict_keyiterator.__iter__") (by kernel_rfl) rfl (by decide +kernel) (by kernel_rfl)
theorem entry_set_iter : entryFor table "set.__iter__" = some Builtin.«frozenset.__iter__» := entryFor_alias (id' := "frozenset.__iter__") (by kernel_rfl) rfl (by decide +kernel) (by kernel_rfl)
theorem args_setiter_next (a : Value) : argsOk "set_iterator.__next__" ⟨[a], []⟩ := by unfold argsOk; kernel_rfl
theorem args_setiter_iter (a : Value) : argsOk "set_iterator.__iter__" ⟨[a], []⟩ := by unfold argsOk; kernel_rfl
/-- the iterator's place before its i-th item -/
def slAt (bt : Bool) (m i : Nat) : Nat := if bt = true then 0 else if i = 0 then 0 else (pl m).getD (i - 1) 0 + 1
abbrev itObj (bt : Bool) (m ep : Nat) (a : Addr) (i : Nat) : Obj := { cls := .type "set_iterator", dict := none, data := .fields #[rawInt (slAt bt m i), rawInt i, .ref a, rawInt ((pl m).length : Nat), rawInt ep], slots := #[] }
section
variable {prog : Program} {w : World} {A : Around} {E : Value → Shared → Prop} {s : Shared} {a I : Addr} {oa : Obj} {mask m ep : Nat} {es : Array (Int × Value)} {t : SetTable}
theorem setNext_ss {i : Nat} {Q : Option (Value × Nat) → Shared → Prop} (ha : s.heap.get? a = some oa) (hd : oa.data = .set es ep t) (y : SSd (btOf w) mask m es t) (hm : m < 128) (hl : (pl m).length ≤ mask) (hi : i ≤ (pl m).length)
    (h : ∀ r, (i < (pl m).length → ∃ v, r = some (v, slAt (btOf w) m (i + 1)) ∧ ∃ k u, v = .int k u) → (i = (pl m).length → r = none) → Q r s) :
    wpAny (model prog w) A (setNext a (slAt (btOf w) m i) i ep) Q E s := by
  unfold setNext setsByText
  refine wpAny_bind (wpAny_setState_of ha hd (y.fits hl) ?_)
  dsimp only
  refine wpAny_bind (wpAny_bind (wpAny_askSetting (wpAny_pure ?_)))
  have hled := y.led
  have hpl := y.plain
  have hpc := y.place
  have hsz := y.size
  obtain ⟨mask', place, dummies, finger, led, moves, plain⟩ := t
  simp only at hled hpl hpc
  subst hled hpl hpc
  show wpAny _ _ (if btOf w = true then _ else _) _ _ _
  cases hb : btOf w with
  | true =>
    rw [if_pos rfl]
    simp only [bne_self_eq_false, Bool.false_eq_true, if_false]
    refine wpAny_bind (walk_ss ha hd y hl fun es' hp => wpAny_pure ?_)
    have hlen : es'.size = (pl m).length := by rw [← Array.length_toList, hp.length_eq, Array.length_toList, hsz]
    refine h _ (fun hlt => ?_) fun he => ?_
    · have hlt' : i < es'.size := by omega
      rw [Array.getElem?_eq_getElem hlt']
      obtain ⟨u, hu⟩ := y.int es'[i] (hp.mem_iff.mp (by rw [← Array.getElem_toList]; exact List.getElem_mem _))
      refine ⟨es'[i].2, ?_, _, u, hu⟩
      simp [slAt, hb]
    · rw [Array.getElem?_eq_none (by omega)]
      rfl
  | false =>
    rw [if_neg Bool.false_ne_true]
    split
    · rename_i h1
      exact absurd (show false = true from h1) Bool.false_ne_true
    · refine wpAny_bind ?_
      refine wpAny_pure ?_
      refine wpAny_pure ?_
      rw [hb] at h
      refine h _ (fun hlt => ?_) fun he => ?_
      · have hw := below_walk ⟨m, hm⟩ ⟨i, by have := pl_len m; omega⟩ hlt
        simp only at hw
        have hs : slAt false m i = if i = 0 then 0 else (pl m).getD (i - 1) 0 + 1 := rfl
        rw [hs, hw]
        have h1 : i < es.size := by omega
        rw [Array.getElem?_eq_getElem h1, List.getElem?_toArray, List.getElem?_eq_getElem hlt]
        obtain ⟨u, hu⟩ := y.int es[i] (by rw [← Array.getElem_toList]; exact List.getElem_mem _)
        refine ⟨es[i].2, ?_, _, u, hu⟩
        simp [slAt, hlt]
      · have hw := below_end ⟨m, hm⟩
        simp only at hw
        have hs : slAt false m i = if (pl m).length = 0 then 0 else (pl m).getD ((pl m).length - 1) 0 + 1 := by rw [he]; rfl
        rw [hs, Array.getElem?_eq_none (by rw [hsz]; exact hw)]
theorem setDrawn_ss {Q : Bool → Shared → Prop} (ha : s.heap.get? a = some oa) (hd : oa.data = .set es ep t) (y : SSd (btOf w) mask m es t) (hl : (pl m).length ≤ mask) (h : Q false s) : wpAny (model prog w) A (setDrawn a) Q E s := by
  unfold setDrawn setsByText
  refine wpAny_bind (wpAny_setState_of ha hd (y.fits hl) ?_)
  dsimp only
  refine wpAny_bind (wpAny_bind (wpAny_askSetting (wpAny_pure (wpAny_pure ?_))))
  have hpl := y.plain
  obtain ⟨mask', place, dummies, finger, led, moves, plain⟩ := t
  simp only at hpl
  subst hpl
  have e : (!w.params.followText "set-order" && false) = false := by cases w.params.followText "set-order" <;> rfl
  exact e ▸ h
theorem walks_set (hh : A.handled = none) (hne : a ≠ I) (hd : oa.data = .set es ep t) (y : SSd (btOf w) mask m es t) (hm : m < 128) (hl : (pl m).length ≤ mask) :
    Walks prog w A I [I, a] [I] (pl m).length (fun _ v => ∃ k u, v = .int k u) (fun i h => h.get? I = some (itObj (btOf w) m ep a i) ∧ h.get? a = some oa) where
  sub := fun b hb => by simp at hb; simp [hb]
  frame := fun _ _ _ st hk => ⟨hk I (by simp) _ st.1, hk a (by simp) _ st.2⟩
  item := fun i s Q E hi st hQ => by
    have hT : s.TypeIs (.ref I) "set_iterator" := ⟨_, st.1, rfl⟩
    unfold pyNext
    refine wpAny_bind (wpAny_attempt (wpAny_callSpecial?_slot (name := Str.ofString "__next__") hT slot_setiter_next (wpAny_call_entry slot_setiter_next hT entry_setiter_next ?_ (args_setiter_next _))))
    unfold Builtin.«set_iterator.__next__»
    refine wpAny_bind (m := slotArgs "__next__" 0 ⟨[.ref I], []⟩) (wpAny_pure ?_)
    refine wpAny_bind (m := fieldsOf (.ref I)) (wpAny_bind (wpAny_load st.1 (wpAny_pure ?_)))
    show wpAny _ _ (setEntries a >>= _) _ _ s
    refine wpAny_bind (wpAny_setEntries_of st.2 hd (y.fits hl) ?_)
    rw [y.size]
    simp only [bne_self_eq_false, Bool.false_eq_true, if_false]
    show wpAny _ _ (setNext a ((slAt (btOf w) m i : Nat) : Int).toNat ((i : Nat) : Int).toNat ((ep : Nat) : Int).toNat >>= _) _ _ s
    simp only [Int.toNat_natCast]
    refine wpAny_bind (setNext_ss st.2 hd y hm hl (Nat.le_of_lt hi) fun r h1 _ => ?_)
    obtain ⟨v, rfl, hv⟩ := h1 hi
    dsimp only
    refine wpAny_bind (wpAny_setField_rec st.1 (by simp) fun h1 g1 s1 => ?_)
    refine wpAny_bind (wpAny_setField_rec (s := { s with heap := h1 }) g1 (by simp) fun h2 g2 s2 => ?_)
    refine wpAny_pure ⟨v, rfl, wpAny_pure (hQ v h2 s.toks hv ⟨?_, ?_⟩ fun b o hb e => ?_)⟩
    · rw [g2]; simp [rawInt]
    · rw [s2.2 a hne, s1.2 a hne]; exact st.2
    · have hb' : b ≠ I := fun e => hb (by simp [e])
      rw [s2.2 b hb', s1.2 b hb']; exact e
  done := fun s Q E st hQ => by
    have hT : s.TypeIs (.ref I) "set_iterator" := ⟨_, st.1, rfl⟩
    unfold pyNext
    refine wpAny_bind (wpAny_attempt (wpAny_callSpecial?_slot (name := Str.ofString "__next__") hT slot_setiter_next (wpAny_call_entry slot_setiter_next hT entry_setiter_next ?_ (args_setiter_next _))))
    unfold Builtin.«set_iterator.__next__»
    refine wpAny_bind (m := slotArgs "__next__" 0 ⟨[.ref I], []⟩) (wpAny_pure ?_)
    refine wpAny_bind (m := fieldsOf (.ref I)) (wpAny_bind (wpAny_load st.1 (wpAny_pure ?_)))
    show wpAny _ _ (setEntries a >>= _) _ _ s
    refine wpAny_bind (wpAny_setEntries_of st.2 hd (y.fits hl) ?_)
    rw [y.size]
    simp only [bne_self_eq_false, Bool.false_eq_true, if_false]
    show wpAny _ _ (setNext a ((slAt (btOf w) m (pl m).length : Nat) : Int).toNat (((pl m).length : Nat) : Int).toNat ((ep : Nat) : Int).toNat >>= _) _ _ s
    simp only [Int.toNat_natCast]
    refine wpAny_bind (setNext_ss st.2 hd y hm hl (Nat.le_refl _) fun r _ h2 => ?_)
    rw [h2 rfl]
    dsimp only
    refine wpAny_bind (wpAny_setField_rec st.1 (by simp) fun h1 g1 s1 => ?_)
    show wpAny _ _ (newExc (.type "StopIteration") [] >>= _) _ _ _
    refine wpAny_bind ?_
    simp only [newExc, newTuple]
    refine wpAny_bind (wpAny_newObj_type ?_ (by size_fits))
    refine wpAny_bind (m := firstArgMember _ _) (wpAny_of_eq (a := Value.none) (by first | rfl | (simp only [firstArgMember]; rfl)) ?_)
    refine wpAny_newObj_type ?_ (by size_fits)
    simp only [raiseNew]
    refine wpAny_bind (wpAny_handled ?_)
    rw [show A.in1.handled = none from hh]
    refine wpAny_bind (wpAny_pure (wpAny_throw ?_))
    refine wpAny_bind (wpAny_isInstance (T := "StopIteration") (b := true) ⟨_, Heap.get?_push_size _ rfl, rfl⟩ isSubtype_stop ?_)
    refine wpAny_pure (hQ _ s.toks fun b o hb e => ?_)
    have hb' : b ≠ I := fun e => hb (by simp [e])
    refine Heap.get?_push_of_some _ (Heap.get?_push_of_some _ ?_)
    rw [s1.2 b hb']; exact e
  self := fun i s Q E st hQ => by
    have hT : s.TypeIs (.ref I) "set_iterator" := ⟨_, st.1, rfl⟩
    refine wpAny_pyIter_slot hT slot_setiter_iter (wpAny_call_entry slot_setiter_iter hT entry_setiter_iter ?_ (args_setiter_iter _))
    show wpAny _ _ (ret (.ref I)) _ _ s
    exact wpAny_pure ⟨_, rfl, "set_iterator", _, hT, slot_setiter_next.lookup, hQ⟩
theorem pyIter_set {Q : Value → Shared → Prop} (ha : s.heap.get? a = some oa) (hex : oa.ExactSet) (hd : oa.data = .set es ep t) (y : SSd (btOf w) mask m es t) (hl : (pl m).length ≤ mask)
    (h : Q (.ref s.heap.objs.size) { s with heap := s.heap.push (itObj (btOf w) m ep a 0) }) : wpAny (model prog w) A (pyIter (.ref a)) Q E s := by
  have hT : s.TypeIs (.ref a) "set" := ⟨oa, ha, hex.1⟩
  refine wpAny_pyIter_slot hT PySem.F.slot_set_iter (wpAny_call_entry PySem.F.slot_set_iter hT entry_set_iter ?_ (PySem.F.args_set_iter_1 _))
  unfold Builtin.«frozenset.__iter__»
  refine wpAny_bind (m := Builtin.Frozenset.slot0 "__iter__" ⟨[.ref a], []⟩) (wpAny_pure ?_)
  refine wpAny_bind (m := Builtin.Frozenset.sizeOf a) ?_
  unfold Builtin.Frozenset.sizeOf
  refine wpAny_bind (wpAny_setEntries_of ha hd (y.fits hl) (wpAny_pure ?_))
  refine wpAny_bind (setDrawn_ss ha hd y hl ?_)
  simp only [Bool.false_eq_true, if_false]
  refine wpAny_bind (wpAny_pure ?_)
  refine wpAny_bind (wpAny_setEpoch_of ha hd (y.fits hl) ?_)
  have e0 : slAt (btOf w) m 0 = 0 := by unfold slAt; cases btOf w <;> rfl
  have hob : ({ cls := .type "set_iterator", dict := none, data := .fields [rawInt 0, rawInt 0, .ref a, rawInt (es.size : Nat), rawInt ep].toArray, slots := #[] } : Obj) = itObj (btOf w) m ep a 0 := by
    simp [itObj, e0, y.size]
  refine wpAny_bind (wpAny_newObj_type (wpAny_pure ⟨_, rfl, "set_iterator", _, ⟨_, Heap.get?_push_size _ rfl, rfl⟩, slot_setiter_next.lookup, ?_⟩))
  rw [hob]
  exact h
end
end Mine
end
section
open PySem PySem.W PyProof.Rows
set_option maxRecDepth 100000
namespace Mine
open_top hd for PySem.Challenge.rw_aj5039_01
end Mine
end
section
open PySem PySem.W PyProof.Rows PySem.Calls PyProof.V PySem.Spec
set_option maxRecDepth 100000
namespace Mine
noncomputable abbrev loose : List Str := looseW hd.view_39 [] ++ List.map (fun x => x.name) (recsOf hd.view_39) ++ List.map (fun x => x.fst) (litsOf hd.view_39) ++ List.map (fun x => x.name) (clssOf hd.view_39 (looseW hd.view_39 []))
abbrev cont (w : World) (t1 t2 t3 t4 : Tok) (mx : Int) (dis : Value) (c : Addr) : Obj := dictOf [⟨PyData.keyHash w.params (Str.ofString "_maxsize"), .str (Str.ofString "_maxsize") t1, .int mx t4⟩, ⟨PyData.keyHash w.params (Str.ofString "dispose_func"), .str (Str.ofString "dispose_func") t2, dis⟩, ⟨PyData.keyHash w.params (Str.ofString "_container"), .str (Str.ofString "_container") t3, .ref c⟩] 3
def defScope : Stmt → Scope
  | Stmt.FunctionDef _ _ _ _ _ _ sc _ _ _ => sc
  | _ => default
def defBody : Stmt → List Stmt
  | Stmt.FunctionDef _ _ b _ _ _ _ _ _ _ => b
  | _ => []
def forBody : Stmt → List Stmt
  | Stmt.For _ _ b _ _ => b
  | _ => []
abbrev lawStmt : Stmt := PySem.Challenge.pw_aj5039_01.main.body.getD 6 (Stmt.Pass default)
abbrev lawScope : Scope := defScope lawStmt
abbrev lawBody : List Stmt := defBody lawStmt
abbrev loopBody : List Stmt := forBody (lawBody.getD 8 (Stmt.Pass default))
def asgCallArg (i : Nat) : Stmt → Expr
  | Stmt.Assign _ (Expr.Call _ as _ _) _ => as.getD i (Expr.Constant Const.none 0 default)
  | _ => Expr.Constant Const.none 0 default
def lamP : Expr → Arguments
  | Expr.Lambda p _ _ _ => p
  | _ => default
def lamE : Expr → Expr
  | Expr.Lambda _ e _ _ => e
  | e => e
def lamS : Expr → Scope
  | Expr.Lambda _ _ s _ => s
  | _ => default
def defArgs : Stmt → Arguments
  | Stmt.FunctionDef _ a _ _ _ _ _ _ _ _ => a
  | _ => default
abbrev lamBk : Expr := asgCallArg 1 (lawBody.getD 4 (Stmt.Pass default))
abbrev lamOn : Expr := asgCallArg 1 (lawBody.getD 7 (Stmt.Pass default))
abbrev movD : Stmt := lawBody.getD 5 (Stmt.Pass default)
abbrev lamQual (L fa : Addr) : Str := (envOfC "law" lawScope L fa (.ref 110)).qual ++ Str.ofString "<lambda>"
abbrev lamObjB (L fa cT cF : Addr) (pm : Value) (c' : Addr) (ct : Value) : Obj := kla_obj (Str.ofString "<lambda>") (lamQual L fa) (lamP lamBk) (lamE lamBk) (lamS lamBk) [(Str.ofString "touched", cT), (Str.ofString "fallen", cF)] pm c' ct
abbrev lamObjO (L fa cT cW : Addr) (pm : Value) (c' : Addr) (ct : Value) : Obj := kla_obj (Str.ofString "<lambda>") (lamQual L fa) (lamP lamOn) (lamE lamOn) (lamS lamOn) [(Str.ofString "whole", cW), (Str.ofString "touched", cT)] pm c' ct
abbrev movQual (L fa : Addr) : Str := qualnameIn (envOfC "law" lawScope L fa (.ref 110)) (Str.ofString "moved") (Str.ofString "moved")
abbrev movObj (L fa cT cB : Addr) (dc pm : Value) (c' : Addr) (ct : Value) : Obj := fnMade (Str.ofString "moved") (movQual L fa) (defArgs movD) (defBody movD) (defScope movD) [(Str.ofString "touched", cT), (Str.ofString "back", cB)] dc pm c' ct
/-- a pair of a key and a thing -/
abbrev tup2 (k : Int) (t : Tok) (v : Value) : Obj := { cls := .type "tuple", data := .seq #[.int k t, v] }
abbrev lenv (L fa cd : Addr) : Env := envOfC "law" lawScope L fa (.ref cd)
/-- a stop for the walker -/
def Halt (P : Prop) : Prop := P
theorem halt {P : Prop} (h : Halt P) : P := h
theorem allLt_mem {l : Addr} : ∀ {r : List (Addr × Obj)}, AllLt l r → ∀ p ∈ r, p.1 < l
  | [], _, _, h => nomatch h
  | q :: r, h, p, hp => (List.mem_cons.mp hp).elim (fun e => e ▸ h.1) fun e => allLt_mem h.2 p e
theorem fr_back {h₀ h₀' h : Heap} {L : Addr} {m : Str → Option Value} (T : KtsTurn ([] : List Addr) h₀ h₀') (F : Fr h₀' L h m) : Fr h₀ L h m :=
  ⟨F.ns, fun b o e => F.keep b o (T.other b o e (by simp)), by have := F.above; rw [T.size] at this; exact this⟩
theorem news_back {h₀ h₀' h : Heap} {L : Addr} {n : List (Addr × Obj)} (T : KtsTurn ([] : List Addr) h₀ h₀') (N : News h₀' L h n) : News h₀ L h n :=
  fun p hp => ⟨(N p hp).1, (N p hp).2.1, none_turn T (N p hp).2.2⟩
theorem News.sub {h₀ h : Heap} {L : Addr} {n n' : List (Addr × Obj)} (N : News h₀ L h n) (hs : ∀ p ∈ n', p ∈ n) : News h₀ L h n' := fun p hp => N p (hs p hp)

def setD (mx : Int) (kvs : List (Int × Value)) (k : Int) (v : Value) : List (Int × Value) :=
  if (valueAt kvs k).isSome then without kvs k ++ [(k, v)] else if ((kvs ++ [(k, v)]).length : Int) ≤ mx then kvs ++ [(k, v)] else (kvs ++ [(k, v)]).tail
theorem without_head {k0 : Int} {v0 : Value} {r : List (Int × Value)} (hn : (((k0, v0) :: r).map (·.1)).Nodup) : without ((k0, v0) :: r) k0 = r := by
  rw [List.map_cons, List.nodup_cons] at hn
  simp only [without, List.filter_cons, ne_eq, not_true_eq_false, decide_false, Bool.false_eq_true, if_false]
  exact without_of_not_mem r _ hn.1
theorem without_miss {kvs : List (Int × Value)} {k : Int} (hv : valueAt kvs k = none) : without kvs k = kvs := by
  refine without_of_not_mem kvs k fun hm => ?_
  obtain ⟨p, hp, rfl⟩ := List.mem_map.mp hm
  unfold valueAt at hv
  rw [Option.map_eq_none_iff, List.find?_eq_none] at hv
  simpa using hv p hp
theorem fr_eq {h₀ h : Heap} {L : Addr} {m m' : Str → Option Value} (F : Fr h₀ L h m) (e : ∀ y, m' y = m y) : Fr h₀ L h m' := by
  have : m' = m := funext e
  rw [this]; exact F
theorem if_name {m : Str → Option Value} {x : Str} {v : Value} (e : m x = some v) (y : Str) : (if y = x then some v else m y) = m y := by
  split
  · rename_i q; rw [q, e]
  · rfl
theorem fr_put {h₀ h : Heap} {L : Addr} {m : Str → Option Value} {x : Str} {v : Value} (e : m x = some v) (F : Fr h₀ L h m) : Fr h₀ L h (fun y => if y = x then some v else m y) := fr_eq F (if_name e)
theorem ne_true_of {b : Bool} (h : b = false) : ¬ b = true := by rw [h]; exact Bool.false_ne_true
theorem For_F {prog : Program} {w : World} {A : Around} {E : Value → Shared → Prop} {Q : Flow → Shared → Prop} {x : Str} {px pos : Pos} {iter : Expr} {body : List Stmt} {env : Env} {h₀ : Heap} {s : Shared} {m : Str → Option Value} (_F : Fr h₀ env.locals s.heap m)
    (hx : env.kindOf x = some .local) (hp : (env.scope.kind == .class || (env.scope.kind == .module && env.locals != env.globals)) = false)
    (h : wpAny (model prog w) A (eval iter env) (fun xv s₁ => wpAny (model prog w) A (pyIter xv) (fun it s₂ => LoopAtV prog w A h₀ env x body Q E it s₂) E s₁) E s)
    (hs : ∀ x, foldedSetIterable iter env x = pure x) (hE : PassesOwn (model prog w) A env E) : wpAny (model prog w) A (exec (.For (.Name x px) iter body [] pos) env) Q E s := For_invV h₀ hx hp h hs hE
theorem off1_ne {D a : Addr} {o : Obj} : ∀ {l : List (Addr × Obj)}, LCg.Off1 D l → (a, o) ∈ l → @Ne Nat D a
  | [], _, h => nomatch h
  | p :: r, x, h => by
    rcases List.mem_cons.mp h with rfl | h
    · exact fun e => x.1 e.symm
    · exact off1_ne x.2 h
theorem mem_any {l : List Int} {k : Int} {b : Bool} (h : decide (k ∈ l) = b) : (l.any (· == k)) = b := by
  rw [← h]; simp [List.any_beq']
theorem any_isSome (kvs : List (Int × Value)) (k : Int) : ((kvs.map (·.1)).any (· == k)) = (valueAt kvs k).isSome := by
  induction kvs with
  | nil => rfl
  | cons p r ih =>
    by_cases h : p.1 = k
    · simp [valueAt, h]
    · have e : valueAt (p :: r) k = valueAt r k := by simp [valueAt, List.find?_cons, h]
      rw [e, ← ih]; simp [h]
theorem mem_isSome {kvs : List (Int × Value)} {k : Int} : (valueAt kvs k).isSome = true ↔ k ∈ kvs.map (·.1) := by
  rw [← any_isSome]; simp [List.any_eq_true]
theorem mem_of_valueAt {kvs : List (Int × Value)} {k : Int} {v : Value} (h : valueAt kvs k = some v) : (k, v) ∈ kvs := by
  unfold valueAt at h
  obtain ⟨p, hp, rfl⟩ := Option.map_eq_some_iff.mp h
  have h1 := List.find?_some hp
  have h2 := List.mem_of_find?_eq_some hp
  have : p.1 = k := by simpa using h1
  rw [← this]; exact h2
theorem keys_without (kvs : List (Int × Value)) (k : Int) : (without kvs k).map (·.1) = (kvs.map (·.1)).filter fun n => decide (n ≠ k) := by
  rw [without, List.filter_map]; rfl
theorem filter_id {l : List Int} {k : Int} (h : k ∉ l) : l.filter (fun n => decide (n ≠ k)) = l := by
  rw [List.filter_eq_self]
  intro a ha
  simp only [decide_eq_true_eq]
  exact fun e => h (e ▸ ha)
theorem filter_len {l : List Int} {k : Int} (hn : l.Nodup) (h : k ∈ l) : (l.filter (fun n => decide (n ≠ k))).length + 1 = l.length := by
  induction l with
  | nil => nomatch h
  | cons a r ih =>
    rw [List.nodup_cons] at hn
    by_cases e : a = k
    · subst e
      rw [List.filter_cons_of_neg (by simp), filter_id hn.1, List.length_cons]
    · rw [List.filter_cons_of_pos (by simpa using e), List.length_cons, List.length_cons, ih hn.2 (by rcases List.mem_cons.mp h with h | h; exact absurd h.symm e; exact h)]
theorem seven : ∀ (n : Nat) (l : List Int), l.Nodup → (∀ k ∈ l, 0 ≤ k ∧ k < (n : Int)) → l.length ≤ n
  | 0, [], _, _ => Nat.le_refl _
  | 0, a :: _, _, h => by have := h a (List.mem_cons_self ..); omega
  | n + 1, l, hn, h => by
    have ih := seven n (l.filter fun x => decide (x ≠ (n : Int))) (hn.sublist List.filter_sublist) (fun k hk => by
      have h1 := List.mem_filter.mp hk
      have h2 := h k h1.1
      have h3 : k ≠ (n : Int) := by simpa using h1.2
      omega)
    by_cases hm : (n : Int) ∈ l
    · have := filter_len hn hm; omega
    · rw [filter_id hm] at ih; omega
theorem execs_app {M : Model} {A : Around} {E : Value → Shared → Prop} {env : Env} {b a : List Stmt} {s : Shared} {Q : Flow → Shared → Prop} (h : wpAny M A (execs a env) (fun f s' => match f with | .next => wpAny M A (execs b env) Q E s' | f => Q f s') E s) : wpAny M A (execs (a ++ b) env) Q E s := by
  intro Γ p hΓ
  have h1 := h Γ p hΓ
  clear h
  revert p s
  induction a with
  | nil =>
    intro s p h
    rw [execs_nil] at h
    exact h Γ p hΓ
  | cons st r ih =>
    intro s p h
    rw [List.cons_append]
    rw [execs_cons, Sem.wp_bind'] at h ⊢
    refine Sem.wp_mono M Γ _ (fun f p' s' hf => ?_) (fun _ _ _ e => e) p s h
    cases f with
    | next => exact ih p' hf
    | _ => exact hf
theorem off1_sub {D : Addr} : ∀ {l' l : List (Addr × Obj)}, LCg.Off1 D l → (∀ p ∈ l', p ∈ l) → LCg.Off1 D l'
  | [], _, _, _ => trivial
  | p :: r, _, h, hs => ⟨(off1_ne h (hs p (List.mem_cons_self ..))).symm, off1_sub h fun x hx => hs x (List.mem_cons_of_mem _ hx)⟩
theorem krs_inv {prog : Program} {w : World} {A : Around} {E : Value → Shared → Prop} {s : Shared} {env : Env} {h₀ : Heap} {x : Str} {body : List Stmt} {Q : Flow → Shared → Prop} {I : Addr} {a c : Int} {n : Nat} (J : Nat → (Str → Option Value) → List (Addr × Obj) → Prop)
    (step : ∀ i m news t h tk, i < n → J i m news → Fr h₀ env.locals h (fun y => if y = x then some (.int (a + (i : Int) * c) t) else m y) → News h₀ env.locals h ((I, krsIt (a + ((i + 1 : Nat) : Int) * c) ((n : Int) - ((i + 1 : Nat) : Int)) c) :: news) →
      wpAny (model prog w) A (execs body env) (fun f s₂ => f = .next ∧ ∃ h' tk' m' news', s₂ = { s with heap := h', toks := tk' } ∧ Fr h₀ env.locals h' m' ∧ News h₀ env.locals h' ((I, krsIt (a + ((i + 1 : Nat) : Int) * c) ((n : Int) - ((i + 1 : Nat) : Int)) c) :: news') ∧ (∀ p ∈ news', p.1 ≠ I) ∧ J (i + 1) m' news') E { s with heap := h, toks := tk })
    (fin : ∀ m news h tk, J n m news → Fr h₀ env.locals h m → News h₀ env.locals h news → Q .next { s with heap := h, toks := tk }) :
    ∀ k i m news, i + k = n → J i m news → KrsRest prog w A E h₀ env x body Q s I a c n k i m news := by
  intro k
  induction k with
  | zero => intro i m news e j h tk F N; rw [Nat.add_zero] at e; exact fin m news h tk (e ▸ j) F N
  | succ k ih =>
    intro i m news e j t h tk F N
    refine wpAny_mono (step i m news t h tk (by omega) j F N) (fun f s₂ p => ?_) fun _ _ e => e
    obtain ⟨rfl, h', tk', m', news', rfl, F', N', o, j'⟩ := p
    exact ⟨h', tk', m', news', rfl, F', N', o, ih (i + 1) m' news' (by omega) j'⟩
end Mine
end
section
open PySem PySem.W PyProof.Rows PySem.Calls PyProof.V PySem.Spec
set_option maxRecDepth 100000
namespace Mine
/-- the law's code and its table, hid from the walker -/
def CodeB (h : Heap) : Prop := CodeHd h 110 108
local macro_rules | `(tactic| k_room) => `(tactic| first | ((try simp only [depth_under_make, depth_under_kw, depth_in1, depth_deeper, depth_caller, depth_mark, recursionLimit]); first | decide | omega))
local macro_rules | `(tactic| k_units) => `(tactic| first | exact Nat.le_of_ble_eq_true rfl | ((try simp only [units_in1, units_deeper, Around.mark_units, cLine]); omega))
local macro_rules | `(tactic| k_all) => `(tactic| assumption)
local macro_rules | `(tactic| k_enter) => `(tactic| first
  | (refine' callT0K ?k1 ?k2 ?k3 ?k4 ?k5 ?kA ?kF ?kK ?k6 ?k7 ?k8 ?k9 ?kB ?_ ?c5 ?c2 ?c3 ?c4; (case kA => exact rfl); (case kF => exact rfl); (case kK => exact rfl); (case k2 => k_asm); (case k1 => assumption); (case k3 => k_asm); (case k4 => k_asm); (case k5 => k_asm); (case k6 => k_is); (case k7 => k_is); (case k8 => k_room); (case k9 => first | exact binds_K (by k_in) rfl (by k_is) rfl rfl rfl | exact BindsTo.of_eq rfl); (case kB => exact locs rfl); (case c2 => exact rfl); (case c3 => exact rfl); (case c4 => exact rfl); (case c5 => decide); k_whole; intro g' L' h' FG' F' N' B' X' T' D' l1; clear l1; (try dsimp only); (try k_fold))
  | (refine' callTK ?k1 ?k2 ?k3 ?k4 ?k5 ?XB ?TB ?D ?T0 ?kA ?kF ?kK ?k6 ?k7 ?k8 ?k9 ?kB ?_ ?c5 ?c2 ?c3 ?c4; (case kA => first | exact rfl | assumption | exact Around.frames_deeper (Below.stack (by assumption))); (case kF => first | exact rfl | assumption); (case kK => first | exact rfl | assumption); (case k2 => k_asm); (case k1 => assumption); (case XB => assumption); (case TB => assumption); (case D => assumption); (case T0 => first | assumption | exact KtsTurn.refl); (case k3 => k_asm); (case k4 => k_asm); (case k5 => k_asm); (case k6 => k_is); (case k7 => k_is); (case k8 => k_room); (case k9 => first | exact binds_K (by k_in) rfl (by k_is) rfl rfl rfl | exact BindsTo.of_eq rfl); (case kB => exact locs rfl); (case c2 => exact rfl); (case c3 => exact rfl); (case c4 => exact rfl); (case c5 => decide); k_whole; intro g' L' h' FG' F' N' B' X' T' D' l1; clear l1; (try dsimp only); (try k_fold)))
local macro_rules | `(tactic| walk_at "noteFrame ref") => `(tactic| (k_here; (rename Heap.NewExc _ _ _ _ => nxX); (with_reducible show wpAny _ _ (noteFrame _ _) (fun _ s₂ => wpAny _ _ (setFlight _ none) (fun _ s₃ => wpAny _ _ (handleBy _ _ (ExceptHandler.ExceptHandler (some (Expr.Name ("KeyError" : Str) _)) none _ _ :: _)) _ _ s₃) _ s₂) _ _); k_dflt (refine' caught_own (T' := "KeyError") ?K ?hx ?F ?N ?XB ?TB ?D ?T0 ?ex PyProof.Rows.Boot.«KeyError» ?hn kr_isExc_KeyError kr_notTuple_KeyError ?hs ?_; (case hx => exact nxX); (case F => assumption); (case N => assumption); (case K => assumption); (case XB => assumption); (case TB => assumption); (case D => assumption); (case T0 => first | assumption | exact KtsTurn.refl); (case hs => kts_sub); (case ex => k_is); (case hn => decide); k_whole); clear nxX; intro h' g' T' F' N' K' X' P' D'; (try k_sweep)))
local macro_rules | `(tactic| walk_at "call builtin:dict.pop") => `(tactic| (k_here; (with_reducible show wpAny _ _ (call (Value.builtin "dict.pop") [Value.ref _, Value.int _ _]) _ _ _); k_dflt (first
  | (refine' lru_pop ?F ?N ?U ?d ?v ?z ?_; (case F => k_asm); (case N => k_asm); (case U => k_updF); (case d => k_asm); (case v => assumption); (case z => first | (rw [sizeLine_eq]; omega) | (rw [sizeLine_eq, List.length_append, List.length_singleton]; omega)); k_whole; intro h' o' F' N' hd'; (try dsimp only at N'))
  | (refine' lru_pop_miss ?hh ?N ?p ?d ?lo ?v ?_; (case hh => first | exact rfl | assumption); (case N => k_asm); (case p => k_mem); (case d => k_asm); (case lo => assumption); (case v => assumption); k_whole; intro h' e' x'))))
local macro_rules | `(tactic| walk_at "setItem ref int") => `(tactic| (k_here; k_dflt (refine' lru_set_new ?F ?N ?U ?d ?v ?z ?_; (case F => k_asm); (case N => k_asm); (case U => k_updF); (case d => k_asm); (case v => first | assumption | exact without_none); (case z => first | (rw [sizeLine_eq]; omega) | (rw [sizeLine_eq]; exact Nat.le_trans (List.length_filter_le _ _) (by omega))); k_whole); intro h' o' F' N' hd'; (try dsimp only at N')))
local macro_rules | `(tactic| walk_at "call builtin:len") => `(tactic| (k_here; (with_reducible show wpAny _ _ (call (Value.builtin "len") [Value.ref _]) _ _ _); k_dflt (refine kda_len (knd := PySem.intKind _ _) (by k_asm) (by k_mem) (by k_asm) (by assumption) (by first | omega | (rw [List.length_append, List.length_singleton]; omega)) ?_)))
local macro_rules | `(tactic| walk_at "call builtin:iter") => `(tactic| (k_here; (with_reducible show wpAny _ _ (call (Value.builtin "iter") [Value.ref _]) _ _ _); k_dflt (refine kdk_iter (knd := PySem.intKind _ _) (by k_asm) (by k_asm) (by k_mem) (by k_asm) (by assumption) ?_); intro D' h' o' ep' F' N' l1 hi' ha'; (try k_lt l1)))
local macro_rules | `(tactic| walk_at "call builtin:next") => `(tactic| (k_here; (with_reducible show wpAny _ _ (call (Value.builtin "next") [Value.ref _]) _ _ _); k_dflt (refine' kdk_next (knd := PySem.intKind _ _) ?F ?N ?U ?i ?a ?p ?x ?_; (case F => k_asm); (case N => k_asm); (case U => k_updF); (case i => k_asm); (case a => k_asm); (case p => k_mem); (case x => assumption); intro h' o' y' hk' F' N' hi'; obtain ⟨t', ey'⟩ := PySem.Value.isInt_shape hk'; subst ey'); (try dsimp only at N')))
local macro_rules | `(tactic| walk_at "delItem ref int") => `(tactic| (k_here; (with_reducible show wpAny _ _ (delItem (Value.ref _) _) _ _ _); k_dflt (refine' own_delItem ?F ?X ?I ?hQ ?hS ?hF ?_; (case F => k_asm); (case X => k_asm); (case I => k_inst); (case hS => k_is); (case hF => k_is); (case hQ => k_is); k_whole)))
local macro_rules | `(tactic| walk_at "call type:set") => `(tactic| (k_here; (with_reducible show wpAny _ _ (call (Value.type "set") [Value.ref _]) _ _ _); k_dflt (first
  | (refine' lru_keys_set ?hh ?F ?N ?v ?p ?d ?z ?_; (case hh => first | exact rfl | assumption); (case F => k_asm); (case N => k_asm); (case v => k_mem); (case p => k_mem); (case d => k_asm); (case z => omega); k_whole; intro D' h' tk' so' F' N' l1 hs'; (try k_lt l1))
  | (refine' lru_list_set ?hh ?F ?N ?v ?i ?n ?z ?_; (case hh => first | exact rfl | assumption); (case F => k_asm); (case N => k_asm); (case v => k_mem); (case i => k_asm); (case n => assumption); (case z => omega); k_whole; intro D' h' tk' so' F' N' l1 hs'; (try k_lt l1)))))
local macro_rules | `(tactic| walk_at "call builtin:dict.pop") => `(tactic| (k_here; dsimp only [List.cons_append, List.nil_append]))
local macro_rules | `(tactic| walk_at "call builtin:list.append") => `(tactic| (k_here; dsimp only [List.cons_append, List.nil_append]))
local macro_rules | `(tactic| walk_at "call ref") => `(tactic| (k_here; k_dflt (refine wpAny_call ?_; refine' kla_code ?k1 ?k2 ?k3 ?k4 ?k5 ?kA ?kF ?kK ?k6 ?k7 ?k8 ?k9 ?kB ?_ ?c2 ?c3 ?c4 ?c5; (case kA => first | exact rfl | assumption); (case kF => first | exact rfl | assumption); (case kK => first | exact rfl | assumption); (case k1 => assumption); (case k2 => k_asm); (case k3 => k_asm); (case k4 => k_asm); (case k5 => k_asm); (case k6 => k_mem); (case k7 => exact codeRec_news (by k_asm) (by k_mem) (by assumption) (by assumption)); (case k8 => k_room); (case k9 => exact rfl); (case c5 => decide); (case kB => exact locs rfl); (case c2 => exact rfl); (case c3 => exact rfl); (case c4 => exact rfl); k_whole; intro g' L' h' FG' F' N' B' X' T'; (try dsimp only); (try k_fold); (try (conv => arg 3; arg 1; whnf)))))
local macro_rules | `(tactic| walk_at "ite") => `(tactic| (k_here; first | refine ite_pos (by assumption) ?_ | refine ite_neg (ne_true_of (by assumption)) ?_ | refine ite_neg (by simp; done) ?_ | refine ite_pos (by simp; done) ?_ | refine ite_neg (by simp; omega) ?_))

section
variable {w : World} {mg mb : Str → Option Value} {mean : ExcName → Option Value} {A₀ A : Around} {base h₀ : Heap} {outer : List Env} {env : Env} {L : Addr} {m : Str → Option Value} {s : Shared} {Q : Value → Shared → Prop} {E : Value → Shared → Prop}
  {p f c' cF cT lF lT Lw fa : Nat} {k key : Int} {tk tkey tq : Tok} {v pm ct : Value} {oc oF oT : Obj} {vs : List Value} {vsc : Array Value} {nF nT : Nat} {rest : List (Addr × Obj)}
set_option maxHeartbeats 8000000 in
theorem lamB_same
  (X : (hd.heap_39 w.params).In h₀) (B : Below A₀ base outer h₀) (T : Top topProg loose mean mg mb h₀)
  (hA : A.frames = some (env :: outer)) (hf : env.frame = some L) (hke : env.scope.kind = .function) (hdep : A.depth ≤ 950) (hun : A.units ≤ 9500)
  (CB : CodeB base)
  (F : Fr h₀ L s.heap m) (N : News h₀ L s.heap ((p, tup2 k tk v) :: (f, lamObjB Lw fa cT cF pm c' ct) :: (c', oc) :: (cF, oF) :: (cT, oT) :: (lT, listOf #[.int key tkey] nT) :: (lF, listOf vs.toArray nF) :: rest))
  (hoc : oc.data = .fields vsc) (hq : vsc[1]? = some (.str (lamQual Lw fa) tq)) (hcF : oF.data = .cell (some (.ref lF))) (hcT : oT.data = .cell (some (.ref lT)))
  (n1 : p ≠ lF) (n2 : f ≠ lF) (n3 : c' ≠ lF) (n4 : cF ≠ lF) (n5 : cT ≠ lF) (n6 : lT ≠ lF) (hr : ∀ q ∈ rest, q.1 ≠ lF) (hz : vs.length ≤ 40) (hk : k = key)
  (q : ∀ h' tk' (n' : Nat), Fr h₀ L h' m → News h₀ L h' ((p, tup2 k tk v) :: (f, lamObjB Lw fa cT cF pm c' ct) :: (c', oc) :: (cF, oF) :: (cT, oT) :: (lT, listOf #[.int key tkey] nT) :: (lF, listOf vs.toArray nF) :: rest) → Q .none { s with heap := h', toks := tk' }) :
  wpAny (model PySem.Challenge.rw_aj5039_01.row.prog w) A (call (.ref f) [.ref p]) Q E s := by
  revert X
  k_fill
  intro X
  have codeHd : CodeHd h₀ 110 108 := CodeHd.keeps CB B.stays
  have hsz : vs.toArray.size ≤ 40 := by rw [List.size_toArray]; exact hz
  subst hk
  k_steps
  all_goals first | (exfalso; exact hk (by assumption)) | exact q _ _ _ (by assumption) (by assumption) | exact q _ _ 0 (by assumption) (by assumption)
set_option maxHeartbeats 8000000 in
theorem lamB_other
  (X : (hd.heap_39 w.params).In h₀) (B : Below A₀ base outer h₀) (T : Top topProg loose mean mg mb h₀)
  (hA : A.frames = some (env :: outer)) (hf : env.frame = some L) (hke : env.scope.kind = .function) (hdep : A.depth ≤ 950) (hun : A.units ≤ 9500)
  (CB : CodeB base)
  (F : Fr h₀ L s.heap m) (N : News h₀ L s.heap ((p, tup2 k tk v) :: (f, lamObjB Lw fa cT cF pm c' ct) :: (c', oc) :: (cF, oF) :: (cT, oT) :: (lT, listOf #[.int key tkey] nT) :: (lF, listOf vs.toArray nF) :: rest))
  (hoc : oc.data = .fields vsc) (hq : vsc[1]? = some (.str (lamQual Lw fa) tq)) (hcF : oF.data = .cell (some (.ref lF))) (hcT : oT.data = .cell (some (.ref lT)))
  (n1 : p ≠ lF) (n2 : f ≠ lF) (n3 : c' ≠ lF) (n4 : cF ≠ lF) (n5 : cT ≠ lF) (n6 : lT ≠ lF) (hr : ∀ q ∈ rest, q.1 ≠ lF) (hz : vs.length ≤ 40) (hk : k ≠ key)
  (q : ∀ h' tk' (n' : Nat), Fr h₀ L h' m → News h₀ L h' ((p, tup2 k tk v) :: (f, lamObjB Lw fa cT cF pm c' ct) :: (c', oc) :: (cF, oF) :: (cT, oT) :: (lT, listOf #[.int key tkey] nT) :: (lF, listOf (vs.toArray.push (.ref p)) n') :: rest) → Q .none { s with heap := h', toks := tk' }) :
  wpAny (model PySem.Challenge.rw_aj5039_01.row.prog w) A (call (.ref f) [.ref p]) Q E s := by
  revert X
  k_fill
  intro X
  have codeHd : CodeHd h₀ 110 108 := CodeHd.keeps CB B.stays
  have hsz : vs.toArray.size ≤ 40 := by rw [List.size_toArray]; exact hz
  have hk1 : decide (k ≠ key) = true := by simpa using hk
  have hk2 : (k != key) = true := by simpa using hk
  have hk3 : (!decide (k = key)) = true := by simpa using hk
  have hk4 : (!(k == key)) = true := by simpa using hk
  k_steps
  all_goals first | (exfalso; exact hk (by assumption)) | exact q _ _ _ (by assumption) (by assumption) | exact q _ _ 0 (by assumption) (by assumption)
set_option maxHeartbeats 8000000 in
theorem lamO_same
  (X : (hd.heap_39 w.params).In h₀) (B : Below A₀ base outer h₀) (T : Top topProg loose mean mg mb h₀)
  (hA : A.frames = some (env :: outer)) (hf : env.frame = some L) (hke : env.scope.kind = .function) (hdep : A.depth ≤ 950) (hun : A.units ≤ 9500)
  (CB : CodeB base)
  (F : Fr h₀ L s.heap m) (N : News h₀ L s.heap ((p, tup2 k tk v) :: (f, lamObjO Lw fa cT cF pm c' ct) :: (c', oc) :: (cF, oF) :: (cT, oT) :: (lT, listOf #[.int key tkey] nT) :: (lF, listOf vs.toArray nF) :: rest))
  (hoc : oc.data = .fields vsc) (hq : vsc[1]? = some (.str (lamQual Lw fa) tq)) (hcF : oF.data = .cell (some (.ref lF))) (hcT : oT.data = .cell (some (.ref lT)))
  (n1 : p ≠ lF) (n2 : f ≠ lF) (n3 : c' ≠ lF) (n4 : cF ≠ lF) (n5 : cT ≠ lF) (n6 : lT ≠ lF) (hr : ∀ q ∈ rest, q.1 ≠ lF) (hz : vs.length ≤ 40) (hk : k = key)
  (q : ∀ h' tk' (n' : Nat), Fr h₀ L h' m → News h₀ L h' ((p, tup2 k tk v) :: (f, lamObjO Lw fa cT cF pm c' ct) :: (c', oc) :: (cF, oF) :: (cT, oT) :: (lT, listOf #[.int key tkey] nT) :: (lF, listOf vs.toArray nF) :: rest) → Q .none { s with heap := h', toks := tk' }) :
  wpAny (model PySem.Challenge.rw_aj5039_01.row.prog w) A (call (.ref f) [.ref p]) Q E s := by
  revert X
  k_fill
  intro X
  have codeHd : CodeHd h₀ 110 108 := CodeHd.keeps CB B.stays
  have hsz : vs.toArray.size ≤ 40 := by rw [List.size_toArray]; exact hz
  subst hk
  k_steps
  all_goals first | (exfalso; exact hk (by assumption)) | exact q _ _ _ (by assumption) (by assumption) | exact q _ _ 0 (by assumption) (by assumption)
set_option maxHeartbeats 8000000 in
theorem lamO_other
  (X : (hd.heap_39 w.params).In h₀) (B : Below A₀ base outer h₀) (T : Top topProg loose mean mg mb h₀)
  (hA : A.frames = some (env :: outer)) (hf : env.frame = some L) (hke : env.scope.kind = .function) (hdep : A.depth ≤ 950) (hun : A.units ≤ 9500)
  (CB : CodeB base)
  (F : Fr h₀ L s.heap m) (N : News h₀ L s.heap ((p, tup2 k tk v) :: (f, lamObjO Lw fa cT cF pm c' ct) :: (c', oc) :: (cF, oF) :: (cT, oT) :: (lT, listOf #[.int key tkey] nT) :: (lF, listOf vs.toArray nF) :: rest))
  (hoc : oc.data = .fields vsc) (hq : vsc[1]? = some (.str (lamQual Lw fa) tq)) (hcF : oF.data = .cell (some (.ref lF))) (hcT : oT.data = .cell (some (.ref lT)))
  (n1 : p ≠ lF) (n2 : f ≠ lF) (n3 : c' ≠ lF) (n4 : cF ≠ lF) (n5 : cT ≠ lF) (n6 : lT ≠ lF) (hr : ∀ q ∈ rest, q.1 ≠ lF) (hz : vs.length ≤ 40) (hk : k ≠ key)
  (q : ∀ h' tk' (n' : Nat), Fr h₀ L h' m → News h₀ L h' ((p, tup2 k tk v) :: (f, lamObjO Lw fa cT cF pm c' ct) :: (c', oc) :: (cF, oF) :: (cT, oT) :: (lT, listOf #[.int key tkey] nT) :: (lF, listOf (vs.toArray.push (.ref p)) n') :: rest) → Q .none { s with heap := h', toks := tk' }) :
  wpAny (model PySem.Challenge.rw_aj5039_01.row.prog w) A (call (.ref f) [.ref p]) Q E s := by
  revert X
  k_fill
  intro X
  have codeHd : CodeHd h₀ 110 108 := CodeHd.keeps CB B.stays
  have hsz : vs.toArray.size ≤ 40 := by rw [List.size_toArray]; exact hz
  have hk1 : decide (k ≠ key) = true := by simpa using hk
  have hk2 : (k != key) = true := by simpa using hk
  have hk3 : (!decide (k = key)) = true := by simpa using hk
  have hk4 : (!(k == key)) = true := by simpa using hk
  k_steps
  all_goals first | (exfalso; exact hk (by assumption)) | exact q _ _ _ (by assumption) (by assumption) | exact q _ _ 0 (by assumption) (by assumption)
end
end Mine
end
section
open PySem PySem.W PyProof.Rows PySem.Calls PyProof.V PySem.Spec
set_option maxRecDepth 100000
namespace Mine
theorem noBool_fn : typeLookup (.type "function") "__bool__" = pure none := by rw [typeLookup_type, builtinLookup_eq_fast]; kernel_rfl
theorem noLen_fn : typeLookup (.type "function") "__len__" = pure none := by rw [typeLookup_type, builtinLookup_eq_fast]; kernel_rfl
section
variable {prog : Program} {w : World} {A : Around} {E : Value → Shared → Prop} {s : Shared} {f : Addr} {h₀ : Heap} {L : Addr} {news : List (Addr × Obj)} {fd : FuncData}
theorem truthy_fn {Q : Bool → Shared → Prop} (N : News h₀ L s.heap news) (hm : (f, ({ cls := .type "function", data := .func fd } : Obj)) ∈ news) (h : Q true s) : wpAny (model prog w) A (truthy (.ref f)) Q E s := by
  have hT : s.TypeIs (.ref f) "function" := ⟨_, (N _ hm).1, rfl⟩
  unfold truthy
  refine wpAny_bind (wpAny_callSpecial?_none (name := Str.ofString "__bool__") hT noBool_fn ?_)
  refine wpAny_bind (wpAny_specialOf (name := Str.ofString "__len__") hT noLen_fn ?_)
  exact wpAny_pure h
end
end Mine
end
section
open PySem PySem.W PyProof.Rows PySem.Calls PyProof.V PySem.Spec
set_option maxRecDepth 100000
namespace Mine
/-- what a call of a dispose function does to the ledger, in any frame -/
def DispC (w : World) (dp : Nat) (f p : Addr) (led : List (Addr × Obj)) (P : List (Addr × Obj) → Prop) : Prop :=
  ∀ (mg mb : Str → Option Value) (mean : ExcName → Option Value) (A₀ A : Around) (base h₀ : Heap) (outer : List Env) (env : Env) (L : Addr) (m : Str → Option Value) (s : Shared) (Q : Value → Shared → Prop) (E : Value → Shared → Prop),
    (hd.heap_39 w.params).In h₀ → Below A₀ base outer h₀ → Top topProg loose mean mg mb h₀ → (hd.heap_39 w.params).In base → Top topProg loose mean mg mb base → CodeB base → KtsDicts (outer.filterMap (·.frame)) h₀ →
    A.frames = some (env :: outer) → env.frame = some L → env.scope.kind = .function → A.handled = none → A.depth ≤ dp + 20 → A.units ≤ 10 * dp + 200 → Fr h₀ L s.heap m → News h₀ L s.heap led →
    (∀ h' h₀' tk l', KtsTurn (outer.filterMap (·.frame)) h₀ h₀' → Below A₀ base outer h₀' → KtsDicts (outer.filterMap (·.frame)) h₀' → Fr h₀' L h' m → News h₀' L h' l' → P l' → Q .none { s with heap := h', toks := tk }) →
    wpAny (model PySem.Challenge.rw_aj5039_01.row.prog w) A (call (.ref f) [.ref p]) Q E s
theorem disp_call {w : World} {dp : Nat} {f p : Addr} {R : List (Addr × Obj) → Prop} {x dx d : Addr} {ox odx od : Obj} {rest news : List (Addr × Obj)} {mg mb : Str → Option Value} {mean : ExcName → Option Value} {A₀ A : Around} {base h₀ g₀ : Heap} {outer : List Env} {env : Env} {L : Addr} {m : Str → Option Value} {s : Shared} {Q : Value → Shared → Prop} {E : Value → Shared → Prop}
    (hD : ∀ od', DispC w dp f p ((x, ox) :: (dx, odx) :: (d, od') :: rest) (fun l => ∃ rest', l = (x, ox) :: (dx, odx) :: (d, od') :: rest' ∧ R rest'))
    (X : (hd.heap_39 w.params).In h₀) (B : Below A₀ base outer h₀) (T : Top topProg loose mean mg mb h₀) (XB : (hd.heap_39 w.params).In base) (TB : Top topProg loose mean mg mb base) (CB : CodeB base) (D : KtsDicts (outer.filterMap (·.frame)) h₀) (T0 : KtsTurn (outer.filterMap (·.frame)) g₀ h₀)
    (hA : A.frames = some (env :: outer)) (hf : env.frame = some L) (hke : env.scope.kind = .function) (hh : A.handled = none) (hdep : A.depth ≤ dp + 20) (hun : A.units ≤ 10 * dp + 200) (F : Fr h₀ L s.heap m) (N : News h₀ L s.heap news) (hs : ∀ q ∈ (x, ox) :: (dx, odx) :: (d, od) :: rest, q ∈ news)
    (q : ∀ h' h₀' tk rest', KtsTurn (outer.filterMap (·.frame)) g₀ h₀' → Fr h₀' L h' m → News h₀' L h' ((x, ox) :: (dx, odx) :: (d, od) :: rest') → Below A₀ base outer h₀' → (hd.heap_39 w.params).In h₀' → Top topProg loose mean mg mb h₀' → KtsDicts (outer.filterMap (·.frame)) h₀' → R rest' → Q .none { s with heap := h', toks := tk }) :
    wpAny (model PySem.Challenge.rw_aj5039_01.row.prog w) A (call (.ref f) [.ref p]) Q E s := by
  refine hD od mg mb mean A₀ A base h₀ outer env L m s Q E X B T XB TB CB D hA hf hke hh hdep hun F (News.sub N hs) fun h' h₀' tk l' T' B' D' F' N' hP => ?_
  obtain ⟨rest', rfl, hR⟩ := hP
  exact q h' h₀' tk rest' (T0.trans T') F' N' B' (XB.keeps B'.stays) (TB.keeps B'.stays) D' hR
local macro_rules | `(tactic| k_room) => `(tactic| first | ((try simp only [depth_under_make, depth_under_kw, depth_in1, depth_deeper, depth_caller, depth_mark, recursionLimit]); first | decide | omega))
local macro_rules | `(tactic| k_units) => `(tactic| first | exact Nat.le_of_ble_eq_true rfl | ((try simp only [units_in1, units_deeper, Around.mark_units, cLine]); omega))
local macro_rules | `(tactic| k_all) => `(tactic| assumption)
local macro_rules | `(tactic| k_enter) => `(tactic| first
  | (refine' callT0K ?k1 ?k2 ?k3 ?k4 ?k5 ?kA ?kF ?kK ?k6 ?k7 ?k8 ?k9 ?kB ?_ ?c5 ?c2 ?c3 ?c4; (case kA => exact rfl); (case kF => exact rfl); (case kK => exact rfl); (case k2 => k_asm); (case k1 => assumption); (case k3 => k_asm); (case k4 => k_asm); (case k5 => k_asm); (case k6 => k_is); (case k7 => k_is); (case k8 => k_room); (case k9 => first | exact binds_K (by k_in) rfl (by k_is) rfl rfl rfl | exact BindsTo.of_eq rfl); (case kB => exact locs rfl); (case c2 => exact rfl); (case c3 => exact rfl); (case c4 => exact rfl); (case c5 => decide); k_whole; intro g' L' h' FG' F' N' B' X' T' D' l1; clear l1; (try dsimp only); (try k_fold))
  | (refine' callTK ?k1 ?k2 ?k3 ?k4 ?k5 ?XB ?TB ?D ?T0 ?kA ?kF ?kK ?k6 ?k7 ?k8 ?k9 ?kB ?_ ?c5 ?c2 ?c3 ?c4; (case kA => first | exact rfl | assumption | exact Around.frames_deeper (Below.stack (by assumption))); (case kF => first | exact rfl | assumption); (case kK => first | exact rfl | assumption); (case k2 => k_asm); (case k1 => assumption); (case XB => assumption); (case TB => assumption); (case D => assumption); (case T0 => first | assumption | exact KtsTurn.refl); (case k3 => k_asm); (case k4 => k_asm); (case k5 => k_asm); (case k6 => k_is); (case k7 => k_is); (case k8 => k_room); (case k9 => first | exact binds_K (by k_in) rfl (by k_is) rfl rfl rfl | exact BindsTo.of_eq rfl); (case kB => exact locs rfl); (case c2 => exact rfl); (case c3 => exact rfl); (case c4 => exact rfl); (case c5 => decide); k_whole; intro g' L' h' FG' F' N' B' X' T' D' l1; clear l1; (try dsimp only); (try k_fold)))
local macro_rules | `(tactic| walk_at "noteFrame ref") => `(tactic| (k_here; (rename Heap.NewExc _ _ _ _ => nxX); (with_reducible show wpAny _ _ (noteFrame _ _) (fun _ s₂ => wpAny _ _ (setFlight _ none) (fun _ s₃ => wpAny _ _ (handleBy _ _ (ExceptHandler.ExceptHandler (some (Expr.Name ("KeyError" : Str) _)) none _ _ :: _)) _ _ s₃) _ s₂) _ _); k_dflt (refine' caught_own (T' := "KeyError") ?K ?hx ?F ?N ?XB ?TB ?D ?T0 ?ex PyProof.Rows.Boot.«KeyError» ?hn kr_isExc_KeyError kr_notTuple_KeyError ?hs ?_; (case hx => exact nxX); (case F => assumption); (case N => assumption); (case K => assumption); (case XB => assumption); (case TB => assumption); (case D => assumption); (case T0 => first | assumption | exact KtsTurn.refl); (case hs => kts_sub); (case ex => k_is); (case hn => decide); k_whole); clear nxX; intro h' g' T' F' N' K' X' P' D'; (try k_sweep)))
local macro_rules | `(tactic| walk_at "call builtin:dict.pop") => `(tactic| (k_here; (with_reducible show wpAny _ _ (call (Value.builtin "dict.pop") [Value.ref _, Value.int _ _]) _ _ _); k_dflt (first
  | (refine' lru_pop ?F ?N ?U ?d ?v ?z ?_; (case F => k_asm); (case N => k_asm); (case U => k_updF); (case d => k_asm); (case v => assumption); (case z => first | (rw [sizeLine_eq]; omega) | (rw [sizeLine_eq, List.length_append, List.length_singleton]; omega)); k_whole; intro h' o' F' N' hd'; (try dsimp only at N'))
  | (refine' lru_pop_miss ?hh ?N ?p ?d ?lo ?v ?_; (case hh => first | exact rfl | assumption); (case N => k_asm); (case p => k_mem); (case d => k_asm); (case lo => assumption); (case v => assumption); k_whole; intro h' e' x'))))
local macro_rules | `(tactic| walk_at "setItem ref int") => `(tactic| (k_here; k_dflt (refine' lru_set_new ?F ?N ?U ?d ?v ?z ?_; (case F => k_asm); (case N => k_asm); (case U => k_updF); (case d => k_asm); (case v => first | assumption | exact without_none); (case z => first | (rw [sizeLine_eq]; omega) | (rw [sizeLine_eq]; exact Nat.le_trans (List.length_filter_le _ _) (by omega))); k_whole); intro h' o' F' N' hd'; (try dsimp only at N')))
local macro_rules | `(tactic| walk_at "call builtin:len") => `(tactic| (k_here; (with_reducible show wpAny _ _ (call (Value.builtin "len") [Value.ref _]) _ _ _); k_dflt (refine kda_len (knd := PySem.intKind _ _) (by k_asm) (by k_mem) (by k_asm) (by assumption) (by first | omega | (rw [List.length_append, List.length_singleton]; omega)) ?_)))
local macro_rules | `(tactic| walk_at "call builtin:iter") => `(tactic| (k_here; (with_reducible show wpAny _ _ (call (Value.builtin "iter") [Value.ref _]) _ _ _); k_dflt (refine kdk_iter (knd := PySem.intKind _ _) (by k_asm) (by k_asm) (by k_mem) (by k_asm) (by assumption) ?_); intro D' h' o' ep' F' N' l1 hi' ha'; (try k_lt l1)))
local macro_rules | `(tactic| walk_at "call builtin:next") => `(tactic| (k_here; (with_reducible show wpAny _ _ (call (Value.builtin "next") [Value.ref _]) _ _ _); k_dflt (refine' kdk_next (knd := PySem.intKind _ _) ?F ?N ?U ?i ?a ?p ?x ?_; (case F => k_asm); (case N => k_asm); (case U => k_updF); (case i => k_asm); (case a => k_asm); (case p => k_mem); (case x => assumption); intro h' o' y' hk' F' N' hi'; obtain ⟨t', ey'⟩ := PySem.Value.isInt_shape hk'; subst ey'); (try dsimp only at N')))
local macro_rules | `(tactic| walk_at "delItem ref int") => `(tactic| (k_here; (with_reducible show wpAny _ _ (delItem (Value.ref _) _) _ _ _); k_dflt (refine' own_delItem ?F ?X ?I ?hQ ?hS ?hF ?_; (case F => k_asm); (case X => k_asm); (case I => k_inst); (case hS => k_is); (case hF => k_is); (case hQ => k_is); k_whole)))
local macro_rules | `(tactic| walk_at "call type:set") => `(tactic| (k_here; (with_reducible show wpAny _ _ (call (Value.type "set") [Value.ref _]) _ _ _); k_dflt (first
  | (refine' lru_keys_set ?hh ?F ?N ?v ?p ?d ?z ?_; (case hh => first | exact rfl | assumption); (case F => k_asm); (case N => k_asm); (case v => k_mem); (case p => k_mem); (case d => k_asm); (case z => omega); k_whole; intro D' h' tk' so' F' N' l1 hs'; (try k_lt l1))
  | (refine' lru_list_set ?hh ?F ?N ?v ?i ?n ?z ?_; (case hh => first | exact rfl | assumption); (case F => k_asm); (case N => k_asm); (case v => k_mem); (case i => k_asm); (case n => assumption); (case z => omega); k_whole; intro D' h' tk' so' F' N' l1 hs'; (try k_lt l1)))))
local macro_rules | `(tactic| walk_at "call builtin:dict.pop") => `(tactic| (k_here; dsimp only [List.cons_append, List.nil_append]))
local macro_rules | `(tactic| walk_at "call builtin:list.append") => `(tactic| (k_here; dsimp only [List.cons_append, List.nil_append]))
local macro_rules | `(tactic| walk_at "call ref") => `(tactic| (k_here; k_dflt (refine wpAny_call ?_; refine' kla_code ?k1 ?k2 ?k3 ?k4 ?k5 ?kA ?kF ?kK ?k6 ?k7 ?k8 ?k9 ?kB ?_ ?c2 ?c3 ?c4 ?c5; (case kA => first | exact rfl | assumption); (case kF => first | exact rfl | assumption); (case kK => first | exact rfl | assumption); (case k1 => assumption); (case k2 => k_asm); (case k3 => k_asm); (case k4 => k_asm); (case k5 => k_asm); (case k6 => k_mem); (case k7 => exact codeRec_news (by k_asm) (by k_mem) (by assumption) (by assumption)); (case k8 => k_room); (case k9 => exact rfl); (case c5 => decide); (case kB => exact locs rfl); (case c2 => exact rfl); (case c3 => exact rfl); (case c4 => exact rfl); k_whole; intro g' L' h' FG' F' N' B' X' T'; (try dsimp only); (try k_fold); (try (conv => arg 3; arg 1; whnf)))))
local macro_rules | `(tactic| walk_at "ite") => `(tactic| (k_here; first | refine ite_pos (by assumption) ?_ | refine ite_neg (ne_true_of (by assumption)) ?_ | refine ite_neg (by simp; done) ?_ | refine ite_pos (by simp; done) ?_ | refine ite_neg (by simp; omega) ?_))

local macro_rules | `(tactic| k_mem) => `(tactic| assumption)
local macro_rules | `(tactic| lcg_sub) => `(tactic| first | exact (fun _ h => h) | exact (fun _ h => .tail _ (h)) | exact (fun _ h => .tail _ (.tail _ (h))) | exact (fun _ h => .tail _ (.tail _ (.tail _ (h)))) | exact (fun _ h => .tail _ (.tail _ (.tail _ (.tail _ (h))))) | exact (fun _ h => .tail _ (.tail _ (.tail _ (.tail _ (.tail _ (h)))))) | exact (fun _ h => .tail _ (.tail _ (.tail _ (.tail _ (.tail _ (.tail _ (h))))))) | exact (fun _ h => .tail _ (.tail _ (.tail _ (.tail _ (.tail _ (.tail _ (.tail _ (h)))))))) | exact (fun _ h => .tail _ (.tail _ (.tail _ (.tail _ (.tail _ (.tail _ (.tail _ (.tail _ (h))))))))) | (refine List.forall_mem_cons.mpr ⟨?la, ?lb⟩; (case la => k_mem); (case lb => lcg_sub)))
local macro_rules | `(tactic| walk_at "truthy ref") => `(tactic| (k_here; (with_reducible show wpAny _ _ (truthy (Value.ref _)) _ _ _); k_dflt (refine' truthy_fn ?N ?m ?_; (case N => k_asm); (case m => k_mem); k_whole)))
local macro_rules | `(tactic| walk_at "assign Tuple") => `(tactic| (k_here; (with_reducible show wpAny _ _ (assign (Expr.Tuple _ _ _) _ (Value.ref _)) _ _ _); k_dflt (refine' unpackN_ ?k1 ?k2 ?k3 ?k4 ?k5 ?k6 ?_; (case k1 => k_asm); (case k2 => k_asm); (case k3 => kun_tup); (case k4 => first | exact rfl | assumption); (case k5 => first | exact rfl | assumption); (case k6 => first | exact rfl | assumption); k_whole); intro h' F' N'))
local macro_rules | `(tactic| walk_at "getMethod ref") => `(tactic| (k_here; (with_reducible show wpAny _ _ (getMethod (Value.ref _) (Str.ofString "dispose_func") _) _ _ _); k_dflt (refine' kmu_own ?k1 ?k2 ?k3 ?k4 ?k5 ?_; (case k1 => k_asm); (case k2 => k_asm); (case k3 => k_inst); (case k4 => k_is); (case k5 => k_is); k_whole)))
local macro_rules | `(tactic| walk_at "callWith ref") => `(tactic| (k_here; k_dflt (refine' callWith_F ?k1 ?_; (case k1 => exact FnAt.of (by k_asm) (by k_mem)); k_whole)))
local macro_rules | `(tactic| walk_at "FnAt") => `(tactic| (k_dflt (exact FnAt.of (by k_asm) (by k_mem))))
local macro_rules | `(tactic| walk_at "And") => `(tactic| ((with_reducible show FnAt _ _ ∧ _); refine ⟨FnAt.of (by k_asm) (by k_mem), ?_⟩; try dsimp only [List.nil_append, List.cons_append]))
local macro_rules | `(tactic| walk_at "call ref") => `(tactic| (k_here; k_dflt (refine' disp_call ?hD ?X ?B ?T ?XB ?TB ?CB ?D ?T0 ?hA ?hf ?hke ?hh ?hdep ?hun ?F ?N ?hs ?_; (case CB => assumption); (case hD => assumption); (case X => k_asm); (case B => assumption); (case T => k_asm); (case XB => assumption); (case TB => assumption); (case D => assumption); (case T0 => first | assumption | exact KtsTurn.refl); (case hA => first | exact rfl | assumption | exact Around.frames_deeper (Below.stack (by assumption))); (case hf => first | exact rfl | assumption); (case hke => first | exact rfl | assumption); (case hh => first | exact rfl | assumption); (case hdep => k_room); (case hun => k_units); (case F => k_asm); (case N => k_asm); (case hs => lcg_sub); k_whole; intro h' g' tk' rest' T' F' N' B' X' P' D' hR')))
section
variable {w : World} {mg mb : Str → Option Value} {mean : ExcName → Option Value} {A₀ A : Around} {base h₀ : Heap} {outer : List Env} {env : Env} {L : Addr} {m : Str → Option Value} {s : Shared} {x dx d f p dp : Nat} {k k0 : Int} {t t1 t2 t3 t4 : Tok} {mx : Int} {dis v v0 : Value} {od : Obj} {kvs : List (Int × Value)} {rest : List (Addr × Obj)} {E : Value → Shared → Prop} {fd : FuncData} {R : List (Addr × Obj) → Prop}
set_option maxHeartbeats 8000000 in
theorem got_hit {Q : Value → Shared → Prop}
  (X : (hd.heap_39 w.params).In h₀) (B : Below A₀ base outer h₀) (T : Top topProg loose mean mg mb h₀) (XB : (hd.heap_39 w.params).In base) (TB : Top topProg loose mean mg mb base) (CB : CodeB base) (D : KtsDicts (outer.filterMap (·.frame)) h₀)
  (hA : A.frames = some (env :: outer)) (hf : env.frame = some L) (hke : env.scope.kind = .function) (hh : A.handled = none) (hdp : dp ≤ 900) (hdep : A.depth ≤ dp) (hun : A.units ≤ 10 * dp)
  (F : Fr h₀ L s.heap m) (N : News h₀ L s.heap ((x, instObj 88 dx) :: (dx, cont w t1 t2 t3 t4 mx dis d) :: (d, od) :: rest)) (hod : od.IsDictOf (PySem.intKind PySem.Challenge.rw_aj5039_01.row.prog w) kvs) (lo : (d == sysModules) = false) (hlen : kvs.length ≤ 10) (ne1 : x ≠ dx) (ne2 : x ≠ d) (ne3 : dx ≠ d) (hr : ∀ p ∈ rest, p.1 ≠ d)
  (hv : valueAt kvs k = some v)
  (q : ∀ l h' h₀' tk od', KtsTurn (outer.filterMap (·.frame)) h₀ h₀' → Below A₀ base outer h₀' → KtsDicts (outer.filterMap (·.frame)) h₀' → Fr h₀' L h' m → News h₀' L h' ((l, listOf #[v] 0) :: (x, instObj 88 dx) :: (dx, cont w t1 t2 t3 t4 mx dis d) :: (d, od') :: rest) → od'.IsDictOf (PySem.intKind PySem.Challenge.rw_aj5039_01.row.prog w) (without kvs k ++ [(k, v)]) → (x < l ∧ dx < l ∧ d < l ∧ AllLt l rest) → Q (.ref l) { s with heap := h', toks := tk }) :
  wpAny (model PySem.Challenge.rw_aj5039_01.row.prog w) A (call (.ref 99) [.ref x, .int k t]) Q E s := by
  revert X
  k_fill
  intro X
  k_steps
  all_goals first | exact q _ _ _ _ _ (by first | assumption | exact KtsTurn.refl) (by assumption) (by assumption) (by assumption) (by assumption) (by assumption) (by assumption)
set_option maxHeartbeats 8000000 in
theorem got_miss {Q : Value → Shared → Prop}
  (X : (hd.heap_39 w.params).In h₀) (B : Below A₀ base outer h₀) (T : Top topProg loose mean mg mb h₀) (XB : (hd.heap_39 w.params).In base) (TB : Top topProg loose mean mg mb base) (CB : CodeB base) (D : KtsDicts (outer.filterMap (·.frame)) h₀)
  (hA : A.frames = some (env :: outer)) (hf : env.frame = some L) (hke : env.scope.kind = .function) (hh : A.handled = none) (hdp : dp ≤ 900) (hdep : A.depth ≤ dp) (hun : A.units ≤ 10 * dp)
  (F : Fr h₀ L s.heap m) (N : News h₀ L s.heap ((x, instObj 88 dx) :: (dx, cont w t1 t2 t3 t4 mx dis d) :: (d, od) :: rest)) (hod : od.IsDictOf (PySem.intKind PySem.Challenge.rw_aj5039_01.row.prog w) kvs) (lo : (d == sysModules) = false) (hlen : kvs.length ≤ 10) (ne1 : x ≠ dx) (ne2 : x ≠ d) (ne3 : dx ≠ d) (hr : ∀ p ∈ rest, p.1 ≠ d)
  (hv : valueAt kvs k = none)
  (q : ∀ l h' h₀' tk, KtsTurn (outer.filterMap (·.frame)) h₀ h₀' → Below A₀ base outer h₀' → KtsDicts (outer.filterMap (·.frame)) h₀' → Fr h₀' L h' m → News h₀' L h' ((l, listOf #[] 0) :: (x, instObj 88 dx) :: (dx, cont w t1 t2 t3 t4 mx dis d) :: (d, od) :: rest) → (x < l ∧ dx < l ∧ d < l ∧ AllLt l rest) → Q (.ref l) { s with heap := h', toks := tk }) :
  wpAny (model PySem.Challenge.rw_aj5039_01.row.prog w) A (call (.ref 99) [.ref x, .int k t]) Q E s := by
  revert X
  k_fill
  intro X
  k_steps
  all_goals first | exact q _ _ _ _ (by first | assumption | exact KtsTurn.refl) (by assumption) (by assumption) (by assumption) (by assumption) (by assumption)
set_option maxHeartbeats 8000000 in
theorem deleted_miss {Q : Value → Shared → Prop}
  (X : (hd.heap_39 w.params).In h₀) (B : Below A₀ base outer h₀) (T : Top topProg loose mean mg mb h₀) (XB : (hd.heap_39 w.params).In base) (TB : Top topProg loose mean mg mb base) (CB : CodeB base) (D : KtsDicts (outer.filterMap (·.frame)) h₀)
  (hA : A.frames = some (env :: outer)) (hf : env.frame = some L) (hke : env.scope.kind = .function) (hh : A.handled = none) (hdp : dp ≤ 900) (hdep : A.depth ≤ dp) (hun : A.units ≤ 10 * dp)
  (F : Fr h₀ L s.heap m) (N : News h₀ L s.heap ((x, instObj 88 dx) :: (dx, cont w t1 t2 t3 t4 mx dis d) :: (d, od) :: rest)) (hod : od.IsDictOf (PySem.intKind PySem.Challenge.rw_aj5039_01.row.prog w) kvs) (lo : (d == sysModules) = false) (hlen : kvs.length ≤ 10) (ne1 : x ≠ dx) (ne2 : x ≠ d) (ne3 : dx ≠ d) (hr : ∀ p ∈ rest, p.1 ≠ d)
  (hv : valueAt kvs k = none)
  (q : ∀ h' h₀' tk, KtsTurn (outer.filterMap (·.frame)) h₀ h₀' → Below A₀ base outer h₀' → KtsDicts (outer.filterMap (·.frame)) h₀' → Fr h₀' L h' m → News h₀' L h' ((x, instObj 88 dx) :: (dx, cont w t1 t2 t3 t4 mx dis d) :: (d, od) :: rest) → Q (.bool false) { s with heap := h', toks := tk }) :
  wpAny (model PySem.Challenge.rw_aj5039_01.row.prog w) A (call (.ref 106) [.ref x, .int k t]) Q E s := by
  revert X
  k_fill
  intro X
  k_steps
  all_goals first | exact q _ _ _ (by first | assumption | exact KtsTurn.refl) (by assumption) (by assumption) (by assumption) (by assumption)
set_option maxHeartbeats 8000000 in
theorem deleted_hit {Q : Value → Shared → Prop}
  (X : (hd.heap_39 w.params).In h₀) (B : Below A₀ base outer h₀) (T : Top topProg loose mean mg mb h₀) (XB : (hd.heap_39 w.params).In base) (TB : Top topProg loose mean mg mb base) (CB : CodeB base) (D : KtsDicts (outer.filterMap (·.frame)) h₀)
  (hA : A.frames = some (env :: outer)) (hf : env.frame = some L) (hke : env.scope.kind = .function) (hh : A.handled = none) (hdp : dp ≤ 900) (hdep : A.depth ≤ dp) (hun : A.units ≤ 10 * dp)
  (F : Fr h₀ L s.heap m) (N : News h₀ L s.heap ((x, instObj 88 dx) :: (dx, cont w t1 t2 t3 t4 mx (.ref f) d) :: (d, od) :: rest)) (hod : od.IsDictOf (PySem.intKind PySem.Challenge.rw_aj5039_01.row.prog w) kvs) (lo : (d == sysModules) = false) (hlen : kvs.length ≤ 10) (ne1 : x ≠ dx) (ne2 : x ≠ d) (ne3 : dx ≠ d) (hr : ∀ p ∈ rest, p.1 ≠ d)
  (hfn : (f, ({ cls := .type "function", data := .func fd } : Obj)) ∈ rest) (hD : ∀ od', DispC w dp f p ((x, instObj 88 dx) :: (dx, cont w t1 t2 t3 t4 mx (.ref f) d) :: (d, od') :: rest) (fun l => ∃ rest', l = (x, instObj 88 dx) :: (dx, cont w t1 t2 t3 t4 mx (.ref f) d) :: (d, od') :: rest' ∧ R rest')) (hv : valueAt kvs k = some (.ref p))
  (q : ∀ h' h₀' tk od' rest', KtsTurn (outer.filterMap (·.frame)) h₀ h₀' → Below A₀ base outer h₀' → KtsDicts (outer.filterMap (·.frame)) h₀' → Fr h₀' L h' m → News h₀' L h' ((x, instObj 88 dx) :: (dx, cont w t1 t2 t3 t4 mx (.ref f) d) :: (d, od') :: rest') → od'.IsDictOf (PySem.intKind PySem.Challenge.rw_aj5039_01.row.prog w) (without kvs k) → R rest' → Q (.bool true) { s with heap := h', toks := tk }) :
  wpAny (model PySem.Challenge.rw_aj5039_01.row.prog w) A (call (.ref 106) [.ref x, .int k t]) Q E s := by
  revert X
  k_fill
  intro X
  k_steps
  all_goals first | exact q _ _ _ _ _ (by first | assumption | exact KtsTurn.refl) (by assumption) (by assumption) (by assumption) (by first | assumption | exact News.drop1 (by assumption) | exact News.drop1 (News.drop1 (by assumption)) | exact News.drop1 (News.drop1 (News.drop1 (by assumption)))) (by assumption) (by assumption)
set_option maxHeartbeats 8000000 in
theorem del_hit {Q : Unit → Shared → Prop}
  (X : (hd.heap_39 w.params).In h₀) (B : Below A₀ base outer h₀) (T : Top topProg loose mean mg mb h₀) (XB : (hd.heap_39 w.params).In base) (TB : Top topProg loose mean mg mb base) (CB : CodeB base) (D : KtsDicts (outer.filterMap (·.frame)) h₀)
  (hA : A.frames = some (env :: outer)) (hf : env.frame = some L) (hke : env.scope.kind = .function) (hh : A.handled = none) (hdp : dp ≤ 900) (hdep : A.depth ≤ dp) (hun : A.units ≤ 10 * dp)
  (F : Fr h₀ L s.heap m) (N : News h₀ L s.heap ((x, instObj 88 dx) :: (dx, cont w t1 t2 t3 t4 mx (.ref f) d) :: (d, od) :: rest)) (hod : od.IsDictOf (PySem.intKind PySem.Challenge.rw_aj5039_01.row.prog w) kvs) (lo : (d == sysModules) = false) (hlen : kvs.length ≤ 10) (ne1 : x ≠ dx) (ne2 : x ≠ d) (ne3 : dx ≠ d) (hr : ∀ p ∈ rest, p.1 ≠ d)
  (hfn : (f, ({ cls := .type "function", data := .func fd } : Obj)) ∈ rest) (hD : ∀ od', DispC w dp f p ((x, instObj 88 dx) :: (dx, cont w t1 t2 t3 t4 mx (.ref f) d) :: (d, od') :: rest) (fun l => ∃ rest', l = (x, instObj 88 dx) :: (dx, cont w t1 t2 t3 t4 mx (.ref f) d) :: (d, od') :: rest' ∧ R rest')) (hv : valueAt kvs k = some (.ref p))
  (q : ∀ h' h₀' tk od' rest', KtsTurn (outer.filterMap (·.frame)) h₀ h₀' → Below A₀ base outer h₀' → KtsDicts (outer.filterMap (·.frame)) h₀' → Fr h₀' L h' m → News h₀' L h' ((x, instObj 88 dx) :: (dx, cont w t1 t2 t3 t4 mx (.ref f) d) :: (d, od') :: rest') → od'.IsDictOf (PySem.intKind PySem.Challenge.rw_aj5039_01.row.prog w) (without kvs k) → R rest' → Q () { s with heap := h', toks := tk }) :
  wpAny (model PySem.Challenge.rw_aj5039_01.row.prog w) A (delItem (.ref x) (.int k t)) Q E s := by
  revert X
  k_fill
  intro X
  k_steps
  all_goals first | exact q _ _ _ _ _ (by first | assumption | exact KtsTurn.refl) (by assumption) (by assumption) (by assumption) (by first | assumption | exact News.drop1 (by assumption) | exact News.drop1 (News.drop1 (by assumption)) | exact News.drop1 (News.drop1 (News.drop1 (by assumption)))) (by assumption) (by assumption)
set_option maxHeartbeats 8000000 in
theorem set_hit {Q : Unit → Shared → Prop}
  (X : (hd.heap_39 w.params).In h₀) (B : Below A₀ base outer h₀) (T : Top topProg loose mean mg mb h₀) (XB : (hd.heap_39 w.params).In base) (TB : Top topProg loose mean mg mb base) (CB : CodeB base) (D : KtsDicts (outer.filterMap (·.frame)) h₀)
  (hA : A.frames = some (env :: outer)) (hf : env.frame = some L) (hke : env.scope.kind = .function) (hh : A.handled = none) (hdp : dp ≤ 900) (hdep : A.depth ≤ dp) (hun : A.units ≤ 10 * dp)
  (F : Fr h₀ L s.heap m) (N : News h₀ L s.heap ((x, instObj 88 dx) :: (dx, cont w t1 t2 t3 t4 mx (.ref f) d) :: (d, od) :: rest)) (hod : od.IsDictOf (PySem.intKind PySem.Challenge.rw_aj5039_01.row.prog w) kvs) (lo : (d == sysModules) = false) (hlen : kvs.length ≤ 10) (ne1 : x ≠ dx) (ne2 : x ≠ d) (ne3 : dx ≠ d) (hr : ∀ p ∈ rest, p.1 ≠ d)
  (hfn : (f, ({ cls := .type "function", data := .func fd } : Obj)) ∈ rest) (hD : ∀ od', DispC w dp f p ((x, instObj 88 dx) :: (dx, cont w t1 t2 t3 t4 mx (.ref f) d) :: (d, od') :: rest) (fun l => ∃ rest', l = (x, instObj 88 dx) :: (dx, cont w t1 t2 t3 t4 mx (.ref f) d) :: (d, od') :: rest' ∧ R rest')) (hv : valueAt kvs k = some (.ref p))
  (q : ∀ h' h₀' tk od' rest', KtsTurn (outer.filterMap (·.frame)) h₀ h₀' → Below A₀ base outer h₀' → KtsDicts (outer.filterMap (·.frame)) h₀' → Fr h₀' L h' m → News h₀' L h' ((x, instObj 88 dx) :: (dx, cont w t1 t2 t3 t4 mx (.ref f) d) :: (d, od') :: rest') → od'.IsDictOf (PySem.intKind PySem.Challenge.rw_aj5039_01.row.prog w) (without kvs k ++ [(k, v)]) → R rest' → Q () { s with heap := h', toks := tk }) :
  wpAny (model PySem.Challenge.rw_aj5039_01.row.prog w) A (setItem (.ref x) (.int k t) v) Q E s := by
  revert X
  k_fill
  intro X
  k_steps
  all_goals first | exact q _ _ _ _ _ (by first | assumption | exact KtsTurn.refl) (by assumption) (by assumption) (by assumption) (by first | assumption | exact News.drop1 (by assumption) | exact News.drop1 (News.drop1 (by assumption)) | exact News.drop1 (News.drop1 (News.drop1 (by assumption)))) (by assumption) (by assumption)
set_option maxHeartbeats 8000000 in
theorem set_room {Q : Unit → Shared → Prop}
  (X : (hd.heap_39 w.params).In h₀) (B : Below A₀ base outer h₀) (T : Top topProg loose mean mg mb h₀) (XB : (hd.heap_39 w.params).In base) (TB : Top topProg loose mean mg mb base) (CB : CodeB base) (D : KtsDicts (outer.filterMap (·.frame)) h₀)
  (hA : A.frames = some (env :: outer)) (hf : env.frame = some L) (hke : env.scope.kind = .function) (hh : A.handled = none) (hdp : dp ≤ 900) (hdep : A.depth ≤ dp) (hun : A.units ≤ 10 * dp)
  (F : Fr h₀ L s.heap m) (N : News h₀ L s.heap ((x, instObj 88 dx) :: (dx, cont w t1 t2 t3 t4 mx dis d) :: (d, od) :: rest)) (hod : od.IsDictOf (PySem.intKind PySem.Challenge.rw_aj5039_01.row.prog w) kvs) (lo : (d == sysModules) = false) (hlen : kvs.length ≤ 10) (ne1 : x ≠ dx) (ne2 : x ≠ d) (ne3 : dx ≠ d) (hr : ∀ p ∈ rest, p.1 ≠ d)
  (hv : valueAt kvs k = none) (hroom : ((kvs ++ [(k, v)]).length : Int) ≤ mx)
  (q : ∀ h' h₀' tk od', KtsTurn (outer.filterMap (·.frame)) h₀ h₀' → Below A₀ base outer h₀' → KtsDicts (outer.filterMap (·.frame)) h₀' → Fr h₀' L h' m → News h₀' L h' ((x, instObj 88 dx) :: (dx, cont w t1 t2 t3 t4 mx dis d) :: (d, od') :: rest) → od'.IsDictOf (PySem.intKind PySem.Challenge.rw_aj5039_01.row.prog w) (kvs ++ [(k, v)]) → Q () { s with heap := h', toks := tk }) :
  wpAny (model PySem.Challenge.rw_aj5039_01.row.prog w) A (setItem (.ref x) (.int k t) v) Q E s := by
  revert X
  k_fill
  intro X
  k_steps
  all_goals first | exact q _ _ _ _ (by first | assumption | exact KtsTurn.refl) (by assumption) (by assumption) (by assumption) (by first | assumption | exact News.drop1 (by assumption) | exact News.drop1 (News.drop1 (by assumption)) | exact News.drop1 (News.drop1 (News.drop1 (by assumption)))) (by assumption)
set_option maxHeartbeats 8000000 in
theorem set_evict {Q : Unit → Shared → Prop}
  (X : (hd.heap_39 w.params).In h₀) (B : Below A₀ base outer h₀) (T : Top topProg loose mean mg mb h₀) (XB : (hd.heap_39 w.params).In base) (TB : Top topProg loose mean mg mb base) (CB : CodeB base) (D : KtsDicts (outer.filterMap (·.frame)) h₀)
  (hA : A.frames = some (env :: outer)) (hf : env.frame = some L) (hke : env.scope.kind = .function) (hh : A.handled = none) (hdp : dp ≤ 900) (hdep : A.depth ≤ dp) (hun : A.units ≤ 10 * dp)
  (F : Fr h₀ L s.heap m) (N : News h₀ L s.heap ((x, instObj 88 dx) :: (dx, cont w t1 t2 t3 t4 mx (.ref f) d) :: (d, od) :: rest)) (hod : od.IsDictOf (PySem.intKind PySem.Challenge.rw_aj5039_01.row.prog w) kvs) (lo : (d == sysModules) = false) (hlen : kvs.length ≤ 10) (ne1 : x ≠ dx) (ne2 : x ≠ d) (ne3 : dx ≠ d) (hr : ∀ p ∈ rest, p.1 ≠ d)
  (hfn : (f, ({ cls := .type "function", data := .func fd } : Obj)) ∈ rest) (hD : ∀ od', DispC w dp f p ((x, instObj 88 dx) :: (dx, cont w t1 t2 t3 t4 mx (.ref f) d) :: (d, od') :: rest) (fun l => ∃ rest', l = (x, instObj 88 dx) :: (dx, cont w t1 t2 t3 t4 mx (.ref f) d) :: (d, od') :: rest' ∧ R rest')) (hv : valueAt kvs k = none) (hroom : mx < ((kvs ++ [(k, v)]).length : Int)) (hfst : (kvs ++ [(k, v)])[0]? = some (k0, .ref p)) (hv0 : valueAt (kvs ++ [(k, v)]) k0 = some (.ref p))
  (q : ∀ h' h₀' tk od' rest', KtsTurn (outer.filterMap (·.frame)) h₀ h₀' → Below A₀ base outer h₀' → KtsDicts (outer.filterMap (·.frame)) h₀' → Fr h₀' L h' m → News h₀' L h' ((x, instObj 88 dx) :: (dx, cont w t1 t2 t3 t4 mx (.ref f) d) :: (d, od') :: rest') → od'.IsDictOf (PySem.intKind PySem.Challenge.rw_aj5039_01.row.prog w) (without (kvs ++ [(k, v)]) k0) → R rest' → Q () { s with heap := h', toks := tk }) :
  wpAny (model PySem.Challenge.rw_aj5039_01.row.prog w) A (setItem (.ref x) (.int k t) v) Q E s := by
  revert X
  k_fill
  intro X
  k_steps
  all_goals first | exact q _ _ _ _ _ (by first | assumption | exact KtsTurn.refl) (by assumption) (by assumption) (by assumption) (by first | assumption | exact News.drop1 (by assumption) | exact News.drop1 (News.drop1 (by assumption)) | exact News.drop1 (News.drop1 (News.drop1 (by assumption)))) (by assumption) (by assumption)
set_option maxHeartbeats 8000000 in
theorem keys_of {Q : Value → Shared → Prop}
  (X : (hd.heap_39 w.params).In h₀) (B : Below A₀ base outer h₀) (T : Top topProg loose mean mg mb h₀) (XB : (hd.heap_39 w.params).In base) (TB : Top topProg loose mean mg mb base) (CB : CodeB base) (D : KtsDicts (outer.filterMap (·.frame)) h₀)
  (hA : A.frames = some (env :: outer)) (hf : env.frame = some L) (hke : env.scope.kind = .function) (hh : A.handled = none) (hdp : dp ≤ 900) (hdep : A.depth ≤ dp) (hun : A.units ≤ 10 * dp)
  (F : Fr h₀ L s.heap m) (N : News h₀ L s.heap ((x, instObj 88 dx) :: (dx, cont w t1 t2 t3 t4 mx dis d) :: (d, od) :: rest)) (hod : od.IsDictOf (PySem.intKind PySem.Challenge.rw_aj5039_01.row.prog w) kvs) (lo : (d == sysModules) = false) (hlen : kvs.length ≤ 10) (ne1 : x ≠ dx) (ne2 : x ≠ d) (ne3 : dx ≠ d) (hr : ∀ p ∈ rest, p.1 ≠ d)
  
  (q : ∀ l so h' h₀' tk, KtsTurn (outer.filterMap (·.frame)) h₀ h₀' → Below A₀ base outer h₀' → KtsDicts (outer.filterMap (·.frame)) h₀' → Fr h₀' L h' m → News h₀' L h' ((l, so) :: (x, instObj 88 dx) :: (dx, cont w t1 t2 t3 t4 mx dis d) :: (d, od) :: rest) → SetIs so (kvs.map (·.1)) → (x < l ∧ dx < l ∧ d < l ∧ AllLt l rest) → Q (.ref l) { s with heap := h', toks := tk }) :
  wpAny (model PySem.Challenge.rw_aj5039_01.row.prog w) A (call (.ref 85) [.ref x]) Q E s := by
  revert X
  k_fill
  intro X
  k_steps
  all_goals first | exact q _ _ _ _ _ (by first | assumption | exact KtsTurn.refl) (by assumption) (by assumption) (by assumption) (by first | assumption | exact News.keep1 (by assumption)) (by assumption) (by assumption) | (refine q _ _ _ _ _ (by first | assumption | exact KtsTurn.refl) (by assumption) (by assumption) (by assumption) (by first | assumption | exact News.keep1 (by assumption)) (by assumption) ?_; simp only [AllLt] at *; simp_all)
section
local macro_rules | `(tactic| walk_at "call type:set") => `(tactic| (k_here; (with_reducible show wpAny _ _ (call (Value.type "set") [Value.ref _]) _ _ _); k_dflt (refine' lru_keys_small ?hh ?F ?N ?v ?p ?d ?z ?y ?_; (case hh => first | exact rfl | assumption); (case F => k_asm); (case N => k_asm); (case v => k_mem); (case p => k_mem); (case d => k_asm); (case z => assumption); (case y => assumption); k_whole; intro D' h' tk' so' F' N' l1 hs'; (try k_lt l1))))
set_option maxHeartbeats 8000000 in
theorem keys_small {Q : Value → Shared → Prop}
  (X : (hd.heap_39 w.params).In h₀) (B : Below A₀ base outer h₀) (T : Top topProg loose mean mg mb h₀) (XB : (hd.heap_39 w.params).In base) (TB : Top topProg loose mean mg mb base) (CB : CodeB base) (D : KtsDicts (outer.filterMap (·.frame)) h₀)
  (hA : A.frames = some (env :: outer)) (hf : env.frame = some L) (hke : env.scope.kind = .function) (hh : A.handled = none) (hdp : dp ≤ 900) (hdep : A.depth ≤ dp) (hun : A.units ≤ 10 * dp)
  (F : Fr h₀ L s.heap m) (N : News h₀ L s.heap ((x, instObj 88 dx) :: (dx, cont w t1 t2 t3 t4 mx dis d) :: (d, od) :: rest)) (hod : od.IsDictOf (PySem.intKind PySem.Challenge.rw_aj5039_01.row.prog w) kvs) (lo : (d == sysModules) = false) (hlen : kvs.length ≤ 10) (ne1 : x ≠ dx) (ne2 : x ≠ d) (ne3 : dx ≠ d) (hr : ∀ p ∈ rest, p.1 ≠ d)
  (h3 : kvs.length ≤ 3) (h7 : ∀ k ∈ kvs.map (·.1), 0 ≤ k ∧ k < 7)
  (q : ∀ l so h' h₀' tk, KtsTurn (outer.filterMap (·.frame)) h₀ h₀' → Below A₀ base outer h₀' → KtsDicts (outer.filterMap (·.frame)) h₀' → Fr h₀' L h' m → News h₀' L h' ((l, so) :: (x, instObj 88 dx) :: (dx, cont w t1 t2 t3 t4 mx dis d) :: (d, od) :: rest) → SmOf w so (kvs.map (·.1)) → (x < l ∧ dx < l ∧ d < l ∧ AllLt l rest) → Q (.ref l) { s with heap := h', toks := tk }) :
  wpAny (model PySem.Challenge.rw_aj5039_01.row.prog w) A (call (.ref 85) [.ref x]) Q E s := by
  revert X
  k_fill
  intro X
  k_steps
  all_goals first | exact q _ _ _ _ _ (by first | assumption | exact KtsTurn.refl) (by assumption) (by assumption) (by assumption) (by first | assumption | exact News.keep1 (by assumption)) (by assumption) (by assumption) | (refine q _ _ _ _ _ (by first | assumption | exact KtsTurn.refl) (by assumption) (by assumption) (by assumption) (by first | assumption | exact News.keep1 (by assumption)) (by assumption) ?_; simp only [AllLt] at *; simp_all)
end
set_option maxHeartbeats 8000000 in
theorem len_of {Q : Value → Shared → Prop}
  (X : (hd.heap_39 w.params).In h₀) (B : Below A₀ base outer h₀) (T : Top topProg loose mean mg mb h₀) (XB : (hd.heap_39 w.params).In base) (TB : Top topProg loose mean mg mb base) (CB : CodeB base) (D : KtsDicts (outer.filterMap (·.frame)) h₀)
  (hA : A.frames = some (env :: outer)) (hf : env.frame = some L) (hke : env.scope.kind = .function) (hh : A.handled = none) (hdp : dp ≤ 900) (hdep : A.depth ≤ dp) (hun : A.units ≤ 10 * dp)
  (F : Fr h₀ L s.heap m) (N : News h₀ L s.heap ((x, instObj 88 dx) :: (dx, cont w t1 t2 t3 t4 mx dis d) :: (d, od) :: rest)) (hod : od.IsDictOf (PySem.intKind PySem.Challenge.rw_aj5039_01.row.prog w) kvs) (lo : (d == sysModules) = false) (hlen : kvs.length ≤ 10) (ne1 : x ≠ dx) (ne2 : x ≠ d) (ne3 : dx ≠ d) (hr : ∀ p ∈ rest, p.1 ≠ d)
  
  (q : ∀ (l : Tok) h' h₀' tk, KtsTurn (outer.filterMap (·.frame)) h₀ h₀' → Below A₀ base outer h₀' → KtsDicts (outer.filterMap (·.frame)) h₀' → Fr h₀' L h' m → News h₀' L h' ((x, instObj 88 dx) :: (dx, cont w t1 t2 t3 t4 mx dis d) :: (d, od) :: rest) → Q (.int kvs.length l) { s with heap := h', toks := tk }) :
  wpAny (model PySem.Challenge.rw_aj5039_01.row.prog w) A (call (.builtin "len") [.ref x]) Q E s := by
  revert X
  k_fill
  intro X
  k_steps
  all_goals first | exact q _ _ _ _ (by first | assumption | exact KtsTurn.refl) (by assumption) (by assumption) (by assumption) (by assumption)
end
end Mine
end
section
open PySem PySem.W PyProof.Rows PySem.Calls PyProof.V PySem.Spec
set_option maxRecDepth 100000
namespace Mine
/-- a ledger whose object at one address is another one -/
def upd (a : Addr) (o : Obj) (l : List (Addr × Obj)) : List (Addr × Obj) := l.map fun q => if q.1 = a then (a, o) else q
def off (a : Addr) (l : List (Addr × Obj)) : List (Addr × Obj) := l.filter fun q => decide (q.1 ≠ a)
theorem mem_off {a : Addr} {l : List (Addr × Obj)} {q : Addr × Obj} : q ∈ off a l ↔ q ∈ l ∧ q.1 ≠ a := by
  unfold off; rw [List.mem_filter]; simp
theorem mem_upd {a : Addr} {o : Obj} {l : List (Addr × Obj)} {q : Addr × Obj} : q ∈ upd a o l ↔ (q = (a, o) ∧ ∃ o', (a, o') ∈ l) ∨ (q ∈ l ∧ q.1 ≠ a) := by
  unfold upd
  rw [List.mem_map]
  constructor
  · rintro ⟨p, hp, e⟩
    by_cases h : p.1 = a
    · rw [if_pos h] at e
      exact .inl ⟨e.symm, p.2, by rw [← h]; exact hp⟩
    · rw [if_neg h] at e
      subst e
      exact .inr ⟨hp, h⟩
  · rintro (⟨e, o', h⟩ | ⟨h, n⟩)
    · exact ⟨_, h, by rw [if_pos rfl]; exact e.symm⟩
    · exact ⟨q, h, if_neg n⟩
theorem upd_ne {a : Addr} {o : Obj} {l : List (Addr × Obj)} {q : Addr × Obj} (h : q ∈ l) (n : q.1 ≠ a) : q ∈ upd a o l := mem_upd.mpr (.inr ⟨h, n⟩)
theorem upd_eq {a : Addr} {o o' : Obj} {l : List (Addr × Obj)} (h : (a, o') ∈ l) : (a, o) ∈ upd a o l := mem_upd.mpr (.inl ⟨rfl, o', h⟩)
theorem upd_mono {a : Addr} {o : Obj} {l l' : List (Addr × Obj)} (h : ∀ q ∈ l', q ∈ l) : ∀ q ∈ upd a o l', q ∈ upd a o l := fun q hq => by
  rcases mem_upd.mp hq with ⟨e, o', h'⟩ | ⟨h', n⟩
  · exact mem_upd.mpr (.inl ⟨e, o', h _ h'⟩)
  · exact mem_upd.mpr (.inr ⟨h _ h', n⟩)
theorem upd_cons {a x : Addr} {o ox : Obj} {l : List (Addr × Obj)} (h : x ≠ a) : upd a o ((x, ox) :: l) = (x, ox) :: upd a o l := by
  unfold upd; rw [List.map_cons, if_neg h]
theorem UpdF.upd {a : Addr} {o₀ : Obj} {l : List (Addr × Obj)} {g : Obj → List (Addr × Obj)} (U : UpdF a o₀ l g) (o : Obj) : ∀ q ∈ g o, q ∈ Mine.upd a o l := fun q hq => by
  obtain ⟨pre, post, rfl, hg, h1, h2⟩ := U.split
  rw [hg] at hq
  simp only [List.mem_append, List.mem_cons] at hq
  rcases hq with h | h | h
  · exact upd_ne (List.mem_append_left _ h) (h1 q h)
  · subst h; exact upd_eq (o' := o₀) (List.mem_append_right _ (.head _))
  · exact upd_ne (List.mem_append_right _ (.tail _ h)) (h2 q h)
theorem UpdF.mem {a : Addr} {o₀ : Obj} {l : List (Addr × Obj)} {g : Obj → List (Addr × Obj)} (U : UpdF a o₀ l g) : (a, o₀) ∈ l := by
  obtain ⟨pre, post, rfl, hg, h1, h2⟩ := U.split
  exact List.mem_append_right _ (.head _)
section
variable {h₀ h : Heap} {L a b : Addr} {oa ob o : Obj} {l : List (Addr × Obj)}
theorem News.same (N : News h₀ L h l) (h1 : (a, oa) ∈ l) (h2 : (a, ob) ∈ l) : oa = ob := Option.some.inj ((N _ h1).1.symm.trans (N _ h2).1)
theorem News.ne (N : News h₀ L h l) (h1 : (a, oa) ∈ l) (h2 : (b, ob) ∈ l) (e : oa ≠ ob) : a ≠ b := fun q => e (News.same N h1 (q ▸ h2))
theorem News.updSame (N : News h₀ L h l) (hm : (a, o) ∈ l) : News h₀ L h (upd a o l) := News.sub N fun q hq => by
  rcases mem_upd.mp hq with ⟨e, _⟩ | ⟨h', _⟩
  · exact e ▸ hm
  · exact h'
end
theorem ne_tl {k : Int} {t : Tok} {v : Value} {its : Array Value} {n : Nat} : tup2 k t v ≠ listOf its n := fun e => by
  have := congrArg Obj.cls e
  simp at this
theorem ne_fl {fd : FuncData} {its : Array Value} {n : Nat} : ({ cls := .type "function", data := .func fd } : Obj) ≠ listOf its n := fun e => nomatch congrArg Obj.data e
theorem ne_data {o o' : Obj} (h : o.data ≠ o'.data) : o ≠ o' := fun e => h (e ▸ rfl)
section
variable {prog : Program} {w : World} {o : Obj} {kvs : List (Int × Value)}
theorem dict_ne_seq {its : Array Value} {n : Nat} {c : Value} (hd : o.IsDictOf (PySem.intKind prog w) kvs) : o ≠ ({ cls := c, data := .seq its n } : Obj) := fun e => by
  obtain ⟨_, es, ep, hx, _⟩ := hd
  rw [e] at hx; cases hx
theorem dict_ne_fn {fd : FuncData} {c : Value} (hd : o.IsDictOf (PySem.intKind prog w) kvs) : o ≠ ({ cls := c, data := .func fd } : Obj) := fun e => by
  obtain ⟨_, es, ep, hx, _⟩ := hd
  rw [e] at hx; cases hx
end
/-- what a set hands to the dispose function -/
def fellO (mx : Int) (kvs : List (Int × Value)) (k : Int) (v : Value) : Option (Int × Value) :=
  match valueAt kvs k with
  | some v0 => some (k, v0)
  | none => if ((kvs ++ [(k, v)]).length : Int) ≤ mx then none else (kvs ++ [(k, v)]).head?
def fellD (kvs : List (Int × Value)) (k : Int) : Option (Int × Value) := (valueAt kvs k).map fun v => (k, v)
def fellL (key : Int) : Option (Int × Value) → List Value
  | none => []
  | some p => if p.1 = key then [] else [p.2]
def Tups (led : List (Addr × Obj)) (kvs : List (Int × Value)) : Prop := ∀ k v, (k, v) ∈ kvs → ∃ p t v', v = .ref p ∧ (p, tup2 k t v') ∈ led
/-- a dispose function that puts what falls into a list, unless its key is the touched one -/
def DispL (w : World) (dp : Nat) (f : Addr) (must : List (Addr × Obj)) (lF : Addr) (vs : List Value) (key : Int) : Prop :=
  ∀ led p k t v', (∀ q ∈ must, q ∈ led) → (p, tup2 k t v') ∈ led → DispC w dp f p led (fun l => ∃ n', l = upd lF (listOf (vs ++ fellL key (some (k, .ref p))).toArray n') led)
section
variable {w : World} {dp f c' cF cT lF lT Lw fa : Nat} {key : Int} {tkey tq : Tok} {pm ct : Value} {oc oF oT : Obj} {vs : List Value} {vsc : Array Value} {nF nT : Nat}
abbrev mustOf (f : Addr) (of : Obj) (c' : Addr) (oc : Obj) (cF : Addr) (oF : Obj) (cT : Addr) (oT : Obj) (lT : Addr) (ov : Obj) (lF : Addr) (ol : Obj) : List (Addr × Obj) := [(f, of), (c', oc), (cF, oF), (cT, oT), (lT, ov), (lF, ol)]
theorem sub_off {a : Addr} {o : Obj} {l e : List (Addr × Obj)} (h1 : (a, o) ∈ e) (h2 : ∀ q ∈ off a l, q ∈ e) : ∀ q ∈ upd a o l, q ∈ e := fun q hq => by
  rcases mem_upd.mp hq with ⟨rfl, _⟩ | h
  · exact h1
  · exact h2 q (mem_off.mpr h)
theorem lamB_disp (hoc : oc.data = .fields vsc) (hq : vsc[1]? = some (.str (lamQual Lw fa) tq)) (hcF : oF.data = .cell (some (.ref lF))) (hcT : oT.data = .cell (some (.ref lT))) (n6 : lT ≠ lF) (hz : vs.length ≤ 40) (hdp : dp ≤ 900) :
    DispL w dp f (mustOf f (lamObjB Lw fa cT cF pm c' ct) c' oc cF oF cT oT lT (listOf #[.int key tkey] nT) lF (listOf vs.toArray nF)) lF vs key := by
  intro led p k t v' hm hp mg mb mean A₀ A base h₀ outer env L m s Q E X B T XB TB CB D hA hf hke hh hdep hun F N q
  have i1 := hm _ (.head _)
  have i2 := hm _ (.tail _ (.head _))
  have i3 := hm _ (.tail _ (.tail _ (.head _)))
  have i4 := hm _ (.tail _ (.tail _ (.tail _ (.head _))))
  have i5 := hm _ (.tail _ (.tail _ (.tail _ (.tail _ (.head _)))))
  have i6 := hm _ (.tail _ (.tail _ (.tail _ (.tail _ (.tail _ (.head _))))))
  have n1 : p ≠ lF := News.ne N hp i6 ne_tl
  have n2 : f ≠ lF := News.ne N i1 i6 ne_fl
  have n3 : c' ≠ lF := News.ne N i2 i6 (ne_data (by rw [hoc]; exact fun e => nomatch e))
  have n4 : cF ≠ lF := News.ne N i3 i6 (ne_data (by rw [hcF]; exact fun e => nomatch e))
  have n5 : cT ≠ lF := News.ne N i4 i6 (ne_data (by rw [hcT]; exact fun e => nomatch e))
  have hr : ∀ q ∈ off lF led, q.1 ≠ lF := fun q hq => (mem_off.mp hq).2
  have N0 : News h₀ L s.heap ((p, tup2 k t v') :: (f, lamObjB Lw fa cT cF pm c' ct) :: (c', oc) :: (cF, oF) :: (cT, oT) :: (lT, listOf #[.int key tkey] nT) :: (lF, listOf vs.toArray nF) :: off lF led) := News.sub N fun q hq => by
    simp only [List.mem_cons] at hq
    rcases hq with rfl | rfl | rfl | rfl | rfl | rfl | rfl | hq
    · exact hp
    · exact i1
    · exact i2
    · exact i3
    · exact i4
    · exact i5
    · exact i6
    · exact (mem_off.mp hq).1
  have tl : ∀ (o : Obj), ∀ q ∈ off lF led, q ∈ (p, tup2 k t v') :: (f, lamObjB Lw fa cT cF pm c' ct) :: (c', oc) :: (cF, oF) :: (cT, oT) :: (lT, listOf #[.int key tkey] nT) :: (lF, o) :: off lF led := fun o q hq => .tail _ (.tail _ (.tail _ (.tail _ (.tail _ (.tail _ (.tail _ hq))))))
  have hl : ∀ (o : Obj), (lF, o) ∈ (p, tup2 k t v') :: (f, lamObjB Lw fa cT cF pm c' ct) :: (c', oc) :: (cF, oF) :: (cT, oT) :: (lT, listOf #[.int key tkey] nT) :: (lF, o) :: off lF led := fun o => .tail _ (.tail _ (.tail _ (.tail _ (.tail _ (.tail _ (.head _))))))
  by_cases hk : k = key
  · refine lamB_same X B T hA hf hke (by omega) (by omega) CB F N0 hoc hq hcF hcT n1 n2 n3 n4 n5 n6 hr hz hk fun h' tk' n' F' N' => ?_
    refine q h' h₀ tk' _ KtsTurn.refl B D F' ?_ ⟨nF, rfl⟩
    have e : fellL key (some (k, .ref p)) = [] := if_pos hk
    rw [e, List.append_nil]
    exact News.sub N' (sub_off (hl _) (tl _))
  · refine lamB_other X B T hA hf hke (by omega) (by omega) CB F N0 hoc hq hcF hcT n1 n2 n3 n4 n5 n6 hr hz hk fun h' tk' n' F' N' => ?_
    refine q h' h₀ tk' _ KtsTurn.refl B D F' ?_ ⟨n', rfl⟩
    have e : fellL key (some (k, .ref p)) = [.ref p] := if_neg hk
    rw [e]
    rw [List.push_toArray] at N'
    exact News.sub N' (sub_off (hl _) (tl _))
theorem lamO_disp (hoc : oc.data = .fields vsc) (hq : vsc[1]? = some (.str (lamQual Lw fa) tq)) (hcF : oF.data = .cell (some (.ref lF))) (hcT : oT.data = .cell (some (.ref lT))) (n6 : lT ≠ lF) (hz : vs.length ≤ 40) (hdp : dp ≤ 900) :
    DispL w dp f (mustOf f (lamObjO Lw fa cT cF pm c' ct) c' oc cF oF cT oT lT (listOf #[.int key tkey] nT) lF (listOf vs.toArray nF)) lF vs key := by
  intro led p k t v' hm hp mg mb mean A₀ A base h₀ outer env L m s Q E X B T XB TB CB D hA hf hke hh hdep hun F N q
  have i1 := hm _ (.head _)
  have i2 := hm _ (.tail _ (.head _))
  have i3 := hm _ (.tail _ (.tail _ (.head _)))
  have i4 := hm _ (.tail _ (.tail _ (.tail _ (.head _))))
  have i5 := hm _ (.tail _ (.tail _ (.tail _ (.tail _ (.head _)))))
  have i6 := hm _ (.tail _ (.tail _ (.tail _ (.tail _ (.tail _ (.head _))))))
  have n1 : p ≠ lF := News.ne N hp i6 ne_tl
  have n2 : f ≠ lF := News.ne N i1 i6 ne_fl
  have n3 : c' ≠ lF := News.ne N i2 i6 (ne_data (by rw [hoc]; exact fun e => nomatch e))
  have n4 : cF ≠ lF := News.ne N i3 i6 (ne_data (by rw [hcF]; exact fun e => nomatch e))
  have n5 : cT ≠ lF := News.ne N i4 i6 (ne_data (by rw [hcT]; exact fun e => nomatch e))
  have hr : ∀ q ∈ off lF led, q.1 ≠ lF := fun q hq => (mem_off.mp hq).2
  have N0 : News h₀ L s.heap ((p, tup2 k t v') :: (f, lamObjO Lw fa cT cF pm c' ct) :: (c', oc) :: (cF, oF) :: (cT, oT) :: (lT, listOf #[.int key tkey] nT) :: (lF, listOf vs.toArray nF) :: off lF led) := News.sub N fun q hq => by
    simp only [List.mem_cons] at hq
    rcases hq with rfl | rfl | rfl | rfl | rfl | rfl | rfl | hq
    · exact hp
    · exact i1
    · exact i2
    · exact i3
    · exact i4
    · exact i5
    · exact i6
    · exact (mem_off.mp hq).1
  have tl : ∀ (o : Obj), ∀ q ∈ off lF led, q ∈ (p, tup2 k t v') :: (f, lamObjO Lw fa cT cF pm c' ct) :: (c', oc) :: (cF, oF) :: (cT, oT) :: (lT, listOf #[.int key tkey] nT) :: (lF, o) :: off lF led := fun o q hq => .tail _ (.tail _ (.tail _ (.tail _ (.tail _ (.tail _ (.tail _ hq))))))
  have hl : ∀ (o : Obj), (lF, o) ∈ (p, tup2 k t v') :: (f, lamObjO Lw fa cT cF pm c' ct) :: (c', oc) :: (cF, oF) :: (cT, oT) :: (lT, listOf #[.int key tkey] nT) :: (lF, o) :: off lF led := fun o => .tail _ (.tail _ (.tail _ (.tail _ (.tail _ (.tail _ (.head _))))))
  by_cases hk : k = key
  · refine lamO_same X B T hA hf hke (by omega) (by omega) CB F N0 hoc hq hcF hcT n1 n2 n3 n4 n5 n6 hr hz hk fun h' tk' n' F' N' => ?_
    refine q h' h₀ tk' _ KtsTurn.refl B D F' ?_ ⟨nF, rfl⟩
    have e : fellL key (some (k, .ref p)) = [] := if_pos hk
    rw [e, List.append_nil]
    exact News.sub N' (sub_off (hl _) (tl _))
  · refine lamO_other X B T hA hf hke (by omega) (by omega) CB F N0 hoc hq hcF hcT n1 n2 n3 n4 n5 n6 hr hz hk fun h' tk' n' F' N' => ?_
    refine q h' h₀ tk' _ KtsTurn.refl B D F' ?_ ⟨n', rfl⟩
    have e : fellL key (some (k, .ref p)) = [.ref p] := if_neg hk
    rw [e]
    rw [List.push_toArray] at N'
    exact News.sub N' (sub_off (hl _) (tl _))
end
end Mine
end
section
open PySem PySem.W PyProof.Rows PySem.Calls PyProof.V PySem.Spec
set_option maxRecDepth 100000
namespace Mine
theorem DispC.mono {w : World} {dp : Nat} {f p : Addr} {led : List (Addr × Obj)} {P P' : List (Addr × Obj) → Prop} (H : DispC w dp f p led P) (h : ∀ l, P l → P' l) : DispC w dp f p led P' := fun mg mb mean A₀ A base h₀ outer env L m s Q E X B T XB TB CB D hA hf hke hh hdep hun F N q =>
  H mg mb mean A₀ A base h₀ outer env L m s Q E X B T XB TB CB D hA hf hke hh hdep hun F N fun h' h₀' tk l' a b c d e f => q h' h₀' tk l' a b c d e (h _ f)
theorem dict_ne_plain {prog : Program} {w : World} {o : Obj} {kvs : List (Int × Value)} {C dx : Addr} (hd : o.IsDictOf (PySem.intKind prog w) kvs) : o ≠ instObj C dx := fun e => by
  obtain ⟨_, es, ep, hx, _⟩ := hd
  rw [e] at hx; cases hx
theorem dict_ne_flds {prog : Program} {w : World} {o o' : Obj} {kvs : List (Int × Value)} (hd : o.IsDictOf (PySem.intKind prog w) kvs) (h : ∀ es ep, o'.data ≠ .dict es ep) : o ≠ o' := fun e => by
  obtain ⟨_, es, ep, hx, _⟩ := hd
  rw [e] at hx; exact h _ _ hx
section
variable {w : World} {mg mb : Str → Option Value} {mean : ExcName → Option Value} {A₀ A : Around} {base h₀ : Heap} {outer : List Env} {env : Env} {L : Addr} {m : Str → Option Value} {s : Shared} {x dx d f lF pv dp : Nat} {k key : Int} {t t1 t2 t3 t4 tp : Tok} {mx : Int} {v vp : Value} {od : Obj} {kvs : List (Int × Value)} {news must : List (Addr × Obj)} {E : Value → Shared → Prop} {fd : FuncData} {vs : List Value} {nF : Nat}
theorem setL {Q : Unit → Shared → Prop} (X : (hd.heap_39 w.params).In h₀) (B : Below A₀ base outer h₀) (T : Top topProg loose mean mg mb h₀) (XB : (hd.heap_39 w.params).In base) (TB : Top topProg loose mean mg mb base) (CB : CodeB base) (D : KtsDicts (outer.filterMap (·.frame)) h₀)
  (hA : A.frames = some (env :: outer)) (hf : env.frame = some L) (hke : env.scope.kind = .function) (hh : A.handled = none) (hdp : dp ≤ 900) (hdep : A.depth ≤ dp) (hun : A.units ≤ 10 * dp)
  (F : Fr h₀ L s.heap m) (N : News h₀ L s.heap news) (I1 : (x, instObj 88 dx) ∈ news) (I2 : (dx, cont w t1 t2 t3 t4 mx (.ref f) d) ∈ news) (I3 : (d, od) ∈ news) (hod : od.IsDictOf (PySem.intKind PySem.Challenge.rw_aj5039_01.row.prog w) kvs) (lo : (d == sysModules) = false) (hlen : kvs.length ≤ 10)
  (HD : DispL w dp f must lF vs key) (hm : ∀ q ∈ must, q ∈ news) (hmd : ∀ q ∈ must, q.1 ≠ d) (hfn : (f, ({ cls := .type "function", data := .func fd } : Obj)) ∈ must) (hlF : (lF, listOf vs.toArray nF) ∈ must) (hT : Tups news kvs) (ne3 : dx ≠ d) (hv : v = .ref pv) (hpv : (pv, tup2 k tp vp) ∈ news)
  (q : ∀ h' h₀' tk od' n', KtsTurn (outer.filterMap (·.frame)) h₀ h₀' → Below A₀ base outer h₀' → KtsDicts (outer.filterMap (·.frame)) h₀' → Fr h₀' L h' m → News h₀' L h' (upd lF (listOf (vs ++ fellL key (fellO mx kvs k v)).toArray n') (upd d od' news)) → od'.IsDictOf (PySem.intKind PySem.Challenge.rw_aj5039_01.row.prog w) (setD mx kvs k v) → Q () { s with heap := h', toks := tk }) :
  wpAny (model PySem.Challenge.rw_aj5039_01.row.prog w) A (setItem (.ref x) (.int k t) v) Q E s := by
  have ne1 : x ≠ dx := News.ne N I1 I2 fun e => nomatch congrArg Obj.data e
  have ne2 : x ≠ d := News.ne N I1 I3 fun e => dict_ne_plain hod e.symm
  have nxF : x ≠ lF := News.ne N I1 (hm _ hlF) fun e => nomatch congrArg Obj.data e
  have ndF : dx ≠ lF := News.ne N I2 (hm _ hlF) fun e => nomatch congrArg Obj.data e
  have nF' : d ≠ lF := fun e => hmd _ hlF e.symm
  have N0 : News h₀ L s.heap ((x, instObj 88 dx) :: (dx, cont w t1 t2 t3 t4 mx (.ref f) d) :: (d, od) :: off d news) := News.sub N fun q hq => by
    simp only [List.mem_cons] at hq
    rcases hq with rfl | rfl | rfl | hq
    · exact I1
    · exact I2
    · exact I3
    · exact (mem_off.mp hq).1
  have hr : ∀ p ∈ off d news, p.1 ≠ d := fun q hq => (mem_off.mp hq).2
  have hfn' := mem_off.mpr ⟨hm _ hfn, hmd _ hfn⟩
  have lF' := mem_off.mpr ⟨hm _ hlF, hmd _ hlF⟩
  have hD : ∀ p k' t' v'', (p, tup2 k' t' v'') ∈ news → ∀ od', DispC w dp f p ((x, instObj 88 dx) :: (dx, cont w t1 t2 t3 t4 mx (.ref f) d) :: (d, od') :: off d news) (fun l => ∃ rest', l = (x, instObj 88 dx) :: (dx, cont w t1 t2 t3 t4 mx (.ref f) d) :: (d, od') :: rest' ∧ ∃ n', rest' = upd lF (listOf (vs ++ fellL key (some (k', .ref p))).toArray n') (off d news)) := fun p k' t' v'' hp od' => by
    have np : p ≠ d := News.ne N hp I3 fun e => dict_ne_seq hod e.symm
    refine DispC.mono (HD _ p k' t' v'' (fun q hq => .tail _ (.tail _ (.tail _ (mem_off.mpr ⟨hm q hq, hmd q hq⟩)))) (.tail _ (.tail _ (.tail _ (mem_off.mpr ⟨hp, np⟩))))) fun l hl => ?_
    obtain ⟨n', rfl⟩ := hl
    exact ⟨_, by rw [upd_cons nxF, upd_cons ndF, upd_cons nF'], n', rfl⟩
  have fin : ∀ (h₀' h' : Heap) (od' lo : Obj), News h₀' L h' ((x, instObj 88 dx) :: (dx, cont w t1 t2 t3 t4 mx (.ref f) d) :: (d, od') :: upd lF lo (off d news)) → News h₀' L h' (upd lF lo (upd d od' news)) := fun h₀' h' od' lo N' => News.sub N' fun q hq => by
    rcases mem_upd.mp hq with ⟨rfl, _⟩ | ⟨h, n⟩
    · exact .tail _ (.tail _ (.tail _ (upd_eq lF')))
    · rcases mem_upd.mp h with ⟨rfl, _⟩ | ⟨h, n2⟩
      · exact .tail _ (.tail _ (.head _))
      · exact .tail _ (.tail _ (.tail _ (upd_ne (mem_off.mpr ⟨h, n2⟩) n)))
  have fin0 : ∀ (h₀' h' : Heap) (od' : Obj), News h₀' L h' ((x, instObj 88 dx) :: (dx, cont w t1 t2 t3 t4 mx (.ref f) d) :: (d, od') :: off d news) → News h₀' L h' (upd lF (listOf (vs ++ []).toArray nF) (upd d od' news)) := fun h₀' h' od' N' => fin h₀' h' od' _ (News.sub N' fun q hq => by
    simp only [List.mem_cons] at hq
    rcases hq with rfl | rfl | rfl | hq
    · exact .head _
    · exact .tail _ (.head _)
    · exact .tail _ (.tail _ (.head _))
    · rw [List.append_nil] at hq
      rcases mem_upd.mp hq with ⟨rfl, _⟩ | ⟨h, _⟩
      · exact .tail _ (.tail _ (.tail _ lF'))
      · exact .tail _ (.tail _ (.tail _ h)))

  have hT' : Tups news (kvs ++ [(k, v)]) := fun k' v' h' => by
    rcases List.mem_append.mp h' with h' | h'
    · exact hT k' v' h'
    · cases List.mem_singleton.mp h'
      exact ⟨pv, tp, vp, hv, hpv⟩
  cases e1 : valueAt kvs k with
  | some v0 =>
    obtain ⟨p, t', v'', rfl, hp⟩ := hT k v0 (mem_of_valueAt e1)
    refine set_hit X B T XB TB CB D hA hf hke hh hdp hdep hun F N0 hod lo hlen ne1 ne2 ne3 hr hfn' (hD p k t' v'' hp) e1 fun h' h₀' tk od' rest' T' B' D' F' N' hd' hR => ?_
    obtain ⟨n', rfl⟩ := hR
    refine q h' h₀' tk od' n' T' B' D' F' ?_ (by rw [setD, e1]; exact hd')
    have e2 : fellO mx kvs k v = some (k, .ref p) := by unfold fellO; rw [e1]
    rw [e2]
    exact fin _ _ _ _ N'
  | none =>
    by_cases hroom : ((kvs ++ [(k, v)]).length : Int) ≤ mx
    · refine set_room X B T XB TB CB D hA hf hke hh hdp hdep hun F N0 hod lo hlen ne1 ne2 ne3 hr e1 hroom fun h' h₀' tk od' T' B' D' F' N' hd' => ?_
      refine q h' h₀' tk od' nF T' B' D' F' ?_ (by simp only [setD, e1, Option.isSome_none, Bool.false_eq_true, if_false, if_pos hroom]; exact hd')
      have e2 : fellO mx kvs k v = none := by unfold fellO; rw [e1]; exact if_pos hroom
      rw [e2]
      exact fin0 _ _ _ N'
    · obtain ⟨⟨k0, v0⟩, r, hc⟩ : ∃ p r, kvs ++ [(k, v)] = p :: r := by
        cases kvs with
        | nil => exact ⟨_, _, rfl⟩
        | cons p r => exact ⟨_, _, rfl⟩
      have hn : ((kvs ++ [(k, v)]).map (·.1)).Nodup := by
        have h1 := keysNodup_of_isDictOf hod
        rw [List.map_append, List.nodup_append]
        refine ⟨h1, by simp, fun y hy z hz e => ?_⟩
        simp only [List.map_cons, List.map_nil, List.mem_singleton] at hz
        subst e; subst hz
        obtain ⟨p, hp, hpe⟩ := List.mem_map.mp hy
        unfold valueAt at e1
        rw [Option.map_eq_none_iff, List.find?_eq_none] at e1
        exact e1 p hp (by simpa using hpe)
      obtain ⟨p, t', v'', rfl, hp⟩ := hT' k0 v0 (by rw [hc]; exact .head _)
      refine set_evict X B T XB TB CB D hA hf hke hh hdp hdep hun F N0 hod lo hlen ne1 ne2 ne3 hr hfn' (hD p k0 t' v'' hp) e1 (by omega) (k0 := k0) (by rw [hc]; rfl) (by rw [hc]; simp [valueAt]) fun h' h₀' tk od' rest' T' B' D' F' N' hd' hR => ?_
      obtain ⟨n', rfl⟩ := hR
      refine q h' h₀' tk od' n' T' B' D' F' ?_ ?_
      · have e2 : fellO mx kvs k v = some (k0, .ref p) := by unfold fellO; rw [e1]; show (if _ then _ else _) = _; rw [if_neg hroom, hc]; rfl
        rw [e2]
        exact fin _ _ _ _ N'
      · simp only [setD, e1, Option.isSome_none, Bool.false_eq_true, if_false, if_neg hroom]
        rw [hc, List.tail_cons]
        rw [hc] at hd' hn
        rw [without_head hn] at hd'
        exact hd'
theorem delL {Q : Unit → Shared → Prop} (X : (hd.heap_39 w.params).In h₀) (B : Below A₀ base outer h₀) (T : Top topProg loose mean mg mb h₀) (XB : (hd.heap_39 w.params).In base) (TB : Top topProg loose mean mg mb base) (CB : CodeB base) (D : KtsDicts (outer.filterMap (·.frame)) h₀)
  (hA : A.frames = some (env :: outer)) (hf : env.frame = some L) (hke : env.scope.kind = .function) (hh : A.handled = none) (hdp : dp ≤ 900) (hdep : A.depth ≤ dp) (hun : A.units ≤ 10 * dp)
  (F : Fr h₀ L s.heap m) (N : News h₀ L s.heap news) (I1 : (x, instObj 88 dx) ∈ news) (I2 : (dx, cont w t1 t2 t3 t4 mx (.ref f) d) ∈ news) (I3 : (d, od) ∈ news) (hod : od.IsDictOf (PySem.intKind PySem.Challenge.rw_aj5039_01.row.prog w) kvs) (lo : (d == sysModules) = false) (hlen : kvs.length ≤ 10)
  (HD : DispL w dp f must lF vs key) (hm : ∀ q ∈ must, q ∈ news) (hmd : ∀ q ∈ must, q.1 ≠ d) (hfn : (f, ({ cls := .type "function", data := .func fd } : Obj)) ∈ must) (hlF : (lF, listOf vs.toArray nF) ∈ must) (hT : Tups news kvs) (ne3 : dx ≠ d) (hv : (valueAt kvs k).isSome = true)
  (q : ∀ h' h₀' tk od' n', KtsTurn (outer.filterMap (·.frame)) h₀ h₀' → Below A₀ base outer h₀' → KtsDicts (outer.filterMap (·.frame)) h₀' → Fr h₀' L h' m → News h₀' L h' (upd lF (listOf (vs ++ fellL key (fellD kvs k)).toArray n') (upd d od' news)) → od'.IsDictOf (PySem.intKind PySem.Challenge.rw_aj5039_01.row.prog w) (without kvs k) → Q () { s with heap := h', toks := tk }) :
  wpAny (model PySem.Challenge.rw_aj5039_01.row.prog w) A (delItem (.ref x) (.int k t)) Q E s := by
  have ne1 : x ≠ dx := News.ne N I1 I2 fun e => nomatch congrArg Obj.data e
  have ne2 : x ≠ d := News.ne N I1 I3 fun e => dict_ne_plain hod e.symm
  have nxF : x ≠ lF := News.ne N I1 (hm _ hlF) fun e => nomatch congrArg Obj.data e
  have ndF : dx ≠ lF := News.ne N I2 (hm _ hlF) fun e => nomatch congrArg Obj.data e
  have nF' : d ≠ lF := fun e => hmd _ hlF e.symm
  have N0 : News h₀ L s.heap ((x, instObj 88 dx) :: (dx, cont w t1 t2 t3 t4 mx (.ref f) d) :: (d, od) :: off d news) := News.sub N fun q hq => by
    simp only [List.mem_cons] at hq
    rcases hq with rfl | rfl | rfl | hq
    · exact I1
    · exact I2
    · exact I3
    · exact (mem_off.mp hq).1
  have hr : ∀ p ∈ off d news, p.1 ≠ d := fun q hq => (mem_off.mp hq).2
  have hfn' := mem_off.mpr ⟨hm _ hfn, hmd _ hfn⟩
  have lF' := mem_off.mpr ⟨hm _ hlF, hmd _ hlF⟩
  have hD : ∀ p k' t' v'', (p, tup2 k' t' v'') ∈ news → ∀ od', DispC w dp f p ((x, instObj 88 dx) :: (dx, cont w t1 t2 t3 t4 mx (.ref f) d) :: (d, od') :: off d news) (fun l => ∃ rest', l = (x, instObj 88 dx) :: (dx, cont w t1 t2 t3 t4 mx (.ref f) d) :: (d, od') :: rest' ∧ ∃ n', rest' = upd lF (listOf (vs ++ fellL key (some (k', .ref p))).toArray n') (off d news)) := fun p k' t' v'' hp od' => by
    have np : p ≠ d := News.ne N hp I3 fun e => dict_ne_seq hod e.symm
    refine DispC.mono (HD _ p k' t' v'' (fun q hq => .tail _ (.tail _ (.tail _ (mem_off.mpr ⟨hm q hq, hmd q hq⟩)))) (.tail _ (.tail _ (.tail _ (mem_off.mpr ⟨hp, np⟩))))) fun l hl => ?_
    obtain ⟨n', rfl⟩ := hl
    exact ⟨_, by rw [upd_cons nxF, upd_cons ndF, upd_cons nF'], n', rfl⟩
  have fin : ∀ (h₀' h' : Heap) (od' lo : Obj), News h₀' L h' ((x, instObj 88 dx) :: (dx, cont w t1 t2 t3 t4 mx (.ref f) d) :: (d, od') :: upd lF lo (off d news)) → News h₀' L h' (upd lF lo (upd d od' news)) := fun h₀' h' od' lo N' => News.sub N' fun q hq => by
    rcases mem_upd.mp hq with ⟨rfl, _⟩ | ⟨h, n⟩
    · exact .tail _ (.tail _ (.tail _ (upd_eq lF')))
    · rcases mem_upd.mp h with ⟨rfl, _⟩ | ⟨h, n2⟩
      · exact .tail _ (.tail _ (.head _))
      · exact .tail _ (.tail _ (.tail _ (upd_ne (mem_off.mpr ⟨h, n2⟩) n)))
  have fin0 : ∀ (h₀' h' : Heap) (od' : Obj), News h₀' L h' ((x, instObj 88 dx) :: (dx, cont w t1 t2 t3 t4 mx (.ref f) d) :: (d, od') :: off d news) → News h₀' L h' (upd lF (listOf (vs ++ []).toArray nF) (upd d od' news)) := fun h₀' h' od' N' => fin h₀' h' od' _ (News.sub N' fun q hq => by
    simp only [List.mem_cons] at hq
    rcases hq with rfl | rfl | rfl | hq
    · exact .head _
    · exact .tail _ (.head _)
    · exact .tail _ (.tail _ (.head _))
    · rw [List.append_nil] at hq
      rcases mem_upd.mp hq with ⟨rfl, _⟩ | ⟨h, _⟩
      · exact .tail _ (.tail _ (.tail _ lF'))
      · exact .tail _ (.tail _ (.tail _ h)))

  cases e1 : valueAt kvs k with
  | some v0 =>
    obtain ⟨p, t', v'', rfl, hp⟩ := hT k v0 (mem_of_valueAt e1)
    refine del_hit X B T XB TB CB D hA hf hke hh hdp hdep hun F N0 hod lo hlen ne1 ne2 ne3 hr hfn' (hD p k t' v'' hp) e1 fun h' h₀' tk od' rest' T' B' D' F' N' hd' hR => ?_
    obtain ⟨n', rfl⟩ := hR
    have := q h' h₀' tk od' n' T' B' D' F' (by have e2 : fellD kvs k = some (k, .ref p) := by (unfold fellD; rw [e1]; rfl)
                                               rw [e2]; exact fin _ _ _ _ N') hd'
    exact this
  | none =>
    rw [e1] at hv; exact absurd hv (by decide)
theorem deletedL {Q : Value → Shared → Prop} (X : (hd.heap_39 w.params).In h₀) (B : Below A₀ base outer h₀) (T : Top topProg loose mean mg mb h₀) (XB : (hd.heap_39 w.params).In base) (TB : Top topProg loose mean mg mb base) (CB : CodeB base) (D : KtsDicts (outer.filterMap (·.frame)) h₀)
  (hA : A.frames = some (env :: outer)) (hf : env.frame = some L) (hke : env.scope.kind = .function) (hh : A.handled = none) (hdp : dp ≤ 900) (hdep : A.depth ≤ dp) (hun : A.units ≤ 10 * dp)
  (F : Fr h₀ L s.heap m) (N : News h₀ L s.heap news) (I1 : (x, instObj 88 dx) ∈ news) (I2 : (dx, cont w t1 t2 t3 t4 mx (.ref f) d) ∈ news) (I3 : (d, od) ∈ news) (hod : od.IsDictOf (PySem.intKind PySem.Challenge.rw_aj5039_01.row.prog w) kvs) (lo : (d == sysModules) = false) (hlen : kvs.length ≤ 10)
  (HD : DispL w dp f must lF vs key) (hm : ∀ q ∈ must, q ∈ news) (hmd : ∀ q ∈ must, q.1 ≠ d) (hfn : (f, ({ cls := .type "function", data := .func fd } : Obj)) ∈ must) (hlF : (lF, listOf vs.toArray nF) ∈ must) (hT : Tups news kvs) (ne3 : dx ≠ d) 
  (q : ∀ h' h₀' tk od' n', KtsTurn (outer.filterMap (·.frame)) h₀ h₀' → Below A₀ base outer h₀' → KtsDicts (outer.filterMap (·.frame)) h₀' → Fr h₀' L h' m → News h₀' L h' (upd lF (listOf (vs ++ fellL key (fellD kvs k)).toArray n') (upd d od' news)) → od'.IsDictOf (PySem.intKind PySem.Challenge.rw_aj5039_01.row.prog w) (without kvs k) → Q (.bool (valueAt kvs k).isSome) { s with heap := h', toks := tk }) :
  wpAny (model PySem.Challenge.rw_aj5039_01.row.prog w) A (call (.ref 106) [.ref x, .int k t]) Q E s := by
  have ne1 : x ≠ dx := News.ne N I1 I2 fun e => nomatch congrArg Obj.data e
  have ne2 : x ≠ d := News.ne N I1 I3 fun e => dict_ne_plain hod e.symm
  have nxF : x ≠ lF := News.ne N I1 (hm _ hlF) fun e => nomatch congrArg Obj.data e
  have ndF : dx ≠ lF := News.ne N I2 (hm _ hlF) fun e => nomatch congrArg Obj.data e
  have nF' : d ≠ lF := fun e => hmd _ hlF e.symm
  have N0 : News h₀ L s.heap ((x, instObj 88 dx) :: (dx, cont w t1 t2 t3 t4 mx (.ref f) d) :: (d, od) :: off d news) := News.sub N fun q hq => by
    simp only [List.mem_cons] at hq
    rcases hq with rfl | rfl | rfl | hq
    · exact I1
    · exact I2
    · exact I3
    · exact (mem_off.mp hq).1
  have hr : ∀ p ∈ off d news, p.1 ≠ d := fun q hq => (mem_off.mp hq).2
  have hfn' := mem_off.mpr ⟨hm _ hfn, hmd _ hfn⟩
  have lF' := mem_off.mpr ⟨hm _ hlF, hmd _ hlF⟩
  have hD : ∀ p k' t' v'', (p, tup2 k' t' v'') ∈ news → ∀ od', DispC w dp f p ((x, instObj 88 dx) :: (dx, cont w t1 t2 t3 t4 mx (.ref f) d) :: (d, od') :: off d news) (fun l => ∃ rest', l = (x, instObj 88 dx) :: (dx, cont w t1 t2 t3 t4 mx (.ref f) d) :: (d, od') :: rest' ∧ ∃ n', rest' = upd lF (listOf (vs ++ fellL key (some (k', .ref p))).toArray n') (off d news)) := fun p k' t' v'' hp od' => by
    have np : p ≠ d := News.ne N hp I3 fun e => dict_ne_seq hod e.symm
    refine DispC.mono (HD _ p k' t' v'' (fun q hq => .tail _ (.tail _ (.tail _ (mem_off.mpr ⟨hm q hq, hmd q hq⟩)))) (.tail _ (.tail _ (.tail _ (mem_off.mpr ⟨hp, np⟩))))) fun l hl => ?_
    obtain ⟨n', rfl⟩ := hl
    exact ⟨_, by rw [upd_cons nxF, upd_cons ndF, upd_cons nF'], n', rfl⟩
  have fin : ∀ (h₀' h' : Heap) (od' lo : Obj), News h₀' L h' ((x, instObj 88 dx) :: (dx, cont w t1 t2 t3 t4 mx (.ref f) d) :: (d, od') :: upd lF lo (off d news)) → News h₀' L h' (upd lF lo (upd d od' news)) := fun h₀' h' od' lo N' => News.sub N' fun q hq => by
    rcases mem_upd.mp hq with ⟨rfl, _⟩ | ⟨h, n⟩
    · exact .tail _ (.tail _ (.tail _ (upd_eq lF')))
    · rcases mem_upd.mp h with ⟨rfl, _⟩ | ⟨h, n2⟩
      · exact .tail _ (.tail _ (.head _))
      · exact .tail _ (.tail _ (.tail _ (upd_ne (mem_off.mpr ⟨h, n2⟩) n)))
  have fin0 : ∀ (h₀' h' : Heap) (od' : Obj), News h₀' L h' ((x, instObj 88 dx) :: (dx, cont w t1 t2 t3 t4 mx (.ref f) d) :: (d, od') :: off d news) → News h₀' L h' (upd lF (listOf (vs ++ []).toArray nF) (upd d od' news)) := fun h₀' h' od' N' => fin h₀' h' od' _ (News.sub N' fun q hq => by
    simp only [List.mem_cons] at hq
    rcases hq with rfl | rfl | rfl | hq
    · exact .head _
    · exact .tail _ (.head _)
    · exact .tail _ (.tail _ (.head _))
    · rw [List.append_nil] at hq
      rcases mem_upd.mp hq with ⟨rfl, _⟩ | ⟨h, _⟩
      · exact .tail _ (.tail _ (.tail _ lF'))
      · exact .tail _ (.tail _ (.tail _ h)))

  cases e1 : valueAt kvs k with
  | some v0 =>
    obtain ⟨p, t', v'', rfl, hp⟩ := hT k v0 (mem_of_valueAt e1)
    refine deleted_hit X B T XB TB CB D hA hf hke hh hdp hdep hun F N0 hod lo hlen ne1 ne2 ne3 hr hfn' (hD p k t' v'' hp) e1 fun h' h₀' tk od' rest' T' B' D' F' N' hd' hR => ?_
    obtain ⟨n', rfl⟩ := hR
    have := q h' h₀' tk od' n' T' B' D' F' (by have e2 : fellD kvs k = some (k, .ref p) := by (unfold fellD; rw [e1]; rfl)
                                               rw [e2]; exact fin _ _ _ _ N') hd'
    rw [e1] at this; exact this
  | none =>
    refine deleted_miss X B T XB TB CB D hA hf hke hh hdp hdep hun F N0 hod lo hlen ne1 ne2 ne3 hr e1 fun h' h₀' tk T' B' D' F' N' => ?_
    have := q h' h₀' tk od nF T' B' D' F' (by have e2 : fellD kvs k = none := by (unfold fellD; rw [e1]; rfl)
                                              rw [e2]; exact fin0 _ _ _ N') (by rw [without_miss e1]; exact hod)
    rw [e1] at this; exact this
end
end Mine
end
section
open PySem PySem.W PyProof.Rows PySem.Calls PyProof.V PySem.Spec
set_option maxRecDepth 100000
namespace Mine
section
variable {prog : Program} {w : World} {A₀ A : Around} {s : Shared} {base h₀ g₀ : Heap} {outer : List Env} {L : Addr} {m : Str → Option Value} {env : Env} {news : List (Addr × Obj)} {K : Frag} {p : Program} {loose : List Str} {mean : ExcName → Option Value} {mg mb : Str → Option Value}
  {R : Result → Shared → Prop} {name qual : Str} {params : Arguments} {body : List Stmt} {scope : Scope} {cl : List (Str × Addr)} {doc pm ctv : Value} {c' f : Addr} {args : Args} {binds : List (Str × Value)}
theorem callTN (B : Below A₀ base outer h₀) (F : Fr h₀ L s.heap m) (X₀ : K.In h₀) (N : News h₀ L s.heap news) (T : Top p loose mean mg mb h₀) (XB : K.In base) (TB : Top p loose mean mg mb base) (D : KtsDicts (outer.filterMap (·.frame)) h₀)
    (T0 : KtsTurn (outer.filterMap (·.frame)) g₀ h₀) (hA : A.frames = some (env :: outer)) (hf : env.frame = some L) (hke : env.scope.kind = .function)
    (hm : (f, fnMade name qual params body scope cl doc pm c' ctv) ∈ news) (hcd : s.heap.CodeRec (.ref c') qual) (hroom : A.depth < recursionLimit)
    (hbind : BindsTo s (fnX name qual params body scope cl .none .none doc pm none (.ref c') ctv) args binds) (hloc : ∀ y ∈ binds, scope.names.lookup y.1 = some .local)
    (h : ∀ g L' h₁, Fr h₀ L g m → Fr g L' h₁ (fun y => binds.reverse.lookup y) → News g L' h₁ news → Below A base (env :: outer) g → K.In g → Top p loose mean mg mb g → KtsDicts ((env :: outer).filterMap (·.frame)) g → (∀ p ∈ news, p.1 < L') →
      wpAny (model prog w) (A.deeper (envX qual scope L' f (.ref c') cl)) (execs body (envX qual scope L' f (.ref c') cl))
        (fun fl s' => LeaveS ((env :: outer).filterMap (·.frame)) A₀ base outer K p loose mean mg mb g₀ h₀ L m g R (match fl with | .ret v => v | _ => .none) s')
        (fun e s' => wpAny (model prog w) (A.deeper (envX qual scope L' f (.ref c') cl)) (leaving (envX qual scope L' f (.ref c') cl) e) (fun _ s'' => R (.error e) s'') (fun e' s'' => R (.error e') s'') s')
        { s with heap := h₁, toks := s.toks + binds.length })
    (hcell : ∀ x ∈ scope.names, x.2 ≠ .cell) (hco : scope.isCoroutine = false) (hgen : scope.isGenerator = false) (hk : scope.kind = .function) : codeAny (model prog w) A (.call (.ref f) args) R s :=
  callT (cl := cl) B F X₀ N T XB TB D T0 hA hf hke (N _ hm).1 rfl hcd hroom hbind hloc h hcell hco hgen hk
end
section
variable {w : World} {mg mb : Str → Option Value} {mean : ExcName → Option Value} {A₀ A : Around} {base h₀ : Heap} {outer : List Env} {env : Env} {L : Addr} {m : Str → Option Value} {s : Shared} {x dx d f lF pv dp : Nat} {k key : Int} {t t1 t2 t3 t4 tp : Tok} {mx : Int} {v vp : Value} {od : Obj} {kvs : List (Int × Value)} {news must : List (Addr × Obj)} {E : Value → Shared → Prop} {fd : FuncData} {vs : List Value} {nF : Nat}
theorem item_one {prog : Program} {value slice : PySem.Expr} {E : Value → Shared → Prop} {l : Addr} {n : Nat} {u : Tok} {v : Value} {Q : Value → Shared → Prop} (N : News h₀ L s.heap news) (hm : (l, listOf #[v] n) ∈ news) (h : Q v s)
    (hs : subscripted slice false (.ref l) (.int 0 u) = operate [.ref l, .int 0 u] (getItem (.ref l) (.int 0 u)) := by with_unfolding_all rfl) :
    wpAny (model prog w) A (subscriptTail value slice (.ref l) (.int 0 u)) Q E s :=
  have hl : s.heap.IsList l #[v] := ⟨_, (N _ hm).1, rfl, n, rfl⟩
  tail_any hl.typeIs slot_list_getitem.lookup (wpAny_getItem_list hl (by decide) (by decide) rfl h) hs
theorem setLT {Q : Unit → Shared → Prop} (X : (hd.heap_39 w.params).In h₀) (B : Below A₀ base outer h₀) (T : Top topProg loose mean mg mb h₀) (XB : (hd.heap_39 w.params).In base) (TB : Top topProg loose mean mg mb base) (CB : CodeB base) (D : KtsDicts (outer.filterMap (·.frame)) h₀)
  (hA : A.frames = some (env :: outer)) (hf : env.frame = some L) (hke : env.scope.kind = .function) (hh : A.handled = none) (hdp : dp ≤ 900) (hdep : A.depth ≤ dp) (hun : A.units ≤ 10 * dp)
  (F : Fr h₀ L s.heap m) (N : News h₀ L s.heap news) (I1 : (x, instObj 88 dx) ∈ news) (I2 : (dx, cont w t1 t2 t3 t4 mx (.ref f) d) ∈ news) (I3 : (d, od) ∈ news) (hod : od.IsDictOf (PySem.intKind PySem.Challenge.rw_aj5039_01.row.prog w) kvs) (lo : (d == sysModules) = false) (hlen : kvs.length ≤ 10)
  (HD : DispL w dp f must lF vs key) (hm : ∀ q ∈ must, q ∈ news) (hmd : ∀ q ∈ must, q.1 ≠ d) (hfn : (f, ({ cls := .type "function", data := .func fd } : Obj)) ∈ must) (hlF : (lF, listOf vs.toArray nF) ∈ must) (hT : Tups news kvs) (ne3 : dx ≠ d) (hpv : (pv, tup2 k tp vp) ∈ news)
  (q : ∀ h' h₀' tk od' n', KtsTurn (outer.filterMap (·.frame)) h₀ h₀' → Fr h₀' L h' m → News h₀' L h' (upd lF (listOf (vs ++ fellL key (fellO mx kvs k (.ref pv))).toArray n') (upd d od' news)) → Below A₀ base outer h₀' → (hd.heap_39 w.params).In h₀' → Top topProg loose mean mg mb h₀' → KtsDicts (outer.filterMap (·.frame)) h₀' → od'.IsDictOf (PySem.intKind PySem.Challenge.rw_aj5039_01.row.prog w) (setD mx kvs k (.ref pv)) → Q () { s with heap := h', toks := tk }) :
  wpAny (model PySem.Challenge.rw_aj5039_01.row.prog w) A (setItem (.ref x) (.int k t) (.ref pv)) Q E s :=
  setL X B T XB TB CB D hA hf hke hh hdp hdep hun F N I1 I2 I3 hod lo hlen HD hm hmd hfn hlF hT ne3 rfl hpv fun h' h₀' tk od' n' T' B' D' F' N' hd' => q h' h₀' tk od' n' T' F' N' B' (XB.keeps B'.stays) (TB.keeps B'.stays) D' hd'
end
local macro_rules | `(tactic| k_room) => `(tactic| first | ((try simp only [depth_under_make, depth_under_kw, depth_in1, depth_deeper, depth_caller, depth_mark, recursionLimit]); first | decide | omega))
local macro_rules | `(tactic| k_units) => `(tactic| first | exact Nat.le_of_ble_eq_true rfl | ((try simp only [units_in1, units_deeper, Around.mark_units, cLine]); omega))
local macro_rules | `(tactic| k_all) => `(tactic| assumption)
local macro_rules | `(tactic| k_enter) => `(tactic| first
  | (refine' callT0K ?k1 ?k2 ?k3 ?k4 ?k5 ?kA ?kF ?kK ?k6 ?k7 ?k8 ?k9 ?kB ?_ ?c5 ?c2 ?c3 ?c4; (case kA => exact rfl); (case kF => exact rfl); (case kK => exact rfl); (case k2 => k_asm); (case k1 => assumption); (case k3 => k_asm); (case k4 => k_asm); (case k5 => k_asm); (case k6 => k_is); (case k7 => k_is); (case k8 => k_room); (case k9 => first | exact binds_K (by k_in) rfl (by k_is) rfl rfl rfl | exact BindsTo.of_eq rfl); (case kB => exact locs rfl); (case c2 => exact rfl); (case c3 => exact rfl); (case c4 => exact rfl); (case c5 => decide); k_whole; intro g' L' h' FG' F' N' B' X' T' D' l1; clear l1; (try dsimp only); (try k_fold))
  | (refine' callTK ?k1 ?k2 ?k3 ?k4 ?k5 ?XB ?TB ?D ?T0 ?kA ?kF ?kK ?k6 ?k7 ?k8 ?k9 ?kB ?_ ?c5 ?c2 ?c3 ?c4; (case kA => first | exact rfl | assumption | exact Around.frames_deeper (Below.stack (by assumption))); (case kF => first | exact rfl | assumption); (case kK => first | exact rfl | assumption); (case k2 => k_asm); (case k1 => assumption); (case XB => assumption); (case TB => assumption); (case D => assumption); (case T0 => first | assumption | exact KtsTurn.refl); (case k3 => k_asm); (case k4 => k_asm); (case k5 => k_asm); (case k6 => k_is); (case k7 => k_is); (case k8 => k_room); (case k9 => first | exact binds_K (by k_in) rfl (by k_is) rfl rfl rfl | exact BindsTo.of_eq rfl); (case kB => exact locs rfl); (case c2 => exact rfl); (case c3 => exact rfl); (case c4 => exact rfl); (case c5 => decide); k_whole; intro g' L' h' FG' F' N' B' X' T' D' l1; clear l1; (try dsimp only); (try k_fold)))
local macro_rules | `(tactic| walk_at "noteFrame ref") => `(tactic| (k_here; (rename Heap.NewExc _ _ _ _ => nxX); (with_reducible show wpAny _ _ (noteFrame _ _) (fun _ s₂ => wpAny _ _ (setFlight _ none) (fun _ s₃ => wpAny _ _ (handleBy _ _ (ExceptHandler.ExceptHandler (some (Expr.Name ("KeyError" : Str) _)) none _ _ :: _)) _ _ s₃) _ s₂) _ _); k_dflt (refine' caught_own (T' := "KeyError") ?K ?hx ?F ?N ?XB ?TB ?D ?T0 ?ex PyProof.Rows.Boot.«KeyError» ?hn kr_isExc_KeyError kr_notTuple_KeyError ?hs ?_; (case hx => exact nxX); (case F => assumption); (case N => assumption); (case K => assumption); (case XB => assumption); (case TB => assumption); (case D => assumption); (case T0 => first | assumption | exact KtsTurn.refl); (case hs => kts_sub); (case ex => k_is); (case hn => decide); k_whole); clear nxX; intro h' g' T' F' N' K' X' P' D'; (try k_sweep)))
local macro_rules | `(tactic| walk_at "call builtin:dict.pop") => `(tactic| (k_here; (with_reducible show wpAny _ _ (call (Value.builtin "dict.pop") [Value.ref _, Value.int _ _]) _ _ _); k_dflt (first
  | (refine' lru_pop ?F ?N ?U ?d ?v ?z ?_; (case F => k_asm); (case N => k_asm); (case U => k_updF); (case d => k_asm); (case v => assumption); (case z => first | (rw [sizeLine_eq]; omega) | (rw [sizeLine_eq, List.length_append, List.length_singleton]; omega)); k_whole; intro h' o' F' N' hd'; (try dsimp only at N'))
  | (refine' lru_pop_miss ?hh ?N ?p ?d ?lo ?v ?_; (case hh => first | exact rfl | assumption); (case N => k_asm); (case p => k_mem); (case d => k_asm); (case lo => assumption); (case v => assumption); k_whole; intro h' e' x'))))
local macro_rules | `(tactic| walk_at "setItem ref int") => `(tactic| (k_here; k_dflt (refine' lru_set_new ?F ?N ?U ?d ?v ?z ?_; (case F => k_asm); (case N => k_asm); (case U => k_updF); (case d => k_asm); (case v => first | assumption | exact without_none); (case z => first | (rw [sizeLine_eq]; omega) | (rw [sizeLine_eq]; exact Nat.le_trans (List.length_filter_le _ _) (by omega))); k_whole); intro h' o' F' N' hd'; (try dsimp only at N')))
local macro_rules | `(tactic| walk_at "call builtin:len") => `(tactic| (k_here; (with_reducible show wpAny _ _ (call (Value.builtin "len") [Value.ref _]) _ _ _); k_dflt (refine kda_len (knd := PySem.intKind _ _) (by k_asm) (by k_mem) (by k_asm) (by assumption) (by first | omega | (rw [List.length_append, List.length_singleton]; omega)) ?_)))
local macro_rules | `(tactic| walk_at "call builtin:iter") => `(tactic| (k_here; (with_reducible show wpAny _ _ (call (Value.builtin "iter") [Value.ref _]) _ _ _); k_dflt (refine kdk_iter (knd := PySem.intKind _ _) (by k_asm) (by k_asm) (by k_mem) (by k_asm) (by assumption) ?_); intro D' h' o' ep' F' N' l1 hi' ha'; (try k_lt l1)))
local macro_rules | `(tactic| walk_at "call builtin:next") => `(tactic| (k_here; (with_reducible show wpAny _ _ (call (Value.builtin "next") [Value.ref _]) _ _ _); k_dflt (refine' kdk_next (knd := PySem.intKind _ _) ?F ?N ?U ?i ?a ?p ?x ?_; (case F => k_asm); (case N => k_asm); (case U => k_updF); (case i => k_asm); (case a => k_asm); (case p => k_mem); (case x => assumption); intro h' o' y' hk' F' N' hi'; obtain ⟨t', ey'⟩ := PySem.Value.isInt_shape hk'; subst ey'); (try dsimp only at N')))
local macro_rules | `(tactic| walk_at "delItem ref int") => `(tactic| (k_here; (with_reducible show wpAny _ _ (delItem (Value.ref _) _) _ _ _); k_dflt (refine' own_delItem ?F ?X ?I ?hQ ?hS ?hF ?_; (case F => k_asm); (case X => k_asm); (case I => k_inst); (case hS => k_is); (case hF => k_is); (case hQ => k_is); k_whole)))
local macro_rules | `(tactic| walk_at "call type:set") => `(tactic| (k_here; (with_reducible show wpAny _ _ (call (Value.type "set") [Value.ref _]) _ _ _); k_dflt (first
  | (refine' lru_keys_set ?hh ?F ?N ?v ?p ?d ?z ?_; (case hh => first | exact rfl | assumption); (case F => k_asm); (case N => k_asm); (case v => k_mem); (case p => k_mem); (case d => k_asm); (case z => omega); k_whole; intro D' h' tk' so' F' N' l1 hs'; (try k_lt l1))
  | (refine' lru_list_set ?hh ?F ?N ?v ?i ?n ?z ?_; (case hh => first | exact rfl | assumption); (case F => k_asm); (case N => k_asm); (case v => k_mem); (case i => k_asm); (case n => assumption); (case z => omega); k_whole; intro D' h' tk' so' F' N' l1 hs'; (try k_lt l1)))))
local macro_rules | `(tactic| walk_at "call builtin:dict.pop") => `(tactic| (k_here; dsimp only [List.cons_append, List.nil_append]))
local macro_rules | `(tactic| walk_at "call builtin:list.append") => `(tactic| (k_here; dsimp only [List.cons_append, List.nil_append]))
local macro_rules | `(tactic| walk_at "call ref") => `(tactic| (k_here; k_dflt (refine wpAny_call ?_; refine' kla_code ?k1 ?k2 ?k3 ?k4 ?k5 ?kA ?kF ?kK ?k6 ?k7 ?k8 ?k9 ?kB ?_ ?c2 ?c3 ?c4 ?c5; (case kA => first | exact rfl | assumption); (case kF => first | exact rfl | assumption); (case kK => first | exact rfl | assumption); (case k1 => assumption); (case k2 => k_asm); (case k3 => k_asm); (case k4 => k_asm); (case k5 => k_asm); (case k6 => k_mem); (case k7 => exact codeRec_news (by k_asm) (by k_mem) (by assumption) (by assumption)); (case k8 => k_room); (case k9 => exact rfl); (case c5 => decide); (case kB => exact locs rfl); (case c2 => exact rfl); (case c3 => exact rfl); (case c4 => exact rfl); k_whole; intro g' L' h' FG' F' N' B' X' T'; (try dsimp only); (try k_fold); (try (conv => arg 3; arg 1; whnf)))))
local macro_rules | `(tactic| walk_at "ite") => `(tactic| (k_here; first | refine ite_pos (by assumption) ?_ | refine ite_neg (ne_true_of (by assumption)) ?_ | refine ite_neg (by simp; done) ?_ | refine ite_pos (by simp; done) ?_ | refine ite_neg (by simp; omega) ?_))

local macro_rules | `(tactic| k_mem) => `(tactic| assumption)
local macro_rules | `(tactic| lcg_sub) => `(tactic| first | exact (fun _ h => h) | exact (fun _ h => .tail _ (h)) | exact (fun _ h => .tail _ (.tail _ (h))) | exact (fun _ h => .tail _ (.tail _ (.tail _ (h)))) | exact (fun _ h => .tail _ (.tail _ (.tail _ (.tail _ (h))))) | exact (fun _ h => .tail _ (.tail _ (.tail _ (.tail _ (.tail _ (h)))))) | exact (fun _ h => .tail _ (.tail _ (.tail _ (.tail _ (.tail _ (.tail _ (h))))))) | exact (fun _ h => .tail _ (.tail _ (.tail _ (.tail _ (.tail _ (.tail _ (.tail _ (h)))))))) | exact (fun _ h => .tail _ (.tail _ (.tail _ (.tail _ (.tail _ (.tail _ (.tail _ (.tail _ (h))))))))) | (refine List.forall_mem_cons.mpr ⟨?la, ?lb⟩; (case la => k_mem); (case lb => lcg_sub)))

local macro_rules | `(tactic| walk_at "call ref") => `(tactic| (k_here; k_dflt (refine wpAny_call ?_; refine' callTN ?k1 ?k2 ?k3 ?k4 ?k5 ?XB ?TB ?D ?T0 ?kA ?kF ?kK ?k6 ?k7 ?k8 ?k9 ?kB ?_ ?c5 ?c2 ?c3 ?c4; (case kA => first | exact rfl | assumption); (case kF => first | exact rfl | assumption); (case kK => first | exact rfl | assumption); (case k1 => assumption); (case k2 => k_asm); (case k3 => k_asm); (case k4 => k_asm); (case k5 => k_asm); (case XB => assumption); (case TB => assumption); (case D => assumption); (case T0 => first | assumption | exact KtsTurn.refl); (case k6 => k_mem); (case k7 => exact codeRec_news (by k_asm) (by k_mem) (by assumption) (by assumption)); (case k8 => k_room); (case k9 => exact BindsTo.of_eq rfl); (case c5 => decide); (case kB => exact locs rfl); (case c2 => exact rfl); (case c3 => exact rfl); (case c4 => exact rfl); k_whole; intro g' L' h' FG' F' N' B' X' T' D' l1; clear l1; (try dsimp only); (try k_fold); (try (conv => arg 3; arg 1; whnf)))))
local macro_rules | `(tactic| walk_at "subscriptTail") => `(tactic| (k_here; (with_reducible show wpAny _ _ (subscriptTail _ _ (Value.ref _) (Value.int _ _)) _ _ _); k_dflt (refine' item_one ?N ?m ?_ ?s; (case N => k_asm); (case m => k_mem); (case s => with_unfolding_all rfl); k_whole)))
local macro_rules | `(tactic| walk_at "setItem ref int") => `(tactic| (k_here; k_dflt (refine' setLT ?X ?B ?T ?XB ?TB ?CB ?D ?hA ?hf ?hke ?hh ?hdp ?hdep ?hun ?F ?N ?I1 ?I2 ?I3 ?hod ?lo ?hlen ?HD ?hm ?hmd ?hfn ?hlF ?hT ?ne3 ?hpv ?_; (case HD => assumption); (case X => k_asm); (case B => assumption); (case T => k_asm); (case XB => assumption); (case TB => assumption); (case CB => assumption); (case D => assumption); (case hA => first | exact rfl | assumption | exact Around.frames_deeper (Below.stack (by assumption))); (case hf => first | exact rfl | assumption); (case hke => first | exact rfl | assumption); (case hh => first | exact rfl | assumption); (case hdp => assumption); (case hdep => k_room); (case hun => k_units); (case F => k_asm); (case N => k_asm); (case I1 => assumption); (case I2 => assumption); (case I3 => assumption); (case hod => assumption); (case lo => assumption); (case hlen => assumption); (case hm => assumption); (case hmd => assumption); (case hfn => assumption); (case hlF => assumption); (case hT => assumption); (case ne3 => assumption); (case hpv => assumption); k_whole; intro h' g' tk' od' n' T' F' N' B' X' P' D' hd')))
section
variable {w : World} {mg mb : Str → Option Value} {mean : ExcName → Option Value} {A₀ A : Around} {base h₀ : Heap} {outer : List Env} {env : Env} {L : Addr} {m : Str → Option Value} {s : Shared} {Q : Value → Shared → Prop} {E : Value → Shared → Prop}
  {x dx d f fM cM cT cB lT lF pv dp Lw fa : Nat} {k key : Int} {t t1 t2 t3 t4 tp tkey tq : Tok} {mx : Int} {v vp dc pm ctM : Value} {od ocM oT oB : Obj} {vscM : Array Value} {kvs : List (Int × Value)} {news must : List (Addr × Obj)} {fd : FuncData} {vs : List Value} {nF nT : Nat}
set_option maxHeartbeats 8000000 in
theorem mov_same (X : (hd.heap_39 w.params).In h₀) (B : Below A₀ base outer h₀) (T : Top topProg loose mean mg mb h₀) (XB : (hd.heap_39 w.params).In base) (TB : Top topProg loose mean mg mb base) (CB : CodeB base) (D : KtsDicts (outer.filterMap (·.frame)) h₀)
  (hA : A.frames = some (env :: outer)) (hf : env.frame = some L) (hke : env.scope.kind = .function) (hh : A.handled = none) (hdep : A.depth + 5 ≤ dp) (hun : A.units + 50 ≤ 10 * dp)
  (F : Fr h₀ L s.heap m) (N : News h₀ L s.heap news) (ip : (pv, tup2 k tp vp) ∈ news) (iM : (fM, movObj Lw fa cT cB dc pm cM ctM) ∈ news) (iC : (cM, ocM) ∈ news) (iT : (cT, oT) ∈ news) (iB : (cB, oB) ∈ news) (iL : (lT, listOf #[.int key tkey] nT) ∈ news)
  (hoc : ocM.data = .fields vscM) (hq : vscM[1]? = some (.str (movQual Lw fa) tq)) (hcT : oT.data = .cell (some (.ref lT))) (hcB : oB.data = .cell (some (.ref x)))
  (hdp : dp ≤ 900) (I1 : (x, instObj 88 dx) ∈ news) (I2 : (dx, cont w t1 t2 t3 t4 mx (.ref f) d) ∈ news) (I3 : (d, od) ∈ news) (hod : od.IsDictOf (PySem.intKind PySem.Challenge.rw_aj5039_01.row.prog w) kvs) (lo : (d == sysModules) = false) (hlen : kvs.length ≤ 10)
  (HD : DispL w dp f must lF vs key) (hm : ∀ q ∈ must, q ∈ news) (hmd : ∀ q ∈ must, q.1 ≠ d) (hfn : (f, ({ cls := .type "function", data := .func fd } : Obj)) ∈ must) (hlF : (lF, listOf vs.toArray nF) ∈ must) (hT : Tups news kvs) (ne3 : dx ≠ d) (hk : k = key)
  (q : ∀ h' h₀' tk, KtsTurn (outer.filterMap (·.frame)) h₀ h₀' → Below A₀ base outer h₀' → KtsDicts (outer.filterMap (·.frame)) h₀' → Fr h₀' L h' m → News h₀' L h' news → Q .none { s with heap := h', toks := tk }) :
  wpAny (model PySem.Challenge.rw_aj5039_01.row.prog w) A (call (.ref fM) [.ref pv]) Q E s := by
  revert X
  k_fill
  intro X
  have codeHd : CodeHd h₀ 110 108 := CodeHd.keeps CB B.stays
  subst hk
  k_steps
  all_goals first | (exfalso; exact hk (by assumption)) | exact q _ _ _ (by first | assumption | exact KtsTurn.refl) (by assumption) (by assumption) (by assumption) (by assumption)
set_option maxHeartbeats 8000000 in
theorem mov_other (X : (hd.heap_39 w.params).In h₀) (B : Below A₀ base outer h₀) (T : Top topProg loose mean mg mb h₀) (XB : (hd.heap_39 w.params).In base) (TB : Top topProg loose mean mg mb base) (CB : CodeB base) (D : KtsDicts (outer.filterMap (·.frame)) h₀)
  (hA : A.frames = some (env :: outer)) (hf : env.frame = some L) (hke : env.scope.kind = .function) (hh : A.handled = none) (hdep : A.depth + 5 ≤ dp) (hun : A.units + 50 ≤ 10 * dp)
  (F : Fr h₀ L s.heap m) (N : News h₀ L s.heap news) (ip : (pv, tup2 k tp vp) ∈ news) (iM : (fM, movObj Lw fa cT cB dc pm cM ctM) ∈ news) (iC : (cM, ocM) ∈ news) (iT : (cT, oT) ∈ news) (iB : (cB, oB) ∈ news) (iL : (lT, listOf #[.int key tkey] nT) ∈ news)
  (hoc : ocM.data = .fields vscM) (hq : vscM[1]? = some (.str (movQual Lw fa) tq)) (hcT : oT.data = .cell (some (.ref lT))) (hcB : oB.data = .cell (some (.ref x)))
  (hdp : dp ≤ 900) (I1 : (x, instObj 88 dx) ∈ news) (I2 : (dx, cont w t1 t2 t3 t4 mx (.ref f) d) ∈ news) (I3 : (d, od) ∈ news) (hod : od.IsDictOf (PySem.intKind PySem.Challenge.rw_aj5039_01.row.prog w) kvs) (lo : (d == sysModules) = false) (hlen : kvs.length ≤ 10)
  (HD : DispL w dp f must lF vs key) (hm : ∀ q ∈ must, q ∈ news) (hmd : ∀ q ∈ must, q.1 ≠ d) (hfn : (f, ({ cls := .type "function", data := .func fd } : Obj)) ∈ must) (hlF : (lF, listOf vs.toArray nF) ∈ must) (hT : Tups news kvs) (ne3 : dx ≠ d) (hk : k ≠ key)
  (q : ∀ h' h₀' tk od' n', KtsTurn (outer.filterMap (·.frame)) h₀ h₀' → Below A₀ base outer h₀' → KtsDicts (outer.filterMap (·.frame)) h₀' → Fr h₀' L h' m → News h₀' L h' (upd lF (listOf (vs ++ fellL key (fellO mx kvs k (.ref pv))).toArray n') (upd d od' news)) → od'.IsDictOf (PySem.intKind PySem.Challenge.rw_aj5039_01.row.prog w) (setD mx kvs k (.ref pv)) → Q .none { s with heap := h', toks := tk }) :
  wpAny (model PySem.Challenge.rw_aj5039_01.row.prog w) A (call (.ref fM) [.ref pv]) Q E s := by
  revert X
  k_fill
  intro X
  have codeHd : CodeHd h₀ 110 108 := CodeHd.keeps CB B.stays
  have hk1 : decide (k ≠ key) = true := by simpa using hk
  have hk2 : (k != key) = true := by simpa using hk
  have hk3 : (!decide (k = key)) = true := by simpa using hk
  have hk4 : (!(k == key)) = true := by simpa using hk
  k_steps
  all_goals first | (exfalso; exact hk (by assumption)) | exact q _ _ _ _ _ (by first | assumption | exact KtsTurn.refl) (by assumption) (by assumption) (by assumption) (by assumption) (by assumption)
end
end Mine
end
section
open PySem PySem.W PyProof.Rows PySem.Calls PyProof.V PySem.Spec
set_option maxRecDepth 100000
namespace Mine
structure St where
  (L fa lN lS lT lF lW cB fB dxB xB dB cM fM dxF xF dF cO fO dxO xO dO : Nat)
  (oB oF oT oW ocB ocM ocO : Obj)
  (vsN : List Value) (nN nS : Nat)
  (s1 s2 : Int)
  (ts1 ts2 tB1 tB2 tB3 tB4 tF1 tF2 tF3 tF4 tO1 tO2 tO3 tO4 tqB tqM tqO : Tok)
  (pm dc ctB ctM ctO : Value)
  (vcB vcM vcO : Array Value)
@[irreducible] def Led (w : World) (S : St) (odF odB odO : Obj) (vF : List Value) (nF : Nat) (vW : List Value) (nW : Nat) (tv : Value) (nT : Nat) (prs : List (Addr × Obj)) : List (Addr × Obj) :=
  (S.L + 1, S.oB) :: (S.L + 2, S.oF) :: (S.L + 3, S.oT) :: (S.L + 4, S.oW) :: (S.lN, listOf S.vsN.toArray S.nN) :: (S.lS, listOf #[.int S.s1 S.ts1, .int S.s2 S.ts2] S.nS) :: (S.lT, listOf #[tv] nT) :: (S.lF, listOf vF.toArray nF) :: (S.lW, listOf vW.toArray nW) :: (S.fB, lamObjB S.L S.fa (S.L + 3) (S.L + 2) S.pm S.cB S.ctB) :: (S.cB, S.ocB) :: (S.xB, instObj 88 S.dxB) :: (S.dxB, cont w S.tB1 S.tB2 S.tB3 S.tB4 S.s2 (.ref S.fB) S.dB) :: (S.dB, odB) :: (S.fM, movObj S.L S.fa (S.L + 3) (S.L + 1) S.dc S.pm S.cM S.ctM) :: (S.cM, S.ocM) :: (S.xF, instObj 88 S.dxF) :: (S.dxF, cont w S.tF1 S.tF2 S.tF3 S.tF4 S.s1 (.ref S.fM) S.dF) :: (S.dF, odF) :: (S.fO, lamObjO S.L S.fa (S.L + 3) (S.L + 4) S.pm S.cO S.ctO) :: (S.cO, S.ocO) :: (S.xO, instObj 88 S.dxO) :: (S.dxO, cont w S.tO1 S.tO2 S.tO3 S.tO4 (S.s1 + S.s2) (.ref S.fO) S.dO) :: (S.dO, odO) :: prs
theorem UpdF.toUpd {d : Addr} {o : Obj} {l : List (Addr × Obj)} {g : Obj → List (Addr × Obj)} (U : UpdF d o l g) (o' : Obj) : Upd d o o' l (g o') := by
  induction U with
  | head h => exact Upd.head h
  | tail h _ ih => exact Upd.tail h ih
structure Ok (S : St) : Prop where
  o_lN : S.L + 4 < S.lN
  o_lS : S.lN < S.lS
  o_lT : S.lS < S.lT
  o_lF : S.lT < S.lF
  o_lW : S.lF < S.lW
  o_cB : S.lW < S.cB
  o_fB : S.cB < S.fB
  o_dxB : S.fB < S.dxB
  o_xB : S.dxB < S.xB
  o_dB : S.xB < S.dB
  o_cM : S.dB < S.cM
  o_fM : S.cM < S.fM
  o_dxF : S.fM < S.dxF
  o_xF : S.dxF < S.xF
  o_dF : S.xF < S.dF
  o_cO : S.dF < S.cO
  o_fO : S.cO < S.fO
  o_dxO : S.fO < S.dxO
  o_xO : S.dxO < S.xO
  o_dO : S.xO < S.dO
  hcB : S.oB.data = .cell (some (.ref S.xB))
  hcF : S.oF.data = .cell (some (.ref S.lF))
  hcT : S.oT.data = .cell (some (.ref S.lT))
  hcW : S.oW.data = .cell (some (.ref S.lW))
  hoB : S.ocB.data = .fields S.vcB
  hqB : S.vcB[1]? = some (.str (lamQual S.L S.fa) S.tqB)
  hoM : S.ocM.data = .fields S.vcM
  hqM : S.vcM[1]? = some (.str (movQual S.L S.fa) S.tqM)
  hoO : S.ocO.data = .fields S.vcO
  hqO : S.vcO[1]? = some (.str (lamQual S.L S.fa) S.tqO)
  loB : (S.dB == sysModules) = false
  loF : (S.dF == sysModules) = false
  loO : (S.dO == sysModules) = false
  s1a : 1 ≤ S.s1
  s1b : S.s1 ≤ 3
  s2a : 0 ≤ S.s2
  s2b : S.s2 ≤ 3
/-- all the pairs lie above -/
def PrsUp (S : St) (prs : List (Addr × Obj)) : Prop := ∀ q ∈ prs, S.dO < q.1 ∨ q.1 < S.L
section
variable {w : World} {S : St} {odF odB odO : Obj} {vF vW : List Value} {nF nW nT : Nat} {tv : Value} {prs : List (Addr × Obj)}
theorem Led.m_L1 : (S.L + 1, S.oB) ∈ Led w S odF odB odO vF nF vW nW tv nT prs := by unfold Led; exact .head _
theorem Led.m_L2 : (S.L + 2, S.oF) ∈ Led w S odF odB odO vF nF vW nW tv nT prs := by unfold Led; exact .tail _ (.head _)
theorem Led.m_L3 : (S.L + 3, S.oT) ∈ Led w S odF odB odO vF nF vW nW tv nT prs := by unfold Led; exact .tail _ (.tail _ (.head _))
theorem Led.m_L4 : (S.L + 4, S.oW) ∈ Led w S odF odB odO vF nF vW nW tv nT prs := by unfold Led; exact .tail _ (.tail _ (.tail _ (.head _)))
theorem Led.m_lN : (S.lN, listOf S.vsN.toArray S.nN) ∈ Led w S odF odB odO vF nF vW nW tv nT prs := by unfold Led; exact .tail _ (.tail _ (.tail _ (.tail _ (.head _))))
theorem Led.m_lS : (S.lS, listOf #[.int S.s1 S.ts1, .int S.s2 S.ts2] S.nS) ∈ Led w S odF odB odO vF nF vW nW tv nT prs := by unfold Led; exact .tail _ (.tail _ (.tail _ (.tail _ (.tail _ (.head _)))))
theorem Led.m_lT : (S.lT, listOf #[tv] nT) ∈ Led w S odF odB odO vF nF vW nW tv nT prs := by unfold Led; exact .tail _ (.tail _ (.tail _ (.tail _ (.tail _ (.tail _ (.head _))))))
theorem Led.m_lF : (S.lF, listOf vF.toArray nF) ∈ Led w S odF odB odO vF nF vW nW tv nT prs := by unfold Led; exact .tail _ (.tail _ (.tail _ (.tail _ (.tail _ (.tail _ (.tail _ (.head _)))))))
theorem Led.m_lW : (S.lW, listOf vW.toArray nW) ∈ Led w S odF odB odO vF nF vW nW tv nT prs := by unfold Led; exact .tail _ (.tail _ (.tail _ (.tail _ (.tail _ (.tail _ (.tail _ (.tail _ (.head _))))))))
theorem Led.m_fB : (S.fB, lamObjB S.L S.fa (S.L + 3) (S.L + 2) S.pm S.cB S.ctB) ∈ Led w S odF odB odO vF nF vW nW tv nT prs := by unfold Led; exact .tail _ (.tail _ (.tail _ (.tail _ (.tail _ (.tail _ (.tail _ (.tail _ (.tail _ (.head _)))))))))
theorem Led.m_cB : (S.cB, S.ocB) ∈ Led w S odF odB odO vF nF vW nW tv nT prs := by unfold Led; exact .tail _ (.tail _ (.tail _ (.tail _ (.tail _ (.tail _ (.tail _ (.tail _ (.tail _ (.tail _ (.head _))))))))))
theorem Led.m_xB : (S.xB, instObj 88 S.dxB) ∈ Led w S odF odB odO vF nF vW nW tv nT prs := by unfold Led; exact .tail _ (.tail _ (.tail _ (.tail _ (.tail _ (.tail _ (.tail _ (.tail _ (.tail _ (.tail _ (.tail _ (.head _)))))))))))
theorem Led.m_dxB : (S.dxB, cont w S.tB1 S.tB2 S.tB3 S.tB4 S.s2 (.ref S.fB) S.dB) ∈ Led w S odF odB odO vF nF vW nW tv nT prs := by unfold Led; exact .tail _ (.tail _ (.tail _ (.tail _ (.tail _ (.tail _ (.tail _ (.tail _ (.tail _ (.tail _ (.tail _ (.tail _ (.head _))))))))))))
theorem Led.m_dB : (S.dB, odB) ∈ Led w S odF odB odO vF nF vW nW tv nT prs := by unfold Led; exact .tail _ (.tail _ (.tail _ (.tail _ (.tail _ (.tail _ (.tail _ (.tail _ (.tail _ (.tail _ (.tail _ (.tail _ (.tail _ (.head _)))))))))))))
theorem Led.m_fM : (S.fM, movObj S.L S.fa (S.L + 3) (S.L + 1) S.dc S.pm S.cM S.ctM) ∈ Led w S odF odB odO vF nF vW nW tv nT prs := by unfold Led; exact .tail _ (.tail _ (.tail _ (.tail _ (.tail _ (.tail _ (.tail _ (.tail _ (.tail _ (.tail _ (.tail _ (.tail _ (.tail _ (.tail _ (.head _))))))))))))))
theorem Led.m_cM : (S.cM, S.ocM) ∈ Led w S odF odB odO vF nF vW nW tv nT prs := by unfold Led; exact .tail _ (.tail _ (.tail _ (.tail _ (.tail _ (.tail _ (.tail _ (.tail _ (.tail _ (.tail _ (.tail _ (.tail _ (.tail _ (.tail _ (.tail _ (.head _)))))))))))))))
theorem Led.m_xF : (S.xF, instObj 88 S.dxF) ∈ Led w S odF odB odO vF nF vW nW tv nT prs := by unfold Led; exact .tail _ (.tail _ (.tail _ (.tail _ (.tail _ (.tail _ (.tail _ (.tail _ (.tail _ (.tail _ (.tail _ (.tail _ (.tail _ (.tail _ (.tail _ (.tail _ (.head _))))))))))))))))
theorem Led.m_dxF : (S.dxF, cont w S.tF1 S.tF2 S.tF3 S.tF4 S.s1 (.ref S.fM) S.dF) ∈ Led w S odF odB odO vF nF vW nW tv nT prs := by unfold Led; exact .tail _ (.tail _ (.tail _ (.tail _ (.tail _ (.tail _ (.tail _ (.tail _ (.tail _ (.tail _ (.tail _ (.tail _ (.tail _ (.tail _ (.tail _ (.tail _ (.tail _ (.head _)))))))))))))))))
theorem Led.m_dF : (S.dF, odF) ∈ Led w S odF odB odO vF nF vW nW tv nT prs := by unfold Led; exact .tail _ (.tail _ (.tail _ (.tail _ (.tail _ (.tail _ (.tail _ (.tail _ (.tail _ (.tail _ (.tail _ (.tail _ (.tail _ (.tail _ (.tail _ (.tail _ (.tail _ (.tail _ (.head _))))))))))))))))))
theorem Led.m_fO : (S.fO, lamObjO S.L S.fa (S.L + 3) (S.L + 4) S.pm S.cO S.ctO) ∈ Led w S odF odB odO vF nF vW nW tv nT prs := by unfold Led; exact .tail _ (.tail _ (.tail _ (.tail _ (.tail _ (.tail _ (.tail _ (.tail _ (.tail _ (.tail _ (.tail _ (.tail _ (.tail _ (.tail _ (.tail _ (.tail _ (.tail _ (.tail _ (.tail _ (.head _)))))))))))))))))))
theorem Led.m_cO : (S.cO, S.ocO) ∈ Led w S odF odB odO vF nF vW nW tv nT prs := by unfold Led; exact .tail _ (.tail _ (.tail _ (.tail _ (.tail _ (.tail _ (.tail _ (.tail _ (.tail _ (.tail _ (.tail _ (.tail _ (.tail _ (.tail _ (.tail _ (.tail _ (.tail _ (.tail _ (.tail _ (.tail _ (.head _))))))))))))))))))))
theorem Led.m_xO : (S.xO, instObj 88 S.dxO) ∈ Led w S odF odB odO vF nF vW nW tv nT prs := by unfold Led; exact .tail _ (.tail _ (.tail _ (.tail _ (.tail _ (.tail _ (.tail _ (.tail _ (.tail _ (.tail _ (.tail _ (.tail _ (.tail _ (.tail _ (.tail _ (.tail _ (.tail _ (.tail _ (.tail _ (.tail _ (.tail _ (.head _)))))))))))))))))))))
theorem Led.m_dxO : (S.dxO, cont w S.tO1 S.tO2 S.tO3 S.tO4 (S.s1 + S.s2) (.ref S.fO) S.dO) ∈ Led w S odF odB odO vF nF vW nW tv nT prs := by unfold Led; exact .tail _ (.tail _ (.tail _ (.tail _ (.tail _ (.tail _ (.tail _ (.tail _ (.tail _ (.tail _ (.tail _ (.tail _ (.tail _ (.tail _ (.tail _ (.tail _ (.tail _ (.tail _ (.tail _ (.tail _ (.tail _ (.tail _ (.head _))))))))))))))))))))))
theorem Led.m_dO : (S.dO, odO) ∈ Led w S odF odB odO vF nF vW nW tv nT prs := by unfold Led; exact .tail _ (.tail _ (.tail _ (.tail _ (.tail _ (.tail _ (.tail _ (.tail _ (.tail _ (.tail _ (.tail _ (.tail _ (.tail _ (.tail _ (.tail _ (.tail _ (.tail _ (.tail _ (.tail _ (.tail _ (.tail _ (.tail _ (.tail _ (.head _)))))))))))))))))))))))
theorem Led.m_prs {q : Addr × Obj} (h : q ∈ prs) : q ∈ Led w S odF odB odO vF nF vW nW tv nT prs := by unfold Led; exact .tail _ (.tail _ (.tail _ (.tail _ (.tail _ (.tail _ (.tail _ (.tail _ (.tail _ (.tail _ (.tail _ (.tail _ (.tail _ (.tail _ (.tail _ (.tail _ (.tail _ (.tail _ (.tail _ (.tail _ (.tail _ (.tail _ (.tail _ (.tail _ (h))))))))))))))))))))))))
theorem Led.u_dF (O : Ok S) (hp : PrsUp S prs) : UpdF S.dF (odF) (Led w S odF odB odO vF nF vW nW tv nT prs) (fun o => Led w S o odB odO vF nF vW nW tv nT prs) := by
  obtain ⟨o0, o1, o2, o3, o4, o5, o6, o7, o8, o9, o10, o11, o12, o13, o14, o15, o16, o17, o18, o19, _⟩ := O
  unfold Led
  exact UpdF.tail (by show (_ : Nat) ≠ _; omega) (UpdF.tail (by show (_ : Nat) ≠ _; omega) (UpdF.tail (by show (_ : Nat) ≠ _; omega) (UpdF.tail (by show (_ : Nat) ≠ _; omega) (UpdF.tail (by show (_ : Nat) ≠ _; omega) (UpdF.tail (by show (_ : Nat) ≠ _; omega) (UpdF.tail (by show (_ : Nat) ≠ _; omega) (UpdF.tail (by show (_ : Nat) ≠ _; omega) (UpdF.tail (by show (_ : Nat) ≠ _; omega) (UpdF.tail (by show (_ : Nat) ≠ _; omega) (UpdF.tail (by show (_ : Nat) ≠ _; omega) (UpdF.tail (by show (_ : Nat) ≠ _; omega) (UpdF.tail (by show (_ : Nat) ≠ _; omega) (UpdF.tail (by show (_ : Nat) ≠ _; omega) (UpdF.tail (by show (_ : Nat) ≠ _; omega) (UpdF.tail (by show (_ : Nat) ≠ _; omega) (UpdF.tail (by show (_ : Nat) ≠ _; omega) (UpdF.tail (by show (_ : Nat) ≠ _; omega) (UpdF.head (List.forall_mem_cons.mpr ⟨(by show (_ : Nat) ≠ _; omega), List.forall_mem_cons.mpr ⟨(by show (_ : Nat) ≠ _; omega), List.forall_mem_cons.mpr ⟨(by show (_ : Nat) ≠ _; omega), List.forall_mem_cons.mpr ⟨(by show (_ : Nat) ≠ _; omega), List.forall_mem_cons.mpr ⟨(by show (_ : Nat) ≠ _; omega), (fun q hq => by have h9 : @LT.lt Nat _ S.dO q.1 ∨ @LT.lt Nat _ q.1 S.L := hp q hq; show (_ : Nat) ≠ _; omega)⟩⟩⟩⟩⟩)))))))))))))))))))
theorem Led.u_dB (O : Ok S) (hp : PrsUp S prs) : UpdF S.dB (odB) (Led w S odF odB odO vF nF vW nW tv nT prs) (fun o => Led w S odF o odO vF nF vW nW tv nT prs) := by
  obtain ⟨o0, o1, o2, o3, o4, o5, o6, o7, o8, o9, o10, o11, o12, o13, o14, o15, o16, o17, o18, o19, _⟩ := O
  unfold Led
  exact UpdF.tail (by show (_ : Nat) ≠ _; omega) (UpdF.tail (by show (_ : Nat) ≠ _; omega) (UpdF.tail (by show (_ : Nat) ≠ _; omega) (UpdF.tail (by show (_ : Nat) ≠ _; omega) (UpdF.tail (by show (_ : Nat) ≠ _; omega) (UpdF.tail (by show (_ : Nat) ≠ _; omega) (UpdF.tail (by show (_ : Nat) ≠ _; omega) (UpdF.tail (by show (_ : Nat) ≠ _; omega) (UpdF.tail (by show (_ : Nat) ≠ _; omega) (UpdF.tail (by show (_ : Nat) ≠ _; omega) (UpdF.tail (by show (_ : Nat) ≠ _; omega) (UpdF.tail (by show (_ : Nat) ≠ _; omega) (UpdF.tail (by show (_ : Nat) ≠ _; omega) (UpdF.head (List.forall_mem_cons.mpr ⟨(by show (_ : Nat) ≠ _; omega), List.forall_mem_cons.mpr ⟨(by show (_ : Nat) ≠ _; omega), List.forall_mem_cons.mpr ⟨(by show (_ : Nat) ≠ _; omega), List.forall_mem_cons.mpr ⟨(by show (_ : Nat) ≠ _; omega), List.forall_mem_cons.mpr ⟨(by show (_ : Nat) ≠ _; omega), List.forall_mem_cons.mpr ⟨(by show (_ : Nat) ≠ _; omega), List.forall_mem_cons.mpr ⟨(by show (_ : Nat) ≠ _; omega), List.forall_mem_cons.mpr ⟨(by show (_ : Nat) ≠ _; omega), List.forall_mem_cons.mpr ⟨(by show (_ : Nat) ≠ _; omega), List.forall_mem_cons.mpr ⟨(by show (_ : Nat) ≠ _; omega), (fun q hq => by have h9 : @LT.lt Nat _ S.dO q.1 ∨ @LT.lt Nat _ q.1 S.L := hp q hq; show (_ : Nat) ≠ _; omega)⟩⟩⟩⟩⟩⟩⟩⟩⟩⟩))))))))))))))
theorem Led.u_dO (O : Ok S) (hp : PrsUp S prs) : UpdF S.dO (odO) (Led w S odF odB odO vF nF vW nW tv nT prs) (fun o => Led w S odF odB o vF nF vW nW tv nT prs) := by
  obtain ⟨o0, o1, o2, o3, o4, o5, o6, o7, o8, o9, o10, o11, o12, o13, o14, o15, o16, o17, o18, o19, _⟩ := O
  unfold Led
  exact UpdF.tail (by show (_ : Nat) ≠ _; omega) (UpdF.tail (by show (_ : Nat) ≠ _; omega) (UpdF.tail (by show (_ : Nat) ≠ _; omega) (UpdF.tail (by show (_ : Nat) ≠ _; omega) (UpdF.tail (by show (_ : Nat) ≠ _; omega) (UpdF.tail (by show (_ : Nat) ≠ _; omega) (UpdF.tail (by show (_ : Nat) ≠ _; omega) (UpdF.tail (by show (_ : Nat) ≠ _; omega) (UpdF.tail (by show (_ : Nat) ≠ _; omega) (UpdF.tail (by show (_ : Nat) ≠ _; omega) (UpdF.tail (by show (_ : Nat) ≠ _; omega) (UpdF.tail (by show (_ : Nat) ≠ _; omega) (UpdF.tail (by show (_ : Nat) ≠ _; omega) (UpdF.tail (by show (_ : Nat) ≠ _; omega) (UpdF.tail (by show (_ : Nat) ≠ _; omega) (UpdF.tail (by show (_ : Nat) ≠ _; omega) (UpdF.tail (by show (_ : Nat) ≠ _; omega) (UpdF.tail (by show (_ : Nat) ≠ _; omega) (UpdF.tail (by show (_ : Nat) ≠ _; omega) (UpdF.tail (by show (_ : Nat) ≠ _; omega) (UpdF.tail (by show (_ : Nat) ≠ _; omega) (UpdF.tail (by show (_ : Nat) ≠ _; omega) (UpdF.tail (by show (_ : Nat) ≠ _; omega) (UpdF.head ((fun q hq => by have h9 : @LT.lt Nat _ S.dO q.1 ∨ @LT.lt Nat _ q.1 S.L := hp q hq; show (_ : Nat) ≠ _; omega)))))))))))))))))))))))))
theorem Led.r_lF (O : Ok S) (hp : PrsUp S prs) : UpdF S.lF (listOf vF.toArray nF) ((S.L + 1, S.oB) :: (S.L + 2, S.oF) :: (S.L + 3, S.oT) :: (S.L + 4, S.oW) :: (S.lN, listOf S.vsN.toArray S.nN) :: (S.lS, listOf #[.int S.s1 S.ts1, .int S.s2 S.ts2] S.nS) :: (S.lT, listOf #[tv] nT) :: (S.lF, listOf vF.toArray nF) :: (S.lW, listOf vW.toArray nW) :: (S.fB, lamObjB S.L S.fa (S.L + 3) (S.L + 2) S.pm S.cB S.ctB) :: (S.cB, S.ocB) :: (S.xB, instObj 88 S.dxB) :: (S.dxB, cont w S.tB1 S.tB2 S.tB3 S.tB4 S.s2 (.ref S.fB) S.dB) :: (S.dB, odB) :: (S.fM, movObj S.L S.fa (S.L + 3) (S.L + 1) S.dc S.pm S.cM S.ctM) :: (S.cM, S.ocM) :: (S.xF, instObj 88 S.dxF) :: (S.dxF, cont w S.tF1 S.tF2 S.tF3 S.tF4 S.s1 (.ref S.fM) S.dF) :: (S.dF, odF) :: (S.fO, lamObjO S.L S.fa (S.L + 3) (S.L + 4) S.pm S.cO S.ctO) :: (S.cO, S.ocO) :: (S.xO, instObj 88 S.dxO) :: (S.dxO, cont w S.tO1 S.tO2 S.tO3 S.tO4 (S.s1 + S.s2) (.ref S.fO) S.dO) :: (S.dO, odO) :: prs) (fun o => (S.L + 1, S.oB) :: (S.L + 2, S.oF) :: (S.L + 3, S.oT) :: (S.L + 4, S.oW) :: (S.lN, listOf S.vsN.toArray S.nN) :: (S.lS, listOf #[.int S.s1 S.ts1, .int S.s2 S.ts2] S.nS) :: (S.lT, listOf #[tv] nT) :: (S.lF, o) :: (S.lW, listOf vW.toArray nW) :: (S.fB, lamObjB S.L S.fa (S.L + 3) (S.L + 2) S.pm S.cB S.ctB) :: (S.cB, S.ocB) :: (S.xB, instObj 88 S.dxB) :: (S.dxB, cont w S.tB1 S.tB2 S.tB3 S.tB4 S.s2 (.ref S.fB) S.dB) :: (S.dB, odB) :: (S.fM, movObj S.L S.fa (S.L + 3) (S.L + 1) S.dc S.pm S.cM S.ctM) :: (S.cM, S.ocM) :: (S.xF, instObj 88 S.dxF) :: (S.dxF, cont w S.tF1 S.tF2 S.tF3 S.tF4 S.s1 (.ref S.fM) S.dF) :: (S.dF, odF) :: (S.fO, lamObjO S.L S.fa (S.L + 3) (S.L + 4) S.pm S.cO S.ctO) :: (S.cO, S.ocO) :: (S.xO, instObj 88 S.dxO) :: (S.dxO, cont w S.tO1 S.tO2 S.tO3 S.tO4 (S.s1 + S.s2) (.ref S.fO) S.dO) :: (S.dO, odO) :: prs) := by
  obtain ⟨o0, o1, o2, o3, o4, o5, o6, o7, o8, o9, o10, o11, o12, o13, o14, o15, o16, o17, o18, o19, _⟩ := O
  exact UpdF.tail (by show (_ : Nat) ≠ _; omega) (UpdF.tail (by show (_ : Nat) ≠ _; omega) (UpdF.tail (by show (_ : Nat) ≠ _; omega) (UpdF.tail (by show (_ : Nat) ≠ _; omega) (UpdF.tail (by show (_ : Nat) ≠ _; omega) (UpdF.tail (by show (_ : Nat) ≠ _; omega) (UpdF.tail (by show (_ : Nat) ≠ _; omega) (UpdF.head (List.forall_mem_cons.mpr ⟨(by show (_ : Nat) ≠ _; omega), List.forall_mem_cons.mpr ⟨(by show (_ : Nat) ≠ _; omega), List.forall_mem_cons.mpr ⟨(by show (_ : Nat) ≠ _; omega), List.forall_mem_cons.mpr ⟨(by show (_ : Nat) ≠ _; omega), List.forall_mem_cons.mpr ⟨(by show (_ : Nat) ≠ _; omega), List.forall_mem_cons.mpr ⟨(by show (_ : Nat) ≠ _; omega), List.forall_mem_cons.mpr ⟨(by show (_ : Nat) ≠ _; omega), List.forall_mem_cons.mpr ⟨(by show (_ : Nat) ≠ _; omega), List.forall_mem_cons.mpr ⟨(by show (_ : Nat) ≠ _; omega), List.forall_mem_cons.mpr ⟨(by show (_ : Nat) ≠ _; omega), List.forall_mem_cons.mpr ⟨(by show (_ : Nat) ≠ _; omega), List.forall_mem_cons.mpr ⟨(by show (_ : Nat) ≠ _; omega), List.forall_mem_cons.mpr ⟨(by show (_ : Nat) ≠ _; omega), List.forall_mem_cons.mpr ⟨(by show (_ : Nat) ≠ _; omega), List.forall_mem_cons.mpr ⟨(by show (_ : Nat) ≠ _; omega), List.forall_mem_cons.mpr ⟨(by show (_ : Nat) ≠ _; omega), (fun q hq => by have h9 : @LT.lt Nat _ S.dO q.1 ∨ @LT.lt Nat _ q.1 S.L := hp q hq; show (_ : Nat) ≠ _; omega)⟩⟩⟩⟩⟩⟩⟩⟩⟩⟩⟩⟩⟩⟩⟩⟩))))))))
theorem Led.u_lF (O : Ok S) (hp : PrsUp S prs) (l' : List Value) (n' : Nat) : ∀ q ∈ Led w S odF odB odO l' n' vW nW tv nT prs, q ∈ upd S.lF (listOf l'.toArray n') (Led w S odF odB odO vF nF vW nW tv nT prs) := by
  have := UpdF.upd (Led.r_lF (w := w) (odF := odF) (odB := odB) (odO := odO) (vF := vF) (vW := vW) (nF := nF) (nW := nW) (nT := nT) (tv := tv) O hp) (listOf l'.toArray n')
  unfold Led
  exact this
theorem Led.r_lW (O : Ok S) (hp : PrsUp S prs) : UpdF S.lW (listOf vW.toArray nW) ((S.L + 1, S.oB) :: (S.L + 2, S.oF) :: (S.L + 3, S.oT) :: (S.L + 4, S.oW) :: (S.lN, listOf S.vsN.toArray S.nN) :: (S.lS, listOf #[.int S.s1 S.ts1, .int S.s2 S.ts2] S.nS) :: (S.lT, listOf #[tv] nT) :: (S.lF, listOf vF.toArray nF) :: (S.lW, listOf vW.toArray nW) :: (S.fB, lamObjB S.L S.fa (S.L + 3) (S.L + 2) S.pm S.cB S.ctB) :: (S.cB, S.ocB) :: (S.xB, instObj 88 S.dxB) :: (S.dxB, cont w S.tB1 S.tB2 S.tB3 S.tB4 S.s2 (.ref S.fB) S.dB) :: (S.dB, odB) :: (S.fM, movObj S.L S.fa (S.L + 3) (S.L + 1) S.dc S.pm S.cM S.ctM) :: (S.cM, S.ocM) :: (S.xF, instObj 88 S.dxF) :: (S.dxF, cont w S.tF1 S.tF2 S.tF3 S.tF4 S.s1 (.ref S.fM) S.dF) :: (S.dF, odF) :: (S.fO, lamObjO S.L S.fa (S.L + 3) (S.L + 4) S.pm S.cO S.ctO) :: (S.cO, S.ocO) :: (S.xO, instObj 88 S.dxO) :: (S.dxO, cont w S.tO1 S.tO2 S.tO3 S.tO4 (S.s1 + S.s2) (.ref S.fO) S.dO) :: (S.dO, odO) :: prs) (fun o => (S.L + 1, S.oB) :: (S.L + 2, S.oF) :: (S.L + 3, S.oT) :: (S.L + 4, S.oW) :: (S.lN, listOf S.vsN.toArray S.nN) :: (S.lS, listOf #[.int S.s1 S.ts1, .int S.s2 S.ts2] S.nS) :: (S.lT, listOf #[tv] nT) :: (S.lF, listOf vF.toArray nF) :: (S.lW, o) :: (S.fB, lamObjB S.L S.fa (S.L + 3) (S.L + 2) S.pm S.cB S.ctB) :: (S.cB, S.ocB) :: (S.xB, instObj 88 S.dxB) :: (S.dxB, cont w S.tB1 S.tB2 S.tB3 S.tB4 S.s2 (.ref S.fB) S.dB) :: (S.dB, odB) :: (S.fM, movObj S.L S.fa (S.L + 3) (S.L + 1) S.dc S.pm S.cM S.ctM) :: (S.cM, S.ocM) :: (S.xF, instObj 88 S.dxF) :: (S.dxF, cont w S.tF1 S.tF2 S.tF3 S.tF4 S.s1 (.ref S.fM) S.dF) :: (S.dF, odF) :: (S.fO, lamObjO S.L S.fa (S.L + 3) (S.L + 4) S.pm S.cO S.ctO) :: (S.cO, S.ocO) :: (S.xO, instObj 88 S.dxO) :: (S.dxO, cont w S.tO1 S.tO2 S.tO3 S.tO4 (S.s1 + S.s2) (.ref S.fO) S.dO) :: (S.dO, odO) :: prs) := by
  obtain ⟨o0, o1, o2, o3, o4, o5, o6, o7, o8, o9, o10, o11, o12, o13, o14, o15, o16, o17, o18, o19, _⟩ := O
  exact UpdF.tail (by show (_ : Nat) ≠ _; omega) (UpdF.tail (by show (_ : Nat) ≠ _; omega) (UpdF.tail (by show (_ : Nat) ≠ _; omega) (UpdF.tail (by show (_ : Nat) ≠ _; omega) (UpdF.tail (by show (_ : Nat) ≠ _; omega) (UpdF.tail (by show (_ : Nat) ≠ _; omega) (UpdF.tail (by show (_ : Nat) ≠ _; omega) (UpdF.tail (by show (_ : Nat) ≠ _; omega) (UpdF.head (List.forall_mem_cons.mpr ⟨(by show (_ : Nat) ≠ _; omega), List.forall_mem_cons.mpr ⟨(by show (_ : Nat) ≠ _; omega), List.forall_mem_cons.mpr ⟨(by show (_ : Nat) ≠ _; omega), List.forall_mem_cons.mpr ⟨(by show (_ : Nat) ≠ _; omega), List.forall_mem_cons.mpr ⟨(by show (_ : Nat) ≠ _; omega), List.forall_mem_cons.mpr ⟨(by show (_ : Nat) ≠ _; omega), List.forall_mem_cons.mpr ⟨(by show (_ : Nat) ≠ _; omega), List.forall_mem_cons.mpr ⟨(by show (_ : Nat) ≠ _; omega), List.forall_mem_cons.mpr ⟨(by show (_ : Nat) ≠ _; omega), List.forall_mem_cons.mpr ⟨(by show (_ : Nat) ≠ _; omega), List.forall_mem_cons.mpr ⟨(by show (_ : Nat) ≠ _; omega), List.forall_mem_cons.mpr ⟨(by show (_ : Nat) ≠ _; omega), List.forall_mem_cons.mpr ⟨(by show (_ : Nat) ≠ _; omega), List.forall_mem_cons.mpr ⟨(by show (_ : Nat) ≠ _; omega), List.forall_mem_cons.mpr ⟨(by show (_ : Nat) ≠ _; omega), (fun q hq => by have h9 : @LT.lt Nat _ S.dO q.1 ∨ @LT.lt Nat _ q.1 S.L := hp q hq; show (_ : Nat) ≠ _; omega)⟩⟩⟩⟩⟩⟩⟩⟩⟩⟩⟩⟩⟩⟩⟩)))))))))
theorem Led.u_lW (O : Ok S) (hp : PrsUp S prs) (l' : List Value) (n' : Nat) : ∀ q ∈ Led w S odF odB odO vF nF l' n' tv nT prs, q ∈ upd S.lW (listOf l'.toArray n') (Led w S odF odB odO vF nF vW nW tv nT prs) := by
  have := UpdF.upd (Led.r_lW (w := w) (odF := odF) (odB := odB) (odO := odO) (vF := vF) (vW := vW) (nF := nF) (nW := nW) (nT := nT) (tv := tv) O hp) (listOf l'.toArray n')
  unfold Led
  exact this
theorem Led.r_lT (O : Ok S) (hp : PrsUp S prs) : UpdF S.lT (listOf #[tv] nT) ((S.L + 1, S.oB) :: (S.L + 2, S.oF) :: (S.L + 3, S.oT) :: (S.L + 4, S.oW) :: (S.lN, listOf S.vsN.toArray S.nN) :: (S.lS, listOf #[.int S.s1 S.ts1, .int S.s2 S.ts2] S.nS) :: (S.lT, listOf #[tv] nT) :: (S.lF, listOf vF.toArray nF) :: (S.lW, listOf vW.toArray nW) :: (S.fB, lamObjB S.L S.fa (S.L + 3) (S.L + 2) S.pm S.cB S.ctB) :: (S.cB, S.ocB) :: (S.xB, instObj 88 S.dxB) :: (S.dxB, cont w S.tB1 S.tB2 S.tB3 S.tB4 S.s2 (.ref S.fB) S.dB) :: (S.dB, odB) :: (S.fM, movObj S.L S.fa (S.L + 3) (S.L + 1) S.dc S.pm S.cM S.ctM) :: (S.cM, S.ocM) :: (S.xF, instObj 88 S.dxF) :: (S.dxF, cont w S.tF1 S.tF2 S.tF3 S.tF4 S.s1 (.ref S.fM) S.dF) :: (S.dF, odF) :: (S.fO, lamObjO S.L S.fa (S.L + 3) (S.L + 4) S.pm S.cO S.ctO) :: (S.cO, S.ocO) :: (S.xO, instObj 88 S.dxO) :: (S.dxO, cont w S.tO1 S.tO2 S.tO3 S.tO4 (S.s1 + S.s2) (.ref S.fO) S.dO) :: (S.dO, odO) :: prs) (fun o => (S.L + 1, S.oB) :: (S.L + 2, S.oF) :: (S.L + 3, S.oT) :: (S.L + 4, S.oW) :: (S.lN, listOf S.vsN.toArray S.nN) :: (S.lS, listOf #[.int S.s1 S.ts1, .int S.s2 S.ts2] S.nS) :: (S.lT, o) :: (S.lF, listOf vF.toArray nF) :: (S.lW, listOf vW.toArray nW) :: (S.fB, lamObjB S.L S.fa (S.L + 3) (S.L + 2) S.pm S.cB S.ctB) :: (S.cB, S.ocB) :: (S.xB, instObj 88 S.dxB) :: (S.dxB, cont w S.tB1 S.tB2 S.tB3 S.tB4 S.s2 (.ref S.fB) S.dB) :: (S.dB, odB) :: (S.fM, movObj S.L S.fa (S.L + 3) (S.L + 1) S.dc S.pm S.cM S.ctM) :: (S.cM, S.ocM) :: (S.xF, instObj 88 S.dxF) :: (S.dxF, cont w S.tF1 S.tF2 S.tF3 S.tF4 S.s1 (.ref S.fM) S.dF) :: (S.dF, odF) :: (S.fO, lamObjO S.L S.fa (S.L + 3) (S.L + 4) S.pm S.cO S.ctO) :: (S.cO, S.ocO) :: (S.xO, instObj 88 S.dxO) :: (S.dxO, cont w S.tO1 S.tO2 S.tO3 S.tO4 (S.s1 + S.s2) (.ref S.fO) S.dO) :: (S.dO, odO) :: prs) := by
  obtain ⟨o0, o1, o2, o3, o4, o5, o6, o7, o8, o9, o10, o11, o12, o13, o14, o15, o16, o17, o18, o19, _⟩ := O
  exact UpdF.tail (by show (_ : Nat) ≠ _; omega) (UpdF.tail (by show (_ : Nat) ≠ _; omega) (UpdF.tail (by show (_ : Nat) ≠ _; omega) (UpdF.tail (by show (_ : Nat) ≠ _; omega) (UpdF.tail (by show (_ : Nat) ≠ _; omega) (UpdF.tail (by show (_ : Nat) ≠ _; omega) (UpdF.head (List.forall_mem_cons.mpr ⟨(by show (_ : Nat) ≠ _; omega), List.forall_mem_cons.mpr ⟨(by show (_ : Nat) ≠ _; omega), List.forall_mem_cons.mpr ⟨(by show (_ : Nat) ≠ _; omega), List.forall_mem_cons.mpr ⟨(by show (_ : Nat) ≠ _; omega), List.forall_mem_cons.mpr ⟨(by show (_ : Nat) ≠ _; omega), List.forall_mem_cons.mpr ⟨(by show (_ : Nat) ≠ _; omega), List.forall_mem_cons.mpr ⟨(by show (_ : Nat) ≠ _; omega), List.forall_mem_cons.mpr ⟨(by show (_ : Nat) ≠ _; omega), List.forall_mem_cons.mpr ⟨(by show (_ : Nat) ≠ _; omega), List.forall_mem_cons.mpr ⟨(by show (_ : Nat) ≠ _; omega), List.forall_mem_cons.mpr ⟨(by show (_ : Nat) ≠ _; omega), List.forall_mem_cons.mpr ⟨(by show (_ : Nat) ≠ _; omega), List.forall_mem_cons.mpr ⟨(by show (_ : Nat) ≠ _; omega), List.forall_mem_cons.mpr ⟨(by show (_ : Nat) ≠ _; omega), List.forall_mem_cons.mpr ⟨(by show (_ : Nat) ≠ _; omega), List.forall_mem_cons.mpr ⟨(by show (_ : Nat) ≠ _; omega), List.forall_mem_cons.mpr ⟨(by show (_ : Nat) ≠ _; omega), (fun q hq => by have h9 : @LT.lt Nat _ S.dO q.1 ∨ @LT.lt Nat _ q.1 S.L := hp q hq; show (_ : Nat) ≠ _; omega)⟩⟩⟩⟩⟩⟩⟩⟩⟩⟩⟩⟩⟩⟩⟩⟩⟩)))))))
theorem Led.u_lT {v : Value} (O : Ok S) (hp : PrsUp S prs) : Upd S.lT (listOf #[tv] nT) (listOf #[v] nT) (Led w S odF odB odO vF nF vW nW tv nT prs) (Led w S odF odB odO vF nF vW nW v nT prs) := by
  have := UpdF.toUpd (Led.r_lT (w := w) (odF := odF) (odB := odB) (odO := odO) (vF := vF) (vW := vW) (nF := nF) (nW := nW) (nT := nT) (tv := tv) O hp) (listOf #[v] nT)
  unfold Led
  exact this
theorem Led.sub_pair {q : Addr × Obj} : ∀ p ∈ Led w S odF odB odO vF nF vW nW tv nT (q :: prs), p ∈ q :: Led w S odF odB odO vF nF vW nW tv nT prs := fun p hp => by
  simp only [Led, List.mem_cons] at hp ⊢
  rcases hp with h | h | h | h | h | h | h | h | h | h | h | h | h | h | h | h | h | h | h | h | h | h | h | h | h | h
  · exact .inr (.inl h)
  · exact .inr (.inr (.inl h))
  · exact .inr (.inr (.inr (.inl h)))
  · exact .inr (.inr (.inr (.inr (.inl h))))
  · exact .inr (.inr (.inr (.inr (.inr (.inl h)))))
  · exact .inr (.inr (.inr (.inr (.inr (.inr (.inl h))))))
  · exact .inr (.inr (.inr (.inr (.inr (.inr (.inr (.inl h)))))))
  · exact .inr (.inr (.inr (.inr (.inr (.inr (.inr (.inr (.inl h))))))))
  · exact .inr (.inr (.inr (.inr (.inr (.inr (.inr (.inr (.inr (.inl h)))))))))
  · exact .inr (.inr (.inr (.inr (.inr (.inr (.inr (.inr (.inr (.inr (.inl h))))))))))
  · exact .inr (.inr (.inr (.inr (.inr (.inr (.inr (.inr (.inr (.inr (.inr (.inl h)))))))))))
  · exact .inr (.inr (.inr (.inr (.inr (.inr (.inr (.inr (.inr (.inr (.inr (.inr (.inl h))))))))))))
  · exact .inr (.inr (.inr (.inr (.inr (.inr (.inr (.inr (.inr (.inr (.inr (.inr (.inr (.inl h)))))))))))))
  · exact .inr (.inr (.inr (.inr (.inr (.inr (.inr (.inr (.inr (.inr (.inr (.inr (.inr (.inr (.inl h))))))))))))))
  · exact .inr (.inr (.inr (.inr (.inr (.inr (.inr (.inr (.inr (.inr (.inr (.inr (.inr (.inr (.inr (.inl h)))))))))))))))
  · exact .inr (.inr (.inr (.inr (.inr (.inr (.inr (.inr (.inr (.inr (.inr (.inr (.inr (.inr (.inr (.inr (.inl h))))))))))))))))
  · exact .inr (.inr (.inr (.inr (.inr (.inr (.inr (.inr (.inr (.inr (.inr (.inr (.inr (.inr (.inr (.inr (.inr (.inl h)))))))))))))))))
  · exact .inr (.inr (.inr (.inr (.inr (.inr (.inr (.inr (.inr (.inr (.inr (.inr (.inr (.inr (.inr (.inr (.inr (.inr (.inl h))))))))))))))))))
  · exact .inr (.inr (.inr (.inr (.inr (.inr (.inr (.inr (.inr (.inr (.inr (.inr (.inr (.inr (.inr (.inr (.inr (.inr (.inr (.inl h)))))))))))))))))))
  · exact .inr (.inr (.inr (.inr (.inr (.inr (.inr (.inr (.inr (.inr (.inr (.inr (.inr (.inr (.inr (.inr (.inr (.inr (.inr (.inr (.inl h))))))))))))))))))))
  · exact .inr (.inr (.inr (.inr (.inr (.inr (.inr (.inr (.inr (.inr (.inr (.inr (.inr (.inr (.inr (.inr (.inr (.inr (.inr (.inr (.inr (.inl h)))))))))))))))))))))
  · exact .inr (.inr (.inr (.inr (.inr (.inr (.inr (.inr (.inr (.inr (.inr (.inr (.inr (.inr (.inr (.inr (.inr (.inr (.inr (.inr (.inr (.inr (.inl h))))))))))))))))))))))
  · exact .inr (.inr (.inr (.inr (.inr (.inr (.inr (.inr (.inr (.inr (.inr (.inr (.inr (.inr (.inr (.inr (.inr (.inr (.inr (.inr (.inr (.inr (.inr (.inl h)))))))))))))))))))))))
  · exact .inr (.inr (.inr (.inr (.inr (.inr (.inr (.inr (.inr (.inr (.inr (.inr (.inr (.inr (.inr (.inr (.inr (.inr (.inr (.inr (.inr (.inr (.inr (.inr (.inl h))))))))))))))))))))))))
  · exact .inl h
  · exact .inr (.inr (.inr (.inr (.inr (.inr (.inr (.inr (.inr (.inr (.inr (.inr (.inr (.inr (.inr (.inr (.inr (.inr (.inr (.inr (.inr (.inr (.inr (.inr (.inr (h)))))))))))))))))))))))))
end
end Mine
end
section
open PySem PySem.W PyProof.Rows PySem.Calls PyProof.V PySem.Spec
set_option maxRecDepth 100000
namespace Mine
theorem upd_app {a : Addr} {o : Obj} {t l l' : List (Addr × Obj)} (h1 : ∀ q ∈ t, q.1 ≠ a) (h2 : ∀ q ∈ l', q ∈ upd a o l) : ∀ q ∈ t ++ l', q ∈ upd a o (t ++ l) := fun q hq => by
  rcases List.mem_append.mp hq with h | h
  · exact upd_ne (List.mem_append_left _ h) (h1 q h)
  · have : upd a o (t ++ l) = upd a o t ++ upd a o l := List.map_append ..
    rw [this]
    exact List.mem_append_right _ (h2 q h)
/-- what the front's set hands on to the back -/
def backK (key mx : Int) (kvs : List (Int × Value)) : Option (Int × Value) → List (Int × Value)
  | none => kvs
  | some p => if p.1 = key then kvs else setD mx kvs p.1 p.2
def backL (key mx : Int) (kvs : List (Int × Value)) : Option (Int × Value) → List Value
  | none => []
  | some p => if p.1 = key then [] else fellL key (fellO mx kvs p.1 p.2)
theorem Tups.mono {l l' : List (Addr × Obj)} {kvs : List (Int × Value)} (h : Tups l kvs) (hs : ∀ q ∈ l, q ∈ l') : Tups l' kvs := fun k v hv =>
  let ⟨p, t, v', e, hm⟩ := h k v hv
  ⟨p, t, v', e, hs _ hm⟩
section
variable {w : World} {S : St} {odF odB odO : Obj} {vF vW : List Value} {nF nW nT : Nat} {tv : Value} {prs tmps : List (Addr × Obj)} {mg mb : Str → Option Value} {mean : ExcName → Option Value} {A : Around} {h₀ : Heap} {env : Env} {m : Str → Option Value} {s : Shared} {k key : Int} {t tp tkey : Tok} {v vp : Value} {pv : Nat} {kF kB kO : List (Int × Value)} {E : Value → Shared → Prop}
theorem up_dF (O : Ok S) (hup : ∀ q ∈ tmps, S.dO < q.1) : ∀ q ∈ tmps, q.1 ≠ S.dF := fun q hq => by (have h9 : S.dO < q.1 := hup q hq; have := O.o_cO; have := O.o_fO; have := O.o_dxO; have := O.o_xO; have := O.o_dO; exact Nat.ne_of_gt (by omega))
theorem fin_dF (O : Ok S) (hp : PrsUp S prs) (hup : ∀ q ∈ tmps, S.dO < q.1) {o : Obj} : ∀ q ∈ tmps ++ Led w S o odB odO vF nF vW nW tv nT prs, q ∈ (S.xF, instObj 88 S.dxF) :: (S.dxF, cont w S.tF1 S.tF2 S.tF3 S.tF4 S.s1 (.ref S.fM) S.dF) :: (S.dF, o) :: off S.dF (tmps ++ Led w S odF odB odO vF nF vW nW tv nT prs) := fun q hq => by
  rcases mem_upd.mp (upd_app (o := o) (up_dF O hup) (fun q => UpdF.upd (Led.u_dF O hp) o q) q hq) with ⟨rfl, _⟩ | h
  · exact .tail _ (.tail _ (.head _))
  · exact .tail _ (.tail _ (.tail _ (mem_off.mpr h)))
theorem gotF_hit {Q : Value → Shared → Prop} (O : Ok S) (hp : PrsUp S prs) (X : (hd.heap_39 w.params).In h₀) (T : Top topProg loose mean mg mb h₀) (B : Below callerA h₀ [] h₀) (CB : CodeB h₀) (hA : A.frames = some [env]) (hf : env.frame = some S.L) (hke : env.scope.kind = .function) (hh : A.handled = none) (hdep : A.depth ≤ 400) (hun : A.units ≤ 1000)
  (F : Fr h₀ S.L s.heap m) (N : News h₀ S.L s.heap (tmps ++ Led w S odF odB odO vF nF vW nW tv nT prs)) (hup : ∀ q ∈ tmps, S.dO < q.1) (hdF : odF.IsDictOf (PySem.intKind PySem.Challenge.rw_aj5039_01.row.prog w) kF) (hlen : kF.length ≤ 10) (hv : valueAt kF k = some v)
  (q : ∀ l h' tk od', Fr h₀ S.L h' m → News h₀ S.L h' ((l, listOf #[v] 0) :: (tmps ++ Led w S od' odB odO vF nF vW nW tv nT prs)) → S.dO < l → (∀ q ∈ tmps, q.1 < l) → od'.IsDictOf (PySem.intKind PySem.Challenge.rw_aj5039_01.row.prog w) (without kF k ++ [(k, v)]) → Q (.ref l) { s with heap := h', toks := tk }) :
  wpAny (model PySem.Challenge.rw_aj5039_01.row.prog w) A (call (.ref 99) [.ref S.xF, .int k t]) Q E s := by
  have i1 : (S.xF, instObj 88 S.dxF) ∈ tmps ++ Led w S odF odB odO vF nF vW nW tv nT prs := List.mem_append_right _ Led.m_xF
  have i2 : (S.dxF, cont w S.tF1 S.tF2 S.tF3 S.tF4 S.s1 (.ref S.fM) S.dF) ∈ tmps ++ Led w S odF odB odO vF nF vW nW tv nT prs := List.mem_append_right _ Led.m_dxF
  have i3 : (S.dF, odF) ∈ tmps ++ Led w S odF odB odO vF nF vW nW tv nT prs := List.mem_append_right _ Led.m_dF
  have ne1 : S.xF ≠ S.dxF := News.ne N i1 i2 fun e => nomatch congrArg Obj.data e
  have ne2 : S.xF ≠ S.dF := News.ne N i1 i3 fun e => dict_ne_plain hdF e.symm
  have ne3 : S.dxF ≠ S.dF := by have := O.o_xF; have := O.o_dF; omega
  have hr : ∀ p ∈ off S.dF (tmps ++ Led w S odF odB odO vF nF vW nW tv nT prs), p.1 ≠ S.dF := fun q hq => (mem_off.mp hq).2
  have N0 : News h₀ S.L s.heap ((S.xF, instObj 88 S.dxF) :: (S.dxF, cont w S.tF1 S.tF2 S.tF3 S.tF4 S.s1 (.ref S.fM) S.dF) :: (S.dF, odF) :: off S.dF (tmps ++ Led w S odF odB odO vF nF vW nW tv nT prs)) := News.sub N fun q hq => by
    simp only [List.mem_cons] at hq
    rcases hq with rfl | rfl | rfl | hq
    · exact i1
    · exact i2
    · exact i3
    · exact (mem_off.mp hq).1

  refine got_hit (outer := []) (dp := 400) X B T X T CB ktsDicts_nil hA hf hke hh (by omega) hdep (by omega) F N0 hdF O.loF hlen ne1 ne2 ne3 hr hv fun l h' h₀' tk od' T' _ _ F' N' hd' lt => ?_
  obtain ⟨_, _, l3, l4⟩ := lt
  have hl : ∀ q ∈ tmps ++ Led w S odF odB odO vF nF vW nW tv nT prs, q.1 < l := fun q hq => by
    by_cases e : q.1 = S.dF
    · rw [e]; exact l3
    · exact allLt_mem l4 q (mem_off.mpr ⟨hq, e⟩)
  refine q l h' tk od' (fr_back T' F') (News.sub (news_back T' N') ?_) (hl _ (List.mem_append_right _ Led.m_dO)) (fun q hq => hl q (List.mem_append_left _ hq)) hd'
  intro q hq
  rcases List.mem_cons.mp hq with rfl | hq
  · exact .head _
  · exact .tail _ (fin_dF O hp hup q hq)
theorem gotF_miss {Q : Value → Shared → Prop} (O : Ok S) (hp : PrsUp S prs) (X : (hd.heap_39 w.params).In h₀) (T : Top topProg loose mean mg mb h₀) (B : Below callerA h₀ [] h₀) (CB : CodeB h₀) (hA : A.frames = some [env]) (hf : env.frame = some S.L) (hke : env.scope.kind = .function) (hh : A.handled = none) (hdep : A.depth ≤ 400) (hun : A.units ≤ 1000)
  (F : Fr h₀ S.L s.heap m) (N : News h₀ S.L s.heap (tmps ++ Led w S odF odB odO vF nF vW nW tv nT prs)) (hup : ∀ q ∈ tmps, S.dO < q.1) (hdF : odF.IsDictOf (PySem.intKind PySem.Challenge.rw_aj5039_01.row.prog w) kF) (hlen : kF.length ≤ 10) (hv : valueAt kF k = none)
  (q : ∀ l h' tk, Fr h₀ S.L h' m → News h₀ S.L h' ((l, listOf #[] 0) :: (tmps ++ Led w S odF odB odO vF nF vW nW tv nT prs)) → S.dO < l → (∀ q ∈ tmps, q.1 < l) → Q (.ref l) { s with heap := h', toks := tk }) :
  wpAny (model PySem.Challenge.rw_aj5039_01.row.prog w) A (call (.ref 99) [.ref S.xF, .int k t]) Q E s := by
  have i1 : (S.xF, instObj 88 S.dxF) ∈ tmps ++ Led w S odF odB odO vF nF vW nW tv nT prs := List.mem_append_right _ Led.m_xF
  have i2 : (S.dxF, cont w S.tF1 S.tF2 S.tF3 S.tF4 S.s1 (.ref S.fM) S.dF) ∈ tmps ++ Led w S odF odB odO vF nF vW nW tv nT prs := List.mem_append_right _ Led.m_dxF
  have i3 : (S.dF, odF) ∈ tmps ++ Led w S odF odB odO vF nF vW nW tv nT prs := List.mem_append_right _ Led.m_dF
  have ne1 : S.xF ≠ S.dxF := News.ne N i1 i2 fun e => nomatch congrArg Obj.data e
  have ne2 : S.xF ≠ S.dF := News.ne N i1 i3 fun e => dict_ne_plain hdF e.symm
  have ne3 : S.dxF ≠ S.dF := by have := O.o_xF; have := O.o_dF; omega
  have hr : ∀ p ∈ off S.dF (tmps ++ Led w S odF odB odO vF nF vW nW tv nT prs), p.1 ≠ S.dF := fun q hq => (mem_off.mp hq).2
  have N0 : News h₀ S.L s.heap ((S.xF, instObj 88 S.dxF) :: (S.dxF, cont w S.tF1 S.tF2 S.tF3 S.tF4 S.s1 (.ref S.fM) S.dF) :: (S.dF, odF) :: off S.dF (tmps ++ Led w S odF odB odO vF nF vW nW tv nT prs)) := News.sub N fun q hq => by
    simp only [List.mem_cons] at hq
    rcases hq with rfl | rfl | rfl | hq
    · exact i1
    · exact i2
    · exact i3
    · exact (mem_off.mp hq).1

  refine got_miss (outer := []) (dp := 400) X B T X T CB ktsDicts_nil hA hf hke hh (by omega) hdep (by omega) F N0 hdF O.loF hlen ne1 ne2 ne3 hr hv fun l h' h₀' tk T' _ _ F' N' lt => ?_
  obtain ⟨_, _, l3, l4⟩ := lt
  have hl : ∀ q ∈ tmps ++ Led w S odF odB odO vF nF vW nW tv nT prs, q.1 < l := fun q hq => by
    by_cases e : q.1 = S.dF
    · rw [e]; exact l3
    · exact allLt_mem l4 q (mem_off.mpr ⟨hq, e⟩)
  refine q l h' tk (fr_back T' F') (News.sub (news_back T' N') ?_) (hl _ (List.mem_append_right _ Led.m_dO)) (fun q hq => hl q (List.mem_append_left _ hq))
  intro q hq
  rcases List.mem_cons.mp hq with rfl | hq
  · exact .head _
  · exact .tail _ (fin_dF O hp hup q hq)
theorem keysF {Q : Value → Shared → Prop} (O : Ok S) (hp : PrsUp S prs) (X : (hd.heap_39 w.params).In h₀) (T : Top topProg loose mean mg mb h₀) (B : Below callerA h₀ [] h₀) (CB : CodeB h₀) (hA : A.frames = some [env]) (hf : env.frame = some S.L) (hke : env.scope.kind = .function) (hh : A.handled = none) (hdep : A.depth ≤ 400) (hun : A.units ≤ 1000)
  (F : Fr h₀ S.L s.heap m) (N : News h₀ S.L s.heap (tmps ++ Led w S odF odB odO vF nF vW nW tv nT prs)) (hup : ∀ q ∈ tmps, S.dO < q.1) (hdF : odF.IsDictOf (PySem.intKind PySem.Challenge.rw_aj5039_01.row.prog w) kF) (hlen : kF.length ≤ 10)
  (q : ∀ l so h' tk, Fr h₀ S.L h' m → News h₀ S.L h' ((l, so) :: (tmps ++ Led w S odF odB odO vF nF vW nW tv nT prs)) → S.dO < l → (∀ q ∈ tmps, q.1 < l) → SetIs so (kF.map (·.1)) → Q (.ref l) { s with heap := h', toks := tk }) :
  wpAny (model PySem.Challenge.rw_aj5039_01.row.prog w) A (call (.ref 85) [.ref S.xF]) Q E s := by
  have i1 : (S.xF, instObj 88 S.dxF) ∈ tmps ++ Led w S odF odB odO vF nF vW nW tv nT prs := List.mem_append_right _ Led.m_xF
  have i2 : (S.dxF, cont w S.tF1 S.tF2 S.tF3 S.tF4 S.s1 (.ref S.fM) S.dF) ∈ tmps ++ Led w S odF odB odO vF nF vW nW tv nT prs := List.mem_append_right _ Led.m_dxF
  have i3 : (S.dF, odF) ∈ tmps ++ Led w S odF odB odO vF nF vW nW tv nT prs := List.mem_append_right _ Led.m_dF
  have ne1 : S.xF ≠ S.dxF := News.ne N i1 i2 fun e => nomatch congrArg Obj.data e
  have ne2 : S.xF ≠ S.dF := News.ne N i1 i3 fun e => dict_ne_plain hdF e.symm
  have ne3 : S.dxF ≠ S.dF := by have := O.o_xF; have := O.o_dF; omega
  have hr : ∀ p ∈ off S.dF (tmps ++ Led w S odF odB odO vF nF vW nW tv nT prs), p.1 ≠ S.dF := fun q hq => (mem_off.mp hq).2
  have N0 : News h₀ S.L s.heap ((S.xF, instObj 88 S.dxF) :: (S.dxF, cont w S.tF1 S.tF2 S.tF3 S.tF4 S.s1 (.ref S.fM) S.dF) :: (S.dF, odF) :: off S.dF (tmps ++ Led w S odF odB odO vF nF vW nW tv nT prs)) := News.sub N fun q hq => by
    simp only [List.mem_cons] at hq
    rcases hq with rfl | rfl | rfl | hq
    · exact i1
    · exact i2
    · exact i3
    · exact (mem_off.mp hq).1

  refine keys_of (outer := []) (dp := 400) X B T X T CB ktsDicts_nil hA hf hke hh (by omega) hdep (by omega) F N0 hdF O.loF hlen ne1 ne2 ne3 hr fun l so h' h₀' tk T' _ _ F' N' hs lt => ?_
  obtain ⟨_, _, l3, l4⟩ := lt
  have hl : ∀ q ∈ tmps ++ Led w S odF odB odO vF nF vW nW tv nT prs, q.1 < l := fun q hq => by
    by_cases e : q.1 = S.dF
    · rw [e]; exact l3
    · exact allLt_mem l4 q (mem_off.mpr ⟨hq, e⟩)
  refine q l so h' tk (fr_back T' F') (News.sub (news_back T' N') ?_) (hl _ (List.mem_append_right _ Led.m_dO)) (fun q hq => hl q (List.mem_append_left _ hq)) hs
  intro q hq
  rcases List.mem_cons.mp hq with rfl | hq
  · exact .head _
  · exact .tail _ (fin_dF O hp hup q hq)
theorem keysSF {Q : Value → Shared → Prop} (O : Ok S) (hp : PrsUp S prs) (X : (hd.heap_39 w.params).In h₀) (T : Top topProg loose mean mg mb h₀) (B : Below callerA h₀ [] h₀) (CB : CodeB h₀) (hA : A.frames = some [env]) (hf : env.frame = some S.L) (hke : env.scope.kind = .function) (hh : A.handled = none) (hdep : A.depth ≤ 400) (hun : A.units ≤ 1000)
  (F : Fr h₀ S.L s.heap m) (N : News h₀ S.L s.heap (tmps ++ Led w S odF odB odO vF nF vW nW tv nT prs)) (hup : ∀ q ∈ tmps, S.dO < q.1) (hdF : odF.IsDictOf (PySem.intKind PySem.Challenge.rw_aj5039_01.row.prog w) kF) (hlen : kF.length ≤ 3) (h7 : ∀ k ∈ kF.map (·.1), 0 ≤ k ∧ k < 7)
  (q : ∀ l so h' tk, Fr h₀ S.L h' m → News h₀ S.L h' ((l, so) :: (tmps ++ Led w S odF odB odO vF nF vW nW tv nT prs)) → S.dO < l → (∀ q ∈ tmps, q.1 < l) → SmOf w so (kF.map (·.1)) → Q (.ref l) { s with heap := h', toks := tk }) :
  wpAny (model PySem.Challenge.rw_aj5039_01.row.prog w) A (call (.ref 85) [.ref S.xF]) Q E s := by
  have i1 : (S.xF, instObj 88 S.dxF) ∈ tmps ++ Led w S odF odB odO vF nF vW nW tv nT prs := List.mem_append_right _ Led.m_xF
  have i2 : (S.dxF, cont w S.tF1 S.tF2 S.tF3 S.tF4 S.s1 (.ref S.fM) S.dF) ∈ tmps ++ Led w S odF odB odO vF nF vW nW tv nT prs := List.mem_append_right _ Led.m_dxF
  have i3 : (S.dF, odF) ∈ tmps ++ Led w S odF odB odO vF nF vW nW tv nT prs := List.mem_append_right _ Led.m_dF
  have ne1 : S.xF ≠ S.dxF := News.ne N i1 i2 fun e => nomatch congrArg Obj.data e
  have ne2 : S.xF ≠ S.dF := News.ne N i1 i3 fun e => dict_ne_plain hdF e.symm
  have ne3 : S.dxF ≠ S.dF := by have := O.o_xF; have := O.o_dF; omega
  have hr : ∀ p ∈ off S.dF (tmps ++ Led w S odF odB odO vF nF vW nW tv nT prs), p.1 ≠ S.dF := fun q hq => (mem_off.mp hq).2
  have N0 : News h₀ S.L s.heap ((S.xF, instObj 88 S.dxF) :: (S.dxF, cont w S.tF1 S.tF2 S.tF3 S.tF4 S.s1 (.ref S.fM) S.dF) :: (S.dF, odF) :: off S.dF (tmps ++ Led w S odF odB odO vF nF vW nW tv nT prs)) := News.sub N fun q hq => by
    simp only [List.mem_cons] at hq
    rcases hq with rfl | rfl | rfl | hq
    · exact i1
    · exact i2
    · exact i3
    · exact (mem_off.mp hq).1

  refine keys_small (outer := []) (dp := 400) X B T X T CB ktsDicts_nil hA hf hke hh (by omega) hdep (by omega) F N0 hdF O.loF (by omega) ne1 ne2 ne3 hr hlen h7 fun l so h' h₀' tk T' _ _ F' N' hs lt => ?_
  obtain ⟨_, _, l3, l4⟩ := lt
  have hl : ∀ q ∈ tmps ++ Led w S odF odB odO vF nF vW nW tv nT prs, q.1 < l := fun q hq => by
    by_cases e : q.1 = S.dF
    · rw [e]; exact l3
    · exact allLt_mem l4 q (mem_off.mpr ⟨hq, e⟩)
  refine q l so h' tk (fr_back T' F') (News.sub (news_back T' N') ?_) (hl _ (List.mem_append_right _ Led.m_dO)) (fun q hq => hl q (List.mem_append_left _ hq)) hs
  intro q hq
  rcases List.mem_cons.mp hq with rfl | hq
  · exact .head _
  · exact .tail _ (fin_dF O hp hup q hq)
theorem lenF {Q : Value → Shared → Prop} (O : Ok S) (hp : PrsUp S prs) (X : (hd.heap_39 w.params).In h₀) (T : Top topProg loose mean mg mb h₀) (B : Below callerA h₀ [] h₀) (CB : CodeB h₀) (hA : A.frames = some [env]) (hf : env.frame = some S.L) (hke : env.scope.kind = .function) (hh : A.handled = none) (hdep : A.depth ≤ 400) (hun : A.units ≤ 1000)
  (F : Fr h₀ S.L s.heap m) (N : News h₀ S.L s.heap (tmps ++ Led w S odF odB odO vF nF vW nW tv nT prs)) (hup : ∀ q ∈ tmps, S.dO < q.1) (hdF : odF.IsDictOf (PySem.intKind PySem.Challenge.rw_aj5039_01.row.prog w) kF) (hlen : kF.length ≤ 10)
  (q : ∀ u h' tk, Fr h₀ S.L h' m → News h₀ S.L h' (tmps ++ Led w S odF odB odO vF nF vW nW tv nT prs) → Q (.int kF.length u) { s with heap := h', toks := tk }) :
  wpAny (model PySem.Challenge.rw_aj5039_01.row.prog w) A (call (.builtin "len") [.ref S.xF]) Q E s := by
  have i1 : (S.xF, instObj 88 S.dxF) ∈ tmps ++ Led w S odF odB odO vF nF vW nW tv nT prs := List.mem_append_right _ Led.m_xF
  have i2 : (S.dxF, cont w S.tF1 S.tF2 S.tF3 S.tF4 S.s1 (.ref S.fM) S.dF) ∈ tmps ++ Led w S odF odB odO vF nF vW nW tv nT prs := List.mem_append_right _ Led.m_dxF
  have i3 : (S.dF, odF) ∈ tmps ++ Led w S odF odB odO vF nF vW nW tv nT prs := List.mem_append_right _ Led.m_dF
  have ne1 : S.xF ≠ S.dxF := News.ne N i1 i2 fun e => nomatch congrArg Obj.data e
  have ne2 : S.xF ≠ S.dF := News.ne N i1 i3 fun e => dict_ne_plain hdF e.symm
  have ne3 : S.dxF ≠ S.dF := by have := O.o_xF; have := O.o_dF; omega
  have hr : ∀ p ∈ off S.dF (tmps ++ Led w S odF odB odO vF nF vW nW tv nT prs), p.1 ≠ S.dF := fun q hq => (mem_off.mp hq).2
  have N0 : News h₀ S.L s.heap ((S.xF, instObj 88 S.dxF) :: (S.dxF, cont w S.tF1 S.tF2 S.tF3 S.tF4 S.s1 (.ref S.fM) S.dF) :: (S.dF, odF) :: off S.dF (tmps ++ Led w S odF odB odO vF nF vW nW tv nT prs)) := News.sub N fun q hq => by
    simp only [List.mem_cons] at hq
    rcases hq with rfl | rfl | rfl | hq
    · exact i1
    · exact i2
    · exact i3
    · exact (mem_off.mp hq).1

  refine len_of (outer := []) (dp := 400) X B T X T CB ktsDicts_nil hA hf hke hh (by omega) hdep (by omega) F N0 hdF O.loF hlen ne1 ne2 ne3 hr fun u h' h₀' tk T' _ _ F' N' => ?_
  exact q u h' tk (fr_back T' F') (News.sub (news_back T' N') (fun q hq => fin_dF O hp hup q hq))
theorem up_dB (O : Ok S) (hup : ∀ q ∈ tmps, S.dO < q.1) : ∀ q ∈ tmps, q.1 ≠ S.dB := fun q hq => by (have h9 : S.dO < q.1 := hup q hq; have := O.o_cM; have := O.o_fM; have := O.o_dxF; have := O.o_xF; have := O.o_dF; have := O.o_cO; have := O.o_fO; have := O.o_dxO; have := O.o_xO; have := O.o_dO; exact Nat.ne_of_gt (by omega))
theorem fin_dB (O : Ok S) (hp : PrsUp S prs) (hup : ∀ q ∈ tmps, S.dO < q.1) {o : Obj} : ∀ q ∈ tmps ++ Led w S odF o odO vF nF vW nW tv nT prs, q ∈ (S.xB, instObj 88 S.dxB) :: (S.dxB, cont w S.tB1 S.tB2 S.tB3 S.tB4 S.s2 (.ref S.fB) S.dB) :: (S.dB, o) :: off S.dB (tmps ++ Led w S odF odB odO vF nF vW nW tv nT prs) := fun q hq => by
  rcases mem_upd.mp (upd_app (o := o) (up_dB O hup) (fun q => UpdF.upd (Led.u_dB O hp) o q) q hq) with ⟨rfl, _⟩ | h
  · exact .tail _ (.tail _ (.head _))
  · exact .tail _ (.tail _ (.tail _ (mem_off.mpr h)))
theorem gotB_hit {Q : Value → Shared → Prop} (O : Ok S) (hp : PrsUp S prs) (X : (hd.heap_39 w.params).In h₀) (T : Top topProg loose mean mg mb h₀) (B : Below callerA h₀ [] h₀) (CB : CodeB h₀) (hA : A.frames = some [env]) (hf : env.frame = some S.L) (hke : env.scope.kind = .function) (hh : A.handled = none) (hdep : A.depth ≤ 400) (hun : A.units ≤ 1000)
  (F : Fr h₀ S.L s.heap m) (N : News h₀ S.L s.heap (tmps ++ Led w S odF odB odO vF nF vW nW tv nT prs)) (hup : ∀ q ∈ tmps, S.dO < q.1) (hdB : odB.IsDictOf (PySem.intKind PySem.Challenge.rw_aj5039_01.row.prog w) kB) (hlen : kB.length ≤ 10) (hv : valueAt kB k = some v)
  (q : ∀ l h' tk od', Fr h₀ S.L h' m → News h₀ S.L h' ((l, listOf #[v] 0) :: (tmps ++ Led w S odF od' odO vF nF vW nW tv nT prs)) → S.dO < l → (∀ q ∈ tmps, q.1 < l) → od'.IsDictOf (PySem.intKind PySem.Challenge.rw_aj5039_01.row.prog w) (without kB k ++ [(k, v)]) → Q (.ref l) { s with heap := h', toks := tk }) :
  wpAny (model PySem.Challenge.rw_aj5039_01.row.prog w) A (call (.ref 99) [.ref S.xB, .int k t]) Q E s := by
  have i1 : (S.xB, instObj 88 S.dxB) ∈ tmps ++ Led w S odF odB odO vF nF vW nW tv nT prs := List.mem_append_right _ Led.m_xB
  have i2 : (S.dxB, cont w S.tB1 S.tB2 S.tB3 S.tB4 S.s2 (.ref S.fB) S.dB) ∈ tmps ++ Led w S odF odB odO vF nF vW nW tv nT prs := List.mem_append_right _ Led.m_dxB
  have i3 : (S.dB, odB) ∈ tmps ++ Led w S odF odB odO vF nF vW nW tv nT prs := List.mem_append_right _ Led.m_dB
  have ne1 : S.xB ≠ S.dxB := News.ne N i1 i2 fun e => nomatch congrArg Obj.data e
  have ne2 : S.xB ≠ S.dB := News.ne N i1 i3 fun e => dict_ne_plain hdB e.symm
  have ne3 : S.dxB ≠ S.dB := by have := O.o_xB; have := O.o_dB; omega
  have hr : ∀ p ∈ off S.dB (tmps ++ Led w S odF odB odO vF nF vW nW tv nT prs), p.1 ≠ S.dB := fun q hq => (mem_off.mp hq).2
  have N0 : News h₀ S.L s.heap ((S.xB, instObj 88 S.dxB) :: (S.dxB, cont w S.tB1 S.tB2 S.tB3 S.tB4 S.s2 (.ref S.fB) S.dB) :: (S.dB, odB) :: off S.dB (tmps ++ Led w S odF odB odO vF nF vW nW tv nT prs)) := News.sub N fun q hq => by
    simp only [List.mem_cons] at hq
    rcases hq with rfl | rfl | rfl | hq
    · exact i1
    · exact i2
    · exact i3
    · exact (mem_off.mp hq).1

  refine got_hit (outer := []) (dp := 400) X B T X T CB ktsDicts_nil hA hf hke hh (by omega) hdep (by omega) F N0 hdB O.loB hlen ne1 ne2 ne3 hr hv fun l h' h₀' tk od' T' _ _ F' N' hd' lt => ?_
  obtain ⟨_, _, l3, l4⟩ := lt
  have hl : ∀ q ∈ tmps ++ Led w S odF odB odO vF nF vW nW tv nT prs, q.1 < l := fun q hq => by
    by_cases e : q.1 = S.dB
    · rw [e]; exact l3
    · exact allLt_mem l4 q (mem_off.mpr ⟨hq, e⟩)
  refine q l h' tk od' (fr_back T' F') (News.sub (news_back T' N') ?_) (hl _ (List.mem_append_right _ Led.m_dO)) (fun q hq => hl q (List.mem_append_left _ hq)) hd'
  intro q hq
  rcases List.mem_cons.mp hq with rfl | hq
  · exact .head _
  · exact .tail _ (fin_dB O hp hup q hq)
theorem gotB_miss {Q : Value → Shared → Prop} (O : Ok S) (hp : PrsUp S prs) (X : (hd.heap_39 w.params).In h₀) (T : Top topProg loose mean mg mb h₀) (B : Below callerA h₀ [] h₀) (CB : CodeB h₀) (hA : A.frames = some [env]) (hf : env.frame = some S.L) (hke : env.scope.kind = .function) (hh : A.handled = none) (hdep : A.depth ≤ 400) (hun : A.units ≤ 1000)
  (F : Fr h₀ S.L s.heap m) (N : News h₀ S.L s.heap (tmps ++ Led w S odF odB odO vF nF vW nW tv nT prs)) (hup : ∀ q ∈ tmps, S.dO < q.1) (hdB : odB.IsDictOf (PySem.intKind PySem.Challenge.rw_aj5039_01.row.prog w) kB) (hlen : kB.length ≤ 10) (hv : valueAt kB k = none)
  (q : ∀ l h' tk, Fr h₀ S.L h' m → News h₀ S.L h' ((l, listOf #[] 0) :: (tmps ++ Led w S odF odB odO vF nF vW nW tv nT prs)) → S.dO < l → (∀ q ∈ tmps, q.1 < l) → Q (.ref l) { s with heap := h', toks := tk }) :
  wpAny (model PySem.Challenge.rw_aj5039_01.row.prog w) A (call (.ref 99) [.ref S.xB, .int k t]) Q E s := by
  have i1 : (S.xB, instObj 88 S.dxB) ∈ tmps ++ Led w S odF odB odO vF nF vW nW tv nT prs := List.mem_append_right _ Led.m_xB
  have i2 : (S.dxB, cont w S.tB1 S.tB2 S.tB3 S.tB4 S.s2 (.ref S.fB) S.dB) ∈ tmps ++ Led w S odF odB odO vF nF vW nW tv nT prs := List.mem_append_right _ Led.m_dxB
  have i3 : (S.dB, odB) ∈ tmps ++ Led w S odF odB odO vF nF vW nW tv nT prs := List.mem_append_right _ Led.m_dB
  have ne1 : S.xB ≠ S.dxB := News.ne N i1 i2 fun e => nomatch congrArg Obj.data e
  have ne2 : S.xB ≠ S.dB := News.ne N i1 i3 fun e => dict_ne_plain hdB e.symm
  have ne3 : S.dxB ≠ S.dB := by have := O.o_xB; have := O.o_dB; omega
  have hr : ∀ p ∈ off S.dB (tmps ++ Led w S odF odB odO vF nF vW nW tv nT prs), p.1 ≠ S.dB := fun q hq => (mem_off.mp hq).2
  have N0 : News h₀ S.L s.heap ((S.xB, instObj 88 S.dxB) :: (S.dxB, cont w S.tB1 S.tB2 S.tB3 S.tB4 S.s2 (.ref S.fB) S.dB) :: (S.dB, odB) :: off S.dB (tmps ++ Led w S odF odB odO vF nF vW nW tv nT prs)) := News.sub N fun q hq => by
    simp only [List.mem_cons] at hq
    rcases hq with rfl | rfl | rfl | hq
    · exact i1
    · exact i2
    · exact i3
    · exact (mem_off.mp hq).1

  refine got_miss (outer := []) (dp := 400) X B T X T CB ktsDicts_nil hA hf hke hh (by omega) hdep (by omega) F N0 hdB O.loB hlen ne1 ne2 ne3 hr hv fun l h' h₀' tk T' _ _ F' N' lt => ?_
  obtain ⟨_, _, l3, l4⟩ := lt
  have hl : ∀ q ∈ tmps ++ Led w S odF odB odO vF nF vW nW tv nT prs, q.1 < l := fun q hq => by
    by_cases e : q.1 = S.dB
    · rw [e]; exact l3
    · exact allLt_mem l4 q (mem_off.mpr ⟨hq, e⟩)
  refine q l h' tk (fr_back T' F') (News.sub (news_back T' N') ?_) (hl _ (List.mem_append_right _ Led.m_dO)) (fun q hq => hl q (List.mem_append_left _ hq))
  intro q hq
  rcases List.mem_cons.mp hq with rfl | hq
  · exact .head _
  · exact .tail _ (fin_dB O hp hup q hq)
theorem keysB {Q : Value → Shared → Prop} (O : Ok S) (hp : PrsUp S prs) (X : (hd.heap_39 w.params).In h₀) (T : Top topProg loose mean mg mb h₀) (B : Below callerA h₀ [] h₀) (CB : CodeB h₀) (hA : A.frames = some [env]) (hf : env.frame = some S.L) (hke : env.scope.kind = .function) (hh : A.handled = none) (hdep : A.depth ≤ 400) (hun : A.units ≤ 1000)
  (F : Fr h₀ S.L s.heap m) (N : News h₀ S.L s.heap (tmps ++ Led w S odF odB odO vF nF vW nW tv nT prs)) (hup : ∀ q ∈ tmps, S.dO < q.1) (hdB : odB.IsDictOf (PySem.intKind PySem.Challenge.rw_aj5039_01.row.prog w) kB) (hlen : kB.length ≤ 10)
  (q : ∀ l so h' tk, Fr h₀ S.L h' m → News h₀ S.L h' ((l, so) :: (tmps ++ Led w S odF odB odO vF nF vW nW tv nT prs)) → S.dO < l → (∀ q ∈ tmps, q.1 < l) → SetIs so (kB.map (·.1)) → Q (.ref l) { s with heap := h', toks := tk }) :
  wpAny (model PySem.Challenge.rw_aj5039_01.row.prog w) A (call (.ref 85) [.ref S.xB]) Q E s := by
  have i1 : (S.xB, instObj 88 S.dxB) ∈ tmps ++ Led w S odF odB odO vF nF vW nW tv nT prs := List.mem_append_right _ Led.m_xB
  have i2 : (S.dxB, cont w S.tB1 S.tB2 S.tB3 S.tB4 S.s2 (.ref S.fB) S.dB) ∈ tmps ++ Led w S odF odB odO vF nF vW nW tv nT prs := List.mem_append_right _ Led.m_dxB
  have i3 : (S.dB, odB) ∈ tmps ++ Led w S odF odB odO vF nF vW nW tv nT prs := List.mem_append_right _ Led.m_dB
  have ne1 : S.xB ≠ S.dxB := News.ne N i1 i2 fun e => nomatch congrArg Obj.data e
  have ne2 : S.xB ≠ S.dB := News.ne N i1 i3 fun e => dict_ne_plain hdB e.symm
  have ne3 : S.dxB ≠ S.dB := by have := O.o_xB; have := O.o_dB; omega
  have hr : ∀ p ∈ off S.dB (tmps ++ Led w S odF odB odO vF nF vW nW tv nT prs), p.1 ≠ S.dB := fun q hq => (mem_off.mp hq).2
  have N0 : News h₀ S.L s.heap ((S.xB, instObj 88 S.dxB) :: (S.dxB, cont w S.tB1 S.tB2 S.tB3 S.tB4 S.s2 (.ref S.fB) S.dB) :: (S.dB, odB) :: off S.dB (tmps ++ Led w S odF odB odO vF nF vW nW tv nT prs)) := News.sub N fun q hq => by
    simp only [List.mem_cons] at hq
    rcases hq with rfl | rfl | rfl | hq
    · exact i1
    · exact i2
    · exact i3
    · exact (mem_off.mp hq).1

  refine keys_of (outer := []) (dp := 400) X B T X T CB ktsDicts_nil hA hf hke hh (by omega) hdep (by omega) F N0 hdB O.loB hlen ne1 ne2 ne3 hr fun l so h' h₀' tk T' _ _ F' N' hs lt => ?_
  obtain ⟨_, _, l3, l4⟩ := lt
  have hl : ∀ q ∈ tmps ++ Led w S odF odB odO vF nF vW nW tv nT prs, q.1 < l := fun q hq => by
    by_cases e : q.1 = S.dB
    · rw [e]; exact l3
    · exact allLt_mem l4 q (mem_off.mpr ⟨hq, e⟩)
  refine q l so h' tk (fr_back T' F') (News.sub (news_back T' N') ?_) (hl _ (List.mem_append_right _ Led.m_dO)) (fun q hq => hl q (List.mem_append_left _ hq)) hs
  intro q hq
  rcases List.mem_cons.mp hq with rfl | hq
  · exact .head _
  · exact .tail _ (fin_dB O hp hup q hq)
theorem keysSB {Q : Value → Shared → Prop} (O : Ok S) (hp : PrsUp S prs) (X : (hd.heap_39 w.params).In h₀) (T : Top topProg loose mean mg mb h₀) (B : Below callerA h₀ [] h₀) (CB : CodeB h₀) (hA : A.frames = some [env]) (hf : env.frame = some S.L) (hke : env.scope.kind = .function) (hh : A.handled = none) (hdep : A.depth ≤ 400) (hun : A.units ≤ 1000)
  (F : Fr h₀ S.L s.heap m) (N : News h₀ S.L s.heap (tmps ++ Led w S odF odB odO vF nF vW nW tv nT prs)) (hup : ∀ q ∈ tmps, S.dO < q.1) (hdB : odB.IsDictOf (PySem.intKind PySem.Challenge.rw_aj5039_01.row.prog w) kB) (hlen : kB.length ≤ 3) (h7 : ∀ k ∈ kB.map (·.1), 0 ≤ k ∧ k < 7)
  (q : ∀ l so h' tk, Fr h₀ S.L h' m → News h₀ S.L h' ((l, so) :: (tmps ++ Led w S odF odB odO vF nF vW nW tv nT prs)) → S.dO < l → (∀ q ∈ tmps, q.1 < l) → SmOf w so (kB.map (·.1)) → Q (.ref l) { s with heap := h', toks := tk }) :
  wpAny (model PySem.Challenge.rw_aj5039_01.row.prog w) A (call (.ref 85) [.ref S.xB]) Q E s := by
  have i1 : (S.xB, instObj 88 S.dxB) ∈ tmps ++ Led w S odF odB odO vF nF vW nW tv nT prs := List.mem_append_right _ Led.m_xB
  have i2 : (S.dxB, cont w S.tB1 S.tB2 S.tB3 S.tB4 S.s2 (.ref S.fB) S.dB) ∈ tmps ++ Led w S odF odB odO vF nF vW nW tv nT prs := List.mem_append_right _ Led.m_dxB
  have i3 : (S.dB, odB) ∈ tmps ++ Led w S odF odB odO vF nF vW nW tv nT prs := List.mem_append_right _ Led.m_dB
  have ne1 : S.xB ≠ S.dxB := News.ne N i1 i2 fun e => nomatch congrArg Obj.data e
  have ne2 : S.xB ≠ S.dB := News.ne N i1 i3 fun e => dict_ne_plain hdB e.symm
  have ne3 : S.dxB ≠ S.dB := by have := O.o_xB; have := O.o_dB; omega
  have hr : ∀ p ∈ off S.dB (tmps ++ Led w S odF odB odO vF nF vW nW tv nT prs), p.1 ≠ S.dB := fun q hq => (mem_off.mp hq).2
  have N0 : News h₀ S.L s.heap ((S.xB, instObj 88 S.dxB) :: (S.dxB, cont w S.tB1 S.tB2 S.tB3 S.tB4 S.s2 (.ref S.fB) S.dB) :: (S.dB, odB) :: off S.dB (tmps ++ Led w S odF odB odO vF nF vW nW tv nT prs)) := News.sub N fun q hq => by
    simp only [List.mem_cons] at hq
    rcases hq with rfl | rfl | rfl | hq
    · exact i1
    · exact i2
    · exact i3
    · exact (mem_off.mp hq).1

  refine keys_small (outer := []) (dp := 400) X B T X T CB ktsDicts_nil hA hf hke hh (by omega) hdep (by omega) F N0 hdB O.loB (by omega) ne1 ne2 ne3 hr hlen h7 fun l so h' h₀' tk T' _ _ F' N' hs lt => ?_
  obtain ⟨_, _, l3, l4⟩ := lt
  have hl : ∀ q ∈ tmps ++ Led w S odF odB odO vF nF vW nW tv nT prs, q.1 < l := fun q hq => by
    by_cases e : q.1 = S.dB
    · rw [e]; exact l3
    · exact allLt_mem l4 q (mem_off.mpr ⟨hq, e⟩)
  refine q l so h' tk (fr_back T' F') (News.sub (news_back T' N') ?_) (hl _ (List.mem_append_right _ Led.m_dO)) (fun q hq => hl q (List.mem_append_left _ hq)) hs
  intro q hq
  rcases List.mem_cons.mp hq with rfl | hq
  · exact .head _
  · exact .tail _ (fin_dB O hp hup q hq)
theorem lenB {Q : Value → Shared → Prop} (O : Ok S) (hp : PrsUp S prs) (X : (hd.heap_39 w.params).In h₀) (T : Top topProg loose mean mg mb h₀) (B : Below callerA h₀ [] h₀) (CB : CodeB h₀) (hA : A.frames = some [env]) (hf : env.frame = some S.L) (hke : env.scope.kind = .function) (hh : A.handled = none) (hdep : A.depth ≤ 400) (hun : A.units ≤ 1000)
  (F : Fr h₀ S.L s.heap m) (N : News h₀ S.L s.heap (tmps ++ Led w S odF odB odO vF nF vW nW tv nT prs)) (hup : ∀ q ∈ tmps, S.dO < q.1) (hdB : odB.IsDictOf (PySem.intKind PySem.Challenge.rw_aj5039_01.row.prog w) kB) (hlen : kB.length ≤ 10)
  (q : ∀ u h' tk, Fr h₀ S.L h' m → News h₀ S.L h' (tmps ++ Led w S odF odB odO vF nF vW nW tv nT prs) → Q (.int kB.length u) { s with heap := h', toks := tk }) :
  wpAny (model PySem.Challenge.rw_aj5039_01.row.prog w) A (call (.builtin "len") [.ref S.xB]) Q E s := by
  have i1 : (S.xB, instObj 88 S.dxB) ∈ tmps ++ Led w S odF odB odO vF nF vW nW tv nT prs := List.mem_append_right _ Led.m_xB
  have i2 : (S.dxB, cont w S.tB1 S.tB2 S.tB3 S.tB4 S.s2 (.ref S.fB) S.dB) ∈ tmps ++ Led w S odF odB odO vF nF vW nW tv nT prs := List.mem_append_right _ Led.m_dxB
  have i3 : (S.dB, odB) ∈ tmps ++ Led w S odF odB odO vF nF vW nW tv nT prs := List.mem_append_right _ Led.m_dB
  have ne1 : S.xB ≠ S.dxB := News.ne N i1 i2 fun e => nomatch congrArg Obj.data e
  have ne2 : S.xB ≠ S.dB := News.ne N i1 i3 fun e => dict_ne_plain hdB e.symm
  have ne3 : S.dxB ≠ S.dB := by have := O.o_xB; have := O.o_dB; omega
  have hr : ∀ p ∈ off S.dB (tmps ++ Led w S odF odB odO vF nF vW nW tv nT prs), p.1 ≠ S.dB := fun q hq => (mem_off.mp hq).2
  have N0 : News h₀ S.L s.heap ((S.xB, instObj 88 S.dxB) :: (S.dxB, cont w S.tB1 S.tB2 S.tB3 S.tB4 S.s2 (.ref S.fB) S.dB) :: (S.dB, odB) :: off S.dB (tmps ++ Led w S odF odB odO vF nF vW nW tv nT prs)) := News.sub N fun q hq => by
    simp only [List.mem_cons] at hq
    rcases hq with rfl | rfl | rfl | hq
    · exact i1
    · exact i2
    · exact i3
    · exact (mem_off.mp hq).1

  refine len_of (outer := []) (dp := 400) X B T X T CB ktsDicts_nil hA hf hke hh (by omega) hdep (by omega) F N0 hdB O.loB hlen ne1 ne2 ne3 hr fun u h' h₀' tk T' _ _ F' N' => ?_
  exact q u h' tk (fr_back T' F') (News.sub (news_back T' N') (fun q hq => fin_dB O hp hup q hq))
theorem up_dO (O : Ok S) (hup : ∀ q ∈ tmps, S.dO < q.1) : ∀ q ∈ tmps, q.1 ≠ S.dO := fun q hq => by (have h9 : S.dO < q.1 := hup q hq; exact Nat.ne_of_gt (by omega))
theorem fin_dO (O : Ok S) (hp : PrsUp S prs) (hup : ∀ q ∈ tmps, S.dO < q.1) {o : Obj} : ∀ q ∈ tmps ++ Led w S odF odB o vF nF vW nW tv nT prs, q ∈ (S.xO, instObj 88 S.dxO) :: (S.dxO, cont w S.tO1 S.tO2 S.tO3 S.tO4 (S.s1 + S.s2) (.ref S.fO) S.dO) :: (S.dO, o) :: off S.dO (tmps ++ Led w S odF odB odO vF nF vW nW tv nT prs) := fun q hq => by
  rcases mem_upd.mp (upd_app (o := o) (up_dO O hup) (fun q => UpdF.upd (Led.u_dO O hp) o q) q hq) with ⟨rfl, _⟩ | h
  · exact .tail _ (.tail _ (.head _))
  · exact .tail _ (.tail _ (.tail _ (mem_off.mpr h)))
theorem gotO_hit {Q : Value → Shared → Prop} (O : Ok S) (hp : PrsUp S prs) (X : (hd.heap_39 w.params).In h₀) (T : Top topProg loose mean mg mb h₀) (B : Below callerA h₀ [] h₀) (CB : CodeB h₀) (hA : A.frames = some [env]) (hf : env.frame = some S.L) (hke : env.scope.kind = .function) (hh : A.handled = none) (hdep : A.depth ≤ 400) (hun : A.units ≤ 1000)
  (F : Fr h₀ S.L s.heap m) (N : News h₀ S.L s.heap (tmps ++ Led w S odF odB odO vF nF vW nW tv nT prs)) (hup : ∀ q ∈ tmps, S.dO < q.1) (hdO : odO.IsDictOf (PySem.intKind PySem.Challenge.rw_aj5039_01.row.prog w) kO) (hlen : kO.length ≤ 10) (hv : valueAt kO k = some v)
  (q : ∀ l h' tk od', Fr h₀ S.L h' m → News h₀ S.L h' ((l, listOf #[v] 0) :: (tmps ++ Led w S odF odB od' vF nF vW nW tv nT prs)) → S.dO < l → (∀ q ∈ tmps, q.1 < l) → od'.IsDictOf (PySem.intKind PySem.Challenge.rw_aj5039_01.row.prog w) (without kO k ++ [(k, v)]) → Q (.ref l) { s with heap := h', toks := tk }) :
  wpAny (model PySem.Challenge.rw_aj5039_01.row.prog w) A (call (.ref 99) [.ref S.xO, .int k t]) Q E s := by
  have i1 : (S.xO, instObj 88 S.dxO) ∈ tmps ++ Led w S odF odB odO vF nF vW nW tv nT prs := List.mem_append_right _ Led.m_xO
  have i2 : (S.dxO, cont w S.tO1 S.tO2 S.tO3 S.tO4 (S.s1 + S.s2) (.ref S.fO) S.dO) ∈ tmps ++ Led w S odF odB odO vF nF vW nW tv nT prs := List.mem_append_right _ Led.m_dxO
  have i3 : (S.dO, odO) ∈ tmps ++ Led w S odF odB odO vF nF vW nW tv nT prs := List.mem_append_right _ Led.m_dO
  have ne1 : S.xO ≠ S.dxO := News.ne N i1 i2 fun e => nomatch congrArg Obj.data e
  have ne2 : S.xO ≠ S.dO := News.ne N i1 i3 fun e => dict_ne_plain hdO e.symm
  have ne3 : S.dxO ≠ S.dO := by have := O.o_xO; have := O.o_dO; omega
  have hr : ∀ p ∈ off S.dO (tmps ++ Led w S odF odB odO vF nF vW nW tv nT prs), p.1 ≠ S.dO := fun q hq => (mem_off.mp hq).2
  have N0 : News h₀ S.L s.heap ((S.xO, instObj 88 S.dxO) :: (S.dxO, cont w S.tO1 S.tO2 S.tO3 S.tO4 (S.s1 + S.s2) (.ref S.fO) S.dO) :: (S.dO, odO) :: off S.dO (tmps ++ Led w S odF odB odO vF nF vW nW tv nT prs)) := News.sub N fun q hq => by
    simp only [List.mem_cons] at hq
    rcases hq with rfl | rfl | rfl | hq
    · exact i1
    · exact i2
    · exact i3
    · exact (mem_off.mp hq).1

  refine got_hit (outer := []) (dp := 400) X B T X T CB ktsDicts_nil hA hf hke hh (by omega) hdep (by omega) F N0 hdO O.loO hlen ne1 ne2 ne3 hr hv fun l h' h₀' tk od' T' _ _ F' N' hd' lt => ?_
  obtain ⟨_, _, l3, l4⟩ := lt
  have hl : ∀ q ∈ tmps ++ Led w S odF odB odO vF nF vW nW tv nT prs, q.1 < l := fun q hq => by
    by_cases e : q.1 = S.dO
    · rw [e]; exact l3
    · exact allLt_mem l4 q (mem_off.mpr ⟨hq, e⟩)
  refine q l h' tk od' (fr_back T' F') (News.sub (news_back T' N') ?_) (hl _ (List.mem_append_right _ Led.m_dO)) (fun q hq => hl q (List.mem_append_left _ hq)) hd'
  intro q hq
  rcases List.mem_cons.mp hq with rfl | hq
  · exact .head _
  · exact .tail _ (fin_dO O hp hup q hq)
theorem gotO_miss {Q : Value → Shared → Prop} (O : Ok S) (hp : PrsUp S prs) (X : (hd.heap_39 w.params).In h₀) (T : Top topProg loose mean mg mb h₀) (B : Below callerA h₀ [] h₀) (CB : CodeB h₀) (hA : A.frames = some [env]) (hf : env.frame = some S.L) (hke : env.scope.kind = .function) (hh : A.handled = none) (hdep : A.depth ≤ 400) (hun : A.units ≤ 1000)
  (F : Fr h₀ S.L s.heap m) (N : News h₀ S.L s.heap (tmps ++ Led w S odF odB odO vF nF vW nW tv nT prs)) (hup : ∀ q ∈ tmps, S.dO < q.1) (hdO : odO.IsDictOf (PySem.intKind PySem.Challenge.rw_aj5039_01.row.prog w) kO) (hlen : kO.length ≤ 10) (hv : valueAt kO k = none)
  (q : ∀ l h' tk, Fr h₀ S.L h' m → News h₀ S.L h' ((l, listOf #[] 0) :: (tmps ++ Led w S odF odB odO vF nF vW nW tv nT prs)) → S.dO < l → (∀ q ∈ tmps, q.1 < l) → Q (.ref l) { s with heap := h', toks := tk }) :
  wpAny (model PySem.Challenge.rw_aj5039_01.row.prog w) A (call (.ref 99) [.ref S.xO, .int k t]) Q E s := by
  have i1 : (S.xO, instObj 88 S.dxO) ∈ tmps ++ Led w S odF odB odO vF nF vW nW tv nT prs := List.mem_append_right _ Led.m_xO
  have i2 : (S.dxO, cont w S.tO1 S.tO2 S.tO3 S.tO4 (S.s1 + S.s2) (.ref S.fO) S.dO) ∈ tmps ++ Led w S odF odB odO vF nF vW nW tv nT prs := List.mem_append_right _ Led.m_dxO
  have i3 : (S.dO, odO) ∈ tmps ++ Led w S odF odB odO vF nF vW nW tv nT prs := List.mem_append_right _ Led.m_dO
  have ne1 : S.xO ≠ S.dxO := News.ne N i1 i2 fun e => nomatch congrArg Obj.data e
  have ne2 : S.xO ≠ S.dO := News.ne N i1 i3 fun e => dict_ne_plain hdO e.symm
  have ne3 : S.dxO ≠ S.dO := by have := O.o_xO; have := O.o_dO; omega
  have hr : ∀ p ∈ off S.dO (tmps ++ Led w S odF odB odO vF nF vW nW tv nT prs), p.1 ≠ S.dO := fun q hq => (mem_off.mp hq).2
  have N0 : News h₀ S.L s.heap ((S.xO, instObj 88 S.dxO) :: (S.dxO, cont w S.tO1 S.tO2 S.tO3 S.tO4 (S.s1 + S.s2) (.ref S.fO) S.dO) :: (S.dO, odO) :: off S.dO (tmps ++ Led w S odF odB odO vF nF vW nW tv nT prs)) := News.sub N fun q hq => by
    simp only [List.mem_cons] at hq
    rcases hq with rfl | rfl | rfl | hq
    · exact i1
    · exact i2
    · exact i3
    · exact (mem_off.mp hq).1

  refine got_miss (outer := []) (dp := 400) X B T X T CB ktsDicts_nil hA hf hke hh (by omega) hdep (by omega) F N0 hdO O.loO hlen ne1 ne2 ne3 hr hv fun l h' h₀' tk T' _ _ F' N' lt => ?_
  obtain ⟨_, _, l3, l4⟩ := lt
  have hl : ∀ q ∈ tmps ++ Led w S odF odB odO vF nF vW nW tv nT prs, q.1 < l := fun q hq => by
    by_cases e : q.1 = S.dO
    · rw [e]; exact l3
    · exact allLt_mem l4 q (mem_off.mpr ⟨hq, e⟩)
  refine q l h' tk (fr_back T' F') (News.sub (news_back T' N') ?_) (hl _ (List.mem_append_right _ Led.m_dO)) (fun q hq => hl q (List.mem_append_left _ hq))
  intro q hq
  rcases List.mem_cons.mp hq with rfl | hq
  · exact .head _
  · exact .tail _ (fin_dO O hp hup q hq)
theorem keysO {Q : Value → Shared → Prop} (O : Ok S) (hp : PrsUp S prs) (X : (hd.heap_39 w.params).In h₀) (T : Top topProg loose mean mg mb h₀) (B : Below callerA h₀ [] h₀) (CB : CodeB h₀) (hA : A.frames = some [env]) (hf : env.frame = some S.L) (hke : env.scope.kind = .function) (hh : A.handled = none) (hdep : A.depth ≤ 400) (hun : A.units ≤ 1000)
  (F : Fr h₀ S.L s.heap m) (N : News h₀ S.L s.heap (tmps ++ Led w S odF odB odO vF nF vW nW tv nT prs)) (hup : ∀ q ∈ tmps, S.dO < q.1) (hdO : odO.IsDictOf (PySem.intKind PySem.Challenge.rw_aj5039_01.row.prog w) kO) (hlen : kO.length ≤ 10)
  (q : ∀ l so h' tk, Fr h₀ S.L h' m → News h₀ S.L h' ((l, so) :: (tmps ++ Led w S odF odB odO vF nF vW nW tv nT prs)) → S.dO < l → (∀ q ∈ tmps, q.1 < l) → SetIs so (kO.map (·.1)) → Q (.ref l) { s with heap := h', toks := tk }) :
  wpAny (model PySem.Challenge.rw_aj5039_01.row.prog w) A (call (.ref 85) [.ref S.xO]) Q E s := by
  have i1 : (S.xO, instObj 88 S.dxO) ∈ tmps ++ Led w S odF odB odO vF nF vW nW tv nT prs := List.mem_append_right _ Led.m_xO
  have i2 : (S.dxO, cont w S.tO1 S.tO2 S.tO3 S.tO4 (S.s1 + S.s2) (.ref S.fO) S.dO) ∈ tmps ++ Led w S odF odB odO vF nF vW nW tv nT prs := List.mem_append_right _ Led.m_dxO
  have i3 : (S.dO, odO) ∈ tmps ++ Led w S odF odB odO vF nF vW nW tv nT prs := List.mem_append_right _ Led.m_dO
  have ne1 : S.xO ≠ S.dxO := News.ne N i1 i2 fun e => nomatch congrArg Obj.data e
  have ne2 : S.xO ≠ S.dO := News.ne N i1 i3 fun e => dict_ne_plain hdO e.symm
  have ne3 : S.dxO ≠ S.dO := by have := O.o_xO; have := O.o_dO; omega
  have hr : ∀ p ∈ off S.dO (tmps ++ Led w S odF odB odO vF nF vW nW tv nT prs), p.1 ≠ S.dO := fun q hq => (mem_off.mp hq).2
  have N0 : News h₀ S.L s.heap ((S.xO, instObj 88 S.dxO) :: (S.dxO, cont w S.tO1 S.tO2 S.tO3 S.tO4 (S.s1 + S.s2) (.ref S.fO) S.dO) :: (S.dO, odO) :: off S.dO (tmps ++ Led w S odF odB odO vF nF vW nW tv nT prs)) := News.sub N fun q hq => by
    simp only [List.mem_cons] at hq
    rcases hq with rfl | rfl | rfl | hq
    · exact i1
    · exact i2
    · exact i3
    · exact (mem_off.mp hq).1

  refine keys_of (outer := []) (dp := 400) X B T X T CB ktsDicts_nil hA hf hke hh (by omega) hdep (by omega) F N0 hdO O.loO hlen ne1 ne2 ne3 hr fun l so h' h₀' tk T' _ _ F' N' hs lt => ?_
  obtain ⟨_, _, l3, l4⟩ := lt
  have hl : ∀ q ∈ tmps ++ Led w S odF odB odO vF nF vW nW tv nT prs, q.1 < l := fun q hq => by
    by_cases e : q.1 = S.dO
    · rw [e]; exact l3
    · exact allLt_mem l4 q (mem_off.mpr ⟨hq, e⟩)
  refine q l so h' tk (fr_back T' F') (News.sub (news_back T' N') ?_) (hl _ (List.mem_append_right _ Led.m_dO)) (fun q hq => hl q (List.mem_append_left _ hq)) hs
  intro q hq
  rcases List.mem_cons.mp hq with rfl | hq
  · exact .head _
  · exact .tail _ (fin_dO O hp hup q hq)
theorem keysSO {Q : Value → Shared → Prop} (O : Ok S) (hp : PrsUp S prs) (X : (hd.heap_39 w.params).In h₀) (T : Top topProg loose mean mg mb h₀) (B : Below callerA h₀ [] h₀) (CB : CodeB h₀) (hA : A.frames = some [env]) (hf : env.frame = some S.L) (hke : env.scope.kind = .function) (hh : A.handled = none) (hdep : A.depth ≤ 400) (hun : A.units ≤ 1000)
  (F : Fr h₀ S.L s.heap m) (N : News h₀ S.L s.heap (tmps ++ Led w S odF odB odO vF nF vW nW tv nT prs)) (hup : ∀ q ∈ tmps, S.dO < q.1) (hdO : odO.IsDictOf (PySem.intKind PySem.Challenge.rw_aj5039_01.row.prog w) kO) (hlen : kO.length ≤ 3) (h7 : ∀ k ∈ kO.map (·.1), 0 ≤ k ∧ k < 7)
  (q : ∀ l so h' tk, Fr h₀ S.L h' m → News h₀ S.L h' ((l, so) :: (tmps ++ Led w S odF odB odO vF nF vW nW tv nT prs)) → S.dO < l → (∀ q ∈ tmps, q.1 < l) → SmOf w so (kO.map (·.1)) → Q (.ref l) { s with heap := h', toks := tk }) :
  wpAny (model PySem.Challenge.rw_aj5039_01.row.prog w) A (call (.ref 85) [.ref S.xO]) Q E s := by
  have i1 : (S.xO, instObj 88 S.dxO) ∈ tmps ++ Led w S odF odB odO vF nF vW nW tv nT prs := List.mem_append_right _ Led.m_xO
  have i2 : (S.dxO, cont w S.tO1 S.tO2 S.tO3 S.tO4 (S.s1 + S.s2) (.ref S.fO) S.dO) ∈ tmps ++ Led w S odF odB odO vF nF vW nW tv nT prs := List.mem_append_right _ Led.m_dxO
  have i3 : (S.dO, odO) ∈ tmps ++ Led w S odF odB odO vF nF vW nW tv nT prs := List.mem_append_right _ Led.m_dO
  have ne1 : S.xO ≠ S.dxO := News.ne N i1 i2 fun e => nomatch congrArg Obj.data e
  have ne2 : S.xO ≠ S.dO := News.ne N i1 i3 fun e => dict_ne_plain hdO e.symm
  have ne3 : S.dxO ≠ S.dO := by have := O.o_xO; have := O.o_dO; omega
  have hr : ∀ p ∈ off S.dO (tmps ++ Led w S odF odB odO vF nF vW nW tv nT prs), p.1 ≠ S.dO := fun q hq => (mem_off.mp hq).2
  have N0 : News h₀ S.L s.heap ((S.xO, instObj 88 S.dxO) :: (S.dxO, cont w S.tO1 S.tO2 S.tO3 S.tO4 (S.s1 + S.s2) (.ref S.fO) S.dO) :: (S.dO, odO) :: off S.dO (tmps ++ Led w S odF odB odO vF nF vW nW tv nT prs)) := News.sub N fun q hq => by
    simp only [List.mem_cons] at hq
    rcases hq with rfl | rfl | rfl | hq
    · exact i1
    · exact i2
    · exact i3
    · exact (mem_off.mp hq).1

  refine keys_small (outer := []) (dp := 400) X B T X T CB ktsDicts_nil hA hf hke hh (by omega) hdep (by omega) F N0 hdO O.loO (by omega) ne1 ne2 ne3 hr hlen h7 fun l so h' h₀' tk T' _ _ F' N' hs lt => ?_
  obtain ⟨_, _, l3, l4⟩ := lt
  have hl : ∀ q ∈ tmps ++ Led w S odF odB odO vF nF vW nW tv nT prs, q.1 < l := fun q hq => by
    by_cases e : q.1 = S.dO
    · rw [e]; exact l3
    · exact allLt_mem l4 q (mem_off.mpr ⟨hq, e⟩)
  refine q l so h' tk (fr_back T' F') (News.sub (news_back T' N') ?_) (hl _ (List.mem_append_right _ Led.m_dO)) (fun q hq => hl q (List.mem_append_left _ hq)) hs
  intro q hq
  rcases List.mem_cons.mp hq with rfl | hq
  · exact .head _
  · exact .tail _ (fin_dO O hp hup q hq)
theorem lenO {Q : Value → Shared → Prop} (O : Ok S) (hp : PrsUp S prs) (X : (hd.heap_39 w.params).In h₀) (T : Top topProg loose mean mg mb h₀) (B : Below callerA h₀ [] h₀) (CB : CodeB h₀) (hA : A.frames = some [env]) (hf : env.frame = some S.L) (hke : env.scope.kind = .function) (hh : A.handled = none) (hdep : A.depth ≤ 400) (hun : A.units ≤ 1000)
  (F : Fr h₀ S.L s.heap m) (N : News h₀ S.L s.heap (tmps ++ Led w S odF odB odO vF nF vW nW tv nT prs)) (hup : ∀ q ∈ tmps, S.dO < q.1) (hdO : odO.IsDictOf (PySem.intKind PySem.Challenge.rw_aj5039_01.row.prog w) kO) (hlen : kO.length ≤ 10)
  (q : ∀ u h' tk, Fr h₀ S.L h' m → News h₀ S.L h' (tmps ++ Led w S odF odB odO vF nF vW nW tv nT prs) → Q (.int kO.length u) { s with heap := h', toks := tk }) :
  wpAny (model PySem.Challenge.rw_aj5039_01.row.prog w) A (call (.builtin "len") [.ref S.xO]) Q E s := by
  have i1 : (S.xO, instObj 88 S.dxO) ∈ tmps ++ Led w S odF odB odO vF nF vW nW tv nT prs := List.mem_append_right _ Led.m_xO
  have i2 : (S.dxO, cont w S.tO1 S.tO2 S.tO3 S.tO4 (S.s1 + S.s2) (.ref S.fO) S.dO) ∈ tmps ++ Led w S odF odB odO vF nF vW nW tv nT prs := List.mem_append_right _ Led.m_dxO
  have i3 : (S.dO, odO) ∈ tmps ++ Led w S odF odB odO vF nF vW nW tv nT prs := List.mem_append_right _ Led.m_dO
  have ne1 : S.xO ≠ S.dxO := News.ne N i1 i2 fun e => nomatch congrArg Obj.data e
  have ne2 : S.xO ≠ S.dO := News.ne N i1 i3 fun e => dict_ne_plain hdO e.symm
  have ne3 : S.dxO ≠ S.dO := by have := O.o_xO; have := O.o_dO; omega
  have hr : ∀ p ∈ off S.dO (tmps ++ Led w S odF odB odO vF nF vW nW tv nT prs), p.1 ≠ S.dO := fun q hq => (mem_off.mp hq).2
  have N0 : News h₀ S.L s.heap ((S.xO, instObj 88 S.dxO) :: (S.dxO, cont w S.tO1 S.tO2 S.tO3 S.tO4 (S.s1 + S.s2) (.ref S.fO) S.dO) :: (S.dO, odO) :: off S.dO (tmps ++ Led w S odF odB odO vF nF vW nW tv nT prs)) := News.sub N fun q hq => by
    simp only [List.mem_cons] at hq
    rcases hq with rfl | rfl | rfl | hq
    · exact i1
    · exact i2
    · exact i3
    · exact (mem_off.mp hq).1

  refine len_of (outer := []) (dp := 400) X B T X T CB ktsDicts_nil hA hf hke hh (by omega) hdep (by omega) F N0 hdO O.loO hlen ne1 ne2 ne3 hr fun u h' h₀' tk T' _ _ F' N' => ?_
  exact q u h' tk (fr_back T' F') (News.sub (news_back T' N') (fun q hq => fin_dO O hp hup q hq))
theorem setB {Q : Unit → Shared → Prop} (O : Ok S) (hp : PrsUp S prs) (X : (hd.heap_39 w.params).In h₀) (T : Top topProg loose mean mg mb h₀) (B : Below callerA h₀ [] h₀) (CB : CodeB h₀) (hA : A.frames = some [env]) (hf : env.frame = some S.L) (hke : env.scope.kind = .function) (hh : A.handled = none) (hdep : A.depth ≤ 400) (hun : A.units ≤ 1000)
  (F : Fr h₀ S.L s.heap m) (N : News h₀ S.L s.heap (tmps ++ Led w S odF odB odO vF nF vW nW (.int key tkey) nT prs)) (hup : ∀ q ∈ tmps, S.dO < q.1) (hdB : odB.IsDictOf (PySem.intKind PySem.Challenge.rw_aj5039_01.row.prog w) kB) (hlen : kB.length ≤ 10) (hz : vF.length ≤ 40) (hT : Tups prs kB) (hpv : (pv, tup2 k tp vp) ∈ tmps ++ Led w S odF odB odO vF nF vW nW (.int key tkey) nT prs)
  (q : ∀ h' tk od' n', Fr h₀ S.L h' m → News h₀ S.L h' (tmps ++ Led w S odF od' odO (vF ++ fellL key (fellO S.s2 kB k (.ref pv))) n' vW nW (.int key tkey) nT prs) → od'.IsDictOf (PySem.intKind PySem.Challenge.rw_aj5039_01.row.prog w) (setD S.s2 kB k (.ref pv)) → Q () { s with heap := h', toks := tk }) :
  wpAny (model PySem.Challenge.rw_aj5039_01.row.prog w) A (setItem (.ref S.xB) (.int k t) (.ref pv)) Q E s := by
  have HD : DispL w 400 S.fB (mustOf S.fB (lamObjB S.L S.fa (S.L + 3) (S.L + 2) S.pm S.cB S.ctB) S.cB S.ocB (S.L + 2) S.oF (S.L + 3) S.oT S.lT (listOf #[.int key tkey] nT) S.lF (listOf vF.toArray nF)) S.lF vF key := lamB_disp O.hoB O.hqB O.hcF O.hcT (by have := O.o_lF; omega) hz (by omega)
  have hm : ∀ q ∈ mustOf S.fB (lamObjB S.L S.fa (S.L + 3) (S.L + 2) S.pm S.cB S.ctB) S.cB S.ocB (S.L + 2) S.oF (S.L + 3) S.oT S.lT (listOf #[.int key tkey] nT) S.lF (listOf vF.toArray nF), q ∈ tmps ++ Led w S odF odB odO vF nF vW nW (.int key tkey) nT prs := by
    intro q hq
    refine List.mem_append_right _ ?_
    simp only [mustOf, List.mem_cons, List.not_mem_nil, or_false] at hq
    rcases hq with rfl | rfl | rfl | rfl | rfl | rfl
    · exact Led.m_fB
    · exact Led.m_cB
    · exact Led.m_L2
    · exact Led.m_L3
    · exact Led.m_lT
    · exact Led.m_lF
  have hmd : ∀ q ∈ mustOf S.fB (lamObjB S.L S.fa (S.L + 3) (S.L + 2) S.pm S.cB S.ctB) S.cB S.ocB (S.L + 2) S.oF (S.L + 3) S.oT S.lT (listOf #[.int key tkey] nT) S.lF (listOf vF.toArray nF), q.1 ≠ S.dB := by
    intro q hq
    have := O.o_lN; have := O.o_lS; have := O.o_lT; have := O.o_lF; have := O.o_lW; have := O.o_cB; have := O.o_fB; have := O.o_dxB; have := O.o_xB; have := O.o_dB; 
    simp only [mustOf, List.mem_cons, List.not_mem_nil, or_false] at hq
    rcases hq with rfl | rfl | rfl | rfl | rfl | rfl <;> (show (_ : Nat) ≠ _; omega)
  have back : ∀ (h' : Heap) (od' : Obj) (l' : List Value) (n' : Nat), News h₀ S.L h' (upd S.lF (listOf l'.toArray n') (upd S.dB od' (tmps ++ Led w S odF odB odO vF nF vW nW (.int key tkey) nT prs))) → News h₀ S.L h' (tmps ++ Led w S odF od' odO l' n' vW nW (.int key tkey) nT prs) := fun h' od' l' n' N' => News.sub N' fun q hq => by
    have hl : ∀ q ∈ tmps, q.1 ≠ S.lF := fun q hq => by (have h9 : S.dO < q.1 := hup q hq; have := O.o_lW; have := O.o_cB; have := O.o_fB; have := O.o_dxB; have := O.o_xB; have := O.o_dB; have := O.o_cM; have := O.o_fM; have := O.o_dxF; have := O.o_xF; have := O.o_dF; have := O.o_cO; have := O.o_fO; have := O.o_dxO; have := O.o_xO; have := O.o_dO; exact Nat.ne_of_gt (by omega))
    have h1 : ∀ q ∈ tmps ++ Led w S odF od' odO vF nF vW nW (.int key tkey) nT prs, q ∈ upd S.dB od' (tmps ++ Led w S odF odB odO vF nF vW nW (.int key tkey) nT prs) := upd_app (up_dB O hup) (UpdF.upd (Led.u_dB O hp) od')
    exact upd_mono h1 q (upd_app hl (Led.u_lF O hp l' n') q hq)

  exact setL (outer := []) (dp := 400) X B T X T CB ktsDicts_nil hA hf hke hh (by omega) hdep (by omega) F N (List.mem_append_right _ Led.m_xB) (List.mem_append_right _ Led.m_dxB) (List.mem_append_right _ Led.m_dB) hdB O.loB hlen HD hm hmd (.head _) (.tail _ (.tail _ (.tail _ (.tail _ (.tail _ (.head _)))))) (hT.mono fun q hq => List.mem_append_right _ (Led.m_prs hq)) (by have := O.o_xB; have := O.o_dB; omega) rfl hpv fun h' h₀' tk od' n' T' _ _ F' N' hd' => q h' tk od' n' (fr_back T' F') (back _ _ _ _ (news_back T' N')) hd'
theorem delB {Q : Unit → Shared → Prop} (O : Ok S) (hp : PrsUp S prs) (X : (hd.heap_39 w.params).In h₀) (T : Top topProg loose mean mg mb h₀) (B : Below callerA h₀ [] h₀) (CB : CodeB h₀) (hA : A.frames = some [env]) (hf : env.frame = some S.L) (hke : env.scope.kind = .function) (hh : A.handled = none) (hdep : A.depth ≤ 400) (hun : A.units ≤ 1000)
  (F : Fr h₀ S.L s.heap m) (N : News h₀ S.L s.heap (tmps ++ Led w S odF odB odO vF nF vW nW (.int key tkey) nT prs)) (hup : ∀ q ∈ tmps, S.dO < q.1) (hdB : odB.IsDictOf (PySem.intKind PySem.Challenge.rw_aj5039_01.row.prog w) kB) (hlen : kB.length ≤ 10) (hz : vF.length ≤ 40) (hT : Tups prs kB) (hv : (valueAt kB k).isSome = true)
  (q : ∀ h' tk od' n', Fr h₀ S.L h' m → News h₀ S.L h' (tmps ++ Led w S odF od' odO (vF ++ fellL key (fellD kB k)) n' vW nW (.int key tkey) nT prs) → od'.IsDictOf (PySem.intKind PySem.Challenge.rw_aj5039_01.row.prog w) (without kB k) → Q () { s with heap := h', toks := tk }) :
  wpAny (model PySem.Challenge.rw_aj5039_01.row.prog w) A (delItem (.ref S.xB) (.int k t)) Q E s := by
  have HD : DispL w 400 S.fB (mustOf S.fB (lamObjB S.L S.fa (S.L + 3) (S.L + 2) S.pm S.cB S.ctB) S.cB S.ocB (S.L + 2) S.oF (S.L + 3) S.oT S.lT (listOf #[.int key tkey] nT) S.lF (listOf vF.toArray nF)) S.lF vF key := lamB_disp O.hoB O.hqB O.hcF O.hcT (by have := O.o_lF; omega) hz (by omega)
  have hm : ∀ q ∈ mustOf S.fB (lamObjB S.L S.fa (S.L + 3) (S.L + 2) S.pm S.cB S.ctB) S.cB S.ocB (S.L + 2) S.oF (S.L + 3) S.oT S.lT (listOf #[.int key tkey] nT) S.lF (listOf vF.toArray nF), q ∈ tmps ++ Led w S odF odB odO vF nF vW nW (.int key tkey) nT prs := by
    intro q hq
    refine List.mem_append_right _ ?_
    simp only [mustOf, List.mem_cons, List.not_mem_nil, or_false] at hq
    rcases hq with rfl | rfl | rfl | rfl | rfl | rfl
    · exact Led.m_fB
    · exact Led.m_cB
    · exact Led.m_L2
    · exact Led.m_L3
    · exact Led.m_lT
    · exact Led.m_lF
  have hmd : ∀ q ∈ mustOf S.fB (lamObjB S.L S.fa (S.L + 3) (S.L + 2) S.pm S.cB S.ctB) S.cB S.ocB (S.L + 2) S.oF (S.L + 3) S.oT S.lT (listOf #[.int key tkey] nT) S.lF (listOf vF.toArray nF), q.1 ≠ S.dB := by
    intro q hq
    have := O.o_lN; have := O.o_lS; have := O.o_lT; have := O.o_lF; have := O.o_lW; have := O.o_cB; have := O.o_fB; have := O.o_dxB; have := O.o_xB; have := O.o_dB; 
    simp only [mustOf, List.mem_cons, List.not_mem_nil, or_false] at hq
    rcases hq with rfl | rfl | rfl | rfl | rfl | rfl <;> (show (_ : Nat) ≠ _; omega)
  have back : ∀ (h' : Heap) (od' : Obj) (l' : List Value) (n' : Nat), News h₀ S.L h' (upd S.lF (listOf l'.toArray n') (upd S.dB od' (tmps ++ Led w S odF odB odO vF nF vW nW (.int key tkey) nT prs))) → News h₀ S.L h' (tmps ++ Led w S odF od' odO l' n' vW nW (.int key tkey) nT prs) := fun h' od' l' n' N' => News.sub N' fun q hq => by
    have hl : ∀ q ∈ tmps, q.1 ≠ S.lF := fun q hq => by (have h9 : S.dO < q.1 := hup q hq; have := O.o_lW; have := O.o_cB; have := O.o_fB; have := O.o_dxB; have := O.o_xB; have := O.o_dB; have := O.o_cM; have := O.o_fM; have := O.o_dxF; have := O.o_xF; have := O.o_dF; have := O.o_cO; have := O.o_fO; have := O.o_dxO; have := O.o_xO; have := O.o_dO; exact Nat.ne_of_gt (by omega))
    have h1 : ∀ q ∈ tmps ++ Led w S odF od' odO vF nF vW nW (.int key tkey) nT prs, q ∈ upd S.dB od' (tmps ++ Led w S odF odB odO vF nF vW nW (.int key tkey) nT prs) := upd_app (up_dB O hup) (UpdF.upd (Led.u_dB O hp) od')
    exact upd_mono h1 q (upd_app hl (Led.u_lF O hp l' n') q hq)

  exact delL (outer := []) (dp := 400) X B T X T CB ktsDicts_nil hA hf hke hh (by omega) hdep (by omega) F N (List.mem_append_right _ Led.m_xB) (List.mem_append_right _ Led.m_dxB) (List.mem_append_right _ Led.m_dB) hdB O.loB hlen HD hm hmd (.head _) (.tail _ (.tail _ (.tail _ (.tail _ (.tail _ (.head _)))))) (hT.mono fun q hq => List.mem_append_right _ (Led.m_prs hq)) (by have := O.o_xB; have := O.o_dB; omega) hv fun h' h₀' tk od' n' T' _ _ F' N' hd' => q h' tk od' n' (fr_back T' F') (back _ _ _ _ (news_back T' N')) hd'
theorem deletedB {Q : Value → Shared → Prop} {b0 : Bool} (O : Ok S) (hp : PrsUp S prs) (X : (hd.heap_39 w.params).In h₀) (T : Top topProg loose mean mg mb h₀) (B : Below callerA h₀ [] h₀) (CB : CodeB h₀) (hA : A.frames = some [env]) (hf : env.frame = some S.L) (hke : env.scope.kind = .function) (hh : A.handled = none) (hdep : A.depth ≤ 400) (hun : A.units ≤ 1000)
  (F : Fr h₀ S.L s.heap m) (N : News h₀ S.L s.heap (tmps ++ Led w S odF odB odO vF nF vW nW (.int key tkey) nT prs)) (hup : ∀ q ∈ tmps, S.dO < q.1) (hdB : odB.IsDictOf (PySem.intKind PySem.Challenge.rw_aj5039_01.row.prog w) kB) (hlen : kB.length ≤ 10) (hz : vF.length ≤ 40) (hT : Tups prs kB) (hb : (valueAt kB k).isSome = b0)
  (q : ∀ h' tk od' n', Fr h₀ S.L h' m → News h₀ S.L h' (tmps ++ Led w S odF od' odO (vF ++ fellL key (fellD kB k)) n' vW nW (.int key tkey) nT prs) → od'.IsDictOf (PySem.intKind PySem.Challenge.rw_aj5039_01.row.prog w) (without kB k) → Q (.bool b0) { s with heap := h', toks := tk }) :
  wpAny (model PySem.Challenge.rw_aj5039_01.row.prog w) A (call (.ref 106) [.ref S.xB, .int k t]) Q E s := by
  subst hb
  have HD : DispL w 400 S.fB (mustOf S.fB (lamObjB S.L S.fa (S.L + 3) (S.L + 2) S.pm S.cB S.ctB) S.cB S.ocB (S.L + 2) S.oF (S.L + 3) S.oT S.lT (listOf #[.int key tkey] nT) S.lF (listOf vF.toArray nF)) S.lF vF key := lamB_disp O.hoB O.hqB O.hcF O.hcT (by have := O.o_lF; omega) hz (by omega)
  have hm : ∀ q ∈ mustOf S.fB (lamObjB S.L S.fa (S.L + 3) (S.L + 2) S.pm S.cB S.ctB) S.cB S.ocB (S.L + 2) S.oF (S.L + 3) S.oT S.lT (listOf #[.int key tkey] nT) S.lF (listOf vF.toArray nF), q ∈ tmps ++ Led w S odF odB odO vF nF vW nW (.int key tkey) nT prs := by
    intro q hq
    refine List.mem_append_right _ ?_
    simp only [mustOf, List.mem_cons, List.not_mem_nil, or_false] at hq
    rcases hq with rfl | rfl | rfl | rfl | rfl | rfl
    · exact Led.m_fB
    · exact Led.m_cB
    · exact Led.m_L2
    · exact Led.m_L3
    · exact Led.m_lT
    · exact Led.m_lF
  have hmd : ∀ q ∈ mustOf S.fB (lamObjB S.L S.fa (S.L + 3) (S.L + 2) S.pm S.cB S.ctB) S.cB S.ocB (S.L + 2) S.oF (S.L + 3) S.oT S.lT (listOf #[.int key tkey] nT) S.lF (listOf vF.toArray nF), q.1 ≠ S.dB := by
    intro q hq
    have := O.o_lN; have := O.o_lS; have := O.o_lT; have := O.o_lF; have := O.o_lW; have := O.o_cB; have := O.o_fB; have := O.o_dxB; have := O.o_xB; have := O.o_dB; 
    simp only [mustOf, List.mem_cons, List.not_mem_nil, or_false] at hq
    rcases hq with rfl | rfl | rfl | rfl | rfl | rfl <;> (show (_ : Nat) ≠ _; omega)
  have back : ∀ (h' : Heap) (od' : Obj) (l' : List Value) (n' : Nat), News h₀ S.L h' (upd S.lF (listOf l'.toArray n') (upd S.dB od' (tmps ++ Led w S odF odB odO vF nF vW nW (.int key tkey) nT prs))) → News h₀ S.L h' (tmps ++ Led w S odF od' odO l' n' vW nW (.int key tkey) nT prs) := fun h' od' l' n' N' => News.sub N' fun q hq => by
    have hl : ∀ q ∈ tmps, q.1 ≠ S.lF := fun q hq => by (have h9 : S.dO < q.1 := hup q hq; have := O.o_lW; have := O.o_cB; have := O.o_fB; have := O.o_dxB; have := O.o_xB; have := O.o_dB; have := O.o_cM; have := O.o_fM; have := O.o_dxF; have := O.o_xF; have := O.o_dF; have := O.o_cO; have := O.o_fO; have := O.o_dxO; have := O.o_xO; have := O.o_dO; exact Nat.ne_of_gt (by omega))
    have h1 : ∀ q ∈ tmps ++ Led w S odF od' odO vF nF vW nW (.int key tkey) nT prs, q ∈ upd S.dB od' (tmps ++ Led w S odF odB odO vF nF vW nW (.int key tkey) nT prs) := upd_app (up_dB O hup) (UpdF.upd (Led.u_dB O hp) od')
    exact upd_mono h1 q (upd_app hl (Led.u_lF O hp l' n') q hq)

  exact deletedL (outer := []) (dp := 400) X B T X T CB ktsDicts_nil hA hf hke hh (by omega) hdep (by omega) F N (List.mem_append_right _ Led.m_xB) (List.mem_append_right _ Led.m_dxB) (List.mem_append_right _ Led.m_dB) hdB O.loB hlen HD hm hmd (.head _) (.tail _ (.tail _ (.tail _ (.tail _ (.tail _ (.head _)))))) (hT.mono fun q hq => List.mem_append_right _ (Led.m_prs hq)) (by have := O.o_xB; have := O.o_dB; omega) fun h' h₀' tk od' n' T' _ _ F' N' hd' => q h' tk od' n' (fr_back T' F') (back _ _ _ _ (news_back T' N')) hd'
theorem setO {Q : Unit → Shared → Prop} (O : Ok S) (hp : PrsUp S prs) (X : (hd.heap_39 w.params).In h₀) (T : Top topProg loose mean mg mb h₀) (B : Below callerA h₀ [] h₀) (CB : CodeB h₀) (hA : A.frames = some [env]) (hf : env.frame = some S.L) (hke : env.scope.kind = .function) (hh : A.handled = none) (hdep : A.depth ≤ 400) (hun : A.units ≤ 1000)
  (F : Fr h₀ S.L s.heap m) (N : News h₀ S.L s.heap (tmps ++ Led w S odF odB odO vF nF vW nW (.int key tkey) nT prs)) (hup : ∀ q ∈ tmps, S.dO < q.1) (hdO : odO.IsDictOf (PySem.intKind PySem.Challenge.rw_aj5039_01.row.prog w) kO) (hlen : kO.length ≤ 10) (hz : vW.length ≤ 40) (hT : Tups prs kO) (hpv : (pv, tup2 k tp vp) ∈ tmps ++ Led w S odF odB odO vF nF vW nW (.int key tkey) nT prs)
  (q : ∀ h' tk od' n', Fr h₀ S.L h' m → News h₀ S.L h' (tmps ++ Led w S odF odB od' vF nF (vW ++ fellL key (fellO (S.s1 + S.s2) kO k (.ref pv))) n' (.int key tkey) nT prs) → od'.IsDictOf (PySem.intKind PySem.Challenge.rw_aj5039_01.row.prog w) (setD (S.s1 + S.s2) kO k (.ref pv)) → Q () { s with heap := h', toks := tk }) :
  wpAny (model PySem.Challenge.rw_aj5039_01.row.prog w) A (setItem (.ref S.xO) (.int k t) (.ref pv)) Q E s := by
  have HD : DispL w 400 S.fO (mustOf S.fO (lamObjO S.L S.fa (S.L + 3) (S.L + 4) S.pm S.cO S.ctO) S.cO S.ocO (S.L + 4) S.oW (S.L + 3) S.oT S.lT (listOf #[.int key tkey] nT) S.lW (listOf vW.toArray nW)) S.lW vW key := lamO_disp O.hoO O.hqO O.hcW O.hcT (by have := O.o_lF; have := O.o_lW; omega) hz (by omega)
  have hm : ∀ q ∈ mustOf S.fO (lamObjO S.L S.fa (S.L + 3) (S.L + 4) S.pm S.cO S.ctO) S.cO S.ocO (S.L + 4) S.oW (S.L + 3) S.oT S.lT (listOf #[.int key tkey] nT) S.lW (listOf vW.toArray nW), q ∈ tmps ++ Led w S odF odB odO vF nF vW nW (.int key tkey) nT prs := by
    intro q hq
    refine List.mem_append_right _ ?_
    simp only [mustOf, List.mem_cons, List.not_mem_nil, or_false] at hq
    rcases hq with rfl | rfl | rfl | rfl | rfl | rfl
    · exact Led.m_fO
    · exact Led.m_cO
    · exact Led.m_L4
    · exact Led.m_L3
    · exact Led.m_lT
    · exact Led.m_lW
  have hmd : ∀ q ∈ mustOf S.fO (lamObjO S.L S.fa (S.L + 3) (S.L + 4) S.pm S.cO S.ctO) S.cO S.ocO (S.L + 4) S.oW (S.L + 3) S.oT S.lT (listOf #[.int key tkey] nT) S.lW (listOf vW.toArray nW), q.1 ≠ S.dO := by
    intro q hq
    have := O.o_lN; have := O.o_lS; have := O.o_lT; have := O.o_lF; have := O.o_lW; have := O.o_cB; have := O.o_fB; have := O.o_dxB; have := O.o_xB; have := O.o_dB; have := O.o_cM; have := O.o_fM; have := O.o_dxF; have := O.o_xF; have := O.o_dF; have := O.o_cO; have := O.o_fO; have := O.o_dxO; have := O.o_xO; have := O.o_dO; 
    simp only [mustOf, List.mem_cons, List.not_mem_nil, or_false] at hq
    rcases hq with rfl | rfl | rfl | rfl | rfl | rfl <;> (show (_ : Nat) ≠ _; omega)
  have back : ∀ (h' : Heap) (od' : Obj) (l' : List Value) (n' : Nat), News h₀ S.L h' (upd S.lW (listOf l'.toArray n') (upd S.dO od' (tmps ++ Led w S odF odB odO vF nF vW nW (.int key tkey) nT prs))) → News h₀ S.L h' (tmps ++ Led w S odF odB od' vF nF l' n' (.int key tkey) nT prs) := fun h' od' l' n' N' => News.sub N' fun q hq => by
    have hl : ∀ q ∈ tmps, q.1 ≠ S.lW := fun q hq => by (have h9 : S.dO < q.1 := hup q hq; have := O.o_cB; have := O.o_fB; have := O.o_dxB; have := O.o_xB; have := O.o_dB; have := O.o_cM; have := O.o_fM; have := O.o_dxF; have := O.o_xF; have := O.o_dF; have := O.o_cO; have := O.o_fO; have := O.o_dxO; have := O.o_xO; have := O.o_dO; exact Nat.ne_of_gt (by omega))
    have h1 : ∀ q ∈ tmps ++ Led w S odF odB od' vF nF vW nW (.int key tkey) nT prs, q ∈ upd S.dO od' (tmps ++ Led w S odF odB odO vF nF vW nW (.int key tkey) nT prs) := upd_app (up_dO O hup) (UpdF.upd (Led.u_dO O hp) od')
    exact upd_mono h1 q (upd_app hl (Led.u_lW O hp l' n') q hq)

  exact setL (outer := []) (dp := 400) X B T X T CB ktsDicts_nil hA hf hke hh (by omega) hdep (by omega) F N (List.mem_append_right _ Led.m_xO) (List.mem_append_right _ Led.m_dxO) (List.mem_append_right _ Led.m_dO) hdO O.loO hlen HD hm hmd (.head _) (.tail _ (.tail _ (.tail _ (.tail _ (.tail _ (.head _)))))) (hT.mono fun q hq => List.mem_append_right _ (Led.m_prs hq)) (by have := O.o_xO; have := O.o_dO; omega) rfl hpv fun h' h₀' tk od' n' T' _ _ F' N' hd' => q h' tk od' n' (fr_back T' F') (back _ _ _ _ (news_back T' N')) hd'
theorem delO {Q : Unit → Shared → Prop} (O : Ok S) (hp : PrsUp S prs) (X : (hd.heap_39 w.params).In h₀) (T : Top topProg loose mean mg mb h₀) (B : Below callerA h₀ [] h₀) (CB : CodeB h₀) (hA : A.frames = some [env]) (hf : env.frame = some S.L) (hke : env.scope.kind = .function) (hh : A.handled = none) (hdep : A.depth ≤ 400) (hun : A.units ≤ 1000)
  (F : Fr h₀ S.L s.heap m) (N : News h₀ S.L s.heap (tmps ++ Led w S odF odB odO vF nF vW nW (.int key tkey) nT prs)) (hup : ∀ q ∈ tmps, S.dO < q.1) (hdO : odO.IsDictOf (PySem.intKind PySem.Challenge.rw_aj5039_01.row.prog w) kO) (hlen : kO.length ≤ 10) (hz : vW.length ≤ 40) (hT : Tups prs kO) (hv : (valueAt kO k).isSome = true)
  (q : ∀ h' tk od' n', Fr h₀ S.L h' m → News h₀ S.L h' (tmps ++ Led w S odF odB od' vF nF (vW ++ fellL key (fellD kO k)) n' (.int key tkey) nT prs) → od'.IsDictOf (PySem.intKind PySem.Challenge.rw_aj5039_01.row.prog w) (without kO k) → Q () { s with heap := h', toks := tk }) :
  wpAny (model PySem.Challenge.rw_aj5039_01.row.prog w) A (delItem (.ref S.xO) (.int k t)) Q E s := by
  have HD : DispL w 400 S.fO (mustOf S.fO (lamObjO S.L S.fa (S.L + 3) (S.L + 4) S.pm S.cO S.ctO) S.cO S.ocO (S.L + 4) S.oW (S.L + 3) S.oT S.lT (listOf #[.int key tkey] nT) S.lW (listOf vW.toArray nW)) S.lW vW key := lamO_disp O.hoO O.hqO O.hcW O.hcT (by have := O.o_lF; have := O.o_lW; omega) hz (by omega)
  have hm : ∀ q ∈ mustOf S.fO (lamObjO S.L S.fa (S.L + 3) (S.L + 4) S.pm S.cO S.ctO) S.cO S.ocO (S.L + 4) S.oW (S.L + 3) S.oT S.lT (listOf #[.int key tkey] nT) S.lW (listOf vW.toArray nW), q ∈ tmps ++ Led w S odF odB odO vF nF vW nW (.int key tkey) nT prs := by
    intro q hq
    refine List.mem_append_right _ ?_
    simp only [mustOf, List.mem_cons, List.not_mem_nil, or_false] at hq
    rcases hq with rfl | rfl | rfl | rfl | rfl | rfl
    · exact Led.m_fO
    · exact Led.m_cO
    · exact Led.m_L4
    · exact Led.m_L3
    · exact Led.m_lT
    · exact Led.m_lW
  have hmd : ∀ q ∈ mustOf S.fO (lamObjO S.L S.fa (S.L + 3) (S.L + 4) S.pm S.cO S.ctO) S.cO S.ocO (S.L + 4) S.oW (S.L + 3) S.oT S.lT (listOf #[.int key tkey] nT) S.lW (listOf vW.toArray nW), q.1 ≠ S.dO := by
    intro q hq
    have := O.o_lN; have := O.o_lS; have := O.o_lT; have := O.o_lF; have := O.o_lW; have := O.o_cB; have := O.o_fB; have := O.o_dxB; have := O.o_xB; have := O.o_dB; have := O.o_cM; have := O.o_fM; have := O.o_dxF; have := O.o_xF; have := O.o_dF; have := O.o_cO; have := O.o_fO; have := O.o_dxO; have := O.o_xO; have := O.o_dO; 
    simp only [mustOf, List.mem_cons, List.not_mem_nil, or_false] at hq
    rcases hq with rfl | rfl | rfl | rfl | rfl | rfl <;> (show (_ : Nat) ≠ _; omega)
  have back : ∀ (h' : Heap) (od' : Obj) (l' : List Value) (n' : Nat), News h₀ S.L h' (upd S.lW (listOf l'.toArray n') (upd S.dO od' (tmps ++ Led w S odF odB odO vF nF vW nW (.int key tkey) nT prs))) → News h₀ S.L h' (tmps ++ Led w S odF odB od' vF nF l' n' (.int key tkey) nT prs) := fun h' od' l' n' N' => News.sub N' fun q hq => by
    have hl : ∀ q ∈ tmps, q.1 ≠ S.lW := fun q hq => by (have h9 : S.dO < q.1 := hup q hq; have := O.o_cB; have := O.o_fB; have := O.o_dxB; have := O.o_xB; have := O.o_dB; have := O.o_cM; have := O.o_fM; have := O.o_dxF; have := O.o_xF; have := O.o_dF; have := O.o_cO; have := O.o_fO; have := O.o_dxO; have := O.o_xO; have := O.o_dO; exact Nat.ne_of_gt (by omega))
    have h1 : ∀ q ∈ tmps ++ Led w S odF odB od' vF nF vW nW (.int key tkey) nT prs, q ∈ upd S.dO od' (tmps ++ Led w S odF odB odO vF nF vW nW (.int key tkey) nT prs) := upd_app (up_dO O hup) (UpdF.upd (Led.u_dO O hp) od')
    exact upd_mono h1 q (upd_app hl (Led.u_lW O hp l' n') q hq)

  exact delL (outer := []) (dp := 400) X B T X T CB ktsDicts_nil hA hf hke hh (by omega) hdep (by omega) F N (List.mem_append_right _ Led.m_xO) (List.mem_append_right _ Led.m_dxO) (List.mem_append_right _ Led.m_dO) hdO O.loO hlen HD hm hmd (.head _) (.tail _ (.tail _ (.tail _ (.tail _ (.tail _ (.head _)))))) (hT.mono fun q hq => List.mem_append_right _ (Led.m_prs hq)) (by have := O.o_xO; have := O.o_dO; omega) hv fun h' h₀' tk od' n' T' _ _ F' N' hd' => q h' tk od' n' (fr_back T' F') (back _ _ _ _ (news_back T' N')) hd'
theorem deletedO {Q : Value → Shared → Prop} {b0 : Bool} (O : Ok S) (hp : PrsUp S prs) (X : (hd.heap_39 w.params).In h₀) (T : Top topProg loose mean mg mb h₀) (B : Below callerA h₀ [] h₀) (CB : CodeB h₀) (hA : A.frames = some [env]) (hf : env.frame = some S.L) (hke : env.scope.kind = .function) (hh : A.handled = none) (hdep : A.depth ≤ 400) (hun : A.units ≤ 1000)
  (F : Fr h₀ S.L s.heap m) (N : News h₀ S.L s.heap (tmps ++ Led w S odF odB odO vF nF vW nW (.int key tkey) nT prs)) (hup : ∀ q ∈ tmps, S.dO < q.1) (hdO : odO.IsDictOf (PySem.intKind PySem.Challenge.rw_aj5039_01.row.prog w) kO) (hlen : kO.length ≤ 10) (hz : vW.length ≤ 40) (hT : Tups prs kO) (hb : (valueAt kO k).isSome = b0)
  (q : ∀ h' tk od' n', Fr h₀ S.L h' m → News h₀ S.L h' (tmps ++ Led w S odF odB od' vF nF (vW ++ fellL key (fellD kO k)) n' (.int key tkey) nT prs) → od'.IsDictOf (PySem.intKind PySem.Challenge.rw_aj5039_01.row.prog w) (without kO k) → Q (.bool b0) { s with heap := h', toks := tk }) :
  wpAny (model PySem.Challenge.rw_aj5039_01.row.prog w) A (call (.ref 106) [.ref S.xO, .int k t]) Q E s := by
  subst hb
  have HD : DispL w 400 S.fO (mustOf S.fO (lamObjO S.L S.fa (S.L + 3) (S.L + 4) S.pm S.cO S.ctO) S.cO S.ocO (S.L + 4) S.oW (S.L + 3) S.oT S.lT (listOf #[.int key tkey] nT) S.lW (listOf vW.toArray nW)) S.lW vW key := lamO_disp O.hoO O.hqO O.hcW O.hcT (by have := O.o_lF; have := O.o_lW; omega) hz (by omega)
  have hm : ∀ q ∈ mustOf S.fO (lamObjO S.L S.fa (S.L + 3) (S.L + 4) S.pm S.cO S.ctO) S.cO S.ocO (S.L + 4) S.oW (S.L + 3) S.oT S.lT (listOf #[.int key tkey] nT) S.lW (listOf vW.toArray nW), q ∈ tmps ++ Led w S odF odB odO vF nF vW nW (.int key tkey) nT prs := by
    intro q hq
    refine List.mem_append_right _ ?_
    simp only [mustOf, List.mem_cons, List.not_mem_nil, or_false] at hq
    rcases hq with rfl | rfl | rfl | rfl | rfl | rfl
    · exact Led.m_fO
    · exact Led.m_cO
    · exact Led.m_L4
    · exact Led.m_L3
    · exact Led.m_lT
    · exact Led.m_lW
  have hmd : ∀ q ∈ mustOf S.fO (lamObjO S.L S.fa (S.L + 3) (S.L + 4) S.pm S.cO S.ctO) S.cO S.ocO (S.L + 4) S.oW (S.L + 3) S.oT S.lT (listOf #[.int key tkey] nT) S.lW (listOf vW.toArray nW), q.1 ≠ S.dO := by
    intro q hq
    have := O.o_lN; have := O.o_lS; have := O.o_lT; have := O.o_lF; have := O.o_lW; have := O.o_cB; have := O.o_fB; have := O.o_dxB; have := O.o_xB; have := O.o_dB; have := O.o_cM; have := O.o_fM; have := O.o_dxF; have := O.o_xF; have := O.o_dF; have := O.o_cO; have := O.o_fO; have := O.o_dxO; have := O.o_xO; have := O.o_dO; 
    simp only [mustOf, List.mem_cons, List.not_mem_nil, or_false] at hq
    rcases hq with rfl | rfl | rfl | rfl | rfl | rfl <;> (show (_ : Nat) ≠ _; omega)
  have back : ∀ (h' : Heap) (od' : Obj) (l' : List Value) (n' : Nat), News h₀ S.L h' (upd S.lW (listOf l'.toArray n') (upd S.dO od' (tmps ++ Led w S odF odB odO vF nF vW nW (.int key tkey) nT prs))) → News h₀ S.L h' (tmps ++ Led w S odF odB od' vF nF l' n' (.int key tkey) nT prs) := fun h' od' l' n' N' => News.sub N' fun q hq => by
    have hl : ∀ q ∈ tmps, q.1 ≠ S.lW := fun q hq => by (have h9 : S.dO < q.1 := hup q hq; have := O.o_cB; have := O.o_fB; have := O.o_dxB; have := O.o_xB; have := O.o_dB; have := O.o_cM; have := O.o_fM; have := O.o_dxF; have := O.o_xF; have := O.o_dF; have := O.o_cO; have := O.o_fO; have := O.o_dxO; have := O.o_xO; have := O.o_dO; exact Nat.ne_of_gt (by omega))
    have h1 : ∀ q ∈ tmps ++ Led w S odF odB od' vF nF vW nW (.int key tkey) nT prs, q ∈ upd S.dO od' (tmps ++ Led w S odF odB odO vF nF vW nW (.int key tkey) nT prs) := upd_app (up_dO O hup) (UpdF.upd (Led.u_dO O hp) od')
    exact upd_mono h1 q (upd_app hl (Led.u_lW O hp l' n') q hq)

  exact deletedL (outer := []) (dp := 400) X B T X T CB ktsDicts_nil hA hf hke hh (by omega) hdep (by omega) F N (List.mem_append_right _ Led.m_xO) (List.mem_append_right _ Led.m_dxO) (List.mem_append_right _ Led.m_dO) hdO O.loO hlen HD hm hmd (.head _) (.tail _ (.tail _ (.tail _ (.tail _ (.tail _ (.head _)))))) (hT.mono fun q hq => List.mem_append_right _ (Led.m_prs hq)) (by have := O.o_xO; have := O.o_dO; omega) fun h' h₀' tk od' n' T' _ _ F' N' hd' => q h' tk od' n' (fr_back T' F') (back _ _ _ _ (news_back T' N')) hd'
end
end Mine
end
section
open PySem PySem.W PyProof.Rows PySem.Calls PyProof.V PySem.Spec
set_option maxRecDepth 100000
namespace Mine
section
variable {w : World} {S : St} {odF odB odO : Obj} {vF vW : List Value} {nF nW nT : Nat} {tv : Value} {prs tmps : List (Addr × Obj)} {mg mb : Str → Option Value} {mean : ExcName → Option Value} {A : Around} {h₀ : Heap} {env : Env} {m : Str → Option Value} {s : Shared} {k key : Int} {t tp tkey : Tok} {v vp : Value} {pv : Nat} {kF kB kO : List (Int × Value)} {E : Value → Shared → Prop}
theorem Led.uniq_dF (O : Ok S) (hp : PrsUp S prs) {o : Obj} (h : (S.dF, o) ∈ Led w S odF odB odO vF nF vW nW tv nT prs) : o = odF := by
  obtain ⟨pre, post, e, _, h1, h2⟩ := (Led.u_dF (w := w) (S := S) (odF := odF) (odB := odB) (odO := odO) (vF := vF) (vW := vW) (nF := nF) (nW := nW) (nT := nT) (tv := tv) (prs := prs) O hp).split
  rw [e] at h
  simp only [List.mem_append, List.mem_cons] at h
  rcases h with h | h | h
  · exact absurd rfl (h1 _ h)
  · exact (Prod.mk.inj h).2
  · exact absurd rfl (h2 _ h)
set_option maxHeartbeats 2000000 in
theorem setF {Q : Unit → Shared → Prop} (O : Ok S) (hp : PrsUp S prs) (X : (hd.heap_39 w.params).In h₀) (T : Top topProg loose mean mg mb h₀) (B : Below callerA h₀ [] h₀) (CB : CodeB h₀) (hA : A.frames = some [env]) (hf : env.frame = some S.L) (hke : env.scope.kind = .function) (hh : A.handled = none) (hdep : A.depth ≤ 400) (hun : A.units ≤ 1000)
  (F : Fr h₀ S.L s.heap m) (N : News h₀ S.L s.heap (tmps ++ Led w S odF odB odO vF nF vW nW (.int key tkey) nT prs)) (hup : ∀ q ∈ tmps, S.dO < q.1) (hdF : odF.IsDictOf (PySem.intKind PySem.Challenge.rw_aj5039_01.row.prog w) kF) (hdB : odB.IsDictOf (PySem.intKind PySem.Challenge.rw_aj5039_01.row.prog w) kB) (hlen : kF.length ≤ 10) (hlB : kB.length ≤ 10) (hz : vF.length ≤ 40) (tF : Tups prs kF) (tB : Tups prs kB) (hpv : (pv, tup2 k tp vp) ∈ tmps ++ Led w S odF odB odO vF nF vW nW (.int key tkey) nT prs)
  (q : ∀ h' tk odF' odB' n', Fr h₀ S.L h' m → News h₀ S.L h' (tmps ++ Led w S odF' odB' odO (vF ++ backL key S.s2 kB (fellO S.s1 kF k (.ref pv))) n' vW nW (.int key tkey) nT prs) → odF'.IsDictOf (PySem.intKind PySem.Challenge.rw_aj5039_01.row.prog w) (setD S.s1 kF k (.ref pv)) → odB'.IsDictOf (PySem.intKind PySem.Challenge.rw_aj5039_01.row.prog w) (backK key S.s2 kB (fellO S.s1 kF k (.ref pv))) → Q () { s with heap := h', toks := tk }) :
  wpAny (model PySem.Challenge.rw_aj5039_01.row.prog w) A (setItem (.ref S.xF) (.int k t) (.ref pv)) Q E s := by
  have i1 : (S.xF, instObj 88 S.dxF) ∈ tmps ++ Led w S odF odB odO vF nF vW nW (.int key tkey) nT prs := List.mem_append_right _ Led.m_xF
  have i2 : (S.dxF, cont w S.tF1 S.tF2 S.tF3 S.tF4 S.s1 (.ref S.fM) S.dF) ∈ tmps ++ Led w S odF odB odO vF nF vW nW (.int key tkey) nT prs := List.mem_append_right _ Led.m_dxF
  have i3 : (S.dF, odF) ∈ tmps ++ Led w S odF odB odO vF nF vW nW (.int key tkey) nT prs := List.mem_append_right _ Led.m_dF
  have ne1 : S.xF ≠ S.dxF := News.ne N i1 i2 fun e => nomatch congrArg Obj.data e
  have ne2 : S.xF ≠ S.dF := News.ne N i1 i3 fun e => dict_ne_plain hdF e.symm
  have ne3 : S.dxF ≠ S.dF := by have := O.o_xF; have := O.o_dF; omega
  have hr : ∀ p ∈ off S.dF (tmps ++ Led w S odF odB odO vF nF vW nW (.int key tkey) nT prs), p.1 ≠ S.dF := fun q hq => (mem_off.mp hq).2
  have N0 : News h₀ S.L s.heap ((S.xF, instObj 88 S.dxF) :: (S.dxF, cont w S.tF1 S.tF2 S.tF3 S.tF4 S.s1 (.ref S.fM) S.dF) :: (S.dF, odF) :: off S.dF (tmps ++ Led w S odF odB odO vF nF vW nW (.int key tkey) nT prs)) := News.sub N fun q hq => by
    simp only [List.mem_cons] at hq
    rcases hq with rfl | rfl | rfl | hq
    · exact i1
    · exact i2
    · exact i3
    · exact (mem_off.mp hq).1

  have b1 : S.xF ≠ S.dB ∧ S.dxF ≠ S.dB ∧ S.dF ≠ S.dB ∧ S.xF ≠ S.lF ∧ S.dxF ≠ S.lF ∧ S.dF ≠ S.lF ∧ S.lF ≠ S.dB ∧ S.dxB ≠ S.dB ∧ S.lT ≠ S.lF := by
    have := O.o_lN; have := O.o_lS; have := O.o_lT; have := O.o_lF; have := O.o_lW; have := O.o_cB; have := O.o_fB; have := O.o_dxB; have := O.o_xB; have := O.o_dB; have := O.o_cM; have := O.o_fM; have := O.o_dxF; have := O.o_xF; have := O.o_dF; have := O.o_cO; have := O.o_fO; have := O.o_dxO; have := O.o_xO; have := O.o_dO; omega
  obtain ⟨b1, b2, b3, b4, b5, b6, b7, b8, b9⟩ := b1
  have HD : DispL w 450 S.fB (mustOf S.fB (lamObjB S.L S.fa (S.L + 3) (S.L + 2) S.pm S.cB S.ctB) S.cB S.ocB (S.L + 2) S.oF (S.L + 3) S.oT S.lT (listOf #[.int key tkey] nT) S.lF (listOf vF.toArray nF)) S.lF vF key := lamB_disp O.hoB O.hqB O.hcF O.hcT b9 hz (by omega)
  have offm : ∀ q, q ∈ Led w S odF odB odO vF nF vW nW (.int key tkey) nT prs → q.1 ≠ S.dF → q ∈ off S.dF (tmps ++ Led w S odF odB odO vF nF vW nW (.int key tkey) nT prs) := fun q h n => mem_off.mpr ⟨List.mem_append_right _ h, n⟩
  have rT : ∀ q ∈ prs, q ∈ off S.dF (tmps ++ Led w S odF odB odO vF nF vW nW (.int key tkey) nT prs) := fun q h => offm q (Led.m_prs h) (by have h9 : @LT.lt Nat _ S.dO q.1 ∨ @LT.lt Nat _ q.1 S.L := hp q h; have := O.o_lN; have := O.o_lS; have := O.o_lT; have := O.o_lF; have := O.o_lW; have := O.o_cB; have := O.o_fB; have := O.o_dxB; have := O.o_xB; have := O.o_dB; have := O.o_cM; have := O.o_fM; have := O.o_dxF; have := O.o_xF; have := O.o_dF; have := O.o_cO; have := O.o_fO; have := O.o_dxO; have := O.o_xO; have := O.o_dO; show @Ne Nat q.1 S.dF; omega)
  have mm : ∀ q ∈ mustOf S.fB (lamObjB S.L S.fa (S.L + 3) (S.L + 2) S.pm S.cB S.ctB) S.cB S.ocB (S.L + 2) S.oF (S.L + 3) S.oT S.lT (listOf #[.int key tkey] nT) S.lF (listOf vF.toArray nF) ++ [(S.xB, instObj 88 S.dxB), (S.dxB, cont w S.tB1 S.tB2 S.tB3 S.tB4 S.s2 (.ref S.fB) S.dB), (S.dB, odB), (S.fM, movObj S.L S.fa (S.L + 3) (S.L + 1) S.dc S.pm S.cM S.ctM), (S.cM, S.ocM), (S.L + 1, S.oB)], q ∈ off S.dF (tmps ++ Led w S odF odB odO vF nF vW nW (.int key tkey) nT prs) := by
    intro q hq
    have := O.o_lN; have := O.o_lS; have := O.o_lT; have := O.o_lF; have := O.o_lW; have := O.o_cB; have := O.o_fB; have := O.o_dxB; have := O.o_xB; have := O.o_dB; have := O.o_cM; have := O.o_fM; have := O.o_dxF; have := O.o_xF; have := O.o_dF; have := O.o_cO; have := O.o_fO; have := O.o_dxO; have := O.o_xO; have := O.o_dO; 
    simp only [mustOf, List.cons_append, List.nil_append, List.mem_cons, List.not_mem_nil, or_false] at hq
    rcases hq with rfl | rfl | rfl | rfl | rfl | rfl | rfl | rfl | rfl | rfl | rfl | rfl
    · exact offm _ Led.m_fB (by show (_ : Nat) ≠ _; omega)
    · exact offm _ Led.m_cB (by show (_ : Nat) ≠ _; omega)
    · exact offm _ Led.m_L2 (by show (_ : Nat) ≠ _; omega)
    · exact offm _ Led.m_L3 (by show (_ : Nat) ≠ _; omega)
    · exact offm _ Led.m_lT (by show (_ : Nat) ≠ _; omega)
    · exact offm _ Led.m_lF (by show (_ : Nat) ≠ _; omega)
    · exact offm _ Led.m_xB (by show (_ : Nat) ≠ _; omega)
    · exact offm _ Led.m_dxB (by show (_ : Nat) ≠ _; omega)
    · exact offm _ Led.m_dB (by show (_ : Nat) ≠ _; omega)
    · exact offm _ Led.m_fM (by show (_ : Nat) ≠ _; omega)
    · exact offm _ Led.m_cM (by show (_ : Nat) ≠ _; omega)
    · exact offm _ Led.m_L1 (by show (_ : Nat) ≠ _; omega)
  have hmd : ∀ q ∈ mustOf S.fB (lamObjB S.L S.fa (S.L + 3) (S.L + 2) S.pm S.cB S.ctB) S.cB S.ocB (S.L + 2) S.oF (S.L + 3) S.oT S.lT (listOf #[.int key tkey] nT) S.lF (listOf vF.toArray nF), q.1 ≠ S.dB := by
    intro q hq
    have := O.o_lN; have := O.o_lS; have := O.o_lT; have := O.o_lF; have := O.o_lW; have := O.o_cB; have := O.o_fB; have := O.o_dxB; have := O.o_xB; have := O.o_dB; have := O.o_cM; have := O.o_fM; have := O.o_dxF; have := O.o_xF; have := O.o_dF; have := O.o_cO; have := O.o_fO; have := O.o_dxO; have := O.o_xO; have := O.o_dO; 
    simp only [mustOf, List.mem_cons, List.not_mem_nil, or_false] at hq
    rcases hq with rfl | rfl | rfl | rfl | rfl | rfl <;> (show (_ : Nat) ≠ _; omega)
  have rB : (S.dB, odB) ∈ off S.dF (tmps ++ Led w S odF odB odO vF nF vW nW (.int key tkey) nT prs) := mm _ (.tail _ (.tail _ (.tail _ (.tail _ (.tail _ (.tail _ (.tail _ (.tail _ (.head _)))))))))
  have rL : (S.lF, listOf vF.toArray nF) ∈ off S.dF (tmps ++ Led w S odF odB odO vF nF vW nW (.int key tkey) nT prs) := mm _ (.tail _ (.tail _ (.tail _ (.tail _ (.tail _ (.head _))))))
  have fin : ∀ (odF' odB' : Obj) (l' : List Value) (n' : Nat), ∀ q ∈ tmps ++ Led w S odF' odB' odO l' n' vW nW (.int key tkey) nT prs, q ∈ (S.xF, instObj 88 S.dxF) :: (S.dxF, cont w S.tF1 S.tF2 S.tF3 S.tF4 S.s1 (.ref S.fM) S.dF) :: (S.dF, odF') :: upd S.lF (listOf (l').toArray n') (upd S.dB odB' (off S.dF (tmps ++ Led w S odF odB odO vF nF vW nW (.int key tkey) nT prs))) := fun odF' odB' l' n' q hq => by
    have hl : ∀ q ∈ tmps, q.1 ≠ S.lF := fun q hq => by (have h9 : S.dO < q.1 := hup q hq; have := O.o_lW; have := O.o_cB; have := O.o_fB; have := O.o_dxB; have := O.o_xB; have := O.o_dB; have := O.o_cM; have := O.o_fM; have := O.o_dxF; have := O.o_xF; have := O.o_dF; have := O.o_cO; have := O.o_fO; have := O.o_dxO; have := O.o_xO; have := O.o_dO; exact Nat.ne_of_gt (by omega))
    have h1 : ∀ q ∈ tmps ++ Led w S odF' odB odO vF nF vW nW (.int key tkey) nT prs, q ∈ upd S.dF odF' (tmps ++ Led w S odF odB odO vF nF vW nW (.int key tkey) nT prs) := upd_app (up_dF O hup) (UpdF.upd (Led.u_dF O hp) odF')
    have h2 : ∀ q ∈ tmps ++ Led w S odF' odB' odO vF nF vW nW (.int key tkey) nT prs, q ∈ upd S.dB odB' (upd S.dF odF' (tmps ++ Led w S odF odB odO vF nF vW nW (.int key tkey) nT prs)) := fun q hq => upd_mono h1 q (upd_app (up_dB O hup) (UpdF.upd (Led.u_dB O hp) odB') q hq)
    have h3 := upd_mono h2 q (upd_app hl (Led.u_lF O hp l' n') q hq)
    rcases mem_upd.mp h3 with ⟨rfl, _⟩ | ⟨h, n⟩
    · exact .tail _ (.tail _ (.tail _ (upd_eq (upd_ne rL b7))))
    · rcases mem_upd.mp h with ⟨rfl, _⟩ | ⟨h, n2⟩
      · exact .tail _ (.tail _ (.tail _ (upd_ne (upd_eq rB) n)))
      · rcases mem_upd.mp h with ⟨rfl, _⟩ | h
        · exact .tail _ (.tail _ (.head _))
        · exact .tail _ (.tail _ (.tail _ (upd_ne (upd_ne (mem_off.mpr h) n2) n)))
  have same : ∀ q ∈ upd S.lF (listOf (vF ++ []).toArray nF) (upd S.dB odB (off S.dF (tmps ++ Led w S odF odB odO vF nF vW nW (.int key tkey) nT prs))), q ∈ off S.dF (tmps ++ Led w S odF odB odO vF nF vW nW (.int key tkey) nT prs) := fun q hq => by
    rw [List.append_nil] at hq
    rcases mem_upd.mp hq with ⟨rfl, _⟩ | ⟨h, n⟩
    · exact rL
    · rcases mem_upd.mp h with ⟨rfl, _⟩ | ⟨h, n2⟩
      · exact rB
      · exact h
  have hD : ∀ p k' t' v'', (p, tup2 k' t' v'') ∈ tmps ++ Led w S odF odB odO vF nF vW nW (.int key tkey) nT prs → ∀ od', DispC w 400 S.fM p ((S.xF, instObj 88 S.dxF) :: (S.dxF, cont w S.tF1 S.tF2 S.tF3 S.tF4 S.s1 (.ref S.fM) S.dF) :: (S.dF, od') :: off S.dF (tmps ++ Led w S odF odB odO vF nF vW nW (.int key tkey) nT prs)) (fun l => ∃ rest', l = (S.xF, instObj 88 S.dxF) :: (S.dxF, cont w S.tF1 S.tF2 S.tF3 S.tF4 S.s1 (.ref S.fM) S.dF) :: (S.dF, od') :: rest' ∧ ∃ odB' n', odB'.IsDictOf (PySem.intKind PySem.Challenge.rw_aj5039_01.row.prog w) (backK key S.s2 kB (some (k', .ref p))) ∧ ∀ q ∈ upd S.lF (listOf (vF ++ backL key S.s2 kB (some (k', .ref p))).toArray n') (upd S.dB odB' (off S.dF (tmps ++ Led w S odF odB odO vF nF vW nW (.int key tkey) nT prs))), q ∈ rest') := by
    intro p k' t' v'' hpm od' mg mb mean A₀ A base h₀ outer env L m s Q E X B T XB TB CB D hA hf hke hh hdep hun F N q
    have np : p ≠ S.dF := by
      rcases List.mem_append.mp hpm with h | h
      · exact up_dF O hup _ h
      · exact fun e => dict_ne_seq hdF (Led.uniq_dF O hp (e ▸ h)).symm
    have hpr : (p, tup2 k' t' v'') ∈ (S.xF, instObj 88 S.dxF) :: (S.dxF, cont w S.tF1 S.tF2 S.tF3 S.tF4 S.s1 (.ref S.fM) S.dF) :: (S.dF, od') :: off S.dF (tmps ++ Led w S odF odB odO vF nF vW nW (.int key tkey) nT prs) := .tail _ (.tail _ (.tail _ (mem_off.mpr ⟨hpm, np⟩)))
    have tl : ∀ q ∈ off S.dF (tmps ++ Led w S odF odB odO vF nF vW nW (.int key tkey) nT prs), q ∈ (S.xF, instObj 88 S.dxF) :: (S.dxF, cont w S.tF1 S.tF2 S.tF3 S.tF4 S.s1 (.ref S.fM) S.dF) :: (S.dF, od') :: off S.dF (tmps ++ Led w S odF odB odO vF nF vW nW (.int key tkey) nT prs) := fun q h => .tail _ (.tail _ (.tail _ h))
    have i : ∀ q ∈ mustOf S.fB (lamObjB S.L S.fa (S.L + 3) (S.L + 2) S.pm S.cB S.ctB) S.cB S.ocB (S.L + 2) S.oF (S.L + 3) S.oT S.lT (listOf #[.int key tkey] nT) S.lF (listOf vF.toArray nF) ++ [(S.xB, instObj 88 S.dxB), (S.dxB, cont w S.tB1 S.tB2 S.tB3 S.tB4 S.s2 (.ref S.fB) S.dB), (S.dB, odB), (S.fM, movObj S.L S.fa (S.L + 3) (S.L + 1) S.dc S.pm S.cM S.ctM), (S.cM, S.ocM), (S.L + 1, S.oB)], q ∈ (S.xF, instObj 88 S.dxF) :: (S.dxF, cont w S.tF1 S.tF2 S.tF3 S.tF4 S.s1 (.ref S.fM) S.dF) :: (S.dF, od') :: off S.dF (tmps ++ Led w S odF odB odO vF nF vW nW (.int key tkey) nT prs) := fun q h => tl q (mm q h)
    have hm : ∀ q ∈ mustOf S.fB (lamObjB S.L S.fa (S.L + 3) (S.L + 2) S.pm S.cB S.ctB) S.cB S.ocB (S.L + 2) S.oF (S.L + 3) S.oT S.lT (listOf #[.int key tkey] nT) S.lF (listOf vF.toArray nF), q ∈ (S.xF, instObj 88 S.dxF) :: (S.dxF, cont w S.tF1 S.tF2 S.tF3 S.tF4 S.s1 (.ref S.fM) S.dF) :: (S.dF, od') :: off S.dF (tmps ++ Led w S odF odB odO vF nF vW nW (.int key tkey) nT prs) := fun q h => i q (List.mem_append_left _ h)
    by_cases hk : k' = key
    · refine mov_same X B T XB TB CB D hA hf hke hh (dp := 450) (by omega) (by omega) F N hpr (i _ (.tail _ (.tail _ (.tail _ (.tail _ (.tail _ (.tail _ (.tail _ (.tail _ (.tail _ (.head _))))))))))) (i _ (.tail _ (.tail _ (.tail _ (.tail _ (.tail _ (.tail _ (.tail _ (.tail _ (.tail _ (.tail _ (.head _)))))))))))) (i _ (.tail _ (.tail _ (.tail _ (.head _))))) (i _ (.tail _ (.tail _ (.tail _ (.tail _ (.tail _ (.tail _ (.tail _ (.tail _ (.tail _ (.tail _ (.tail _ (.head _))))))))))))) (i _ (.tail _ (.tail _ (.tail _ (.tail _ (.head _)))))) O.hoM O.hqM O.hcT O.hcB (by omega) (i _ (.tail _ (.tail _ (.tail _ (.tail _ (.tail _ (.tail _ (.head _)))))))) (i _ (.tail _ (.tail _ (.tail _ (.tail _ (.tail _ (.tail _ (.tail _ (.head _))))))))) (i _ (.tail _ (.tail _ (.tail _ (.tail _ (.tail _ (.tail _ (.tail _ (.tail _ (.head _)))))))))) hdB O.loB hlB HD hm hmd (.head _) (.tail _ (.tail _ (.tail _ (.tail _ (.tail _ (.head _)))))) (tB.mono fun q h => tl q (rT q h)) b8 hk fun h' h₀' tk T' B' D' F' N' => ?_
      refine q h' h₀' tk _ T' B' D' F' N' ⟨_, rfl, odB, nF, ?_, ?_⟩
      · rw [show backK key S.s2 kB (some (k', .ref p)) = kB from if_pos hk]; exact hdB
      · rw [show backL key S.s2 kB (some (k', .ref p)) = [] from if_pos hk]; exact same
    · refine mov_other X B T XB TB CB D hA hf hke hh (dp := 450) (by omega) (by omega) F N hpr (i _ (.tail _ (.tail _ (.tail _ (.tail _ (.tail _ (.tail _ (.tail _ (.tail _ (.tail _ (.head _))))))))))) (i _ (.tail _ (.tail _ (.tail _ (.tail _ (.tail _ (.tail _ (.tail _ (.tail _ (.tail _ (.tail _ (.head _)))))))))))) (i _ (.tail _ (.tail _ (.tail _ (.head _))))) (i _ (.tail _ (.tail _ (.tail _ (.tail _ (.tail _ (.tail _ (.tail _ (.tail _ (.tail _ (.tail _ (.tail _ (.head _))))))))))))) (i _ (.tail _ (.tail _ (.tail _ (.tail _ (.head _)))))) O.hoM O.hqM O.hcT O.hcB (by omega) (i _ (.tail _ (.tail _ (.tail _ (.tail _ (.tail _ (.tail _ (.head _)))))))) (i _ (.tail _ (.tail _ (.tail _ (.tail _ (.tail _ (.tail _ (.tail _ (.head _))))))))) (i _ (.tail _ (.tail _ (.tail _ (.tail _ (.tail _ (.tail _ (.tail _ (.tail _ (.head _)))))))))) hdB O.loB hlB HD hm hmd (.head _) (.tail _ (.tail _ (.tail _ (.tail _ (.tail _ (.head _)))))) (tB.mono fun q h => tl q (rT q h)) b8 hk fun h' h₀' tk odB' n' T' B' D' F' N' hd' => ?_
      refine q h' h₀' tk _ T' B' D' F' N' ⟨_, by rw [upd_cons b1, upd_cons b2, upd_cons b3, upd_cons b4, upd_cons b5, upd_cons b6], odB', n', ?_, ?_⟩
      · rw [show backK key S.s2 kB (some (k', .ref p)) = setD S.s2 kB k' (.ref p) from if_neg hk]; exact hd'
      · rw [show backL key S.s2 kB (some (k', .ref p)) = fellL key (fellO S.s2 kB k' (.ref p)) from if_neg hk]; exact fun q h => h
  have ends : ∀ (e : Option (Int × Value)) (h' h₀' : Heap) (odF' odB' : Obj) (n' : Nat) (rest' : List (Addr × Obj)), KtsTurn ([] : List Addr) h₀ h₀' → News h₀' S.L h' ((S.xF, instObj 88 S.dxF) :: (S.dxF, cont w S.tF1 S.tF2 S.tF3 S.tF4 S.s1 (.ref S.fM) S.dF) :: (S.dF, odF') :: rest') → (∀ q ∈ upd S.lF (listOf (vF ++ backL key S.s2 kB e).toArray n') (upd S.dB odB' (off S.dF (tmps ++ Led w S odF odB odO vF nF vW nW (.int key tkey) nT prs))), q ∈ rest') → News h₀ S.L h' (tmps ++ Led w S odF' odB' odO (vF ++ backL key S.s2 kB e) n' vW nW (.int key tkey) nT prs) := fun e h' h₀' odF' odB' n' rest' T' N' hs => News.sub (news_back T' N') fun q hq => by
    have := fin odF' odB' _ n' q hq
    simp only [List.mem_cons] at this ⊢
    rcases this with h | h | h | h
    · exact .inl h
    · exact .inr (.inl h)
    · exact .inr (.inr (.inl h))
    · exact .inr (.inr (.inr (hs q h)))

  have hT' : Tups (tmps ++ Led w S odF odB odO vF nF vW nW (.int key tkey) nT prs) (kF ++ [(k, .ref pv)]) := fun k' v' h' => by
    rcases List.mem_append.mp h' with h' | h'
    · exact (tF.mono fun q h => List.mem_append_right _ (Led.m_prs h)) k' v' h'
    · cases List.mem_singleton.mp h'
      exact ⟨pv, tp, vp, rfl, hpv⟩
  cases e1 : valueAt kF k with
  | some v0 =>
    obtain ⟨p, t', v'', rfl, hp'⟩ := hT' k v0 (List.mem_append_left _ (mem_of_valueAt e1))
    refine set_hit (outer := []) (dp := 400) X B T X T CB ktsDicts_nil hA hf hke hh (by omega) hdep (by omega) F N0 hdF O.loF hlen ne1 ne2 ne3 hr (mem_off.mpr ⟨List.mem_append_right _ Led.m_fM, by have := O.o_lN; have := O.o_lS; have := O.o_lT; have := O.o_lF; have := O.o_lW; have := O.o_cB; have := O.o_fB; have := O.o_dxB; have := O.o_xB; have := O.o_dB; have := O.o_cM; have := O.o_fM; have := O.o_dxF; have := O.o_xF; have := O.o_dF; have := O.o_cO; have := O.o_fO; have := O.o_dxO; have := O.o_xO; have := O.o_dO; show (_ : Nat) ≠ _; omega⟩) (hD p k t' v'' hp') e1 fun h' h₀' tk od' rest' T' B' D' F' N' hd' hR => ?_
    obtain ⟨odB', n', hdB', hs⟩ := hR
    have e2 : fellO S.s1 kF k (.ref pv) = some (k, .ref p) := by unfold fellO; rw [e1]
    exact q h' tk od' odB' n' (fr_back T' F') (by rw [e2]; exact ends _ _ _ _ _ _ _ T' N' hs) (by rw [setD, e1]; exact hd') (by rw [e2]; exact hdB')
  | none =>
    by_cases hroom : ((kF ++ [(k, Value.ref pv)]).length : Int) ≤ S.s1
    · refine set_room (outer := []) (dp := 400) X B T X T CB ktsDicts_nil hA hf hke hh (by omega) hdep (by omega) F N0 hdF O.loF hlen ne1 ne2 ne3 hr e1 hroom fun h' h₀' tk od' T' B' D' F' N' hd' => ?_
      have e2 : fellO S.s1 kF k (.ref pv) = none := by unfold fellO; rw [e1]; exact if_pos hroom
      exact q h' tk od' odB nF (fr_back T' F') (by rw [e2]; exact ends none _ _ _ _ _ _ T' N' same) (by simp only [setD, e1, Option.isSome_none, Bool.false_eq_true, if_false, if_pos hroom]; exact hd') (by rw [e2]; exact hdB)
    · obtain ⟨⟨k0, v0⟩, r, hc⟩ : ∃ p r, kF ++ [(k, .ref pv)] = p :: r := by
        cases kF with
        | nil => exact ⟨_, _, rfl⟩
        | cons p r => exact ⟨_, _, rfl⟩
      have hn : ((kF ++ [(k, Value.ref pv)]).map (·.1)).Nodup := by
        have h1 := keysNodup_of_isDictOf hdF
        rw [List.map_append, List.nodup_append]
        refine ⟨h1, by simp, fun y hy z hz e => ?_⟩
        simp only [List.map_cons, List.map_nil, List.mem_singleton] at hz
        subst e; subst hz
        obtain ⟨p, hp, hpe⟩ := List.mem_map.mp hy
        unfold valueAt at e1
        rw [Option.map_eq_none_iff, List.find?_eq_none] at e1
        exact e1 p hp (by simpa using hpe)
      obtain ⟨p, t', v'', rfl, hp'⟩ := hT' k0 v0 (by rw [hc]; exact .head _)
      refine set_evict (outer := []) (dp := 400) X B T X T CB ktsDicts_nil hA hf hke hh (by omega) hdep (by omega) F N0 hdF O.loF hlen ne1 ne2 ne3 hr (mem_off.mpr ⟨List.mem_append_right _ Led.m_fM, by have := O.o_lN; have := O.o_lS; have := O.o_lT; have := O.o_lF; have := O.o_lW; have := O.o_cB; have := O.o_fB; have := O.o_dxB; have := O.o_xB; have := O.o_dB; have := O.o_cM; have := O.o_fM; have := O.o_dxF; have := O.o_xF; have := O.o_dF; have := O.o_cO; have := O.o_fO; have := O.o_dxO; have := O.o_xO; have := O.o_dO; show (_ : Nat) ≠ _; omega⟩) (hD p k0 t' v'' hp') e1 (by omega) (k0 := k0) (by rw [hc]; rfl) (by rw [hc]; simp [valueAt]) fun h' h₀' tk od' rest' T' B' D' F' N' hd' hR => ?_
      obtain ⟨odB', n', hdB', hs⟩ := hR
      have e2 : fellO S.s1 kF k (.ref pv) = some (k0, .ref p) := by unfold fellO; rw [e1]; show (if _ then _ else _) = _; rw [if_neg hroom, hc]; rfl
      refine q h' tk od' odB' n' (fr_back T' F') (by rw [e2]; exact ends _ _ _ _ _ _ _ T' N' hs) ?_ (by rw [e2]; exact hdB')
      simp only [setD, e1, Option.isSome_none, Bool.false_eq_true, if_false, if_neg hroom]
      rw [hc, List.tail_cons]
      rw [hc] at hd' hn
      rw [without_head hn] at hd'
      exact hd'
set_option maxHeartbeats 2000000 in
theorem deletedF {Q : Value → Shared → Prop} {b0 : Bool} (O : Ok S) (hp : PrsUp S prs) (X : (hd.heap_39 w.params).In h₀) (T : Top topProg loose mean mg mb h₀) (B : Below callerA h₀ [] h₀) (CB : CodeB h₀) (hA : A.frames = some [env]) (hf : env.frame = some S.L) (hke : env.scope.kind = .function) (hh : A.handled = none) (hdep : A.depth ≤ 400) (hun : A.units ≤ 1000)
  (F : Fr h₀ S.L s.heap m) (N : News h₀ S.L s.heap (tmps ++ Led w S odF odB odO vF nF vW nW (.int key tkey) nT prs)) (hup : ∀ q ∈ tmps, S.dO < q.1) (hdF : odF.IsDictOf (PySem.intKind PySem.Challenge.rw_aj5039_01.row.prog w) kF) (hdB : odB.IsDictOf (PySem.intKind PySem.Challenge.rw_aj5039_01.row.prog w) kB) (hlen : kF.length ≤ 10) (hlB : kB.length ≤ 10) (hz : vF.length ≤ 40) (tF : Tups prs kF) (tB : Tups prs kB) (hb : (valueAt kF k).isSome = b0)
  (q : ∀ h' tk odF' odB' n', Fr h₀ S.L h' m → News h₀ S.L h' (tmps ++ Led w S odF' odB' odO (vF ++ backL key S.s2 kB (fellD kF k)) n' vW nW (.int key tkey) nT prs) → odF'.IsDictOf (PySem.intKind PySem.Challenge.rw_aj5039_01.row.prog w) (without kF k) → odB'.IsDictOf (PySem.intKind PySem.Challenge.rw_aj5039_01.row.prog w) (backK key S.s2 kB (fellD kF k)) → Q (.bool b0) { s with heap := h', toks := tk }) :
  wpAny (model PySem.Challenge.rw_aj5039_01.row.prog w) A (call (.ref 106) [.ref S.xF, .int k t]) Q E s := by
  subst hb
  have i1 : (S.xF, instObj 88 S.dxF) ∈ tmps ++ Led w S odF odB odO vF nF vW nW (.int key tkey) nT prs := List.mem_append_right _ Led.m_xF
  have i2 : (S.dxF, cont w S.tF1 S.tF2 S.tF3 S.tF4 S.s1 (.ref S.fM) S.dF) ∈ tmps ++ Led w S odF odB odO vF nF vW nW (.int key tkey) nT prs := List.mem_append_right _ Led.m_dxF
  have i3 : (S.dF, odF) ∈ tmps ++ Led w S odF odB odO vF nF vW nW (.int key tkey) nT prs := List.mem_append_right _ Led.m_dF
  have ne1 : S.xF ≠ S.dxF := News.ne N i1 i2 fun e => nomatch congrArg Obj.data e
  have ne2 : S.xF ≠ S.dF := News.ne N i1 i3 fun e => dict_ne_plain hdF e.symm
  have ne3 : S.dxF ≠ S.dF := by have := O.o_xF; have := O.o_dF; omega
  have hr : ∀ p ∈ off S.dF (tmps ++ Led w S odF odB odO vF nF vW nW (.int key tkey) nT prs), p.1 ≠ S.dF := fun q hq => (mem_off.mp hq).2
  have N0 : News h₀ S.L s.heap ((S.xF, instObj 88 S.dxF) :: (S.dxF, cont w S.tF1 S.tF2 S.tF3 S.tF4 S.s1 (.ref S.fM) S.dF) :: (S.dF, odF) :: off S.dF (tmps ++ Led w S odF odB odO vF nF vW nW (.int key tkey) nT prs)) := News.sub N fun q hq => by
    simp only [List.mem_cons] at hq
    rcases hq with rfl | rfl | rfl | hq
    · exact i1
    · exact i2
    · exact i3
    · exact (mem_off.mp hq).1

  have b1 : S.xF ≠ S.dB ∧ S.dxF ≠ S.dB ∧ S.dF ≠ S.dB ∧ S.xF ≠ S.lF ∧ S.dxF ≠ S.lF ∧ S.dF ≠ S.lF ∧ S.lF ≠ S.dB ∧ S.dxB ≠ S.dB ∧ S.lT ≠ S.lF := by
    have := O.o_lN; have := O.o_lS; have := O.o_lT; have := O.o_lF; have := O.o_lW; have := O.o_cB; have := O.o_fB; have := O.o_dxB; have := O.o_xB; have := O.o_dB; have := O.o_cM; have := O.o_fM; have := O.o_dxF; have := O.o_xF; have := O.o_dF; have := O.o_cO; have := O.o_fO; have := O.o_dxO; have := O.o_xO; have := O.o_dO; omega
  obtain ⟨b1, b2, b3, b4, b5, b6, b7, b8, b9⟩ := b1
  have HD : DispL w 450 S.fB (mustOf S.fB (lamObjB S.L S.fa (S.L + 3) (S.L + 2) S.pm S.cB S.ctB) S.cB S.ocB (S.L + 2) S.oF (S.L + 3) S.oT S.lT (listOf #[.int key tkey] nT) S.lF (listOf vF.toArray nF)) S.lF vF key := lamB_disp O.hoB O.hqB O.hcF O.hcT b9 hz (by omega)
  have offm : ∀ q, q ∈ Led w S odF odB odO vF nF vW nW (.int key tkey) nT prs → q.1 ≠ S.dF → q ∈ off S.dF (tmps ++ Led w S odF odB odO vF nF vW nW (.int key tkey) nT prs) := fun q h n => mem_off.mpr ⟨List.mem_append_right _ h, n⟩
  have rT : ∀ q ∈ prs, q ∈ off S.dF (tmps ++ Led w S odF odB odO vF nF vW nW (.int key tkey) nT prs) := fun q h => offm q (Led.m_prs h) (by have h9 : @LT.lt Nat _ S.dO q.1 ∨ @LT.lt Nat _ q.1 S.L := hp q h; have := O.o_lN; have := O.o_lS; have := O.o_lT; have := O.o_lF; have := O.o_lW; have := O.o_cB; have := O.o_fB; have := O.o_dxB; have := O.o_xB; have := O.o_dB; have := O.o_cM; have := O.o_fM; have := O.o_dxF; have := O.o_xF; have := O.o_dF; have := O.o_cO; have := O.o_fO; have := O.o_dxO; have := O.o_xO; have := O.o_dO; show @Ne Nat q.1 S.dF; omega)
  have mm : ∀ q ∈ mustOf S.fB (lamObjB S.L S.fa (S.L + 3) (S.L + 2) S.pm S.cB S.ctB) S.cB S.ocB (S.L + 2) S.oF (S.L + 3) S.oT S.lT (listOf #[.int key tkey] nT) S.lF (listOf vF.toArray nF) ++ [(S.xB, instObj 88 S.dxB), (S.dxB, cont w S.tB1 S.tB2 S.tB3 S.tB4 S.s2 (.ref S.fB) S.dB), (S.dB, odB), (S.fM, movObj S.L S.fa (S.L + 3) (S.L + 1) S.dc S.pm S.cM S.ctM), (S.cM, S.ocM), (S.L + 1, S.oB)], q ∈ off S.dF (tmps ++ Led w S odF odB odO vF nF vW nW (.int key tkey) nT prs) := by
    intro q hq
    have := O.o_lN; have := O.o_lS; have := O.o_lT; have := O.o_lF; have := O.o_lW; have := O.o_cB; have := O.o_fB; have := O.o_dxB; have := O.o_xB; have := O.o_dB; have := O.o_cM; have := O.o_fM; have := O.o_dxF; have := O.o_xF; have := O.o_dF; have := O.o_cO; have := O.o_fO; have := O.o_dxO; have := O.o_xO; have := O.o_dO; 
    simp only [mustOf, List.cons_append, List.nil_append, List.mem_cons, List.not_mem_nil, or_false] at hq
    rcases hq with rfl | rfl | rfl | rfl | rfl | rfl | rfl | rfl | rfl | rfl | rfl | rfl
    · exact offm _ Led.m_fB (by show (_ : Nat) ≠ _; omega)
    · exact offm _ Led.m_cB (by show (_ : Nat) ≠ _; omega)
    · exact offm _ Led.m_L2 (by show (_ : Nat) ≠ _; omega)
    · exact offm _ Led.m_L3 (by show (_ : Nat) ≠ _; omega)
    · exact offm _ Led.m_lT (by show (_ : Nat) ≠ _; omega)
    · exact offm _ Led.m_lF (by show (_ : Nat) ≠ _; omega)
    · exact offm _ Led.m_xB (by show (_ : Nat) ≠ _; omega)
    · exact offm _ Led.m_dxB (by show (_ : Nat) ≠ _; omega)
    · exact offm _ Led.m_dB (by show (_ : Nat) ≠ _; omega)
    · exact offm _ Led.m_fM (by show (_ : Nat) ≠ _; omega)
    · exact offm _ Led.m_cM (by show (_ : Nat) ≠ _; omega)
    · exact offm _ Led.m_L1 (by show (_ : Nat) ≠ _; omega)
  have hmd : ∀ q ∈ mustOf S.fB (lamObjB S.L S.fa (S.L + 3) (S.L + 2) S.pm S.cB S.ctB) S.cB S.ocB (S.L + 2) S.oF (S.L + 3) S.oT S.lT (listOf #[.int key tkey] nT) S.lF (listOf vF.toArray nF), q.1 ≠ S.dB := by
    intro q hq
    have := O.o_lN; have := O.o_lS; have := O.o_lT; have := O.o_lF; have := O.o_lW; have := O.o_cB; have := O.o_fB; have := O.o_dxB; have := O.o_xB; have := O.o_dB; have := O.o_cM; have := O.o_fM; have := O.o_dxF; have := O.o_xF; have := O.o_dF; have := O.o_cO; have := O.o_fO; have := O.o_dxO; have := O.o_xO; have := O.o_dO; 
    simp only [mustOf, List.mem_cons, List.not_mem_nil, or_false] at hq
    rcases hq with rfl | rfl | rfl | rfl | rfl | rfl <;> (show (_ : Nat) ≠ _; omega)
  have rB : (S.dB, odB) ∈ off S.dF (tmps ++ Led w S odF odB odO vF nF vW nW (.int key tkey) nT prs) := mm _ (.tail _ (.tail _ (.tail _ (.tail _ (.tail _ (.tail _ (.tail _ (.tail _ (.head _)))))))))
  have rL : (S.lF, listOf vF.toArray nF) ∈ off S.dF (tmps ++ Led w S odF odB odO vF nF vW nW (.int key tkey) nT prs) := mm _ (.tail _ (.tail _ (.tail _ (.tail _ (.tail _ (.head _))))))
  have fin : ∀ (odF' odB' : Obj) (l' : List Value) (n' : Nat), ∀ q ∈ tmps ++ Led w S odF' odB' odO l' n' vW nW (.int key tkey) nT prs, q ∈ (S.xF, instObj 88 S.dxF) :: (S.dxF, cont w S.tF1 S.tF2 S.tF3 S.tF4 S.s1 (.ref S.fM) S.dF) :: (S.dF, odF') :: upd S.lF (listOf (l').toArray n') (upd S.dB odB' (off S.dF (tmps ++ Led w S odF odB odO vF nF vW nW (.int key tkey) nT prs))) := fun odF' odB' l' n' q hq => by
    have hl : ∀ q ∈ tmps, q.1 ≠ S.lF := fun q hq => by (have h9 : S.dO < q.1 := hup q hq; have := O.o_lW; have := O.o_cB; have := O.o_fB; have := O.o_dxB; have := O.o_xB; have := O.o_dB; have := O.o_cM; have := O.o_fM; have := O.o_dxF; have := O.o_xF; have := O.o_dF; have := O.o_cO; have := O.o_fO; have := O.o_dxO; have := O.o_xO; have := O.o_dO; exact Nat.ne_of_gt (by omega))
    have h1 : ∀ q ∈ tmps ++ Led w S odF' odB odO vF nF vW nW (.int key tkey) nT prs, q ∈ upd S.dF odF' (tmps ++ Led w S odF odB odO vF nF vW nW (.int key tkey) nT prs) := upd_app (up_dF O hup) (UpdF.upd (Led.u_dF O hp) odF')
    have h2 : ∀ q ∈ tmps ++ Led w S odF' odB' odO vF nF vW nW (.int key tkey) nT prs, q ∈ upd S.dB odB' (upd S.dF odF' (tmps ++ Led w S odF odB odO vF nF vW nW (.int key tkey) nT prs)) := fun q hq => upd_mono h1 q (upd_app (up_dB O hup) (UpdF.upd (Led.u_dB O hp) odB') q hq)
    have h3 := upd_mono h2 q (upd_app hl (Led.u_lF O hp l' n') q hq)
    rcases mem_upd.mp h3 with ⟨rfl, _⟩ | ⟨h, n⟩
    · exact .tail _ (.tail _ (.tail _ (upd_eq (upd_ne rL b7))))
    · rcases mem_upd.mp h with ⟨rfl, _⟩ | ⟨h, n2⟩
      · exact .tail _ (.tail _ (.tail _ (upd_ne (upd_eq rB) n)))
      · rcases mem_upd.mp h with ⟨rfl, _⟩ | h
        · exact .tail _ (.tail _ (.head _))
        · exact .tail _ (.tail _ (.tail _ (upd_ne (upd_ne (mem_off.mpr h) n2) n)))
  have same : ∀ q ∈ upd S.lF (listOf (vF ++ []).toArray nF) (upd S.dB odB (off S.dF (tmps ++ Led w S odF odB odO vF nF vW nW (.int key tkey) nT prs))), q ∈ off S.dF (tmps ++ Led w S odF odB odO vF nF vW nW (.int key tkey) nT prs) := fun q hq => by
    rw [List.append_nil] at hq
    rcases mem_upd.mp hq with ⟨rfl, _⟩ | ⟨h, n⟩
    · exact rL
    · rcases mem_upd.mp h with ⟨rfl, _⟩ | ⟨h, n2⟩
      · exact rB
      · exact h
  have hD : ∀ p k' t' v'', (p, tup2 k' t' v'') ∈ tmps ++ Led w S odF odB odO vF nF vW nW (.int key tkey) nT prs → ∀ od', DispC w 400 S.fM p ((S.xF, instObj 88 S.dxF) :: (S.dxF, cont w S.tF1 S.tF2 S.tF3 S.tF4 S.s1 (.ref S.fM) S.dF) :: (S.dF, od') :: off S.dF (tmps ++ Led w S odF odB odO vF nF vW nW (.int key tkey) nT prs)) (fun l => ∃ rest', l = (S.xF, instObj 88 S.dxF) :: (S.dxF, cont w S.tF1 S.tF2 S.tF3 S.tF4 S.s1 (.ref S.fM) S.dF) :: (S.dF, od') :: rest' ∧ ∃ odB' n', odB'.IsDictOf (PySem.intKind PySem.Challenge.rw_aj5039_01.row.prog w) (backK key S.s2 kB (some (k', .ref p))) ∧ ∀ q ∈ upd S.lF (listOf (vF ++ backL key S.s2 kB (some (k', .ref p))).toArray n') (upd S.dB odB' (off S.dF (tmps ++ Led w S odF odB odO vF nF vW nW (.int key tkey) nT prs))), q ∈ rest') := by
    intro p k' t' v'' hpm od' mg mb mean A₀ A base h₀ outer env L m s Q E X B T XB TB CB D hA hf hke hh hdep hun F N q
    have np : p ≠ S.dF := by
      rcases List.mem_append.mp hpm with h | h
      · exact up_dF O hup _ h
      · exact fun e => dict_ne_seq hdF (Led.uniq_dF O hp (e ▸ h)).symm
    have hpr : (p, tup2 k' t' v'') ∈ (S.xF, instObj 88 S.dxF) :: (S.dxF, cont w S.tF1 S.tF2 S.tF3 S.tF4 S.s1 (.ref S.fM) S.dF) :: (S.dF, od') :: off S.dF (tmps ++ Led w S odF odB odO vF nF vW nW (.int key tkey) nT prs) := .tail _ (.tail _ (.tail _ (mem_off.mpr ⟨hpm, np⟩)))
    have tl : ∀ q ∈ off S.dF (tmps ++ Led w S odF odB odO vF nF vW nW (.int key tkey) nT prs), q ∈ (S.xF, instObj 88 S.dxF) :: (S.dxF, cont w S.tF1 S.tF2 S.tF3 S.tF4 S.s1 (.ref S.fM) S.dF) :: (S.dF, od') :: off S.dF (tmps ++ Led w S odF odB odO vF nF vW nW (.int key tkey) nT prs) := fun q h => .tail _ (.tail _ (.tail _ h))
    have i : ∀ q ∈ mustOf S.fB (lamObjB S.L S.fa (S.L + 3) (S.L + 2) S.pm S.cB S.ctB) S.cB S.ocB (S.L + 2) S.oF (S.L + 3) S.oT S.lT (listOf #[.int key tkey] nT) S.lF (listOf vF.toArray nF) ++ [(S.xB, instObj 88 S.dxB), (S.dxB, cont w S.tB1 S.tB2 S.tB3 S.tB4 S.s2 (.ref S.fB) S.dB), (S.dB, odB), (S.fM, movObj S.L S.fa (S.L + 3) (S.L + 1) S.dc S.pm S.cM S.ctM), (S.cM, S.ocM), (S.L + 1, S.oB)], q ∈ (S.xF, instObj 88 S.dxF) :: (S.dxF, cont w S.tF1 S.tF2 S.tF3 S.tF4 S.s1 (.ref S.fM) S.dF) :: (S.dF, od') :: off S.dF (tmps ++ Led w S odF odB odO vF nF vW nW (.int key tkey) nT prs) := fun q h => tl q (mm q h)
    have hm : ∀ q ∈ mustOf S.fB (lamObjB S.L S.fa (S.L + 3) (S.L + 2) S.pm S.cB S.ctB) S.cB S.ocB (S.L + 2) S.oF (S.L + 3) S.oT S.lT (listOf #[.int key tkey] nT) S.lF (listOf vF.toArray nF), q ∈ (S.xF, instObj 88 S.dxF) :: (S.dxF, cont w S.tF1 S.tF2 S.tF3 S.tF4 S.s1 (.ref S.fM) S.dF) :: (S.dF, od') :: off S.dF (tmps ++ Led w S odF odB odO vF nF vW nW (.int key tkey) nT prs) := fun q h => i q (List.mem_append_left _ h)
    by_cases hk : k' = key
    · refine mov_same X B T XB TB CB D hA hf hke hh (dp := 450) (by omega) (by omega) F N hpr (i _ (.tail _ (.tail _ (.tail _ (.tail _ (.tail _ (.tail _ (.tail _ (.tail _ (.tail _ (.head _))))))))))) (i _ (.tail _ (.tail _ (.tail _ (.tail _ (.tail _ (.tail _ (.tail _ (.tail _ (.tail _ (.tail _ (.head _)))))))))))) (i _ (.tail _ (.tail _ (.tail _ (.head _))))) (i _ (.tail _ (.tail _ (.tail _ (.tail _ (.tail _ (.tail _ (.tail _ (.tail _ (.tail _ (.tail _ (.tail _ (.head _))))))))))))) (i _ (.tail _ (.tail _ (.tail _ (.tail _ (.head _)))))) O.hoM O.hqM O.hcT O.hcB (by omega) (i _ (.tail _ (.tail _ (.tail _ (.tail _ (.tail _ (.tail _ (.head _)))))))) (i _ (.tail _ (.tail _ (.tail _ (.tail _ (.tail _ (.tail _ (.tail _ (.head _))))))))) (i _ (.tail _ (.tail _ (.tail _ (.tail _ (.tail _ (.tail _ (.tail _ (.tail _ (.head _)))))))))) hdB O.loB hlB HD hm hmd (.head _) (.tail _ (.tail _ (.tail _ (.tail _ (.tail _ (.head _)))))) (tB.mono fun q h => tl q (rT q h)) b8 hk fun h' h₀' tk T' B' D' F' N' => ?_
      refine q h' h₀' tk _ T' B' D' F' N' ⟨_, rfl, odB, nF, ?_, ?_⟩
      · rw [show backK key S.s2 kB (some (k', .ref p)) = kB from if_pos hk]; exact hdB
      · rw [show backL key S.s2 kB (some (k', .ref p)) = [] from if_pos hk]; exact same
    · refine mov_other X B T XB TB CB D hA hf hke hh (dp := 450) (by omega) (by omega) F N hpr (i _ (.tail _ (.tail _ (.tail _ (.tail _ (.tail _ (.tail _ (.tail _ (.tail _ (.tail _ (.head _))))))))))) (i _ (.tail _ (.tail _ (.tail _ (.tail _ (.tail _ (.tail _ (.tail _ (.tail _ (.tail _ (.tail _ (.head _)))))))))))) (i _ (.tail _ (.tail _ (.tail _ (.head _))))) (i _ (.tail _ (.tail _ (.tail _ (.tail _ (.tail _ (.tail _ (.tail _ (.tail _ (.tail _ (.tail _ (.tail _ (.head _))))))))))))) (i _ (.tail _ (.tail _ (.tail _ (.tail _ (.head _)))))) O.hoM O.hqM O.hcT O.hcB (by omega) (i _ (.tail _ (.tail _ (.tail _ (.tail _ (.tail _ (.tail _ (.head _)))))))) (i _ (.tail _ (.tail _ (.tail _ (.tail _ (.tail _ (.tail _ (.tail _ (.head _))))))))) (i _ (.tail _ (.tail _ (.tail _ (.tail _ (.tail _ (.tail _ (.tail _ (.tail _ (.head _)))))))))) hdB O.loB hlB HD hm hmd (.head _) (.tail _ (.tail _ (.tail _ (.tail _ (.tail _ (.head _)))))) (tB.mono fun q h => tl q (rT q h)) b8 hk fun h' h₀' tk odB' n' T' B' D' F' N' hd' => ?_
      refine q h' h₀' tk _ T' B' D' F' N' ⟨_, by rw [upd_cons b1, upd_cons b2, upd_cons b3, upd_cons b4, upd_cons b5, upd_cons b6], odB', n', ?_, ?_⟩
      · rw [show backK key S.s2 kB (some (k', .ref p)) = setD S.s2 kB k' (.ref p) from if_neg hk]; exact hd'
      · rw [show backL key S.s2 kB (some (k', .ref p)) = fellL key (fellO S.s2 kB k' (.ref p)) from if_neg hk]; exact fun q h => h
  have ends : ∀ (e : Option (Int × Value)) (h' h₀' : Heap) (odF' odB' : Obj) (n' : Nat) (rest' : List (Addr × Obj)), KtsTurn ([] : List Addr) h₀ h₀' → News h₀' S.L h' ((S.xF, instObj 88 S.dxF) :: (S.dxF, cont w S.tF1 S.tF2 S.tF3 S.tF4 S.s1 (.ref S.fM) S.dF) :: (S.dF, odF') :: rest') → (∀ q ∈ upd S.lF (listOf (vF ++ backL key S.s2 kB e).toArray n') (upd S.dB odB' (off S.dF (tmps ++ Led w S odF odB odO vF nF vW nW (.int key tkey) nT prs))), q ∈ rest') → News h₀ S.L h' (tmps ++ Led w S odF' odB' odO (vF ++ backL key S.s2 kB e) n' vW nW (.int key tkey) nT prs) := fun e h' h₀' odF' odB' n' rest' T' N' hs => News.sub (news_back T' N') fun q hq => by
    have := fin odF' odB' _ n' q hq
    simp only [List.mem_cons] at this ⊢
    rcases this with h | h | h | h
    · exact .inl h
    · exact .inr (.inl h)
    · exact .inr (.inr (.inl h))
    · exact .inr (.inr (.inr (hs q h)))

  cases e1 : valueAt kF k with
  | some v0 =>
    obtain ⟨p, t', v'', rfl, hp'⟩ := (tF.mono fun q h => List.mem_append_right _ (Led.m_prs h)) k v0 (mem_of_valueAt e1)
    refine deleted_hit (outer := []) (dp := 400) X B T X T CB ktsDicts_nil hA hf hke hh (by omega) hdep (by omega) F N0 hdF O.loF hlen ne1 ne2 ne3 hr (mem_off.mpr ⟨List.mem_append_right _ Led.m_fM, by have := O.o_lN; have := O.o_lS; have := O.o_lT; have := O.o_lF; have := O.o_lW; have := O.o_cB; have := O.o_fB; have := O.o_dxB; have := O.o_xB; have := O.o_dB; have := O.o_cM; have := O.o_fM; have := O.o_dxF; have := O.o_xF; have := O.o_dF; have := O.o_cO; have := O.o_fO; have := O.o_dxO; have := O.o_xO; have := O.o_dO; show (_ : Nat) ≠ _; omega⟩) (hD p k t' v'' (List.mem_append.mpr (List.mem_append.mp hp'))) e1 fun h' h₀' tk od' rest' T' B' D' F' N' hd' hR => ?_
    obtain ⟨odB', n', hdB', hs⟩ := hR
    have e2 : fellD kF k = some (k, .ref p) := by unfold fellD; rw [e1]; rfl
    have := q h' tk od' odB' n' (fr_back T' F') (by rw [e2]; exact ends _ _ _ _ _ _ _ T' N' hs) hd' (by rw [e2]; exact hdB')
    rw [e1] at this; exact this
  | none =>
    refine deleted_miss (outer := []) (dp := 400) X B T X T CB ktsDicts_nil hA hf hke hh (by omega) hdep (by omega) F N0 hdF O.loF hlen ne1 ne2 ne3 hr e1 fun h' h₀' tk T' B' D' F' N' => ?_
    have e2 : fellD kF k = none := by unfold fellD; rw [e1]; rfl
    have := q h' tk odF odB nF (fr_back T' F') (by rw [e2]; exact ends none _ _ _ _ _ _ T' N' same) (by rw [without_miss e1]; exact hdF) (by rw [e2]; exact hdB)
    rw [e1] at this; exact this
end
end Mine
end
section
open PySem PySem.W PyProof.Rows PySem.Calls PyProof.V PySem.Spec
set_option maxRecDepth 100000
namespace Mine
theorem SetIs.congr {o : Obj} {l l' : List Int} (x : SetIs o l) (h1 : l.Nodup) (h2 : l'.Nodup) (h : ∀ k, k ∈ l ↔ k ∈ l') : SetIs o l' := by
  intro prog w
  obtain ⟨hex, es, ep, t, hd, hel, hmem, hn, hf⟩ := x prog w
  refine ⟨hex, es, ep, t, hd, hel, fun k => ?_, by rw [hn]; exact len_eq h1 h2 h, hf⟩
  rw [← hmem k]
  have : (l'.any (· == k)) = (l.any (· == k)) := by
    simp only [List.any_beq']
    rw [Bool.eq_iff_iff]
    simp [h]
  show (l'.any (· == k)) = true ↔ (l.any (· == k)) = true
  rw [this]
/-- the union of two small sets -/
def UnOf (w : World) (o : Obj) (ks : List Int) : Prop := ∃ mask m, SSo (btOf w) mask m o ∧ (pl m).length ≤ mask ∧ m < 128 ∧ ∀ k, k ∈ keysM m ↔ k ∈ ks
theorem UnOf.setIs {w : World} {o : Obj} {ks : List Int} (x : UnOf w o ks) (hn : ks.Nodup) : SetIs o ks := by
  obtain ⟨mask, m, y, hl, _, hk⟩ := x
  exact (y.setIs hl).congr (keysM_nodup m) hn hk
theorem SmOf.setIs {w : World} {o : Obj} {ks : List Int} (x : SmOf w o ks) (hs : ∀ k ∈ ks, 0 ≤ k ∧ k < 7) (hn : ks.Nodup) : SetIs o ks :=
  (SSo.setIs x (pl_len _)).congr (keysM_nodup _) hn fun _ => keysM_mkl hs
section
variable {prog : Program} {w : World} {A : Around} {E : Value → Shared → Prop} {s : Shared} {h₀ : Heap} {L a b : Addr} {m : Str → Option Value} {news : List (Addr × Obj)} {oa ob : Obj} {k1 k2 : List Int}
theorem dj_bits (sm1 : ∀ k ∈ k1, 0 ≤ k ∧ k < 7) (sm2 : ∀ k ∈ k2, 0 ≤ k ∧ k < 7) (dj : ∀ k ∈ k1, k ∉ k2) : ∀ j, j < 7 → ¬ ((mkl k1).testBit j = true ∧ (mkl k2).testBit j = true) := fun j _ h =>
  dj (j : Int) ((mkl_mem sm1 (Int.natCast_nonneg j)).mp (by simpa using h.1)) ((mkl_mem sm2 (Int.natCast_nonneg j)).mp (by simpa using h.2))
theorem R_or {Q : Value → Shared → Prop} (F : Fr h₀ L s.heap m) (N : News h₀ L s.heap news) (ha : (a, oa) ∈ news) (hb : (b, ob) ∈ news) (hab : a ≠ b) (x : SmOf w oa k1) (y : SmOf w ob k2) (sm1 : ∀ k ∈ k1, 0 ≤ k ∧ k < 7) (sm2 : ∀ k ∈ k2, 0 ≤ k ∧ k < 7)
    (n1 : k1.Nodup) (n2 : k2.Nodup) (l1 : k1.length ≤ 3) (l2 : k2.length ≤ 3) (dj : ∀ k ∈ k1, k ∉ k2)
    (h : ∀ D h' so, Fr h₀ L h' m → News h₀ L h' ((D, so) :: news) → (∀ p ∈ news, p.1 < D) → UnOf w so (k1 ++ k2) → Q (.ref D) { s with heap := h' }) :
    wpAny (model prog w) A (binaryOp .BitOr (.ref a) (.ref b)) Q E s := by
  refine or_ss hab (N _ ha).1 x (N _ hb).1 y (mkl_lt sm1) (mkl_lt sm2) (by rw [pl_mkl sm1 n1]; exact l1) (by rw [pl_mkl sm2 n2]; exact l2) (dj_bits sm1 sm2 dj) fun h' o' mask' hs ho' hx hl => ?_
  have hk : ∀ b o, b < s.heap.objs.size → s.heap.get? b = some o → h'.get? b = some o := fun b o hb e => by
    rw [hs.2 b (Nat.ne_of_lt hb)]; exact Heap.get?_push_of_some _ e
  refine h _ h' o' (fr_grown F hk) (news_pushed F N (fun b o e => hk b o (Heap.lt_size e) e) ho' rfl) (fun p hp => Heap.lt_size (N p hp).1) ⟨mask', _, hx, hl, Nat.or_lt_two_pow (n := 7) (mkl_lt sm1) (mkl_lt sm2), fun k => ?_⟩
  have e : mkl k1 ||| mkl k2 = mkl (k1 ++ k2) := by
    refine bits_eq (Nat.or_lt_two_pow (n := 7) (mkl_lt sm1) (mkl_lt sm2)) (mkl_lt fun k hk => (List.mem_append.mp hk).elim (sm1 k) (sm2 k)) fun j _ => ?_
    rw [Nat.testBit_or, mkl_bit, mkl_bit, mkl_bit, List.any_append]
  rw [e]
  exact keysM_mkl fun k hk => (List.mem_append.mp hk).elim (sm1 k) (sm2 k)
theorem R_and {Q : Value → Shared → Prop} (F : Fr h₀ L s.heap m) (N : News h₀ L s.heap news) (ha : (a, oa) ∈ news) (hb : (b, ob) ∈ news) (hab : a ≠ b) (x : SmOf w oa k1) (y : SmOf w ob k2) (sm1 : ∀ k ∈ k1, 0 ≤ k ∧ k < 7) (sm2 : ∀ k ∈ k2, 0 ≤ k ∧ k < 7)
    (n1 : k1.Nodup) (n2 : k2.Nodup) (l1 : k1.length ≤ 3) (l2 : k2.length ≤ 3) (dj : ∀ k ∈ k1, k ∉ k2)
    (h : ∀ D h' so, Fr h₀ L h' m → News h₀ L h' ((D, so) :: news) → (∀ p ∈ news, p.1 < D) → SetIs so [] → Q (.ref D) { s with heap := h' }) :
    wpAny (model prog w) A (binaryOp .BitAnd (.ref a) (.ref b)) Q E s := by
  refine and_ss hab (N _ ha).1 x (N _ hb).1 y (by rw [pl_mkl sm1 n1]; exact l1) (by rw [pl_mkl sm2 n2]; exact l2) (dj_bits sm1 sm2 dj) ?_
  have hk : ∀ b o, b < s.heap.objs.size → s.heap.get? b = some o → (s.heap.push (freshSet w)).get? b = some o := fun b o hb e => Heap.get?_push_of_some _ e
  exact h _ _ _ (fr_grown F hk) (news_pushed F N (fun b o e => hk b o (Heap.lt_size e) e) (Heap.get?_push_size _ rfl) rfl) (fun p hp => Heap.lt_size (N p hp).1) (intSetOf_fresh _)
theorem R_setlen {l : List Int} {Q : Value → Shared → Prop} (N : News h₀ L s.heap news) (ha : (a, oa) ∈ news) (x : SetIs oa l) (hl : l.length ≤ 20) (h : ∀ u tk, Q (.int l.length u) { s with toks := tk }) : wpAny (model prog w) A (call (.builtin "len") [.ref a]) Q E s := by
  obtain ⟨hex, es, ep, t, hd, hel, hmem, hn, hf⟩ := x prog w
  refine call_len_set (N _ ha).1 hex hd hf (by rw [hn]; omega) ?_
  rw [hn]
  exact h _ _
theorem R_ne_same {vs : List Value} {n n' : Nat} {Q : Value → Shared → Prop} (hu : A.units < cLine) (N : News h₀ L s.heap news) (ha : (a, listOf vs.toArray n) ∈ news) (hb : (b, listOf vs.toArray n') ∈ news) (h : Q (.bool false) s) :
    wpAny (model prog w) A (compareOp .NotEq (.ref a) (.ref b)) Q E s := by
  have hl : s.heap.IsList a vs.toArray := ⟨_, (N _ ha).1, rfl, n, rfl⟩
  have hr : s.heap.IsList b vs.toArray := ⟨_, (N _ hb).1, rfl, n', rfl⟩
  refine cmp_ofNotEq ((PySem.SeqAt.RcNeAt.lists (e := fun _ => true) hl hr rfl hu fun j h1 h2 => PySem.SeqAt.EqAt.same _) prog w E Q ?_)
  have e : ((List.range vs.toArray.size).all fun _ => true) = true := List.all_eq_true.mpr fun _ _ => rfl
  rw [e]
  exact h
theorem R_ne_len {vs ws : List Value} {n n' : Nat} {Q : Value → Shared → Prop} (hu : A.units < cLine) (N : News h₀ L s.heap news) (ha : (a, listOf vs.toArray n) ∈ news) (hb : (b, listOf ws.toArray n') ∈ news) (hne : vs.length ≠ ws.length) (h : Q (.bool true) s) :
    wpAny (model prog w) A (compareOp .NotEq (.ref a) (.ref b)) Q E s := by
  have hl : s.heap.IsList a vs.toArray := ⟨_, (N _ ha).1, rfl, n, rfl⟩
  have hr : s.heap.IsList b ws.toArray := ⟨_, (N _ hb).1, rfl, n', rfl⟩
  exact cmp_ofNotEq ((PySem.SeqAt.RcNeAt.lists_lengths hl hr (by simpa using hne) hu) prog w E Q h)
end
end Mine
end
section
open PySem PySem.W PyProof.Rows PySem.Calls PyProof.V PySem.Spec
set_option maxRecDepth 100000
namespace Mine
/-- the names that the loop's turns keep -/
structure Nm (S : St) (m : Str → Option Value) : Prop where
  numbers : m (Str.ofString "numbers") = some (.ref S.lN)
  sizes : m (Str.ofString "sizes") = some (.ref S.lS)
  front : m (Str.ofString "front") = some (.ref S.xF)
  one : m (Str.ofString "one") = some (.ref S.xO)
abbrev names01 (S : St) (m : Str → Option Value) : Str → Option Value := fun y => if y = Str.ofString "numbers" then some (.ref S.lN) else if y = Str.ofString "sizes" then some (.ref S.lS) else if y = Str.ofString "front" then some (.ref S.xF) else if y = Str.ofString "one" then some (.ref S.xO) else m y
theorem Nm.open {S : St} {m : Str → Option Value} (x : Nm S m) : ∀ y, names01 S m y = m y := fun y => by
  unfold names01
  split
  · rename_i e; rw [e, x.numbers]
  split
  · rename_i e; rw [e, x.sizes]
  split
  · rename_i e; rw [e, x.front]
  split
  · rename_i e; rw [e, x.one]
  rfl
section
variable {w : World} {S : St} {odF odB odO : Obj} {vF vW : List Value} {nF nW nT : Nat} {tv : Value} {prs tmps : List (Addr × Obj)} {l : Addr} {a b c : Prop}
theorem Led.sub_pair2 {q r : Addr × Obj} : ∀ p ∈ Led w S odF odB odO vF nF vW nW tv nT (q :: prs), p ∈ q :: r :: Led w S odF odB odO vF nF vW nW tv nT prs := fun p hp => by
  rcases List.mem_cons.mp (Led.sub_pair p hp) with h | h
  · exact h ▸ .head _
  · exact .tail _ (.tail _ h)
theorem Led.le (O : Ok S) : ∀ p ∈ Led w S odF odB odO vF nF vW nW tv nT prs, p.1 ≤ S.dO ∨ p ∈ prs := fun p hp => by
  obtain ⟨o0, o1, o2, o3, o4, o5, o6, o7, o8, o9, o10, o11, o12, o13, o14, o15, o16, o17, o18, o19, _⟩ := O
  simp only [Led, List.mem_cons] at hp
  rcases hp with rfl | rfl | rfl | rfl | rfl | rfl | rfl | rfl | rfl | rfl | rfl | rfl | rfl | rfl | rfl | rfl | rfl | rfl | rfl | rfl | rfl | rfl | rfl | rfl | h
  · exact .inl (by show (_ : Nat) ≤ _; omega)
  · exact .inl (by show (_ : Nat) ≤ _; omega)
  · exact .inl (by show (_ : Nat) ≤ _; omega)
  · exact .inl (by show (_ : Nat) ≤ _; omega)
  · exact .inl (by show (_ : Nat) ≤ _; omega)
  · exact .inl (by show (_ : Nat) ≤ _; omega)
  · exact .inl (by show (_ : Nat) ≤ _; omega)
  · exact .inl (by show (_ : Nat) ≤ _; omega)
  · exact .inl (by show (_ : Nat) ≤ _; omega)
  · exact .inl (by show (_ : Nat) ≤ _; omega)
  · exact .inl (by show (_ : Nat) ≤ _; omega)
  · exact .inl (by show (_ : Nat) ≤ _; omega)
  · exact .inl (by show (_ : Nat) ≤ _; omega)
  · exact .inl (by show (_ : Nat) ≤ _; omega)
  · exact .inl (by show (_ : Nat) ≤ _; omega)
  · exact .inl (by show (_ : Nat) ≤ _; omega)
  · exact .inl (by show (_ : Nat) ≤ _; omega)
  · exact .inl (by show (_ : Nat) ≤ _; omega)
  · exact .inl (by show (_ : Nat) ≤ _; omega)
  · exact .inl (by show (_ : Nat) ≤ _; omega)
  · exact .inl (by show (_ : Nat) ≤ _; omega)
  · exact .inl (by show (_ : Nat) ≤ _; omega)
  · exact .inl (by show (_ : Nat) ≤ _; omega)
  · exact .inl (by show (_ : Nat) ≤ _; omega)
  · exact .inr h
theorem Led.prs_mono {prs' : List (Addr × Obj)} (h0 : ∀ q ∈ prs', q ∈ prs) : ∀ p ∈ Led w S odF odB odO vF nF vW nW tv nT prs', p ∈ Led w S odF odB odO vF nF vW nW tv nT prs := fun p hp => by
  simp only [Led, List.mem_cons] at hp ⊢
  rcases hp with h | h | h | h | h | h | h | h | h | h | h | h | h | h | h | h | h | h | h | h | h | h | h | h | h
  · exact .inl h
  · exact .inr (.inl h)
  · exact .inr (.inr (.inl h))
  · exact .inr (.inr (.inr (.inl h)))
  · exact .inr (.inr (.inr (.inr (.inl h))))
  · exact .inr (.inr (.inr (.inr (.inr (.inl h)))))
  · exact .inr (.inr (.inr (.inr (.inr (.inr (.inl h))))))
  · exact .inr (.inr (.inr (.inr (.inr (.inr (.inr (.inl h)))))))
  · exact .inr (.inr (.inr (.inr (.inr (.inr (.inr (.inr (.inl h))))))))
  · exact .inr (.inr (.inr (.inr (.inr (.inr (.inr (.inr (.inr (.inl h)))))))))
  · exact .inr (.inr (.inr (.inr (.inr (.inr (.inr (.inr (.inr (.inr (.inl h))))))))))
  · exact .inr (.inr (.inr (.inr (.inr (.inr (.inr (.inr (.inr (.inr (.inr (.inl h)))))))))))
  · exact .inr (.inr (.inr (.inr (.inr (.inr (.inr (.inr (.inr (.inr (.inr (.inr (.inl h))))))))))))
  · exact .inr (.inr (.inr (.inr (.inr (.inr (.inr (.inr (.inr (.inr (.inr (.inr (.inr (.inl h)))))))))))))
  · exact .inr (.inr (.inr (.inr (.inr (.inr (.inr (.inr (.inr (.inr (.inr (.inr (.inr (.inr (.inl h))))))))))))))
  · exact .inr (.inr (.inr (.inr (.inr (.inr (.inr (.inr (.inr (.inr (.inr (.inr (.inr (.inr (.inr (.inl h)))))))))))))))
  · exact .inr (.inr (.inr (.inr (.inr (.inr (.inr (.inr (.inr (.inr (.inr (.inr (.inr (.inr (.inr (.inr (.inl h))))))))))))))))
  · exact .inr (.inr (.inr (.inr (.inr (.inr (.inr (.inr (.inr (.inr (.inr (.inr (.inr (.inr (.inr (.inr (.inr (.inl h)))))))))))))))))
  · exact .inr (.inr (.inr (.inr (.inr (.inr (.inr (.inr (.inr (.inr (.inr (.inr (.inr (.inr (.inr (.inr (.inr (.inr (.inl h))))))))))))))))))
  · exact .inr (.inr (.inr (.inr (.inr (.inr (.inr (.inr (.inr (.inr (.inr (.inr (.inr (.inr (.inr (.inr (.inr (.inr (.inr (.inl h)))))))))))))))))))
  · exact .inr (.inr (.inr (.inr (.inr (.inr (.inr (.inr (.inr (.inr (.inr (.inr (.inr (.inr (.inr (.inr (.inr (.inr (.inr (.inr (.inl h))))))))))))))))))))
  · exact .inr (.inr (.inr (.inr (.inr (.inr (.inr (.inr (.inr (.inr (.inr (.inr (.inr (.inr (.inr (.inr (.inr (.inr (.inr (.inr (.inr (.inl h)))))))))))))))))))))
  · exact .inr (.inr (.inr (.inr (.inr (.inr (.inr (.inr (.inr (.inr (.inr (.inr (.inr (.inr (.inr (.inr (.inr (.inr (.inr (.inr (.inr (.inr (.inl h))))))))))))))))))))))
  · exact .inr (.inr (.inr (.inr (.inr (.inr (.inr (.inr (.inr (.inr (.inr (.inr (.inr (.inr (.inr (.inr (.inr (.inr (.inr (.inr (.inr (.inr (.inr (.inl h)))))))))))))))))))))))
  · exact .inr (.inr (.inr (.inr (.inr (.inr (.inr (.inr (.inr (.inr (.inr (.inr (.inr (.inr (.inr (.inr (.inr (.inr (.inr (.inr (.inr (.inr (.inr (.inr (h0 _ h))))))))))))))))))))))))
theorem Led.split : ∀ p ∈ Led w S odF odB odO vF nF vW nW tv nT prs, p ∈ Led w S odF odB odO vF nF vW nW tv nT [] ∨ p ∈ prs := fun p hp => by
  simp only [Led, List.mem_cons] at hp ⊢
  rcases hp with h | h | h | h | h | h | h | h | h | h | h | h | h | h | h | h | h | h | h | h | h | h | h | h | h
  · exact .inl (.inl h)
  · exact .inl (.inr (.inl h))
  · exact .inl (.inr (.inr (.inl h)))
  · exact .inl (.inr (.inr (.inr (.inl h))))
  · exact .inl (.inr (.inr (.inr (.inr (.inl h)))))
  · exact .inl (.inr (.inr (.inr (.inr (.inr (.inl h))))))
  · exact .inl (.inr (.inr (.inr (.inr (.inr (.inr (.inl h)))))))
  · exact .inl (.inr (.inr (.inr (.inr (.inr (.inr (.inr (.inl h))))))))
  · exact .inl (.inr (.inr (.inr (.inr (.inr (.inr (.inr (.inr (.inl h)))))))))
  · exact .inl (.inr (.inr (.inr (.inr (.inr (.inr (.inr (.inr (.inr (.inl h))))))))))
  · exact .inl (.inr (.inr (.inr (.inr (.inr (.inr (.inr (.inr (.inr (.inr (.inl h)))))))))))
  · exact .inl (.inr (.inr (.inr (.inr (.inr (.inr (.inr (.inr (.inr (.inr (.inr (.inl h))))))))))))
  · exact .inl (.inr (.inr (.inr (.inr (.inr (.inr (.inr (.inr (.inr (.inr (.inr (.inr (.inl h)))))))))))))
  · exact .inl (.inr (.inr (.inr (.inr (.inr (.inr (.inr (.inr (.inr (.inr (.inr (.inr (.inr (.inl h))))))))))))))
  · exact .inl (.inr (.inr (.inr (.inr (.inr (.inr (.inr (.inr (.inr (.inr (.inr (.inr (.inr (.inr (.inl h)))))))))))))))
  · exact .inl (.inr (.inr (.inr (.inr (.inr (.inr (.inr (.inr (.inr (.inr (.inr (.inr (.inr (.inr (.inr (.inl h))))))))))))))))
  · exact .inl (.inr (.inr (.inr (.inr (.inr (.inr (.inr (.inr (.inr (.inr (.inr (.inr (.inr (.inr (.inr (.inr (.inl h)))))))))))))))))
  · exact .inl (.inr (.inr (.inr (.inr (.inr (.inr (.inr (.inr (.inr (.inr (.inr (.inr (.inr (.inr (.inr (.inr (.inr (.inl h))))))))))))))))))
  · exact .inl (.inr (.inr (.inr (.inr (.inr (.inr (.inr (.inr (.inr (.inr (.inr (.inr (.inr (.inr (.inr (.inr (.inr (.inr (.inl h)))))))))))))))))))
  · exact .inl (.inr (.inr (.inr (.inr (.inr (.inr (.inr (.inr (.inr (.inr (.inr (.inr (.inr (.inr (.inr (.inr (.inr (.inr (.inr (.inl h))))))))))))))))))))
  · exact .inl (.inr (.inr (.inr (.inr (.inr (.inr (.inr (.inr (.inr (.inr (.inr (.inr (.inr (.inr (.inr (.inr (.inr (.inr (.inr (.inr (.inl h)))))))))))))))))))))
  · exact .inl (.inr (.inr (.inr (.inr (.inr (.inr (.inr (.inr (.inr (.inr (.inr (.inr (.inr (.inr (.inr (.inr (.inr (.inr (.inr (.inr (.inr (.inl h))))))))))))))))))))))
  · exact .inl (.inr (.inr (.inr (.inr (.inr (.inr (.inr (.inr (.inr (.inr (.inr (.inr (.inr (.inr (.inr (.inr (.inr (.inr (.inr (.inr (.inr (.inr (.inl h)))))))))))))))))))))))
  · exact .inl (.inr (.inr (.inr (.inr (.inr (.inr (.inr (.inr (.inr (.inr (.inr (.inr (.inr (.inr (.inr (.inr (.inr (.inr (.inr (.inr (.inr (.inr (.inr (.inl h))))))))))))))))))))))))
  · exact .inr h
theorem Led.lt0 (h : ∀ p ∈ Led w S odF odB odO vF nF vW nW tv nT prs, p.1 < l) : S.dO < l := h _ Led.m_dO
theorem Led.lt1 (h : AllLt l (Led w S odF odB odO vF nF vW nW tv nT prs)) : S.dO < l := allLt_mem h _ Led.m_dO
theorem Led.lt2 (h : a ∧ AllLt l (Led w S odF odB odO vF nF vW nW tv nT prs)) : S.dO < l := allLt_mem h.2 _ Led.m_dO
theorem Led.lt3 (h : a ∧ b ∧ AllLt l (Led w S odF odB odO vF nF vW nW tv nT prs)) : S.dO < l := allLt_mem h.2.2 _ Led.m_dO
theorem Led.lt4 (h : a ∧ b ∧ c ∧ AllLt l (Led w S odF odB odO vF nF vW nW tv nT prs)) : S.dO < l := allLt_mem h.2.2.2 _ Led.m_dO
theorem Led.lt6 {a b c d e : Prop} (h : a ∧ b ∧ c ∧ d ∧ e ∧ AllLt l (Led w S odF odB odO vF nF vW nW tv nT prs)) : S.dO < l := allLt_mem h.2.2.2.2.2 _ Led.m_dO
theorem Led.lt5 {a b c d : Prop} (h : a ∧ b ∧ c ∧ d ∧ AllLt l (Led w S odF odB odO vF nF vW nW tv nT prs)) : S.dO < l := allLt_mem h.2.2.2.2 _ Led.m_dO
end
section
variable {w : World} {S : St} {odF odB odO : Obj} {vF vW : List Value} {nF nW nT : Nat} {tv : Value} {prs tmps : List (Addr × Obj)} {A : Around} {h₀ : Heap} {m : Str → Option Value} {s : Shared} {t : Tok} {v : Value} {E : Value → Shared → Prop} {prog : Program}
theorem touch {Q : Unit → Shared → Prop} (O : Ok S) (hp : PrsUp S prs) (F : Fr h₀ S.L s.heap m) (N : News h₀ S.L s.heap (Led w S odF odB odO vF nF vW nW tv nT prs))
    (h : ∀ h', Fr h₀ S.L h' m → News h₀ S.L h' (Led w S odF odB odO vF nF vW nW v nT prs) → Q () { s with heap := h' }) : wpAny (model prog w) A (setItem (.ref S.lT) (.int 0 t) v) Q E s :=
  ki_set (q := [v]) F N (by decide) (by decide) rfl (Led.u_lT O hp) h
end
section
variable {prog : Program} {w : World} {A : Around} {E : Value → Shared → Prop} {s : Shared} {h₀ : Heap} {L a b : Addr} {m : Str → Option Value} {news : List (Addr × Obj)} {oa ob : Obj} {ks : List Int}
/-- a small set's keys and whether one is there -/
theorem R_inB {Q : Value → Shared → Prop} {k : Int} {t : Tok} {bb : Bool} (N : News h₀ L s.heap news) (ha : (a, oa) ∈ news) (x : SmOf w oa ks) (hb : (∀ k ∈ ks, 0 ≤ k ∧ k < 7) ∧ ks.Nodup ∧ ks.length ≤ 3 ∧ (ks.any (· == k)) = bb) (h : Q (.bool bb) { s with toks := s.toks + 1 }) :
    wpAny (model prog w) A (compareOp .In (.int k t) (.ref a)) Q E s :=
  lru_inB N ha (x.setIs hb.1 hb.2.1) (by have := hb.2.2.1; omega) hb.2.2.2 h
theorem R_setlen0 {Q : Value → Shared → Prop} (N : News h₀ L s.heap news) (ha : (a, oa) ∈ news) (x : SetIs oa []) (h : ∀ u tk, Q (.int 0 u) { s with toks := tk }) : wpAny (model prog w) A (call (.builtin "len") [.ref a]) Q E s :=
  R_setlen N ha x (by decide) h
theorem R_un_ne {l' : List Int} {Q : Value → Shared → Prop} (hu : A.units < cLine) (N : News h₀ L s.heap news) (ha : (a, oa) ∈ news) (hb : (b, ob) ∈ news) (x : UnOf w oa ks) (y : SetIs ob l') (hq : ks.Nodup ∧ ks.length ≤ 20 ∧ l'.length ≤ 20 ∧ ks.length = l'.length ∧ ∀ k ∈ ks, k ∈ l')
    (h : Q (.bool false) s) : wpAny (model prog w) A (compareOp .NotEq (.ref a) (.ref b)) Q E s :=
  lru_ne hu N ha hb (x.setIs hq.1) y hq.2.1 hq.2.2.1 hq.2.2.2.1 hq.2.2.2.2 h
theorem R_item0 {value slice : PySem.Expr} {n : Nat} {u : Tok} {v0 v1 : Value} {Q : Value → Shared → Prop} (N : News h₀ L s.heap news) (hm : (a, listOf #[v0, v1] n) ∈ news) (h : Q v0 s)
    (hs : subscripted slice false (.ref a) (.int 0 u) = operate [.ref a, .int 0 u] (getItem (.ref a) (.int 0 u)) := by with_unfolding_all rfl) : wpAny (model prog w) A (subscriptTail value slice (.ref a) (.int 0 u)) Q E s :=
  have hl : s.heap.IsList a #[v0, v1] := ⟨_, (N _ hm).1, rfl, n, rfl⟩
  tail_any hl.typeIs slot_list_getitem.lookup (wpAny_getItem_list hl (by decide) (by decide) rfl h) hs
theorem R_item1 {value slice : PySem.Expr} {n : Nat} {u : Tok} {v0 v1 : Value} {Q : Value → Shared → Prop} (N : News h₀ L s.heap news) (hm : (a, listOf #[v0, v1] n) ∈ news) (h : Q v1 s)
    (hs : subscripted slice false (.ref a) (.int 1 u) = operate [.ref a, .int 1 u] (getItem (.ref a) (.int 1 u)) := by with_unfolding_all rfl) : wpAny (model prog w) A (subscriptTail value slice (.ref a) (.int 1 u)) Q E s :=
  have hl : s.heap.IsList a #[v0, v1] := ⟨_, (N _ hm).1, rfl, n, rfl⟩
  tail_any hl.typeIs slot_list_getitem.lookup (wpAny_getItem_list hl (by decide) (by decide) rfl h) hs
end
end Mine
end
section
open PySem PySem.W PyProof.Rows PySem.Calls PyProof.V PySem.Spec
set_option maxRecDepth 100000
namespace Mine
abbrev KV := List (Int × Value)
theorem valueAt_app (a b : KV) (k : Int) : valueAt (a ++ b) k = (valueAt a k).or (valueAt b k) := by
  unfold valueAt
  rw [List.find?_append]
  cases List.find? (fun kv => decide (kv.1 = k)) a <;> rfl
theorem without_app (a b : KV) (k : Int) : without (a ++ b) k = without a k ++ without b k := by
  unfold without; rw [List.filter_append]
theorem valueAt_none {a : KV} {k : Int} : valueAt a k = none ↔ k ∉ a.map (·.1) := by
  constructor
  · intro h hm
    have := mem_isSome.mpr hm
    rw [h] at this; cases this
  · intro h
    cases e : valueAt a k with
    | none => rfl
    | some v => exact absurd (mem_isSome.mp (by rw [e]; rfl)) h
theorem without_id {a : KV} {k : Int} (h : k ∉ a.map (·.1)) : without a k = a := without_of_not_mem a k h
theorem without_len (a : KV) (k : Int) : (without a k).length ≤ a.length := List.length_filter_le _ _
theorem without_len_in {a : KV} {k : Int} (hn : (a.map (·.1)).Nodup) (h : k ∈ a.map (·.1)) : (without a k).length + 1 = a.length := by
  have h1 := congrArg List.length (keys_without a k)
  have h2 := filter_len hn h
  rw [List.length_map] at h1
  rw [← h1, List.length_map] at h2
  exact h2
theorem mem_keys_without {a : KV} {k j : Int} (h : j ∈ (without a k).map (·.1)) : j ∈ a.map (·.1) ∧ j ≠ k := by
  rw [keys_without, List.mem_filter] at h
  exact ⟨h.1, by simpa using h.2⟩
/-- what holds between the turns -/
structure LI (s1 s2 : Int) (prs : List (Addr × Obj)) (kF kB kO : KV) (vF vW : List Value) (c : Nat) : Prop where
  one : kO = kB ++ kF
  nd : (kO.map (·.1)).Nodup
  bd : ∀ k ∈ kO.map (·.1), 0 ≤ k ∧ k < 7
  lf : (kF.length : Int) ≤ s1
  lb : (kB.length : Int) ≤ s2
  vs : vF = vW
  tup : Tups prs kO
  len : vF.length ≤ c
section
variable {s1 s2 : Int} {prs prs' : List (Addr × Obj)} {kF kB kO : KV} {vF vW : List Value} {c : Nat} {key : Int} {v : Value}
theorem LI.keys (x : LI s1 s2 prs kF kB kO vF vW c) : (kB.map (·.1)).Nodup ∧ (kF.map (·.1)).Nodup ∧ ∀ a ∈ kB.map (·.1), ∀ b ∈ kF.map (·.1), a ≠ b := by
  have := x.nd
  rw [x.one, List.map_append, List.nodup_append] at this
  exact this
theorem Tups.without {k : Int} {a : KV} (h : Tups prs a) : Tups prs (without a k) := fun k' v' hm => h k' v' (List.mem_filter.mp hm).1
theorem Tups.app {a b : KV} (h1 : Tups prs a) (h2 : Tups prs b) : Tups prs (a ++ b) := fun k v hm => (List.mem_append.mp hm).elim (h1 k v) (h2 k v)
theorem fellL_none (key : Int) : fellL key none = [] := rfl
theorem fellL_key (key : Int) (v : Value) : fellL key (some (key, v)) = [] := if_pos rfl
theorem fellD_L (key : Int) (kvs : KV) : fellL key (fellD kvs key) = [] := by
  unfold fellD
  cases valueAt kvs key with
  | none => rfl
  | some v => exact if_pos rfl
theorem backK_D (key mx : Int) (kB kvs : KV) : backK key mx kB (fellD kvs key) = kB := by
  unfold fellD
  cases valueAt kvs key with
  | none => rfl
  | some v => exact if_pos rfl
theorem backL_D (key mx : Int) (kB kvs : KV) : backL key mx kB (fellD kvs key) = [] := by
  unfold fellD
  cases valueAt kvs key with
  | none => rfl
  | some v => exact if_pos rfl
theorem LI.drop (x : LI s1 s2 prs kF kB kO vF vW c) : LI s1 s2 prs (without kF key) (without kB key) (without kO key) vF vW c where
  one := by rw [x.one, without_app]
  nd := by rw [keys_without]; exact x.nd.sublist List.filter_sublist
  bd := fun k hk => x.bd k (mem_keys_without hk).1
  lf := Int.le_trans (by have := without_len kF key; omega) x.lf
  lb := Int.le_trans (by have := without_len kB key; omega) x.lb
  vs := x.vs
  tup := x.tup.without
  len := x.len
/-- a list of pairs whose last one is set anew -/
theorem nodup_snoc {a : KV} (hn : (a.map (·.1)).Nodup) (h : key ∉ a.map (·.1)) : ((a ++ [(key, v)]).map (·.1)).Nodup := by
  rw [List.map_append, List.nodup_append]
  refine ⟨hn, by simp, fun y hy z hz e => ?_⟩
  simp only [List.map_cons, List.map_nil, List.mem_singleton] at hz
  subst e; subst hz
  exact h hy
theorem LI.touch (hs : 1 ≤ s1) (hs2 : 0 ≤ s2) (x : LI s1 s2 prs kF kB kO vF vW c) (hk : 0 ≤ key ∧ key < 7) (hsub : ∀ q ∈ prs, q ∈ prs') (hv : ∃ p t v', v = .ref p ∧ (p, tup2 key t v') ∈ prs') :
    LI s1 s2 prs' (setD s1 kF key v) (backK key s2 (without kB key) (fellO s1 kF key v)) (setD (s1 + s2) kO key v) (vF ++ backL key s2 (without kB key) (fellO s1 kF key v)) (vW ++ fellL key (fellO (s1 + s2) kO key v)) (c + 1) := by
  obtain ⟨ndB, ndF, dj⟩ := x.keys
  have tO : Tups prs' kO := x.tup.mono hsub
  have tV : Tups prs' [(key, v)] := fun k' v' hm => by
    cases List.mem_singleton.mp hm
    exact hv
  -- the result of the great one when the key is put last
  have fin : ∀ (kF' kB' : KV) (l : List Value), kB' ++ kF' = without kO key ++ [(key, v)] → (kF'.length : Int) ≤ s1 → (kB'.length : Int) ≤ s2 → l = [] → LI s1 s2 prs' kF' kB' (without kO key ++ [(key, v)]) (vF ++ l) (vW ++ []) (c + 1) := by
    intro kF' kB' l e l1 l2 hl
    subst hl
    refine { one := e.symm, nd := nodup_snoc (by rw [keys_without]; exact x.nd.sublist List.filter_sublist) (fun h => (mem_keys_without h).2 rfl), bd := fun k hk' => ?_, lf := l1, lb := l2, vs := by rw [x.vs], tup := tO.without.app tV, len := by rw [List.append_nil]; exact Nat.le_succ_of_le x.len }
    rw [List.map_append, List.mem_append] at hk'
    rcases hk' with h | h
    · exact x.bd k (mem_keys_without h).1
    · simp only [List.map_cons, List.map_nil, List.mem_singleton] at h
      subst h; exact hk
  cases eF : valueAt kF key with
  | some v0 =>
    have hF : key ∈ kF.map (·.1) := mem_isSome.mp (by rw [eF]; rfl)
    have hB : key ∉ kB.map (·.1) := fun h => dj _ h _ hF rfl
    have hO : valueAt kO key = some v0 := by rw [x.one, valueAt_app, valueAt_none.mpr hB, eF]; rfl
    have a1 : setD s1 kF key v = without kF key ++ [(key, v)] := by unfold setD; rw [eF]; rfl
    have a2 : fellO s1 kF key v = some (key, v0) := by unfold fellO; rw [eF]
    have a3 : setD (s1 + s2) kO key v = without kO key ++ [(key, v)] := by unfold setD; rw [hO]; rfl
    have a4 : fellO (s1 + s2) kO key v = some (key, v0) := by unfold fellO; rw [hO]
    rw [a1, a2, a3, a4, fellL_key, show backK key s2 (without kB key) (some (key, v0)) = without kB key from if_pos rfl, show backL key s2 (without kB key) (some (key, v0)) = [] from if_pos rfl]
    refine fin _ _ _ ?_ ?_ ?_ rfl
    · rw [x.one, without_app, List.append_assoc]
    · have := without_len_in ndF hF
      have := x.lf
      rw [List.length_append, List.length_singleton]; omega
    · have := without_len kB key
      have := x.lb
      omega
  | none =>
    have hF : key ∉ kF.map (·.1) := valueAt_none.mp eF
    have idF : without kF key = kF := without_id hF
    cases eB : valueAt kB key with
    | some v0 =>
      have hB : key ∈ kB.map (·.1) := mem_isSome.mp (by rw [eB]; rfl)
      have hO : valueAt kO key = some v0 := by rw [x.one, valueAt_app, eB]; rfl
      have a3 : setD (s1 + s2) kO key v = without kO key ++ [(key, v)] := by unfold setD; rw [hO]; rfl
      have a4 : fellO (s1 + s2) kO key v = some (key, v0) := by unfold fellO; rw [hO]
      have lB := without_len_in ndB hB
      rw [a3, a4, fellL_key]
      by_cases hroom : ((kF ++ [(key, v)]).length : Int) ≤ s1
      · have a1 : setD s1 kF key v = kF ++ [(key, v)] := by unfold setD; rw [eF]; show (if false = true then _ else if _ then _ else _) = _; rw [if_neg Bool.false_ne_true, if_pos hroom]
        have a2 : fellO s1 kF key v = none := by unfold fellO; rw [eF]; exact if_pos hroom
        rw [a1, a2]
        refine fin _ _ _ ?_ hroom ?_ rfl
        · show without kB key ++ _ = _
          rw [x.one, without_app, idF, List.append_assoc]
        · show ((without kB key).length : Int) ≤ s2
          have := x.lb; omega
      · have hlen : (kF.length : Int) = s1 := by rw [List.length_append, List.length_singleton] at hroom; have := x.lf; omega
        obtain ⟨⟨k0, v0'⟩, r, hc⟩ : ∃ p r, kF = p :: r := by
          cases kF with
          | nil => simp at hlen; omega
          | cons p r => exact ⟨_, _, rfl⟩
        have a1 : setD s1 kF key v = r ++ [(key, v)] := by unfold setD; rw [eF]; show (if false = true then _ else if _ then _ else _) = _; rw [if_neg Bool.false_ne_true, if_neg hroom, hc]; rfl
        have a2 : fellO s1 kF key v = some (k0, v0') := by unfold fellO; rw [eF]; show (if _ then _ else _) = _; rw [if_neg hroom, hc]; rfl
        have hk0 : k0 ∈ kF.map (·.1) := by rw [hc]; exact .head _
        have n0 : k0 ≠ key := fun e => hF (e ▸ hk0)
        have nB : k0 ∉ (without kB key).map (·.1) := fun h => dj _ (mem_keys_without h).1 _ hk0 rfl
        have room2 : ((without kB key ++ [(k0, v0')]).length : Int) ≤ s2 := by rw [List.length_append, List.length_singleton]; have := x.lb; omega
        have b1 : setD s2 (without kB key) k0 v0' = without kB key ++ [(k0, v0')] := by unfold setD; rw [valueAt_none.mpr nB]; show (if false = true then _ else if _ then _ else _) = _; rw [if_neg Bool.false_ne_true, if_pos room2]
        have b2 : fellO s2 (without kB key) k0 v0' = none := by unfold fellO; rw [valueAt_none.mpr nB]; exact if_pos room2
        rw [a1, a2, show backK key s2 (without kB key) (some (k0, v0')) = setD s2 (without kB key) k0 v0' from if_neg n0, show backL key s2 (without kB key) (some (k0, v0')) = fellL key (fellO s2 (without kB key) k0 v0') from if_neg n0, b1, b2]
        refine fin _ _ _ ?_ ?_ room2 rfl
        · rw [x.one, without_app, idF, hc]; simp
        · rw [hc, List.length_cons] at hlen
          rw [List.length_append, List.length_singleton]; omega
    | none =>
      have hB : key ∉ kB.map (·.1) := valueAt_none.mp eB
      have idB : without kB key = kB := without_id hB
      have hO : valueAt kO key = none := by rw [x.one, valueAt_app, eB, eF]; rfl
      have hOk : key ∉ kO.map (·.1) := valueAt_none.mp hO
      have idO : without kO key = kO := without_id hOk
      have lO : kO.length = kB.length + kF.length := by rw [x.one, List.length_append]
      rw [idB]
      rw [idO] at fin
      by_cases hroom : ((kF ++ [(key, v)]).length : Int) ≤ s1
      · have a1 : setD s1 kF key v = kF ++ [(key, v)] := by unfold setD; rw [eF]; show (if false = true then _ else if _ then _ else _) = _; rw [if_neg Bool.false_ne_true, if_pos hroom]
        have a2 : fellO s1 kF key v = none := by unfold fellO; rw [eF]; exact if_pos hroom
        have roomO : ((kO ++ [(key, v)]).length : Int) ≤ s1 + s2 := by
          rw [List.length_append, List.length_singleton] at hroom ⊢
          have := x.lb; omega
        have a3 : setD (s1 + s2) kO key v = kO ++ [(key, v)] := by unfold setD; rw [hO]; show (if false = true then _ else if _ then _ else _) = _; rw [if_neg Bool.false_ne_true, if_pos roomO]
        have a4 : fellO (s1 + s2) kO key v = none := by unfold fellO; rw [hO]; exact if_pos roomO
        rw [a1, a2, a3, a4]
        refine fin _ _ _ ?_ hroom x.lb rfl
        show kB ++ _ = _
        rw [x.one, List.append_assoc]
      · have hlen : (kF.length : Int) = s1 := by rw [List.length_append, List.length_singleton] at hroom; have := x.lf; omega
        obtain ⟨⟨k0, v0'⟩, r, hc⟩ : ∃ p r, kF = p :: r := by
          cases kF with
          | nil => simp at hlen; omega
          | cons p r => exact ⟨_, _, rfl⟩
        have a1 : setD s1 kF key v = r ++ [(key, v)] := by unfold setD; rw [eF]; show (if false = true then _ else if _ then _ else _) = _; rw [if_neg Bool.false_ne_true, if_neg hroom, hc]; rfl
        have a2 : fellO s1 kF key v = some (k0, v0') := by unfold fellO; rw [eF]; show (if _ then _ else _) = _; rw [if_neg hroom, hc]; rfl
        have hk0 : k0 ∈ kF.map (·.1) := by rw [hc]; exact .head _
        have n0 : k0 ≠ key := fun e => hF (e ▸ hk0)
        have nB : k0 ∉ kB.map (·.1) := fun h => dj _ h _ hk0 rfl
        have lr : ((r ++ [(key, v)]).length : Int) ≤ s1 := by
          rw [hc, List.length_cons] at hlen
          rw [List.length_append, List.length_singleton]; omega
        rw [a1, a2, show backK key s2 kB (some (k0, v0')) = setD s2 kB k0 v0' from if_neg n0, show backL key s2 kB (some (k0, v0')) = fellL key (fellO s2 kB k0 v0') from if_neg n0]
        by_cases room2 : ((kB ++ [(k0, v0')]).length : Int) ≤ s2
        · have b1 : setD s2 kB k0 v0' = kB ++ [(k0, v0')] := by unfold setD; rw [valueAt_none.mpr nB]; show (if false = true then _ else if _ then _ else _) = _; rw [if_neg Bool.false_ne_true, if_pos room2]
          have b2 : fellO s2 kB k0 v0' = none := by unfold fellO; rw [valueAt_none.mpr nB]; exact if_pos room2
          have roomO : ((kO ++ [(key, v)]).length : Int) ≤ s1 + s2 := by
            rw [List.length_append, List.length_singleton] at room2 ⊢
            omega
          have a3 : setD (s1 + s2) kO key v = kO ++ [(key, v)] := by unfold setD; rw [hO]; show (if false = true then _ else if _ then _ else _) = _; rw [if_neg Bool.false_ne_true, if_pos roomO]
          have a4 : fellO (s1 + s2) kO key v = none := by unfold fellO; rw [hO]; exact if_pos roomO
          rw [b1, b2, a3, a4]
          refine fin _ _ _ ?_ lr room2 rfl
          rw [x.one, hc]; simp
        · have lenB : (kB.length : Int) = s2 := by rw [List.length_append, List.length_singleton] at room2; have := x.lb; omega
          obtain ⟨⟨j0, w0⟩, br, hbc⟩ : ∃ p r, kB ++ [(k0, v0')] = p :: r := by
            cases kB with
            | nil => exact ⟨_, _, rfl⟩
            | cons p r => exact ⟨_, _, rfl⟩
          have b1 : setD s2 kB k0 v0' = br := by unfold setD; rw [valueAt_none.mpr nB]; show (if false = true then _ else if _ then _ else _) = _; rw [if_neg Bool.false_ne_true, if_neg room2, hbc]; rfl
          have b2 : fellO s2 kB k0 v0' = some (j0, w0) := by unfold fellO; rw [valueAt_none.mpr nB]; show (if _ then _ else _) = _; rw [if_neg room2, hbc]; rfl
          have whole : kO ++ [(key, v)] = (j0, w0) :: (br ++ (r ++ [(key, v)])) := by
            have : kO ++ [(key, v)] = (kB ++ [(k0, v0')]) ++ (r ++ [(key, v)]) := by rw [x.one, hc]; simp
            rw [this, hbc]; rfl
          have roomO : ¬ ((kO ++ [(key, v)]).length : Int) ≤ s1 + s2 := by
            rw [List.length_append, List.length_singleton]; omega
          have a3 : setD (s1 + s2) kO key v = br ++ (r ++ [(key, v)]) := by unfold setD; rw [hO]; show (if false = true then _ else if _ then _ else _) = _; rw [if_neg Bool.false_ne_true, if_neg roomO, whole]; rfl
          have a4 : fellO (s1 + s2) kO key v = some (j0, w0) := by unfold fellO; rw [hO]; show (if _ then _ else _) = _; rw [if_neg roomO, whole]; rfl
          have hj : j0 ≠ key := by
            have : (j0, w0) ∈ kB ++ [(k0, v0')] := by rw [hbc]; exact .head _
            intro e
            rcases List.mem_append.mp this with h | h
            · exact hB (e ▸ List.mem_map_of_mem h)
            · cases List.mem_singleton.mp h; exact n0 e
          have ndW := nodup_snoc (v := v) x.nd hOk
          rw [whole, List.map_cons, List.nodup_cons] at ndW
          have tW : Tups prs' (br ++ (r ++ [(key, v)])) := fun k' v' hm => (tO.app tV) k' v' (by rw [whole]; exact .tail _ hm)
          rw [b1, b2, a3, a4]
          refine { one := rfl, nd := ndW.2, bd := fun k hk' => ?_, lf := lr, lb := ?_, vs := by rw [x.vs], tup := tW, len := ?_ }
          · have : k ∈ (kO ++ [(key, v)]).map (·.1) := by rw [whole]; exact .tail _ hk'
            rw [List.map_append, List.mem_append] at this
            rcases this with h | h
            · exact x.bd k h
            · simp only [List.map_cons, List.map_nil, List.mem_singleton] at h
              subst h; exact hk
          · have := congrArg List.length hbc
            rw [List.length_append, List.length_singleton, List.length_cons] at this
            omega
          · rw [List.length_append]
            have : (fellL key (some (j0, w0))).length ≤ 1 := by rw [show fellL key (some (j0, w0)) = [w0] from if_neg hj]; exact Nat.le_refl _
            have := x.len
            omega
end
end Mine
end
section
open PySem PySem.W PyProof.Rows PySem.Calls PyProof.V PySem.Spec
set_option maxRecDepth 100000
namespace Mine
local macro_rules | `(tactic| k_room) => `(tactic| first | ((try simp only [depth_under_make, depth_under_kw, depth_in1, depth_deeper, depth_caller, depth_mark, recursionLimit]); first | decide | omega))
local macro_rules | `(tactic| k_mem) => `(tactic| first | assumption | exact Led.m_L1 | exact Led.m_L2 | exact Led.m_L3 | exact Led.m_L4 | exact Led.m_lN | exact Led.m_lS | exact Led.m_lT | exact Led.m_lF | exact Led.m_lW | exact Led.m_fB | exact Led.m_cB | exact Led.m_xB | exact Led.m_dxB | exact Led.m_dB | exact Led.m_fM | exact Led.m_cM | exact Led.m_xF | exact Led.m_dxF | exact Led.m_dF | exact Led.m_fO | exact Led.m_cO | exact Led.m_xO | exact Led.m_dxO | exact Led.m_dO | exact Led.m_prs (by assumption) | exact List.Mem.head _ | (refine' List.Mem.tail _ ?_; k_mem))
local macro_rules | `(tactic| k_ne) => `(tactic| first | assumption | exact Nat.ne_of_lt (by assumption) | exact Nat.ne_of_gt (by assumption) | (refine neN ?_; (try dsimp only); omega))
local macro_rules | `(tactic| lcg_off) => `(tactic| first | exact List.forall_mem_nil _ | (refine List.forall_mem_cons.mpr ⟨?ua, ?ub⟩; (case ua => first | assumption | exact Led.lt0 (by assumption) | exact Led.lt1 (by assumption) | exact Led.lt2 (by assumption) | exact Led.lt3 (by assumption) | exact Led.lt4 (by assumption) | exact Led.lt5 (by assumption) | exact Led.lt6 (by assumption)); (case ub => lcg_off)))
local macro_rules | `(tactic| lcg_sub) => `(tactic| first | exact (fun _ h => h) | exact (fun _ h => .tail _ (h)) | exact (fun _ h => .tail _ (.tail _ (h))) | exact (fun _ h => .tail _ (.tail _ (.tail _ (h)))) | exact (fun _ h => .tail _ (.tail _ (.tail _ (.tail _ (h))))) | exact (fun _ h => .tail _ (.tail _ (.tail _ (.tail _ (.tail _ (h)))))) | exact (fun _ h => .tail _ (.tail _ (.tail _ (.tail _ (.tail _ (.tail _ (h))))))) | exact (fun _ h => .tail _ (.tail _ (.tail _ (.tail _ (.tail _ (.tail _ (.tail _ (h)))))))) | exact (fun _ h => .tail _ (.tail _ (.tail _ (.tail _ (.tail _ (.tail _ (.tail _ (.tail _ (h))))))))))
local macro_rules | `(tactic| walk_at "call ref") => `(tactic| (k_here; (with_reducible show wpAny _ _ (call (Value.ref 99) [Value.ref _, Value.int _ _]) _ _ _); k_dflt (first | (refine' gotF_miss (tmps := []) ?O ?hp ?X ?T ?B ?CB ?hA ?hf ?hke ?hh ?hdep ?hun ?F ?N ?hup ?hd ?hlen ?hv ?_; (case O => assumption); (case hp => assumption); (case X => k_asm); (case T => k_asm); (case B => assumption); (case CB => assumption); (case hA => exact rfl); (case hf => exact rfl); (case hke => exact rfl); (case hh => exact rfl); (case hdep => exact Nat.le_of_ble_eq_true rfl); (case hun => exact Nat.le_of_ble_eq_true rfl); (case F => k_asm); (case N => assumption); (case hup => lcg_off); (case hd => assumption); (case hlen => assumption); (case hv => assumption); k_whole) | (refine' gotF_miss (tmps := [_]) ?O ?hp ?X ?T ?B ?CB ?hA ?hf ?hke ?hh ?hdep ?hun ?F ?N ?hup ?hd ?hlen ?hv ?_; (case O => assumption); (case hp => assumption); (case X => k_asm); (case T => k_asm); (case B => assumption); (case CB => assumption); (case hA => exact rfl); (case hf => exact rfl); (case hke => exact rfl); (case hh => exact rfl); (case hdep => exact Nat.le_of_ble_eq_true rfl); (case hun => exact Nat.le_of_ble_eq_true rfl); (case F => k_asm); (case N => assumption); (case hup => lcg_off); (case hd => assumption); (case hlen => assumption); (case hv => assumption); k_whole) | (refine' gotF_miss (tmps := [_, _]) ?O ?hp ?X ?T ?B ?CB ?hA ?hf ?hke ?hh ?hdep ?hun ?F ?N ?hup ?hd ?hlen ?hv ?_; (case O => assumption); (case hp => assumption); (case X => k_asm); (case T => k_asm); (case B => assumption); (case CB => assumption); (case hA => exact rfl); (case hf => exact rfl); (case hke => exact rfl); (case hh => exact rfl); (case hdep => exact Nat.le_of_ble_eq_true rfl); (case hun => exact Nat.le_of_ble_eq_true rfl); (case F => k_asm); (case N => assumption); (case hup => lcg_off); (case hd => assumption); (case hlen => assumption); (case hv => assumption); k_whole) | (refine' gotF_miss (tmps := [_, _, _]) ?O ?hp ?X ?T ?B ?CB ?hA ?hf ?hke ?hh ?hdep ?hun ?F ?N ?hup ?hd ?hlen ?hv ?_; (case O => assumption); (case hp => assumption); (case X => k_asm); (case T => k_asm); (case B => assumption); (case CB => assumption); (case hA => exact rfl); (case hf => exact rfl); (case hke => exact rfl); (case hh => exact rfl); (case hdep => exact Nat.le_of_ble_eq_true rfl); (case hun => exact Nat.le_of_ble_eq_true rfl); (case F => k_asm); (case N => assumption); (case hup => lcg_off); (case hd => assumption); (case hlen => assumption); (case hv => assumption); k_whole) | (refine' gotF_miss (tmps := [_, _, _, _]) ?O ?hp ?X ?T ?B ?CB ?hA ?hf ?hke ?hh ?hdep ?hun ?F ?N ?hup ?hd ?hlen ?hv ?_; (case O => assumption); (case hp => assumption); (case X => k_asm); (case T => k_asm); (case B => assumption); (case CB => assumption); (case hA => exact rfl); (case hf => exact rfl); (case hke => exact rfl); (case hh => exact rfl); (case hdep => exact Nat.le_of_ble_eq_true rfl); (case hun => exact Nat.le_of_ble_eq_true rfl); (case F => k_asm); (case N => assumption); (case hup => lcg_off); (case hd => assumption); (case hlen => assumption); (case hv => assumption); k_whole) | (refine' gotB_miss (tmps := []) ?O ?hp ?X ?T ?B ?CB ?hA ?hf ?hke ?hh ?hdep ?hun ?F ?N ?hup ?hd ?hlen ?hv ?_; (case O => assumption); (case hp => assumption); (case X => k_asm); (case T => k_asm); (case B => assumption); (case CB => assumption); (case hA => exact rfl); (case hf => exact rfl); (case hke => exact rfl); (case hh => exact rfl); (case hdep => exact Nat.le_of_ble_eq_true rfl); (case hun => exact Nat.le_of_ble_eq_true rfl); (case F => k_asm); (case N => assumption); (case hup => lcg_off); (case hd => assumption); (case hlen => assumption); (case hv => assumption); k_whole) | (refine' gotB_miss (tmps := [_]) ?O ?hp ?X ?T ?B ?CB ?hA ?hf ?hke ?hh ?hdep ?hun ?F ?N ?hup ?hd ?hlen ?hv ?_; (case O => assumption); (case hp => assumption); (case X => k_asm); (case T => k_asm); (case B => assumption); (case CB => assumption); (case hA => exact rfl); (case hf => exact rfl); (case hke => exact rfl); (case hh => exact rfl); (case hdep => exact Nat.le_of_ble_eq_true rfl); (case hun => exact Nat.le_of_ble_eq_true rfl); (case F => k_asm); (case N => assumption); (case hup => lcg_off); (case hd => assumption); (case hlen => assumption); (case hv => assumption); k_whole) | (refine' gotB_miss (tmps := [_, _]) ?O ?hp ?X ?T ?B ?CB ?hA ?hf ?hke ?hh ?hdep ?hun ?F ?N ?hup ?hd ?hlen ?hv ?_; (case O => assumption); (case hp => assumption); (case X => k_asm); (case T => k_asm); (case B => assumption); (case CB => assumption); (case hA => exact rfl); (case hf => exact rfl); (case hke => exact rfl); (case hh => exact rfl); (case hdep => exact Nat.le_of_ble_eq_true rfl); (case hun => exact Nat.le_of_ble_eq_true rfl); (case F => k_asm); (case N => assumption); (case hup => lcg_off); (case hd => assumption); (case hlen => assumption); (case hv => assumption); k_whole) | (refine' gotB_miss (tmps := [_, _, _]) ?O ?hp ?X ?T ?B ?CB ?hA ?hf ?hke ?hh ?hdep ?hun ?F ?N ?hup ?hd ?hlen ?hv ?_; (case O => assumption); (case hp => assumption); (case X => k_asm); (case T => k_asm); (case B => assumption); (case CB => assumption); (case hA => exact rfl); (case hf => exact rfl); (case hke => exact rfl); (case hh => exact rfl); (case hdep => exact Nat.le_of_ble_eq_true rfl); (case hun => exact Nat.le_of_ble_eq_true rfl); (case F => k_asm); (case N => assumption); (case hup => lcg_off); (case hd => assumption); (case hlen => assumption); (case hv => assumption); k_whole) | (refine' gotB_miss (tmps := [_, _, _, _]) ?O ?hp ?X ?T ?B ?CB ?hA ?hf ?hke ?hh ?hdep ?hun ?F ?N ?hup ?hd ?hlen ?hv ?_; (case O => assumption); (case hp => assumption); (case X => k_asm); (case T => k_asm); (case B => assumption); (case CB => assumption); (case hA => exact rfl); (case hf => exact rfl); (case hke => exact rfl); (case hh => exact rfl); (case hdep => exact Nat.le_of_ble_eq_true rfl); (case hun => exact Nat.le_of_ble_eq_true rfl); (case F => k_asm); (case N => assumption); (case hup => lcg_off); (case hd => assumption); (case hlen => assumption); (case hv => assumption); k_whole) | (refine' gotO_miss (tmps := []) ?O ?hp ?X ?T ?B ?CB ?hA ?hf ?hke ?hh ?hdep ?hun ?F ?N ?hup ?hd ?hlen ?hv ?_; (case O => assumption); (case hp => assumption); (case X => k_asm); (case T => k_asm); (case B => assumption); (case CB => assumption); (case hA => exact rfl); (case hf => exact rfl); (case hke => exact rfl); (case hh => exact rfl); (case hdep => exact Nat.le_of_ble_eq_true rfl); (case hun => exact Nat.le_of_ble_eq_true rfl); (case F => k_asm); (case N => assumption); (case hup => lcg_off); (case hd => assumption); (case hlen => assumption); (case hv => assumption); k_whole) | (refine' gotO_miss (tmps := [_]) ?O ?hp ?X ?T ?B ?CB ?hA ?hf ?hke ?hh ?hdep ?hun ?F ?N ?hup ?hd ?hlen ?hv ?_; (case O => assumption); (case hp => assumption); (case X => k_asm); (case T => k_asm); (case B => assumption); (case CB => assumption); (case hA => exact rfl); (case hf => exact rfl); (case hke => exact rfl); (case hh => exact rfl); (case hdep => exact Nat.le_of_ble_eq_true rfl); (case hun => exact Nat.le_of_ble_eq_true rfl); (case F => k_asm); (case N => assumption); (case hup => lcg_off); (case hd => assumption); (case hlen => assumption); (case hv => assumption); k_whole) | (refine' gotO_miss (tmps := [_, _]) ?O ?hp ?X ?T ?B ?CB ?hA ?hf ?hke ?hh ?hdep ?hun ?F ?N ?hup ?hd ?hlen ?hv ?_; (case O => assumption); (case hp => assumption); (case X => k_asm); (case T => k_asm); (case B => assumption); (case CB => assumption); (case hA => exact rfl); (case hf => exact rfl); (case hke => exact rfl); (case hh => exact rfl); (case hdep => exact Nat.le_of_ble_eq_true rfl); (case hun => exact Nat.le_of_ble_eq_true rfl); (case F => k_asm); (case N => assumption); (case hup => lcg_off); (case hd => assumption); (case hlen => assumption); (case hv => assumption); k_whole) | (refine' gotO_miss (tmps := [_, _, _]) ?O ?hp ?X ?T ?B ?CB ?hA ?hf ?hke ?hh ?hdep ?hun ?F ?N ?hup ?hd ?hlen ?hv ?_; (case O => assumption); (case hp => assumption); (case X => k_asm); (case T => k_asm); (case B => assumption); (case CB => assumption); (case hA => exact rfl); (case hf => exact rfl); (case hke => exact rfl); (case hh => exact rfl); (case hdep => exact Nat.le_of_ble_eq_true rfl); (case hun => exact Nat.le_of_ble_eq_true rfl); (case F => k_asm); (case N => assumption); (case hup => lcg_off); (case hd => assumption); (case hlen => assumption); (case hv => assumption); k_whole) | (refine' gotO_miss (tmps := [_, _, _, _]) ?O ?hp ?X ?T ?B ?CB ?hA ?hf ?hke ?hh ?hdep ?hun ?F ?N ?hup ?hd ?hlen ?hv ?_; (case O => assumption); (case hp => assumption); (case X => k_asm); (case T => k_asm); (case B => assumption); (case CB => assumption); (case hA => exact rfl); (case hf => exact rfl); (case hke => exact rfl); (case hh => exact rfl); (case hdep => exact Nat.le_of_ble_eq_true rfl); (case hun => exact Nat.le_of_ble_eq_true rfl); (case F => k_asm); (case N => assumption); (case hup => lcg_off); (case hd => assumption); (case hlen => assumption); (case hv => assumption); k_whole)); intro l' h' tk' F' N' l1 l2; (try dsimp only [List.cons_append, List.nil_append] at N'); (try (replace l2 := allLt_of l2; simp only [AllLt, and_true] at l2))))
local macro_rules | `(tactic| walk_at "call ref") => `(tactic| (k_here; (with_reducible show wpAny _ _ (call (Value.ref 99) [Value.ref _, Value.int _ _]) _ _ _); k_dflt (first | (refine' gotF_hit (tmps := []) ?O ?hp ?X ?T ?B ?CB ?hA ?hf ?hke ?hh ?hdep ?hun ?F ?N ?hup ?hd ?hlen ?hv ?_; (case O => assumption); (case hp => assumption); (case X => k_asm); (case T => k_asm); (case B => assumption); (case CB => assumption); (case hA => exact rfl); (case hf => exact rfl); (case hke => exact rfl); (case hh => exact rfl); (case hdep => exact Nat.le_of_ble_eq_true rfl); (case hun => exact Nat.le_of_ble_eq_true rfl); (case F => k_asm); (case N => assumption); (case hup => lcg_off); (case hd => assumption); (case hlen => assumption); (case hv => assumption); k_whole) | (refine' gotF_hit (tmps := [_]) ?O ?hp ?X ?T ?B ?CB ?hA ?hf ?hke ?hh ?hdep ?hun ?F ?N ?hup ?hd ?hlen ?hv ?_; (case O => assumption); (case hp => assumption); (case X => k_asm); (case T => k_asm); (case B => assumption); (case CB => assumption); (case hA => exact rfl); (case hf => exact rfl); (case hke => exact rfl); (case hh => exact rfl); (case hdep => exact Nat.le_of_ble_eq_true rfl); (case hun => exact Nat.le_of_ble_eq_true rfl); (case F => k_asm); (case N => assumption); (case hup => lcg_off); (case hd => assumption); (case hlen => assumption); (case hv => assumption); k_whole) | (refine' gotF_hit (tmps := [_, _]) ?O ?hp ?X ?T ?B ?CB ?hA ?hf ?hke ?hh ?hdep ?hun ?F ?N ?hup ?hd ?hlen ?hv ?_; (case O => assumption); (case hp => assumption); (case X => k_asm); (case T => k_asm); (case B => assumption); (case CB => assumption); (case hA => exact rfl); (case hf => exact rfl); (case hke => exact rfl); (case hh => exact rfl); (case hdep => exact Nat.le_of_ble_eq_true rfl); (case hun => exact Nat.le_of_ble_eq_true rfl); (case F => k_asm); (case N => assumption); (case hup => lcg_off); (case hd => assumption); (case hlen => assumption); (case hv => assumption); k_whole) | (refine' gotF_hit (tmps := [_, _, _]) ?O ?hp ?X ?T ?B ?CB ?hA ?hf ?hke ?hh ?hdep ?hun ?F ?N ?hup ?hd ?hlen ?hv ?_; (case O => assumption); (case hp => assumption); (case X => k_asm); (case T => k_asm); (case B => assumption); (case CB => assumption); (case hA => exact rfl); (case hf => exact rfl); (case hke => exact rfl); (case hh => exact rfl); (case hdep => exact Nat.le_of_ble_eq_true rfl); (case hun => exact Nat.le_of_ble_eq_true rfl); (case F => k_asm); (case N => assumption); (case hup => lcg_off); (case hd => assumption); (case hlen => assumption); (case hv => assumption); k_whole) | (refine' gotF_hit (tmps := [_, _, _, _]) ?O ?hp ?X ?T ?B ?CB ?hA ?hf ?hke ?hh ?hdep ?hun ?F ?N ?hup ?hd ?hlen ?hv ?_; (case O => assumption); (case hp => assumption); (case X => k_asm); (case T => k_asm); (case B => assumption); (case CB => assumption); (case hA => exact rfl); (case hf => exact rfl); (case hke => exact rfl); (case hh => exact rfl); (case hdep => exact Nat.le_of_ble_eq_true rfl); (case hun => exact Nat.le_of_ble_eq_true rfl); (case F => k_asm); (case N => assumption); (case hup => lcg_off); (case hd => assumption); (case hlen => assumption); (case hv => assumption); k_whole) | (refine' gotB_hit (tmps := []) ?O ?hp ?X ?T ?B ?CB ?hA ?hf ?hke ?hh ?hdep ?hun ?F ?N ?hup ?hd ?hlen ?hv ?_; (case O => assumption); (case hp => assumption); (case X => k_asm); (case T => k_asm); (case B => assumption); (case CB => assumption); (case hA => exact rfl); (case hf => exact rfl); (case hke => exact rfl); (case hh => exact rfl); (case hdep => exact Nat.le_of_ble_eq_true rfl); (case hun => exact Nat.le_of_ble_eq_true rfl); (case F => k_asm); (case N => assumption); (case hup => lcg_off); (case hd => assumption); (case hlen => assumption); (case hv => assumption); k_whole) | (refine' gotB_hit (tmps := [_]) ?O ?hp ?X ?T ?B ?CB ?hA ?hf ?hke ?hh ?hdep ?hun ?F ?N ?hup ?hd ?hlen ?hv ?_; (case O => assumption); (case hp => assumption); (case X => k_asm); (case T => k_asm); (case B => assumption); (case CB => assumption); (case hA => exact rfl); (case hf => exact rfl); (case hke => exact rfl); (case hh => exact rfl); (case hdep => exact Nat.le_of_ble_eq_true rfl); (case hun => exact Nat.le_of_ble_eq_true rfl); (case F => k_asm); (case N => assumption); (case hup => lcg_off); (case hd => assumption); (case hlen => assumption); (case hv => assumption); k_whole) | (refine' gotB_hit (tmps := [_, _]) ?O ?hp ?X ?T ?B ?CB ?hA ?hf ?hke ?hh ?hdep ?hun ?F ?N ?hup ?hd ?hlen ?hv ?_; (case O => assumption); (case hp => assumption); (case X => k_asm); (case T => k_asm); (case B => assumption); (case CB => assumption); (case hA => exact rfl); (case hf => exact rfl); (case hke => exact rfl); (case hh => exact rfl); (case hdep => exact Nat.le_of_ble_eq_true rfl); (case hun => exact Nat.le_of_ble_eq_true rfl); (case F => k_asm); (case N => assumption); (case hup => lcg_off); (case hd => assumption); (case hlen => assumption); (case hv => assumption); k_whole) | (refine' gotB_hit (tmps := [_, _, _]) ?O ?hp ?X ?T ?B ?CB ?hA ?hf ?hke ?hh ?hdep ?hun ?F ?N ?hup ?hd ?hlen ?hv ?_; (case O => assumption); (case hp => assumption); (case X => k_asm); (case T => k_asm); (case B => assumption); (case CB => assumption); (case hA => exact rfl); (case hf => exact rfl); (case hke => exact rfl); (case hh => exact rfl); (case hdep => exact Nat.le_of_ble_eq_true rfl); (case hun => exact Nat.le_of_ble_eq_true rfl); (case F => k_asm); (case N => assumption); (case hup => lcg_off); (case hd => assumption); (case hlen => assumption); (case hv => assumption); k_whole) | (refine' gotB_hit (tmps := [_, _, _, _]) ?O ?hp ?X ?T ?B ?CB ?hA ?hf ?hke ?hh ?hdep ?hun ?F ?N ?hup ?hd ?hlen ?hv ?_; (case O => assumption); (case hp => assumption); (case X => k_asm); (case T => k_asm); (case B => assumption); (case CB => assumption); (case hA => exact rfl); (case hf => exact rfl); (case hke => exact rfl); (case hh => exact rfl); (case hdep => exact Nat.le_of_ble_eq_true rfl); (case hun => exact Nat.le_of_ble_eq_true rfl); (case F => k_asm); (case N => assumption); (case hup => lcg_off); (case hd => assumption); (case hlen => assumption); (case hv => assumption); k_whole) | (refine' gotO_hit (tmps := []) ?O ?hp ?X ?T ?B ?CB ?hA ?hf ?hke ?hh ?hdep ?hun ?F ?N ?hup ?hd ?hlen ?hv ?_; (case O => assumption); (case hp => assumption); (case X => k_asm); (case T => k_asm); (case B => assumption); (case CB => assumption); (case hA => exact rfl); (case hf => exact rfl); (case hke => exact rfl); (case hh => exact rfl); (case hdep => exact Nat.le_of_ble_eq_true rfl); (case hun => exact Nat.le_of_ble_eq_true rfl); (case F => k_asm); (case N => assumption); (case hup => lcg_off); (case hd => assumption); (case hlen => assumption); (case hv => assumption); k_whole) | (refine' gotO_hit (tmps := [_]) ?O ?hp ?X ?T ?B ?CB ?hA ?hf ?hke ?hh ?hdep ?hun ?F ?N ?hup ?hd ?hlen ?hv ?_; (case O => assumption); (case hp => assumption); (case X => k_asm); (case T => k_asm); (case B => assumption); (case CB => assumption); (case hA => exact rfl); (case hf => exact rfl); (case hke => exact rfl); (case hh => exact rfl); (case hdep => exact Nat.le_of_ble_eq_true rfl); (case hun => exact Nat.le_of_ble_eq_true rfl); (case F => k_asm); (case N => assumption); (case hup => lcg_off); (case hd => assumption); (case hlen => assumption); (case hv => assumption); k_whole) | (refine' gotO_hit (tmps := [_, _]) ?O ?hp ?X ?T ?B ?CB ?hA ?hf ?hke ?hh ?hdep ?hun ?F ?N ?hup ?hd ?hlen ?hv ?_; (case O => assumption); (case hp => assumption); (case X => k_asm); (case T => k_asm); (case B => assumption); (case CB => assumption); (case hA => exact rfl); (case hf => exact rfl); (case hke => exact rfl); (case hh => exact rfl); (case hdep => exact Nat.le_of_ble_eq_true rfl); (case hun => exact Nat.le_of_ble_eq_true rfl); (case F => k_asm); (case N => assumption); (case hup => lcg_off); (case hd => assumption); (case hlen => assumption); (case hv => assumption); k_whole) | (refine' gotO_hit (tmps := [_, _, _]) ?O ?hp ?X ?T ?B ?CB ?hA ?hf ?hke ?hh ?hdep ?hun ?F ?N ?hup ?hd ?hlen ?hv ?_; (case O => assumption); (case hp => assumption); (case X => k_asm); (case T => k_asm); (case B => assumption); (case CB => assumption); (case hA => exact rfl); (case hf => exact rfl); (case hke => exact rfl); (case hh => exact rfl); (case hdep => exact Nat.le_of_ble_eq_true rfl); (case hun => exact Nat.le_of_ble_eq_true rfl); (case F => k_asm); (case N => assumption); (case hup => lcg_off); (case hd => assumption); (case hlen => assumption); (case hv => assumption); k_whole) | (refine' gotO_hit (tmps := [_, _, _, _]) ?O ?hp ?X ?T ?B ?CB ?hA ?hf ?hke ?hh ?hdep ?hun ?F ?N ?hup ?hd ?hlen ?hv ?_; (case O => assumption); (case hp => assumption); (case X => k_asm); (case T => k_asm); (case B => assumption); (case CB => assumption); (case hA => exact rfl); (case hf => exact rfl); (case hke => exact rfl); (case hh => exact rfl); (case hdep => exact Nat.le_of_ble_eq_true rfl); (case hun => exact Nat.le_of_ble_eq_true rfl); (case F => k_asm); (case N => assumption); (case hup => lcg_off); (case hd => assumption); (case hlen => assumption); (case hv => assumption); k_whole)); intro l' h' tk' od' F' N' l1 l2 hd'; (try dsimp only [List.cons_append, List.nil_append] at N'); (try (replace l2 := allLt_of l2; simp only [AllLt, and_true] at l2))))
local macro_rules | `(tactic| walk_at "call ref") => `(tactic| (k_here; (with_reducible show wpAny _ _ (call (Value.ref 85) [Value.ref _]) _ _ _); k_dflt (first | (refine' keysO (tmps := []) ?O ?hp ?X ?T ?B ?CB ?hA ?hf ?hke ?hh ?hdep ?hun ?F ?N ?hup ?hd ?hlen ?_; (case O => assumption); (case hp => assumption); (case X => k_asm); (case T => k_asm); (case B => assumption); (case CB => assumption); (case hA => exact rfl); (case hf => exact rfl); (case hke => exact rfl); (case hh => exact rfl); (case hdep => exact Nat.le_of_ble_eq_true rfl); (case hun => exact Nat.le_of_ble_eq_true rfl); (case F => k_asm); (case N => assumption); (case hup => lcg_off); (case hd => assumption); (case hlen => assumption); k_whole) | (refine' keysO (tmps := [_]) ?O ?hp ?X ?T ?B ?CB ?hA ?hf ?hke ?hh ?hdep ?hun ?F ?N ?hup ?hd ?hlen ?_; (case O => assumption); (case hp => assumption); (case X => k_asm); (case T => k_asm); (case B => assumption); (case CB => assumption); (case hA => exact rfl); (case hf => exact rfl); (case hke => exact rfl); (case hh => exact rfl); (case hdep => exact Nat.le_of_ble_eq_true rfl); (case hun => exact Nat.le_of_ble_eq_true rfl); (case F => k_asm); (case N => assumption); (case hup => lcg_off); (case hd => assumption); (case hlen => assumption); k_whole) | (refine' keysO (tmps := [_, _]) ?O ?hp ?X ?T ?B ?CB ?hA ?hf ?hke ?hh ?hdep ?hun ?F ?N ?hup ?hd ?hlen ?_; (case O => assumption); (case hp => assumption); (case X => k_asm); (case T => k_asm); (case B => assumption); (case CB => assumption); (case hA => exact rfl); (case hf => exact rfl); (case hke => exact rfl); (case hh => exact rfl); (case hdep => exact Nat.le_of_ble_eq_true rfl); (case hun => exact Nat.le_of_ble_eq_true rfl); (case F => k_asm); (case N => assumption); (case hup => lcg_off); (case hd => assumption); (case hlen => assumption); k_whole) | (refine' keysO (tmps := [_, _, _]) ?O ?hp ?X ?T ?B ?CB ?hA ?hf ?hke ?hh ?hdep ?hun ?F ?N ?hup ?hd ?hlen ?_; (case O => assumption); (case hp => assumption); (case X => k_asm); (case T => k_asm); (case B => assumption); (case CB => assumption); (case hA => exact rfl); (case hf => exact rfl); (case hke => exact rfl); (case hh => exact rfl); (case hdep => exact Nat.le_of_ble_eq_true rfl); (case hun => exact Nat.le_of_ble_eq_true rfl); (case F => k_asm); (case N => assumption); (case hup => lcg_off); (case hd => assumption); (case hlen => assumption); k_whole) | (refine' keysO (tmps := [_, _, _, _]) ?O ?hp ?X ?T ?B ?CB ?hA ?hf ?hke ?hh ?hdep ?hun ?F ?N ?hup ?hd ?hlen ?_; (case O => assumption); (case hp => assumption); (case X => k_asm); (case T => k_asm); (case B => assumption); (case CB => assumption); (case hA => exact rfl); (case hf => exact rfl); (case hke => exact rfl); (case hh => exact rfl); (case hdep => exact Nat.le_of_ble_eq_true rfl); (case hun => exact Nat.le_of_ble_eq_true rfl); (case F => k_asm); (case N => assumption); (case hup => lcg_off); (case hd => assumption); (case hlen => assumption); k_whole) | (refine' keysO (tmps := [_, _, _, _, _]) ?O ?hp ?X ?T ?B ?CB ?hA ?hf ?hke ?hh ?hdep ?hun ?F ?N ?hup ?hd ?hlen ?_; (case O => assumption); (case hp => assumption); (case X => k_asm); (case T => k_asm); (case B => assumption); (case CB => assumption); (case hA => exact rfl); (case hf => exact rfl); (case hke => exact rfl); (case hh => exact rfl); (case hdep => exact Nat.le_of_ble_eq_true rfl); (case hun => exact Nat.le_of_ble_eq_true rfl); (case F => k_asm); (case N => assumption); (case hup => lcg_off); (case hd => assumption); (case hlen => assumption); k_whole) | (refine' keysO (tmps := [_, _, _, _, _, _]) ?O ?hp ?X ?T ?B ?CB ?hA ?hf ?hke ?hh ?hdep ?hun ?F ?N ?hup ?hd ?hlen ?_; (case O => assumption); (case hp => assumption); (case X => k_asm); (case T => k_asm); (case B => assumption); (case CB => assumption); (case hA => exact rfl); (case hf => exact rfl); (case hke => exact rfl); (case hh => exact rfl); (case hdep => exact Nat.le_of_ble_eq_true rfl); (case hun => exact Nat.le_of_ble_eq_true rfl); (case F => k_asm); (case N => assumption); (case hup => lcg_off); (case hd => assumption); (case hlen => assumption); k_whole) | (refine' keysO (tmps := [_, _, _, _, _, _, _]) ?O ?hp ?X ?T ?B ?CB ?hA ?hf ?hke ?hh ?hdep ?hun ?F ?N ?hup ?hd ?hlen ?_; (case O => assumption); (case hp => assumption); (case X => k_asm); (case T => k_asm); (case B => assumption); (case CB => assumption); (case hA => exact rfl); (case hf => exact rfl); (case hke => exact rfl); (case hh => exact rfl); (case hdep => exact Nat.le_of_ble_eq_true rfl); (case hun => exact Nat.le_of_ble_eq_true rfl); (case F => k_asm); (case N => assumption); (case hup => lcg_off); (case hd => assumption); (case hlen => assumption); k_whole)); intro l' so' h' tk' F' N' l1 l2 hs'; (try dsimp only [List.cons_append, List.nil_append] at N'); (try (replace l2 := allLt_of l2; simp only [AllLt, and_true] at l2))))
local macro_rules | `(tactic| walk_at "call ref") => `(tactic| (k_here; (with_reducible show wpAny _ _ (call (Value.ref 85) [Value.ref _]) _ _ _); k_dflt (first | (refine' keysSF (tmps := []) ?O ?hp ?X ?T ?B ?CB ?hA ?hf ?hke ?hh ?hdep ?hun ?F ?N ?hup ?hd ?hlen ?h7 ?_; (case O => assumption); (case hp => assumption); (case X => k_asm); (case T => k_asm); (case B => assumption); (case CB => assumption); (case hA => exact rfl); (case hf => exact rfl); (case hke => exact rfl); (case hh => exact rfl); (case hdep => exact Nat.le_of_ble_eq_true rfl); (case hun => exact Nat.le_of_ble_eq_true rfl); (case F => k_asm); (case N => assumption); (case hup => lcg_off); (case hd => assumption); (case hlen => assumption); (case h7 => assumption); k_whole) | (refine' keysSF (tmps := [_]) ?O ?hp ?X ?T ?B ?CB ?hA ?hf ?hke ?hh ?hdep ?hun ?F ?N ?hup ?hd ?hlen ?h7 ?_; (case O => assumption); (case hp => assumption); (case X => k_asm); (case T => k_asm); (case B => assumption); (case CB => assumption); (case hA => exact rfl); (case hf => exact rfl); (case hke => exact rfl); (case hh => exact rfl); (case hdep => exact Nat.le_of_ble_eq_true rfl); (case hun => exact Nat.le_of_ble_eq_true rfl); (case F => k_asm); (case N => assumption); (case hup => lcg_off); (case hd => assumption); (case hlen => assumption); (case h7 => assumption); k_whole) | (refine' keysSF (tmps := [_, _]) ?O ?hp ?X ?T ?B ?CB ?hA ?hf ?hke ?hh ?hdep ?hun ?F ?N ?hup ?hd ?hlen ?h7 ?_; (case O => assumption); (case hp => assumption); (case X => k_asm); (case T => k_asm); (case B => assumption); (case CB => assumption); (case hA => exact rfl); (case hf => exact rfl); (case hke => exact rfl); (case hh => exact rfl); (case hdep => exact Nat.le_of_ble_eq_true rfl); (case hun => exact Nat.le_of_ble_eq_true rfl); (case F => k_asm); (case N => assumption); (case hup => lcg_off); (case hd => assumption); (case hlen => assumption); (case h7 => assumption); k_whole) | (refine' keysSF (tmps := [_, _, _]) ?O ?hp ?X ?T ?B ?CB ?hA ?hf ?hke ?hh ?hdep ?hun ?F ?N ?hup ?hd ?hlen ?h7 ?_; (case O => assumption); (case hp => assumption); (case X => k_asm); (case T => k_asm); (case B => assumption); (case CB => assumption); (case hA => exact rfl); (case hf => exact rfl); (case hke => exact rfl); (case hh => exact rfl); (case hdep => exact Nat.le_of_ble_eq_true rfl); (case hun => exact Nat.le_of_ble_eq_true rfl); (case F => k_asm); (case N => assumption); (case hup => lcg_off); (case hd => assumption); (case hlen => assumption); (case h7 => assumption); k_whole) | (refine' keysSF (tmps := [_, _, _, _]) ?O ?hp ?X ?T ?B ?CB ?hA ?hf ?hke ?hh ?hdep ?hun ?F ?N ?hup ?hd ?hlen ?h7 ?_; (case O => assumption); (case hp => assumption); (case X => k_asm); (case T => k_asm); (case B => assumption); (case CB => assumption); (case hA => exact rfl); (case hf => exact rfl); (case hke => exact rfl); (case hh => exact rfl); (case hdep => exact Nat.le_of_ble_eq_true rfl); (case hun => exact Nat.le_of_ble_eq_true rfl); (case F => k_asm); (case N => assumption); (case hup => lcg_off); (case hd => assumption); (case hlen => assumption); (case h7 => assumption); k_whole) | (refine' keysSF (tmps := [_, _, _, _, _]) ?O ?hp ?X ?T ?B ?CB ?hA ?hf ?hke ?hh ?hdep ?hun ?F ?N ?hup ?hd ?hlen ?h7 ?_; (case O => assumption); (case hp => assumption); (case X => k_asm); (case T => k_asm); (case B => assumption); (case CB => assumption); (case hA => exact rfl); (case hf => exact rfl); (case hke => exact rfl); (case hh => exact rfl); (case hdep => exact Nat.le_of_ble_eq_true rfl); (case hun => exact Nat.le_of_ble_eq_true rfl); (case F => k_asm); (case N => assumption); (case hup => lcg_off); (case hd => assumption); (case hlen => assumption); (case h7 => assumption); k_whole) | (refine' keysSF (tmps := [_, _, _, _, _, _]) ?O ?hp ?X ?T ?B ?CB ?hA ?hf ?hke ?hh ?hdep ?hun ?F ?N ?hup ?hd ?hlen ?h7 ?_; (case O => assumption); (case hp => assumption); (case X => k_asm); (case T => k_asm); (case B => assumption); (case CB => assumption); (case hA => exact rfl); (case hf => exact rfl); (case hke => exact rfl); (case hh => exact rfl); (case hdep => exact Nat.le_of_ble_eq_true rfl); (case hun => exact Nat.le_of_ble_eq_true rfl); (case F => k_asm); (case N => assumption); (case hup => lcg_off); (case hd => assumption); (case hlen => assumption); (case h7 => assumption); k_whole) | (refine' keysSF (tmps := [_, _, _, _, _, _, _]) ?O ?hp ?X ?T ?B ?CB ?hA ?hf ?hke ?hh ?hdep ?hun ?F ?N ?hup ?hd ?hlen ?h7 ?_; (case O => assumption); (case hp => assumption); (case X => k_asm); (case T => k_asm); (case B => assumption); (case CB => assumption); (case hA => exact rfl); (case hf => exact rfl); (case hke => exact rfl); (case hh => exact rfl); (case hdep => exact Nat.le_of_ble_eq_true rfl); (case hun => exact Nat.le_of_ble_eq_true rfl); (case F => k_asm); (case N => assumption); (case hup => lcg_off); (case hd => assumption); (case hlen => assumption); (case h7 => assumption); k_whole) | (refine' keysSB (tmps := []) ?O ?hp ?X ?T ?B ?CB ?hA ?hf ?hke ?hh ?hdep ?hun ?F ?N ?hup ?hd ?hlen ?h7 ?_; (case O => assumption); (case hp => assumption); (case X => k_asm); (case T => k_asm); (case B => assumption); (case CB => assumption); (case hA => exact rfl); (case hf => exact rfl); (case hke => exact rfl); (case hh => exact rfl); (case hdep => exact Nat.le_of_ble_eq_true rfl); (case hun => exact Nat.le_of_ble_eq_true rfl); (case F => k_asm); (case N => assumption); (case hup => lcg_off); (case hd => assumption); (case hlen => assumption); (case h7 => assumption); k_whole) | (refine' keysSB (tmps := [_]) ?O ?hp ?X ?T ?B ?CB ?hA ?hf ?hke ?hh ?hdep ?hun ?F ?N ?hup ?hd ?hlen ?h7 ?_; (case O => assumption); (case hp => assumption); (case X => k_asm); (case T => k_asm); (case B => assumption); (case CB => assumption); (case hA => exact rfl); (case hf => exact rfl); (case hke => exact rfl); (case hh => exact rfl); (case hdep => exact Nat.le_of_ble_eq_true rfl); (case hun => exact Nat.le_of_ble_eq_true rfl); (case F => k_asm); (case N => assumption); (case hup => lcg_off); (case hd => assumption); (case hlen => assumption); (case h7 => assumption); k_whole) | (refine' keysSB (tmps := [_, _]) ?O ?hp ?X ?T ?B ?CB ?hA ?hf ?hke ?hh ?hdep ?hun ?F ?N ?hup ?hd ?hlen ?h7 ?_; (case O => assumption); (case hp => assumption); (case X => k_asm); (case T => k_asm); (case B => assumption); (case CB => assumption); (case hA => exact rfl); (case hf => exact rfl); (case hke => exact rfl); (case hh => exact rfl); (case hdep => exact Nat.le_of_ble_eq_true rfl); (case hun => exact Nat.le_of_ble_eq_true rfl); (case F => k_asm); (case N => assumption); (case hup => lcg_off); (case hd => assumption); (case hlen => assumption); (case h7 => assumption); k_whole) | (refine' keysSB (tmps := [_, _, _]) ?O ?hp ?X ?T ?B ?CB ?hA ?hf ?hke ?hh ?hdep ?hun ?F ?N ?hup ?hd ?hlen ?h7 ?_; (case O => assumption); (case hp => assumption); (case X => k_asm); (case T => k_asm); (case B => assumption); (case CB => assumption); (case hA => exact rfl); (case hf => exact rfl); (case hke => exact rfl); (case hh => exact rfl); (case hdep => exact Nat.le_of_ble_eq_true rfl); (case hun => exact Nat.le_of_ble_eq_true rfl); (case F => k_asm); (case N => assumption); (case hup => lcg_off); (case hd => assumption); (case hlen => assumption); (case h7 => assumption); k_whole) | (refine' keysSB (tmps := [_, _, _, _]) ?O ?hp ?X ?T ?B ?CB ?hA ?hf ?hke ?hh ?hdep ?hun ?F ?N ?hup ?hd ?hlen ?h7 ?_; (case O => assumption); (case hp => assumption); (case X => k_asm); (case T => k_asm); (case B => assumption); (case CB => assumption); (case hA => exact rfl); (case hf => exact rfl); (case hke => exact rfl); (case hh => exact rfl); (case hdep => exact Nat.le_of_ble_eq_true rfl); (case hun => exact Nat.le_of_ble_eq_true rfl); (case F => k_asm); (case N => assumption); (case hup => lcg_off); (case hd => assumption); (case hlen => assumption); (case h7 => assumption); k_whole) | (refine' keysSB (tmps := [_, _, _, _, _]) ?O ?hp ?X ?T ?B ?CB ?hA ?hf ?hke ?hh ?hdep ?hun ?F ?N ?hup ?hd ?hlen ?h7 ?_; (case O => assumption); (case hp => assumption); (case X => k_asm); (case T => k_asm); (case B => assumption); (case CB => assumption); (case hA => exact rfl); (case hf => exact rfl); (case hke => exact rfl); (case hh => exact rfl); (case hdep => exact Nat.le_of_ble_eq_true rfl); (case hun => exact Nat.le_of_ble_eq_true rfl); (case F => k_asm); (case N => assumption); (case hup => lcg_off); (case hd => assumption); (case hlen => assumption); (case h7 => assumption); k_whole) | (refine' keysSB (tmps := [_, _, _, _, _, _]) ?O ?hp ?X ?T ?B ?CB ?hA ?hf ?hke ?hh ?hdep ?hun ?F ?N ?hup ?hd ?hlen ?h7 ?_; (case O => assumption); (case hp => assumption); (case X => k_asm); (case T => k_asm); (case B => assumption); (case CB => assumption); (case hA => exact rfl); (case hf => exact rfl); (case hke => exact rfl); (case hh => exact rfl); (case hdep => exact Nat.le_of_ble_eq_true rfl); (case hun => exact Nat.le_of_ble_eq_true rfl); (case F => k_asm); (case N => assumption); (case hup => lcg_off); (case hd => assumption); (case hlen => assumption); (case h7 => assumption); k_whole) | (refine' keysSB (tmps := [_, _, _, _, _, _, _]) ?O ?hp ?X ?T ?B ?CB ?hA ?hf ?hke ?hh ?hdep ?hun ?F ?N ?hup ?hd ?hlen ?h7 ?_; (case O => assumption); (case hp => assumption); (case X => k_asm); (case T => k_asm); (case B => assumption); (case CB => assumption); (case hA => exact rfl); (case hf => exact rfl); (case hke => exact rfl); (case hh => exact rfl); (case hdep => exact Nat.le_of_ble_eq_true rfl); (case hun => exact Nat.le_of_ble_eq_true rfl); (case F => k_asm); (case N => assumption); (case hup => lcg_off); (case hd => assumption); (case hlen => assumption); (case h7 => assumption); k_whole)); intro l' so' h' tk' F' N' l1 l2 hs'; (try dsimp only [List.cons_append, List.nil_append] at N'); (try (replace l2 := allLt_of l2; simp only [AllLt, and_true] at l2))))
local macro_rules | `(tactic| walk_at "call builtin:len") => `(tactic| (k_here; (with_reducible show wpAny _ _ (call (Value.builtin "len") [Value.ref _]) _ _ _); k_dflt (first | (refine' lenF (tmps := []) ?O ?hp ?X ?T ?B ?CB ?hA ?hf ?hke ?hh ?hdep ?hun ?F ?N ?hup ?hd ?hlen ?_; (case O => assumption); (case hp => assumption); (case X => k_asm); (case T => k_asm); (case B => assumption); (case CB => assumption); (case hA => exact rfl); (case hf => exact rfl); (case hke => exact rfl); (case hh => exact rfl); (case hdep => exact Nat.le_of_ble_eq_true rfl); (case hun => exact Nat.le_of_ble_eq_true rfl); (case F => k_asm); (case N => assumption); (case hup => lcg_off); (case hd => assumption); (case hlen => assumption); k_whole) | (refine' lenF (tmps := [_]) ?O ?hp ?X ?T ?B ?CB ?hA ?hf ?hke ?hh ?hdep ?hun ?F ?N ?hup ?hd ?hlen ?_; (case O => assumption); (case hp => assumption); (case X => k_asm); (case T => k_asm); (case B => assumption); (case CB => assumption); (case hA => exact rfl); (case hf => exact rfl); (case hke => exact rfl); (case hh => exact rfl); (case hdep => exact Nat.le_of_ble_eq_true rfl); (case hun => exact Nat.le_of_ble_eq_true rfl); (case F => k_asm); (case N => assumption); (case hup => lcg_off); (case hd => assumption); (case hlen => assumption); k_whole) | (refine' lenF (tmps := [_, _]) ?O ?hp ?X ?T ?B ?CB ?hA ?hf ?hke ?hh ?hdep ?hun ?F ?N ?hup ?hd ?hlen ?_; (case O => assumption); (case hp => assumption); (case X => k_asm); (case T => k_asm); (case B => assumption); (case CB => assumption); (case hA => exact rfl); (case hf => exact rfl); (case hke => exact rfl); (case hh => exact rfl); (case hdep => exact Nat.le_of_ble_eq_true rfl); (case hun => exact Nat.le_of_ble_eq_true rfl); (case F => k_asm); (case N => assumption); (case hup => lcg_off); (case hd => assumption); (case hlen => assumption); k_whole) | (refine' lenF (tmps := [_, _, _]) ?O ?hp ?X ?T ?B ?CB ?hA ?hf ?hke ?hh ?hdep ?hun ?F ?N ?hup ?hd ?hlen ?_; (case O => assumption); (case hp => assumption); (case X => k_asm); (case T => k_asm); (case B => assumption); (case CB => assumption); (case hA => exact rfl); (case hf => exact rfl); (case hke => exact rfl); (case hh => exact rfl); (case hdep => exact Nat.le_of_ble_eq_true rfl); (case hun => exact Nat.le_of_ble_eq_true rfl); (case F => k_asm); (case N => assumption); (case hup => lcg_off); (case hd => assumption); (case hlen => assumption); k_whole) | (refine' lenF (tmps := [_, _, _, _]) ?O ?hp ?X ?T ?B ?CB ?hA ?hf ?hke ?hh ?hdep ?hun ?F ?N ?hup ?hd ?hlen ?_; (case O => assumption); (case hp => assumption); (case X => k_asm); (case T => k_asm); (case B => assumption); (case CB => assumption); (case hA => exact rfl); (case hf => exact rfl); (case hke => exact rfl); (case hh => exact rfl); (case hdep => exact Nat.le_of_ble_eq_true rfl); (case hun => exact Nat.le_of_ble_eq_true rfl); (case F => k_asm); (case N => assumption); (case hup => lcg_off); (case hd => assumption); (case hlen => assumption); k_whole) | (refine' lenB (tmps := []) ?O ?hp ?X ?T ?B ?CB ?hA ?hf ?hke ?hh ?hdep ?hun ?F ?N ?hup ?hd ?hlen ?_; (case O => assumption); (case hp => assumption); (case X => k_asm); (case T => k_asm); (case B => assumption); (case CB => assumption); (case hA => exact rfl); (case hf => exact rfl); (case hke => exact rfl); (case hh => exact rfl); (case hdep => exact Nat.le_of_ble_eq_true rfl); (case hun => exact Nat.le_of_ble_eq_true rfl); (case F => k_asm); (case N => assumption); (case hup => lcg_off); (case hd => assumption); (case hlen => assumption); k_whole) | (refine' lenB (tmps := [_]) ?O ?hp ?X ?T ?B ?CB ?hA ?hf ?hke ?hh ?hdep ?hun ?F ?N ?hup ?hd ?hlen ?_; (case O => assumption); (case hp => assumption); (case X => k_asm); (case T => k_asm); (case B => assumption); (case CB => assumption); (case hA => exact rfl); (case hf => exact rfl); (case hke => exact rfl); (case hh => exact rfl); (case hdep => exact Nat.le_of_ble_eq_true rfl); (case hun => exact Nat.le_of_ble_eq_true rfl); (case F => k_asm); (case N => assumption); (case hup => lcg_off); (case hd => assumption); (case hlen => assumption); k_whole) | (refine' lenB (tmps := [_, _]) ?O ?hp ?X ?T ?B ?CB ?hA ?hf ?hke ?hh ?hdep ?hun ?F ?N ?hup ?hd ?hlen ?_; (case O => assumption); (case hp => assumption); (case X => k_asm); (case T => k_asm); (case B => assumption); (case CB => assumption); (case hA => exact rfl); (case hf => exact rfl); (case hke => exact rfl); (case hh => exact rfl); (case hdep => exact Nat.le_of_ble_eq_true rfl); (case hun => exact Nat.le_of_ble_eq_true rfl); (case F => k_asm); (case N => assumption); (case hup => lcg_off); (case hd => assumption); (case hlen => assumption); k_whole) | (refine' lenB (tmps := [_, _, _]) ?O ?hp ?X ?T ?B ?CB ?hA ?hf ?hke ?hh ?hdep ?hun ?F ?N ?hup ?hd ?hlen ?_; (case O => assumption); (case hp => assumption); (case X => k_asm); (case T => k_asm); (case B => assumption); (case CB => assumption); (case hA => exact rfl); (case hf => exact rfl); (case hke => exact rfl); (case hh => exact rfl); (case hdep => exact Nat.le_of_ble_eq_true rfl); (case hun => exact Nat.le_of_ble_eq_true rfl); (case F => k_asm); (case N => assumption); (case hup => lcg_off); (case hd => assumption); (case hlen => assumption); k_whole) | (refine' lenB (tmps := [_, _, _, _]) ?O ?hp ?X ?T ?B ?CB ?hA ?hf ?hke ?hh ?hdep ?hun ?F ?N ?hup ?hd ?hlen ?_; (case O => assumption); (case hp => assumption); (case X => k_asm); (case T => k_asm); (case B => assumption); (case CB => assumption); (case hA => exact rfl); (case hf => exact rfl); (case hke => exact rfl); (case hh => exact rfl); (case hdep => exact Nat.le_of_ble_eq_true rfl); (case hun => exact Nat.le_of_ble_eq_true rfl); (case F => k_asm); (case N => assumption); (case hup => lcg_off); (case hd => assumption); (case hlen => assumption); k_whole) | (refine' lenO (tmps := []) ?O ?hp ?X ?T ?B ?CB ?hA ?hf ?hke ?hh ?hdep ?hun ?F ?N ?hup ?hd ?hlen ?_; (case O => assumption); (case hp => assumption); (case X => k_asm); (case T => k_asm); (case B => assumption); (case CB => assumption); (case hA => exact rfl); (case hf => exact rfl); (case hke => exact rfl); (case hh => exact rfl); (case hdep => exact Nat.le_of_ble_eq_true rfl); (case hun => exact Nat.le_of_ble_eq_true rfl); (case F => k_asm); (case N => assumption); (case hup => lcg_off); (case hd => assumption); (case hlen => assumption); k_whole) | (refine' lenO (tmps := [_]) ?O ?hp ?X ?T ?B ?CB ?hA ?hf ?hke ?hh ?hdep ?hun ?F ?N ?hup ?hd ?hlen ?_; (case O => assumption); (case hp => assumption); (case X => k_asm); (case T => k_asm); (case B => assumption); (case CB => assumption); (case hA => exact rfl); (case hf => exact rfl); (case hke => exact rfl); (case hh => exact rfl); (case hdep => exact Nat.le_of_ble_eq_true rfl); (case hun => exact Nat.le_of_ble_eq_true rfl); (case F => k_asm); (case N => assumption); (case hup => lcg_off); (case hd => assumption); (case hlen => assumption); k_whole) | (refine' lenO (tmps := [_, _]) ?O ?hp ?X ?T ?B ?CB ?hA ?hf ?hke ?hh ?hdep ?hun ?F ?N ?hup ?hd ?hlen ?_; (case O => assumption); (case hp => assumption); (case X => k_asm); (case T => k_asm); (case B => assumption); (case CB => assumption); (case hA => exact rfl); (case hf => exact rfl); (case hke => exact rfl); (case hh => exact rfl); (case hdep => exact Nat.le_of_ble_eq_true rfl); (case hun => exact Nat.le_of_ble_eq_true rfl); (case F => k_asm); (case N => assumption); (case hup => lcg_off); (case hd => assumption); (case hlen => assumption); k_whole) | (refine' lenO (tmps := [_, _, _]) ?O ?hp ?X ?T ?B ?CB ?hA ?hf ?hke ?hh ?hdep ?hun ?F ?N ?hup ?hd ?hlen ?_; (case O => assumption); (case hp => assumption); (case X => k_asm); (case T => k_asm); (case B => assumption); (case CB => assumption); (case hA => exact rfl); (case hf => exact rfl); (case hke => exact rfl); (case hh => exact rfl); (case hdep => exact Nat.le_of_ble_eq_true rfl); (case hun => exact Nat.le_of_ble_eq_true rfl); (case F => k_asm); (case N => assumption); (case hup => lcg_off); (case hd => assumption); (case hlen => assumption); k_whole) | (refine' lenO (tmps := [_, _, _, _]) ?O ?hp ?X ?T ?B ?CB ?hA ?hf ?hke ?hh ?hdep ?hun ?F ?N ?hup ?hd ?hlen ?_; (case O => assumption); (case hp => assumption); (case X => k_asm); (case T => k_asm); (case B => assumption); (case CB => assumption); (case hA => exact rfl); (case hf => exact rfl); (case hke => exact rfl); (case hh => exact rfl); (case hdep => exact Nat.le_of_ble_eq_true rfl); (case hun => exact Nat.le_of_ble_eq_true rfl); (case F => k_asm); (case N => assumption); (case hup => lcg_off); (case hd => assumption); (case hlen => assumption); k_whole)); intro u' h' tk' F' N'; (try dsimp only [List.cons_append, List.nil_append] at N')))
local macro_rules | `(tactic| walk_at "call ref") => `(tactic| (k_here; (with_reducible show wpAny _ _ (call (Value.ref 106) [Value.ref _, Value.int _ _]) _ _ _); k_dflt (first | (refine' deletedB (tmps := []) ?O ?hp ?X ?T ?B ?CB ?hA ?hf ?hke ?hh ?hdep ?hun ?F ?N ?hup ?hd ?hlen ?hz ?hT ?hb ?_; (case O => assumption); (case hp => assumption); (case X => k_asm); (case T => k_asm); (case B => assumption); (case CB => assumption); (case hA => exact rfl); (case hf => exact rfl); (case hke => exact rfl); (case hh => exact rfl); (case hdep => exact Nat.le_of_ble_eq_true rfl); (case hun => exact Nat.le_of_ble_eq_true rfl); (case F => k_asm); (case N => assumption); (case hup => lcg_off); (case hd => assumption); (case hlen => assumption); (case hz => assumption); (case hT => assumption); (case hb => assumption); k_whole) | (refine' deletedB (tmps := [_]) ?O ?hp ?X ?T ?B ?CB ?hA ?hf ?hke ?hh ?hdep ?hun ?F ?N ?hup ?hd ?hlen ?hz ?hT ?hb ?_; (case O => assumption); (case hp => assumption); (case X => k_asm); (case T => k_asm); (case B => assumption); (case CB => assumption); (case hA => exact rfl); (case hf => exact rfl); (case hke => exact rfl); (case hh => exact rfl); (case hdep => exact Nat.le_of_ble_eq_true rfl); (case hun => exact Nat.le_of_ble_eq_true rfl); (case F => k_asm); (case N => assumption); (case hup => lcg_off); (case hd => assumption); (case hlen => assumption); (case hz => assumption); (case hT => assumption); (case hb => assumption); k_whole) | (refine' deletedB (tmps := [_, _]) ?O ?hp ?X ?T ?B ?CB ?hA ?hf ?hke ?hh ?hdep ?hun ?F ?N ?hup ?hd ?hlen ?hz ?hT ?hb ?_; (case O => assumption); (case hp => assumption); (case X => k_asm); (case T => k_asm); (case B => assumption); (case CB => assumption); (case hA => exact rfl); (case hf => exact rfl); (case hke => exact rfl); (case hh => exact rfl); (case hdep => exact Nat.le_of_ble_eq_true rfl); (case hun => exact Nat.le_of_ble_eq_true rfl); (case F => k_asm); (case N => assumption); (case hup => lcg_off); (case hd => assumption); (case hlen => assumption); (case hz => assumption); (case hT => assumption); (case hb => assumption); k_whole) | (refine' deletedB (tmps := [_, _, _]) ?O ?hp ?X ?T ?B ?CB ?hA ?hf ?hke ?hh ?hdep ?hun ?F ?N ?hup ?hd ?hlen ?hz ?hT ?hb ?_; (case O => assumption); (case hp => assumption); (case X => k_asm); (case T => k_asm); (case B => assumption); (case CB => assumption); (case hA => exact rfl); (case hf => exact rfl); (case hke => exact rfl); (case hh => exact rfl); (case hdep => exact Nat.le_of_ble_eq_true rfl); (case hun => exact Nat.le_of_ble_eq_true rfl); (case F => k_asm); (case N => assumption); (case hup => lcg_off); (case hd => assumption); (case hlen => assumption); (case hz => assumption); (case hT => assumption); (case hb => assumption); k_whole) | (refine' deletedB (tmps := [_, _, _, _]) ?O ?hp ?X ?T ?B ?CB ?hA ?hf ?hke ?hh ?hdep ?hun ?F ?N ?hup ?hd ?hlen ?hz ?hT ?hb ?_; (case O => assumption); (case hp => assumption); (case X => k_asm); (case T => k_asm); (case B => assumption); (case CB => assumption); (case hA => exact rfl); (case hf => exact rfl); (case hke => exact rfl); (case hh => exact rfl); (case hdep => exact Nat.le_of_ble_eq_true rfl); (case hun => exact Nat.le_of_ble_eq_true rfl); (case F => k_asm); (case N => assumption); (case hup => lcg_off); (case hd => assumption); (case hlen => assumption); (case hz => assumption); (case hT => assumption); (case hb => assumption); k_whole) | (refine' deletedO (tmps := []) ?O ?hp ?X ?T ?B ?CB ?hA ?hf ?hke ?hh ?hdep ?hun ?F ?N ?hup ?hd ?hlen ?hz ?hT ?hb ?_; (case O => assumption); (case hp => assumption); (case X => k_asm); (case T => k_asm); (case B => assumption); (case CB => assumption); (case hA => exact rfl); (case hf => exact rfl); (case hke => exact rfl); (case hh => exact rfl); (case hdep => exact Nat.le_of_ble_eq_true rfl); (case hun => exact Nat.le_of_ble_eq_true rfl); (case F => k_asm); (case N => assumption); (case hup => lcg_off); (case hd => assumption); (case hlen => assumption); (case hz => assumption); (case hT => assumption); (case hb => assumption); k_whole) | (refine' deletedO (tmps := [_]) ?O ?hp ?X ?T ?B ?CB ?hA ?hf ?hke ?hh ?hdep ?hun ?F ?N ?hup ?hd ?hlen ?hz ?hT ?hb ?_; (case O => assumption); (case hp => assumption); (case X => k_asm); (case T => k_asm); (case B => assumption); (case CB => assumption); (case hA => exact rfl); (case hf => exact rfl); (case hke => exact rfl); (case hh => exact rfl); (case hdep => exact Nat.le_of_ble_eq_true rfl); (case hun => exact Nat.le_of_ble_eq_true rfl); (case F => k_asm); (case N => assumption); (case hup => lcg_off); (case hd => assumption); (case hlen => assumption); (case hz => assumption); (case hT => assumption); (case hb => assumption); k_whole) | (refine' deletedO (tmps := [_, _]) ?O ?hp ?X ?T ?B ?CB ?hA ?hf ?hke ?hh ?hdep ?hun ?F ?N ?hup ?hd ?hlen ?hz ?hT ?hb ?_; (case O => assumption); (case hp => assumption); (case X => k_asm); (case T => k_asm); (case B => assumption); (case CB => assumption); (case hA => exact rfl); (case hf => exact rfl); (case hke => exact rfl); (case hh => exact rfl); (case hdep => exact Nat.le_of_ble_eq_true rfl); (case hun => exact Nat.le_of_ble_eq_true rfl); (case F => k_asm); (case N => assumption); (case hup => lcg_off); (case hd => assumption); (case hlen => assumption); (case hz => assumption); (case hT => assumption); (case hb => assumption); k_whole) | (refine' deletedO (tmps := [_, _, _]) ?O ?hp ?X ?T ?B ?CB ?hA ?hf ?hke ?hh ?hdep ?hun ?F ?N ?hup ?hd ?hlen ?hz ?hT ?hb ?_; (case O => assumption); (case hp => assumption); (case X => k_asm); (case T => k_asm); (case B => assumption); (case CB => assumption); (case hA => exact rfl); (case hf => exact rfl); (case hke => exact rfl); (case hh => exact rfl); (case hdep => exact Nat.le_of_ble_eq_true rfl); (case hun => exact Nat.le_of_ble_eq_true rfl); (case F => k_asm); (case N => assumption); (case hup => lcg_off); (case hd => assumption); (case hlen => assumption); (case hz => assumption); (case hT => assumption); (case hb => assumption); k_whole) | (refine' deletedO (tmps := [_, _, _, _]) ?O ?hp ?X ?T ?B ?CB ?hA ?hf ?hke ?hh ?hdep ?hun ?F ?N ?hup ?hd ?hlen ?hz ?hT ?hb ?_; (case O => assumption); (case hp => assumption); (case X => k_asm); (case T => k_asm); (case B => assumption); (case CB => assumption); (case hA => exact rfl); (case hf => exact rfl); (case hke => exact rfl); (case hh => exact rfl); (case hdep => exact Nat.le_of_ble_eq_true rfl); (case hun => exact Nat.le_of_ble_eq_true rfl); (case F => k_asm); (case N => assumption); (case hup => lcg_off); (case hd => assumption); (case hlen => assumption); (case hz => assumption); (case hT => assumption); (case hb => assumption); k_whole)); intro h' tk' od' n' F' N' hd'; (try dsimp only [List.cons_append, List.nil_append] at N')))
local macro_rules | `(tactic| walk_at "call ref") => `(tactic| (k_here; (with_reducible show wpAny _ _ (call (Value.ref 106) [Value.ref _, Value.int _ _]) _ _ _); k_dflt (first | (refine' deletedF (tmps := []) ?O ?hp ?X ?T ?B ?CB ?hA ?hf ?hke ?hh ?hdep ?hun ?F ?N ?hup ?hF ?hB ?hlen ?hlB ?hz ?tF ?tB ?hb ?_; (case O => assumption); (case hp => assumption); (case X => k_asm); (case T => k_asm); (case B => assumption); (case CB => assumption); (case hA => exact rfl); (case hf => exact rfl); (case hke => exact rfl); (case hh => exact rfl); (case hdep => exact Nat.le_of_ble_eq_true rfl); (case hun => exact Nat.le_of_ble_eq_true rfl); (case F => k_asm); (case N => assumption); (case hup => lcg_off); (case hF => assumption); (case hB => assumption); (case hlen => assumption); (case hlB => assumption); (case hz => assumption); (case tF => assumption); (case tB => assumption); (case hb => assumption); k_whole) | (refine' deletedF (tmps := [_]) ?O ?hp ?X ?T ?B ?CB ?hA ?hf ?hke ?hh ?hdep ?hun ?F ?N ?hup ?hF ?hB ?hlen ?hlB ?hz ?tF ?tB ?hb ?_; (case O => assumption); (case hp => assumption); (case X => k_asm); (case T => k_asm); (case B => assumption); (case CB => assumption); (case hA => exact rfl); (case hf => exact rfl); (case hke => exact rfl); (case hh => exact rfl); (case hdep => exact Nat.le_of_ble_eq_true rfl); (case hun => exact Nat.le_of_ble_eq_true rfl); (case F => k_asm); (case N => assumption); (case hup => lcg_off); (case hF => assumption); (case hB => assumption); (case hlen => assumption); (case hlB => assumption); (case hz => assumption); (case tF => assumption); (case tB => assumption); (case hb => assumption); k_whole) | (refine' deletedF (tmps := [_, _]) ?O ?hp ?X ?T ?B ?CB ?hA ?hf ?hke ?hh ?hdep ?hun ?F ?N ?hup ?hF ?hB ?hlen ?hlB ?hz ?tF ?tB ?hb ?_; (case O => assumption); (case hp => assumption); (case X => k_asm); (case T => k_asm); (case B => assumption); (case CB => assumption); (case hA => exact rfl); (case hf => exact rfl); (case hke => exact rfl); (case hh => exact rfl); (case hdep => exact Nat.le_of_ble_eq_true rfl); (case hun => exact Nat.le_of_ble_eq_true rfl); (case F => k_asm); (case N => assumption); (case hup => lcg_off); (case hF => assumption); (case hB => assumption); (case hlen => assumption); (case hlB => assumption); (case hz => assumption); (case tF => assumption); (case tB => assumption); (case hb => assumption); k_whole) | (refine' deletedF (tmps := [_, _, _]) ?O ?hp ?X ?T ?B ?CB ?hA ?hf ?hke ?hh ?hdep ?hun ?F ?N ?hup ?hF ?hB ?hlen ?hlB ?hz ?tF ?tB ?hb ?_; (case O => assumption); (case hp => assumption); (case X => k_asm); (case T => k_asm); (case B => assumption); (case CB => assumption); (case hA => exact rfl); (case hf => exact rfl); (case hke => exact rfl); (case hh => exact rfl); (case hdep => exact Nat.le_of_ble_eq_true rfl); (case hun => exact Nat.le_of_ble_eq_true rfl); (case F => k_asm); (case N => assumption); (case hup => lcg_off); (case hF => assumption); (case hB => assumption); (case hlen => assumption); (case hlB => assumption); (case hz => assumption); (case tF => assumption); (case tB => assumption); (case hb => assumption); k_whole) | (refine' deletedF (tmps := [_, _, _, _]) ?O ?hp ?X ?T ?B ?CB ?hA ?hf ?hke ?hh ?hdep ?hun ?F ?N ?hup ?hF ?hB ?hlen ?hlB ?hz ?tF ?tB ?hb ?_; (case O => assumption); (case hp => assumption); (case X => k_asm); (case T => k_asm); (case B => assumption); (case CB => assumption); (case hA => exact rfl); (case hf => exact rfl); (case hke => exact rfl); (case hh => exact rfl); (case hdep => exact Nat.le_of_ble_eq_true rfl); (case hun => exact Nat.le_of_ble_eq_true rfl); (case F => k_asm); (case N => assumption); (case hup => lcg_off); (case hF => assumption); (case hB => assumption); (case hlen => assumption); (case hlB => assumption); (case hz => assumption); (case tF => assumption); (case tB => assumption); (case hb => assumption); k_whole)); intro h' tk' odF' odB' n' F' N' hdF' hdB'; (try dsimp only [List.cons_append, List.nil_append] at N')))
local macro_rules | `(tactic| walk_at "delItem ref int") => `(tactic| (k_here; (with_reducible show wpAny _ _ (delItem (Value.ref _) (Value.int _ _)) _ _ _); k_dflt (first | (refine' delB (tmps := []) ?O ?hp ?X ?T ?B ?CB ?hA ?hf ?hke ?hh ?hdep ?hun ?F ?N ?hup ?hd ?hlen ?hz ?hT ?hv ?_; (case O => assumption); (case hp => assumption); (case X => k_asm); (case T => k_asm); (case B => assumption); (case CB => assumption); (case hA => exact rfl); (case hf => exact rfl); (case hke => exact rfl); (case hh => exact rfl); (case hdep => exact Nat.le_of_ble_eq_true rfl); (case hun => exact Nat.le_of_ble_eq_true rfl); (case F => k_asm); (case N => assumption); (case hup => lcg_off); (case hd => assumption); (case hlen => assumption); (case hz => assumption); (case hT => assumption); (case hv => assumption); k_whole) | (refine' delB (tmps := [_]) ?O ?hp ?X ?T ?B ?CB ?hA ?hf ?hke ?hh ?hdep ?hun ?F ?N ?hup ?hd ?hlen ?hz ?hT ?hv ?_; (case O => assumption); (case hp => assumption); (case X => k_asm); (case T => k_asm); (case B => assumption); (case CB => assumption); (case hA => exact rfl); (case hf => exact rfl); (case hke => exact rfl); (case hh => exact rfl); (case hdep => exact Nat.le_of_ble_eq_true rfl); (case hun => exact Nat.le_of_ble_eq_true rfl); (case F => k_asm); (case N => assumption); (case hup => lcg_off); (case hd => assumption); (case hlen => assumption); (case hz => assumption); (case hT => assumption); (case hv => assumption); k_whole) | (refine' delB (tmps := [_, _]) ?O ?hp ?X ?T ?B ?CB ?hA ?hf ?hke ?hh ?hdep ?hun ?F ?N ?hup ?hd ?hlen ?hz ?hT ?hv ?_; (case O => assumption); (case hp => assumption); (case X => k_asm); (case T => k_asm); (case B => assumption); (case CB => assumption); (case hA => exact rfl); (case hf => exact rfl); (case hke => exact rfl); (case hh => exact rfl); (case hdep => exact Nat.le_of_ble_eq_true rfl); (case hun => exact Nat.le_of_ble_eq_true rfl); (case F => k_asm); (case N => assumption); (case hup => lcg_off); (case hd => assumption); (case hlen => assumption); (case hz => assumption); (case hT => assumption); (case hv => assumption); k_whole) | (refine' delB (tmps := [_, _, _]) ?O ?hp ?X ?T ?B ?CB ?hA ?hf ?hke ?hh ?hdep ?hun ?F ?N ?hup ?hd ?hlen ?hz ?hT ?hv ?_; (case O => assumption); (case hp => assumption); (case X => k_asm); (case T => k_asm); (case B => assumption); (case CB => assumption); (case hA => exact rfl); (case hf => exact rfl); (case hke => exact rfl); (case hh => exact rfl); (case hdep => exact Nat.le_of_ble_eq_true rfl); (case hun => exact Nat.le_of_ble_eq_true rfl); (case F => k_asm); (case N => assumption); (case hup => lcg_off); (case hd => assumption); (case hlen => assumption); (case hz => assumption); (case hT => assumption); (case hv => assumption); k_whole) | (refine' delB (tmps := [_, _, _, _]) ?O ?hp ?X ?T ?B ?CB ?hA ?hf ?hke ?hh ?hdep ?hun ?F ?N ?hup ?hd ?hlen ?hz ?hT ?hv ?_; (case O => assumption); (case hp => assumption); (case X => k_asm); (case T => k_asm); (case B => assumption); (case CB => assumption); (case hA => exact rfl); (case hf => exact rfl); (case hke => exact rfl); (case hh => exact rfl); (case hdep => exact Nat.le_of_ble_eq_true rfl); (case hun => exact Nat.le_of_ble_eq_true rfl); (case F => k_asm); (case N => assumption); (case hup => lcg_off); (case hd => assumption); (case hlen => assumption); (case hz => assumption); (case hT => assumption); (case hv => assumption); k_whole)); intro h' tk' od' n' F' N' hd'; (try dsimp only [List.cons_append, List.nil_append] at N')))
local macro_rules | `(tactic| walk_at "setItem ref int") => `(tactic| (k_here; (with_reducible show wpAny _ _ (setItem (Value.ref _) (Value.int _ _) (Value.ref _)) _ _ _); k_dflt (first | (refine' setO (tmps := []) ?O ?hp ?X ?T ?B ?CB ?hA ?hf ?hke ?hh ?hdep ?hun ?F ?N ?hup ?hd ?hlen ?hz ?hT ?hpv ?_; (case O => assumption); (case hp => assumption); (case X => k_asm); (case T => k_asm); (case B => assumption); (case CB => assumption); (case hA => exact rfl); (case hf => exact rfl); (case hke => exact rfl); (case hh => exact rfl); (case hdep => exact Nat.le_of_ble_eq_true rfl); (case hun => exact Nat.le_of_ble_eq_true rfl); (case F => k_asm); (case N => assumption); (case hup => lcg_off); (case hd => assumption); (case hlen => assumption); (case hz => assumption); (case hT => assumption); (case hpv => k_mem); k_whole) | (refine' setO (tmps := [_]) ?O ?hp ?X ?T ?B ?CB ?hA ?hf ?hke ?hh ?hdep ?hun ?F ?N ?hup ?hd ?hlen ?hz ?hT ?hpv ?_; (case O => assumption); (case hp => assumption); (case X => k_asm); (case T => k_asm); (case B => assumption); (case CB => assumption); (case hA => exact rfl); (case hf => exact rfl); (case hke => exact rfl); (case hh => exact rfl); (case hdep => exact Nat.le_of_ble_eq_true rfl); (case hun => exact Nat.le_of_ble_eq_true rfl); (case F => k_asm); (case N => assumption); (case hup => lcg_off); (case hd => assumption); (case hlen => assumption); (case hz => assumption); (case hT => assumption); (case hpv => k_mem); k_whole) | (refine' setO (tmps := [_, _]) ?O ?hp ?X ?T ?B ?CB ?hA ?hf ?hke ?hh ?hdep ?hun ?F ?N ?hup ?hd ?hlen ?hz ?hT ?hpv ?_; (case O => assumption); (case hp => assumption); (case X => k_asm); (case T => k_asm); (case B => assumption); (case CB => assumption); (case hA => exact rfl); (case hf => exact rfl); (case hke => exact rfl); (case hh => exact rfl); (case hdep => exact Nat.le_of_ble_eq_true rfl); (case hun => exact Nat.le_of_ble_eq_true rfl); (case F => k_asm); (case N => assumption); (case hup => lcg_off); (case hd => assumption); (case hlen => assumption); (case hz => assumption); (case hT => assumption); (case hpv => k_mem); k_whole) | (refine' setO (tmps := [_, _, _]) ?O ?hp ?X ?T ?B ?CB ?hA ?hf ?hke ?hh ?hdep ?hun ?F ?N ?hup ?hd ?hlen ?hz ?hT ?hpv ?_; (case O => assumption); (case hp => assumption); (case X => k_asm); (case T => k_asm); (case B => assumption); (case CB => assumption); (case hA => exact rfl); (case hf => exact rfl); (case hke => exact rfl); (case hh => exact rfl); (case hdep => exact Nat.le_of_ble_eq_true rfl); (case hun => exact Nat.le_of_ble_eq_true rfl); (case F => k_asm); (case N => assumption); (case hup => lcg_off); (case hd => assumption); (case hlen => assumption); (case hz => assumption); (case hT => assumption); (case hpv => k_mem); k_whole) | (refine' setO (tmps := [_, _, _, _]) ?O ?hp ?X ?T ?B ?CB ?hA ?hf ?hke ?hh ?hdep ?hun ?F ?N ?hup ?hd ?hlen ?hz ?hT ?hpv ?_; (case O => assumption); (case hp => assumption); (case X => k_asm); (case T => k_asm); (case B => assumption); (case CB => assumption); (case hA => exact rfl); (case hf => exact rfl); (case hke => exact rfl); (case hh => exact rfl); (case hdep => exact Nat.le_of_ble_eq_true rfl); (case hun => exact Nat.le_of_ble_eq_true rfl); (case F => k_asm); (case N => assumption); (case hup => lcg_off); (case hd => assumption); (case hlen => assumption); (case hz => assumption); (case hT => assumption); (case hpv => k_mem); k_whole)); intro h' tk' od' n' F' N' hd'; (try dsimp only [List.cons_append, List.nil_append] at N')))
local macro_rules | `(tactic| walk_at "setItem ref int") => `(tactic| (k_here; (with_reducible show wpAny _ _ (setItem (Value.ref _) (Value.int _ _) (Value.ref _)) _ _ _); k_dflt (first | (refine' setF (tmps := []) ?O ?hp ?X ?T ?B ?CB ?hA ?hf ?hke ?hh ?hdep ?hun ?F ?N ?hup ?hF ?hB ?hlen ?hlB ?hz ?tF ?tB ?hpv ?_; (case O => assumption); (case hp => assumption); (case X => k_asm); (case T => k_asm); (case B => assumption); (case CB => assumption); (case hA => exact rfl); (case hf => exact rfl); (case hke => exact rfl); (case hh => exact rfl); (case hdep => exact Nat.le_of_ble_eq_true rfl); (case hun => exact Nat.le_of_ble_eq_true rfl); (case F => k_asm); (case N => assumption); (case hup => lcg_off); (case hF => assumption); (case hB => assumption); (case hlen => assumption); (case hlB => assumption); (case hz => assumption); (case tF => assumption); (case tB => assumption); (case hpv => k_mem); k_whole) | (refine' setF (tmps := [_]) ?O ?hp ?X ?T ?B ?CB ?hA ?hf ?hke ?hh ?hdep ?hun ?F ?N ?hup ?hF ?hB ?hlen ?hlB ?hz ?tF ?tB ?hpv ?_; (case O => assumption); (case hp => assumption); (case X => k_asm); (case T => k_asm); (case B => assumption); (case CB => assumption); (case hA => exact rfl); (case hf => exact rfl); (case hke => exact rfl); (case hh => exact rfl); (case hdep => exact Nat.le_of_ble_eq_true rfl); (case hun => exact Nat.le_of_ble_eq_true rfl); (case F => k_asm); (case N => assumption); (case hup => lcg_off); (case hF => assumption); (case hB => assumption); (case hlen => assumption); (case hlB => assumption); (case hz => assumption); (case tF => assumption); (case tB => assumption); (case hpv => k_mem); k_whole) | (refine' setF (tmps := [_, _]) ?O ?hp ?X ?T ?B ?CB ?hA ?hf ?hke ?hh ?hdep ?hun ?F ?N ?hup ?hF ?hB ?hlen ?hlB ?hz ?tF ?tB ?hpv ?_; (case O => assumption); (case hp => assumption); (case X => k_asm); (case T => k_asm); (case B => assumption); (case CB => assumption); (case hA => exact rfl); (case hf => exact rfl); (case hke => exact rfl); (case hh => exact rfl); (case hdep => exact Nat.le_of_ble_eq_true rfl); (case hun => exact Nat.le_of_ble_eq_true rfl); (case F => k_asm); (case N => assumption); (case hup => lcg_off); (case hF => assumption); (case hB => assumption); (case hlen => assumption); (case hlB => assumption); (case hz => assumption); (case tF => assumption); (case tB => assumption); (case hpv => k_mem); k_whole) | (refine' setF (tmps := [_, _, _]) ?O ?hp ?X ?T ?B ?CB ?hA ?hf ?hke ?hh ?hdep ?hun ?F ?N ?hup ?hF ?hB ?hlen ?hlB ?hz ?tF ?tB ?hpv ?_; (case O => assumption); (case hp => assumption); (case X => k_asm); (case T => k_asm); (case B => assumption); (case CB => assumption); (case hA => exact rfl); (case hf => exact rfl); (case hke => exact rfl); (case hh => exact rfl); (case hdep => exact Nat.le_of_ble_eq_true rfl); (case hun => exact Nat.le_of_ble_eq_true rfl); (case F => k_asm); (case N => assumption); (case hup => lcg_off); (case hF => assumption); (case hB => assumption); (case hlen => assumption); (case hlB => assumption); (case hz => assumption); (case tF => assumption); (case tB => assumption); (case hpv => k_mem); k_whole) | (refine' setF (tmps := [_, _, _, _]) ?O ?hp ?X ?T ?B ?CB ?hA ?hf ?hke ?hh ?hdep ?hun ?F ?N ?hup ?hF ?hB ?hlen ?hlB ?hz ?tF ?tB ?hpv ?_; (case O => assumption); (case hp => assumption); (case X => k_asm); (case T => k_asm); (case B => assumption); (case CB => assumption); (case hA => exact rfl); (case hf => exact rfl); (case hke => exact rfl); (case hh => exact rfl); (case hdep => exact Nat.le_of_ble_eq_true rfl); (case hun => exact Nat.le_of_ble_eq_true rfl); (case F => k_asm); (case N => assumption); (case hup => lcg_off); (case hF => assumption); (case hB => assumption); (case hlen => assumption); (case hlB => assumption); (case hz => assumption); (case tF => assumption); (case tB => assumption); (case hpv => k_mem); k_whole)); intro h' tk' odF' odB' n' F' N' hdF' hdB'; (try dsimp only [List.cons_append, List.nil_append] at N')))
local macro_rules | `(tactic| walk_at "setItem ref int") => `(tactic| (k_here; (with_reducible show wpAny _ _ (setItem (Value.ref _) (Value.int 0 _) _) _ _ _); k_dflt (refine' touch ?O ?hp ?F ?N ?_; (case O => assumption); (case hp => assumption); (case F => k_asm); (case N => assumption); k_whole); intro h' F' N'))
local macro_rules | `(tactic| walk_at "compareOp In int ref") => `(tactic| (k_here; k_dflt (refine' R_inB ?N ?a ?s ?b ?_; (case N => k_asm); (case a => k_mem); (case s => assumption); (case b => assumption); k_whole)))
local macro_rules | `(tactic| walk_at "ite") => `(tactic| (k_here; first | refine ite_pos rfl ?_ | refine ite_neg Bool.false_ne_true ?_ | refine ite_pos (by assumption) ?_ | refine ite_neg (ne_true_of (by assumption)) ?_))
local macro_rules | `(tactic| walk_at "call ref") => `(tactic| (k_here; dsimp only [List.cons_append, List.nil_append]))
local macro_rules | `(tactic| walk_at "call builtin:len") => `(tactic| (k_here; dsimp only [List.cons_append, List.nil_append]))
local macro_rules | `(tactic| walk_at "call builtin:list.append") => `(tactic| (k_here; dsimp only [List.cons_append, List.nil_append]))
local macro_rules | `(tactic| walk_at "call builtin:sorted") => `(tactic| (k_here; dsimp only [List.cons_append, List.nil_append]))
local macro_rules | `(tactic| walk_at "compareOp NotEq ref ref") => `(tactic| (k_here; (with_reducible show wpAny _ _ (compareOp CmpOp.NotEq (Value.ref _) (Value.ref _)) _ _ _); k_dflt (first | (refine' R_ne_same ?u ?N ?a ?b ?_; (case u => exact Nat.le_of_ble_eq_true rfl); (case N => k_asm); (case a => k_mem); (case b => k_mem); k_whole) | (refine' R_ne_len ?u ?N ?a ?b ?e ?_; (case u => exact Nat.le_of_ble_eq_true rfl); (case N => k_asm); (case a => k_mem); (case b => k_mem); (case e => exact Nat.succ_ne_zero _); k_whole))))
local macro_rules | `(tactic| walk_at "binaryOp BitAnd ref ref") => `(tactic| (k_here; k_dflt (refine' R_and ?F ?N ?a ?b ?ab ?x ?y ?s1 ?s2 ?n1 ?n2 ?l1 ?l2 ?dj ?_; (case F => k_asm); (case N => k_asm); (case a => k_mem); (case b => k_mem); (case ab => k_ne); (case x => assumption); (case y => assumption); (case s1 => assumption); (case s2 => assumption); (case n1 => assumption); (case n2 => assumption); (case l1 => assumption); (case l2 => assumption); (case dj => assumption); k_whole); intro D' h' so' F' N' l1 hs'; (try k_lt l1)))
local macro_rules | `(tactic| walk_at "binaryOp BitOr ref ref") => `(tactic| (k_here; k_dflt (refine' R_or ?F ?N ?a ?b ?ab ?x ?y ?s1 ?s2 ?n1 ?n2 ?l1 ?l2 ?dj ?_; (case F => k_asm); (case N => k_asm); (case a => k_mem); (case b => k_mem); (case ab => k_ne); (case x => assumption); (case y => assumption); (case s1 => assumption); (case s2 => assumption); (case n1 => assumption); (case n2 => assumption); (case l1 => assumption); (case l2 => assumption); (case dj => assumption); k_whole); intro D' h' so' F' N' l1 hu'; (try k_lt l1)))
local macro_rules | `(tactic| walk_at "call builtin:len") => `(tactic| (k_here; (with_reducible show wpAny _ _ (call (Value.builtin "len") [Value.ref _]) _ _ _); k_dflt (refine' R_setlen0 ?N ?a ?x ?_; (case N => k_asm); (case a => k_mem); (case x => assumption); k_whole); intro u' tk'))
local macro_rules | `(tactic| walk_at "compareOp NotEq ref ref") => `(tactic| (k_here; (with_reducible show wpAny _ _ (compareOp CmpOp.NotEq (Value.ref _) (Value.ref _)) _ _ _); k_dflt (refine' R_un_ne ?u ?N ?a ?b ?x ?y ?q ?_; (case u => exact Nat.le_of_ble_eq_true rfl); (case N => k_asm); (case a => k_mem); (case b => k_mem); (case x => assumption); (case y => assumption); (case q => assumption); k_whole)))
local macro_rules | `(tactic| walk_at "subscriptTail") => `(tactic| (k_here; (with_reducible show wpAny _ _ (subscriptTail _ _ (Value.ref (St.lS _)) (Value.int _ _)) _ _ _); k_dflt (first | (refine' R_item0 ?N ?m ?_ ?s; (case N => k_asm); (case m => exact Led.m_lS); (case s => with_unfolding_all rfl); k_whole) | (refine' R_item1 ?N ?m ?_ ?s; (case N => k_asm); (case m => exact Led.m_lS); (case s => with_unfolding_all rfl); k_whole))))

section
variable {w : World} {S : St} {odF odB odO : Obj} {vF vW : List Value} {nF nW nT : Nat} {tv : Value} {prs tmps : List (Addr × Obj)} {mg mb : Str → Option Value} {mean : ExcName → Option Value} {h₀ : Heap} {m : Str → Option Value} {s : Shared} {Q : Flow → Shared → Prop}
  {ns : List Int} {place kind key : Int} {tp tk9 tk8 tkey : Tok} {kF kB kO : List (Int × Value)}
set_option maxHeartbeats 16000000 in
theorem seg1 {bF bB : Bool} (O : Ok S) (hp : PrsUp S prs) (X : (hd.heap_39 w.params).In h₀) (T : Top topProg loose mean mg mb h₀) (B : Below callerA h₀ [] h₀) (CB : CodeB h₀)
  (F : Fr h₀ S.L s.heap m) (nm : Nm S m) (np : m (Str.ofString "place") = some (.int place tp))
  (N : News h₀ S.L s.heap (Led w S odF odB odO vF nF vW nW tv nT prs)) (hdF : odF.IsDictOf (PySem.intKind PySem.Challenge.rw_aj5039_01.row.prog w) kF) (hdB : odB.IsDictOf (PySem.intKind PySem.Challenge.rw_aj5039_01.row.prog w) kB) (hdO : odO.IsDictOf (PySem.intKind PySem.Challenge.rw_aj5039_01.row.prog w) kO)
  (hN : IntsAre S.vsN ns) (hl0 : 2 ≤ place) (hl1 : place + 1 < ns.length) (hl2 : ns.length ≤ 34) (h7F : ∀ k ∈ kF.map (·.1), 0 ≤ k ∧ k < 7) (h7B : ∀ k ∈ kB.map (·.1), 0 ≤ k ∧ k < 7) (l3F : kF.length ≤ 3) (l3B : kB.length ≤ 3) (nF9 : (∀ k ∈ kF.map (·.1), 0 ≤ k ∧ k < 7) ∧ (kF.map (·.1)).Nodup ∧ (kF.map (·.1)).length ≤ 3 ∧ ((kF.map (·.1)).any (· == (ns.getD (place + 1).toNat 0).fmod 7)) = bF) (nB9 : (∀ k ∈ kB.map (·.1), 0 ≤ k ∧ k < 7) ∧ (kB.map (·.1)).Nodup ∧ (kB.map (·.1)).length ≤ 3 ∧ ((kB.map (·.1)).any (· == (ns.getD (place + 1).toNat 0).fmod 7)) = bB)
  (q : ∀ h' tk m' tk9 tk8 tkey, Fr h₀ S.L h' m' → Nm S m' → m' (Str.ofString "kind") = some (.int ((ns.getD place.toNat 0).fmod 4) tk9) → m' (Str.ofString "key") = some (.int ((ns.getD (place + 1).toNat 0).fmod 7) tk8) → m' (Str.ofString "place") = some (.int place tp) → m' (Str.ofString "is_front") = some (.bool bF) → m' (Str.ofString "is_back") = some (.bool bB) → News h₀ S.L h' (Led w S odF odB odO vF nF vW nW (.int ((ns.getD (place + 1).toNat 0).fmod 7) tkey) nT prs) → Q .next { s with heap := h', toks := tk }) :
  wpAny (model PySem.Challenge.rw_aj5039_01.row.prog w) (callerA.deeper (lenv S.L S.fa 110)) (execs (loopBody.take 4) (lenv S.L S.fa 110)) Q (fun _ _ => False) s := by
  revert X
  k_fill
  intro X
  have F1 := fr_eq F nm.open
  have e2 := ((nm.open (Str.ofString "place")).trans np)
  have F2 := fr_put (m := names01 S m) (x := Str.ofString "place") (v := .int place tp) (by exact e2) F1
  clear F F1
  have hcB := O.hcB
  have hcT := O.hcT
  have hvN : S.vsN.toArray.size = ns.length := by rw [List.size_toArray, IntsAre.length hN]
  conv => arg 3; arg 1; whnf
  k_steps
  all_goals first | (refine wpAny_pure (α := Flow) (a := Flow.next) ?_; exact q _ _ _ _ _ _ (by assumption) ⟨by exact rfl, by exact rfl, by exact rfl, by exact rfl⟩ (by exact rfl) (by exact rfl) (by exact rfl) (by exact rfl) (by exact rfl) (News.sub (by assumption) (by lcg_sub)))
set_option maxHeartbeats 16000000 in
theorem seg2K0B  (O : Ok S) (hp : PrsUp S prs) (X : (hd.heap_39 w.params).In h₀) (T : Top topProg loose mean mg mb h₀) (B : Below callerA h₀ [] h₀) (CB : CodeB h₀)
  (F : Fr h₀ S.L s.heap m) (nm : Nm S m) (np : m (Str.ofString "place") = some (.int place tp)) (nk : m (Str.ofString "kind") = some (.int kind tk9)) (ny : m (Str.ofString "key") = some (.int key tk8)) (nf : m (Str.ofString "is_front") = some (.bool false)) (nb : m (Str.ofString "is_back") = some (.bool true))
  (N : News h₀ S.L s.heap (Led w S odF odB odO vF nF vW nW (.int key tkey) nT prs)) (hdF : odF.IsDictOf (PySem.intKind PySem.Challenge.rw_aj5039_01.row.prog w) kF) (hdB : odB.IsDictOf (PySem.intKind PySem.Challenge.rw_aj5039_01.row.prog w) kB) (hdO : odO.IsDictOf (PySem.intKind PySem.Challenge.rw_aj5039_01.row.prog w) kO)
  (lF : kF.length ≤ 10) (lB : kB.length ≤ 10) (lO : kO.length ≤ 10) (hzF : vF.length ≤ 40) (hzW : vW.length ≤ 40) (tF : Tups prs kF) (tB : Tups prs kB) (tO : Tups prs kO) (kf : ([0, 3].any fun x => x == kind) = true) (hbk : (valueAt kB key).isSome = true) (lB1 : (without kB key).length ≤ 10) (tB1 : Tups prs (without kB key)) (hz1 : (vF ++ fellL key (fellD kB key)).length ≤ 40)
  (q : ∀ h' tk m' odF' odB' odO' nF' nW' (pp : Nat), Fr h₀ S.L h' m' → Nm S m' → News h₀ S.L h' (Led w S odF' odB' odO' ((vF ++ fellL key (fellD kB key)) ++ backL key S.s2 (without kB key) (fellO S.s1 kF key (.ref pp))) nF' (vW ++ fellL key (fellO (S.s1 + S.s2) kO key (.ref pp))) nW' (.int key tkey) nT ((pp, tup2 key tk8 (.int place tp)) :: prs)) → odF'.IsDictOf (PySem.intKind PySem.Challenge.rw_aj5039_01.row.prog w) (setD S.s1 kF key (.ref pp)) → odB'.IsDictOf (PySem.intKind PySem.Challenge.rw_aj5039_01.row.prog w) (backK key S.s2 (without kB key) (fellO S.s1 kF key (.ref pp))) → odO'.IsDictOf (PySem.intKind PySem.Challenge.rw_aj5039_01.row.prog w) (setD (S.s1 + S.s2) kO key (.ref pp)) → S.dO < pp → Q .next { s with heap := h', toks := tk }) :
  wpAny (model PySem.Challenge.rw_aj5039_01.row.prog w) (callerA.deeper (lenv S.L S.fa 110)) (exec (loopBody.getD 4 (Stmt.Pass default)) (lenv S.L S.fa 110)) Q (fun _ _ => False) s := by
  revert X
  k_fill
  intro X
  have F1 := fr_eq F nm.open
  have e2 := ((nm.open (Str.ofString "place")).trans np)
  have F2 := fr_put (m := names01 S m) (x := Str.ofString "place") (v := .int place tp) (by exact e2) F1
  have e3 := ((if_name e2 (Str.ofString "kind")).trans ((nm.open (Str.ofString "kind")).trans nk))
  have F3 := fr_put (x := Str.ofString "kind") (v := .int kind tk9) (by exact e3) F2
  have e4 := ((if_name e2 (Str.ofString "key")).trans ((if_name e3 (Str.ofString "key")).trans ((nm.open (Str.ofString "key")).trans ny)))
  have F4 := fr_put (x := Str.ofString "key") (v := .int key tk8) (by exact e4) F3
  have e5 := ((if_name e2 (Str.ofString "is_front")).trans ((if_name e3 (Str.ofString "is_front")).trans ((if_name e4 (Str.ofString "is_front")).trans ((nm.open (Str.ofString "is_front")).trans nf))))
  have F5 := fr_put (x := Str.ofString "is_front") (v := .bool false) (by exact e5) F4
  have e6 := ((if_name e2 (Str.ofString "is_back")).trans ((if_name e3 (Str.ofString "is_back")).trans ((if_name e4 (Str.ofString "is_back")).trans ((if_name e5 (Str.ofString "is_back")).trans ((nm.open (Str.ofString "is_back")).trans nb)))))
  have F6 := fr_put (x := Str.ofString "is_back") (v := .bool true) (by exact e6) F5
  clear F F1 F2 F3 F4 F5
  have hcB := O.hcB
  have hcT := O.hcT
  conv => arg 3; arg 1; whnf
  k_steps
  all_goals first | exact q _ _ _ _ _ _ _ _ _ (by assumption) ⟨by exact rfl, by exact rfl, by exact rfl, by exact rfl⟩ (by exact News.sub (by assumption) Led.sub_pair2) (by assumption) (by assumption) (by assumption) (by first | assumption | exact Led.lt2 (by assumption))
set_option maxHeartbeats 16000000 in
theorem seg2K0N {bF : Bool}  (O : Ok S) (hp : PrsUp S prs) (X : (hd.heap_39 w.params).In h₀) (T : Top topProg loose mean mg mb h₀) (B : Below callerA h₀ [] h₀) (CB : CodeB h₀)
  (F : Fr h₀ S.L s.heap m) (nm : Nm S m) (np : m (Str.ofString "place") = some (.int place tp)) (nk : m (Str.ofString "kind") = some (.int kind tk9)) (ny : m (Str.ofString "key") = some (.int key tk8)) (nf : m (Str.ofString "is_front") = some (.bool bF)) (nb : m (Str.ofString "is_back") = some (.bool false))
  (N : News h₀ S.L s.heap (Led w S odF odB odO vF nF vW nW (.int key tkey) nT prs)) (hdF : odF.IsDictOf (PySem.intKind PySem.Challenge.rw_aj5039_01.row.prog w) kF) (hdB : odB.IsDictOf (PySem.intKind PySem.Challenge.rw_aj5039_01.row.prog w) kB) (hdO : odO.IsDictOf (PySem.intKind PySem.Challenge.rw_aj5039_01.row.prog w) kO)
  (lF : kF.length ≤ 10) (lB : kB.length ≤ 10) (lO : kO.length ≤ 10) (hzF : vF.length ≤ 40) (hzW : vW.length ≤ 40) (tF : Tups prs kF) (tB : Tups prs kB) (tO : Tups prs kO) (kf : ([0, 3].any fun x => x == kind) = true) 
  (q : ∀ h' tk m' odF' odB' odO' nF' nW' (pp : Nat), Fr h₀ S.L h' m' → Nm S m' → News h₀ S.L h' (Led w S odF' odB' odO' (vF ++ backL key S.s2 kB (fellO S.s1 kF key (.ref pp))) nF' (vW ++ fellL key (fellO (S.s1 + S.s2) kO key (.ref pp))) nW' (.int key tkey) nT ((pp, tup2 key tk8 (.int place tp)) :: prs)) → odF'.IsDictOf (PySem.intKind PySem.Challenge.rw_aj5039_01.row.prog w) (setD S.s1 kF key (.ref pp)) → odB'.IsDictOf (PySem.intKind PySem.Challenge.rw_aj5039_01.row.prog w) (backK key S.s2 kB (fellO S.s1 kF key (.ref pp))) → odO'.IsDictOf (PySem.intKind PySem.Challenge.rw_aj5039_01.row.prog w) (setD (S.s1 + S.s2) kO key (.ref pp)) → S.dO < pp → Q .next { s with heap := h', toks := tk }) :
  wpAny (model PySem.Challenge.rw_aj5039_01.row.prog w) (callerA.deeper (lenv S.L S.fa 110)) (exec (loopBody.getD 4 (Stmt.Pass default)) (lenv S.L S.fa 110)) Q (fun _ _ => False) s := by
  revert X
  k_fill
  intro X
  have F1 := fr_eq F nm.open
  have e2 := ((nm.open (Str.ofString "place")).trans np)
  have F2 := fr_put (m := names01 S m) (x := Str.ofString "place") (v := .int place tp) (by exact e2) F1
  have e3 := ((if_name e2 (Str.ofString "kind")).trans ((nm.open (Str.ofString "kind")).trans nk))
  have F3 := fr_put (x := Str.ofString "kind") (v := .int kind tk9) (by exact e3) F2
  have e4 := ((if_name e2 (Str.ofString "key")).trans ((if_name e3 (Str.ofString "key")).trans ((nm.open (Str.ofString "key")).trans ny)))
  have F4 := fr_put (x := Str.ofString "key") (v := .int key tk8) (by exact e4) F3
  have e5 := ((if_name e2 (Str.ofString "is_front")).trans ((if_name e3 (Str.ofString "is_front")).trans ((if_name e4 (Str.ofString "is_front")).trans ((nm.open (Str.ofString "is_front")).trans nf))))
  have F5 := fr_put (x := Str.ofString "is_front") (v := .bool bF) (by exact e5) F4
  have e6 := ((if_name e2 (Str.ofString "is_back")).trans ((if_name e3 (Str.ofString "is_back")).trans ((if_name e4 (Str.ofString "is_back")).trans ((if_name e5 (Str.ofString "is_back")).trans ((nm.open (Str.ofString "is_back")).trans nb)))))
  have F6 := fr_put (x := Str.ofString "is_back") (v := .bool false) (by exact e6) F5
  clear F F1 F2 F3 F4 F5
  have hcB := O.hcB
  have hcT := O.hcT
  conv => arg 3; arg 1; whnf
  k_steps
  all_goals first | exact q _ _ _ _ _ _ _ _ _ (by assumption) ⟨by exact rfl, by exact rfl, by exact rfl, by exact rfl⟩ (by exact News.sub (by assumption) Led.sub_pair2) (by assumption) (by assumption) (by assumption) (by first | assumption | exact Led.lt2 (by assumption))
set_option maxHeartbeats 16000000 in
theorem seg2K1F {pv : Nat}  (O : Ok S) (hp : PrsUp S prs) (X : (hd.heap_39 w.params).In h₀) (T : Top topProg loose mean mg mb h₀) (B : Below callerA h₀ [] h₀) (CB : CodeB h₀)
  (F : Fr h₀ S.L s.heap m) (nm : Nm S m) (np : m (Str.ofString "place") = some (.int place tp)) (nk : m (Str.ofString "kind") = some (.int kind tk9)) (ny : m (Str.ofString "key") = some (.int key tk8)) (nf : m (Str.ofString "is_front") = some (.bool true)) (nb : m (Str.ofString "is_back") = some (.bool false))
  (N : News h₀ S.L s.heap (Led w S odF odB odO vF nF vW nW (.int key tkey) nT prs)) (hdF : odF.IsDictOf (PySem.intKind PySem.Challenge.rw_aj5039_01.row.prog w) kF) (hdB : odB.IsDictOf (PySem.intKind PySem.Challenge.rw_aj5039_01.row.prog w) kB) (hdO : odO.IsDictOf (PySem.intKind PySem.Challenge.rw_aj5039_01.row.prog w) kO)
  (lF : kF.length ≤ 10) (lB : kB.length ≤ 10) (lO : kO.length ≤ 10) (hzF : vF.length ≤ 40) (hzW : vW.length ≤ 40) (tF : Tups prs kF) (tB : Tups prs kB) (tO : Tups prs kO) (kf : ([0, 3].any fun x => x == kind) = false) (kf2 : decide (kind = 1) = true) (kf3 : (kind == 1) = true) (h0F : valueAt kF key = some (.ref pv)) (h0B : valueAt kB key = none) (h0O : valueAt kO key = some (.ref pv)) (bx : (true || false) = true)
  (q : ∀ h' tk m' odF' odB' odO' nF' nW', Fr h₀ S.L h' m' → Nm S m' → News h₀ S.L h' (Led w S odF' odB' odO' (vF) nF' (vW) nW' (.int key tkey) nT prs) → odF'.IsDictOf (PySem.intKind PySem.Challenge.rw_aj5039_01.row.prog w) (without kF key ++ [(key, (Value.ref pv))]) → odB'.IsDictOf (PySem.intKind PySem.Challenge.rw_aj5039_01.row.prog w) (kB) → odO'.IsDictOf (PySem.intKind PySem.Challenge.rw_aj5039_01.row.prog w) (without kO key ++ [(key, (Value.ref pv))]) → Q .next { s with heap := h', toks := tk }) :
  wpAny (model PySem.Challenge.rw_aj5039_01.row.prog w) (callerA.deeper (lenv S.L S.fa 110)) (exec (loopBody.getD 4 (Stmt.Pass default)) (lenv S.L S.fa 110)) Q (fun _ _ => False) s := by
  revert X
  k_fill
  intro X
  have F1 := fr_eq F nm.open
  have e2 := ((nm.open (Str.ofString "place")).trans np)
  have F2 := fr_put (m := names01 S m) (x := Str.ofString "place") (v := .int place tp) (by exact e2) F1
  have e3 := ((if_name e2 (Str.ofString "kind")).trans ((nm.open (Str.ofString "kind")).trans nk))
  have F3 := fr_put (x := Str.ofString "kind") (v := .int kind tk9) (by exact e3) F2
  have e4 := ((if_name e2 (Str.ofString "key")).trans ((if_name e3 (Str.ofString "key")).trans ((nm.open (Str.ofString "key")).trans ny)))
  have F4 := fr_put (x := Str.ofString "key") (v := .int key tk8) (by exact e4) F3
  have e5 := ((if_name e2 (Str.ofString "is_front")).trans ((if_name e3 (Str.ofString "is_front")).trans ((if_name e4 (Str.ofString "is_front")).trans ((nm.open (Str.ofString "is_front")).trans nf))))
  have F5 := fr_put (x := Str.ofString "is_front") (v := .bool true) (by exact e5) F4
  have e6 := ((if_name e2 (Str.ofString "is_back")).trans ((if_name e3 (Str.ofString "is_back")).trans ((if_name e4 (Str.ofString "is_back")).trans ((if_name e5 (Str.ofString "is_back")).trans ((nm.open (Str.ofString "is_back")).trans nb)))))
  have F6 := fr_put (x := Str.ofString "is_back") (v := .bool false) (by exact e6) F5
  clear F F1 F2 F3 F4 F5
  have hcB := O.hcB
  have hcT := O.hcT
  conv => arg 3; arg 1; whnf
  k_steps
  all_goals first | exact q _ _ _ _ _ _ _ _ (by assumption) ⟨by exact rfl, by exact rfl, by exact rfl, by exact rfl⟩ (by exact News.sub (by assumption) (by lcg_sub)) (by assumption) (by assumption) (by assumption)
set_option maxHeartbeats 16000000 in
theorem seg2K1B {pv : Nat} {tp9 : Tok} {vp : Value}  (O : Ok S) (hp : PrsUp S prs) (X : (hd.heap_39 w.params).In h₀) (T : Top topProg loose mean mg mb h₀) (B : Below callerA h₀ [] h₀) (CB : CodeB h₀)
  (F : Fr h₀ S.L s.heap m) (nm : Nm S m) (np : m (Str.ofString "place") = some (.int place tp)) (nk : m (Str.ofString "kind") = some (.int kind tk9)) (ny : m (Str.ofString "key") = some (.int key tk8)) (nf : m (Str.ofString "is_front") = some (.bool false)) (nb : m (Str.ofString "is_back") = some (.bool true))
  (N : News h₀ S.L s.heap (Led w S odF odB odO vF nF vW nW (.int key tkey) nT prs)) (hdF : odF.IsDictOf (PySem.intKind PySem.Challenge.rw_aj5039_01.row.prog w) kF) (hdB : odB.IsDictOf (PySem.intKind PySem.Challenge.rw_aj5039_01.row.prog w) kB) (hdO : odO.IsDictOf (PySem.intKind PySem.Challenge.rw_aj5039_01.row.prog w) kO)
  (lF : kF.length ≤ 10) (lB : kB.length ≤ 10) (lO : kO.length ≤ 10) (hzF : vF.length ≤ 40) (hzW : vW.length ≤ 40) (tF : Tups prs kF) (tB : Tups prs kB) (tO : Tups prs kO) (kf : ([0, 3].any fun x => x == kind) = false) (kf2 : decide (kind = 1) = true) (kf3 : (kind == 1) = true) (h0F : valueAt kF key = none) (h0B : valueAt kB key = some (.ref pv)) (h0O : valueAt kO key = some (.ref pv)) (hpp : (pv, tup2 key tp9 vp) ∈ prs) (lB1 : (without kB key ++ [(key, (Value.ref pv))]).length ≤ 10) (tB1 : Tups prs (without kB key ++ [(key, (Value.ref pv))])) (hb1 : (valueAt (without kB key ++ [(key, (Value.ref pv))]) key).isSome = true) (lB2 : (without (without kB key ++ [(key, (Value.ref pv))]) key).length ≤ 10) (tB2 : Tups prs (without (without kB key ++ [(key, (Value.ref pv))]) key)) (hz1 : (vF ++ fellL key (fellD (without kB key ++ [(key, (Value.ref pv))]) key)).length ≤ 40)
  (q : ∀ h' tk m' odF' odB' odO' nF' nW', Fr h₀ S.L h' m' → Nm S m' → News h₀ S.L h' (Led w S odF' odB' odO' ((vF ++ fellL key (fellD (without kB key ++ [(key, (Value.ref pv))]) key)) ++ backL key S.s2 (without (without kB key ++ [(key, (Value.ref pv))]) key) (fellO S.s1 kF key (Value.ref pv))) nF' (vW) nW' (.int key tkey) nT prs) → odF'.IsDictOf (PySem.intKind PySem.Challenge.rw_aj5039_01.row.prog w) (setD S.s1 kF key (Value.ref pv)) → odB'.IsDictOf (PySem.intKind PySem.Challenge.rw_aj5039_01.row.prog w) (backK key S.s2 (without (without kB key ++ [(key, (Value.ref pv))]) key) (fellO S.s1 kF key (Value.ref pv))) → odO'.IsDictOf (PySem.intKind PySem.Challenge.rw_aj5039_01.row.prog w) (without kO key ++ [(key, (Value.ref pv))]) → Q .next { s with heap := h', toks := tk }) :
  wpAny (model PySem.Challenge.rw_aj5039_01.row.prog w) (callerA.deeper (lenv S.L S.fa 110)) (exec (loopBody.getD 4 (Stmt.Pass default)) (lenv S.L S.fa 110)) Q (fun _ _ => False) s := by
  revert X
  k_fill
  intro X
  have F1 := fr_eq F nm.open
  have e2 := ((nm.open (Str.ofString "place")).trans np)
  have F2 := fr_put (m := names01 S m) (x := Str.ofString "place") (v := .int place tp) (by exact e2) F1
  have e3 := ((if_name e2 (Str.ofString "kind")).trans ((nm.open (Str.ofString "kind")).trans nk))
  have F3 := fr_put (x := Str.ofString "kind") (v := .int kind tk9) (by exact e3) F2
  have e4 := ((if_name e2 (Str.ofString "key")).trans ((if_name e3 (Str.ofString "key")).trans ((nm.open (Str.ofString "key")).trans ny)))
  have F4 := fr_put (x := Str.ofString "key") (v := .int key tk8) (by exact e4) F3
  have e5 := ((if_name e2 (Str.ofString "is_front")).trans ((if_name e3 (Str.ofString "is_front")).trans ((if_name e4 (Str.ofString "is_front")).trans ((nm.open (Str.ofString "is_front")).trans nf))))
  have F5 := fr_put (x := Str.ofString "is_front") (v := .bool false) (by exact e5) F4
  have e6 := ((if_name e2 (Str.ofString "is_back")).trans ((if_name e3 (Str.ofString "is_back")).trans ((if_name e4 (Str.ofString "is_back")).trans ((if_name e5 (Str.ofString "is_back")).trans ((nm.open (Str.ofString "is_back")).trans nb)))))
  have F6 := fr_put (x := Str.ofString "is_back") (v := .bool true) (by exact e6) F5
  clear F F1 F2 F3 F4 F5
  have hcB := O.hcB
  have hcT := O.hcT
  conv => arg 3; arg 1; whnf
  k_steps
  all_goals first | exact q _ _ _ _ _ _ _ _ (by assumption) ⟨by exact rfl, by exact rfl, by exact rfl, by exact rfl⟩ (by exact News.sub (by assumption) (by lcg_sub)) (by assumption) (by assumption) (by assumption)
set_option maxHeartbeats 16000000 in
theorem seg2K1N  (O : Ok S) (hp : PrsUp S prs) (X : (hd.heap_39 w.params).In h₀) (T : Top topProg loose mean mg mb h₀) (B : Below callerA h₀ [] h₀) (CB : CodeB h₀)
  (F : Fr h₀ S.L s.heap m) (nm : Nm S m) (np : m (Str.ofString "place") = some (.int place tp)) (nk : m (Str.ofString "kind") = some (.int kind tk9)) (ny : m (Str.ofString "key") = some (.int key tk8)) (nf : m (Str.ofString "is_front") = some (.bool false)) (nb : m (Str.ofString "is_back") = some (.bool false))
  (N : News h₀ S.L s.heap (Led w S odF odB odO vF nF vW nW (.int key tkey) nT prs)) (hdF : odF.IsDictOf (PySem.intKind PySem.Challenge.rw_aj5039_01.row.prog w) kF) (hdB : odB.IsDictOf (PySem.intKind PySem.Challenge.rw_aj5039_01.row.prog w) kB) (hdO : odO.IsDictOf (PySem.intKind PySem.Challenge.rw_aj5039_01.row.prog w) kO)
  (lF : kF.length ≤ 10) (lB : kB.length ≤ 10) (lO : kO.length ≤ 10) (hzF : vF.length ≤ 40) (hzW : vW.length ≤ 40) (tF : Tups prs kF) (tB : Tups prs kB) (tO : Tups prs kO) (kf : ([0, 3].any fun x => x == kind) = false) (kf2 : decide (kind = 1) = true) (kf3 : (kind == 1) = true) (h0F : valueAt kF key = none) (h0B : valueAt kB key = none) (h0O : valueAt kO key = none)
  (q : ∀ h' tk m' odF' odB' odO' nF' nW', Fr h₀ S.L h' m' → Nm S m' → News h₀ S.L h' (Led w S odF' odB' odO' (vF) nF' (vW) nW' (.int key tkey) nT prs) → odF'.IsDictOf (PySem.intKind PySem.Challenge.rw_aj5039_01.row.prog w) (kF) → odB'.IsDictOf (PySem.intKind PySem.Challenge.rw_aj5039_01.row.prog w) (kB) → odO'.IsDictOf (PySem.intKind PySem.Challenge.rw_aj5039_01.row.prog w) (kO) → Q .next { s with heap := h', toks := tk }) :
  wpAny (model PySem.Challenge.rw_aj5039_01.row.prog w) (callerA.deeper (lenv S.L S.fa 110)) (exec (loopBody.getD 4 (Stmt.Pass default)) (lenv S.L S.fa 110)) Q (fun _ _ => False) s := by
  revert X
  k_fill
  intro X
  have F1 := fr_eq F nm.open
  have e2 := ((nm.open (Str.ofString "place")).trans np)
  have F2 := fr_put (m := names01 S m) (x := Str.ofString "place") (v := .int place tp) (by exact e2) F1
  have e3 := ((if_name e2 (Str.ofString "kind")).trans ((nm.open (Str.ofString "kind")).trans nk))
  have F3 := fr_put (x := Str.ofString "kind") (v := .int kind tk9) (by exact e3) F2
  have e4 := ((if_name e2 (Str.ofString "key")).trans ((if_name e3 (Str.ofString "key")).trans ((nm.open (Str.ofString "key")).trans ny)))
  have F4 := fr_put (x := Str.ofString "key") (v := .int key tk8) (by exact e4) F3
  have e5 := ((if_name e2 (Str.ofString "is_front")).trans ((if_name e3 (Str.ofString "is_front")).trans ((if_name e4 (Str.ofString "is_front")).trans ((nm.open (Str.ofString "is_front")).trans nf))))
  have F5 := fr_put (x := Str.ofString "is_front") (v := .bool false) (by exact e5) F4
  have e6 := ((if_name e2 (Str.ofString "is_back")).trans ((if_name e3 (Str.ofString "is_back")).trans ((if_name e4 (Str.ofString "is_back")).trans ((if_name e5 (Str.ofString "is_back")).trans ((nm.open (Str.ofString "is_back")).trans nb)))))
  have F6 := fr_put (x := Str.ofString "is_back") (v := .bool false) (by exact e6) F5
  clear F F1 F2 F3 F4 F5
  have hcB := O.hcB
  have hcT := O.hcT
  conv => arg 3; arg 1; whnf
  k_steps
  all_goals first | exact q _ _ _ _ _ _ _ _ (by assumption) ⟨by exact rfl, by exact rfl, by exact rfl, by exact rfl⟩ (by exact News.sub (by assumption) (by lcg_sub)) (by assumption) (by assumption) (by assumption)
set_option maxHeartbeats 16000000 in
theorem seg2K2F  (O : Ok S) (hp : PrsUp S prs) (X : (hd.heap_39 w.params).In h₀) (T : Top topProg loose mean mg mb h₀) (B : Below callerA h₀ [] h₀) (CB : CodeB h₀)
  (F : Fr h₀ S.L s.heap m) (nm : Nm S m) (np : m (Str.ofString "place") = some (.int place tp)) (nk : m (Str.ofString "kind") = some (.int kind tk9)) (ny : m (Str.ofString "key") = some (.int key tk8)) (nf : m (Str.ofString "is_front") = some (.bool true)) (nb : m (Str.ofString "is_back") = some (.bool false))
  (N : News h₀ S.L s.heap (Led w S odF odB odO vF nF vW nW (.int key tkey) nT prs)) (hdF : odF.IsDictOf (PySem.intKind PySem.Challenge.rw_aj5039_01.row.prog w) kF) (hdB : odB.IsDictOf (PySem.intKind PySem.Challenge.rw_aj5039_01.row.prog w) kB) (hdO : odO.IsDictOf (PySem.intKind PySem.Challenge.rw_aj5039_01.row.prog w) kO)
  (lF : kF.length ≤ 10) (lB : kB.length ≤ 10) (lO : kO.length ≤ 10) (hzF : vF.length ≤ 40) (hzW : vW.length ≤ 40) (tF : Tups prs kF) (tB : Tups prs kB) (tO : Tups prs kO) (kf : ([0, 3].any fun x => x == kind) = false) (kf2 : decide (kind = 1) = false) (kf3 : (kind == 1) = false) (hbF : (valueAt kF key).isSome = true) (hbB : (valueAt kB key).isSome = false) (hbO : (valueAt kO key).isSome = true) (lB1 : (backK key S.s2 kB (fellD kF key)).length ≤ 10) (tB1 : Tups prs (backK key S.s2 kB (fellD kF key))) (hbB1 : (valueAt (backK key S.s2 kB (fellD kF key)) key).isSome = false) (hz1 : (vF ++ backL key S.s2 kB (fellD kF key)).length ≤ 40)
  (q : ∀ h' tk m' odF' odB' odO' nF' nW', Fr h₀ S.L h' m' → Nm S m' → News h₀ S.L h' (Led w S odF' odB' odO' (vF ++ backL key S.s2 kB (fellD kF key) ++ fellL key (fellD (backK key S.s2 kB (fellD kF key)) key)) nF' (vW ++ fellL key (fellD kO key)) nW' (.int key tkey) nT prs) → odF'.IsDictOf (PySem.intKind PySem.Challenge.rw_aj5039_01.row.prog w) (without kF key) → odB'.IsDictOf (PySem.intKind PySem.Challenge.rw_aj5039_01.row.prog w) (without (backK key S.s2 kB (fellD kF key)) key) → odO'.IsDictOf (PySem.intKind PySem.Challenge.rw_aj5039_01.row.prog w) (without kO key) → Q .next { s with heap := h', toks := tk }) :
  wpAny (model PySem.Challenge.rw_aj5039_01.row.prog w) (callerA.deeper (lenv S.L S.fa 110)) (exec (loopBody.getD 4 (Stmt.Pass default)) (lenv S.L S.fa 110)) Q (fun _ _ => False) s := by
  revert X
  k_fill
  intro X
  have F1 := fr_eq F nm.open
  have e2 := ((nm.open (Str.ofString "place")).trans np)
  have F2 := fr_put (m := names01 S m) (x := Str.ofString "place") (v := .int place tp) (by exact e2) F1
  have e3 := ((if_name e2 (Str.ofString "kind")).trans ((nm.open (Str.ofString "kind")).trans nk))
  have F3 := fr_put (x := Str.ofString "kind") (v := .int kind tk9) (by exact e3) F2
  have e4 := ((if_name e2 (Str.ofString "key")).trans ((if_name e3 (Str.ofString "key")).trans ((nm.open (Str.ofString "key")).trans ny)))
  have F4 := fr_put (x := Str.ofString "key") (v := .int key tk8) (by exact e4) F3
  have e5 := ((if_name e2 (Str.ofString "is_front")).trans ((if_name e3 (Str.ofString "is_front")).trans ((if_name e4 (Str.ofString "is_front")).trans ((nm.open (Str.ofString "is_front")).trans nf))))
  have F5 := fr_put (x := Str.ofString "is_front") (v := .bool true) (by exact e5) F4
  have e6 := ((if_name e2 (Str.ofString "is_back")).trans ((if_name e3 (Str.ofString "is_back")).trans ((if_name e4 (Str.ofString "is_back")).trans ((if_name e5 (Str.ofString "is_back")).trans ((nm.open (Str.ofString "is_back")).trans nb)))))
  have F6 := fr_put (x := Str.ofString "is_back") (v := .bool false) (by exact e6) F5
  clear F F1 F2 F3 F4 F5
  have hcB := O.hcB
  have hcT := O.hcT
  conv => arg 3; arg 1; whnf
  k_steps
  all_goals first | exact q _ _ _ _ _ _ _ _ (by assumption) ⟨by exact rfl, by exact rfl, by exact rfl, by exact rfl⟩ (by exact News.sub (by assumption) (by lcg_sub)) (by assumption) (by assumption) (by assumption)
set_option maxHeartbeats 16000000 in
theorem seg2K2B  (O : Ok S) (hp : PrsUp S prs) (X : (hd.heap_39 w.params).In h₀) (T : Top topProg loose mean mg mb h₀) (B : Below callerA h₀ [] h₀) (CB : CodeB h₀)
  (F : Fr h₀ S.L s.heap m) (nm : Nm S m) (np : m (Str.ofString "place") = some (.int place tp)) (nk : m (Str.ofString "kind") = some (.int kind tk9)) (ny : m (Str.ofString "key") = some (.int key tk8)) (nf : m (Str.ofString "is_front") = some (.bool false)) (nb : m (Str.ofString "is_back") = some (.bool true))
  (N : News h₀ S.L s.heap (Led w S odF odB odO vF nF vW nW (.int key tkey) nT prs)) (hdF : odF.IsDictOf (PySem.intKind PySem.Challenge.rw_aj5039_01.row.prog w) kF) (hdB : odB.IsDictOf (PySem.intKind PySem.Challenge.rw_aj5039_01.row.prog w) kB) (hdO : odO.IsDictOf (PySem.intKind PySem.Challenge.rw_aj5039_01.row.prog w) kO)
  (lF : kF.length ≤ 10) (lB : kB.length ≤ 10) (lO : kO.length ≤ 10) (hzF : vF.length ≤ 40) (hzW : vW.length ≤ 40) (tF : Tups prs kF) (tB : Tups prs kB) (tO : Tups prs kO) (kf : ([0, 3].any fun x => x == kind) = false) (kf2 : decide (kind = 1) = false) (kf3 : (kind == 1) = false) (hbF : (valueAt kF key).isSome = false) (hbB : (valueAt kB key).isSome = true) (hbO : (valueAt kO key).isSome = true) (lB1 : (backK key S.s2 kB (fellD kF key)).length ≤ 10) (tB1 : Tups prs (backK key S.s2 kB (fellD kF key))) (hbB1 : (valueAt (backK key S.s2 kB (fellD kF key)) key).isSome = true) (hz1 : (vF ++ backL key S.s2 kB (fellD kF key)).length ≤ 40)
  (q : ∀ h' tk m' odF' odB' odO' nF' nW', Fr h₀ S.L h' m' → Nm S m' → News h₀ S.L h' (Led w S odF' odB' odO' (vF ++ backL key S.s2 kB (fellD kF key) ++ fellL key (fellD (backK key S.s2 kB (fellD kF key)) key)) nF' (vW ++ fellL key (fellD kO key)) nW' (.int key tkey) nT prs) → odF'.IsDictOf (PySem.intKind PySem.Challenge.rw_aj5039_01.row.prog w) (without kF key) → odB'.IsDictOf (PySem.intKind PySem.Challenge.rw_aj5039_01.row.prog w) (without (backK key S.s2 kB (fellD kF key)) key) → odO'.IsDictOf (PySem.intKind PySem.Challenge.rw_aj5039_01.row.prog w) (without kO key) → Q .next { s with heap := h', toks := tk }) :
  wpAny (model PySem.Challenge.rw_aj5039_01.row.prog w) (callerA.deeper (lenv S.L S.fa 110)) (exec (loopBody.getD 4 (Stmt.Pass default)) (lenv S.L S.fa 110)) Q (fun _ _ => False) s := by
  revert X
  k_fill
  intro X
  have F1 := fr_eq F nm.open
  have e2 := ((nm.open (Str.ofString "place")).trans np)
  have F2 := fr_put (m := names01 S m) (x := Str.ofString "place") (v := .int place tp) (by exact e2) F1
  have e3 := ((if_name e2 (Str.ofString "kind")).trans ((nm.open (Str.ofString "kind")).trans nk))
  have F3 := fr_put (x := Str.ofString "kind") (v := .int kind tk9) (by exact e3) F2
  have e4 := ((if_name e2 (Str.ofString "key")).trans ((if_name e3 (Str.ofString "key")).trans ((nm.open (Str.ofString "key")).trans ny)))
  have F4 := fr_put (x := Str.ofString "key") (v := .int key tk8) (by exact e4) F3
  have e5 := ((if_name e2 (Str.ofString "is_front")).trans ((if_name e3 (Str.ofString "is_front")).trans ((if_name e4 (Str.ofString "is_front")).trans ((nm.open (Str.ofString "is_front")).trans nf))))
  have F5 := fr_put (x := Str.ofString "is_front") (v := .bool false) (by exact e5) F4
  have e6 := ((if_name e2 (Str.ofString "is_back")).trans ((if_name e3 (Str.ofString "is_back")).trans ((if_name e4 (Str.ofString "is_back")).trans ((if_name e5 (Str.ofString "is_back")).trans ((nm.open (Str.ofString "is_back")).trans nb)))))
  have F6 := fr_put (x := Str.ofString "is_back") (v := .bool true) (by exact e6) F5
  clear F F1 F2 F3 F4 F5
  have hcB := O.hcB
  have hcT := O.hcT
  conv => arg 3; arg 1; whnf
  k_steps
  all_goals first | exact q _ _ _ _ _ _ _ _ (by assumption) ⟨by exact rfl, by exact rfl, by exact rfl, by exact rfl⟩ (by exact News.sub (by assumption) (by lcg_sub)) (by assumption) (by assumption) (by assumption)
set_option maxHeartbeats 16000000 in
theorem seg2K2N  (O : Ok S) (hp : PrsUp S prs) (X : (hd.heap_39 w.params).In h₀) (T : Top topProg loose mean mg mb h₀) (B : Below callerA h₀ [] h₀) (CB : CodeB h₀)
  (F : Fr h₀ S.L s.heap m) (nm : Nm S m) (np : m (Str.ofString "place") = some (.int place tp)) (nk : m (Str.ofString "kind") = some (.int kind tk9)) (ny : m (Str.ofString "key") = some (.int key tk8)) (nf : m (Str.ofString "is_front") = some (.bool false)) (nb : m (Str.ofString "is_back") = some (.bool false))
  (N : News h₀ S.L s.heap (Led w S odF odB odO vF nF vW nW (.int key tkey) nT prs)) (hdF : odF.IsDictOf (PySem.intKind PySem.Challenge.rw_aj5039_01.row.prog w) kF) (hdB : odB.IsDictOf (PySem.intKind PySem.Challenge.rw_aj5039_01.row.prog w) kB) (hdO : odO.IsDictOf (PySem.intKind PySem.Challenge.rw_aj5039_01.row.prog w) kO)
  (lF : kF.length ≤ 10) (lB : kB.length ≤ 10) (lO : kO.length ≤ 10) (hzF : vF.length ≤ 40) (hzW : vW.length ≤ 40) (tF : Tups prs kF) (tB : Tups prs kB) (tO : Tups prs kO) (kf : ([0, 3].any fun x => x == kind) = false) (kf2 : decide (kind = 1) = false) (kf3 : (kind == 1) = false) (hbF : (valueAt kF key).isSome = false) (hbB : (valueAt kB key).isSome = false) (hbO : (valueAt kO key).isSome = false) (lB1 : (backK key S.s2 kB (fellD kF key)).length ≤ 10) (tB1 : Tups prs (backK key S.s2 kB (fellD kF key))) (hbB1 : (valueAt (backK key S.s2 kB (fellD kF key)) key).isSome = false) (hz1 : (vF ++ backL key S.s2 kB (fellD kF key)).length ≤ 40)
  (q : ∀ h' tk m' odF' odB' odO' nF' nW', Fr h₀ S.L h' m' → Nm S m' → News h₀ S.L h' (Led w S odF' odB' odO' (vF ++ backL key S.s2 kB (fellD kF key) ++ fellL key (fellD (backK key S.s2 kB (fellD kF key)) key)) nF' (vW ++ fellL key (fellD kO key)) nW' (.int key tkey) nT prs) → odF'.IsDictOf (PySem.intKind PySem.Challenge.rw_aj5039_01.row.prog w) (without kF key) → odB'.IsDictOf (PySem.intKind PySem.Challenge.rw_aj5039_01.row.prog w) (without (backK key S.s2 kB (fellD kF key)) key) → odO'.IsDictOf (PySem.intKind PySem.Challenge.rw_aj5039_01.row.prog w) (without kO key) → Q .next { s with heap := h', toks := tk }) :
  wpAny (model PySem.Challenge.rw_aj5039_01.row.prog w) (callerA.deeper (lenv S.L S.fa 110)) (exec (loopBody.getD 4 (Stmt.Pass default)) (lenv S.L S.fa 110)) Q (fun _ _ => False) s := by
  revert X
  k_fill
  intro X
  have F1 := fr_eq F nm.open
  have e2 := ((nm.open (Str.ofString "place")).trans np)
  have F2 := fr_put (m := names01 S m) (x := Str.ofString "place") (v := .int place tp) (by exact e2) F1
  have e3 := ((if_name e2 (Str.ofString "kind")).trans ((nm.open (Str.ofString "kind")).trans nk))
  have F3 := fr_put (x := Str.ofString "kind") (v := .int kind tk9) (by exact e3) F2
  have e4 := ((if_name e2 (Str.ofString "key")).trans ((if_name e3 (Str.ofString "key")).trans ((nm.open (Str.ofString "key")).trans ny)))
  have F4 := fr_put (x := Str.ofString "key") (v := .int key tk8) (by exact e4) F3
  have e5 := ((if_name e2 (Str.ofString "is_front")).trans ((if_name e3 (Str.ofString "is_front")).trans ((if_name e4 (Str.ofString "is_front")).trans ((nm.open (Str.ofString "is_front")).trans nf))))
  have F5 := fr_put (x := Str.ofString "is_front") (v := .bool false) (by exact e5) F4
  have e6 := ((if_name e2 (Str.ofString "is_back")).trans ((if_name e3 (Str.ofString "is_back")).trans ((if_name e4 (Str.ofString "is_back")).trans ((if_name e5 (Str.ofString "is_back")).trans ((nm.open (Str.ofString "is_back")).trans nb)))))
  have F6 := fr_put (x := Str.ofString "is_back") (v := .bool false) (by exact e6) F5
  clear F F1 F2 F3 F4 F5
  have hcB := O.hcB
  have hcT := O.hcT
  conv => arg 3; arg 1; whnf
  k_steps
  all_goals first | exact q _ _ _ _ _ _ _ _ (by assumption) ⟨by exact rfl, by exact rfl, by exact rfl, by exact rfl⟩ (by exact News.sub (by assumption) (by lcg_sub)) (by assumption) (by assumption) (by assumption)
set_option maxHeartbeats 16000000 in
theorem seg3a  (O : Ok S) (hp : PrsUp S prs) (X : (hd.heap_39 w.params).In h₀) (T : Top topProg loose mean mg mb h₀) (B : Below callerA h₀ [] h₀) (CB : CodeB h₀)
  (F : Fr h₀ S.L s.heap m) (nm : Nm S m) 
  (N : News h₀ S.L s.heap (Led w S odF odB odO vF nF vW nW tv nT prs)) (hdF : odF.IsDictOf (PySem.intKind PySem.Challenge.rw_aj5039_01.row.prog w) kF) (hdB : odB.IsDictOf (PySem.intKind PySem.Challenge.rw_aj5039_01.row.prog w) kB) (hdO : odO.IsDictOf (PySem.intKind PySem.Challenge.rw_aj5039_01.row.prog w) kO)
  (h7F : ∀ k ∈ kF.map (·.1), 0 ≤ k ∧ k < 7) (h7B : ∀ k ∈ kB.map (·.1), 0 ≤ k ∧ k < 7) (l3F : kF.length ≤ 3) (l3B : kB.length ≤ 3) (lO : kO.length ≤ 10) (l3F1 : (kF.map (·.1)).length ≤ 3) (l3B1 : (kB.map (·.1)).length ≤ 3) (nF9 : (kF.map (·.1)).Nodup) (nB9 : (kB.map (·.1)).Nodup) (dj : ∀ k ∈ kF.map (·.1), k ∉ kB.map (·.1)) (hq : (kF.map (·.1) ++ kB.map (·.1)).Nodup ∧ (kF.map (·.1) ++ kB.map (·.1)).length ≤ 20 ∧ (kO.map (·.1)).length ≤ 20 ∧ (kF.map (·.1) ++ kB.map (·.1)).length = (kO.map (·.1)).length ∧ ∀ k ∈ kF.map (·.1) ++ kB.map (·.1), k ∈ kO.map (·.1))
  (q : ∀ h' tk, Fr h₀ S.L h' m → News h₀ S.L h' (Led w S odF odB odO vF nF vW nW tv nT prs) → Q .next { s with heap := h', toks := tk }) :
  wpAny (model PySem.Challenge.rw_aj5039_01.row.prog w) (callerA.deeper (lenv S.L S.fa 110)) (exec (loopBody.getD 5 (Stmt.Pass default)) (lenv S.L S.fa 110)) Q (fun _ _ => False) s := by
  revert X
  k_fill
  intro X
  have F1 := fr_eq F nm.open
  clear F
  have hcB := O.hcB
  have hcT := O.hcT
  have hcF := O.hcF
  have hcW := O.hcW
  conv => arg 3; arg 1; whnf
  k_steps
  all_goals first | exact q _ _ (fr_eq (by assumption) fun y => (nm.open y).symm) (by exact News.sub (by assumption) (by lcg_sub)) | (exfalso; omega)
set_option maxHeartbeats 16000000 in
theorem seg3b  (O : Ok S) (hp : PrsUp S prs) (X : (hd.heap_39 w.params).In h₀) (T : Top topProg loose mean mg mb h₀) (B : Below callerA h₀ [] h₀) (CB : CodeB h₀)
  (F : Fr h₀ S.L s.heap m) (nm : Nm S m) 
  (N : News h₀ S.L s.heap (Led w S odF odB odO vF nF vF nW tv nT prs)) (hdF : odF.IsDictOf (PySem.intKind PySem.Challenge.rw_aj5039_01.row.prog w) kF) (hdB : odB.IsDictOf (PySem.intKind PySem.Challenge.rw_aj5039_01.row.prog w) kB) (hdO : odO.IsDictOf (PySem.intKind PySem.Challenge.rw_aj5039_01.row.prog w) kO)
  (lF : kF.length ≤ 10) (lB : kB.length ≤ 10) (lO : kO.length ≤ 10) (hs : (kF.length : Int) ≤ S.s1) (hl : (kF.length : Int) + (kB.length : Int) = (kO.length : Int)) (hz : vF.length ≤ 40)
  (q : ∀ h' tk, Fr h₀ S.L h' m → News h₀ S.L h' (Led w S odF odB odO vF nF vF nW tv nT prs) → Q .next { s with heap := h', toks := tk }) :
  wpAny (model PySem.Challenge.rw_aj5039_01.row.prog w) (callerA.deeper (lenv S.L S.fa 110)) (exec (loopBody.getD 6 (Stmt.Pass default)) (lenv S.L S.fa 110)) Q (fun _ _ => False) s := by
  revert X
  k_fill
  intro X
  have F1 := fr_eq F nm.open
  clear F
  have hcB := O.hcB
  have hcT := O.hcT
  have hcF := O.hcF
  have hcW := O.hcW
  conv => arg 3; arg 1; whnf
  k_steps
  all_goals first | exact q _ _ (fr_eq (by assumption) fun y => (nm.open y).symm) (by exact News.sub (by assumption) (by lcg_sub)) | (exfalso; omega)
end
end Mine
end
section
open PySem PySem.W PyProof.Rows PySem.Calls PyProof.V PySem.Spec
set_option maxRecDepth 100000
namespace Mine
section
variable {w : World} {S : St} {odF odB odO : Obj} {vF : List Value} {nF nW nT : Nat} {tv : Value} {prs : List (Addr × Obj)} {mg mb : Str → Option Value} {mean : ExcName → Option Value} {h₀ : Heap} {m : Str → Option Value} {s : Shared} {Q : Flow → Shared → Prop}
  {ns : List Int} {place kind key : Int} {tp tk9 tk8 tkey : Tok} {kF kB kO : List (Int × Value)} {c : Nat}
theorem LI.facts {vF vW : List Value} (O : Ok S) (x : LI S.s1 S.s2 prs kF kB kO vF vW c) : (∀ k ∈ kF.map (·.1), 0 ≤ k ∧ k < 7) ∧ (∀ k ∈ kB.map (·.1), 0 ≤ k ∧ k < 7) ∧ kF.length ≤ 3 ∧ kB.length ≤ 3 ∧ kO.length ≤ 6 ∧ kO.length = kB.length + kF.length := by
  have e := x.one
  have b := x.bd
  rw [e] at b
  have := O.s1b
  have := O.s2b
  have := x.lf
  have := x.lb
  have l : kO.length = kB.length + kF.length := by rw [e, List.length_append]
  refine ⟨fun k hk => b k (by rw [List.map_append]; exact List.mem_append_right _ hk), fun k hk => b k (by rw [List.map_append]; exact List.mem_append_left _ hk), by omega, by omega, by omega, l⟩
set_option maxHeartbeats 4000000 in
theorem tail01 (O : Ok S) (hp : PrsUp S prs) (X : (hd.heap_39 w.params).In h₀) (T : Top topProg loose mean mg mb h₀) (B : Below callerA h₀ [] h₀) (CB : CodeB h₀) (F : Fr h₀ S.L s.heap m) (nm : Nm S m) (N : News h₀ S.L s.heap (Led w S odF odB odO vF nF vF nW tv nT prs)) (hdF : odF.IsDictOf (PySem.intKind PySem.Challenge.rw_aj5039_01.row.prog w) kF) (hdB : odB.IsDictOf (PySem.intKind PySem.Challenge.rw_aj5039_01.row.prog w) kB) (hdO : odO.IsDictOf (PySem.intKind PySem.Challenge.rw_aj5039_01.row.prog w) kO) (x : LI S.s1 S.s2 prs kF kB kO vF vF (c + 1)) (hc : c + 1 ≤ 40)
  (q : ∀ h' tk m' odF' odB' odO' kF' kB' kO' vF' nF' nW' tv' prs', Fr h₀ S.L h' m' → Nm S m' → News h₀ S.L h' (Led w S odF' odB' odO' vF' nF' vF' nW' tv' nT prs') → PrsUp S prs' → odF'.IsDictOf (PySem.intKind PySem.Challenge.rw_aj5039_01.row.prog w) kF' → odB'.IsDictOf (PySem.intKind PySem.Challenge.rw_aj5039_01.row.prog w) kB' → odO'.IsDictOf (PySem.intKind PySem.Challenge.rw_aj5039_01.row.prog w) kO' → LI S.s1 S.s2 prs' kF' kB' kO' vF' vF' (c + 1) → (∀ q ∈ prs, q ∈ prs') → Q .next { s with heap := h', toks := tk }) : wpAny (model PySem.Challenge.rw_aj5039_01.row.prog w) (callerA.deeper (lenv S.L S.fa 110)) (execs (loopBody.drop 5) (lenv S.L S.fa 110)) Q (fun _ _ => False) s := by
  obtain ⟨h7F, h7B, l3F, l3B, lO, hl⟩ := x.facts O
  obtain ⟨ndB, ndF, dj⟩ := x.keys
  have lF1 : (kF.map (·.1)).length = kF.length := List.length_map ..
  have lB1 : (kB.map (·.1)).length = kB.length := List.length_map ..
  have lO1 : (kO.map (·.1)).length = kO.length := List.length_map ..
  have hq : (kF.map (·.1) ++ kB.map (·.1)).Nodup ∧ (kF.map (·.1) ++ kB.map (·.1)).length ≤ 20 ∧ (kO.map (·.1)).length ≤ 20 ∧ (kF.map (·.1) ++ kB.map (·.1)).length = (kO.map (·.1)).length ∧ ∀ k ∈ kF.map (·.1) ++ kB.map (·.1), k ∈ kO.map (·.1) := by
    refine ⟨List.nodup_append.mpr ⟨ndF, ndB, fun a ha b hb e => dj b hb a ha e.symm⟩, by rw [List.length_append]; omega, by omega, by rw [List.length_append]; omega, fun k hk => ?_⟩
    rw [x.one, List.map_append, List.mem_append]
    exact (List.mem_append.mp hk).symm
  refine wpAny_execs_cons (seg3a O hp X T B CB F nm N hdF hdB hdO h7F h7B l3F l3B (by omega) (by omega) (by omega) ndF ndB (fun k hk hb => dj k hb k hk rfl) hq fun h' tk F N => ?_)
  refine wpAny_execs_cons (seg3b O hp X T B CB F nm N hdF hdB hdO (by omega) (by omega) (by omega) x.lf (by omega) (Nat.le_trans x.len hc) fun h' tk F N => ?_)
  exact wpAny_execs_nil (q _ _ _ _ _ _ _ _ _ _ _ _ _ _ F nm N hp hdF hdB hdO x fun _ h => h)
set_option maxHeartbeats 8000000 in
theorem turn01 (O : Ok S) (hp : PrsUp S prs) (X : (hd.heap_39 w.params).In h₀) (T : Top topProg loose mean mg mb h₀) (B : Below callerA h₀ [] h₀) (CB : CodeB h₀) (F : Fr h₀ S.L s.heap m) (nm : Nm S m) (np : m (Str.ofString "place") = some (.int place tp)) (N : News h₀ S.L s.heap (Led w S odF odB odO vF nF vF nW tv nT prs)) (hdF : odF.IsDictOf (PySem.intKind PySem.Challenge.rw_aj5039_01.row.prog w) kF) (hdB : odB.IsDictOf (PySem.intKind PySem.Challenge.rw_aj5039_01.row.prog w) kB) (hdO : odO.IsDictOf (PySem.intKind PySem.Challenge.rw_aj5039_01.row.prog w) kO)
  (hN : IntsAre S.vsN ns) (hl0 : 2 ≤ place) (hl1 : place + 1 < ns.length) (hl2 : ns.length ≤ 34) (x : LI S.s1 S.s2 prs kF kB kO vF vF c) (hc : c + 1 ≤ 40)
  (q : ∀ h' tk m' odF' odB' odO' kF' kB' kO' vF' nF' nW' tv' prs', Fr h₀ S.L h' m' → Nm S m' → News h₀ S.L h' (Led w S odF' odB' odO' vF' nF' vF' nW' tv' nT prs') → PrsUp S prs' → odF'.IsDictOf (PySem.intKind PySem.Challenge.rw_aj5039_01.row.prog w) kF' → odB'.IsDictOf (PySem.intKind PySem.Challenge.rw_aj5039_01.row.prog w) kB' → odO'.IsDictOf (PySem.intKind PySem.Challenge.rw_aj5039_01.row.prog w) kO' → LI S.s1 S.s2 prs' kF' kB' kO' vF' vF' (c + 1) → (∀ q ∈ prs, q ∈ prs') → Q .next { s with heap := h', toks := tk }) : wpAny (model PySem.Challenge.rw_aj5039_01.row.prog w) (callerA.deeper (lenv S.L S.fa 110)) (execs loopBody (lenv S.L S.fa 110)) Q (fun _ _ => False) s := by
  obtain ⟨h7F, h7B, l3F, l3B, lO, hl⟩ := x.facts O
  obtain ⟨ndB, ndF, dj⟩ := x.keys
  have lF1 : (kF.map (·.1)).length = kF.length := List.length_map ..
  have lB1 : (kB.map (·.1)).length = kB.length := List.length_map ..
  have hlen := x.len
  refine execs_app (a := loopBody.take 4) (b := loopBody.drop 4) (seg1 (bF := (valueAt kF ((ns.getD (place + 1).toNat 0).fmod 7)).isSome) (bB := (valueAt kB ((ns.getD (place + 1).toNat 0).fmod 7)).isSome) O hp X T B CB F nm np N hdF hdB hdO hN hl0 hl1 hl2 h7F h7B l3F l3B ⟨h7F, ndF, by omega, any_isSome _ _⟩ ⟨h7B, ndB, by omega, any_isSome _ _⟩ fun h' tk m tk9 tk8 tkey F nm nk ny np nf nb N => ?_)
  have hk : 0 ≤ (ns.getD (place + 1).toNat 0).fmod 7 ∧ (ns.getD (place + 1).toNat 0).fmod 7 < 7 := ⟨Int.fmod_nonneg_of_pos _ (by decide), Int.fmod_lt_of_pos _ (by decide)⟩
  have hkd : 0 ≤ (ns.getD place.toNat 0).fmod 4 ∧ (ns.getD place.toNat 0).fmod 4 < 4 := ⟨Int.fmod_nonneg_of_pos _ (by decide), Int.fmod_lt_of_pos _ (by decide)⟩
  generalize (ns.getD (place + 1).toNat 0).fmod 7 = key at *
  generalize (ns.getD place.toNat 0).fmod 4 = kind at *
  have tO := x.tup
  have tF : Tups prs kF := fun k v h => tO k v (by rw [x.one]; exact List.mem_append_right _ h)
  have tB : Tups prs kB := fun k v h => tO k v (by rw [x.one]; exact List.mem_append_left _ h)
  -- the rest of the turn
  obtain ⟨prs₀, hprs⟩ : ∃ p, p = prs := ⟨_, rfl⟩
  have go : ∀ (h' : Heap) (tk : Nat) (m : Str → Option Value) (odF odB odO : Obj) (kF kB kO : KV) (vF vW : List Value) (nF nW : Nat) (tv : Value) (prs : List (Addr × Obj)), Fr h₀ S.L h' m → Nm S m → News h₀ S.L h' (Led w S odF odB odO vF nF vW nW tv nT prs) → PrsUp S prs → odF.IsDictOf (PySem.intKind PySem.Challenge.rw_aj5039_01.row.prog w) kF → odB.IsDictOf (PySem.intKind PySem.Challenge.rw_aj5039_01.row.prog w) kB → odO.IsDictOf (PySem.intKind PySem.Challenge.rw_aj5039_01.row.prog w) kO → LI S.s1 S.s2 prs kF kB kO vF vW (c + 1) → (∀ q ∈ prs₀, q ∈ prs) →
      wpAny (model PySem.Challenge.rw_aj5039_01.row.prog w) (callerA.deeper (lenv S.L S.fa 110)) (execs (loopBody.drop 5) (lenv S.L S.fa 110)) Q (fun _ _ => False) { s with heap := h', toks := tk } := by
    intro h' tk m odF odB odO kF kB kO vF vW nF nW tv prs F nm N hp hdF hdB hdO y hs0
    have e := y.vs
    subst e
    exact tail01 O hp X T B CB F nm N hdF hdB hdO y hc fun h' tk m' odF' odB' odO' kF' kB' kO' vF' nF' nW' tv' prs' a b c d e f g i j => q h' tk m' odF' odB' odO' kF' kB' kO' vF' nF' nW' tv' prs' a b c d e f g i fun z hz => j z (hs0 z (hprs ▸ hz))
  have up1 : LI S.s1 S.s2 prs (without kF key) (without kB key) (without kO key) vF vF (c + 1) := { x.drop (key := key) with len := Nat.le_succ_of_le hlen }
  -- a fresh pair
  have fresh : ∀ (pp : Nat), S.dO < pp → PrsUp S ((pp, tup2 key tk8 (.int place tp)) :: prs) := fun pp h => List.forall_mem_cons.mpr ⟨.inl h, hp⟩
  have lwF := without_len kF key
  have lwB := without_len kB key
  cases eF : valueAt kF key with
  | some v0 =>
    have hF : key ∈ kF.map (·.1) := mem_isSome.mp (by rw [eF]; rfl)
    have hB : key ∉ kB.map (·.1) := fun h => dj _ h _ hF rfl
    have eB : valueAt kB key = none := valueAt_none.mpr hB
    have eO : valueAt kO key = some v0 := by rw [x.one, valueAt_app, eB, eF]; rfl
    have idB : without kB key = kB := without_id hB
    rw [eF] at nf
    rw [eB] at nb
    obtain ⟨p0, tq, vq, rfl, hp0⟩ := tF _ _ (mem_of_valueAt eF)
    by_cases k0 : kind = 0 ∨ kind = 3
    · have kf : ([0, 3].any fun x => x == kind) = true := by rcases k0 with e | e <;> simp [e]
      refine wpAny_execs_cons (seg2K0N (bF := true) O hp X T B CB F nm np nk ny nf nb N hdF hdB hdO (by omega) (by omega) (by omega) (by omega) (by omega) tF tB tO kf fun h' tk m' odF' odB' odO' nF' nW' pp F nm N hdF hdB hdO lp => ?_)
      have y := x.touch O.s1a O.s2a hk (prs' := (pp, tup2 key tk8 (.int place tp)) :: prs) (fun q h => .tail _ h) (v := .ref pp) ⟨pp, tk8, .int place tp, rfl, .head _⟩
      rw [idB] at y
      exact go _ _ _ _ _ _ _ _ _ _ _ _ _ _ _ F nm N (fresh pp lp) hdF hdB hdO y (hprs ▸ fun _ h => .tail _ h)
    · have kf : ([0, 3].any fun x => x == kind) = false := by
        simp only [List.any_cons, List.any_nil, Bool.or_false, Bool.or_eq_false_iff, beq_eq_false_iff_ne, ne_eq]
        omega
      by_cases k1 : kind = 1
      · refine wpAny_execs_cons (seg2K1F O hp X T B CB F nm np nk ny nf nb N hdF hdB hdO (by omega) (by omega) (by omega) (by omega) (by omega) tF tB tO kf (by simp [k1]) (by simp [k1]) eF eB eO rfl fun h' tk m' odF' odB' odO' nF' nW' F nm N hdF hdB hdO => ?_)
        have y := x.touch O.s1a O.s2a hk (prs' := prs) (fun q h => h) (v := .ref p0) ⟨p0, tq, vq, rfl, hp0⟩
        have a1 : setD S.s1 kF key (.ref p0) = without kF key ++ [(key, .ref p0)] := by unfold setD; rw [eF]; rfl
        have a2 : fellO S.s1 kF key (.ref p0) = some (key, .ref p0) := by unfold fellO; rw [eF]
        have a3 : setD (S.s1 + S.s2) kO key (.ref p0) = without kO key ++ [(key, .ref p0)] := by unfold setD; rw [eO]; rfl
        have a4 : fellO (S.s1 + S.s2) kO key (.ref p0) = some (key, .ref p0) := by unfold fellO; rw [eO]
        rw [a1, a2, a3, a4, idB, fellL_key, show backK key S.s2 kB (some (key, .ref p0)) = kB from if_pos rfl, show backL key S.s2 kB (some (key, .ref p0)) = [] from if_pos rfl, List.append_nil] at y
        exact go _ _ _ _ _ _ _ _ _ _ _ _ _ _ _ F nm N hp hdF hdB hdO y (hprs ▸ fun _ h => h)
      · refine wpAny_execs_cons (seg2K2F O hp X T B CB F nm np nk ny nf nb N hdF hdB hdO (by omega) (by omega) (by omega) (by omega) (by omega) tF tB tO kf (by simp [k1]) (by simp [k1]) (by rw [eF]; rfl) (by rw [eB]; rfl) (by rw [eO]; rfl) (by rw [backK_D]; omega) (by rw [backK_D]; exact tB) (by rw [backK_D, eB]; rfl) (by rw [backL_D, List.append_nil]; omega) fun h' tk m' odF' odB' odO' nF' nW' F nm N hdF hdB hdO => ?_)
        rw [backK_D] at hdB
        rw [backK_D, backL_D, fellD_L, fellD_L, List.append_nil, List.append_nil] at N
        exact go _ _ _ _ _ _ _ _ _ _ _ _ _ _ _ F nm N hp hdF hdB hdO up1 (hprs ▸ fun _ h => h)
  | none =>
    have hF : key ∉ kF.map (·.1) := valueAt_none.mp eF
    have idF : without kF key = kF := without_id hF
    rw [eF] at nf
    cases eB : valueAt kB key with
    | some v0 =>
      have hB : key ∈ kB.map (·.1) := mem_isSome.mp (by rw [eB]; rfl)
      have eO : valueAt kO key = some v0 := by rw [x.one, valueAt_app, eB]; rfl
      rw [eB] at nb
      obtain ⟨p0, tq, vq, rfl, hp0⟩ := tB _ _ (mem_of_valueAt eB)
      by_cases k0 : kind = 0 ∨ kind = 3
      · have kf : ([0, 3].any fun x => x == kind) = true := by rcases k0 with e | e <;> simp [e]
        refine wpAny_execs_cons (seg2K0B O hp X T B CB F nm np nk ny nf nb N hdF hdB hdO (by omega) (by omega) (by omega) (by omega) (by omega) tF tB tO kf (by rw [eB]; rfl) (by omega) tB.without (by rw [fellD_L, List.append_nil]; omega) fun h' tk m' odF' odB' odO' nF' nW' pp F nm N hdF hdB hdO lp => ?_)
        have y := x.touch O.s1a O.s2a hk (prs' := (pp, tup2 key tk8 (.int place tp)) :: prs) (fun q h => .tail _ h) (v := .ref pp) ⟨pp, tk8, .int place tp, rfl, .head _⟩
        rw [fellD_L, List.append_nil] at N
        exact go _ _ _ _ _ _ _ _ _ _ _ _ _ _ _ F nm N (fresh pp lp) hdF hdB hdO y (hprs ▸ fun _ h => .tail _ h)
      · have kf : ([0, 3].any fun x => x == kind) = false := by
          simp only [List.any_cons, List.any_nil, Bool.or_false, Bool.or_eq_false_iff, beq_eq_false_iff_ne, ne_eq]
          omega
        by_cases k1 : kind = 1
        · have w1 : without (without kB key ++ [(key, Value.ref p0)]) key = without kB key := by
            rw [without_app, without_id (a := without kB key) (fun h => (mem_keys_without h).2 rfl)]
            simp [without]
          have l1 : (without kB key ++ [(key, Value.ref p0)]).length ≤ 10 := by rw [List.length_append, List.length_singleton]; omega
          have t1 : Tups prs (without kB key ++ [(key, Value.ref p0)]) := tB.without.app fun k' v' hm => by
            cases List.mem_singleton.mp hm
            exact ⟨p0, tq, vq, rfl, hp0⟩
          have i1 : (valueAt (without kB key ++ [(key, Value.ref p0)]) key).isSome = true := mem_isSome.mpr (by rw [List.map_append]; exact List.mem_append_right _ (.head _))
          refine wpAny_execs_cons (seg2K1B O hp X T B CB F nm np nk ny nf nb N hdF hdB hdO (by omega) (by omega) (by omega) (by omega) (by omega) tF tB tO kf (by simp [k1]) (by simp [k1]) eF eB eO hp0 l1 t1 i1 (by rw [w1]; omega) (by rw [w1]; exact tB.without) (by rw [fellD_L, List.append_nil]; omega) fun h' tk m' odF' odB' odO' nF' nW' F nm N hdF hdB hdO => ?_)
          have y := x.touch O.s1a O.s2a hk (prs' := prs) (fun q h => h) (v := .ref p0) ⟨p0, tq, vq, rfl, hp0⟩
          have a3 : setD (S.s1 + S.s2) kO key (.ref p0) = without kO key ++ [(key, .ref p0)] := by unfold setD; rw [eO]; rfl
          have a4 : fellO (S.s1 + S.s2) kO key (.ref p0) = some (key, .ref p0) := by unfold fellO; rw [eO]
          rw [a3, a4, fellL_key, List.append_nil] at y
          rw [w1] at hdB
          rw [w1, fellD_L, List.append_nil] at N
          exact go _ _ _ _ _ _ _ _ _ _ _ _ _ _ _ F nm N hp hdF hdB hdO y (hprs ▸ fun _ h => h)
        · refine wpAny_execs_cons (seg2K2B O hp X T B CB F nm np nk ny nf nb N hdF hdB hdO (by omega) (by omega) (by omega) (by omega) (by omega) tF tB tO kf (by simp [k1]) (by simp [k1]) (by rw [eF]; rfl) (by rw [eB]; rfl) (by rw [eO]; rfl) (by rw [backK_D]; omega) (by rw [backK_D]; exact tB) (by rw [backK_D, eB]; rfl) (by rw [backL_D, List.append_nil]; omega) fun h' tk m' odF' odB' odO' nF' nW' F nm N hdF hdB hdO => ?_)
          rw [backK_D] at hdB
          rw [backK_D, backL_D, fellD_L, fellD_L, List.append_nil, List.append_nil] at N
          exact go _ _ _ _ _ _ _ _ _ _ _ _ _ _ _ F nm N hp hdF hdB hdO up1 (hprs ▸ fun _ h => h)
    | none =>
      have hB : key ∉ kB.map (·.1) := valueAt_none.mp eB
      have idB : without kB key = kB := without_id hB
      have eO : valueAt kO key = none := by rw [x.one, valueAt_app, eB, eF]; rfl
      rw [eB] at nb
      by_cases k0 : kind = 0 ∨ kind = 3
      · have kf : ([0, 3].any fun x => x == kind) = true := by rcases k0 with e | e <;> simp [e]
        refine wpAny_execs_cons (seg2K0N (bF := false) O hp X T B CB F nm np nk ny nf nb N hdF hdB hdO (by omega) (by omega) (by omega) (by omega) (by omega) tF tB tO kf fun h' tk m' odF' odB' odO' nF' nW' pp F nm N hdF hdB hdO lp => ?_)
        have y := x.touch O.s1a O.s2a hk (prs' := (pp, tup2 key tk8 (.int place tp)) :: prs) (fun q h => .tail _ h) (v := .ref pp) ⟨pp, tk8, .int place tp, rfl, .head _⟩
        rw [idB] at y
        exact go _ _ _ _ _ _ _ _ _ _ _ _ _ _ _ F nm N (fresh pp lp) hdF hdB hdO y (hprs ▸ fun _ h => .tail _ h)
      · have kf : ([0, 3].any fun x => x == kind) = false := by
          simp only [List.any_cons, List.any_nil, Bool.or_false, Bool.or_eq_false_iff, beq_eq_false_iff_ne, ne_eq]
          omega
        by_cases k1 : kind = 1
        · refine wpAny_execs_cons (seg2K1N O hp X T B CB F nm np nk ny nf nb N hdF hdB hdO (by omega) (by omega) (by omega) (by omega) (by omega) tF tB tO kf (by simp [k1]) (by simp [k1]) eF eB eO fun h' tk m' odF' odB' odO' nF' nW' F nm N hdF hdB hdO => ?_)
          exact go _ _ _ _ _ _ _ _ _ _ _ _ _ _ _ F nm N hp hdF hdB hdO { x with len := Nat.le_succ_of_le hlen } (hprs ▸ fun _ h => h)
        · refine wpAny_execs_cons (seg2K2N O hp X T B CB F nm np nk ny nf nb N hdF hdB hdO (by omega) (by omega) (by omega) (by omega) (by omega) tF tB tO kf (by simp [k1]) (by simp [k1]) (by rw [eF]; rfl) (by rw [eB]; rfl) (by rw [eO]; rfl) (by rw [backK_D]; omega) (by rw [backK_D]; exact tB) (by rw [backK_D, eB]; rfl) (by rw [backL_D, List.append_nil]; omega) fun h' tk m' odF' odB' odO' nF' nW' F nm N hdF hdB hdO => ?_)
          rw [backK_D] at hdB
          rw [backK_D, backL_D, fellD_L, fellD_L, List.append_nil, List.append_nil] at N
          exact go _ _ _ _ _ _ _ _ _ _ _ _ _ _ _ F nm N hp hdF hdB hdO up1 (hprs ▸ fun _ h => h)
end
end Mine
end
section
open PySem PySem.W PyProof.Rows PySem.Calls PyProof.V PySem.Spec
set_option maxRecDepth 100000
namespace Mine
local macro_rules | `(tactic| k_room) => `(tactic| first | ((try simp only [depth_under_make, depth_under_kw, depth_in1, depth_deeper, depth_caller, depth_mark, recursionLimit]); first | decide | omega))
local macro_rules | `(tactic| k_mem) => `(tactic| first | assumption | exact Led.m_L1 | exact Led.m_L2 | exact Led.m_L3 | exact Led.m_L4 | exact Led.m_lN | exact Led.m_lS | exact Led.m_lT | exact Led.m_lF | exact Led.m_lW | exact Led.m_fB | exact Led.m_cB | exact Led.m_xB | exact Led.m_dxB | exact Led.m_dB | exact Led.m_fM | exact Led.m_cM | exact Led.m_xF | exact Led.m_dxF | exact Led.m_dF | exact Led.m_fO | exact Led.m_cO | exact Led.m_xO | exact Led.m_dxO | exact Led.m_dO | exact Led.m_prs (by assumption) | exact List.Mem.head _ | (refine' List.Mem.tail _ ?_; k_mem))
local macro_rules | `(tactic| k_ne) => `(tactic| first | assumption | exact Nat.ne_of_lt (by assumption) | exact Nat.ne_of_gt (by assumption) | (refine neN ?_; (try dsimp only); omega))
local macro_rules | `(tactic| lcg_off) => `(tactic| first | exact List.forall_mem_nil _ | (refine List.forall_mem_cons.mpr ⟨?ua, ?ub⟩; (case ua => first | assumption | exact Led.lt0 (by assumption) | exact Led.lt1 (by assumption) | exact Led.lt2 (by assumption) | exact Led.lt3 (by assumption) | exact Led.lt4 (by assumption) | exact Led.lt5 (by assumption) | exact Led.lt6 (by assumption)); (case ub => lcg_off)))
local macro_rules | `(tactic| lcg_sub) => `(tactic| first | exact (fun _ h => h) | exact (fun _ h => .tail _ (h)) | exact (fun _ h => .tail _ (.tail _ (h))) | exact (fun _ h => .tail _ (.tail _ (.tail _ (h)))) | exact (fun _ h => .tail _ (.tail _ (.tail _ (.tail _ (h))))) | exact (fun _ h => .tail _ (.tail _ (.tail _ (.tail _ (.tail _ (h)))))) | exact (fun _ h => .tail _ (.tail _ (.tail _ (.tail _ (.tail _ (.tail _ (h))))))) | exact (fun _ h => .tail _ (.tail _ (.tail _ (.tail _ (.tail _ (.tail _ (.tail _ (h)))))))) | exact (fun _ h => .tail _ (.tail _ (.tail _ (.tail _ (.tail _ (.tail _ (.tail _ (.tail _ (h))))))))))
local macro_rules | `(tactic| walk_at "call ref") => `(tactic| (k_here; (with_reducible show wpAny _ _ (call (Value.ref 99) [Value.ref _, Value.int _ _]) _ _ _); k_dflt (first | (refine' gotF_miss (tmps := []) ?O ?hp ?X ?T ?B ?CB ?hA ?hf ?hke ?hh ?hdep ?hun ?F ?N ?hup ?hd ?hlen ?hv ?_; (case O => assumption); (case hp => assumption); (case X => k_asm); (case T => k_asm); (case B => assumption); (case CB => assumption); (case hA => exact rfl); (case hf => exact rfl); (case hke => exact rfl); (case hh => exact rfl); (case hdep => exact Nat.le_of_ble_eq_true rfl); (case hun => exact Nat.le_of_ble_eq_true rfl); (case F => k_asm); (case N => assumption); (case hup => lcg_off); (case hd => assumption); (case hlen => assumption); (case hv => assumption); k_whole) | (refine' gotF_miss (tmps := [_]) ?O ?hp ?X ?T ?B ?CB ?hA ?hf ?hke ?hh ?hdep ?hun ?F ?N ?hup ?hd ?hlen ?hv ?_; (case O => assumption); (case hp => assumption); (case X => k_asm); (case T => k_asm); (case B => assumption); (case CB => assumption); (case hA => exact rfl); (case hf => exact rfl); (case hke => exact rfl); (case hh => exact rfl); (case hdep => exact Nat.le_of_ble_eq_true rfl); (case hun => exact Nat.le_of_ble_eq_true rfl); (case F => k_asm); (case N => assumption); (case hup => lcg_off); (case hd => assumption); (case hlen => assumption); (case hv => assumption); k_whole) | (refine' gotF_miss (tmps := [_, _]) ?O ?hp ?X ?T ?B ?CB ?hA ?hf ?hke ?hh ?hdep ?hun ?F ?N ?hup ?hd ?hlen ?hv ?_; (case O => assumption); (case hp => assumption); (case X => k_asm); (case T => k_asm); (case B => assumption); (case CB => assumption); (case hA => exact rfl); (case hf => exact rfl); (case hke => exact rfl); (case hh => exact rfl); (case hdep => exact Nat.le_of_ble_eq_true rfl); (case hun => exact Nat.le_of_ble_eq_true rfl); (case F => k_asm); (case N => assumption); (case hup => lcg_off); (case hd => assumption); (case hlen => assumption); (case hv => assumption); k_whole) | (refine' gotF_miss (tmps := [_, _, _]) ?O ?hp ?X ?T ?B ?CB ?hA ?hf ?hke ?hh ?hdep ?hun ?F ?N ?hup ?hd ?hlen ?hv ?_; (case O => assumption); (case hp => assumption); (case X => k_asm); (case T => k_asm); (case B => assumption); (case CB => assumption); (case hA => exact rfl); (case hf => exact rfl); (case hke => exact rfl); (case hh => exact rfl); (case hdep => exact Nat.le_of_ble_eq_true rfl); (case hun => exact Nat.le_of_ble_eq_true rfl); (case F => k_asm); (case N => assumption); (case hup => lcg_off); (case hd => assumption); (case hlen => assumption); (case hv => assumption); k_whole) | (refine' gotF_miss (tmps := [_, _, _, _]) ?O ?hp ?X ?T ?B ?CB ?hA ?hf ?hke ?hh ?hdep ?hun ?F ?N ?hup ?hd ?hlen ?hv ?_; (case O => assumption); (case hp => assumption); (case X => k_asm); (case T => k_asm); (case B => assumption); (case CB => assumption); (case hA => exact rfl); (case hf => exact rfl); (case hke => exact rfl); (case hh => exact rfl); (case hdep => exact Nat.le_of_ble_eq_true rfl); (case hun => exact Nat.le_of_ble_eq_true rfl); (case F => k_asm); (case N => assumption); (case hup => lcg_off); (case hd => assumption); (case hlen => assumption); (case hv => assumption); k_whole) | (refine' gotB_miss (tmps := []) ?O ?hp ?X ?T ?B ?CB ?hA ?hf ?hke ?hh ?hdep ?hun ?F ?N ?hup ?hd ?hlen ?hv ?_; (case O => assumption); (case hp => assumption); (case X => k_asm); (case T => k_asm); (case B => assumption); (case CB => assumption); (case hA => exact rfl); (case hf => exact rfl); (case hke => exact rfl); (case hh => exact rfl); (case hdep => exact Nat.le_of_ble_eq_true rfl); (case hun => exact Nat.le_of_ble_eq_true rfl); (case F => k_asm); (case N => assumption); (case hup => lcg_off); (case hd => assumption); (case hlen => assumption); (case hv => assumption); k_whole) | (refine' gotB_miss (tmps := [_]) ?O ?hp ?X ?T ?B ?CB ?hA ?hf ?hke ?hh ?hdep ?hun ?F ?N ?hup ?hd ?hlen ?hv ?_; (case O => assumption); (case hp => assumption); (case X => k_asm); (case T => k_asm); (case B => assumption); (case CB => assumption); (case hA => exact rfl); (case hf => exact rfl); (case hke => exact rfl); (case hh => exact rfl); (case hdep => exact Nat.le_of_ble_eq_true rfl); (case hun => exact Nat.le_of_ble_eq_true rfl); (case F => k_asm); (case N => assumption); (case hup => lcg_off); (case hd => assumption); (case hlen => assumption); (case hv => assumption); k_whole) | (refine' gotB_miss (tmps := [_, _]) ?O ?hp ?X ?T ?B ?CB ?hA ?hf ?hke ?hh ?hdep ?hun ?F ?N ?hup ?hd ?hlen ?hv ?_; (case O => assumption); (case hp => assumption); (case X => k_asm); (case T => k_asm); (case B => assumption); (case CB => assumption); (case hA => exact rfl); (case hf => exact rfl); (case hke => exact rfl); (case hh => exact rfl); (case hdep => exact Nat.le_of_ble_eq_true rfl); (case hun => exact Nat.le_of_ble_eq_true rfl); (case F => k_asm); (case N => assumption); (case hup => lcg_off); (case hd => assumption); (case hlen => assumption); (case hv => assumption); k_whole) | (refine' gotB_miss (tmps := [_, _, _]) ?O ?hp ?X ?T ?B ?CB ?hA ?hf ?hke ?hh ?hdep ?hun ?F ?N ?hup ?hd ?hlen ?hv ?_; (case O => assumption); (case hp => assumption); (case X => k_asm); (case T => k_asm); (case B => assumption); (case CB => assumption); (case hA => exact rfl); (case hf => exact rfl); (case hke => exact rfl); (case hh => exact rfl); (case hdep => exact Nat.le_of_ble_eq_true rfl); (case hun => exact Nat.le_of_ble_eq_true rfl); (case F => k_asm); (case N => assumption); (case hup => lcg_off); (case hd => assumption); (case hlen => assumption); (case hv => assumption); k_whole) | (refine' gotB_miss (tmps := [_, _, _, _]) ?O ?hp ?X ?T ?B ?CB ?hA ?hf ?hke ?hh ?hdep ?hun ?F ?N ?hup ?hd ?hlen ?hv ?_; (case O => assumption); (case hp => assumption); (case X => k_asm); (case T => k_asm); (case B => assumption); (case CB => assumption); (case hA => exact rfl); (case hf => exact rfl); (case hke => exact rfl); (case hh => exact rfl); (case hdep => exact Nat.le_of_ble_eq_true rfl); (case hun => exact Nat.le_of_ble_eq_true rfl); (case F => k_asm); (case N => assumption); (case hup => lcg_off); (case hd => assumption); (case hlen => assumption); (case hv => assumption); k_whole) | (refine' gotO_miss (tmps := []) ?O ?hp ?X ?T ?B ?CB ?hA ?hf ?hke ?hh ?hdep ?hun ?F ?N ?hup ?hd ?hlen ?hv ?_; (case O => assumption); (case hp => assumption); (case X => k_asm); (case T => k_asm); (case B => assumption); (case CB => assumption); (case hA => exact rfl); (case hf => exact rfl); (case hke => exact rfl); (case hh => exact rfl); (case hdep => exact Nat.le_of_ble_eq_true rfl); (case hun => exact Nat.le_of_ble_eq_true rfl); (case F => k_asm); (case N => assumption); (case hup => lcg_off); (case hd => assumption); (case hlen => assumption); (case hv => assumption); k_whole) | (refine' gotO_miss (tmps := [_]) ?O ?hp ?X ?T ?B ?CB ?hA ?hf ?hke ?hh ?hdep ?hun ?F ?N ?hup ?hd ?hlen ?hv ?_; (case O => assumption); (case hp => assumption); (case X => k_asm); (case T => k_asm); (case B => assumption); (case CB => assumption); (case hA => exact rfl); (case hf => exact rfl); (case hke => exact rfl); (case hh => exact rfl); (case hdep => exact Nat.le_of_ble_eq_true rfl); (case hun => exact Nat.le_of_ble_eq_true rfl); (case F => k_asm); (case N => assumption); (case hup => lcg_off); (case hd => assumption); (case hlen => assumption); (case hv => assumption); k_whole) | (refine' gotO_miss (tmps := [_, _]) ?O ?hp ?X ?T ?B ?CB ?hA ?hf ?hke ?hh ?hdep ?hun ?F ?N ?hup ?hd ?hlen ?hv ?_; (case O => assumption); (case hp => assumption); (case X => k_asm); (case T => k_asm); (case B => assumption); (case CB => assumption); (case hA => exact rfl); (case hf => exact rfl); (case hke => exact rfl); (case hh => exact rfl); (case hdep => exact Nat.le_of_ble_eq_true rfl); (case hun => exact Nat.le_of_ble_eq_true rfl); (case F => k_asm); (case N => assumption); (case hup => lcg_off); (case hd => assumption); (case hlen => assumption); (case hv => assumption); k_whole) | (refine' gotO_miss (tmps := [_, _, _]) ?O ?hp ?X ?T ?B ?CB ?hA ?hf ?hke ?hh ?hdep ?hun ?F ?N ?hup ?hd ?hlen ?hv ?_; (case O => assumption); (case hp => assumption); (case X => k_asm); (case T => k_asm); (case B => assumption); (case CB => assumption); (case hA => exact rfl); (case hf => exact rfl); (case hke => exact rfl); (case hh => exact rfl); (case hdep => exact Nat.le_of_ble_eq_true rfl); (case hun => exact Nat.le_of_ble_eq_true rfl); (case F => k_asm); (case N => assumption); (case hup => lcg_off); (case hd => assumption); (case hlen => assumption); (case hv => assumption); k_whole) | (refine' gotO_miss (tmps := [_, _, _, _]) ?O ?hp ?X ?T ?B ?CB ?hA ?hf ?hke ?hh ?hdep ?hun ?F ?N ?hup ?hd ?hlen ?hv ?_; (case O => assumption); (case hp => assumption); (case X => k_asm); (case T => k_asm); (case B => assumption); (case CB => assumption); (case hA => exact rfl); (case hf => exact rfl); (case hke => exact rfl); (case hh => exact rfl); (case hdep => exact Nat.le_of_ble_eq_true rfl); (case hun => exact Nat.le_of_ble_eq_true rfl); (case F => k_asm); (case N => assumption); (case hup => lcg_off); (case hd => assumption); (case hlen => assumption); (case hv => assumption); k_whole)); intro l' h' tk' F' N' l1 l2; (try dsimp only [List.cons_append, List.nil_append] at N'); (try (replace l2 := allLt_of l2; simp only [AllLt, and_true] at l2))))
local macro_rules | `(tactic| walk_at "call ref") => `(tactic| (k_here; (with_reducible show wpAny _ _ (call (Value.ref 99) [Value.ref _, Value.int _ _]) _ _ _); k_dflt (first | (refine' gotF_hit (tmps := []) ?O ?hp ?X ?T ?B ?CB ?hA ?hf ?hke ?hh ?hdep ?hun ?F ?N ?hup ?hd ?hlen ?hv ?_; (case O => assumption); (case hp => assumption); (case X => k_asm); (case T => k_asm); (case B => assumption); (case CB => assumption); (case hA => exact rfl); (case hf => exact rfl); (case hke => exact rfl); (case hh => exact rfl); (case hdep => exact Nat.le_of_ble_eq_true rfl); (case hun => exact Nat.le_of_ble_eq_true rfl); (case F => k_asm); (case N => assumption); (case hup => lcg_off); (case hd => assumption); (case hlen => assumption); (case hv => assumption); k_whole) | (refine' gotF_hit (tmps := [_]) ?O ?hp ?X ?T ?B ?CB ?hA ?hf ?hke ?hh ?hdep ?hun ?F ?N ?hup ?hd ?hlen ?hv ?_; (case O => assumption); (case hp => assumption); (case X => k_asm); (case T => k_asm); (case B => assumption); (case CB => assumption); (case hA => exact rfl); (case hf => exact rfl); (case hke => exact rfl); (case hh => exact rfl); (case hdep => exact Nat.le_of_ble_eq_true rfl); (case hun => exact Nat.le_of_ble_eq_true rfl); (case F => k_asm); (case N => assumption); (case hup => lcg_off); (case hd => assumption); (case hlen => assumption); (case hv => assumption); k_whole) | (refine' gotF_hit (tmps := [_, _]) ?O ?hp ?X ?T ?B ?CB ?hA ?hf ?hke ?hh ?hdep ?hun ?F ?N ?hup ?hd ?hlen ?hv ?_; (case O => assumption); (case hp => assumption); (case X => k_asm); (case T => k_asm); (case B => assumption); (case CB => assumption); (case hA => exact rfl); (case hf => exact rfl); (case hke => exact rfl); (case hh => exact rfl); (case hdep => exact Nat.le_of_ble_eq_true rfl); (case hun => exact Nat.le_of_ble_eq_true rfl); (case F => k_asm); (case N => assumption); (case hup => lcg_off); (case hd => assumption); (case hlen => assumption); (case hv => assumption); k_whole) | (refine' gotF_hit (tmps := [_, _, _]) ?O ?hp ?X ?T ?B ?CB ?hA ?hf ?hke ?hh ?hdep ?hun ?F ?N ?hup ?hd ?hlen ?hv ?_; (case O => assumption); (case hp => assumption); (case X => k_asm); (case T => k_asm); (case B => assumption); (case CB => assumption); (case hA => exact rfl); (case hf => exact rfl); (case hke => exact rfl); (case hh => exact rfl); (case hdep => exact Nat.le_of_ble_eq_true rfl); (case hun => exact Nat.le_of_ble_eq_true rfl); (case F => k_asm); (case N => assumption); (case hup => lcg_off); (case hd => assumption); (case hlen => assumption); (case hv => assumption); k_whole) | (refine' gotF_hit (tmps := [_, _, _, _]) ?O ?hp ?X ?T ?B ?CB ?hA ?hf ?hke ?hh ?hdep ?hun ?F ?N ?hup ?hd ?hlen ?hv ?_; (case O => assumption); (case hp => assumption); (case X => k_asm); (case T => k_asm); (case B => assumption); (case CB => assumption); (case hA => exact rfl); (case hf => exact rfl); (case hke => exact rfl); (case hh => exact rfl); (case hdep => exact Nat.le_of_ble_eq_true rfl); (case hun => exact Nat.le_of_ble_eq_true rfl); (case F => k_asm); (case N => assumption); (case hup => lcg_off); (case hd => assumption); (case hlen => assumption); (case hv => assumption); k_whole) | (refine' gotB_hit (tmps := []) ?O ?hp ?X ?T ?B ?CB ?hA ?hf ?hke ?hh ?hdep ?hun ?F ?N ?hup ?hd ?hlen ?hv ?_; (case O => assumption); (case hp => assumption); (case X => k_asm); (case T => k_asm); (case B => assumption); (case CB => assumption); (case hA => exact rfl); (case hf => exact rfl); (case hke => exact rfl); (case hh => exact rfl); (case hdep => exact Nat.le_of_ble_eq_true rfl); (case hun => exact Nat.le_of_ble_eq_true rfl); (case F => k_asm); (case N => assumption); (case hup => lcg_off); (case hd => assumption); (case hlen => assumption); (case hv => assumption); k_whole) | (refine' gotB_hit (tmps := [_]) ?O ?hp ?X ?T ?B ?CB ?hA ?hf ?hke ?hh ?hdep ?hun ?F ?N ?hup ?hd ?hlen ?hv ?_; (case O => assumption); (case hp => assumption); (case X => k_asm); (case T => k_asm); (case B => assumption); (case CB => assumption); (case hA => exact rfl); (case hf => exact rfl); (case hke => exact rfl); (case hh => exact rfl); (case hdep => exact Nat.le_of_ble_eq_true rfl); (case hun => exact Nat.le_of_ble_eq_true rfl); (case F => k_asm); (case N => assumption); (case hup => lcg_off); (case hd => assumption); (case hlen => assumption); (case hv => assumption); k_whole) | (refine' gotB_hit (tmps := [_, _]) ?O ?hp ?X ?T ?B ?CB ?hA ?hf ?hke ?hh ?hdep ?hun ?F ?N ?hup ?hd ?hlen ?hv ?_; (case O => assumption); (case hp => assumption); (case X => k_asm); (case T => k_asm); (case B => assumption); (case CB => assumption); (case hA => exact rfl); (case hf => exact rfl); (case hke => exact rfl); (case hh => exact rfl); (case hdep => exact Nat.le_of_ble_eq_true rfl); (case hun => exact Nat.le_of_ble_eq_true rfl); (case F => k_asm); (case N => assumption); (case hup => lcg_off); (case hd => assumption); (case hlen => assumption); (case hv => assumption); k_whole) | (refine' gotB_hit (tmps := [_, _, _]) ?O ?hp ?X ?T ?B ?CB ?hA ?hf ?hke ?hh ?hdep ?hun ?F ?N ?hup ?hd ?hlen ?hv ?_; (case O => assumption); (case hp => assumption); (case X => k_asm); (case T => k_asm); (case B => assumption); (case CB => assumption); (case hA => exact rfl); (case hf => exact rfl); (case hke => exact rfl); (case hh => exact rfl); (case hdep => exact Nat.le_of_ble_eq_true rfl); (case hun => exact Nat.le_of_ble_eq_true rfl); (case F => k_asm); (case N => assumption); (case hup => lcg_off); (case hd => assumption); (case hlen => assumption); (case hv => assumption); k_whole) | (refine' gotB_hit (tmps := [_, _, _, _]) ?O ?hp ?X ?T ?B ?CB ?hA ?hf ?hke ?hh ?hdep ?hun ?F ?N ?hup ?hd ?hlen ?hv ?_; (case O => assumption); (case hp => assumption); (case X => k_asm); (case T => k_asm); (case B => assumption); (case CB => assumption); (case hA => exact rfl); (case hf => exact rfl); (case hke => exact rfl); (case hh => exact rfl); (case hdep => exact Nat.le_of_ble_eq_true rfl); (case hun => exact Nat.le_of_ble_eq_true rfl); (case F => k_asm); (case N => assumption); (case hup => lcg_off); (case hd => assumption); (case hlen => assumption); (case hv => assumption); k_whole) | (refine' gotO_hit (tmps := []) ?O ?hp ?X ?T ?B ?CB ?hA ?hf ?hke ?hh ?hdep ?hun ?F ?N ?hup ?hd ?hlen ?hv ?_; (case O => assumption); (case hp => assumption); (case X => k_asm); (case T => k_asm); (case B => assumption); (case CB => assumption); (case hA => exact rfl); (case hf => exact rfl); (case hke => exact rfl); (case hh => exact rfl); (case hdep => exact Nat.le_of_ble_eq_true rfl); (case hun => exact Nat.le_of_ble_eq_true rfl); (case F => k_asm); (case N => assumption); (case hup => lcg_off); (case hd => assumption); (case hlen => assumption); (case hv => assumption); k_whole) | (refine' gotO_hit (tmps := [_]) ?O ?hp ?X ?T ?B ?CB ?hA ?hf ?hke ?hh ?hdep ?hun ?F ?N ?hup ?hd ?hlen ?hv ?_; (case O => assumption); (case hp => assumption); (case X => k_asm); (case T => k_asm); (case B => assumption); (case CB => assumption); (case hA => exact rfl); (case hf => exact rfl); (case hke => exact rfl); (case hh => exact rfl); (case hdep => exact Nat.le_of_ble_eq_true rfl); (case hun => exact Nat.le_of_ble_eq_true rfl); (case F => k_asm); (case N => assumption); (case hup => lcg_off); (case hd => assumption); (case hlen => assumption); (case hv => assumption); k_whole) | (refine' gotO_hit (tmps := [_, _]) ?O ?hp ?X ?T ?B ?CB ?hA ?hf ?hke ?hh ?hdep ?hun ?F ?N ?hup ?hd ?hlen ?hv ?_; (case O => assumption); (case hp => assumption); (case X => k_asm); (case T => k_asm); (case B => assumption); (case CB => assumption); (case hA => exact rfl); (case hf => exact rfl); (case hke => exact rfl); (case hh => exact rfl); (case hdep => exact Nat.le_of_ble_eq_true rfl); (case hun => exact Nat.le_of_ble_eq_true rfl); (case F => k_asm); (case N => assumption); (case hup => lcg_off); (case hd => assumption); (case hlen => assumption); (case hv => assumption); k_whole) | (refine' gotO_hit (tmps := [_, _, _]) ?O ?hp ?X ?T ?B ?CB ?hA ?hf ?hke ?hh ?hdep ?hun ?F ?N ?hup ?hd ?hlen ?hv ?_; (case O => assumption); (case hp => assumption); (case X => k_asm); (case T => k_asm); (case B => assumption); (case CB => assumption); (case hA => exact rfl); (case hf => exact rfl); (case hke => exact rfl); (case hh => exact rfl); (case hdep => exact Nat.le_of_ble_eq_true rfl); (case hun => exact Nat.le_of_ble_eq_true rfl); (case F => k_asm); (case N => assumption); (case hup => lcg_off); (case hd => assumption); (case hlen => assumption); (case hv => assumption); k_whole) | (refine' gotO_hit (tmps := [_, _, _, _]) ?O ?hp ?X ?T ?B ?CB ?hA ?hf ?hke ?hh ?hdep ?hun ?F ?N ?hup ?hd ?hlen ?hv ?_; (case O => assumption); (case hp => assumption); (case X => k_asm); (case T => k_asm); (case B => assumption); (case CB => assumption); (case hA => exact rfl); (case hf => exact rfl); (case hke => exact rfl); (case hh => exact rfl); (case hdep => exact Nat.le_of_ble_eq_true rfl); (case hun => exact Nat.le_of_ble_eq_true rfl); (case F => k_asm); (case N => assumption); (case hup => lcg_off); (case hd => assumption); (case hlen => assumption); (case hv => assumption); k_whole)); intro l' h' tk' od' F' N' l1 l2 hd'; (try dsimp only [List.cons_append, List.nil_append] at N'); (try (replace l2 := allLt_of l2; simp only [AllLt, and_true] at l2))))
local macro_rules | `(tactic| walk_at "call ref") => `(tactic| (k_here; (with_reducible show wpAny _ _ (call (Value.ref 85) [Value.ref _]) _ _ _); k_dflt (first | (refine' keysO (tmps := []) ?O ?hp ?X ?T ?B ?CB ?hA ?hf ?hke ?hh ?hdep ?hun ?F ?N ?hup ?hd ?hlen ?_; (case O => assumption); (case hp => assumption); (case X => k_asm); (case T => k_asm); (case B => assumption); (case CB => assumption); (case hA => exact rfl); (case hf => exact rfl); (case hke => exact rfl); (case hh => exact rfl); (case hdep => exact Nat.le_of_ble_eq_true rfl); (case hun => exact Nat.le_of_ble_eq_true rfl); (case F => k_asm); (case N => assumption); (case hup => lcg_off); (case hd => assumption); (case hlen => assumption); k_whole) | (refine' keysO (tmps := [_]) ?O ?hp ?X ?T ?B ?CB ?hA ?hf ?hke ?hh ?hdep ?hun ?F ?N ?hup ?hd ?hlen ?_; (case O => assumption); (case hp => assumption); (case X => k_asm); (case T => k_asm); (case B => assumption); (case CB => assumption); (case hA => exact rfl); (case hf => exact rfl); (case hke => exact rfl); (case hh => exact rfl); (case hdep => exact Nat.le_of_ble_eq_true rfl); (case hun => exact Nat.le_of_ble_eq_true rfl); (case F => k_asm); (case N => assumption); (case hup => lcg_off); (case hd => assumption); (case hlen => assumption); k_whole) | (refine' keysO (tmps := [_, _]) ?O ?hp ?X ?T ?B ?CB ?hA ?hf ?hke ?hh ?hdep ?hun ?F ?N ?hup ?hd ?hlen ?_; (case O => assumption); (case hp => assumption); (case X => k_asm); (case T => k_asm); (case B => assumption); (case CB => assumption); (case hA => exact rfl); (case hf => exact rfl); (case hke => exact rfl); (case hh => exact rfl); (case hdep => exact Nat.le_of_ble_eq_true rfl); (case hun => exact Nat.le_of_ble_eq_true rfl); (case F => k_asm); (case N => assumption); (case hup => lcg_off); (case hd => assumption); (case hlen => assumption); k_whole) | (refine' keysO (tmps := [_, _, _]) ?O ?hp ?X ?T ?B ?CB ?hA ?hf ?hke ?hh ?hdep ?hun ?F ?N ?hup ?hd ?hlen ?_; (case O => assumption); (case hp => assumption); (case X => k_asm); (case T => k_asm); (case B => assumption); (case CB => assumption); (case hA => exact rfl); (case hf => exact rfl); (case hke => exact rfl); (case hh => exact rfl); (case hdep => exact Nat.le_of_ble_eq_true rfl); (case hun => exact Nat.le_of_ble_eq_true rfl); (case F => k_asm); (case N => assumption); (case hup => lcg_off); (case hd => assumption); (case hlen => assumption); k_whole) | (refine' keysO (tmps := [_, _, _, _]) ?O ?hp ?X ?T ?B ?CB ?hA ?hf ?hke ?hh ?hdep ?hun ?F ?N ?hup ?hd ?hlen ?_; (case O => assumption); (case hp => assumption); (case X => k_asm); (case T => k_asm); (case B => assumption); (case CB => assumption); (case hA => exact rfl); (case hf => exact rfl); (case hke => exact rfl); (case hh => exact rfl); (case hdep => exact Nat.le_of_ble_eq_true rfl); (case hun => exact Nat.le_of_ble_eq_true rfl); (case F => k_asm); (case N => assumption); (case hup => lcg_off); (case hd => assumption); (case hlen => assumption); k_whole) | (refine' keysO (tmps := [_, _, _, _, _]) ?O ?hp ?X ?T ?B ?CB ?hA ?hf ?hke ?hh ?hdep ?hun ?F ?N ?hup ?hd ?hlen ?_; (case O => assumption); (case hp => assumption); (case X => k_asm); (case T => k_asm); (case B => assumption); (case CB => assumption); (case hA => exact rfl); (case hf => exact rfl); (case hke => exact rfl); (case hh => exact rfl); (case hdep => exact Nat.le_of_ble_eq_true rfl); (case hun => exact Nat.le_of_ble_eq_true rfl); (case F => k_asm); (case N => assumption); (case hup => lcg_off); (case hd => assumption); (case hlen => assumption); k_whole) | (refine' keysO (tmps := [_, _, _, _, _, _]) ?O ?hp ?X ?T ?B ?CB ?hA ?hf ?hke ?hh ?hdep ?hun ?F ?N ?hup ?hd ?hlen ?_; (case O => assumption); (case hp => assumption); (case X => k_asm); (case T => k_asm); (case B => assumption); (case CB => assumption); (case hA => exact rfl); (case hf => exact rfl); (case hke => exact rfl); (case hh => exact rfl); (case hdep => exact Nat.le_of_ble_eq_true rfl); (case hun => exact Nat.le_of_ble_eq_true rfl); (case F => k_asm); (case N => assumption); (case hup => lcg_off); (case hd => assumption); (case hlen => assumption); k_whole) | (refine' keysO (tmps := [_, _, _, _, _, _, _]) ?O ?hp ?X ?T ?B ?CB ?hA ?hf ?hke ?hh ?hdep ?hun ?F ?N ?hup ?hd ?hlen ?_; (case O => assumption); (case hp => assumption); (case X => k_asm); (case T => k_asm); (case B => assumption); (case CB => assumption); (case hA => exact rfl); (case hf => exact rfl); (case hke => exact rfl); (case hh => exact rfl); (case hdep => exact Nat.le_of_ble_eq_true rfl); (case hun => exact Nat.le_of_ble_eq_true rfl); (case F => k_asm); (case N => assumption); (case hup => lcg_off); (case hd => assumption); (case hlen => assumption); k_whole)); intro l' so' h' tk' F' N' l1 l2 hs'; (try dsimp only [List.cons_append, List.nil_append] at N'); (try (replace l2 := allLt_of l2; simp only [AllLt, and_true] at l2))))
local macro_rules | `(tactic| walk_at "call ref") => `(tactic| (k_here; (with_reducible show wpAny _ _ (call (Value.ref 85) [Value.ref _]) _ _ _); k_dflt (first | (refine' keysSF (tmps := []) ?O ?hp ?X ?T ?B ?CB ?hA ?hf ?hke ?hh ?hdep ?hun ?F ?N ?hup ?hd ?hlen ?h7 ?_; (case O => assumption); (case hp => assumption); (case X => k_asm); (case T => k_asm); (case B => assumption); (case CB => assumption); (case hA => exact rfl); (case hf => exact rfl); (case hke => exact rfl); (case hh => exact rfl); (case hdep => exact Nat.le_of_ble_eq_true rfl); (case hun => exact Nat.le_of_ble_eq_true rfl); (case F => k_asm); (case N => assumption); (case hup => lcg_off); (case hd => assumption); (case hlen => assumption); (case h7 => assumption); k_whole) | (refine' keysSF (tmps := [_]) ?O ?hp ?X ?T ?B ?CB ?hA ?hf ?hke ?hh ?hdep ?hun ?F ?N ?hup ?hd ?hlen ?h7 ?_; (case O => assumption); (case hp => assumption); (case X => k_asm); (case T => k_asm); (case B => assumption); (case CB => assumption); (case hA => exact rfl); (case hf => exact rfl); (case hke => exact rfl); (case hh => exact rfl); (case hdep => exact Nat.le_of_ble_eq_true rfl); (case hun => exact Nat.le_of_ble_eq_true rfl); (case F => k_asm); (case N => assumption); (case hup => lcg_off); (case hd => assumption); (case hlen => assumption); (case h7 => assumption); k_whole) | (refine' keysSF (tmps := [_, _]) ?O ?hp ?X ?T ?B ?CB ?hA ?hf ?hke ?hh ?hdep ?hun ?F ?N ?hup ?hd ?hlen ?h7 ?_; (case O => assumption); (case hp => assumption); (case X => k_asm); (case T => k_asm); (case B => assumption); (case CB => assumption); (case hA => exact rfl); (case hf => exact rfl); (case hke => exact rfl); (case hh => exact rfl); (case hdep => exact Nat.le_of_ble_eq_true rfl); (case hun => exact Nat.le_of_ble_eq_true rfl); (case F => k_asm); (case N => assumption); (case hup => lcg_off); (case hd => assumption); (case hlen => assumption); (case h7 => assumption); k_whole) | (refine' keysSF (tmps := [_, _, _]) ?O ?hp ?X ?T ?B ?CB ?hA ?hf ?hke ?hh ?hdep ?hun ?F ?N ?hup ?hd ?hlen ?h7 ?_; (case O => assumption); (case hp => assumption); (case X => k_asm); (case T => k_asm); (case B => assumption); (case CB => assumption); (case hA => exact rfl); (case hf => exact rfl); (case hke => exact rfl); (case hh => exact rfl); (case hdep => exact Nat.le_of_ble_eq_true rfl); (case hun => exact Nat.le_of_ble_eq_true rfl); (case F => k_asm); (case N => assumption); (case hup => lcg_off); (case hd => assumption); (case hlen => assumption); (case h7 => assumption); k_whole) | (refine' keysSF (tmps := [_, _, _, _]) ?O ?hp ?X ?T ?B ?CB ?hA ?hf ?hke ?hh ?hdep ?hun ?F ?N ?hup ?hd ?hlen ?h7 ?_; (case O => assumption); (case hp => assumption); (case X => k_asm); (case T => k_asm); (case B => assumption); (case CB => assumption); (case hA => exact rfl); (case hf => exact rfl); (case hke => exact rfl); (case hh => exact rfl); (case hdep => exact Nat.le_of_ble_eq_true rfl); (case hun => exact Nat.le_of_ble_eq_true rfl); (case F => k_asm); (case N => assumption); (case hup => lcg_off); (case hd => assumption); (case hlen => assumption); (case h7 => assumption); k_whole) | (refine' keysSF (tmps := [_, _, _, _, _]) ?O ?hp ?X ?T ?B ?CB ?hA ?hf ?hke ?hh ?hdep ?hun ?F ?N ?hup ?hd ?hlen ?h7 ?_; (case O => assumption); (case hp => assumption); (case X => k_asm); (case T => k_asm); (case B => assumption); (case CB => assumption); (case hA => exact rfl); (case hf => exact rfl); (case hke => exact rfl); (case hh => exact rfl); (case hdep => exact Nat.le_of_ble_eq_true rfl); (case hun => exact Nat.le_of_ble_eq_true rfl); (case F => k_asm); (case N => assumption); (case hup => lcg_off); (case hd => assumption); (case hlen => assumption); (case h7 => assumption); k_whole) | (refine' keysSF (tmps := [_, _, _, _, _, _]) ?O ?hp ?X ?T ?B ?CB ?hA ?hf ?hke ?hh ?hdep ?hun ?F ?N ?hup ?hd ?hlen ?h7 ?_; (case O => assumption); (case hp => assumption); (case X => k_asm); (case T => k_asm); (case B => assumption); (case CB => assumption); (case hA => exact rfl); (case hf => exact rfl); (case hke => exact rfl); (case hh => exact rfl); (case hdep => exact Nat.le_of_ble_eq_true rfl); (case hun => exact Nat.le_of_ble_eq_true rfl); (case F => k_asm); (case N => assumption); (case hup => lcg_off); (case hd => assumption); (case hlen => assumption); (case h7 => assumption); k_whole) | (refine' keysSF (tmps := [_, _, _, _, _, _, _]) ?O ?hp ?X ?T ?B ?CB ?hA ?hf ?hke ?hh ?hdep ?hun ?F ?N ?hup ?hd ?hlen ?h7 ?_; (case O => assumption); (case hp => assumption); (case X => k_asm); (case T => k_asm); (case B => assumption); (case CB => assumption); (case hA => exact rfl); (case hf => exact rfl); (case hke => exact rfl); (case hh => exact rfl); (case hdep => exact Nat.le_of_ble_eq_true rfl); (case hun => exact Nat.le_of_ble_eq_true rfl); (case F => k_asm); (case N => assumption); (case hup => lcg_off); (case hd => assumption); (case hlen => assumption); (case h7 => assumption); k_whole) | (refine' keysSB (tmps := []) ?O ?hp ?X ?T ?B ?CB ?hA ?hf ?hke ?hh ?hdep ?hun ?F ?N ?hup ?hd ?hlen ?h7 ?_; (case O => assumption); (case hp => assumption); (case X => k_asm); (case T => k_asm); (case B => assumption); (case CB => assumption); (case hA => exact rfl); (case hf => exact rfl); (case hke => exact rfl); (case hh => exact rfl); (case hdep => exact Nat.le_of_ble_eq_true rfl); (case hun => exact Nat.le_of_ble_eq_true rfl); (case F => k_asm); (case N => assumption); (case hup => lcg_off); (case hd => assumption); (case hlen => assumption); (case h7 => assumption); k_whole) | (refine' keysSB (tmps := [_]) ?O ?hp ?X ?T ?B ?CB ?hA ?hf ?hke ?hh ?hdep ?hun ?F ?N ?hup ?hd ?hlen ?h7 ?_; (case O => assumption); (case hp => assumption); (case X => k_asm); (case T => k_asm); (case B => assumption); (case CB => assumption); (case hA => exact rfl); (case hf => exact rfl); (case hke => exact rfl); (case hh => exact rfl); (case hdep => exact Nat.le_of_ble_eq_true rfl); (case hun => exact Nat.le_of_ble_eq_true rfl); (case F => k_asm); (case N => assumption); (case hup => lcg_off); (case hd => assumption); (case hlen => assumption); (case h7 => assumption); k_whole) | (refine' keysSB (tmps := [_, _]) ?O ?hp ?X ?T ?B ?CB ?hA ?hf ?hke ?hh ?hdep ?hun ?F ?N ?hup ?hd ?hlen ?h7 ?_; (case O => assumption); (case hp => assumption); (case X => k_asm); (case T => k_asm); (case B => assumption); (case CB => assumption); (case hA => exact rfl); (case hf => exact rfl); (case hke => exact rfl); (case hh => exact rfl); (case hdep => exact Nat.le_of_ble_eq_true rfl); (case hun => exact Nat.le_of_ble_eq_true rfl); (case F => k_asm); (case N => assumption); (case hup => lcg_off); (case hd => assumption); (case hlen => assumption); (case h7 => assumption); k_whole) | (refine' keysSB (tmps := [_, _, _]) ?O ?hp ?X ?T ?B ?CB ?hA ?hf ?hke ?hh ?hdep ?hun ?F ?N ?hup ?hd ?hlen ?h7 ?_; (case O => assumption); (case hp => assumption); (case X => k_asm); (case T => k_asm); (case B => assumption); (case CB => assumption); (case hA => exact rfl); (case hf => exact rfl); (case hke => exact rfl); (case hh => exact rfl); (case hdep => exact Nat.le_of_ble_eq_true rfl); (case hun => exact Nat.le_of_ble_eq_true rfl); (case F => k_asm); (case N => assumption); (case hup => lcg_off); (case hd => assumption); (case hlen => assumption); (case h7 => assumption); k_whole) | (refine' keysSB (tmps := [_, _, _, _]) ?O ?hp ?X ?T ?B ?CB ?hA ?hf ?hke ?hh ?hdep ?hun ?F ?N ?hup ?hd ?hlen ?h7 ?_; (case O => assumption); (case hp => assumption); (case X => k_asm); (case T => k_asm); (case B => assumption); (case CB => assumption); (case hA => exact rfl); (case hf => exact rfl); (case hke => exact rfl); (case hh => exact rfl); (case hdep => exact Nat.le_of_ble_eq_true rfl); (case hun => exact Nat.le_of_ble_eq_true rfl); (case F => k_asm); (case N => assumption); (case hup => lcg_off); (case hd => assumption); (case hlen => assumption); (case h7 => assumption); k_whole) | (refine' keysSB (tmps := [_, _, _, _, _]) ?O ?hp ?X ?T ?B ?CB ?hA ?hf ?hke ?hh ?hdep ?hun ?F ?N ?hup ?hd ?hlen ?h7 ?_; (case O => assumption); (case hp => assumption); (case X => k_asm); (case T => k_asm); (case B => assumption); (case CB => assumption); (case hA => exact rfl); (case hf => exact rfl); (case hke => exact rfl); (case hh => exact rfl); (case hdep => exact Nat.le_of_ble_eq_true rfl); (case hun => exact Nat.le_of_ble_eq_true rfl); (case F => k_asm); (case N => assumption); (case hup => lcg_off); (case hd => assumption); (case hlen => assumption); (case h7 => assumption); k_whole) | (refine' keysSB (tmps := [_, _, _, _, _, _]) ?O ?hp ?X ?T ?B ?CB ?hA ?hf ?hke ?hh ?hdep ?hun ?F ?N ?hup ?hd ?hlen ?h7 ?_; (case O => assumption); (case hp => assumption); (case X => k_asm); (case T => k_asm); (case B => assumption); (case CB => assumption); (case hA => exact rfl); (case hf => exact rfl); (case hke => exact rfl); (case hh => exact rfl); (case hdep => exact Nat.le_of_ble_eq_true rfl); (case hun => exact Nat.le_of_ble_eq_true rfl); (case F => k_asm); (case N => assumption); (case hup => lcg_off); (case hd => assumption); (case hlen => assumption); (case h7 => assumption); k_whole) | (refine' keysSB (tmps := [_, _, _, _, _, _, _]) ?O ?hp ?X ?T ?B ?CB ?hA ?hf ?hke ?hh ?hdep ?hun ?F ?N ?hup ?hd ?hlen ?h7 ?_; (case O => assumption); (case hp => assumption); (case X => k_asm); (case T => k_asm); (case B => assumption); (case CB => assumption); (case hA => exact rfl); (case hf => exact rfl); (case hke => exact rfl); (case hh => exact rfl); (case hdep => exact Nat.le_of_ble_eq_true rfl); (case hun => exact Nat.le_of_ble_eq_true rfl); (case F => k_asm); (case N => assumption); (case hup => lcg_off); (case hd => assumption); (case hlen => assumption); (case h7 => assumption); k_whole)); intro l' so' h' tk' F' N' l1 l2 hs'; (try dsimp only [List.cons_append, List.nil_append] at N'); (try (replace l2 := allLt_of l2; simp only [AllLt, and_true] at l2))))
local macro_rules | `(tactic| walk_at "call builtin:len") => `(tactic| (k_here; (with_reducible show wpAny _ _ (call (Value.builtin "len") [Value.ref _]) _ _ _); k_dflt (first | (refine' lenF (tmps := []) ?O ?hp ?X ?T ?B ?CB ?hA ?hf ?hke ?hh ?hdep ?hun ?F ?N ?hup ?hd ?hlen ?_; (case O => assumption); (case hp => assumption); (case X => k_asm); (case T => k_asm); (case B => assumption); (case CB => assumption); (case hA => exact rfl); (case hf => exact rfl); (case hke => exact rfl); (case hh => exact rfl); (case hdep => exact Nat.le_of_ble_eq_true rfl); (case hun => exact Nat.le_of_ble_eq_true rfl); (case F => k_asm); (case N => assumption); (case hup => lcg_off); (case hd => assumption); (case hlen => assumption); k_whole) | (refine' lenF (tmps := [_]) ?O ?hp ?X ?T ?B ?CB ?hA ?hf ?hke ?hh ?hdep ?hun ?F ?N ?hup ?hd ?hlen ?_; (case O => assumption); (case hp => assumption); (case X => k_asm); (case T => k_asm); (case B => assumption); (case CB => assumption); (case hA => exact rfl); (case hf => exact rfl); (case hke => exact rfl); (case hh => exact rfl); (case hdep => exact Nat.le_of_ble_eq_true rfl); (case hun => exact Nat.le_of_ble_eq_true rfl); (case F => k_asm); (case N => assumption); (case hup => lcg_off); (case hd => assumption); (case hlen => assumption); k_whole) | (refine' lenF (tmps := [_, _]) ?O ?hp ?X ?T ?B ?CB ?hA ?hf ?hke ?hh ?hdep ?hun ?F ?N ?hup ?hd ?hlen ?_; (case O => assumption); (case hp => assumption); (case X => k_asm); (case T => k_asm); (case B => assumption); (case CB => assumption); (case hA => exact rfl); (case hf => exact rfl); (case hke => exact rfl); (case hh => exact rfl); (case hdep => exact Nat.le_of_ble_eq_true rfl); (case hun => exact Nat.le_of_ble_eq_true rfl); (case F => k_asm); (case N => assumption); (case hup => lcg_off); (case hd => assumption); (case hlen => assumption); k_whole) | (refine' lenF (tmps := [_, _, _]) ?O ?hp ?X ?T ?B ?CB ?hA ?hf ?hke ?hh ?hdep ?hun ?F ?N ?hup ?hd ?hlen ?_; (case O => assumption); (case hp => assumption); (case X => k_asm); (case T => k_asm); (case B => assumption); (case CB => assumption); (case hA => exact rfl); (case hf => exact rfl); (case hke => exact rfl); (case hh => exact rfl); (case hdep => exact Nat.le_of_ble_eq_true rfl); (case hun => exact Nat.le_of_ble_eq_true rfl); (case F => k_asm); (case N => assumption); (case hup => lcg_off); (case hd => assumption); (case hlen => assumption); k_whole) | (refine' lenF (tmps := [_, _, _, _]) ?O ?hp ?X ?T ?B ?CB ?hA ?hf ?hke ?hh ?hdep ?hun ?F ?N ?hup ?hd ?hlen ?_; (case O => assumption); (case hp => assumption); (case X => k_asm); (case T => k_asm); (case B => assumption); (case CB => assumption); (case hA => exact rfl); (case hf => exact rfl); (case hke => exact rfl); (case hh => exact rfl); (case hdep => exact Nat.le_of_ble_eq_true rfl); (case hun => exact Nat.le_of_ble_eq_true rfl); (case F => k_asm); (case N => assumption); (case hup => lcg_off); (case hd => assumption); (case hlen => assumption); k_whole) | (refine' lenB (tmps := []) ?O ?hp ?X ?T ?B ?CB ?hA ?hf ?hke ?hh ?hdep ?hun ?F ?N ?hup ?hd ?hlen ?_; (case O => assumption); (case hp => assumption); (case X => k_asm); (case T => k_asm); (case B => assumption); (case CB => assumption); (case hA => exact rfl); (case hf => exact rfl); (case hke => exact rfl); (case hh => exact rfl); (case hdep => exact Nat.le_of_ble_eq_true rfl); (case hun => exact Nat.le_of_ble_eq_true rfl); (case F => k_asm); (case N => assumption); (case hup => lcg_off); (case hd => assumption); (case hlen => assumption); k_whole) | (refine' lenB (tmps := [_]) ?O ?hp ?X ?T ?B ?CB ?hA ?hf ?hke ?hh ?hdep ?hun ?F ?N ?hup ?hd ?hlen ?_; (case O => assumption); (case hp => assumption); (case X => k_asm); (case T => k_asm); (case B => assumption); (case CB => assumption); (case hA => exact rfl); (case hf => exact rfl); (case hke => exact rfl); (case hh => exact rfl); (case hdep => exact Nat.le_of_ble_eq_true rfl); (case hun => exact Nat.le_of_ble_eq_true rfl); (case F => k_asm); (case N => assumption); (case hup => lcg_off); (case hd => assumption); (case hlen => assumption); k_whole) | (refine' lenB (tmps := [_, _]) ?O ?hp ?X ?T ?B ?CB ?hA ?hf ?hke ?hh ?hdep ?hun ?F ?N ?hup ?hd ?hlen ?_; (case O => assumption); (case hp => assumption); (case X => k_asm); (case T => k_asm); (case B => assumption); (case CB => assumption); (case hA => exact rfl); (case hf => exact rfl); (case hke => exact rfl); (case hh => exact rfl); (case hdep => exact Nat.le_of_ble_eq_true rfl); (case hun => exact Nat.le_of_ble_eq_true rfl); (case F => k_asm); (case N => assumption); (case hup => lcg_off); (case hd => assumption); (case hlen => assumption); k_whole) | (refine' lenB (tmps := [_, _, _]) ?O ?hp ?X ?T ?B ?CB ?hA ?hf ?hke ?hh ?hdep ?hun ?F ?N ?hup ?hd ?hlen ?_; (case O => assumption); (case hp => assumption); (case X => k_asm); (case T => k_asm); (case B => assumption); (case CB => assumption); (case hA => exact rfl); (case hf => exact rfl); (case hke => exact rfl); (case hh => exact rfl); (case hdep => exact Nat.le_of_ble_eq_true rfl); (case hun => exact Nat.le_of_ble_eq_true rfl); (case F => k_asm); (case N => assumption); (case hup => lcg_off); (case hd => assumption); (case hlen => assumption); k_whole) | (refine' lenB (tmps := [_, _, _, _]) ?O ?hp ?X ?T ?B ?CB ?hA ?hf ?hke ?hh ?hdep ?hun ?F ?N ?hup ?hd ?hlen ?_; (case O => assumption); (case hp => assumption); (case X => k_asm); (case T => k_asm); (case B => assumption); (case CB => assumption); (case hA => exact rfl); (case hf => exact rfl); (case hke => exact rfl); (case hh => exact rfl); (case hdep => exact Nat.le_of_ble_eq_true rfl); (case hun => exact Nat.le_of_ble_eq_true rfl); (case F => k_asm); (case N => assumption); (case hup => lcg_off); (case hd => assumption); (case hlen => assumption); k_whole) | (refine' lenO (tmps := []) ?O ?hp ?X ?T ?B ?CB ?hA ?hf ?hke ?hh ?hdep ?hun ?F ?N ?hup ?hd ?hlen ?_; (case O => assumption); (case hp => assumption); (case X => k_asm); (case T => k_asm); (case B => assumption); (case CB => assumption); (case hA => exact rfl); (case hf => exact rfl); (case hke => exact rfl); (case hh => exact rfl); (case hdep => exact Nat.le_of_ble_eq_true rfl); (case hun => exact Nat.le_of_ble_eq_true rfl); (case F => k_asm); (case N => assumption); (case hup => lcg_off); (case hd => assumption); (case hlen => assumption); k_whole) | (refine' lenO (tmps := [_]) ?O ?hp ?X ?T ?B ?CB ?hA ?hf ?hke ?hh ?hdep ?hun ?F ?N ?hup ?hd ?hlen ?_; (case O => assumption); (case hp => assumption); (case X => k_asm); (case T => k_asm); (case B => assumption); (case CB => assumption); (case hA => exact rfl); (case hf => exact rfl); (case hke => exact rfl); (case hh => exact rfl); (case hdep => exact Nat.le_of_ble_eq_true rfl); (case hun => exact Nat.le_of_ble_eq_true rfl); (case F => k_asm); (case N => assumption); (case hup => lcg_off); (case hd => assumption); (case hlen => assumption); k_whole) | (refine' lenO (tmps := [_, _]) ?O ?hp ?X ?T ?B ?CB ?hA ?hf ?hke ?hh ?hdep ?hun ?F ?N ?hup ?hd ?hlen ?_; (case O => assumption); (case hp => assumption); (case X => k_asm); (case T => k_asm); (case B => assumption); (case CB => assumption); (case hA => exact rfl); (case hf => exact rfl); (case hke => exact rfl); (case hh => exact rfl); (case hdep => exact Nat.le_of_ble_eq_true rfl); (case hun => exact Nat.le_of_ble_eq_true rfl); (case F => k_asm); (case N => assumption); (case hup => lcg_off); (case hd => assumption); (case hlen => assumption); k_whole) | (refine' lenO (tmps := [_, _, _]) ?O ?hp ?X ?T ?B ?CB ?hA ?hf ?hke ?hh ?hdep ?hun ?F ?N ?hup ?hd ?hlen ?_; (case O => assumption); (case hp => assumption); (case X => k_asm); (case T => k_asm); (case B => assumption); (case CB => assumption); (case hA => exact rfl); (case hf => exact rfl); (case hke => exact rfl); (case hh => exact rfl); (case hdep => exact Nat.le_of_ble_eq_true rfl); (case hun => exact Nat.le_of_ble_eq_true rfl); (case F => k_asm); (case N => assumption); (case hup => lcg_off); (case hd => assumption); (case hlen => assumption); k_whole) | (refine' lenO (tmps := [_, _, _, _]) ?O ?hp ?X ?T ?B ?CB ?hA ?hf ?hke ?hh ?hdep ?hun ?F ?N ?hup ?hd ?hlen ?_; (case O => assumption); (case hp => assumption); (case X => k_asm); (case T => k_asm); (case B => assumption); (case CB => assumption); (case hA => exact rfl); (case hf => exact rfl); (case hke => exact rfl); (case hh => exact rfl); (case hdep => exact Nat.le_of_ble_eq_true rfl); (case hun => exact Nat.le_of_ble_eq_true rfl); (case F => k_asm); (case N => assumption); (case hup => lcg_off); (case hd => assumption); (case hlen => assumption); k_whole)); intro u' h' tk' F' N'; (try dsimp only [List.cons_append, List.nil_append] at N')))
local macro_rules | `(tactic| walk_at "call ref") => `(tactic| (k_here; (with_reducible show wpAny _ _ (call (Value.ref 106) [Value.ref _, Value.int _ _]) _ _ _); k_dflt (first | (refine' deletedB (tmps := []) ?O ?hp ?X ?T ?B ?CB ?hA ?hf ?hke ?hh ?hdep ?hun ?F ?N ?hup ?hd ?hlen ?hz ?hT ?hb ?_; (case O => assumption); (case hp => assumption); (case X => k_asm); (case T => k_asm); (case B => assumption); (case CB => assumption); (case hA => exact rfl); (case hf => exact rfl); (case hke => exact rfl); (case hh => exact rfl); (case hdep => exact Nat.le_of_ble_eq_true rfl); (case hun => exact Nat.le_of_ble_eq_true rfl); (case F => k_asm); (case N => assumption); (case hup => lcg_off); (case hd => assumption); (case hlen => assumption); (case hz => assumption); (case hT => assumption); (case hb => assumption); k_whole) | (refine' deletedB (tmps := [_]) ?O ?hp ?X ?T ?B ?CB ?hA ?hf ?hke ?hh ?hdep ?hun ?F ?N ?hup ?hd ?hlen ?hz ?hT ?hb ?_; (case O => assumption); (case hp => assumption); (case X => k_asm); (case T => k_asm); (case B => assumption); (case CB => assumption); (case hA => exact rfl); (case hf => exact rfl); (case hke => exact rfl); (case hh => exact rfl); (case hdep => exact Nat.le_of_ble_eq_true rfl); (case hun => exact Nat.le_of_ble_eq_true rfl); (case F => k_asm); (case N => assumption); (case hup => lcg_off); (case hd => assumption); (case hlen => assumption); (case hz => assumption); (case hT => assumption); (case hb => assumption); k_whole) | (refine' deletedB (tmps := [_, _]) ?O ?hp ?X ?T ?B ?CB ?hA ?hf ?hke ?hh ?hdep ?hun ?F ?N ?hup ?hd ?hlen ?hz ?hT ?hb ?_; (case O => assumption); (case hp => assumption); (case X => k_asm); (case T => k_asm); (case B => assumption); (case CB => assumption); (case hA => exact rfl); (case hf => exact rfl); (case hke => exact rfl); (case hh => exact rfl); (case hdep => exact Nat.le_of_ble_eq_true rfl); (case hun => exact Nat.le_of_ble_eq_true rfl); (case F => k_asm); (case N => assumption); (case hup => lcg_off); (case hd => assumption); (case hlen => assumption); (case hz => assumption); (case hT => assumption); (case hb => assumption); k_whole) | (refine' deletedB (tmps := [_, _, _]) ?O ?hp ?X ?T ?B ?CB ?hA ?hf ?hke ?hh ?hdep ?hun ?F ?N ?hup ?hd ?hlen ?hz ?hT ?hb ?_; (case O => assumption); (case hp => assumption); (case X => k_asm); (case T => k_asm); (case B => assumption); (case CB => assumption); (case hA => exact rfl); (case hf => exact rfl); (case hke => exact rfl); (case hh => exact rfl); (case hdep => exact Nat.le_of_ble_eq_true rfl); (case hun => exact Nat.le_of_ble_eq_true rfl); (case F => k_asm); (case N => assumption); (case hup => lcg_off); (case hd => assumption); (case hlen => assumption); (case hz => assumption); (case hT => assumption); (case hb => assumption); k_whole) | (refine' deletedB (tmps := [_, _, _, _]) ?O ?hp ?X ?T ?B ?CB ?hA ?hf ?hke ?hh ?hdep ?hun ?F ?N ?hup ?hd ?hlen ?hz ?hT ?hb ?_; (case O => assumption); (case hp => assumption); (case X => k_asm); (case T => k_asm); (case B => assumption); (case CB => assumption); (case hA => exact rfl); (case hf => exact rfl); (case hke => exact rfl); (case hh => exact rfl); (case hdep => exact Nat.le_of_ble_eq_true rfl); (case hun => exact Nat.le_of_ble_eq_true rfl); (case F => k_asm); (case N => assumption); (case hup => lcg_off); (case hd => assumption); (case hlen => assumption); (case hz => assumption); (case hT => assumption); (case hb => assumption); k_whole) | (refine' deletedO (tmps := []) ?O ?hp ?X ?T ?B ?CB ?hA ?hf ?hke ?hh ?hdep ?hun ?F ?N ?hup ?hd ?hlen ?hz ?hT ?hb ?_; (case O => assumption); (case hp => assumption); (case X => k_asm); (case T => k_asm); (case B => assumption); (case CB => assumption); (case hA => exact rfl); (case hf => exact rfl); (case hke => exact rfl); (case hh => exact rfl); (case hdep => exact Nat.le_of_ble_eq_true rfl); (case hun => exact Nat.le_of_ble_eq_true rfl); (case F => k_asm); (case N => assumption); (case hup => lcg_off); (case hd => assumption); (case hlen => assumption); (case hz => assumption); (case hT => assumption); (case hb => assumption); k_whole) | (refine' deletedO (tmps := [_]) ?O ?hp ?X ?T ?B ?CB ?hA ?hf ?hke ?hh ?hdep ?hun ?F ?N ?hup ?hd ?hlen ?hz ?hT ?hb ?_; (case O => assumption); (case hp => assumption); (case X => k_asm); (case T => k_asm); (case B => assumption); (case CB => assumption); (case hA => exact rfl); (case hf => exact rfl); (case hke => exact rfl); (case hh => exact rfl); (case hdep => exact Nat.le_of_ble_eq_true rfl); (case hun => exact Nat.le_of_ble_eq_true rfl); (case F => k_asm); (case N => assumption); (case hup => lcg_off); (case hd => assumption); (case hlen => assumption); (case hz => assumption); (case hT => assumption); (case hb => assumption); k_whole) | (refine' deletedO (tmps := [_, _]) ?O ?hp ?X ?T ?B ?CB ?hA ?hf ?hke ?hh ?hdep ?hun ?F ?N ?hup ?hd ?hlen ?hz ?hT ?hb ?_; (case O => assumption); (case hp => assumption); (case X => k_asm); (case T => k_asm); (case B => assumption); (case CB => assumption); (case hA => exact rfl); (case hf => exact rfl); (case hke => exact rfl); (case hh => exact rfl); (case hdep => exact Nat.le_of_ble_eq_true rfl); (case hun => exact Nat.le_of_ble_eq_true rfl); (case F => k_asm); (case N => assumption); (case hup => lcg_off); (case hd => assumption); (case hlen => assumption); (case hz => assumption); (case hT => assumption); (case hb => assumption); k_whole) | (refine' deletedO (tmps := [_, _, _]) ?O ?hp ?X ?T ?B ?CB ?hA ?hf ?hke ?hh ?hdep ?hun ?F ?N ?hup ?hd ?hlen ?hz ?hT ?hb ?_; (case O => assumption); (case hp => assumption); (case X => k_asm); (case T => k_asm); (case B => assumption); (case CB => assumption); (case hA => exact rfl); (case hf => exact rfl); (case hke => exact rfl); (case hh => exact rfl); (case hdep => exact Nat.le_of_ble_eq_true rfl); (case hun => exact Nat.le_of_ble_eq_true rfl); (case F => k_asm); (case N => assumption); (case hup => lcg_off); (case hd => assumption); (case hlen => assumption); (case hz => assumption); (case hT => assumption); (case hb => assumption); k_whole) | (refine' deletedO (tmps := [_, _, _, _]) ?O ?hp ?X ?T ?B ?CB ?hA ?hf ?hke ?hh ?hdep ?hun ?F ?N ?hup ?hd ?hlen ?hz ?hT ?hb ?_; (case O => assumption); (case hp => assumption); (case X => k_asm); (case T => k_asm); (case B => assumption); (case CB => assumption); (case hA => exact rfl); (case hf => exact rfl); (case hke => exact rfl); (case hh => exact rfl); (case hdep => exact Nat.le_of_ble_eq_true rfl); (case hun => exact Nat.le_of_ble_eq_true rfl); (case F => k_asm); (case N => assumption); (case hup => lcg_off); (case hd => assumption); (case hlen => assumption); (case hz => assumption); (case hT => assumption); (case hb => assumption); k_whole)); intro h' tk' od' n' F' N' hd'; (try dsimp only [List.cons_append, List.nil_append] at N')))
local macro_rules | `(tactic| walk_at "call ref") => `(tactic| (k_here; (with_reducible show wpAny _ _ (call (Value.ref 106) [Value.ref _, Value.int _ _]) _ _ _); k_dflt (first | (refine' deletedF (tmps := []) ?O ?hp ?X ?T ?B ?CB ?hA ?hf ?hke ?hh ?hdep ?hun ?F ?N ?hup ?hF ?hB ?hlen ?hlB ?hz ?tF ?tB ?hb ?_; (case O => assumption); (case hp => assumption); (case X => k_asm); (case T => k_asm); (case B => assumption); (case CB => assumption); (case hA => exact rfl); (case hf => exact rfl); (case hke => exact rfl); (case hh => exact rfl); (case hdep => exact Nat.le_of_ble_eq_true rfl); (case hun => exact Nat.le_of_ble_eq_true rfl); (case F => k_asm); (case N => assumption); (case hup => lcg_off); (case hF => assumption); (case hB => assumption); (case hlen => assumption); (case hlB => assumption); (case hz => assumption); (case tF => assumption); (case tB => assumption); (case hb => assumption); k_whole) | (refine' deletedF (tmps := [_]) ?O ?hp ?X ?T ?B ?CB ?hA ?hf ?hke ?hh ?hdep ?hun ?F ?N ?hup ?hF ?hB ?hlen ?hlB ?hz ?tF ?tB ?hb ?_; (case O => assumption); (case hp => assumption); (case X => k_asm); (case T => k_asm); (case B => assumption); (case CB => assumption); (case hA => exact rfl); (case hf => exact rfl); (case hke => exact rfl); (case hh => exact rfl); (case hdep => exact Nat.le_of_ble_eq_true rfl); (case hun => exact Nat.le_of_ble_eq_true rfl); (case F => k_asm); (case N => assumption); (case hup => lcg_off); (case hF => assumption); (case hB => assumption); (case hlen => assumption); (case hlB => assumption); (case hz => assumption); (case tF => assumption); (case tB => assumption); (case hb => assumption); k_whole) | (refine' deletedF (tmps := [_, _]) ?O ?hp ?X ?T ?B ?CB ?hA ?hf ?hke ?hh ?hdep ?hun ?F ?N ?hup ?hF ?hB ?hlen ?hlB ?hz ?tF ?tB ?hb ?_; (case O => assumption); (case hp => assumption); (case X => k_asm); (case T => k_asm); (case B => assumption); (case CB => assumption); (case hA => exact rfl); (case hf => exact rfl); (case hke => exact rfl); (case hh => exact rfl); (case hdep => exact Nat.le_of_ble_eq_true rfl); (case hun => exact Nat.le_of_ble_eq_true rfl); (case F => k_asm); (case N => assumption); (case hup => lcg_off); (case hF => assumption); (case hB => assumption); (case hlen => assumption); (case hlB => assumption); (case hz => assumption); (case tF => assumption); (case tB => assumption); (case hb => assumption); k_whole) | (refine' deletedF (tmps := [_, _, _]) ?O ?hp ?X ?T ?B ?CB ?hA ?hf ?hke ?hh ?hdep ?hun ?F ?N ?hup ?hF ?hB ?hlen ?hlB ?hz ?tF ?tB ?hb ?_; (case O => assumption); (case hp => assumption); (case X => k_asm); (case T => k_asm); (case B => assumption); (case CB => assumption); (case hA => exact rfl); (case hf => exact rfl); (case hke => exact rfl); (case hh => exact rfl); (case hdep => exact Nat.le_of_ble_eq_true rfl); (case hun => exact Nat.le_of_ble_eq_true rfl); (case F => k_asm); (case N => assumption); (case hup => lcg_off); (case hF => assumption); (case hB => assumption); (case hlen => assumption); (case hlB => assumption); (case hz => assumption); (case tF => assumption); (case tB => assumption); (case hb => assumption); k_whole) | (refine' deletedF (tmps := [_, _, _, _]) ?O ?hp ?X ?T ?B ?CB ?hA ?hf ?hke ?hh ?hdep ?hun ?F ?N ?hup ?hF ?hB ?hlen ?hlB ?hz ?tF ?tB ?hb ?_; (case O => assumption); (case hp => assumption); (case X => k_asm); (case T => k_asm); (case B => assumption); (case CB => assumption); (case hA => exact rfl); (case hf => exact rfl); (case hke => exact rfl); (case hh => exact rfl); (case hdep => exact Nat.le_of_ble_eq_true rfl); (case hun => exact Nat.le_of_ble_eq_true rfl); (case F => k_asm); (case N => assumption); (case hup => lcg_off); (case hF => assumption); (case hB => assumption); (case hlen => assumption); (case hlB => assumption); (case hz => assumption); (case tF => assumption); (case tB => assumption); (case hb => assumption); k_whole)); intro h' tk' odF' odB' n' F' N' hdF' hdB'; (try dsimp only [List.cons_append, List.nil_append] at N')))
local macro_rules | `(tactic| walk_at "delItem ref int") => `(tactic| (k_here; (with_reducible show wpAny _ _ (delItem (Value.ref _) (Value.int _ _)) _ _ _); k_dflt (first | (refine' delB (tmps := []) ?O ?hp ?X ?T ?B ?CB ?hA ?hf ?hke ?hh ?hdep ?hun ?F ?N ?hup ?hd ?hlen ?hz ?hT ?hv ?_; (case O => assumption); (case hp => assumption); (case X => k_asm); (case T => k_asm); (case B => assumption); (case CB => assumption); (case hA => exact rfl); (case hf => exact rfl); (case hke => exact rfl); (case hh => exact rfl); (case hdep => exact Nat.le_of_ble_eq_true rfl); (case hun => exact Nat.le_of_ble_eq_true rfl); (case F => k_asm); (case N => assumption); (case hup => lcg_off); (case hd => assumption); (case hlen => assumption); (case hz => assumption); (case hT => assumption); (case hv => assumption); k_whole) | (refine' delB (tmps := [_]) ?O ?hp ?X ?T ?B ?CB ?hA ?hf ?hke ?hh ?hdep ?hun ?F ?N ?hup ?hd ?hlen ?hz ?hT ?hv ?_; (case O => assumption); (case hp => assumption); (case X => k_asm); (case T => k_asm); (case B => assumption); (case CB => assumption); (case hA => exact rfl); (case hf => exact rfl); (case hke => exact rfl); (case hh => exact rfl); (case hdep => exact Nat.le_of_ble_eq_true rfl); (case hun => exact Nat.le_of_ble_eq_true rfl); (case F => k_asm); (case N => assumption); (case hup => lcg_off); (case hd => assumption); (case hlen => assumption); (case hz => assumption); (case hT => assumption); (case hv => assumption); k_whole) | (refine' delB (tmps := [_, _]) ?O ?hp ?X ?T ?B ?CB ?hA ?hf ?hke ?hh ?hdep ?hun ?F ?N ?hup ?hd ?hlen ?hz ?hT ?hv ?_; (case O => assumption); (case hp => assumption); (case X => k_asm); (case T => k_asm); (case B => assumption); (case CB => assumption); (case hA => exact rfl); (case hf => exact rfl); (case hke => exact rfl); (case hh => exact rfl); (case hdep => exact Nat.le_of_ble_eq_true rfl); (case hun => exact Nat.le_of_ble_eq_true rfl); (case F => k_asm); (case N => assumption); (case hup => lcg_off); (case hd => assumption); (case hlen => assumption); (case hz => assumption); (case hT => assumption); (case hv => assumption); k_whole) | (refine' delB (tmps := [_, _, _]) ?O ?hp ?X ?T ?B ?CB ?hA ?hf ?hke ?hh ?hdep ?hun ?F ?N ?hup ?hd ?hlen ?hz ?hT ?hv ?_; (case O => assumption); (case hp => assumption); (case X => k_asm); (case T => k_asm); (case B => assumption); (case CB => assumption); (case hA => exact rfl); (case hf => exact rfl); (case hke => exact rfl); (case hh => exact rfl); (case hdep => exact Nat.le_of_ble_eq_true rfl); (case hun => exact Nat.le_of_ble_eq_true rfl); (case F => k_asm); (case N => assumption); (case hup => lcg_off); (case hd => assumption); (case hlen => assumption); (case hz => assumption); (case hT => assumption); (case hv => assumption); k_whole) | (refine' delB (tmps := [_, _, _, _]) ?O ?hp ?X ?T ?B ?CB ?hA ?hf ?hke ?hh ?hdep ?hun ?F ?N ?hup ?hd ?hlen ?hz ?hT ?hv ?_; (case O => assumption); (case hp => assumption); (case X => k_asm); (case T => k_asm); (case B => assumption); (case CB => assumption); (case hA => exact rfl); (case hf => exact rfl); (case hke => exact rfl); (case hh => exact rfl); (case hdep => exact Nat.le_of_ble_eq_true rfl); (case hun => exact Nat.le_of_ble_eq_true rfl); (case F => k_asm); (case N => assumption); (case hup => lcg_off); (case hd => assumption); (case hlen => assumption); (case hz => assumption); (case hT => assumption); (case hv => assumption); k_whole)); intro h' tk' od' n' F' N' hd'; (try dsimp only [List.cons_append, List.nil_append] at N')))
local macro_rules | `(tactic| walk_at "setItem ref int") => `(tactic| (k_here; (with_reducible show wpAny _ _ (setItem (Value.ref _) (Value.int _ _) (Value.ref _)) _ _ _); k_dflt (first | (refine' setO (tmps := []) ?O ?hp ?X ?T ?B ?CB ?hA ?hf ?hke ?hh ?hdep ?hun ?F ?N ?hup ?hd ?hlen ?hz ?hT ?hpv ?_; (case O => assumption); (case hp => assumption); (case X => k_asm); (case T => k_asm); (case B => assumption); (case CB => assumption); (case hA => exact rfl); (case hf => exact rfl); (case hke => exact rfl); (case hh => exact rfl); (case hdep => exact Nat.le_of_ble_eq_true rfl); (case hun => exact Nat.le_of_ble_eq_true rfl); (case F => k_asm); (case N => assumption); (case hup => lcg_off); (case hd => assumption); (case hlen => assumption); (case hz => assumption); (case hT => assumption); (case hpv => k_mem); k_whole) | (refine' setO (tmps := [_]) ?O ?hp ?X ?T ?B ?CB ?hA ?hf ?hke ?hh ?hdep ?hun ?F ?N ?hup ?hd ?hlen ?hz ?hT ?hpv ?_; (case O => assumption); (case hp => assumption); (case X => k_asm); (case T => k_asm); (case B => assumption); (case CB => assumption); (case hA => exact rfl); (case hf => exact rfl); (case hke => exact rfl); (case hh => exact rfl); (case hdep => exact Nat.le_of_ble_eq_true rfl); (case hun => exact Nat.le_of_ble_eq_true rfl); (case F => k_asm); (case N => assumption); (case hup => lcg_off); (case hd => assumption); (case hlen => assumption); (case hz => assumption); (case hT => assumption); (case hpv => k_mem); k_whole) | (refine' setO (tmps := [_, _]) ?O ?hp ?X ?T ?B ?CB ?hA ?hf ?hke ?hh ?hdep ?hun ?F ?N ?hup ?hd ?hlen ?hz ?hT ?hpv ?_; (case O => assumption); (case hp => assumption); (case X => k_asm); (case T => k_asm); (case B => assumption); (case CB => assumption); (case hA => exact rfl); (case hf => exact rfl); (case hke => exact rfl); (case hh => exact rfl); (case hdep => exact Nat.le_of_ble_eq_true rfl); (case hun => exact Nat.le_of_ble_eq_true rfl); (case F => k_asm); (case N => assumption); (case hup => lcg_off); (case hd => assumption); (case hlen => assumption); (case hz => assumption); (case hT => assumption); (case hpv => k_mem); k_whole) | (refine' setO (tmps := [_, _, _]) ?O ?hp ?X ?T ?B ?CB ?hA ?hf ?hke ?hh ?hdep ?hun ?F ?N ?hup ?hd ?hlen ?hz ?hT ?hpv ?_; (case O => assumption); (case hp => assumption); (case X => k_asm); (case T => k_asm); (case B => assumption); (case CB => assumption); (case hA => exact rfl); (case hf => exact rfl); (case hke => exact rfl); (case hh => exact rfl); (case hdep => exact Nat.le_of_ble_eq_true rfl); (case hun => exact Nat.le_of_ble_eq_true rfl); (case F => k_asm); (case N => assumption); (case hup => lcg_off); (case hd => assumption); (case hlen => assumption); (case hz => assumption); (case hT => assumption); (case hpv => k_mem); k_whole) | (refine' setO (tmps := [_, _, _, _]) ?O ?hp ?X ?T ?B ?CB ?hA ?hf ?hke ?hh ?hdep ?hun ?F ?N ?hup ?hd ?hlen ?hz ?hT ?hpv ?_; (case O => assumption); (case hp => assumption); (case X => k_asm); (case T => k_asm); (case B => assumption); (case CB => assumption); (case hA => exact rfl); (case hf => exact rfl); (case hke => exact rfl); (case hh => exact rfl); (case hdep => exact Nat.le_of_ble_eq_true rfl); (case hun => exact Nat.le_of_ble_eq_true rfl); (case F => k_asm); (case N => assumption); (case hup => lcg_off); (case hd => assumption); (case hlen => assumption); (case hz => assumption); (case hT => assumption); (case hpv => k_mem); k_whole)); intro h' tk' od' n' F' N' hd'; (try dsimp only [List.cons_append, List.nil_append] at N')))
local macro_rules | `(tactic| walk_at "setItem ref int") => `(tactic| (k_here; (with_reducible show wpAny _ _ (setItem (Value.ref _) (Value.int _ _) (Value.ref _)) _ _ _); k_dflt (first | (refine' setF (tmps := []) ?O ?hp ?X ?T ?B ?CB ?hA ?hf ?hke ?hh ?hdep ?hun ?F ?N ?hup ?hF ?hB ?hlen ?hlB ?hz ?tF ?tB ?hpv ?_; (case O => assumption); (case hp => assumption); (case X => k_asm); (case T => k_asm); (case B => assumption); (case CB => assumption); (case hA => exact rfl); (case hf => exact rfl); (case hke => exact rfl); (case hh => exact rfl); (case hdep => exact Nat.le_of_ble_eq_true rfl); (case hun => exact Nat.le_of_ble_eq_true rfl); (case F => k_asm); (case N => assumption); (case hup => lcg_off); (case hF => assumption); (case hB => assumption); (case hlen => assumption); (case hlB => assumption); (case hz => assumption); (case tF => assumption); (case tB => assumption); (case hpv => k_mem); k_whole) | (refine' setF (tmps := [_]) ?O ?hp ?X ?T ?B ?CB ?hA ?hf ?hke ?hh ?hdep ?hun ?F ?N ?hup ?hF ?hB ?hlen ?hlB ?hz ?tF ?tB ?hpv ?_; (case O => assumption); (case hp => assumption); (case X => k_asm); (case T => k_asm); (case B => assumption); (case CB => assumption); (case hA => exact rfl); (case hf => exact rfl); (case hke => exact rfl); (case hh => exact rfl); (case hdep => exact Nat.le_of_ble_eq_true rfl); (case hun => exact Nat.le_of_ble_eq_true rfl); (case F => k_asm); (case N => assumption); (case hup => lcg_off); (case hF => assumption); (case hB => assumption); (case hlen => assumption); (case hlB => assumption); (case hz => assumption); (case tF => assumption); (case tB => assumption); (case hpv => k_mem); k_whole) | (refine' setF (tmps := [_, _]) ?O ?hp ?X ?T ?B ?CB ?hA ?hf ?hke ?hh ?hdep ?hun ?F ?N ?hup ?hF ?hB ?hlen ?hlB ?hz ?tF ?tB ?hpv ?_; (case O => assumption); (case hp => assumption); (case X => k_asm); (case T => k_asm); (case B => assumption); (case CB => assumption); (case hA => exact rfl); (case hf => exact rfl); (case hke => exact rfl); (case hh => exact rfl); (case hdep => exact Nat.le_of_ble_eq_true rfl); (case hun => exact Nat.le_of_ble_eq_true rfl); (case F => k_asm); (case N => assumption); (case hup => lcg_off); (case hF => assumption); (case hB => assumption); (case hlen => assumption); (case hlB => assumption); (case hz => assumption); (case tF => assumption); (case tB => assumption); (case hpv => k_mem); k_whole) | (refine' setF (tmps := [_, _, _]) ?O ?hp ?X ?T ?B ?CB ?hA ?hf ?hke ?hh ?hdep ?hun ?F ?N ?hup ?hF ?hB ?hlen ?hlB ?hz ?tF ?tB ?hpv ?_; (case O => assumption); (case hp => assumption); (case X => k_asm); (case T => k_asm); (case B => assumption); (case CB => assumption); (case hA => exact rfl); (case hf => exact rfl); (case hke => exact rfl); (case hh => exact rfl); (case hdep => exact Nat.le_of_ble_eq_true rfl); (case hun => exact Nat.le_of_ble_eq_true rfl); (case F => k_asm); (case N => assumption); (case hup => lcg_off); (case hF => assumption); (case hB => assumption); (case hlen => assumption); (case hlB => assumption); (case hz => assumption); (case tF => assumption); (case tB => assumption); (case hpv => k_mem); k_whole) | (refine' setF (tmps := [_, _, _, _]) ?O ?hp ?X ?T ?B ?CB ?hA ?hf ?hke ?hh ?hdep ?hun ?F ?N ?hup ?hF ?hB ?hlen ?hlB ?hz ?tF ?tB ?hpv ?_; (case O => assumption); (case hp => assumption); (case X => k_asm); (case T => k_asm); (case B => assumption); (case CB => assumption); (case hA => exact rfl); (case hf => exact rfl); (case hke => exact rfl); (case hh => exact rfl); (case hdep => exact Nat.le_of_ble_eq_true rfl); (case hun => exact Nat.le_of_ble_eq_true rfl); (case F => k_asm); (case N => assumption); (case hup => lcg_off); (case hF => assumption); (case hB => assumption); (case hlen => assumption); (case hlB => assumption); (case hz => assumption); (case tF => assumption); (case tB => assumption); (case hpv => k_mem); k_whole)); intro h' tk' odF' odB' n' F' N' hdF' hdB'; (try dsimp only [List.cons_append, List.nil_append] at N')))
local macro_rules | `(tactic| walk_at "setItem ref int") => `(tactic| (k_here; (with_reducible show wpAny _ _ (setItem (Value.ref _) (Value.int 0 _) _) _ _ _); k_dflt (refine' touch ?O ?hp ?F ?N ?_; (case O => assumption); (case hp => assumption); (case F => k_asm); (case N => assumption); k_whole); intro h' F' N'))
local macro_rules | `(tactic| walk_at "compareOp In int ref") => `(tactic| (k_here; k_dflt (refine' R_inB ?N ?a ?s ?b ?_; (case N => k_asm); (case a => k_mem); (case s => assumption); (case b => assumption); k_whole)))
local macro_rules | `(tactic| walk_at "ite") => `(tactic| (k_here; first | refine ite_pos rfl ?_ | refine ite_neg Bool.false_ne_true ?_ | refine ite_pos (by assumption) ?_ | refine ite_neg (ne_true_of (by assumption)) ?_))
local macro_rules | `(tactic| walk_at "call ref") => `(tactic| (k_here; dsimp only [List.cons_append, List.nil_append]))
local macro_rules | `(tactic| walk_at "call builtin:len") => `(tactic| (k_here; dsimp only [List.cons_append, List.nil_append]))
local macro_rules | `(tactic| walk_at "call builtin:list.append") => `(tactic| (k_here; dsimp only [List.cons_append, List.nil_append]))
local macro_rules | `(tactic| walk_at "call builtin:sorted") => `(tactic| (k_here; dsimp only [List.cons_append, List.nil_append]))
local macro_rules | `(tactic| walk_at "compareOp NotEq ref ref") => `(tactic| (k_here; (with_reducible show wpAny _ _ (compareOp CmpOp.NotEq (Value.ref _) (Value.ref _)) _ _ _); k_dflt (first | (refine' R_ne_same ?u ?N ?a ?b ?_; (case u => exact Nat.le_of_ble_eq_true rfl); (case N => k_asm); (case a => k_mem); (case b => k_mem); k_whole) | (refine' R_ne_len ?u ?N ?a ?b ?e ?_; (case u => exact Nat.le_of_ble_eq_true rfl); (case N => k_asm); (case a => k_mem); (case b => k_mem); (case e => exact Nat.succ_ne_zero _); k_whole))))
local macro_rules | `(tactic| walk_at "binaryOp BitAnd ref ref") => `(tactic| (k_here; k_dflt (refine' R_and ?F ?N ?a ?b ?ab ?x ?y ?s1 ?s2 ?n1 ?n2 ?l1 ?l2 ?dj ?_; (case F => k_asm); (case N => k_asm); (case a => k_mem); (case b => k_mem); (case ab => k_ne); (case x => assumption); (case y => assumption); (case s1 => assumption); (case s2 => assumption); (case n1 => assumption); (case n2 => assumption); (case l1 => assumption); (case l2 => assumption); (case dj => assumption); k_whole); intro D' h' so' F' N' l1 hs'; (try k_lt l1)))
local macro_rules | `(tactic| walk_at "binaryOp BitOr ref ref") => `(tactic| (k_here; k_dflt (refine' R_or ?F ?N ?a ?b ?ab ?x ?y ?s1 ?s2 ?n1 ?n2 ?l1 ?l2 ?dj ?_; (case F => k_asm); (case N => k_asm); (case a => k_mem); (case b => k_mem); (case ab => k_ne); (case x => assumption); (case y => assumption); (case s1 => assumption); (case s2 => assumption); (case n1 => assumption); (case n2 => assumption); (case l1 => assumption); (case l2 => assumption); (case dj => assumption); k_whole); intro D' h' so' F' N' l1 hu'; (try k_lt l1)))
local macro_rules | `(tactic| walk_at "call builtin:len") => `(tactic| (k_here; (with_reducible show wpAny _ _ (call (Value.builtin "len") [Value.ref _]) _ _ _); k_dflt (refine' R_setlen0 ?N ?a ?x ?_; (case N => k_asm); (case a => k_mem); (case x => assumption); k_whole); intro u' tk'))
local macro_rules | `(tactic| walk_at "compareOp NotEq ref ref") => `(tactic| (k_here; (with_reducible show wpAny _ _ (compareOp CmpOp.NotEq (Value.ref _) (Value.ref _)) _ _ _); k_dflt (refine' R_un_ne ?u ?N ?a ?b ?x ?y ?q ?_; (case u => exact Nat.le_of_ble_eq_true rfl); (case N => k_asm); (case a => k_mem); (case b => k_mem); (case x => assumption); (case y => assumption); (case q => assumption); k_whole)))
local macro_rules | `(tactic| walk_at "subscriptTail") => `(tactic| (k_here; (with_reducible show wpAny _ _ (subscriptTail _ _ (Value.ref (St.lS _)) (Value.int _ _)) _ _ _); k_dflt (first | (refine' R_item0 ?N ?m ?_ ?s; (case N => k_asm); (case m => exact Led.m_lS); (case s => with_unfolding_all rfl); k_whole) | (refine' R_item1 ?N ?m ?_ ?s; (case N => k_asm); (case m => exact Led.m_lS); (case s => with_unfolding_all rfl); k_whole))))

local macro_rules | `(tactic| walk_at "pyIter ref") => `(tactic| ((with_reducible show wpAny _ _ (pyIter (Value.ref _)) (fun it s₂ => LoopAtV _ _ _ _ _ _ _ _ _ it s₂) _ _); refine halt ?_))
local macro_rules | `(tactic| walk_at "exec For Name Call cons nil") => `(tactic| (k_here; k_dflt (refine' For_F ?F ?x ?p ?_ ?s ?E; (case F => k_asm); (case x => rfl); (case p => rfl); (case s => intro _; rfl); (case E => exact PassesOwn.never); k_whole)))
section
variable {w : World} {S : St} {odF odB odO : Obj} {vF : List Value} {nF nW nT : Nat} {tv : Value} {prs : List (Addr × Obj)} {mg mb : Str → Option Value} {mean : ExcName → Option Value} {h₀ : Heap} {m : Str → Option Value} {s : Shared} {Q : Flow → Shared → Prop}
  {ns : List Int} {place kind key : Int} {tp tk9 tk8 tkey : Tok} {kF kB kO : List (Int × Value)} {c : Nat}
set_option maxHeartbeats 8000000 in
theorem loop01 (O : Ok S) (hp : PrsUp S prs) (X : (hd.heap_39 w.params).In h₀) (T : Top topProg loose mean mg mb h₀) (B : Below callerA h₀ [] h₀) (CB : CodeB h₀) (F : Fr h₀ S.L s.heap m) (nm : Nm S m) (N : News h₀ S.L s.heap (Led w S odF odB odO vF nF vF nW tv nT prs)) (hdF : odF.IsDictOf (PySem.intKind PySem.Challenge.rw_aj5039_01.row.prog w) kF) (hdB : odB.IsDictOf (PySem.intKind PySem.Challenge.rw_aj5039_01.row.prog w) kB) (hdO : odO.IsDictOf (PySem.intKind PySem.Challenge.rw_aj5039_01.row.prog w) kO)
  (hN : IntsAre S.vsN ns) (hl1 : 2 ≤ ns.length) (hl2 : ns.length ≤ 34) (x : LI S.s1 S.s2 prs kF kB kO vF vF 0) {tb : Addr × Obj} (htb : tb ∈ prs)
  (q : ∀ h' tk m' odF' odB' odO' kF' kB' kO' vF' nF' nW' tv' prs', Fr h₀ S.L h' m' → Nm S m' → News h₀ S.L h' (Led w S odF' odB' odO' vF' nF' vF' nW' tv' nT prs') → PrsUp S prs' → odF'.IsDictOf (PySem.intKind PySem.Challenge.rw_aj5039_01.row.prog w) kF' → odB'.IsDictOf (PySem.intKind PySem.Challenge.rw_aj5039_01.row.prog w) kB' → odO'.IsDictOf (PySem.intKind PySem.Challenge.rw_aj5039_01.row.prog w) kO' → LI S.s1 S.s2 prs' kF' kB' kO' vF' vF' ((ns.length - 2) / 2) → tb ∈ prs' → Q .next { s with heap := h', toks := tk }) : wpAny (model PySem.Challenge.rw_aj5039_01.row.prog w) (callerA.deeper (lenv S.L S.fa 110)) (exec (lawBody.getD 8 (Stmt.Pass default)) (lenv S.L S.fa 110)) Q (fun _ _ => False) s := by
  have hvN : S.vsN.toArray.size = ns.length := by rw [List.size_toArray, IntsAre.length hN]
  have X0 := X
  revert X
  k_fill
  intro X
  have F1 := fr_eq F nm.open
  clear F
  conv => arg 3; arg 1; whnf
  k_steps
  rename_i h1 tk1 t1 u1 v1 hR F1 N1 hkeep
  unfold Halt
  have hrs : Builtin.Range.rangeSize 2 ((ns.length : Int) - 1) 2 = (((ns.length - 2) / 2 : Nat) : Int) := by
    unfold Builtin.Range.rangeSize
    simp only [show ((2 : Int) > 0) by decide, if_true]
    split <;> omega
  have hsm : Builtin.Range.small 2 ((ns.length : Int) - 1) 2 = true := by
    unfold Builtin.Range.small
    rw [hrs]
    simp only [Builtin.Range.rangeFitsLong, Bool.and_eq_true, Bool.or_eq_true, decide_eq_true_eq, beq_iff_eq, show ((2 : Int) > 0) by decide, if_true]
    omega
  refine krs_iter (n := (ns.length - 2) / 2) rfl hR hsm hrs F1 N1 fun I hI => ?_
  have hOI : S.dO < I := hI (S.dO, _) Led.m_dO
  have hPI : ∀ p ∈ prs, p.1 ≠ I := fun p hp' => Nat.ne_of_lt (hI p (Led.m_prs hp'))
  clear hI
  refine krs_inv (body := loopBody) (fun (i : Nat) (m : Str → Option Value) (news : List (Addr × Obj)) => ∃ (odF odB odO : Obj) (kF kB kO : KV) (vF : List Value) (nF nW : Nat) (tv : Value) (prs : List (Addr × Obj)), news = Led w S odF odB odO vF nF vF nW tv nT prs ∧ Nm S m ∧ PrsUp S prs ∧ (∀ p ∈ prs, p.1 ≠ I) ∧ tb ∈ prs ∧ odF.IsDictOf (PySem.intKind PySem.Challenge.rw_aj5039_01.row.prog w) kF ∧ odB.IsDictOf (PySem.intKind PySem.Challenge.rw_aj5039_01.row.prog w) kB ∧ odO.IsDictOf (PySem.intKind PySem.Challenge.rw_aj5039_01.row.prog w) kO ∧ LI S.s1 S.s2 prs kF kB kO vF vF i) ?_ ?_ ((ns.length - 2) / 2) 0 _ _ (Nat.zero_add _) ?_
  · rintro i m news t h tk hi ⟨odF, odB, odO, kF, kB, kO, vF, nF, nW, tv, prs, rfl, nm, hp, hne, htb, hdF, hdB, hdO, x⟩ F N
    have hpl : (if Str.ofString "place" = Str.ofString "place" then some (Value.int (2 + (i : Int) * 2) t) else m (Str.ofString "place")) = some (.int (2 + (i : Int) * 2) t) := if_pos rfl
    have nm' : Nm S (fun y => if y = Str.ofString "place" then some (.int (2 + (i : Int) * 2) t) else m y) := ⟨(if_neg (by decide)).trans nm.numbers, (if_neg (by decide)).trans nm.sizes, (if_neg (by decide)).trans nm.front, (if_neg (by decide)).trans nm.one⟩
    refine turn01 O (List.forall_mem_cons.mpr ⟨.inl hOI, hp⟩) X0 T B CB F nm' hpl (News.sub N Led.sub_pair) hdF hdB hdO hN (by omega) (by omega) hl2 { x with tup := x.tup.mono fun q h => .tail _ h } (by omega) fun h' tk m' odF' odB' odO' kF' kB' kO' vF' nF' nW' tv' prs' F nm N hp' hdF hdB hdO y hs => ?_
    have hIm := hs _ (.head _)
    refine ⟨rfl, h', tk, m', Led w S odF' odB' odO' vF' nF' vF' nW' tv' nT (off I prs'), rfl, F, News.sub N (fun p hp => ?_), fun p hp => ?_, odF', odB', odO', kF', kB', kO', vF', nF', nW', tv', off I prs', rfl, nm, fun q hq => hp' q (mem_off.mp hq).1, fun q hq => (mem_off.mp hq).2, mem_off.mpr ⟨hs _ (.tail _ htb), hne _ htb⟩, hdF, hdB, hdO, { y with tup := fun k v hkv => ?_ }⟩
    · rcases List.mem_cons.mp hp with rfl | hp
      · exact Led.m_prs hIm
      · exact Led.prs_mono (fun q hq => (mem_off.mp hq).1) p hp
    · rcases Led.le O p hp with h | h
      · exact Nat.ne_of_lt (Nat.lt_of_le_of_lt h hOI)
      · exact (mem_off.mp h).2
    · obtain ⟨p, t', v', e, hm⟩ := y.tup k v hkv
      refine ⟨p, t', v', e, mem_off.mpr ⟨hm, ?_⟩⟩
      refine News.ne N (Led.m_prs hm) (Led.m_prs hIm) fun e => ?_
      have := congrArg Obj.cls e
      simp [krsIt] at this
  · rintro m news h tk ⟨odF, odB, odO, kF, kB, kO, vF, nF, nW, tv, prs, rfl, nm, hp, hne, htb, hdF, hdB, hdO, x⟩ F N
    exact q h tk m odF odB odO kF kB kO vF nF nW tv prs F nm N hp hdF hdB hdO x htb
  · exact ⟨odF, odB, odO, kF, kB, kO, vF, nF, nW, tv, prs, rfl, ⟨rfl, rfl, rfl, rfl⟩, hp, hPI, htb, hdF, hdB, hdO, x⟩
end
end Mine
end
section
open PySem PySem.W PyProof.Rows PySem.Calls PyProof.V PySem.Spec
set_option maxRecDepth 100000
namespace Mine
section
variable {prog : Program} {w : World} {A : Around} {E : Value → Shared → Prop} {s : Shared} {h₀ : Heap} {L : Addr} {m : Str → Option Value} {env : Env}
/-- the rest of a comprehension whose element is its own int -/
theorem rest_ints {x : Str} {px : Pos} {scope : Scope} {cl : List (Str × Addr)} {S : List (Addr × Obj) → Prop} {Fin : List Value → List (Addr × Obj) → Prop} {news : List (Addr × Obj)} (hS : S news) (hkind : scope.kind = .function) (hdb : (x == ("__debug__" : Str)) = false) (hx : scope.names.lookup x = some .local) :
    ∀ (k i : Nat) (ys : List Value) (l : List Int), IntsAre ys l → (∀ ys' l', IntsAre ys' l' → ys'.length = ys.length + k → Fin ys' news) → LCg.CompRest prog w A h₀ L m env (.Name x px) x scope cl s S (fun _ v => ∃ k u, v = .int k u) Fin k i ys news
  | 0, i, ys, l, hi, fin => LCg.CompRest.zero (fin ys l hi rfl)
  | k + 1, i, ys, l, hi, fin => by
    refine LCg.CompRest.succ ?_
    intro v I oI C oC D m₂ h tk E' hv hC hxv F N off ne
    obtain ⟨z, u, rfl⟩ := hv
    have hg : h.get? C = some oC := (N (C, oC) (.tail _ (.head _))).1
    refine wpAny_Name (wpAny_loadName_local (by show (relabel scope env).kind = _; exact hkind) (lookup_relabel_local hx) (hC.ns hg) hxv ?_) hdb
    exact LCg.CompEnd.intro F N news (fun p hp => hp) off hS (rest_ints hS hkind hdb hx k (i + 1) (ys ++ [.int z u]) (l ++ [z]) (hi.append (IntsAre.cons z u IntsAre.nil)) fun ys' l' h1 h2 => fin ys' l' h1 (by rw [h2, List.length_append, List.length_singleton]; omega))
def KsMark (_ : List Int) : Prop := True
def SetSrc (w : World) (A : Around) (h₀ : Heap) (L : Addr) (m : Str → Option Value) (ks : List Int) (Q : Value → Shared → Prop) (xv : Value) (s₁ : Shared) : Prop :=
  ∃ a oa news, xv = .ref a ∧ A.handled = none ∧ Fr h₀ L s₁.heap m ∧ News h₀ L s₁.heap news ∧ (a, oa) ∈ news ∧ UnOf w oa ks ∧
      ∀ D h tk ys l, IntsAre ys l → ys.length ≤ 7 → Fr h₀ L h m → News h₀ L h ((D, LCg.lst ys) :: news) → LCg.Off1 D news → Q (.ref D) { s₁ with heap := h, toks := tk }
theorem SetSrc.intro {w : World} {A : Around} {ks : List Int} {Q : Value → Shared → Prop} {a : Addr} {oa : Obj} {news : List (Addr × Obj)} (hh : A.handled = none) (F : Fr h₀ L s.heap m) (N : News h₀ L s.heap news) (hm : (a, oa) ∈ news) (x : UnOf w oa ks)
    (h : ∀ D h tk ys l, IntsAre ys l → ys.length ≤ 7 → Fr h₀ L h m → News h₀ L h ((D, LCg.lst ys) :: news) → LCg.Off1 D news → Q (.ref D) { s with heap := h, toks := tk }) : SetSrc w A h₀ L m ks Q (.ref a) s := ⟨a, oa, news, rfl, hh, F, N, hm, x, h⟩
theorem ListComp_set {iter : Expr} {x : Str} {px pe : Pos} {scope : Scope} {cl : List (Str × Addr)} {pos : Pos} {ks : List Int} {Q : Value → Shared → Prop}
    (hclos : closureFor scope env = pure cl) (hcell : ∀ y ∈ scope.names, y.2 ≠ .cell) (hkind : scope.kind = .function)
    (hnames : ∀ y ∈ scope.names, y.2 = .local → scope.names.lookup y.1 = some .local) (hx : scope.names.lookup x = some .local)
    (F₀ : Fr h₀ L s.heap m) (_hk : KsMark ks)
    (h : wpAny (model prog w) A (eval iter env) (SetSrc w A h₀ L m ks Q) E s)
    (hs : ∀ x, foldedSetIterable iter env x = pure x := by intro _; rfl) (hdb : (x == ("__debug__" : Str)) = false := by decide) :
    wpAny (model prog w) A (eval (.ListComp (.Name x pe) [⟨.Name x px, iter, [], 0⟩] scope pos) env) Q E s := by
  rw [eval_ListComp]
  refine wpAny_comprehension_free (use := none) rfl hs hclos hkind hnames (wpAny_mono h (fun xv s₁ h₁ => ?_) fun _ _ e => e)
  obtain ⟨ax, oa, news, rfl, hh, F, N, hm, ⟨mask, mm, hso, hlm, hmm, _⟩, R⟩ := h₁
  obtain ⟨hex, es, ep, t, hd, y⟩ := hso
  have ha := (N _ hm).1
  have hlt : ax < s₁.heap.objs.size := Heap.lt_size ha
  refine pyIter_set ha hex hd y hlm ?_
  have up : ∀ b o, s₁.heap.get? b = some o → (s₁.heap.push (itObj (btOf w) mm ep ax 0)).get? b = some o := fun b o e => Heap.get?_push_of_some _ e
  have hS : (ax, oa) ∈ news := hm
  refine LCg.block_U (S := fun nw => (ax, oa) ∈ nw) (P := fun _ v => ∃ k u, v = .int k u) (walks_set hh (Nat.ne_of_lt hlt) hd y hmm hlm) (by rw [sizeLine_eq]; have := pl_len mm; omega) (fun i h st => ⟨_, st.1⟩)
    (fun i h h' o nw st e e' _ Nw hSw => ⟨by rw [e']; rw [← e]; exact st.1, (Nw _ hSw).1⟩) hcell hkind hx ⟨Heap.get?_push_size _ rfl, up _ _ ha⟩ (fun b hb => ?_)
    (F.keeps up) (N.grown up) (Nat.ne_of_lt F.ns.lt) (next_is_new F) (fun p hp => Nat.ne_of_lt (Heap.lt_size (N p hp).1)) hS
    (rest_ints (Fin := fun ys nw => nw = news ∧ ∃ l, IntsAre ys l ∧ ys.length ≤ 7) hS hkind hdb hx _ 0 [] [] IntsAre.nil fun ys' l' h1 h2 => ⟨rfl, l', h1, by rw [h2]; have := pl_len mm; simpa using this⟩) ?_
  · show b < (s₁.heap.push _).objs.size
    rw [Heap.size_push]
    rcases List.mem_cons.mp hb with rfl | hb
    · exact Nat.lt_succ_self _
    · rw [List.mem_singleton.mp hb]; exact Nat.lt_succ_of_lt hlt
  · intro D C h tk m' ys news' F' N' o1 hn hC₀ hD₀ hCL hDL hCD offC fin
    obtain ⟨rfl, l, hi, hl7⟩ := fin
    refine ⟨m', hn, fun h'' hs'' => R D h'' tk ys l hi hl7 (F'.change hs'' hCL hC₀) (fun p hp => ?_) o1⟩
    refine ⟨hs''.extBut _ _ ?_ (N' p hp).1, (N' p hp).2⟩
    rcases List.mem_cons.mp hp with rfl | hp
    · exact Ne.symm hCD
    · exact offC p hp
end
end Mine
end
section
open PySem PySem.W PyProof.Rows PySem.Calls PyProof.V PySem.Spec
set_option maxRecDepth 100000
namespace Mine
theorem Led.all5 {w : World} {S : St} {odF odB odO : Obj} {vF vW : List Value} {nF nW nT : Nat} {tv : Value} {prs : List (Addr × Obj)} {l : Addr} {a b c d : Prop} (h : a ∧ b ∧ c ∧ d ∧ AllLt l (Led w S odF odB odO vF nF vW nW tv nT prs)) : ∀ p ∈ Led w S odF odB odO vF nF vW nW tv nT prs, p.1 < l := allLt_mem h.2.2.2.2
theorem list_loop {prog : Program} {w : World} {A : Around} {E : Value → Shared → Prop} {s : Shared} {env : Env} {h₀ : Heap} {x : Str} {body : List Stmt} {Q : Flow → Shared → Prop} {l n : Nat} {vs : List Value} {ns : List Int} {m₀ : Str → Option Value} {news : List (Addr × Obj)}
    (hh : A.handled = none) (F : Fr h₀ env.locals s.heap m₀) (N : News h₀ env.locals s.heap ((l, listOf vs.toArray n) :: news)) (hi : IntsAre vs ns) (hnl : ∀ p ∈ news, p.1 ≠ l)
    (rest : ∀ I : Nat, l < I → (∀ p ∈ news, p.1 < I) → ∃ J : (Str → Option Value) → List (Addr × Obj) → Prop, J m₀ news ∧
      (∀ k t m₁ news₁ own h tk, J m₁ news₁ → (∀ p ∈ own, l ≤ p.1) → Fr h₀ env.locals h (fun y => if y = x then some (.int k t) else m₁ y) → News h₀ env.locals h (own ++ news₁) →
        wpAny (model prog w) A (execs body env) (fun f s₂ => f = .next ∧ ∃ h' tk' m' news', s₂ = { s with heap := h', toks := tk' } ∧ Fr h₀ env.locals h' m' ∧ News h₀ env.locals h' (own ++ news') ∧ (∀ p ∈ news', p.1 ≠ I) ∧ J m' news') E { s with heap := h, toks := tk }) ∧
      ∀ m₁ news₁ h tk, J m₁ news₁ → Fr h₀ env.locals h m₁ → News h₀ env.locals h news₁ → Q .next { s with heap := h, toks := tk }) :
    wpAny (model prog w) A (pyIter (.ref l)) (fun it s₂ => LoopAtV prog w A h₀ env x body Q E it s₂) E s := by
  have hl : s.heap.IsList l vs.toArray := ⟨_, (N _ (.head _)).1, rfl, n, rfl⟩
  have hlt : l < s.heap.objs.size := Heap.lt_size (N _ (.head _)).1
  refine wpAny_pyIter_list hl ?_
  obtain ⟨J, hJ, step, fin⟩ := rest s.heap.objs.size hlt fun p hp => Heap.lt_size (N p (.tail _ hp)).1
  have hnew := next_is_new F
  have up : ∀ b o, s.heap.get? b = some o → (s.heap.push { cls := .type "list_iterator", data := .fields #[.ref l, .int 0 0] }).get? b = some o := fun b o e => Heap.get?_push_of_some _ e
  refine ⟨_, _, _, vs.toArray.size, _, _, m₀, news, fun _ => J, rfl, Walks.list hh s.heap.objs.size l (Nat.ne_of_lt hlt) vs.toArray, ?_, ?_, ?_, ⟨⟨_, Heap.get?_push_size _ rfl, rfl, rfl⟩, hl.push _⟩, F.push _, fun p hp => ⟨up _ _ (N p (.tail _ hp)).1, (N p (.tail _ hp)).2⟩, hJ, ?_, ?_⟩
  · intro hm
    rcases List.mem_cons.mp hm with h | h
    · exact absurd F.ns.lt (h ▸ Nat.lt_irrefl _)
    · exact (N _ (.head _)).2.1 (List.mem_singleton.mp h).symm
  · intro b hb
    rw [List.mem_singleton.mp hb]
    exact hnew
  · intro p hp hI
    exact absurd (Heap.lt_size (N p (.tail _ hp)).1) ((List.mem_singleton.mp hI) ▸ Nat.lt_irrefl _)
  · rintro i v m₁ news₁ s₁ own ⟨hh', tk', rfl⟩ hin hv hJ' hoff hown hget hall hst F₁ N₁
    obtain ⟨k, t, rfl, hk⟩ := IntsAre.at hi i v (by simpa using hv)
    refine wpAny_mono (step k t m₁ news₁ own hh' tk' hJ' (fun p hp => ?_) F₁ N₁) (fun f s₂ p => ?_) fun _ _ e => e
    · rcases List.mem_cons.mp (hown p hp) with h | h
      · rw [h]; exact Nat.le_of_lt hlt
      · rw [List.mem_singleton.mp h]; exact Nat.le_refl _
    · obtain ⟨rfl, h', tk, m', news', rfl, F', N', ho, j⟩ := p
      exact .next ⟨rfl, h', tk, m', news', rfl, F', N', fun p hp hI => ho p hp (List.mem_singleton.mp hI), j⟩
  · rintro h' tk m' news' F' N' _ hJ'
    exact fin m' news' h' tk hJ' F' N'
end Mine
end
section
open PySem PySem.W PyProof.Rows PySem.Calls PyProof.V PySem.Spec
set_option maxRecDepth 100000
namespace Mine
local macro_rules | `(tactic| walk_at "no such key") => `(tactic| fail)
local macro_rules | `(tactic| k_room) => `(tactic| first | ((try simp only [depth_under_make, depth_under_kw, depth_in1, depth_deeper, depth_caller, depth_mark, recursionLimit]); first | decide | omega))
local macro_rules | `(tactic| k_mem) => `(tactic| first | assumption | exact Led.m_L1 | exact Led.m_L2 | exact Led.m_L3 | exact Led.m_L4 | exact Led.m_lN | exact Led.m_lS | exact Led.m_lT | exact Led.m_lF | exact Led.m_lW | exact Led.m_fB | exact Led.m_cB | exact Led.m_xB | exact Led.m_dxB | exact Led.m_dB | exact Led.m_fM | exact Led.m_cM | exact Led.m_xF | exact Led.m_dxF | exact Led.m_dF | exact Led.m_fO | exact Led.m_cO | exact Led.m_xO | exact Led.m_dxO | exact Led.m_dO | exact Led.m_prs (by assumption) | exact List.Mem.head _ | (refine' List.Mem.tail _ ?_; k_mem))
local macro_rules | `(tactic| k_ne) => `(tactic| first | assumption | exact Nat.ne_of_lt (by assumption) | exact Nat.ne_of_gt (by assumption) | (refine neN ?_; (try dsimp only); omega))
local macro_rules | `(tactic| lcg_off) => `(tactic| first | exact List.forall_mem_nil _ | (refine List.forall_mem_cons.mpr ⟨?ua, ?ub⟩; (case ua => first | assumption | exact Led.lt0 (by assumption) | exact Led.lt1 (by assumption) | exact Led.lt2 (by assumption) | exact Led.lt3 (by assumption) | exact Led.lt4 (by assumption) | exact Led.lt5 (by assumption) | exact Led.lt6 (by assumption)); (case ub => lcg_off)))
local macro_rules | `(tactic| lcg_sub) => `(tactic| first | exact (fun _ h => h) | exact (fun _ h => .tail _ (h)) | exact (fun _ h => .tail _ (.tail _ (h))) | exact (fun _ h => .tail _ (.tail _ (.tail _ (h)))) | exact (fun _ h => .tail _ (.tail _ (.tail _ (.tail _ (h))))) | exact (fun _ h => .tail _ (.tail _ (.tail _ (.tail _ (.tail _ (h)))))) | exact (fun _ h => .tail _ (.tail _ (.tail _ (.tail _ (.tail _ (.tail _ (h))))))) | exact (fun _ h => .tail _ (.tail _ (.tail _ (.tail _ (.tail _ (.tail _ (.tail _ (h)))))))) | exact (fun _ h => .tail _ (.tail _ (.tail _ (.tail _ (.tail _ (.tail _ (.tail _ (.tail _ (h))))))))))
local macro_rules | `(tactic| walk_at "call ref") => `(tactic| (k_here; (with_reducible show wpAny _ _ (call (Value.ref 99) [Value.ref _, Value.int _ _]) _ _ _); k_dflt (first | (refine' gotF_miss (tmps := []) ?O ?hp ?X ?T ?B ?CB ?hA ?hf ?hke ?hh ?hdep ?hun ?F ?N ?hup ?hd ?hlen ?hv ?_; (case O => assumption); (case hp => assumption); (case X => k_asm); (case T => k_asm); (case B => assumption); (case CB => assumption); (case hA => exact rfl); (case hf => exact rfl); (case hke => exact rfl); (case hh => exact rfl); (case hdep => exact Nat.le_of_ble_eq_true rfl); (case hun => exact Nat.le_of_ble_eq_true rfl); (case F => k_asm); (case N => assumption); (case hup => lcg_off); (case hd => assumption); (case hlen => assumption); (case hv => assumption); k_whole) | (refine' gotF_miss (tmps := [_]) ?O ?hp ?X ?T ?B ?CB ?hA ?hf ?hke ?hh ?hdep ?hun ?F ?N ?hup ?hd ?hlen ?hv ?_; (case O => assumption); (case hp => assumption); (case X => k_asm); (case T => k_asm); (case B => assumption); (case CB => assumption); (case hA => exact rfl); (case hf => exact rfl); (case hke => exact rfl); (case hh => exact rfl); (case hdep => exact Nat.le_of_ble_eq_true rfl); (case hun => exact Nat.le_of_ble_eq_true rfl); (case F => k_asm); (case N => assumption); (case hup => lcg_off); (case hd => assumption); (case hlen => assumption); (case hv => assumption); k_whole) | (refine' gotF_miss (tmps := [_, _]) ?O ?hp ?X ?T ?B ?CB ?hA ?hf ?hke ?hh ?hdep ?hun ?F ?N ?hup ?hd ?hlen ?hv ?_; (case O => assumption); (case hp => assumption); (case X => k_asm); (case T => k_asm); (case B => assumption); (case CB => assumption); (case hA => exact rfl); (case hf => exact rfl); (case hke => exact rfl); (case hh => exact rfl); (case hdep => exact Nat.le_of_ble_eq_true rfl); (case hun => exact Nat.le_of_ble_eq_true rfl); (case F => k_asm); (case N => assumption); (case hup => lcg_off); (case hd => assumption); (case hlen => assumption); (case hv => assumption); k_whole) | (refine' gotF_miss (tmps := [_, _, _]) ?O ?hp ?X ?T ?B ?CB ?hA ?hf ?hke ?hh ?hdep ?hun ?F ?N ?hup ?hd ?hlen ?hv ?_; (case O => assumption); (case hp => assumption); (case X => k_asm); (case T => k_asm); (case B => assumption); (case CB => assumption); (case hA => exact rfl); (case hf => exact rfl); (case hke => exact rfl); (case hh => exact rfl); (case hdep => exact Nat.le_of_ble_eq_true rfl); (case hun => exact Nat.le_of_ble_eq_true rfl); (case F => k_asm); (case N => assumption); (case hup => lcg_off); (case hd => assumption); (case hlen => assumption); (case hv => assumption); k_whole) | (refine' gotF_miss (tmps := [_, _, _, _]) ?O ?hp ?X ?T ?B ?CB ?hA ?hf ?hke ?hh ?hdep ?hun ?F ?N ?hup ?hd ?hlen ?hv ?_; (case O => assumption); (case hp => assumption); (case X => k_asm); (case T => k_asm); (case B => assumption); (case CB => assumption); (case hA => exact rfl); (case hf => exact rfl); (case hke => exact rfl); (case hh => exact rfl); (case hdep => exact Nat.le_of_ble_eq_true rfl); (case hun => exact Nat.le_of_ble_eq_true rfl); (case F => k_asm); (case N => assumption); (case hup => lcg_off); (case hd => assumption); (case hlen => assumption); (case hv => assumption); k_whole) | (refine' gotB_miss (tmps := []) ?O ?hp ?X ?T ?B ?CB ?hA ?hf ?hke ?hh ?hdep ?hun ?F ?N ?hup ?hd ?hlen ?hv ?_; (case O => assumption); (case hp => assumption); (case X => k_asm); (case T => k_asm); (case B => assumption); (case CB => assumption); (case hA => exact rfl); (case hf => exact rfl); (case hke => exact rfl); (case hh => exact rfl); (case hdep => exact Nat.le_of_ble_eq_true rfl); (case hun => exact Nat.le_of_ble_eq_true rfl); (case F => k_asm); (case N => assumption); (case hup => lcg_off); (case hd => assumption); (case hlen => assumption); (case hv => assumption); k_whole) | (refine' gotB_miss (tmps := [_]) ?O ?hp ?X ?T ?B ?CB ?hA ?hf ?hke ?hh ?hdep ?hun ?F ?N ?hup ?hd ?hlen ?hv ?_; (case O => assumption); (case hp => assumption); (case X => k_asm); (case T => k_asm); (case B => assumption); (case CB => assumption); (case hA => exact rfl); (case hf => exact rfl); (case hke => exact rfl); (case hh => exact rfl); (case hdep => exact Nat.le_of_ble_eq_true rfl); (case hun => exact Nat.le_of_ble_eq_true rfl); (case F => k_asm); (case N => assumption); (case hup => lcg_off); (case hd => assumption); (case hlen => assumption); (case hv => assumption); k_whole) | (refine' gotB_miss (tmps := [_, _]) ?O ?hp ?X ?T ?B ?CB ?hA ?hf ?hke ?hh ?hdep ?hun ?F ?N ?hup ?hd ?hlen ?hv ?_; (case O => assumption); (case hp => assumption); (case X => k_asm); (case T => k_asm); (case B => assumption); (case CB => assumption); (case hA => exact rfl); (case hf => exact rfl); (case hke => exact rfl); (case hh => exact rfl); (case hdep => exact Nat.le_of_ble_eq_true rfl); (case hun => exact Nat.le_of_ble_eq_true rfl); (case F => k_asm); (case N => assumption); (case hup => lcg_off); (case hd => assumption); (case hlen => assumption); (case hv => assumption); k_whole) | (refine' gotB_miss (tmps := [_, _, _]) ?O ?hp ?X ?T ?B ?CB ?hA ?hf ?hke ?hh ?hdep ?hun ?F ?N ?hup ?hd ?hlen ?hv ?_; (case O => assumption); (case hp => assumption); (case X => k_asm); (case T => k_asm); (case B => assumption); (case CB => assumption); (case hA => exact rfl); (case hf => exact rfl); (case hke => exact rfl); (case hh => exact rfl); (case hdep => exact Nat.le_of_ble_eq_true rfl); (case hun => exact Nat.le_of_ble_eq_true rfl); (case F => k_asm); (case N => assumption); (case hup => lcg_off); (case hd => assumption); (case hlen => assumption); (case hv => assumption); k_whole) | (refine' gotB_miss (tmps := [_, _, _, _]) ?O ?hp ?X ?T ?B ?CB ?hA ?hf ?hke ?hh ?hdep ?hun ?F ?N ?hup ?hd ?hlen ?hv ?_; (case O => assumption); (case hp => assumption); (case X => k_asm); (case T => k_asm); (case B => assumption); (case CB => assumption); (case hA => exact rfl); (case hf => exact rfl); (case hke => exact rfl); (case hh => exact rfl); (case hdep => exact Nat.le_of_ble_eq_true rfl); (case hun => exact Nat.le_of_ble_eq_true rfl); (case F => k_asm); (case N => assumption); (case hup => lcg_off); (case hd => assumption); (case hlen => assumption); (case hv => assumption); k_whole) | (refine' gotO_miss (tmps := []) ?O ?hp ?X ?T ?B ?CB ?hA ?hf ?hke ?hh ?hdep ?hun ?F ?N ?hup ?hd ?hlen ?hv ?_; (case O => assumption); (case hp => assumption); (case X => k_asm); (case T => k_asm); (case B => assumption); (case CB => assumption); (case hA => exact rfl); (case hf => exact rfl); (case hke => exact rfl); (case hh => exact rfl); (case hdep => exact Nat.le_of_ble_eq_true rfl); (case hun => exact Nat.le_of_ble_eq_true rfl); (case F => k_asm); (case N => assumption); (case hup => lcg_off); (case hd => assumption); (case hlen => assumption); (case hv => assumption); k_whole) | (refine' gotO_miss (tmps := [_]) ?O ?hp ?X ?T ?B ?CB ?hA ?hf ?hke ?hh ?hdep ?hun ?F ?N ?hup ?hd ?hlen ?hv ?_; (case O => assumption); (case hp => assumption); (case X => k_asm); (case T => k_asm); (case B => assumption); (case CB => assumption); (case hA => exact rfl); (case hf => exact rfl); (case hke => exact rfl); (case hh => exact rfl); (case hdep => exact Nat.le_of_ble_eq_true rfl); (case hun => exact Nat.le_of_ble_eq_true rfl); (case F => k_asm); (case N => assumption); (case hup => lcg_off); (case hd => assumption); (case hlen => assumption); (case hv => assumption); k_whole) | (refine' gotO_miss (tmps := [_, _]) ?O ?hp ?X ?T ?B ?CB ?hA ?hf ?hke ?hh ?hdep ?hun ?F ?N ?hup ?hd ?hlen ?hv ?_; (case O => assumption); (case hp => assumption); (case X => k_asm); (case T => k_asm); (case B => assumption); (case CB => assumption); (case hA => exact rfl); (case hf => exact rfl); (case hke => exact rfl); (case hh => exact rfl); (case hdep => exact Nat.le_of_ble_eq_true rfl); (case hun => exact Nat.le_of_ble_eq_true rfl); (case F => k_asm); (case N => assumption); (case hup => lcg_off); (case hd => assumption); (case hlen => assumption); (case hv => assumption); k_whole) | (refine' gotO_miss (tmps := [_, _, _]) ?O ?hp ?X ?T ?B ?CB ?hA ?hf ?hke ?hh ?hdep ?hun ?F ?N ?hup ?hd ?hlen ?hv ?_; (case O => assumption); (case hp => assumption); (case X => k_asm); (case T => k_asm); (case B => assumption); (case CB => assumption); (case hA => exact rfl); (case hf => exact rfl); (case hke => exact rfl); (case hh => exact rfl); (case hdep => exact Nat.le_of_ble_eq_true rfl); (case hun => exact Nat.le_of_ble_eq_true rfl); (case F => k_asm); (case N => assumption); (case hup => lcg_off); (case hd => assumption); (case hlen => assumption); (case hv => assumption); k_whole) | (refine' gotO_miss (tmps := [_, _, _, _]) ?O ?hp ?X ?T ?B ?CB ?hA ?hf ?hke ?hh ?hdep ?hun ?F ?N ?hup ?hd ?hlen ?hv ?_; (case O => assumption); (case hp => assumption); (case X => k_asm); (case T => k_asm); (case B => assumption); (case CB => assumption); (case hA => exact rfl); (case hf => exact rfl); (case hke => exact rfl); (case hh => exact rfl); (case hdep => exact Nat.le_of_ble_eq_true rfl); (case hun => exact Nat.le_of_ble_eq_true rfl); (case F => k_asm); (case N => assumption); (case hup => lcg_off); (case hd => assumption); (case hlen => assumption); (case hv => assumption); k_whole)); intro l' h' tk' F' N' l1 l2; (try dsimp only [List.cons_append, List.nil_append] at N'); (try (replace l2 := allLt_of l2; simp only [AllLt, and_true] at l2))))
local macro_rules | `(tactic| walk_at "call ref") => `(tactic| (k_here; (with_reducible show wpAny _ _ (call (Value.ref 99) [Value.ref _, Value.int _ _]) _ _ _); k_dflt (first | (refine' gotF_hit (tmps := []) ?O ?hp ?X ?T ?B ?CB ?hA ?hf ?hke ?hh ?hdep ?hun ?F ?N ?hup ?hd ?hlen ?hv ?_; (case O => assumption); (case hp => assumption); (case X => k_asm); (case T => k_asm); (case B => assumption); (case CB => assumption); (case hA => exact rfl); (case hf => exact rfl); (case hke => exact rfl); (case hh => exact rfl); (case hdep => exact Nat.le_of_ble_eq_true rfl); (case hun => exact Nat.le_of_ble_eq_true rfl); (case F => k_asm); (case N => assumption); (case hup => lcg_off); (case hd => assumption); (case hlen => assumption); (case hv => assumption); k_whole) | (refine' gotF_hit (tmps := [_]) ?O ?hp ?X ?T ?B ?CB ?hA ?hf ?hke ?hh ?hdep ?hun ?F ?N ?hup ?hd ?hlen ?hv ?_; (case O => assumption); (case hp => assumption); (case X => k_asm); (case T => k_asm); (case B => assumption); (case CB => assumption); (case hA => exact rfl); (case hf => exact rfl); (case hke => exact rfl); (case hh => exact rfl); (case hdep => exact Nat.le_of_ble_eq_true rfl); (case hun => exact Nat.le_of_ble_eq_true rfl); (case F => k_asm); (case N => assumption); (case hup => lcg_off); (case hd => assumption); (case hlen => assumption); (case hv => assumption); k_whole) | (refine' gotF_hit (tmps := [_, _]) ?O ?hp ?X ?T ?B ?CB ?hA ?hf ?hke ?hh ?hdep ?hun ?F ?N ?hup ?hd ?hlen ?hv ?_; (case O => assumption); (case hp => assumption); (case X => k_asm); (case T => k_asm); (case B => assumption); (case CB => assumption); (case hA => exact rfl); (case hf => exact rfl); (case hke => exact rfl); (case hh => exact rfl); (case hdep => exact Nat.le_of_ble_eq_true rfl); (case hun => exact Nat.le_of_ble_eq_true rfl); (case F => k_asm); (case N => assumption); (case hup => lcg_off); (case hd => assumption); (case hlen => assumption); (case hv => assumption); k_whole) | (refine' gotF_hit (tmps := [_, _, _]) ?O ?hp ?X ?T ?B ?CB ?hA ?hf ?hke ?hh ?hdep ?hun ?F ?N ?hup ?hd ?hlen ?hv ?_; (case O => assumption); (case hp => assumption); (case X => k_asm); (case T => k_asm); (case B => assumption); (case CB => assumption); (case hA => exact rfl); (case hf => exact rfl); (case hke => exact rfl); (case hh => exact rfl); (case hdep => exact Nat.le_of_ble_eq_true rfl); (case hun => exact Nat.le_of_ble_eq_true rfl); (case F => k_asm); (case N => assumption); (case hup => lcg_off); (case hd => assumption); (case hlen => assumption); (case hv => assumption); k_whole) | (refine' gotF_hit (tmps := [_, _, _, _]) ?O ?hp ?X ?T ?B ?CB ?hA ?hf ?hke ?hh ?hdep ?hun ?F ?N ?hup ?hd ?hlen ?hv ?_; (case O => assumption); (case hp => assumption); (case X => k_asm); (case T => k_asm); (case B => assumption); (case CB => assumption); (case hA => exact rfl); (case hf => exact rfl); (case hke => exact rfl); (case hh => exact rfl); (case hdep => exact Nat.le_of_ble_eq_true rfl); (case hun => exact Nat.le_of_ble_eq_true rfl); (case F => k_asm); (case N => assumption); (case hup => lcg_off); (case hd => assumption); (case hlen => assumption); (case hv => assumption); k_whole) | (refine' gotB_hit (tmps := []) ?O ?hp ?X ?T ?B ?CB ?hA ?hf ?hke ?hh ?hdep ?hun ?F ?N ?hup ?hd ?hlen ?hv ?_; (case O => assumption); (case hp => assumption); (case X => k_asm); (case T => k_asm); (case B => assumption); (case CB => assumption); (case hA => exact rfl); (case hf => exact rfl); (case hke => exact rfl); (case hh => exact rfl); (case hdep => exact Nat.le_of_ble_eq_true rfl); (case hun => exact Nat.le_of_ble_eq_true rfl); (case F => k_asm); (case N => assumption); (case hup => lcg_off); (case hd => assumption); (case hlen => assumption); (case hv => assumption); k_whole) | (refine' gotB_hit (tmps := [_]) ?O ?hp ?X ?T ?B ?CB ?hA ?hf ?hke ?hh ?hdep ?hun ?F ?N ?hup ?hd ?hlen ?hv ?_; (case O => assumption); (case hp => assumption); (case X => k_asm); (case T => k_asm); (case B => assumption); (case CB => assumption); (case hA => exact rfl); (case hf => exact rfl); (case hke => exact rfl); (case hh => exact rfl); (case hdep => exact Nat.le_of_ble_eq_true rfl); (case hun => exact Nat.le_of_ble_eq_true rfl); (case F => k_asm); (case N => assumption); (case hup => lcg_off); (case hd => assumption); (case hlen => assumption); (case hv => assumption); k_whole) | (refine' gotB_hit (tmps := [_, _]) ?O ?hp ?X ?T ?B ?CB ?hA ?hf ?hke ?hh ?hdep ?hun ?F ?N ?hup ?hd ?hlen ?hv ?_; (case O => assumption); (case hp => assumption); (case X => k_asm); (case T => k_asm); (case B => assumption); (case CB => assumption); (case hA => exact rfl); (case hf => exact rfl); (case hke => exact rfl); (case hh => exact rfl); (case hdep => exact Nat.le_of_ble_eq_true rfl); (case hun => exact Nat.le_of_ble_eq_true rfl); (case F => k_asm); (case N => assumption); (case hup => lcg_off); (case hd => assumption); (case hlen => assumption); (case hv => assumption); k_whole) | (refine' gotB_hit (tmps := [_, _, _]) ?O ?hp ?X ?T ?B ?CB ?hA ?hf ?hke ?hh ?hdep ?hun ?F ?N ?hup ?hd ?hlen ?hv ?_; (case O => assumption); (case hp => assumption); (case X => k_asm); (case T => k_asm); (case B => assumption); (case CB => assumption); (case hA => exact rfl); (case hf => exact rfl); (case hke => exact rfl); (case hh => exact rfl); (case hdep => exact Nat.le_of_ble_eq_true rfl); (case hun => exact Nat.le_of_ble_eq_true rfl); (case F => k_asm); (case N => assumption); (case hup => lcg_off); (case hd => assumption); (case hlen => assumption); (case hv => assumption); k_whole) | (refine' gotB_hit (tmps := [_, _, _, _]) ?O ?hp ?X ?T ?B ?CB ?hA ?hf ?hke ?hh ?hdep ?hun ?F ?N ?hup ?hd ?hlen ?hv ?_; (case O => assumption); (case hp => assumption); (case X => k_asm); (case T => k_asm); (case B => assumption); (case CB => assumption); (case hA => exact rfl); (case hf => exact rfl); (case hke => exact rfl); (case hh => exact rfl); (case hdep => exact Nat.le_of_ble_eq_true rfl); (case hun => exact Nat.le_of_ble_eq_true rfl); (case F => k_asm); (case N => assumption); (case hup => lcg_off); (case hd => assumption); (case hlen => assumption); (case hv => assumption); k_whole) | (refine' gotO_hit (tmps := []) ?O ?hp ?X ?T ?B ?CB ?hA ?hf ?hke ?hh ?hdep ?hun ?F ?N ?hup ?hd ?hlen ?hv ?_; (case O => assumption); (case hp => assumption); (case X => k_asm); (case T => k_asm); (case B => assumption); (case CB => assumption); (case hA => exact rfl); (case hf => exact rfl); (case hke => exact rfl); (case hh => exact rfl); (case hdep => exact Nat.le_of_ble_eq_true rfl); (case hun => exact Nat.le_of_ble_eq_true rfl); (case F => k_asm); (case N => assumption); (case hup => lcg_off); (case hd => assumption); (case hlen => assumption); (case hv => assumption); k_whole) | (refine' gotO_hit (tmps := [_]) ?O ?hp ?X ?T ?B ?CB ?hA ?hf ?hke ?hh ?hdep ?hun ?F ?N ?hup ?hd ?hlen ?hv ?_; (case O => assumption); (case hp => assumption); (case X => k_asm); (case T => k_asm); (case B => assumption); (case CB => assumption); (case hA => exact rfl); (case hf => exact rfl); (case hke => exact rfl); (case hh => exact rfl); (case hdep => exact Nat.le_of_ble_eq_true rfl); (case hun => exact Nat.le_of_ble_eq_true rfl); (case F => k_asm); (case N => assumption); (case hup => lcg_off); (case hd => assumption); (case hlen => assumption); (case hv => assumption); k_whole) | (refine' gotO_hit (tmps := [_, _]) ?O ?hp ?X ?T ?B ?CB ?hA ?hf ?hke ?hh ?hdep ?hun ?F ?N ?hup ?hd ?hlen ?hv ?_; (case O => assumption); (case hp => assumption); (case X => k_asm); (case T => k_asm); (case B => assumption); (case CB => assumption); (case hA => exact rfl); (case hf => exact rfl); (case hke => exact rfl); (case hh => exact rfl); (case hdep => exact Nat.le_of_ble_eq_true rfl); (case hun => exact Nat.le_of_ble_eq_true rfl); (case F => k_asm); (case N => assumption); (case hup => lcg_off); (case hd => assumption); (case hlen => assumption); (case hv => assumption); k_whole) | (refine' gotO_hit (tmps := [_, _, _]) ?O ?hp ?X ?T ?B ?CB ?hA ?hf ?hke ?hh ?hdep ?hun ?F ?N ?hup ?hd ?hlen ?hv ?_; (case O => assumption); (case hp => assumption); (case X => k_asm); (case T => k_asm); (case B => assumption); (case CB => assumption); (case hA => exact rfl); (case hf => exact rfl); (case hke => exact rfl); (case hh => exact rfl); (case hdep => exact Nat.le_of_ble_eq_true rfl); (case hun => exact Nat.le_of_ble_eq_true rfl); (case F => k_asm); (case N => assumption); (case hup => lcg_off); (case hd => assumption); (case hlen => assumption); (case hv => assumption); k_whole) | (refine' gotO_hit (tmps := [_, _, _, _]) ?O ?hp ?X ?T ?B ?CB ?hA ?hf ?hke ?hh ?hdep ?hun ?F ?N ?hup ?hd ?hlen ?hv ?_; (case O => assumption); (case hp => assumption); (case X => k_asm); (case T => k_asm); (case B => assumption); (case CB => assumption); (case hA => exact rfl); (case hf => exact rfl); (case hke => exact rfl); (case hh => exact rfl); (case hdep => exact Nat.le_of_ble_eq_true rfl); (case hun => exact Nat.le_of_ble_eq_true rfl); (case F => k_asm); (case N => assumption); (case hup => lcg_off); (case hd => assumption); (case hlen => assumption); (case hv => assumption); k_whole)); intro l' h' tk' od' F' N' l1 l2 hd'; (try dsimp only [List.cons_append, List.nil_append] at N'); (try (replace l2 := allLt_of l2; simp only [AllLt, and_true] at l2))))
local macro_rules | `(tactic| walk_at "call ref") => `(tactic| (k_here; (with_reducible show wpAny _ _ (call (Value.ref 85) [Value.ref _]) _ _ _); k_dflt (first | (refine' keysO (tmps := []) ?O ?hp ?X ?T ?B ?CB ?hA ?hf ?hke ?hh ?hdep ?hun ?F ?N ?hup ?hd ?hlen ?_; (case O => assumption); (case hp => assumption); (case X => k_asm); (case T => k_asm); (case B => assumption); (case CB => assumption); (case hA => exact rfl); (case hf => exact rfl); (case hke => exact rfl); (case hh => exact rfl); (case hdep => exact Nat.le_of_ble_eq_true rfl); (case hun => exact Nat.le_of_ble_eq_true rfl); (case F => k_asm); (case N => assumption); (case hup => lcg_off); (case hd => assumption); (case hlen => assumption); k_whole) | (refine' keysO (tmps := [_]) ?O ?hp ?X ?T ?B ?CB ?hA ?hf ?hke ?hh ?hdep ?hun ?F ?N ?hup ?hd ?hlen ?_; (case O => assumption); (case hp => assumption); (case X => k_asm); (case T => k_asm); (case B => assumption); (case CB => assumption); (case hA => exact rfl); (case hf => exact rfl); (case hke => exact rfl); (case hh => exact rfl); (case hdep => exact Nat.le_of_ble_eq_true rfl); (case hun => exact Nat.le_of_ble_eq_true rfl); (case F => k_asm); (case N => assumption); (case hup => lcg_off); (case hd => assumption); (case hlen => assumption); k_whole) | (refine' keysO (tmps := [_, _]) ?O ?hp ?X ?T ?B ?CB ?hA ?hf ?hke ?hh ?hdep ?hun ?F ?N ?hup ?hd ?hlen ?_; (case O => assumption); (case hp => assumption); (case X => k_asm); (case T => k_asm); (case B => assumption); (case CB => assumption); (case hA => exact rfl); (case hf => exact rfl); (case hke => exact rfl); (case hh => exact rfl); (case hdep => exact Nat.le_of_ble_eq_true rfl); (case hun => exact Nat.le_of_ble_eq_true rfl); (case F => k_asm); (case N => assumption); (case hup => lcg_off); (case hd => assumption); (case hlen => assumption); k_whole) | (refine' keysO (tmps := [_, _, _]) ?O ?hp ?X ?T ?B ?CB ?hA ?hf ?hke ?hh ?hdep ?hun ?F ?N ?hup ?hd ?hlen ?_; (case O => assumption); (case hp => assumption); (case X => k_asm); (case T => k_asm); (case B => assumption); (case CB => assumption); (case hA => exact rfl); (case hf => exact rfl); (case hke => exact rfl); (case hh => exact rfl); (case hdep => exact Nat.le_of_ble_eq_true rfl); (case hun => exact Nat.le_of_ble_eq_true rfl); (case F => k_asm); (case N => assumption); (case hup => lcg_off); (case hd => assumption); (case hlen => assumption); k_whole) | (refine' keysO (tmps := [_, _, _, _]) ?O ?hp ?X ?T ?B ?CB ?hA ?hf ?hke ?hh ?hdep ?hun ?F ?N ?hup ?hd ?hlen ?_; (case O => assumption); (case hp => assumption); (case X => k_asm); (case T => k_asm); (case B => assumption); (case CB => assumption); (case hA => exact rfl); (case hf => exact rfl); (case hke => exact rfl); (case hh => exact rfl); (case hdep => exact Nat.le_of_ble_eq_true rfl); (case hun => exact Nat.le_of_ble_eq_true rfl); (case F => k_asm); (case N => assumption); (case hup => lcg_off); (case hd => assumption); (case hlen => assumption); k_whole) | (refine' keysO (tmps := [_, _, _, _, _]) ?O ?hp ?X ?T ?B ?CB ?hA ?hf ?hke ?hh ?hdep ?hun ?F ?N ?hup ?hd ?hlen ?_; (case O => assumption); (case hp => assumption); (case X => k_asm); (case T => k_asm); (case B => assumption); (case CB => assumption); (case hA => exact rfl); (case hf => exact rfl); (case hke => exact rfl); (case hh => exact rfl); (case hdep => exact Nat.le_of_ble_eq_true rfl); (case hun => exact Nat.le_of_ble_eq_true rfl); (case F => k_asm); (case N => assumption); (case hup => lcg_off); (case hd => assumption); (case hlen => assumption); k_whole) | (refine' keysO (tmps := [_, _, _, _, _, _]) ?O ?hp ?X ?T ?B ?CB ?hA ?hf ?hke ?hh ?hdep ?hun ?F ?N ?hup ?hd ?hlen ?_; (case O => assumption); (case hp => assumption); (case X => k_asm); (case T => k_asm); (case B => assumption); (case CB => assumption); (case hA => exact rfl); (case hf => exact rfl); (case hke => exact rfl); (case hh => exact rfl); (case hdep => exact Nat.le_of_ble_eq_true rfl); (case hun => exact Nat.le_of_ble_eq_true rfl); (case F => k_asm); (case N => assumption); (case hup => lcg_off); (case hd => assumption); (case hlen => assumption); k_whole) | (refine' keysO (tmps := [_, _, _, _, _, _, _]) ?O ?hp ?X ?T ?B ?CB ?hA ?hf ?hke ?hh ?hdep ?hun ?F ?N ?hup ?hd ?hlen ?_; (case O => assumption); (case hp => assumption); (case X => k_asm); (case T => k_asm); (case B => assumption); (case CB => assumption); (case hA => exact rfl); (case hf => exact rfl); (case hke => exact rfl); (case hh => exact rfl); (case hdep => exact Nat.le_of_ble_eq_true rfl); (case hun => exact Nat.le_of_ble_eq_true rfl); (case F => k_asm); (case N => assumption); (case hup => lcg_off); (case hd => assumption); (case hlen => assumption); k_whole)); intro l' so' h' tk' F' N' l1 l2 hs'; (try dsimp only [List.cons_append, List.nil_append] at N'); (try (replace l2 := allLt_of l2; simp only [AllLt, and_true] at l2))))
local macro_rules | `(tactic| walk_at "call ref") => `(tactic| (k_here; (with_reducible show wpAny _ _ (call (Value.ref 85) [Value.ref _]) _ _ _); k_dflt (first | (refine' keysSF (tmps := []) ?O ?hp ?X ?T ?B ?CB ?hA ?hf ?hke ?hh ?hdep ?hun ?F ?N ?hup ?hd ?hlen ?h7 ?_; (case O => assumption); (case hp => assumption); (case X => k_asm); (case T => k_asm); (case B => assumption); (case CB => assumption); (case hA => exact rfl); (case hf => exact rfl); (case hke => exact rfl); (case hh => exact rfl); (case hdep => exact Nat.le_of_ble_eq_true rfl); (case hun => exact Nat.le_of_ble_eq_true rfl); (case F => k_asm); (case N => assumption); (case hup => lcg_off); (case hd => assumption); (case hlen => assumption); (case h7 => assumption); k_whole) | (refine' keysSF (tmps := [_]) ?O ?hp ?X ?T ?B ?CB ?hA ?hf ?hke ?hh ?hdep ?hun ?F ?N ?hup ?hd ?hlen ?h7 ?_; (case O => assumption); (case hp => assumption); (case X => k_asm); (case T => k_asm); (case B => assumption); (case CB => assumption); (case hA => exact rfl); (case hf => exact rfl); (case hke => exact rfl); (case hh => exact rfl); (case hdep => exact Nat.le_of_ble_eq_true rfl); (case hun => exact Nat.le_of_ble_eq_true rfl); (case F => k_asm); (case N => assumption); (case hup => lcg_off); (case hd => assumption); (case hlen => assumption); (case h7 => assumption); k_whole) | (refine' keysSF (tmps := [_, _]) ?O ?hp ?X ?T ?B ?CB ?hA ?hf ?hke ?hh ?hdep ?hun ?F ?N ?hup ?hd ?hlen ?h7 ?_; (case O => assumption); (case hp => assumption); (case X => k_asm); (case T => k_asm); (case B => assumption); (case CB => assumption); (case hA => exact rfl); (case hf => exact rfl); (case hke => exact rfl); (case hh => exact rfl); (case hdep => exact Nat.le_of_ble_eq_true rfl); (case hun => exact Nat.le_of_ble_eq_true rfl); (case F => k_asm); (case N => assumption); (case hup => lcg_off); (case hd => assumption); (case hlen => assumption); (case h7 => assumption); k_whole) | (refine' keysSF (tmps := [_, _, _]) ?O ?hp ?X ?T ?B ?CB ?hA ?hf ?hke ?hh ?hdep ?hun ?F ?N ?hup ?hd ?hlen ?h7 ?_; (case O => assumption); (case hp => assumption); (case X => k_asm); (case T => k_asm); (case B => assumption); (case CB => assumption); (case hA => exact rfl); (case hf => exact rfl); (case hke => exact rfl); (case hh => exact rfl); (case hdep => exact Nat.le_of_ble_eq_true rfl); (case hun => exact Nat.le_of_ble_eq_true rfl); (case F => k_asm); (case N => assumption); (case hup => lcg_off); (case hd => assumption); (case hlen => assumption); (case h7 => assumption); k_whole) | (refine' keysSF (tmps := [_, _, _, _]) ?O ?hp ?X ?T ?B ?CB ?hA ?hf ?hke ?hh ?hdep ?hun ?F ?N ?hup ?hd ?hlen ?h7 ?_; (case O => assumption); (case hp => assumption); (case X => k_asm); (case T => k_asm); (case B => assumption); (case CB => assumption); (case hA => exact rfl); (case hf => exact rfl); (case hke => exact rfl); (case hh => exact rfl); (case hdep => exact Nat.le_of_ble_eq_true rfl); (case hun => exact Nat.le_of_ble_eq_true rfl); (case F => k_asm); (case N => assumption); (case hup => lcg_off); (case hd => assumption); (case hlen => assumption); (case h7 => assumption); k_whole) | (refine' keysSF (tmps := [_, _, _, _, _]) ?O ?hp ?X ?T ?B ?CB ?hA ?hf ?hke ?hh ?hdep ?hun ?F ?N ?hup ?hd ?hlen ?h7 ?_; (case O => assumption); (case hp => assumption); (case X => k_asm); (case T => k_asm); (case B => assumption); (case CB => assumption); (case hA => exact rfl); (case hf => exact rfl); (case hke => exact rfl); (case hh => exact rfl); (case hdep => exact Nat.le_of_ble_eq_true rfl); (case hun => exact Nat.le_of_ble_eq_true rfl); (case F => k_asm); (case N => assumption); (case hup => lcg_off); (case hd => assumption); (case hlen => assumption); (case h7 => assumption); k_whole) | (refine' keysSF (tmps := [_, _, _, _, _, _]) ?O ?hp ?X ?T ?B ?CB ?hA ?hf ?hke ?hh ?hdep ?hun ?F ?N ?hup ?hd ?hlen ?h7 ?_; (case O => assumption); (case hp => assumption); (case X => k_asm); (case T => k_asm); (case B => assumption); (case CB => assumption); (case hA => exact rfl); (case hf => exact rfl); (case hke => exact rfl); (case hh => exact rfl); (case hdep => exact Nat.le_of_ble_eq_true rfl); (case hun => exact Nat.le_of_ble_eq_true rfl); (case F => k_asm); (case N => assumption); (case hup => lcg_off); (case hd => assumption); (case hlen => assumption); (case h7 => assumption); k_whole) | (refine' keysSF (tmps := [_, _, _, _, _, _, _]) ?O ?hp ?X ?T ?B ?CB ?hA ?hf ?hke ?hh ?hdep ?hun ?F ?N ?hup ?hd ?hlen ?h7 ?_; (case O => assumption); (case hp => assumption); (case X => k_asm); (case T => k_asm); (case B => assumption); (case CB => assumption); (case hA => exact rfl); (case hf => exact rfl); (case hke => exact rfl); (case hh => exact rfl); (case hdep => exact Nat.le_of_ble_eq_true rfl); (case hun => exact Nat.le_of_ble_eq_true rfl); (case F => k_asm); (case N => assumption); (case hup => lcg_off); (case hd => assumption); (case hlen => assumption); (case h7 => assumption); k_whole) | (refine' keysSB (tmps := []) ?O ?hp ?X ?T ?B ?CB ?hA ?hf ?hke ?hh ?hdep ?hun ?F ?N ?hup ?hd ?hlen ?h7 ?_; (case O => assumption); (case hp => assumption); (case X => k_asm); (case T => k_asm); (case B => assumption); (case CB => assumption); (case hA => exact rfl); (case hf => exact rfl); (case hke => exact rfl); (case hh => exact rfl); (case hdep => exact Nat.le_of_ble_eq_true rfl); (case hun => exact Nat.le_of_ble_eq_true rfl); (case F => k_asm); (case N => assumption); (case hup => lcg_off); (case hd => assumption); (case hlen => assumption); (case h7 => assumption); k_whole) | (refine' keysSB (tmps := [_]) ?O ?hp ?X ?T ?B ?CB ?hA ?hf ?hke ?hh ?hdep ?hun ?F ?N ?hup ?hd ?hlen ?h7 ?_; (case O => assumption); (case hp => assumption); (case X => k_asm); (case T => k_asm); (case B => assumption); (case CB => assumption); (case hA => exact rfl); (case hf => exact rfl); (case hke => exact rfl); (case hh => exact rfl); (case hdep => exact Nat.le_of_ble_eq_true rfl); (case hun => exact Nat.le_of_ble_eq_true rfl); (case F => k_asm); (case N => assumption); (case hup => lcg_off); (case hd => assumption); (case hlen => assumption); (case h7 => assumption); k_whole) | (refine' keysSB (tmps := [_, _]) ?O ?hp ?X ?T ?B ?CB ?hA ?hf ?hke ?hh ?hdep ?hun ?F ?N ?hup ?hd ?hlen ?h7 ?_; (case O => assumption); (case hp => assumption); (case X => k_asm); (case T => k_asm); (case B => assumption); (case CB => assumption); (case hA => exact rfl); (case hf => exact rfl); (case hke => exact rfl); (case hh => exact rfl); (case hdep => exact Nat.le_of_ble_eq_true rfl); (case hun => exact Nat.le_of_ble_eq_true rfl); (case F => k_asm); (case N => assumption); (case hup => lcg_off); (case hd => assumption); (case hlen => assumption); (case h7 => assumption); k_whole) | (refine' keysSB (tmps := [_, _, _]) ?O ?hp ?X ?T ?B ?CB ?hA ?hf ?hke ?hh ?hdep ?hun ?F ?N ?hup ?hd ?hlen ?h7 ?_; (case O => assumption); (case hp => assumption); (case X => k_asm); (case T => k_asm); (case B => assumption); (case CB => assumption); (case hA => exact rfl); (case hf => exact rfl); (case hke => exact rfl); (case hh => exact rfl); (case hdep => exact Nat.le_of_ble_eq_true rfl); (case hun => exact Nat.le_of_ble_eq_true rfl); (case F => k_asm); (case N => assumption); (case hup => lcg_off); (case hd => assumption); (case hlen => assumption); (case h7 => assumption); k_whole) | (refine' keysSB (tmps := [_, _, _, _]) ?O ?hp ?X ?T ?B ?CB ?hA ?hf ?hke ?hh ?hdep ?hun ?F ?N ?hup ?hd ?hlen ?h7 ?_; (case O => assumption); (case hp => assumption); (case X => k_asm); (case T => k_asm); (case B => assumption); (case CB => assumption); (case hA => exact rfl); (case hf => exact rfl); (case hke => exact rfl); (case hh => exact rfl); (case hdep => exact Nat.le_of_ble_eq_true rfl); (case hun => exact Nat.le_of_ble_eq_true rfl); (case F => k_asm); (case N => assumption); (case hup => lcg_off); (case hd => assumption); (case hlen => assumption); (case h7 => assumption); k_whole) | (refine' keysSB (tmps := [_, _, _, _, _]) ?O ?hp ?X ?T ?B ?CB ?hA ?hf ?hke ?hh ?hdep ?hun ?F ?N ?hup ?hd ?hlen ?h7 ?_; (case O => assumption); (case hp => assumption); (case X => k_asm); (case T => k_asm); (case B => assumption); (case CB => assumption); (case hA => exact rfl); (case hf => exact rfl); (case hke => exact rfl); (case hh => exact rfl); (case hdep => exact Nat.le_of_ble_eq_true rfl); (case hun => exact Nat.le_of_ble_eq_true rfl); (case F => k_asm); (case N => assumption); (case hup => lcg_off); (case hd => assumption); (case hlen => assumption); (case h7 => assumption); k_whole) | (refine' keysSB (tmps := [_, _, _, _, _, _]) ?O ?hp ?X ?T ?B ?CB ?hA ?hf ?hke ?hh ?hdep ?hun ?F ?N ?hup ?hd ?hlen ?h7 ?_; (case O => assumption); (case hp => assumption); (case X => k_asm); (case T => k_asm); (case B => assumption); (case CB => assumption); (case hA => exact rfl); (case hf => exact rfl); (case hke => exact rfl); (case hh => exact rfl); (case hdep => exact Nat.le_of_ble_eq_true rfl); (case hun => exact Nat.le_of_ble_eq_true rfl); (case F => k_asm); (case N => assumption); (case hup => lcg_off); (case hd => assumption); (case hlen => assumption); (case h7 => assumption); k_whole) | (refine' keysSB (tmps := [_, _, _, _, _, _, _]) ?O ?hp ?X ?T ?B ?CB ?hA ?hf ?hke ?hh ?hdep ?hun ?F ?N ?hup ?hd ?hlen ?h7 ?_; (case O => assumption); (case hp => assumption); (case X => k_asm); (case T => k_asm); (case B => assumption); (case CB => assumption); (case hA => exact rfl); (case hf => exact rfl); (case hke => exact rfl); (case hh => exact rfl); (case hdep => exact Nat.le_of_ble_eq_true rfl); (case hun => exact Nat.le_of_ble_eq_true rfl); (case F => k_asm); (case N => assumption); (case hup => lcg_off); (case hd => assumption); (case hlen => assumption); (case h7 => assumption); k_whole)); intro l' so' h' tk' F' N' l1 l2 hs'; (try dsimp only [List.cons_append, List.nil_append] at N'); (try (replace l2 := allLt_of l2; simp only [AllLt, and_true] at l2))))
local macro_rules | `(tactic| walk_at "call builtin:len") => `(tactic| (k_here; (with_reducible show wpAny _ _ (call (Value.builtin "len") [Value.ref _]) _ _ _); k_dflt (first | (refine' lenF (tmps := []) ?O ?hp ?X ?T ?B ?CB ?hA ?hf ?hke ?hh ?hdep ?hun ?F ?N ?hup ?hd ?hlen ?_; (case O => assumption); (case hp => assumption); (case X => k_asm); (case T => k_asm); (case B => assumption); (case CB => assumption); (case hA => exact rfl); (case hf => exact rfl); (case hke => exact rfl); (case hh => exact rfl); (case hdep => exact Nat.le_of_ble_eq_true rfl); (case hun => exact Nat.le_of_ble_eq_true rfl); (case F => k_asm); (case N => assumption); (case hup => lcg_off); (case hd => assumption); (case hlen => assumption); k_whole) | (refine' lenF (tmps := [_]) ?O ?hp ?X ?T ?B ?CB ?hA ?hf ?hke ?hh ?hdep ?hun ?F ?N ?hup ?hd ?hlen ?_; (case O => assumption); (case hp => assumption); (case X => k_asm); (case T => k_asm); (case B => assumption); (case CB => assumption); (case hA => exact rfl); (case hf => exact rfl); (case hke => exact rfl); (case hh => exact rfl); (case hdep => exact Nat.le_of_ble_eq_true rfl); (case hun => exact Nat.le_of_ble_eq_true rfl); (case F => k_asm); (case N => assumption); (case hup => lcg_off); (case hd => assumption); (case hlen => assumption); k_whole) | (refine' lenF (tmps := [_, _]) ?O ?hp ?X ?T ?B ?CB ?hA ?hf ?hke ?hh ?hdep ?hun ?F ?N ?hup ?hd ?hlen ?_; (case O => assumption); (case hp => assumption); (case X => k_asm); (case T => k_asm); (case B => assumption); (case CB => assumption); (case hA => exact rfl); (case hf => exact rfl); (case hke => exact rfl); (case hh => exact rfl); (case hdep => exact Nat.le_of_ble_eq_true rfl); (case hun => exact Nat.le_of_ble_eq_true rfl); (case F => k_asm); (case N => assumption); (case hup => lcg_off); (case hd => assumption); (case hlen => assumption); k_whole) | (refine' lenF (tmps := [_, _, _]) ?O ?hp ?X ?T ?B ?CB ?hA ?hf ?hke ?hh ?hdep ?hun ?F ?N ?hup ?hd ?hlen ?_; (case O => assumption); (case hp => assumption); (case X => k_asm); (case T => k_asm); (case B => assumption); (case CB => assumption); (case hA => exact rfl); (case hf => exact rfl); (case hke => exact rfl); (case hh => exact rfl); (case hdep => exact Nat.le_of_ble_eq_true rfl); (case hun => exact Nat.le_of_ble_eq_true rfl); (case F => k_asm); (case N => assumption); (case hup => lcg_off); (case hd => assumption); (case hlen => assumption); k_whole) | (refine' lenF (tmps := [_, _, _, _]) ?O ?hp ?X ?T ?B ?CB ?hA ?hf ?hke ?hh ?hdep ?hun ?F ?N ?hup ?hd ?hlen ?_; (case O => assumption); (case hp => assumption); (case X => k_asm); (case T => k_asm); (case B => assumption); (case CB => assumption); (case hA => exact rfl); (case hf => exact rfl); (case hke => exact rfl); (case hh => exact rfl); (case hdep => exact Nat.le_of_ble_eq_true rfl); (case hun => exact Nat.le_of_ble_eq_true rfl); (case F => k_asm); (case N => assumption); (case hup => lcg_off); (case hd => assumption); (case hlen => assumption); k_whole) | (refine' lenB (tmps := []) ?O ?hp ?X ?T ?B ?CB ?hA ?hf ?hke ?hh ?hdep ?hun ?F ?N ?hup ?hd ?hlen ?_; (case O => assumption); (case hp => assumption); (case X => k_asm); (case T => k_asm); (case B => assumption); (case CB => assumption); (case hA => exact rfl); (case hf => exact rfl); (case hke => exact rfl); (case hh => exact rfl); (case hdep => exact Nat.le_of_ble_eq_true rfl); (case hun => exact Nat.le_of_ble_eq_true rfl); (case F => k_asm); (case N => assumption); (case hup => lcg_off); (case hd => assumption); (case hlen => assumption); k_whole) | (refine' lenB (tmps := [_]) ?O ?hp ?X ?T ?B ?CB ?hA ?hf ?hke ?hh ?hdep ?hun ?F ?N ?hup ?hd ?hlen ?_; (case O => assumption); (case hp => assumption); (case X => k_asm); (case T => k_asm); (case B => assumption); (case CB => assumption); (case hA => exact rfl); (case hf => exact rfl); (case hke => exact rfl); (case hh => exact rfl); (case hdep => exact Nat.le_of_ble_eq_true rfl); (case hun => exact Nat.le_of_ble_eq_true rfl); (case F => k_asm); (case N => assumption); (case hup => lcg_off); (case hd => assumption); (case hlen => assumption); k_whole) | (refine' lenB (tmps := [_, _]) ?O ?hp ?X ?T ?B ?CB ?hA ?hf ?hke ?hh ?hdep ?hun ?F ?N ?hup ?hd ?hlen ?_; (case O => assumption); (case hp => assumption); (case X => k_asm); (case T => k_asm); (case B => assumption); (case CB => assumption); (case hA => exact rfl); (case hf => exact rfl); (case hke => exact rfl); (case hh => exact rfl); (case hdep => exact Nat.le_of_ble_eq_true rfl); (case hun => exact Nat.le_of_ble_eq_true rfl); (case F => k_asm); (case N => assumption); (case hup => lcg_off); (case hd => assumption); (case hlen => assumption); k_whole) | (refine' lenB (tmps := [_, _, _]) ?O ?hp ?X ?T ?B ?CB ?hA ?hf ?hke ?hh ?hdep ?hun ?F ?N ?hup ?hd ?hlen ?_; (case O => assumption); (case hp => assumption); (case X => k_asm); (case T => k_asm); (case B => assumption); (case CB => assumption); (case hA => exact rfl); (case hf => exact rfl); (case hke => exact rfl); (case hh => exact rfl); (case hdep => exact Nat.le_of_ble_eq_true rfl); (case hun => exact Nat.le_of_ble_eq_true rfl); (case F => k_asm); (case N => assumption); (case hup => lcg_off); (case hd => assumption); (case hlen => assumption); k_whole) | (refine' lenB (tmps := [_, _, _, _]) ?O ?hp ?X ?T ?B ?CB ?hA ?hf ?hke ?hh ?hdep ?hun ?F ?N ?hup ?hd ?hlen ?_; (case O => assumption); (case hp => assumption); (case X => k_asm); (case T => k_asm); (case B => assumption); (case CB => assumption); (case hA => exact rfl); (case hf => exact rfl); (case hke => exact rfl); (case hh => exact rfl); (case hdep => exact Nat.le_of_ble_eq_true rfl); (case hun => exact Nat.le_of_ble_eq_true rfl); (case F => k_asm); (case N => assumption); (case hup => lcg_off); (case hd => assumption); (case hlen => assumption); k_whole) | (refine' lenO (tmps := []) ?O ?hp ?X ?T ?B ?CB ?hA ?hf ?hke ?hh ?hdep ?hun ?F ?N ?hup ?hd ?hlen ?_; (case O => assumption); (case hp => assumption); (case X => k_asm); (case T => k_asm); (case B => assumption); (case CB => assumption); (case hA => exact rfl); (case hf => exact rfl); (case hke => exact rfl); (case hh => exact rfl); (case hdep => exact Nat.le_of_ble_eq_true rfl); (case hun => exact Nat.le_of_ble_eq_true rfl); (case F => k_asm); (case N => assumption); (case hup => lcg_off); (case hd => assumption); (case hlen => assumption); k_whole) | (refine' lenO (tmps := [_]) ?O ?hp ?X ?T ?B ?CB ?hA ?hf ?hke ?hh ?hdep ?hun ?F ?N ?hup ?hd ?hlen ?_; (case O => assumption); (case hp => assumption); (case X => k_asm); (case T => k_asm); (case B => assumption); (case CB => assumption); (case hA => exact rfl); (case hf => exact rfl); (case hke => exact rfl); (case hh => exact rfl); (case hdep => exact Nat.le_of_ble_eq_true rfl); (case hun => exact Nat.le_of_ble_eq_true rfl); (case F => k_asm); (case N => assumption); (case hup => lcg_off); (case hd => assumption); (case hlen => assumption); k_whole) | (refine' lenO (tmps := [_, _]) ?O ?hp ?X ?T ?B ?CB ?hA ?hf ?hke ?hh ?hdep ?hun ?F ?N ?hup ?hd ?hlen ?_; (case O => assumption); (case hp => assumption); (case X => k_asm); (case T => k_asm); (case B => assumption); (case CB => assumption); (case hA => exact rfl); (case hf => exact rfl); (case hke => exact rfl); (case hh => exact rfl); (case hdep => exact Nat.le_of_ble_eq_true rfl); (case hun => exact Nat.le_of_ble_eq_true rfl); (case F => k_asm); (case N => assumption); (case hup => lcg_off); (case hd => assumption); (case hlen => assumption); k_whole) | (refine' lenO (tmps := [_, _, _]) ?O ?hp ?X ?T ?B ?CB ?hA ?hf ?hke ?hh ?hdep ?hun ?F ?N ?hup ?hd ?hlen ?_; (case O => assumption); (case hp => assumption); (case X => k_asm); (case T => k_asm); (case B => assumption); (case CB => assumption); (case hA => exact rfl); (case hf => exact rfl); (case hke => exact rfl); (case hh => exact rfl); (case hdep => exact Nat.le_of_ble_eq_true rfl); (case hun => exact Nat.le_of_ble_eq_true rfl); (case F => k_asm); (case N => assumption); (case hup => lcg_off); (case hd => assumption); (case hlen => assumption); k_whole) | (refine' lenO (tmps := [_, _, _, _]) ?O ?hp ?X ?T ?B ?CB ?hA ?hf ?hke ?hh ?hdep ?hun ?F ?N ?hup ?hd ?hlen ?_; (case O => assumption); (case hp => assumption); (case X => k_asm); (case T => k_asm); (case B => assumption); (case CB => assumption); (case hA => exact rfl); (case hf => exact rfl); (case hke => exact rfl); (case hh => exact rfl); (case hdep => exact Nat.le_of_ble_eq_true rfl); (case hun => exact Nat.le_of_ble_eq_true rfl); (case F => k_asm); (case N => assumption); (case hup => lcg_off); (case hd => assumption); (case hlen => assumption); k_whole)); intro u' h' tk' F' N'; (try dsimp only [List.cons_append, List.nil_append] at N')))
local macro_rules | `(tactic| walk_at "call ref") => `(tactic| (k_here; (with_reducible show wpAny _ _ (call (Value.ref 106) [Value.ref _, Value.int _ _]) _ _ _); k_dflt (first | (refine' deletedB (tmps := []) ?O ?hp ?X ?T ?B ?CB ?hA ?hf ?hke ?hh ?hdep ?hun ?F ?N ?hup ?hd ?hlen ?hz ?hT ?hb ?_; (case O => assumption); (case hp => assumption); (case X => k_asm); (case T => k_asm); (case B => assumption); (case CB => assumption); (case hA => exact rfl); (case hf => exact rfl); (case hke => exact rfl); (case hh => exact rfl); (case hdep => exact Nat.le_of_ble_eq_true rfl); (case hun => exact Nat.le_of_ble_eq_true rfl); (case F => k_asm); (case N => assumption); (case hup => lcg_off); (case hd => assumption); (case hlen => assumption); (case hz => assumption); (case hT => assumption); (case hb => assumption); k_whole) | (refine' deletedB (tmps := [_]) ?O ?hp ?X ?T ?B ?CB ?hA ?hf ?hke ?hh ?hdep ?hun ?F ?N ?hup ?hd ?hlen ?hz ?hT ?hb ?_; (case O => assumption); (case hp => assumption); (case X => k_asm); (case T => k_asm); (case B => assumption); (case CB => assumption); (case hA => exact rfl); (case hf => exact rfl); (case hke => exact rfl); (case hh => exact rfl); (case hdep => exact Nat.le_of_ble_eq_true rfl); (case hun => exact Nat.le_of_ble_eq_true rfl); (case F => k_asm); (case N => assumption); (case hup => lcg_off); (case hd => assumption); (case hlen => assumption); (case hz => assumption); (case hT => assumption); (case hb => assumption); k_whole) | (refine' deletedB (tmps := [_, _]) ?O ?hp ?X ?T ?B ?CB ?hA ?hf ?hke ?hh ?hdep ?hun ?F ?N ?hup ?hd ?hlen ?hz ?hT ?hb ?_; (case O => assumption); (case hp => assumption); (case X => k_asm); (case T => k_asm); (case B => assumption); (case CB => assumption); (case hA => exact rfl); (case hf => exact rfl); (case hke => exact rfl); (case hh => exact rfl); (case hdep => exact Nat.le_of_ble_eq_true rfl); (case hun => exact Nat.le_of_ble_eq_true rfl); (case F => k_asm); (case N => assumption); (case hup => lcg_off); (case hd => assumption); (case hlen => assumption); (case hz => assumption); (case hT => assumption); (case hb => assumption); k_whole) | (refine' deletedB (tmps := [_, _, _]) ?O ?hp ?X ?T ?B ?CB ?hA ?hf ?hke ?hh ?hdep ?hun ?F ?N ?hup ?hd ?hlen ?hz ?hT ?hb ?_; (case O => assumption); (case hp => assumption); (case X => k_asm); (case T => k_asm); (case B => assumption); (case CB => assumption); (case hA => exact rfl); (case hf => exact rfl); (case hke => exact rfl); (case hh => exact rfl); (case hdep => exact Nat.le_of_ble_eq_true rfl); (case hun => exact Nat.le_of_ble_eq_true rfl); (case F => k_asm); (case N => assumption); (case hup => lcg_off); (case hd => assumption); (case hlen => assumption); (case hz => assumption); (case hT => assumption); (case hb => assumption); k_whole) | (refine' deletedB (tmps := [_, _, _, _]) ?O ?hp ?X ?T ?B ?CB ?hA ?hf ?hke ?hh ?hdep ?hun ?F ?N ?hup ?hd ?hlen ?hz ?hT ?hb ?_; (case O => assumption); (case hp => assumption); (case X => k_asm); (case T => k_asm); (case B => assumption); (case CB => assumption); (case hA => exact rfl); (case hf => exact rfl); (case hke => exact rfl); (case hh => exact rfl); (case hdep => exact Nat.le_of_ble_eq_true rfl); (case hun => exact Nat.le_of_ble_eq_true rfl); (case F => k_asm); (case N => assumption); (case hup => lcg_off); (case hd => assumption); (case hlen => assumption); (case hz => assumption); (case hT => assumption); (case hb => assumption); k_whole) | (refine' deletedO (tmps := []) ?O ?hp ?X ?T ?B ?CB ?hA ?hf ?hke ?hh ?hdep ?hun ?F ?N ?hup ?hd ?hlen ?hz ?hT ?hb ?_; (case O => assumption); (case hp => assumption); (case X => k_asm); (case T => k_asm); (case B => assumption); (case CB => assumption); (case hA => exact rfl); (case hf => exact rfl); (case hke => exact rfl); (case hh => exact rfl); (case hdep => exact Nat.le_of_ble_eq_true rfl); (case hun => exact Nat.le_of_ble_eq_true rfl); (case F => k_asm); (case N => assumption); (case hup => lcg_off); (case hd => assumption); (case hlen => assumption); (case hz => assumption); (case hT => assumption); (case hb => assumption); k_whole) | (refine' deletedO (tmps := [_]) ?O ?hp ?X ?T ?B ?CB ?hA ?hf ?hke ?hh ?hdep ?hun ?F ?N ?hup ?hd ?hlen ?hz ?hT ?hb ?_; (case O => assumption); (case hp => assumption); (case X => k_asm); (case T => k_asm); (case B => assumption); (case CB => assumption); (case hA => exact rfl); (case hf => exact rfl); (case hke => exact rfl); (case hh => exact rfl); (case hdep => exact Nat.le_of_ble_eq_true rfl); (case hun => exact Nat.le_of_ble_eq_true rfl); (case F => k_asm); (case N => assumption); (case hup => lcg_off); (case hd => assumption); (case hlen => assumption); (case hz => assumption); (case hT => assumption); (case hb => assumption); k_whole) | (refine' deletedO (tmps := [_, _]) ?O ?hp ?X ?T ?B ?CB ?hA ?hf ?hke ?hh ?hdep ?hun ?F ?N ?hup ?hd ?hlen ?hz ?hT ?hb ?_; (case O => assumption); (case hp => assumption); (case X => k_asm); (case T => k_asm); (case B => assumption); (case CB => assumption); (case hA => exact rfl); (case hf => exact rfl); (case hke => exact rfl); (case hh => exact rfl); (case hdep => exact Nat.le_of_ble_eq_true rfl); (case hun => exact Nat.le_of_ble_eq_true rfl); (case F => k_asm); (case N => assumption); (case hup => lcg_off); (case hd => assumption); (case hlen => assumption); (case hz => assumption); (case hT => assumption); (case hb => assumption); k_whole) | (refine' deletedO (tmps := [_, _, _]) ?O ?hp ?X ?T ?B ?CB ?hA ?hf ?hke ?hh ?hdep ?hun ?F ?N ?hup ?hd ?hlen ?hz ?hT ?hb ?_; (case O => assumption); (case hp => assumption); (case X => k_asm); (case T => k_asm); (case B => assumption); (case CB => assumption); (case hA => exact rfl); (case hf => exact rfl); (case hke => exact rfl); (case hh => exact rfl); (case hdep => exact Nat.le_of_ble_eq_true rfl); (case hun => exact Nat.le_of_ble_eq_true rfl); (case F => k_asm); (case N => assumption); (case hup => lcg_off); (case hd => assumption); (case hlen => assumption); (case hz => assumption); (case hT => assumption); (case hb => assumption); k_whole) | (refine' deletedO (tmps := [_, _, _, _]) ?O ?hp ?X ?T ?B ?CB ?hA ?hf ?hke ?hh ?hdep ?hun ?F ?N ?hup ?hd ?hlen ?hz ?hT ?hb ?_; (case O => assumption); (case hp => assumption); (case X => k_asm); (case T => k_asm); (case B => assumption); (case CB => assumption); (case hA => exact rfl); (case hf => exact rfl); (case hke => exact rfl); (case hh => exact rfl); (case hdep => exact Nat.le_of_ble_eq_true rfl); (case hun => exact Nat.le_of_ble_eq_true rfl); (case F => k_asm); (case N => assumption); (case hup => lcg_off); (case hd => assumption); (case hlen => assumption); (case hz => assumption); (case hT => assumption); (case hb => assumption); k_whole)); intro h' tk' od' n' F' N' hd'; (try dsimp only [List.cons_append, List.nil_append] at N')))
local macro_rules | `(tactic| walk_at "call ref") => `(tactic| (k_here; (with_reducible show wpAny _ _ (call (Value.ref 106) [Value.ref _, Value.int _ _]) _ _ _); k_dflt (first | (refine' deletedF (tmps := []) ?O ?hp ?X ?T ?B ?CB ?hA ?hf ?hke ?hh ?hdep ?hun ?F ?N ?hup ?hF ?hB ?hlen ?hlB ?hz ?tF ?tB ?hb ?_; (case O => assumption); (case hp => assumption); (case X => k_asm); (case T => k_asm); (case B => assumption); (case CB => assumption); (case hA => exact rfl); (case hf => exact rfl); (case hke => exact rfl); (case hh => exact rfl); (case hdep => exact Nat.le_of_ble_eq_true rfl); (case hun => exact Nat.le_of_ble_eq_true rfl); (case F => k_asm); (case N => assumption); (case hup => lcg_off); (case hF => assumption); (case hB => assumption); (case hlen => assumption); (case hlB => assumption); (case hz => assumption); (case tF => assumption); (case tB => assumption); (case hb => assumption); k_whole) | (refine' deletedF (tmps := [_]) ?O ?hp ?X ?T ?B ?CB ?hA ?hf ?hke ?hh ?hdep ?hun ?F ?N ?hup ?hF ?hB ?hlen ?hlB ?hz ?tF ?tB ?hb ?_; (case O => assumption); (case hp => assumption); (case X => k_asm); (case T => k_asm); (case B => assumption); (case CB => assumption); (case hA => exact rfl); (case hf => exact rfl); (case hke => exact rfl); (case hh => exact rfl); (case hdep => exact Nat.le_of_ble_eq_true rfl); (case hun => exact Nat.le_of_ble_eq_true rfl); (case F => k_asm); (case N => assumption); (case hup => lcg_off); (case hF => assumption); (case hB => assumption); (case hlen => assumption); (case hlB => assumption); (case hz => assumption); (case tF => assumption); (case tB => assumption); (case hb => assumption); k_whole) | (refine' deletedF (tmps := [_, _]) ?O ?hp ?X ?T ?B ?CB ?hA ?hf ?hke ?hh ?hdep ?hun ?F ?N ?hup ?hF ?hB ?hlen ?hlB ?hz ?tF ?tB ?hb ?_; (case O => assumption); (case hp => assumption); (case X => k_asm); (case T => k_asm); (case B => assumption); (case CB => assumption); (case hA => exact rfl); (case hf => exact rfl); (case hke => exact rfl); (case hh => exact rfl); (case hdep => exact Nat.le_of_ble_eq_true rfl); (case hun => exact Nat.le_of_ble_eq_true rfl); (case F => k_asm); (case N => assumption); (case hup => lcg_off); (case hF => assumption); (case hB => assumption); (case hlen => assumption); (case hlB => assumption); (case hz => assumption); (case tF => assumption); (case tB => assumption); (case hb => assumption); k_whole) | (refine' deletedF (tmps := [_, _, _]) ?O ?hp ?X ?T ?B ?CB ?hA ?hf ?hke ?hh ?hdep ?hun ?F ?N ?hup ?hF ?hB ?hlen ?hlB ?hz ?tF ?tB ?hb ?_; (case O => assumption); (case hp => assumption); (case X => k_asm); (case T => k_asm); (case B => assumption); (case CB => assumption); (case hA => exact rfl); (case hf => exact rfl); (case hke => exact rfl); (case hh => exact rfl); (case hdep => exact Nat.le_of_ble_eq_true rfl); (case hun => exact Nat.le_of_ble_eq_true rfl); (case F => k_asm); (case N => assumption); (case hup => lcg_off); (case hF => assumption); (case hB => assumption); (case hlen => assumption); (case hlB => assumption); (case hz => assumption); (case tF => assumption); (case tB => assumption); (case hb => assumption); k_whole) | (refine' deletedF (tmps := [_, _, _, _]) ?O ?hp ?X ?T ?B ?CB ?hA ?hf ?hke ?hh ?hdep ?hun ?F ?N ?hup ?hF ?hB ?hlen ?hlB ?hz ?tF ?tB ?hb ?_; (case O => assumption); (case hp => assumption); (case X => k_asm); (case T => k_asm); (case B => assumption); (case CB => assumption); (case hA => exact rfl); (case hf => exact rfl); (case hke => exact rfl); (case hh => exact rfl); (case hdep => exact Nat.le_of_ble_eq_true rfl); (case hun => exact Nat.le_of_ble_eq_true rfl); (case F => k_asm); (case N => assumption); (case hup => lcg_off); (case hF => assumption); (case hB => assumption); (case hlen => assumption); (case hlB => assumption); (case hz => assumption); (case tF => assumption); (case tB => assumption); (case hb => assumption); k_whole)); intro h' tk' odF' odB' n' F' N' hdF' hdB'; (try dsimp only [List.cons_append, List.nil_append] at N')))
local macro_rules | `(tactic| walk_at "delItem ref int") => `(tactic| (k_here; (with_reducible show wpAny _ _ (delItem (Value.ref _) (Value.int _ _)) _ _ _); k_dflt (first | (refine' delB (tmps := []) ?O ?hp ?X ?T ?B ?CB ?hA ?hf ?hke ?hh ?hdep ?hun ?F ?N ?hup ?hd ?hlen ?hz ?hT ?hv ?_; (case O => assumption); (case hp => assumption); (case X => k_asm); (case T => k_asm); (case B => assumption); (case CB => assumption); (case hA => exact rfl); (case hf => exact rfl); (case hke => exact rfl); (case hh => exact rfl); (case hdep => exact Nat.le_of_ble_eq_true rfl); (case hun => exact Nat.le_of_ble_eq_true rfl); (case F => k_asm); (case N => assumption); (case hup => lcg_off); (case hd => assumption); (case hlen => assumption); (case hz => assumption); (case hT => assumption); (case hv => assumption); k_whole) | (refine' delB (tmps := [_]) ?O ?hp ?X ?T ?B ?CB ?hA ?hf ?hke ?hh ?hdep ?hun ?F ?N ?hup ?hd ?hlen ?hz ?hT ?hv ?_; (case O => assumption); (case hp => assumption); (case X => k_asm); (case T => k_asm); (case B => assumption); (case CB => assumption); (case hA => exact rfl); (case hf => exact rfl); (case hke => exact rfl); (case hh => exact rfl); (case hdep => exact Nat.le_of_ble_eq_true rfl); (case hun => exact Nat.le_of_ble_eq_true rfl); (case F => k_asm); (case N => assumption); (case hup => lcg_off); (case hd => assumption); (case hlen => assumption); (case hz => assumption); (case hT => assumption); (case hv => assumption); k_whole) | (refine' delB (tmps := [_, _]) ?O ?hp ?X ?T ?B ?CB ?hA ?hf ?hke ?hh ?hdep ?hun ?F ?N ?hup ?hd ?hlen ?hz ?hT ?hv ?_; (case O => assumption); (case hp => assumption); (case X => k_asm); (case T => k_asm); (case B => assumption); (case CB => assumption); (case hA => exact rfl); (case hf => exact rfl); (case hke => exact rfl); (case hh => exact rfl); (case hdep => exact Nat.le_of_ble_eq_true rfl); (case hun => exact Nat.le_of_ble_eq_true rfl); (case F => k_asm); (case N => assumption); (case hup => lcg_off); (case hd => assumption); (case hlen => assumption); (case hz => assumption); (case hT => assumption); (case hv => assumption); k_whole) | (refine' delB (tmps := [_, _, _]) ?O ?hp ?X ?T ?B ?CB ?hA ?hf ?hke ?hh ?hdep ?hun ?F ?N ?hup ?hd ?hlen ?hz ?hT ?hv ?_; (case O => assumption); (case hp => assumption); (case X => k_asm); (case T => k_asm); (case B => assumption); (case CB => assumption); (case hA => exact rfl); (case hf => exact rfl); (case hke => exact rfl); (case hh => exact rfl); (case hdep => exact Nat.le_of_ble_eq_true rfl); (case hun => exact Nat.le_of_ble_eq_true rfl); (case F => k_asm); (case N => assumption); (case hup => lcg_off); (case hd => assumption); (case hlen => assumption); (case hz => assumption); (case hT => assumption); (case hv => assumption); k_whole) | (refine' delB (tmps := [_, _, _, _]) ?O ?hp ?X ?T ?B ?CB ?hA ?hf ?hke ?hh ?hdep ?hun ?F ?N ?hup ?hd ?hlen ?hz ?hT ?hv ?_; (case O => assumption); (case hp => assumption); (case X => k_asm); (case T => k_asm); (case B => assumption); (case CB => assumption); (case hA => exact rfl); (case hf => exact rfl); (case hke => exact rfl); (case hh => exact rfl); (case hdep => exact Nat.le_of_ble_eq_true rfl); (case hun => exact Nat.le_of_ble_eq_true rfl); (case F => k_asm); (case N => assumption); (case hup => lcg_off); (case hd => assumption); (case hlen => assumption); (case hz => assumption); (case hT => assumption); (case hv => assumption); k_whole)); intro h' tk' od' n' F' N' hd'; (try dsimp only [List.cons_append, List.nil_append] at N')))
local macro_rules | `(tactic| walk_at "setItem ref int") => `(tactic| (k_here; (with_reducible show wpAny _ _ (setItem (Value.ref _) (Value.int _ _) (Value.ref _)) _ _ _); k_dflt (first | (refine' setO (tmps := []) ?O ?hp ?X ?T ?B ?CB ?hA ?hf ?hke ?hh ?hdep ?hun ?F ?N ?hup ?hd ?hlen ?hz ?hT ?hpv ?_; (case O => assumption); (case hp => assumption); (case X => k_asm); (case T => k_asm); (case B => assumption); (case CB => assumption); (case hA => exact rfl); (case hf => exact rfl); (case hke => exact rfl); (case hh => exact rfl); (case hdep => exact Nat.le_of_ble_eq_true rfl); (case hun => exact Nat.le_of_ble_eq_true rfl); (case F => k_asm); (case N => assumption); (case hup => lcg_off); (case hd => assumption); (case hlen => assumption); (case hz => assumption); (case hT => assumption); (case hpv => k_mem); k_whole) | (refine' setO (tmps := [_]) ?O ?hp ?X ?T ?B ?CB ?hA ?hf ?hke ?hh ?hdep ?hun ?F ?N ?hup ?hd ?hlen ?hz ?hT ?hpv ?_; (case O => assumption); (case hp => assumption); (case X => k_asm); (case T => k_asm); (case B => assumption); (case CB => assumption); (case hA => exact rfl); (case hf => exact rfl); (case hke => exact rfl); (case hh => exact rfl); (case hdep => exact Nat.le_of_ble_eq_true rfl); (case hun => exact Nat.le_of_ble_eq_true rfl); (case F => k_asm); (case N => assumption); (case hup => lcg_off); (case hd => assumption); (case hlen => assumption); (case hz => assumption); (case hT => assumption); (case hpv => k_mem); k_whole) | (refine' setO (tmps := [_, _]) ?O ?hp ?X ?T ?B ?CB ?hA ?hf ?hke ?hh ?hdep ?hun ?F ?N ?hup ?hd ?hlen ?hz ?hT ?hpv ?_; (case O => assumption); (case hp => assumption); (case X => k_asm); (case T => k_asm); (case B => assumption); (case CB => assumption); (case hA => exact rfl); (case hf => exact rfl); (case hke => exact rfl); (case hh => exact rfl); (case hdep => exact Nat.le_of_ble_eq_true rfl); (case hun => exact Nat.le_of_ble_eq_true rfl); (case F => k_asm); (case N => assumption); (case hup => lcg_off); (case hd => assumption); (case hlen => assumption); (case hz => assumption); (case hT => assumption); (case hpv => k_mem); k_whole) | (refine' setO (tmps := [_, _, _]) ?O ?hp ?X ?T ?B ?CB ?hA ?hf ?hke ?hh ?hdep ?hun ?F ?N ?hup ?hd ?hlen ?hz ?hT ?hpv ?_; (case O => assumption); (case hp => assumption); (case X => k_asm); (case T => k_asm); (case B => assumption); (case CB => assumption); (case hA => exact rfl); (case hf => exact rfl); (case hke => exact rfl); (case hh => exact rfl); (case hdep => exact Nat.le_of_ble_eq_true rfl); (case hun => exact Nat.le_of_ble_eq_true rfl); (case F => k_asm); (case N => assumption); (case hup => lcg_off); (case hd => assumption); (case hlen => assumption); (case hz => assumption); (case hT => assumption); (case hpv => k_mem); k_whole) | (refine' setO (tmps := [_, _, _, _]) ?O ?hp ?X ?T ?B ?CB ?hA ?hf ?hke ?hh ?hdep ?hun ?F ?N ?hup ?hd ?hlen ?hz ?hT ?hpv ?_; (case O => assumption); (case hp => assumption); (case X => k_asm); (case T => k_asm); (case B => assumption); (case CB => assumption); (case hA => exact rfl); (case hf => exact rfl); (case hke => exact rfl); (case hh => exact rfl); (case hdep => exact Nat.le_of_ble_eq_true rfl); (case hun => exact Nat.le_of_ble_eq_true rfl); (case F => k_asm); (case N => assumption); (case hup => lcg_off); (case hd => assumption); (case hlen => assumption); (case hz => assumption); (case hT => assumption); (case hpv => k_mem); k_whole)); intro h' tk' od' n' F' N' hd'; (try dsimp only [List.cons_append, List.nil_append] at N')))
local macro_rules | `(tactic| walk_at "setItem ref int") => `(tactic| (k_here; (with_reducible show wpAny _ _ (setItem (Value.ref _) (Value.int _ _) (Value.ref _)) _ _ _); k_dflt (first | (refine' setF (tmps := []) ?O ?hp ?X ?T ?B ?CB ?hA ?hf ?hke ?hh ?hdep ?hun ?F ?N ?hup ?hF ?hB ?hlen ?hlB ?hz ?tF ?tB ?hpv ?_; (case O => assumption); (case hp => assumption); (case X => k_asm); (case T => k_asm); (case B => assumption); (case CB => assumption); (case hA => exact rfl); (case hf => exact rfl); (case hke => exact rfl); (case hh => exact rfl); (case hdep => exact Nat.le_of_ble_eq_true rfl); (case hun => exact Nat.le_of_ble_eq_true rfl); (case F => k_asm); (case N => assumption); (case hup => lcg_off); (case hF => assumption); (case hB => assumption); (case hlen => assumption); (case hlB => assumption); (case hz => assumption); (case tF => assumption); (case tB => assumption); (case hpv => k_mem); k_whole) | (refine' setF (tmps := [_]) ?O ?hp ?X ?T ?B ?CB ?hA ?hf ?hke ?hh ?hdep ?hun ?F ?N ?hup ?hF ?hB ?hlen ?hlB ?hz ?tF ?tB ?hpv ?_; (case O => assumption); (case hp => assumption); (case X => k_asm); (case T => k_asm); (case B => assumption); (case CB => assumption); (case hA => exact rfl); (case hf => exact rfl); (case hke => exact rfl); (case hh => exact rfl); (case hdep => exact Nat.le_of_ble_eq_true rfl); (case hun => exact Nat.le_of_ble_eq_true rfl); (case F => k_asm); (case N => assumption); (case hup => lcg_off); (case hF => assumption); (case hB => assumption); (case hlen => assumption); (case hlB => assumption); (case hz => assumption); (case tF => assumption); (case tB => assumption); (case hpv => k_mem); k_whole) | (refine' setF (tmps := [_, _]) ?O ?hp ?X ?T ?B ?CB ?hA ?hf ?hke ?hh ?hdep ?hun ?F ?N ?hup ?hF ?hB ?hlen ?hlB ?hz ?tF ?tB ?hpv ?_; (case O => assumption); (case hp => assumption); (case X => k_asm); (case T => k_asm); (case B => assumption); (case CB => assumption); (case hA => exact rfl); (case hf => exact rfl); (case hke => exact rfl); (case hh => exact rfl); (case hdep => exact Nat.le_of_ble_eq_true rfl); (case hun => exact Nat.le_of_ble_eq_true rfl); (case F => k_asm); (case N => assumption); (case hup => lcg_off); (case hF => assumption); (case hB => assumption); (case hlen => assumption); (case hlB => assumption); (case hz => assumption); (case tF => assumption); (case tB => assumption); (case hpv => k_mem); k_whole) | (refine' setF (tmps := [_, _, _]) ?O ?hp ?X ?T ?B ?CB ?hA ?hf ?hke ?hh ?hdep ?hun ?F ?N ?hup ?hF ?hB ?hlen ?hlB ?hz ?tF ?tB ?hpv ?_; (case O => assumption); (case hp => assumption); (case X => k_asm); (case T => k_asm); (case B => assumption); (case CB => assumption); (case hA => exact rfl); (case hf => exact rfl); (case hke => exact rfl); (case hh => exact rfl); (case hdep => exact Nat.le_of_ble_eq_true rfl); (case hun => exact Nat.le_of_ble_eq_true rfl); (case F => k_asm); (case N => assumption); (case hup => lcg_off); (case hF => assumption); (case hB => assumption); (case hlen => assumption); (case hlB => assumption); (case hz => assumption); (case tF => assumption); (case tB => assumption); (case hpv => k_mem); k_whole) | (refine' setF (tmps := [_, _, _, _]) ?O ?hp ?X ?T ?B ?CB ?hA ?hf ?hke ?hh ?hdep ?hun ?F ?N ?hup ?hF ?hB ?hlen ?hlB ?hz ?tF ?tB ?hpv ?_; (case O => assumption); (case hp => assumption); (case X => k_asm); (case T => k_asm); (case B => assumption); (case CB => assumption); (case hA => exact rfl); (case hf => exact rfl); (case hke => exact rfl); (case hh => exact rfl); (case hdep => exact Nat.le_of_ble_eq_true rfl); (case hun => exact Nat.le_of_ble_eq_true rfl); (case F => k_asm); (case N => assumption); (case hup => lcg_off); (case hF => assumption); (case hB => assumption); (case hlen => assumption); (case hlB => assumption); (case hz => assumption); (case tF => assumption); (case tB => assumption); (case hpv => k_mem); k_whole)); intro h' tk' odF' odB' n' F' N' hdF' hdB'; (try dsimp only [List.cons_append, List.nil_append] at N')))
local macro_rules | `(tactic| walk_at "setItem ref int") => `(tactic| (k_here; (with_reducible show wpAny _ _ (setItem (Value.ref _) (Value.int 0 _) _) _ _ _); k_dflt (refine' touch ?O ?hp ?F ?N ?_; (case O => assumption); (case hp => assumption); (case F => k_asm); (case N => assumption); k_whole); intro h' F' N'))
local macro_rules | `(tactic| walk_at "compareOp In int ref") => `(tactic| (k_here; k_dflt (refine' R_inB ?N ?a ?s ?b ?_; (case N => k_asm); (case a => k_mem); (case s => assumption); (case b => assumption); k_whole)))
local macro_rules | `(tactic| walk_at "ite") => `(tactic| (k_here; first | refine ite_pos rfl ?_ | refine ite_neg Bool.false_ne_true ?_ | refine ite_pos (by assumption) ?_ | refine ite_neg (ne_true_of (by assumption)) ?_))
local macro_rules | `(tactic| walk_at "call ref") => `(tactic| (k_here; dsimp only [List.cons_append, List.nil_append]))
local macro_rules | `(tactic| walk_at "call builtin:len") => `(tactic| (k_here; dsimp only [List.cons_append, List.nil_append]))
local macro_rules | `(tactic| walk_at "call builtin:list.append") => `(tactic| (k_here; dsimp only [List.cons_append, List.nil_append]))
local macro_rules | `(tactic| walk_at "call builtin:sorted") => `(tactic| (k_here; dsimp only [List.cons_append, List.nil_append]))
local macro_rules | `(tactic| walk_at "compareOp NotEq ref ref") => `(tactic| (k_here; (with_reducible show wpAny _ _ (compareOp CmpOp.NotEq (Value.ref _) (Value.ref _)) _ _ _); k_dflt (first | (refine' R_ne_same ?u ?N ?a ?b ?_; (case u => exact Nat.le_of_ble_eq_true rfl); (case N => k_asm); (case a => k_mem); (case b => k_mem); k_whole) | (refine' R_ne_len ?u ?N ?a ?b ?e ?_; (case u => exact Nat.le_of_ble_eq_true rfl); (case N => k_asm); (case a => k_mem); (case b => k_mem); (case e => exact Nat.succ_ne_zero _); k_whole))))
local macro_rules | `(tactic| walk_at "binaryOp BitAnd ref ref") => `(tactic| (k_here; k_dflt (refine' R_and ?F ?N ?a ?b ?ab ?x ?y ?s1 ?s2 ?n1 ?n2 ?l1 ?l2 ?dj ?_; (case F => k_asm); (case N => k_asm); (case a => k_mem); (case b => k_mem); (case ab => k_ne); (case x => assumption); (case y => assumption); (case s1 => assumption); (case s2 => assumption); (case n1 => assumption); (case n2 => assumption); (case l1 => assumption); (case l2 => assumption); (case dj => assumption); k_whole); intro D' h' so' F' N' l1 hs'; (try k_lt l1)))
local macro_rules | `(tactic| walk_at "binaryOp BitOr ref ref") => `(tactic| (k_here; k_dflt (refine' R_or ?F ?N ?a ?b ?ab ?x ?y ?s1 ?s2 ?n1 ?n2 ?l1 ?l2 ?dj ?_; (case F => k_asm); (case N => k_asm); (case a => k_mem); (case b => k_mem); (case ab => k_ne); (case x => assumption); (case y => assumption); (case s1 => assumption); (case s2 => assumption); (case n1 => assumption); (case n2 => assumption); (case l1 => assumption); (case l2 => assumption); (case dj => assumption); k_whole); intro D' h' so' F' N' l1 hu'; (try k_lt l1)))
local macro_rules | `(tactic| walk_at "call builtin:len") => `(tactic| (k_here; (with_reducible show wpAny _ _ (call (Value.builtin "len") [Value.ref _]) _ _ _); k_dflt (refine' R_setlen0 ?N ?a ?x ?_; (case N => k_asm); (case a => k_mem); (case x => assumption); k_whole); intro u' tk'))
local macro_rules | `(tactic| walk_at "compareOp NotEq ref ref") => `(tactic| (k_here; (with_reducible show wpAny _ _ (compareOp CmpOp.NotEq (Value.ref _) (Value.ref _)) _ _ _); k_dflt (refine' R_un_ne ?u ?N ?a ?b ?x ?y ?q ?_; (case u => exact Nat.le_of_ble_eq_true rfl); (case N => k_asm); (case a => k_mem); (case b => k_mem); (case x => assumption); (case y => assumption); (case q => assumption); k_whole)))
local macro_rules | `(tactic| walk_at "subscriptTail") => `(tactic| (k_here; (with_reducible show wpAny _ _ (subscriptTail _ _ (Value.ref (St.lS _)) (Value.int _ _)) _ _ _); k_dflt (first | (refine' R_item0 ?N ?m ?_ ?s; (case N => k_asm); (case m => exact Led.m_lS); (case s => with_unfolding_all rfl); k_whole) | (refine' R_item1 ?N ?m ?_ ?s; (case N => k_asm); (case m => exact Led.m_lS); (case s => with_unfolding_all rfl); k_whole))))

local macro_rules | `(tactic| walk_at "eval ListComp") => `(tactic| (k_here; k_dflt (refine' ListComp_set ?a ?b ?c ?d ?e ?F ?k ?_ ?f ?g; (case a => exact rfl); (case b => decide); (case c => exact rfl); (case d => decide); (case e => exact rfl); (case F => k_asm); (case k => assumption); (case f => intro _; rfl); (case g => decide); k_whole)))
local macro_rules | `(tactic| walk_at "SetSrc") => `(tactic| (k_dflt (refine' SetSrc.intro ?a ?F ?N ?m ?x ?_; (case a => exact rfl); (case F => k_asm); (case N => k_asm); (case m => k_mem); (case x => assumption); k_whole); intro D' h' tk' ys' l' hi' hz' F' N' o1'))
section
variable {w : World} {S : St} {odF odB odO : Obj} {vF vW : List Value} {nF nW nT : Nat} {tv : Value} {prs tmps : List (Addr × Obj)} {mg mb : Str → Option Value} {mean : ExcName → Option Value} {h₀ : Heap} {m : Str → Option Value} {s : Shared} {Q : Flow → Shared → Prop}
  {ns : List Int} {place kind key : Int} {tp tk9 tk8 tkey : Tok} {kF kB kO : List (Int × Value)}
set_option maxHeartbeats 16000000 in
theorem end1  (O : Ok S) (hp : PrsUp S prs) (X : (hd.heap_39 w.params).In h₀) (T : Top topProg loose mean mg mb h₀) (B : Below callerA h₀ [] h₀) (CB : CodeB h₀)
  (F : Fr h₀ S.L s.heap m) (nm : Nm S m) 
  (N : News h₀ S.L s.heap (Led w S odF odB odO vF nF vF nW tv nT prs)) (hdF : odF.IsDictOf (PySem.intKind PySem.Challenge.rw_aj5039_01.row.prog w) kF) (hdB : odB.IsDictOf (PySem.intKind PySem.Challenge.rw_aj5039_01.row.prog w) kB) (hdO : odO.IsDictOf (PySem.intKind PySem.Challenge.rw_aj5039_01.row.prog w) kO)
  (h7F : ∀ k ∈ kF.map (·.1), 0 ≤ k ∧ k < 7) (h7B : ∀ k ∈ kB.map (·.1), 0 ≤ k ∧ k < 7) (l3F : kF.length ≤ 3) (l3B : kB.length ≤ 3) (lO : kO.length ≤ 10) (l3F1 : (kF.map (·.1)).length ≤ 3) (l3B1 : (kB.map (·.1)).length ≤ 3) (nF9 : (kF.map (·.1)).Nodup) (nB9 : (kB.map (·.1)).Nodup) (dj : ∀ k ∈ kF.map (·.1), k ∉ kB.map (·.1)) (km : KsMark (kF.map (·.1) ++ kB.map (·.1)))
  (q : ∀ h' tk m' (lH n : Nat) vs l, Fr h₀ S.L h' m' → Nm S m' → m' (Str.ofString "held") = some (.ref lH) → News h₀ S.L h' ((lH, listOf vs.toArray n) :: Led w S odF odB odO vF nF vF nW tv nT prs) → (∀ p ∈ Led w S odF odB odO vF nF vF nW tv nT prs, p.1 < lH) → IntsAre vs l → Q .next { s with heap := h', toks := tk }) :
  wpAny (model PySem.Challenge.rw_aj5039_01.row.prog w) (callerA.deeper (lenv S.L S.fa 110)) (exec (lawBody.getD 9 (Stmt.Pass default)) (lenv S.L S.fa 110)) Q (fun _ _ => False) s := by
  revert X
  k_fill
  intro X
  have F1 := fr_eq F nm.open
  clear F
  have hcB := O.hcB
  have hcT := O.hcT
  conv => arg 3; arg 1; whnf
  k_steps
  all_goals first | exact q _ _ _ _ _ _ _ (by assumption) ⟨by exact rfl, by exact rfl, by exact rfl, by exact rfl⟩ (by exact rfl) (by exact News.sub (by assumption) (List.forall_mem_cons.mpr ⟨.head _, fun _ h => .tail _ (.tail _ (.tail _ (.tail _ (.tail _ h))))⟩)) (by exact Led.all5 (by assumption)) (by assumption)
set_option maxHeartbeats 16000000 in
theorem end3F {v0 : Value} (O : Ok S) (hp : PrsUp S prs) (X : (hd.heap_39 w.params).In h₀) (T : Top topProg loose mean mg mb h₀) (B : Below callerA h₀ [] h₀) (CB : CodeB h₀)
  (F : Fr h₀ S.L s.heap m) (nm : Nm S m) (ny : m (Str.ofString "key") = some (.int key tk8))
  (N : News h₀ S.L s.heap (Led w S odF odB odO vF nF vW nW tv nT prs)) (hdF : odF.IsDictOf (PySem.intKind PySem.Challenge.rw_aj5039_01.row.prog w) kF) (hdB : odB.IsDictOf (PySem.intKind PySem.Challenge.rw_aj5039_01.row.prog w) kB) (hdO : odO.IsDictOf (PySem.intKind PySem.Challenge.rw_aj5039_01.row.prog w) kO)
  (h0F : valueAt kF key = some v0) (h0B : valueAt kB key = none) (h0O : valueAt kO key = some v0) (lF : kF.length ≤ 10) (lB : kB.length ≤ 10) (lO : kO.length ≤ 10)
  (q : ∀ h' tk odF' odB' odO', Fr h₀ S.L h' m → News h₀ S.L h' (Led w S odF' odB' odO' vF nF vW nW tv nT prs) → odF'.IsDictOf (PySem.intKind PySem.Challenge.rw_aj5039_01.row.prog w) (without kF key ++ [(key, v0)]) → odB'.IsDictOf (PySem.intKind PySem.Challenge.rw_aj5039_01.row.prog w) (kB) → odO'.IsDictOf (PySem.intKind PySem.Challenge.rw_aj5039_01.row.prog w) (without kO key ++ [(key, v0)]) → Q .next { s with heap := h', toks := tk }) :
  wpAny (model PySem.Challenge.rw_aj5039_01.row.prog w) (callerA.deeper (lenv S.L S.fa 110)) (execs (forBody (lawBody.getD 11 (Stmt.Pass default))) (lenv S.L S.fa 110)) Q (fun _ _ => False) s := by
  revert X
  k_fill
  intro X
  have F1 := fr_eq F nm.open
  have e2 := ((nm.open (Str.ofString "key")).trans ny)
  have F2 := fr_put (m := names01 S m) (x := Str.ofString "key") (v := .int key tk8) (by exact e2) F1
  clear F F1
  have hcB := O.hcB
  have hcT := O.hcT
  conv => arg 3; arg 1; whnf
  k_steps
  all_goals first | (refine wpAny_pure (α := Flow) (a := Flow.next) ?_; exact q _ _ _ _ _ (fr_eq (by assumption) fun y => ((if_name e2 y).trans (nm.open y)).symm) (by exact News.sub (by assumption) (by lcg_sub)) (by assumption) (by assumption) (by assumption)) | exact q _ _ _ _ _ (fr_eq (by assumption) fun y => ((if_name e2 y).trans (nm.open y)).symm) (by exact News.sub (by assumption) (by lcg_sub)) (by assumption) (by assumption) (by assumption)
set_option maxHeartbeats 16000000 in
theorem end3B {v0 : Value} (O : Ok S) (hp : PrsUp S prs) (X : (hd.heap_39 w.params).In h₀) (T : Top topProg loose mean mg mb h₀) (B : Below callerA h₀ [] h₀) (CB : CodeB h₀)
  (F : Fr h₀ S.L s.heap m) (nm : Nm S m) (ny : m (Str.ofString "key") = some (.int key tk8))
  (N : News h₀ S.L s.heap (Led w S odF odB odO vF nF vW nW tv nT prs)) (hdF : odF.IsDictOf (PySem.intKind PySem.Challenge.rw_aj5039_01.row.prog w) kF) (hdB : odB.IsDictOf (PySem.intKind PySem.Challenge.rw_aj5039_01.row.prog w) kB) (hdO : odO.IsDictOf (PySem.intKind PySem.Challenge.rw_aj5039_01.row.prog w) kO)
  (h0F : valueAt kF key = none) (h0B : valueAt kB key = some v0) (h0O : valueAt kO key = some v0) (lF : kF.length ≤ 10) (lB : kB.length ≤ 10) (lO : kO.length ≤ 10)
  (q : ∀ h' tk odF' odB' odO', Fr h₀ S.L h' m → News h₀ S.L h' (Led w S odF' odB' odO' vF nF vW nW tv nT prs) → odF'.IsDictOf (PySem.intKind PySem.Challenge.rw_aj5039_01.row.prog w) (kF) → odB'.IsDictOf (PySem.intKind PySem.Challenge.rw_aj5039_01.row.prog w) (without kB key ++ [(key, v0)]) → odO'.IsDictOf (PySem.intKind PySem.Challenge.rw_aj5039_01.row.prog w) (without kO key ++ [(key, v0)]) → Q .next { s with heap := h', toks := tk }) :
  wpAny (model PySem.Challenge.rw_aj5039_01.row.prog w) (callerA.deeper (lenv S.L S.fa 110)) (execs (forBody (lawBody.getD 11 (Stmt.Pass default))) (lenv S.L S.fa 110)) Q (fun _ _ => False) s := by
  revert X
  k_fill
  intro X
  have F1 := fr_eq F nm.open
  have e2 := ((nm.open (Str.ofString "key")).trans ny)
  have F2 := fr_put (m := names01 S m) (x := Str.ofString "key") (v := .int key tk8) (by exact e2) F1
  clear F F1
  have hcB := O.hcB
  have hcT := O.hcT
  conv => arg 3; arg 1; whnf
  k_steps
  all_goals first | (refine wpAny_pure (α := Flow) (a := Flow.next) ?_; exact q _ _ _ _ _ (fr_eq (by assumption) fun y => ((if_name e2 y).trans (nm.open y)).symm) (by exact News.sub (by assumption) (by lcg_sub)) (by assumption) (by assumption) (by assumption)) | exact q _ _ _ _ _ (fr_eq (by assumption) fun y => ((if_name e2 y).trans (nm.open y)).symm) (by exact News.sub (by assumption) (by lcg_sub)) (by assumption) (by assumption) (by assumption)
set_option maxHeartbeats 16000000 in
theorem end3N  (O : Ok S) (hp : PrsUp S prs) (X : (hd.heap_39 w.params).In h₀) (T : Top topProg loose mean mg mb h₀) (B : Below callerA h₀ [] h₀) (CB : CodeB h₀)
  (F : Fr h₀ S.L s.heap m) (nm : Nm S m) (ny : m (Str.ofString "key") = some (.int key tk8))
  (N : News h₀ S.L s.heap (Led w S odF odB odO vF nF vW nW tv nT prs)) (hdF : odF.IsDictOf (PySem.intKind PySem.Challenge.rw_aj5039_01.row.prog w) kF) (hdB : odB.IsDictOf (PySem.intKind PySem.Challenge.rw_aj5039_01.row.prog w) kB) (hdO : odO.IsDictOf (PySem.intKind PySem.Challenge.rw_aj5039_01.row.prog w) kO)
  (h0F : valueAt kF key = none) (h0B : valueAt kB key = none) (h0O : valueAt kO key = none) (lF : kF.length ≤ 10) (lB : kB.length ≤ 10) (lO : kO.length ≤ 10)
  (q : ∀ h' tk odF' odB' odO', Fr h₀ S.L h' m → News h₀ S.L h' (Led w S odF' odB' odO' vF nF vW nW tv nT prs) → odF'.IsDictOf (PySem.intKind PySem.Challenge.rw_aj5039_01.row.prog w) (kF) → odB'.IsDictOf (PySem.intKind PySem.Challenge.rw_aj5039_01.row.prog w) (kB) → odO'.IsDictOf (PySem.intKind PySem.Challenge.rw_aj5039_01.row.prog w) (kO) → Q .next { s with heap := h', toks := tk }) :
  wpAny (model PySem.Challenge.rw_aj5039_01.row.prog w) (callerA.deeper (lenv S.L S.fa 110)) (execs (forBody (lawBody.getD 11 (Stmt.Pass default))) (lenv S.L S.fa 110)) Q (fun _ _ => False) s := by
  revert X
  k_fill
  intro X
  have F1 := fr_eq F nm.open
  have e2 := ((nm.open (Str.ofString "key")).trans ny)
  have F2 := fr_put (m := names01 S m) (x := Str.ofString "key") (v := .int key tk8) (by exact e2) F1
  clear F F1
  have hcB := O.hcB
  have hcT := O.hcT
  conv => arg 3; arg 1; whnf
  k_steps
  all_goals first | (refine wpAny_pure (α := Flow) (a := Flow.next) ?_; exact q _ _ _ _ _ (fr_eq (by assumption) fun y => ((if_name e2 y).trans (nm.open y)).symm) (by exact News.sub (by assumption) (by lcg_sub)) (by assumption) (by assumption) (by assumption)) | exact q _ _ _ _ _ (fr_eq (by assumption) fun y => ((if_name e2 y).trans (nm.open y)).symm) (by exact News.sub (by assumption) (by lcg_sub)) (by assumption) (by assumption) (by assumption)
end
end Mine
end
section
open PySem PySem.W PyProof.Rows PySem.Calls PyProof.V PySem.Spec
set_option maxRecDepth 100000
namespace Mine
theorem valueAt_touch {a : KV} {k : Int} {v0 : Value} (h : valueAt a k = some v0) (j : Int) : valueAt (without a k ++ [(k, v0)]) j = valueAt a j := by
  rw [valueAt_app]
  by_cases e : j = k
  · subst e
    rw [without_none, h]
    simp [valueAt]
  · have h1 : valueAt (without a k) j = valueAt a j := by
      unfold valueAt without
      rw [List.find?_filter]
      congr 2
      funext kv
      by_cases h2 : kv.1 = j
      · simp [h2, e]
      · simp [h2]
    have h2 : valueAt [(k, v0)] j = none := by
      have : ¬ k = j := fun q => e q.symm
      simp [valueAt, this]
    rw [h1, h2, Option.or_none]
theorem len_touch {a : KV} {k : Int} {v0 : Value} (hn : (a.map (·.1)).Nodup) (h : valueAt a k = some v0) : (without a k ++ [(k, v0)]).length = a.length := by
  rw [List.length_append, List.length_singleton]
  exact without_len_in hn (mem_isSome.mp (by rw [h]; rfl))
local macro_rules | `(tactic| walk_at "no such key") => `(tactic| fail)
local macro_rules | `(tactic| walk_at "no such key") => `(tactic| fail)
local macro_rules | `(tactic| k_room) => `(tactic| first | ((try simp only [depth_under_make, depth_under_kw, depth_in1, depth_deeper, depth_caller, depth_mark, recursionLimit]); first | decide | omega))
local macro_rules | `(tactic| k_mem) => `(tactic| first | assumption | exact Led.m_L1 | exact Led.m_L2 | exact Led.m_L3 | exact Led.m_L4 | exact Led.m_lN | exact Led.m_lS | exact Led.m_lT | exact Led.m_lF | exact Led.m_lW | exact Led.m_fB | exact Led.m_cB | exact Led.m_xB | exact Led.m_dxB | exact Led.m_dB | exact Led.m_fM | exact Led.m_cM | exact Led.m_xF | exact Led.m_dxF | exact Led.m_dF | exact Led.m_fO | exact Led.m_cO | exact Led.m_xO | exact Led.m_dxO | exact Led.m_dO | exact Led.m_prs (by assumption) | exact List.Mem.head _ | (refine' List.Mem.tail _ ?_; k_mem))
local macro_rules | `(tactic| k_ne) => `(tactic| first | assumption | exact Nat.ne_of_lt (by assumption) | exact Nat.ne_of_gt (by assumption) | (refine neN ?_; (try dsimp only); omega))
local macro_rules | `(tactic| lcg_off) => `(tactic| first | exact List.forall_mem_nil _ | (refine List.forall_mem_cons.mpr ⟨?ua, ?ub⟩; (case ua => first | assumption | exact Led.lt0 (by assumption) | exact Led.lt1 (by assumption) | exact Led.lt2 (by assumption) | exact Led.lt3 (by assumption) | exact Led.lt4 (by assumption) | exact Led.lt5 (by assumption) | exact Led.lt6 (by assumption)); (case ub => lcg_off)))
local macro_rules | `(tactic| lcg_sub) => `(tactic| first | exact (fun _ h => h) | exact (fun _ h => .tail _ (h)) | exact (fun _ h => .tail _ (.tail _ (h))) | exact (fun _ h => .tail _ (.tail _ (.tail _ (h)))) | exact (fun _ h => .tail _ (.tail _ (.tail _ (.tail _ (h))))) | exact (fun _ h => .tail _ (.tail _ (.tail _ (.tail _ (.tail _ (h)))))) | exact (fun _ h => .tail _ (.tail _ (.tail _ (.tail _ (.tail _ (.tail _ (h))))))) | exact (fun _ h => .tail _ (.tail _ (.tail _ (.tail _ (.tail _ (.tail _ (.tail _ (h)))))))) | exact (fun _ h => .tail _ (.tail _ (.tail _ (.tail _ (.tail _ (.tail _ (.tail _ (.tail _ (h))))))))))
local macro_rules | `(tactic| walk_at "call ref") => `(tactic| (k_here; (with_reducible show wpAny _ _ (call (Value.ref 99) [Value.ref _, Value.int _ _]) _ _ _); k_dflt (first | (refine' gotF_miss (tmps := []) ?O ?hp ?X ?T ?B ?CB ?hA ?hf ?hke ?hh ?hdep ?hun ?F ?N ?hup ?hd ?hlen ?hv ?_; (case O => assumption); (case hp => assumption); (case X => k_asm); (case T => k_asm); (case B => assumption); (case CB => assumption); (case hA => exact rfl); (case hf => exact rfl); (case hke => exact rfl); (case hh => exact rfl); (case hdep => exact Nat.le_of_ble_eq_true rfl); (case hun => exact Nat.le_of_ble_eq_true rfl); (case F => k_asm); (case N => assumption); (case hup => lcg_off); (case hd => assumption); (case hlen => assumption); (case hv => assumption); k_whole) | (refine' gotF_miss (tmps := [_]) ?O ?hp ?X ?T ?B ?CB ?hA ?hf ?hke ?hh ?hdep ?hun ?F ?N ?hup ?hd ?hlen ?hv ?_; (case O => assumption); (case hp => assumption); (case X => k_asm); (case T => k_asm); (case B => assumption); (case CB => assumption); (case hA => exact rfl); (case hf => exact rfl); (case hke => exact rfl); (case hh => exact rfl); (case hdep => exact Nat.le_of_ble_eq_true rfl); (case hun => exact Nat.le_of_ble_eq_true rfl); (case F => k_asm); (case N => assumption); (case hup => lcg_off); (case hd => assumption); (case hlen => assumption); (case hv => assumption); k_whole) | (refine' gotF_miss (tmps := [_, _]) ?O ?hp ?X ?T ?B ?CB ?hA ?hf ?hke ?hh ?hdep ?hun ?F ?N ?hup ?hd ?hlen ?hv ?_; (case O => assumption); (case hp => assumption); (case X => k_asm); (case T => k_asm); (case B => assumption); (case CB => assumption); (case hA => exact rfl); (case hf => exact rfl); (case hke => exact rfl); (case hh => exact rfl); (case hdep => exact Nat.le_of_ble_eq_true rfl); (case hun => exact Nat.le_of_ble_eq_true rfl); (case F => k_asm); (case N => assumption); (case hup => lcg_off); (case hd => assumption); (case hlen => assumption); (case hv => assumption); k_whole) | (refine' gotF_miss (tmps := [_, _, _]) ?O ?hp ?X ?T ?B ?CB ?hA ?hf ?hke ?hh ?hdep ?hun ?F ?N ?hup ?hd ?hlen ?hv ?_; (case O => assumption); (case hp => assumption); (case X => k_asm); (case T => k_asm); (case B => assumption); (case CB => assumption); (case hA => exact rfl); (case hf => exact rfl); (case hke => exact rfl); (case hh => exact rfl); (case hdep => exact Nat.le_of_ble_eq_true rfl); (case hun => exact Nat.le_of_ble_eq_true rfl); (case F => k_asm); (case N => assumption); (case hup => lcg_off); (case hd => assumption); (case hlen => assumption); (case hv => assumption); k_whole) | (refine' gotF_miss (tmps := [_, _, _, _]) ?O ?hp ?X ?T ?B ?CB ?hA ?hf ?hke ?hh ?hdep ?hun ?F ?N ?hup ?hd ?hlen ?hv ?_; (case O => assumption); (case hp => assumption); (case X => k_asm); (case T => k_asm); (case B => assumption); (case CB => assumption); (case hA => exact rfl); (case hf => exact rfl); (case hke => exact rfl); (case hh => exact rfl); (case hdep => exact Nat.le_of_ble_eq_true rfl); (case hun => exact Nat.le_of_ble_eq_true rfl); (case F => k_asm); (case N => assumption); (case hup => lcg_off); (case hd => assumption); (case hlen => assumption); (case hv => assumption); k_whole) | (refine' gotB_miss (tmps := []) ?O ?hp ?X ?T ?B ?CB ?hA ?hf ?hke ?hh ?hdep ?hun ?F ?N ?hup ?hd ?hlen ?hv ?_; (case O => assumption); (case hp => assumption); (case X => k_asm); (case T => k_asm); (case B => assumption); (case CB => assumption); (case hA => exact rfl); (case hf => exact rfl); (case hke => exact rfl); (case hh => exact rfl); (case hdep => exact Nat.le_of_ble_eq_true rfl); (case hun => exact Nat.le_of_ble_eq_true rfl); (case F => k_asm); (case N => assumption); (case hup => lcg_off); (case hd => assumption); (case hlen => assumption); (case hv => assumption); k_whole) | (refine' gotB_miss (tmps := [_]) ?O ?hp ?X ?T ?B ?CB ?hA ?hf ?hke ?hh ?hdep ?hun ?F ?N ?hup ?hd ?hlen ?hv ?_; (case O => assumption); (case hp => assumption); (case X => k_asm); (case T => k_asm); (case B => assumption); (case CB => assumption); (case hA => exact rfl); (case hf => exact rfl); (case hke => exact rfl); (case hh => exact rfl); (case hdep => exact Nat.le_of_ble_eq_true rfl); (case hun => exact Nat.le_of_ble_eq_true rfl); (case F => k_asm); (case N => assumption); (case hup => lcg_off); (case hd => assumption); (case hlen => assumption); (case hv => assumption); k_whole) | (refine' gotB_miss (tmps := [_, _]) ?O ?hp ?X ?T ?B ?CB ?hA ?hf ?hke ?hh ?hdep ?hun ?F ?N ?hup ?hd ?hlen ?hv ?_; (case O => assumption); (case hp => assumption); (case X => k_asm); (case T => k_asm); (case B => assumption); (case CB => assumption); (case hA => exact rfl); (case hf => exact rfl); (case hke => exact rfl); (case hh => exact rfl); (case hdep => exact Nat.le_of_ble_eq_true rfl); (case hun => exact Nat.le_of_ble_eq_true rfl); (case F => k_asm); (case N => assumption); (case hup => lcg_off); (case hd => assumption); (case hlen => assumption); (case hv => assumption); k_whole) | (refine' gotB_miss (tmps := [_, _, _]) ?O ?hp ?X ?T ?B ?CB ?hA ?hf ?hke ?hh ?hdep ?hun ?F ?N ?hup ?hd ?hlen ?hv ?_; (case O => assumption); (case hp => assumption); (case X => k_asm); (case T => k_asm); (case B => assumption); (case CB => assumption); (case hA => exact rfl); (case hf => exact rfl); (case hke => exact rfl); (case hh => exact rfl); (case hdep => exact Nat.le_of_ble_eq_true rfl); (case hun => exact Nat.le_of_ble_eq_true rfl); (case F => k_asm); (case N => assumption); (case hup => lcg_off); (case hd => assumption); (case hlen => assumption); (case hv => assumption); k_whole) | (refine' gotB_miss (tmps := [_, _, _, _]) ?O ?hp ?X ?T ?B ?CB ?hA ?hf ?hke ?hh ?hdep ?hun ?F ?N ?hup ?hd ?hlen ?hv ?_; (case O => assumption); (case hp => assumption); (case X => k_asm); (case T => k_asm); (case B => assumption); (case CB => assumption); (case hA => exact rfl); (case hf => exact rfl); (case hke => exact rfl); (case hh => exact rfl); (case hdep => exact Nat.le_of_ble_eq_true rfl); (case hun => exact Nat.le_of_ble_eq_true rfl); (case F => k_asm); (case N => assumption); (case hup => lcg_off); (case hd => assumption); (case hlen => assumption); (case hv => assumption); k_whole) | (refine' gotO_miss (tmps := []) ?O ?hp ?X ?T ?B ?CB ?hA ?hf ?hke ?hh ?hdep ?hun ?F ?N ?hup ?hd ?hlen ?hv ?_; (case O => assumption); (case hp => assumption); (case X => k_asm); (case T => k_asm); (case B => assumption); (case CB => assumption); (case hA => exact rfl); (case hf => exact rfl); (case hke => exact rfl); (case hh => exact rfl); (case hdep => exact Nat.le_of_ble_eq_true rfl); (case hun => exact Nat.le_of_ble_eq_true rfl); (case F => k_asm); (case N => assumption); (case hup => lcg_off); (case hd => assumption); (case hlen => assumption); (case hv => assumption); k_whole) | (refine' gotO_miss (tmps := [_]) ?O ?hp ?X ?T ?B ?CB ?hA ?hf ?hke ?hh ?hdep ?hun ?F ?N ?hup ?hd ?hlen ?hv ?_; (case O => assumption); (case hp => assumption); (case X => k_asm); (case T => k_asm); (case B => assumption); (case CB => assumption); (case hA => exact rfl); (case hf => exact rfl); (case hke => exact rfl); (case hh => exact rfl); (case hdep => exact Nat.le_of_ble_eq_true rfl); (case hun => exact Nat.le_of_ble_eq_true rfl); (case F => k_asm); (case N => assumption); (case hup => lcg_off); (case hd => assumption); (case hlen => assumption); (case hv => assumption); k_whole) | (refine' gotO_miss (tmps := [_, _]) ?O ?hp ?X ?T ?B ?CB ?hA ?hf ?hke ?hh ?hdep ?hun ?F ?N ?hup ?hd ?hlen ?hv ?_; (case O => assumption); (case hp => assumption); (case X => k_asm); (case T => k_asm); (case B => assumption); (case CB => assumption); (case hA => exact rfl); (case hf => exact rfl); (case hke => exact rfl); (case hh => exact rfl); (case hdep => exact Nat.le_of_ble_eq_true rfl); (case hun => exact Nat.le_of_ble_eq_true rfl); (case F => k_asm); (case N => assumption); (case hup => lcg_off); (case hd => assumption); (case hlen => assumption); (case hv => assumption); k_whole) | (refine' gotO_miss (tmps := [_, _, _]) ?O ?hp ?X ?T ?B ?CB ?hA ?hf ?hke ?hh ?hdep ?hun ?F ?N ?hup ?hd ?hlen ?hv ?_; (case O => assumption); (case hp => assumption); (case X => k_asm); (case T => k_asm); (case B => assumption); (case CB => assumption); (case hA => exact rfl); (case hf => exact rfl); (case hke => exact rfl); (case hh => exact rfl); (case hdep => exact Nat.le_of_ble_eq_true rfl); (case hun => exact Nat.le_of_ble_eq_true rfl); (case F => k_asm); (case N => assumption); (case hup => lcg_off); (case hd => assumption); (case hlen => assumption); (case hv => assumption); k_whole) | (refine' gotO_miss (tmps := [_, _, _, _]) ?O ?hp ?X ?T ?B ?CB ?hA ?hf ?hke ?hh ?hdep ?hun ?F ?N ?hup ?hd ?hlen ?hv ?_; (case O => assumption); (case hp => assumption); (case X => k_asm); (case T => k_asm); (case B => assumption); (case CB => assumption); (case hA => exact rfl); (case hf => exact rfl); (case hke => exact rfl); (case hh => exact rfl); (case hdep => exact Nat.le_of_ble_eq_true rfl); (case hun => exact Nat.le_of_ble_eq_true rfl); (case F => k_asm); (case N => assumption); (case hup => lcg_off); (case hd => assumption); (case hlen => assumption); (case hv => assumption); k_whole)); intro l' h' tk' F' N' l1 l2; (try dsimp only [List.cons_append, List.nil_append] at N'); (try (replace l2 := allLt_of l2; simp only [AllLt, and_true] at l2))))
local macro_rules | `(tactic| walk_at "call ref") => `(tactic| (k_here; (with_reducible show wpAny _ _ (call (Value.ref 99) [Value.ref _, Value.int _ _]) _ _ _); k_dflt (first | (refine' gotF_hit (tmps := []) ?O ?hp ?X ?T ?B ?CB ?hA ?hf ?hke ?hh ?hdep ?hun ?F ?N ?hup ?hd ?hlen ?hv ?_; (case O => assumption); (case hp => assumption); (case X => k_asm); (case T => k_asm); (case B => assumption); (case CB => assumption); (case hA => exact rfl); (case hf => exact rfl); (case hke => exact rfl); (case hh => exact rfl); (case hdep => exact Nat.le_of_ble_eq_true rfl); (case hun => exact Nat.le_of_ble_eq_true rfl); (case F => k_asm); (case N => assumption); (case hup => lcg_off); (case hd => assumption); (case hlen => assumption); (case hv => assumption); k_whole) | (refine' gotF_hit (tmps := [_]) ?O ?hp ?X ?T ?B ?CB ?hA ?hf ?hke ?hh ?hdep ?hun ?F ?N ?hup ?hd ?hlen ?hv ?_; (case O => assumption); (case hp => assumption); (case X => k_asm); (case T => k_asm); (case B => assumption); (case CB => assumption); (case hA => exact rfl); (case hf => exact rfl); (case hke => exact rfl); (case hh => exact rfl); (case hdep => exact Nat.le_of_ble_eq_true rfl); (case hun => exact Nat.le_of_ble_eq_true rfl); (case F => k_asm); (case N => assumption); (case hup => lcg_off); (case hd => assumption); (case hlen => assumption); (case hv => assumption); k_whole) | (refine' gotF_hit (tmps := [_, _]) ?O ?hp ?X ?T ?B ?CB ?hA ?hf ?hke ?hh ?hdep ?hun ?F ?N ?hup ?hd ?hlen ?hv ?_; (case O => assumption); (case hp => assumption); (case X => k_asm); (case T => k_asm); (case B => assumption); (case CB => assumption); (case hA => exact rfl); (case hf => exact rfl); (case hke => exact rfl); (case hh => exact rfl); (case hdep => exact Nat.le_of_ble_eq_true rfl); (case hun => exact Nat.le_of_ble_eq_true rfl); (case F => k_asm); (case N => assumption); (case hup => lcg_off); (case hd => assumption); (case hlen => assumption); (case hv => assumption); k_whole) | (refine' gotF_hit (tmps := [_, _, _]) ?O ?hp ?X ?T ?B ?CB ?hA ?hf ?hke ?hh ?hdep ?hun ?F ?N ?hup ?hd ?hlen ?hv ?_; (case O => assumption); (case hp => assumption); (case X => k_asm); (case T => k_asm); (case B => assumption); (case CB => assumption); (case hA => exact rfl); (case hf => exact rfl); (case hke => exact rfl); (case hh => exact rfl); (case hdep => exact Nat.le_of_ble_eq_true rfl); (case hun => exact Nat.le_of_ble_eq_true rfl); (case F => k_asm); (case N => assumption); (case hup => lcg_off); (case hd => assumption); (case hlen => assumption); (case hv => assumption); k_whole) | (refine' gotF_hit (tmps := [_, _, _, _]) ?O ?hp ?X ?T ?B ?CB ?hA ?hf ?hke ?hh ?hdep ?hun ?F ?N ?hup ?hd ?hlen ?hv ?_; (case O => assumption); (case hp => assumption); (case X => k_asm); (case T => k_asm); (case B => assumption); (case CB => assumption); (case hA => exact rfl); (case hf => exact rfl); (case hke => exact rfl); (case hh => exact rfl); (case hdep => exact Nat.le_of_ble_eq_true rfl); (case hun => exact Nat.le_of_ble_eq_true rfl); (case F => k_asm); (case N => assumption); (case hup => lcg_off); (case hd => assumption); (case hlen => assumption); (case hv => assumption); k_whole) | (refine' gotB_hit (tmps := []) ?O ?hp ?X ?T ?B ?CB ?hA ?hf ?hke ?hh ?hdep ?hun ?F ?N ?hup ?hd ?hlen ?hv ?_; (case O => assumption); (case hp => assumption); (case X => k_asm); (case T => k_asm); (case B => assumption); (case CB => assumption); (case hA => exact rfl); (case hf => exact rfl); (case hke => exact rfl); (case hh => exact rfl); (case hdep => exact Nat.le_of_ble_eq_true rfl); (case hun => exact Nat.le_of_ble_eq_true rfl); (case F => k_asm); (case N => assumption); (case hup => lcg_off); (case hd => assumption); (case hlen => assumption); (case hv => assumption); k_whole) | (refine' gotB_hit (tmps := [_]) ?O ?hp ?X ?T ?B ?CB ?hA ?hf ?hke ?hh ?hdep ?hun ?F ?N ?hup ?hd ?hlen ?hv ?_; (case O => assumption); (case hp => assumption); (case X => k_asm); (case T => k_asm); (case B => assumption); (case CB => assumption); (case hA => exact rfl); (case hf => exact rfl); (case hke => exact rfl); (case hh => exact rfl); (case hdep => exact Nat.le_of_ble_eq_true rfl); (case hun => exact Nat.le_of_ble_eq_true rfl); (case F => k_asm); (case N => assumption); (case hup => lcg_off); (case hd => assumption); (case hlen => assumption); (case hv => assumption); k_whole) | (refine' gotB_hit (tmps := [_, _]) ?O ?hp ?X ?T ?B ?CB ?hA ?hf ?hke ?hh ?hdep ?hun ?F ?N ?hup ?hd ?hlen ?hv ?_; (case O => assumption); (case hp => assumption); (case X => k_asm); (case T => k_asm); (case B => assumption); (case CB => assumption); (case hA => exact rfl); (case hf => exact rfl); (case hke => exact rfl); (case hh => exact rfl); (case hdep => exact Nat.le_of_ble_eq_true rfl); (case hun => exact Nat.le_of_ble_eq_true rfl); (case F => k_asm); (case N => assumption); (case hup => lcg_off); (case hd => assumption); (case hlen => assumption); (case hv => assumption); k_whole) | (refine' gotB_hit (tmps := [_, _, _]) ?O ?hp ?X ?T ?B ?CB ?hA ?hf ?hke ?hh ?hdep ?hun ?F ?N ?hup ?hd ?hlen ?hv ?_; (case O => assumption); (case hp => assumption); (case X => k_asm); (case T => k_asm); (case B => assumption); (case CB => assumption); (case hA => exact rfl); (case hf => exact rfl); (case hke => exact rfl); (case hh => exact rfl); (case hdep => exact Nat.le_of_ble_eq_true rfl); (case hun => exact Nat.le_of_ble_eq_true rfl); (case F => k_asm); (case N => assumption); (case hup => lcg_off); (case hd => assumption); (case hlen => assumption); (case hv => assumption); k_whole) | (refine' gotB_hit (tmps := [_, _, _, _]) ?O ?hp ?X ?T ?B ?CB ?hA ?hf ?hke ?hh ?hdep ?hun ?F ?N ?hup ?hd ?hlen ?hv ?_; (case O => assumption); (case hp => assumption); (case X => k_asm); (case T => k_asm); (case B => assumption); (case CB => assumption); (case hA => exact rfl); (case hf => exact rfl); (case hke => exact rfl); (case hh => exact rfl); (case hdep => exact Nat.le_of_ble_eq_true rfl); (case hun => exact Nat.le_of_ble_eq_true rfl); (case F => k_asm); (case N => assumption); (case hup => lcg_off); (case hd => assumption); (case hlen => assumption); (case hv => assumption); k_whole) | (refine' gotO_hit (tmps := []) ?O ?hp ?X ?T ?B ?CB ?hA ?hf ?hke ?hh ?hdep ?hun ?F ?N ?hup ?hd ?hlen ?hv ?_; (case O => assumption); (case hp => assumption); (case X => k_asm); (case T => k_asm); (case B => assumption); (case CB => assumption); (case hA => exact rfl); (case hf => exact rfl); (case hke => exact rfl); (case hh => exact rfl); (case hdep => exact Nat.le_of_ble_eq_true rfl); (case hun => exact Nat.le_of_ble_eq_true rfl); (case F => k_asm); (case N => assumption); (case hup => lcg_off); (case hd => assumption); (case hlen => assumption); (case hv => assumption); k_whole) | (refine' gotO_hit (tmps := [_]) ?O ?hp ?X ?T ?B ?CB ?hA ?hf ?hke ?hh ?hdep ?hun ?F ?N ?hup ?hd ?hlen ?hv ?_; (case O => assumption); (case hp => assumption); (case X => k_asm); (case T => k_asm); (case B => assumption); (case CB => assumption); (case hA => exact rfl); (case hf => exact rfl); (case hke => exact rfl); (case hh => exact rfl); (case hdep => exact Nat.le_of_ble_eq_true rfl); (case hun => exact Nat.le_of_ble_eq_true rfl); (case F => k_asm); (case N => assumption); (case hup => lcg_off); (case hd => assumption); (case hlen => assumption); (case hv => assumption); k_whole) | (refine' gotO_hit (tmps := [_, _]) ?O ?hp ?X ?T ?B ?CB ?hA ?hf ?hke ?hh ?hdep ?hun ?F ?N ?hup ?hd ?hlen ?hv ?_; (case O => assumption); (case hp => assumption); (case X => k_asm); (case T => k_asm); (case B => assumption); (case CB => assumption); (case hA => exact rfl); (case hf => exact rfl); (case hke => exact rfl); (case hh => exact rfl); (case hdep => exact Nat.le_of_ble_eq_true rfl); (case hun => exact Nat.le_of_ble_eq_true rfl); (case F => k_asm); (case N => assumption); (case hup => lcg_off); (case hd => assumption); (case hlen => assumption); (case hv => assumption); k_whole) | (refine' gotO_hit (tmps := [_, _, _]) ?O ?hp ?X ?T ?B ?CB ?hA ?hf ?hke ?hh ?hdep ?hun ?F ?N ?hup ?hd ?hlen ?hv ?_; (case O => assumption); (case hp => assumption); (case X => k_asm); (case T => k_asm); (case B => assumption); (case CB => assumption); (case hA => exact rfl); (case hf => exact rfl); (case hke => exact rfl); (case hh => exact rfl); (case hdep => exact Nat.le_of_ble_eq_true rfl); (case hun => exact Nat.le_of_ble_eq_true rfl); (case F => k_asm); (case N => assumption); (case hup => lcg_off); (case hd => assumption); (case hlen => assumption); (case hv => assumption); k_whole) | (refine' gotO_hit (tmps := [_, _, _, _]) ?O ?hp ?X ?T ?B ?CB ?hA ?hf ?hke ?hh ?hdep ?hun ?F ?N ?hup ?hd ?hlen ?hv ?_; (case O => assumption); (case hp => assumption); (case X => k_asm); (case T => k_asm); (case B => assumption); (case CB => assumption); (case hA => exact rfl); (case hf => exact rfl); (case hke => exact rfl); (case hh => exact rfl); (case hdep => exact Nat.le_of_ble_eq_true rfl); (case hun => exact Nat.le_of_ble_eq_true rfl); (case F => k_asm); (case N => assumption); (case hup => lcg_off); (case hd => assumption); (case hlen => assumption); (case hv => assumption); k_whole)); intro l' h' tk' od' F' N' l1 l2 hd'; (try dsimp only [List.cons_append, List.nil_append] at N'); (try (replace l2 := allLt_of l2; simp only [AllLt, and_true] at l2))))
local macro_rules | `(tactic| walk_at "call ref") => `(tactic| (k_here; (with_reducible show wpAny _ _ (call (Value.ref 85) [Value.ref _]) _ _ _); k_dflt (first | (refine' keysO (tmps := []) ?O ?hp ?X ?T ?B ?CB ?hA ?hf ?hke ?hh ?hdep ?hun ?F ?N ?hup ?hd ?hlen ?_; (case O => assumption); (case hp => assumption); (case X => k_asm); (case T => k_asm); (case B => assumption); (case CB => assumption); (case hA => exact rfl); (case hf => exact rfl); (case hke => exact rfl); (case hh => exact rfl); (case hdep => exact Nat.le_of_ble_eq_true rfl); (case hun => exact Nat.le_of_ble_eq_true rfl); (case F => k_asm); (case N => assumption); (case hup => lcg_off); (case hd => assumption); (case hlen => assumption); k_whole) | (refine' keysO (tmps := [_]) ?O ?hp ?X ?T ?B ?CB ?hA ?hf ?hke ?hh ?hdep ?hun ?F ?N ?hup ?hd ?hlen ?_; (case O => assumption); (case hp => assumption); (case X => k_asm); (case T => k_asm); (case B => assumption); (case CB => assumption); (case hA => exact rfl); (case hf => exact rfl); (case hke => exact rfl); (case hh => exact rfl); (case hdep => exact Nat.le_of_ble_eq_true rfl); (case hun => exact Nat.le_of_ble_eq_true rfl); (case F => k_asm); (case N => assumption); (case hup => lcg_off); (case hd => assumption); (case hlen => assumption); k_whole) | (refine' keysO (tmps := [_, _]) ?O ?hp ?X ?T ?B ?CB ?hA ?hf ?hke ?hh ?hdep ?hun ?F ?N ?hup ?hd ?hlen ?_; (case O => assumption); (case hp => assumption); (case X => k_asm); (case T => k_asm); (case B => assumption); (case CB => assumption); (case hA => exact rfl); (case hf => exact rfl); (case hke => exact rfl); (case hh => exact rfl); (case hdep => exact Nat.le_of_ble_eq_true rfl); (case hun => exact Nat.le_of_ble_eq_true rfl); (case F => k_asm); (case N => assumption); (case hup => lcg_off); (case hd => assumption); (case hlen => assumption); k_whole) | (refine' keysO (tmps := [_, _, _]) ?O ?hp ?X ?T ?B ?CB ?hA ?hf ?hke ?hh ?hdep ?hun ?F ?N ?hup ?hd ?hlen ?_; (case O => assumption); (case hp => assumption); (case X => k_asm); (case T => k_asm); (case B => assumption); (case CB => assumption); (case hA => exact rfl); (case hf => exact rfl); (case hke => exact rfl); (case hh => exact rfl); (case hdep => exact Nat.le_of_ble_eq_true rfl); (case hun => exact Nat.le_of_ble_eq_true rfl); (case F => k_asm); (case N => assumption); (case hup => lcg_off); (case hd => assumption); (case hlen => assumption); k_whole) | (refine' keysO (tmps := [_, _, _, _]) ?O ?hp ?X ?T ?B ?CB ?hA ?hf ?hke ?hh ?hdep ?hun ?F ?N ?hup ?hd ?hlen ?_; (case O => assumption); (case hp => assumption); (case X => k_asm); (case T => k_asm); (case B => assumption); (case CB => assumption); (case hA => exact rfl); (case hf => exact rfl); (case hke => exact rfl); (case hh => exact rfl); (case hdep => exact Nat.le_of_ble_eq_true rfl); (case hun => exact Nat.le_of_ble_eq_true rfl); (case F => k_asm); (case N => assumption); (case hup => lcg_off); (case hd => assumption); (case hlen => assumption); k_whole) | (refine' keysO (tmps := [_, _, _, _, _]) ?O ?hp ?X ?T ?B ?CB ?hA ?hf ?hke ?hh ?hdep ?hun ?F ?N ?hup ?hd ?hlen ?_; (case O => assumption); (case hp => assumption); (case X => k_asm); (case T => k_asm); (case B => assumption); (case CB => assumption); (case hA => exact rfl); (case hf => exact rfl); (case hke => exact rfl); (case hh => exact rfl); (case hdep => exact Nat.le_of_ble_eq_true rfl); (case hun => exact Nat.le_of_ble_eq_true rfl); (case F => k_asm); (case N => assumption); (case hup => lcg_off); (case hd => assumption); (case hlen => assumption); k_whole) | (refine' keysO (tmps := [_, _, _, _, _, _]) ?O ?hp ?X ?T ?B ?CB ?hA ?hf ?hke ?hh ?hdep ?hun ?F ?N ?hup ?hd ?hlen ?_; (case O => assumption); (case hp => assumption); (case X => k_asm); (case T => k_asm); (case B => assumption); (case CB => assumption); (case hA => exact rfl); (case hf => exact rfl); (case hke => exact rfl); (case hh => exact rfl); (case hdep => exact Nat.le_of_ble_eq_true rfl); (case hun => exact Nat.le_of_ble_eq_true rfl); (case F => k_asm); (case N => assumption); (case hup => lcg_off); (case hd => assumption); (case hlen => assumption); k_whole) | (refine' keysO (tmps := [_, _, _, _, _, _, _]) ?O ?hp ?X ?T ?B ?CB ?hA ?hf ?hke ?hh ?hdep ?hun ?F ?N ?hup ?hd ?hlen ?_; (case O => assumption); (case hp => assumption); (case X => k_asm); (case T => k_asm); (case B => assumption); (case CB => assumption); (case hA => exact rfl); (case hf => exact rfl); (case hke => exact rfl); (case hh => exact rfl); (case hdep => exact Nat.le_of_ble_eq_true rfl); (case hun => exact Nat.le_of_ble_eq_true rfl); (case F => k_asm); (case N => assumption); (case hup => lcg_off); (case hd => assumption); (case hlen => assumption); k_whole)); intro l' so' h' tk' F' N' l1 l2 hs'; (try dsimp only [List.cons_append, List.nil_append] at N'); (try (replace l2 := allLt_of l2; simp only [AllLt, and_true] at l2))))
local macro_rules | `(tactic| walk_at "call ref") => `(tactic| (k_here; (with_reducible show wpAny _ _ (call (Value.ref 85) [Value.ref _]) _ _ _); k_dflt (first | (refine' keysSF (tmps := []) ?O ?hp ?X ?T ?B ?CB ?hA ?hf ?hke ?hh ?hdep ?hun ?F ?N ?hup ?hd ?hlen ?h7 ?_; (case O => assumption); (case hp => assumption); (case X => k_asm); (case T => k_asm); (case B => assumption); (case CB => assumption); (case hA => exact rfl); (case hf => exact rfl); (case hke => exact rfl); (case hh => exact rfl); (case hdep => exact Nat.le_of_ble_eq_true rfl); (case hun => exact Nat.le_of_ble_eq_true rfl); (case F => k_asm); (case N => assumption); (case hup => lcg_off); (case hd => assumption); (case hlen => assumption); (case h7 => assumption); k_whole) | (refine' keysSF (tmps := [_]) ?O ?hp ?X ?T ?B ?CB ?hA ?hf ?hke ?hh ?hdep ?hun ?F ?N ?hup ?hd ?hlen ?h7 ?_; (case O => assumption); (case hp => assumption); (case X => k_asm); (case T => k_asm); (case B => assumption); (case CB => assumption); (case hA => exact rfl); (case hf => exact rfl); (case hke => exact rfl); (case hh => exact rfl); (case hdep => exact Nat.le_of_ble_eq_true rfl); (case hun => exact Nat.le_of_ble_eq_true rfl); (case F => k_asm); (case N => assumption); (case hup => lcg_off); (case hd => assumption); (case hlen => assumption); (case h7 => assumption); k_whole) | (refine' keysSF (tmps := [_, _]) ?O ?hp ?X ?T ?B ?CB ?hA ?hf ?hke ?hh ?hdep ?hun ?F ?N ?hup ?hd ?hlen ?h7 ?_; (case O => assumption); (case hp => assumption); (case X => k_asm); (case T => k_asm); (case B => assumption); (case CB => assumption); (case hA => exact rfl); (case hf => exact rfl); (case hke => exact rfl); (case hh => exact rfl); (case hdep => exact Nat.le_of_ble_eq_true rfl); (case hun => exact Nat.le_of_ble_eq_true rfl); (case F => k_asm); (case N => assumption); (case hup => lcg_off); (case hd => assumption); (case hlen => assumption); (case h7 => assumption); k_whole) | (refine' keysSF (tmps := [_, _, _]) ?O ?hp ?X ?T ?B ?CB ?hA ?hf ?hke ?hh ?hdep ?hun ?F ?N ?hup ?hd ?hlen ?h7 ?_; (case O => assumption); (case hp => assumption); (case X => k_asm); (case T => k_asm); (case B => assumption); (case CB => assumption); (case hA => exact rfl); (case hf => exact rfl); (case hke => exact rfl); (case hh => exact rfl); (case hdep => exact Nat.le_of_ble_eq_true rfl); (case hun => exact Nat.le_of_ble_eq_true rfl); (case F => k_asm); (case N => assumption); (case hup => lcg_off); (case hd => assumption); (case hlen => assumption); (case h7 => assumption); k_whole) | (refine' keysSF (tmps := [_, _, _, _]) ?O ?hp ?X ?T ?B ?CB ?hA ?hf ?hke ?hh ?hdep ?hun ?F ?N ?hup ?hd ?hlen ?h7 ?_; (case O => assumption); (case hp => assumption); (case X => k_asm); (case T => k_asm); (case B => assumption); (case CB => assumption); (case hA => exact rfl); (case hf => exact rfl); (case hke => exact rfl); (case hh => exact rfl); (case hdep => exact Nat.le_of_ble_eq_true rfl); (case hun => exact Nat.le_of_ble_eq_true rfl); (case F => k_asm); (case N => assumption); (case hup => lcg_off); (case hd => assumption); (case hlen => assumption); (case h7 => assumption); k_whole) | (refine' keysSF (tmps := [_, _, _, _, _]) ?O ?hp ?X ?T ?B ?CB ?hA ?hf ?hke ?hh ?hdep ?hun ?F ?N ?hup ?hd ?hlen ?h7 ?_; (case O => assumption); (case hp => assumption); (case X => k_asm); (case T => k_asm); (case B => assumption); (case CB => assumption); (case hA => exact rfl); (case hf => exact rfl); (case hke => exact rfl); (case hh => exact rfl); (case hdep => exact Nat.le_of_ble_eq_true rfl); (case hun => exact Nat.le_of_ble_eq_true rfl); (case F => k_asm); (case N => assumption); (case hup => lcg_off); (case hd => assumption); (case hlen => assumption); (case h7 => assumption); k_whole) | (refine' keysSF (tmps := [_, _, _, _, _, _]) ?O ?hp ?X ?T ?B ?CB ?hA ?hf ?hke ?hh ?hdep ?hun ?F ?N ?hup ?hd ?hlen ?h7 ?_; (case O => assumption); (case hp => assumption); (case X => k_asm); (case T => k_asm); (case B => assumption); (case CB => assumption); (case hA => exact rfl); (case hf => exact rfl); (case hke => exact rfl); (case hh => exact rfl); (case hdep => exact Nat.le_of_ble_eq_true rfl); (case hun => exact Nat.le_of_ble_eq_true rfl); (case F => k_asm); (case N => assumption); (case hup => lcg_off); (case hd => assumption); (case hlen => assumption); (case h7 => assumption); k_whole) | (refine' keysSF (tmps := [_, _, _, _, _, _, _]) ?O ?hp ?X ?T ?B ?CB ?hA ?hf ?hke ?hh ?hdep ?hun ?F ?N ?hup ?hd ?hlen ?h7 ?_; (case O => assumption); (case hp => assumption); (case X => k_asm); (case T => k_asm); (case B => assumption); (case CB => assumption); (case hA => exact rfl); (case hf => exact rfl); (case hke => exact rfl); (case hh => exact rfl); (case hdep => exact Nat.le_of_ble_eq_true rfl); (case hun => exact Nat.le_of_ble_eq_true rfl); (case F => k_asm); (case N => assumption); (case hup => lcg_off); (case hd => assumption); (case hlen => assumption); (case h7 => assumption); k_whole) | (refine' keysSB (tmps := []) ?O ?hp ?X ?T ?B ?CB ?hA ?hf ?hke ?hh ?hdep ?hun ?F ?N ?hup ?hd ?hlen ?h7 ?_; (case O => assumption); (case hp => assumption); (case X => k_asm); (case T => k_asm); (case B => assumption); (case CB => assumption); (case hA => exact rfl); (case hf => exact rfl); (case hke => exact rfl); (case hh => exact rfl); (case hdep => exact Nat.le_of_ble_eq_true rfl); (case hun => exact Nat.le_of_ble_eq_true rfl); (case F => k_asm); (case N => assumption); (case hup => lcg_off); (case hd => assumption); (case hlen => assumption); (case h7 => assumption); k_whole) | (refine' keysSB (tmps := [_]) ?O ?hp ?X ?T ?B ?CB ?hA ?hf ?hke ?hh ?hdep ?hun ?F ?N ?hup ?hd ?hlen ?h7 ?_; (case O => assumption); (case hp => assumption); (case X => k_asm); (case T => k_asm); (case B => assumption); (case CB => assumption); (case hA => exact rfl); (case hf => exact rfl); (case hke => exact rfl); (case hh => exact rfl); (case hdep => exact Nat.le_of_ble_eq_true rfl); (case hun => exact Nat.le_of_ble_eq_true rfl); (case F => k_asm); (case N => assumption); (case hup => lcg_off); (case hd => assumption); (case hlen => assumption); (case h7 => assumption); k_whole) | (refine' keysSB (tmps := [_, _]) ?O ?hp ?X ?T ?B ?CB ?hA ?hf ?hke ?hh ?hdep ?hun ?F ?N ?hup ?hd ?hlen ?h7 ?_; (case O => assumption); (case hp => assumption); (case X => k_asm); (case T => k_asm); (case B => assumption); (case CB => assumption); (case hA => exact rfl); (case hf => exact rfl); (case hke => exact rfl); (case hh => exact rfl); (case hdep => exact Nat.le_of_ble_eq_true rfl); (case hun => exact Nat.le_of_ble_eq_true rfl); (case F => k_asm); (case N => assumption); (case hup => lcg_off); (case hd => assumption); (case hlen => assumption); (case h7 => assumption); k_whole) | (refine' keysSB (tmps := [_, _, _]) ?O ?hp ?X ?T ?B ?CB ?hA ?hf ?hke ?hh ?hdep ?hun ?F ?N ?hup ?hd ?hlen ?h7 ?_; (case O => assumption); (case hp => assumption); (case X => k_asm); (case T => k_asm); (case B => assumption); (case CB => assumption); (case hA => exact rfl); (case hf => exact rfl); (case hke => exact rfl); (case hh => exact rfl); (case hdep => exact Nat.le_of_ble_eq_true rfl); (case hun => exact Nat.le_of_ble_eq_true rfl); (case F => k_asm); (case N => assumption); (case hup => lcg_off); (case hd => assumption); (case hlen => assumption); (case h7 => assumption); k_whole) | (refine' keysSB (tmps := [_, _, _, _]) ?O ?hp ?X ?T ?B ?CB ?hA ?hf ?hke ?hh ?hdep ?hun ?F ?N ?hup ?hd ?hlen ?h7 ?_; (case O => assumption); (case hp => assumption); (case X => k_asm); (case T => k_asm); (case B => assumption); (case CB => assumption); (case hA => exact rfl); (case hf => exact rfl); (case hke => exact rfl); (case hh => exact rfl); (case hdep => exact Nat.le_of_ble_eq_true rfl); (case hun => exact Nat.le_of_ble_eq_true rfl); (case F => k_asm); (case N => assumption); (case hup => lcg_off); (case hd => assumption); (case hlen => assumption); (case h7 => assumption); k_whole) | (refine' keysSB (tmps := [_, _, _, _, _]) ?O ?hp ?X ?T ?B ?CB ?hA ?hf ?hke ?hh ?hdep ?hun ?F ?N ?hup ?hd ?hlen ?h7 ?_; (case O => assumption); (case hp => assumption); (case X => k_asm); (case T => k_asm); (case B => assumption); (case CB => assumption); (case hA => exact rfl); (case hf => exact rfl); (case hke => exact rfl); (case hh => exact rfl); (case hdep => exact Nat.le_of_ble_eq_true rfl); (case hun => exact Nat.le_of_ble_eq_true rfl); (case F => k_asm); (case N => assumption); (case hup => lcg_off); (case hd => assumption); (case hlen => assumption); (case h7 => assumption); k_whole) | (refine' keysSB (tmps := [_, _, _, _, _, _]) ?O ?hp ?X ?T ?B ?CB ?hA ?hf ?hke ?hh ?hdep ?hun ?F ?N ?hup ?hd ?hlen ?h7 ?_; (case O => assumption); (case hp => assumption); (case X => k_asm); (case T => k_asm); (case B => assumption); (case CB => assumption); (case hA => exact rfl); (case hf => exact rfl); (case hke => exact rfl); (case hh => exact rfl); (case hdep => exact Nat.le_of_ble_eq_true rfl); (case hun => exact Nat.le_of_ble_eq_true rfl); (case F => k_asm); (case N => assumption); (case hup => lcg_off); (case hd => assumption); (case hlen => assumption); (case h7 => assumption); k_whole) | (refine' keysSB (tmps := [_, _, _, _, _, _, _]) ?O ?hp ?X ?T ?B ?CB ?hA ?hf ?hke ?hh ?hdep ?hun ?F ?N ?hup ?hd ?hlen ?h7 ?_; (case O => assumption); (case hp => assumption); (case X => k_asm); (case T => k_asm); (case B => assumption); (case CB => assumption); (case hA => exact rfl); (case hf => exact rfl); (case hke => exact rfl); (case hh => exact rfl); (case hdep => exact Nat.le_of_ble_eq_true rfl); (case hun => exact Nat.le_of_ble_eq_true rfl); (case F => k_asm); (case N => assumption); (case hup => lcg_off); (case hd => assumption); (case hlen => assumption); (case h7 => assumption); k_whole)); intro l' so' h' tk' F' N' l1 l2 hs'; (try dsimp only [List.cons_append, List.nil_append] at N'); (try (replace l2 := allLt_of l2; simp only [AllLt, and_true] at l2))))
local macro_rules | `(tactic| walk_at "call builtin:len") => `(tactic| (k_here; (with_reducible show wpAny _ _ (call (Value.builtin "len") [Value.ref _]) _ _ _); k_dflt (first | (refine' lenF (tmps := []) ?O ?hp ?X ?T ?B ?CB ?hA ?hf ?hke ?hh ?hdep ?hun ?F ?N ?hup ?hd ?hlen ?_; (case O => assumption); (case hp => assumption); (case X => k_asm); (case T => k_asm); (case B => assumption); (case CB => assumption); (case hA => exact rfl); (case hf => exact rfl); (case hke => exact rfl); (case hh => exact rfl); (case hdep => exact Nat.le_of_ble_eq_true rfl); (case hun => exact Nat.le_of_ble_eq_true rfl); (case F => k_asm); (case N => assumption); (case hup => lcg_off); (case hd => assumption); (case hlen => assumption); k_whole) | (refine' lenF (tmps := [_]) ?O ?hp ?X ?T ?B ?CB ?hA ?hf ?hke ?hh ?hdep ?hun ?F ?N ?hup ?hd ?hlen ?_; (case O => assumption); (case hp => assumption); (case X => k_asm); (case T => k_asm); (case B => assumption); (case CB => assumption); (case hA => exact rfl); (case hf => exact rfl); (case hke => exact rfl); (case hh => exact rfl); (case hdep => exact Nat.le_of_ble_eq_true rfl); (case hun => exact Nat.le_of_ble_eq_true rfl); (case F => k_asm); (case N => assumption); (case hup => lcg_off); (case hd => assumption); (case hlen => assumption); k_whole) | (refine' lenF (tmps := [_, _]) ?O ?hp ?X ?T ?B ?CB ?hA ?hf ?hke ?hh ?hdep ?hun ?F ?N ?hup ?hd ?hlen ?_; (case O => assumption); (case hp => assumption); (case X => k_asm); (case T => k_asm); (case B => assumption); (case CB => assumption); (case hA => exact rfl); (case hf => exact rfl); (case hke => exact rfl); (case hh => exact rfl); (case hdep => exact Nat.le_of_ble_eq_true rfl); (case hun => exact Nat.le_of_ble_eq_true rfl); (case F => k_asm); (case N => assumption); (case hup => lcg_off); (case hd => assumption); (case hlen => assumption); k_whole) | (refine' lenF (tmps := [_, _, _]) ?O ?hp ?X ?T ?B ?CB ?hA ?hf ?hke ?hh ?hdep ?hun ?F ?N ?hup ?hd ?hlen ?_; (case O => assumption); (case hp => assumption); (case X => k_asm); (case T => k_asm); (case B => assumption); (case CB => assumption); (case hA => exact rfl); (case hf => exact rfl); (case hke => exact rfl); (case hh => exact rfl); (case hdep => exact Nat.le_of_ble_eq_true rfl); (case hun => exact Nat.le_of_ble_eq_true rfl); (case F => k_asm); (case N => assumption); (case hup => lcg_off); (case hd => assumption); (case hlen => assumption); k_whole) | (refine' lenF (tmps := [_, _, _, _]) ?O ?hp ?X ?T ?B ?CB ?hA ?hf ?hke ?hh ?hdep ?hun ?F ?N ?hup ?hd ?hlen ?_; (case O => assumption); (case hp => assumption); (case X => k_asm); (case T => k_asm); (case B => assumption); (case CB => assumption); (case hA => exact rfl); (case hf => exact rfl); (case hke => exact rfl); (case hh => exact rfl); (case hdep => exact Nat.le_of_ble_eq_true rfl); (case hun => exact Nat.le_of_ble_eq_true rfl); (case F => k_asm); (case N => assumption); (case hup => lcg_off); (case hd => assumption); (case hlen => assumption); k_whole) | (refine' lenB (tmps := []) ?O ?hp ?X ?T ?B ?CB ?hA ?hf ?hke ?hh ?hdep ?hun ?F ?N ?hup ?hd ?hlen ?_; (case O => assumption); (case hp => assumption); (case X => k_asm); (case T => k_asm); (case B => assumption); (case CB => assumption); (case hA => exact rfl); (case hf => exact rfl); (case hke => exact rfl); (case hh => exact rfl); (case hdep => exact Nat.le_of_ble_eq_true rfl); (case hun => exact Nat.le_of_ble_eq_true rfl); (case F => k_asm); (case N => assumption); (case hup => lcg_off); (case hd => assumption); (case hlen => assumption); k_whole) | (refine' lenB (tmps := [_]) ?O ?hp ?X ?T ?B ?CB ?hA ?hf ?hke ?hh ?hdep ?hun ?F ?N ?hup ?hd ?hlen ?_; (case O => assumption); (case hp => assumption); (case X => k_asm); (case T => k_asm); (case B => assumption); (case CB => assumption); (case hA => exact rfl); (case hf => exact rfl); (case hke => exact rfl); (case hh => exact rfl); (case hdep => exact Nat.le_of_ble_eq_true rfl); (case hun => exact Nat.le_of_ble_eq_true rfl); (case F => k_asm); (case N => assumption); (case hup => lcg_off); (case hd => assumption); (case hlen => assumption); k_whole) | (refine' lenB (tmps := [_, _]) ?O ?hp ?X ?T ?B ?CB ?hA ?hf ?hke ?hh ?hdep ?hun ?F ?N ?hup ?hd ?hlen ?_; (case O => assumption); (case hp => assumption); (case X => k_asm); (case T => k_asm); (case B => assumption); (case CB => assumption); (case hA => exact rfl); (case hf => exact rfl); (case hke => exact rfl); (case hh => exact rfl); (case hdep => exact Nat.le_of_ble_eq_true rfl); (case hun => exact Nat.le_of_ble_eq_true rfl); (case F => k_asm); (case N => assumption); (case hup => lcg_off); (case hd => assumption); (case hlen => assumption); k_whole) | (refine' lenB (tmps := [_, _, _]) ?O ?hp ?X ?T ?B ?CB ?hA ?hf ?hke ?hh ?hdep ?hun ?F ?N ?hup ?hd ?hlen ?_; (case O => assumption); (case hp => assumption); (case X => k_asm); (case T => k_asm); (case B => assumption); (case CB => assumption); (case hA => exact rfl); (case hf => exact rfl); (case hke => exact rfl); (case hh => exact rfl); (case hdep => exact Nat.le_of_ble_eq_true rfl); (case hun => exact Nat.le_of_ble_eq_true rfl); (case F => k_asm); (case N => assumption); (case hup => lcg_off); (case hd => assumption); (case hlen => assumption); k_whole) | (refine' lenB (tmps := [_, _, _, _]) ?O ?hp ?X ?T ?B ?CB ?hA ?hf ?hke ?hh ?hdep ?hun ?F ?N ?hup ?hd ?hlen ?_; (case O => assumption); (case hp => assumption); (case X => k_asm); (case T => k_asm); (case B => assumption); (case CB => assumption); (case hA => exact rfl); (case hf => exact rfl); (case hke => exact rfl); (case hh => exact rfl); (case hdep => exact Nat.le_of_ble_eq_true rfl); (case hun => exact Nat.le_of_ble_eq_true rfl); (case F => k_asm); (case N => assumption); (case hup => lcg_off); (case hd => assumption); (case hlen => assumption); k_whole) | (refine' lenO (tmps := []) ?O ?hp ?X ?T ?B ?CB ?hA ?hf ?hke ?hh ?hdep ?hun ?F ?N ?hup ?hd ?hlen ?_; (case O => assumption); (case hp => assumption); (case X => k_asm); (case T => k_asm); (case B => assumption); (case CB => assumption); (case hA => exact rfl); (case hf => exact rfl); (case hke => exact rfl); (case hh => exact rfl); (case hdep => exact Nat.le_of_ble_eq_true rfl); (case hun => exact Nat.le_of_ble_eq_true rfl); (case F => k_asm); (case N => assumption); (case hup => lcg_off); (case hd => assumption); (case hlen => assumption); k_whole) | (refine' lenO (tmps := [_]) ?O ?hp ?X ?T ?B ?CB ?hA ?hf ?hke ?hh ?hdep ?hun ?F ?N ?hup ?hd ?hlen ?_; (case O => assumption); (case hp => assumption); (case X => k_asm); (case T => k_asm); (case B => assumption); (case CB => assumption); (case hA => exact rfl); (case hf => exact rfl); (case hke => exact rfl); (case hh => exact rfl); (case hdep => exact Nat.le_of_ble_eq_true rfl); (case hun => exact Nat.le_of_ble_eq_true rfl); (case F => k_asm); (case N => assumption); (case hup => lcg_off); (case hd => assumption); (case hlen => assumption); k_whole) | (refine' lenO (tmps := [_, _]) ?O ?hp ?X ?T ?B ?CB ?hA ?hf ?hke ?hh ?hdep ?hun ?F ?N ?hup ?hd ?hlen ?_; (case O => assumption); (case hp => assumption); (case X => k_asm); (case T => k_asm); (case B => assumption); (case CB => assumption); (case hA => exact rfl); (case hf => exact rfl); (case hke => exact rfl); (case hh => exact rfl); (case hdep => exact Nat.le_of_ble_eq_true rfl); (case hun => exact Nat.le_of_ble_eq_true rfl); (case F => k_asm); (case N => assumption); (case hup => lcg_off); (case hd => assumption); (case hlen => assumption); k_whole) | (refine' lenO (tmps := [_, _, _]) ?O ?hp ?X ?T ?B ?CB ?hA ?hf ?hke ?hh ?hdep ?hun ?F ?N ?hup ?hd ?hlen ?_; (case O => assumption); (case hp => assumption); (case X => k_asm); (case T => k_asm); (case B => assumption); (case CB => assumption); (case hA => exact rfl); (case hf => exact rfl); (case hke => exact rfl); (case hh => exact rfl); (case hdep => exact Nat.le_of_ble_eq_true rfl); (case hun => exact Nat.le_of_ble_eq_true rfl); (case F => k_asm); (case N => assumption); (case hup => lcg_off); (case hd => assumption); (case hlen => assumption); k_whole) | (refine' lenO (tmps := [_, _, _, _]) ?O ?hp ?X ?T ?B ?CB ?hA ?hf ?hke ?hh ?hdep ?hun ?F ?N ?hup ?hd ?hlen ?_; (case O => assumption); (case hp => assumption); (case X => k_asm); (case T => k_asm); (case B => assumption); (case CB => assumption); (case hA => exact rfl); (case hf => exact rfl); (case hke => exact rfl); (case hh => exact rfl); (case hdep => exact Nat.le_of_ble_eq_true rfl); (case hun => exact Nat.le_of_ble_eq_true rfl); (case F => k_asm); (case N => assumption); (case hup => lcg_off); (case hd => assumption); (case hlen => assumption); k_whole)); intro u' h' tk' F' N'; (try dsimp only [List.cons_append, List.nil_append] at N')))
local macro_rules | `(tactic| walk_at "call ref") => `(tactic| (k_here; (with_reducible show wpAny _ _ (call (Value.ref 106) [Value.ref _, Value.int _ _]) _ _ _); k_dflt (first | (refine' deletedB (tmps := []) ?O ?hp ?X ?T ?B ?CB ?hA ?hf ?hke ?hh ?hdep ?hun ?F ?N ?hup ?hd ?hlen ?hz ?hT ?hb ?_; (case O => assumption); (case hp => assumption); (case X => k_asm); (case T => k_asm); (case B => assumption); (case CB => assumption); (case hA => exact rfl); (case hf => exact rfl); (case hke => exact rfl); (case hh => exact rfl); (case hdep => exact Nat.le_of_ble_eq_true rfl); (case hun => exact Nat.le_of_ble_eq_true rfl); (case F => k_asm); (case N => assumption); (case hup => lcg_off); (case hd => assumption); (case hlen => assumption); (case hz => assumption); (case hT => assumption); (case hb => assumption); k_whole) | (refine' deletedB (tmps := [_]) ?O ?hp ?X ?T ?B ?CB ?hA ?hf ?hke ?hh ?hdep ?hun ?F ?N ?hup ?hd ?hlen ?hz ?hT ?hb ?_; (case O => assumption); (case hp => assumption); (case X => k_asm); (case T => k_asm); (case B => assumption); (case CB => assumption); (case hA => exact rfl); (case hf => exact rfl); (case hke => exact rfl); (case hh => exact rfl); (case hdep => exact Nat.le_of_ble_eq_true rfl); (case hun => exact Nat.le_of_ble_eq_true rfl); (case F => k_asm); (case N => assumption); (case hup => lcg_off); (case hd => assumption); (case hlen => assumption); (case hz => assumption); (case hT => assumption); (case hb => assumption); k_whole) | (refine' deletedB (tmps := [_, _]) ?O ?hp ?X ?T ?B ?CB ?hA ?hf ?hke ?hh ?hdep ?hun ?F ?N ?hup ?hd ?hlen ?hz ?hT ?hb ?_; (case O => assumption); (case hp => assumption); (case X => k_asm); (case T => k_asm); (case B => assumption); (case CB => assumption); (case hA => exact rfl); (case hf => exact rfl); (case hke => exact rfl); (case hh => exact rfl); (case hdep => exact Nat.le_of_ble_eq_true rfl); (case hun => exact Nat.le_of_ble_eq_true rfl); (case F => k_asm); (case N => assumption); (case hup => lcg_off); (case hd => assumption); (case hlen => assumption); (case hz => assumption); (case hT => assumption); (case hb => assumption); k_whole) | (refine' deletedB (tmps := [_, _, _]) ?O ?hp ?X ?T ?B ?CB ?hA ?hf ?hke ?hh ?hdep ?hun ?F ?N ?hup ?hd ?hlen ?hz ?hT ?hb ?_; (case O => assumption); (case hp => assumption); (case X => k_asm); (case T => k_asm); (case B => assumption); (case CB => assumption); (case hA => exact rfl); (case hf => exact rfl); (case hke => exact rfl); (case hh => exact rfl); (case hdep => exact Nat.le_of_ble_eq_true rfl); (case hun => exact Nat.le_of_ble_eq_true rfl); (case F => k_asm); (case N => assumption); (case hup => lcg_off); (case hd => assumption); (case hlen => assumption); (case hz => assumption); (case hT => assumption); (case hb => assumption); k_whole) | (refine' deletedB (tmps := [_, _, _, _]) ?O ?hp ?X ?T ?B ?CB ?hA ?hf ?hke ?hh ?hdep ?hun ?F ?N ?hup ?hd ?hlen ?hz ?hT ?hb ?_; (case O => assumption); (case hp => assumption); (case X => k_asm); (case T => k_asm); (case B => assumption); (case CB => assumption); (case hA => exact rfl); (case hf => exact rfl); (case hke => exact rfl); (case hh => exact rfl); (case hdep => exact Nat.le_of_ble_eq_true rfl); (case hun => exact Nat.le_of_ble_eq_true rfl); (case F => k_asm); (case N => assumption); (case hup => lcg_off); (case hd => assumption); (case hlen => assumption); (case hz => assumption); (case hT => assumption); (case hb => assumption); k_whole) | (refine' deletedO (tmps := []) ?O ?hp ?X ?T ?B ?CB ?hA ?hf ?hke ?hh ?hdep ?hun ?F ?N ?hup ?hd ?hlen ?hz ?hT ?hb ?_; (case O => assumption); (case hp => assumption); (case X => k_asm); (case T => k_asm); (case B => assumption); (case CB => assumption); (case hA => exact rfl); (case hf => exact rfl); (case hke => exact rfl); (case hh => exact rfl); (case hdep => exact Nat.le_of_ble_eq_true rfl); (case hun => exact Nat.le_of_ble_eq_true rfl); (case F => k_asm); (case N => assumption); (case hup => lcg_off); (case hd => assumption); (case hlen => assumption); (case hz => assumption); (case hT => assumption); (case hb => assumption); k_whole) | (refine' deletedO (tmps := [_]) ?O ?hp ?X ?T ?B ?CB ?hA ?hf ?hke ?hh ?hdep ?hun ?F ?N ?hup ?hd ?hlen ?hz ?hT ?hb ?_; (case O => assumption); (case hp => assumption); (case X => k_asm); (case T => k_asm); (case B => assumption); (case CB => assumption); (case hA => exact rfl); (case hf => exact rfl); (case hke => exact rfl); (case hh => exact rfl); (case hdep => exact Nat.le_of_ble_eq_true rfl); (case hun => exact Nat.le_of_ble_eq_true rfl); (case F => k_asm); (case N => assumption); (case hup => lcg_off); (case hd => assumption); (case hlen => assumption); (case hz => assumption); (case hT => assumption); (case hb => assumption); k_whole) | (refine' deletedO (tmps := [_, _]) ?O ?hp ?X ?T ?B ?CB ?hA ?hf ?hke ?hh ?hdep ?hun ?F ?N ?hup ?hd ?hlen ?hz ?hT ?hb ?_; (case O => assumption); (case hp => assumption); (case X => k_asm); (case T => k_asm); (case B => assumption); (case CB => assumption); (case hA => exact rfl); (case hf => exact rfl); (case hke => exact rfl); (case hh => exact rfl); (case hdep => exact Nat.le_of_ble_eq_true rfl); (case hun => exact Nat.le_of_ble_eq_true rfl); (case F => k_asm); (case N => assumption); (case hup => lcg_off); (case hd => assumption); (case hlen => assumption); (case hz => assumption); (case hT => assumption); (case hb => assumption); k_whole) | (refine' deletedO (tmps := [_, _, _]) ?O ?hp ?X ?T ?B ?CB ?hA ?hf ?hke ?hh ?hdep ?hun ?F ?N ?hup ?hd ?hlen ?hz ?hT ?hb ?_; (case O => assumption); (case hp => assumption); (case X => k_asm); (case T => k_asm); (case B => assumption); (case CB => assumption); (case hA => exact rfl); (case hf => exact rfl); (case hke => exact rfl); (case hh => exact rfl); (case hdep => exact Nat.le_of_ble_eq_true rfl); (case hun => exact Nat.le_of_ble_eq_true rfl); (case F => k_asm); (case N => assumption); (case hup => lcg_off); (case hd => assumption); (case hlen => assumption); (case hz => assumption); (case hT => assumption); (case hb => assumption); k_whole) | (refine' deletedO (tmps := [_, _, _, _]) ?O ?hp ?X ?T ?B ?CB ?hA ?hf ?hke ?hh ?hdep ?hun ?F ?N ?hup ?hd ?hlen ?hz ?hT ?hb ?_; (case O => assumption); (case hp => assumption); (case X => k_asm); (case T => k_asm); (case B => assumption); (case CB => assumption); (case hA => exact rfl); (case hf => exact rfl); (case hke => exact rfl); (case hh => exact rfl); (case hdep => exact Nat.le_of_ble_eq_true rfl); (case hun => exact Nat.le_of_ble_eq_true rfl); (case F => k_asm); (case N => assumption); (case hup => lcg_off); (case hd => assumption); (case hlen => assumption); (case hz => assumption); (case hT => assumption); (case hb => assumption); k_whole)); intro h' tk' od' n' F' N' hd'; (try dsimp only [List.cons_append, List.nil_append] at N')))
local macro_rules | `(tactic| walk_at "call ref") => `(tactic| (k_here; (with_reducible show wpAny _ _ (call (Value.ref 106) [Value.ref _, Value.int _ _]) _ _ _); k_dflt (first | (refine' deletedF (tmps := []) ?O ?hp ?X ?T ?B ?CB ?hA ?hf ?hke ?hh ?hdep ?hun ?F ?N ?hup ?hF ?hB ?hlen ?hlB ?hz ?tF ?tB ?hb ?_; (case O => assumption); (case hp => assumption); (case X => k_asm); (case T => k_asm); (case B => assumption); (case CB => assumption); (case hA => exact rfl); (case hf => exact rfl); (case hke => exact rfl); (case hh => exact rfl); (case hdep => exact Nat.le_of_ble_eq_true rfl); (case hun => exact Nat.le_of_ble_eq_true rfl); (case F => k_asm); (case N => assumption); (case hup => lcg_off); (case hF => assumption); (case hB => assumption); (case hlen => assumption); (case hlB => assumption); (case hz => assumption); (case tF => assumption); (case tB => assumption); (case hb => assumption); k_whole) | (refine' deletedF (tmps := [_]) ?O ?hp ?X ?T ?B ?CB ?hA ?hf ?hke ?hh ?hdep ?hun ?F ?N ?hup ?hF ?hB ?hlen ?hlB ?hz ?tF ?tB ?hb ?_; (case O => assumption); (case hp => assumption); (case X => k_asm); (case T => k_asm); (case B => assumption); (case CB => assumption); (case hA => exact rfl); (case hf => exact rfl); (case hke => exact rfl); (case hh => exact rfl); (case hdep => exact Nat.le_of_ble_eq_true rfl); (case hun => exact Nat.le_of_ble_eq_true rfl); (case F => k_asm); (case N => assumption); (case hup => lcg_off); (case hF => assumption); (case hB => assumption); (case hlen => assumption); (case hlB => assumption); (case hz => assumption); (case tF => assumption); (case tB => assumption); (case hb => assumption); k_whole) | (refine' deletedF (tmps := [_, _]) ?O ?hp ?X ?T ?B ?CB ?hA ?hf ?hke ?hh ?hdep ?hun ?F ?N ?hup ?hF ?hB ?hlen ?hlB ?hz ?tF ?tB ?hb ?_; (case O => assumption); (case hp => assumption); (case X => k_asm); (case T => k_asm); (case B => assumption); (case CB => assumption); (case hA => exact rfl); (case hf => exact rfl); (case hke => exact rfl); (case hh => exact rfl); (case hdep => exact Nat.le_of_ble_eq_true rfl); (case hun => exact Nat.le_of_ble_eq_true rfl); (case F => k_asm); (case N => assumption); (case hup => lcg_off); (case hF => assumption); (case hB => assumption); (case hlen => assumption); (case hlB => assumption); (case hz => assumption); (case tF => assumption); (case tB => assumption); (case hb => assumption); k_whole) | (refine' deletedF (tmps := [_, _, _]) ?O ?hp ?X ?T ?B ?CB ?hA ?hf ?hke ?hh ?hdep ?hun ?F ?N ?hup ?hF ?hB ?hlen ?hlB ?hz ?tF ?tB ?hb ?_; (case O => assumption); (case hp => assumption); (case X => k_asm); (case T => k_asm); (case B => assumption); (case CB => assumption); (case hA => exact rfl); (case hf => exact rfl); (case hke => exact rfl); (case hh => exact rfl); (case hdep => exact Nat.le_of_ble_eq_true rfl); (case hun => exact Nat.le_of_ble_eq_true rfl); (case F => k_asm); (case N => assumption); (case hup => lcg_off); (case hF => assumption); (case hB => assumption); (case hlen => assumption); (case hlB => assumption); (case hz => assumption); (case tF => assumption); (case tB => assumption); (case hb => assumption); k_whole) | (refine' deletedF (tmps := [_, _, _, _]) ?O ?hp ?X ?T ?B ?CB ?hA ?hf ?hke ?hh ?hdep ?hun ?F ?N ?hup ?hF ?hB ?hlen ?hlB ?hz ?tF ?tB ?hb ?_; (case O => assumption); (case hp => assumption); (case X => k_asm); (case T => k_asm); (case B => assumption); (case CB => assumption); (case hA => exact rfl); (case hf => exact rfl); (case hke => exact rfl); (case hh => exact rfl); (case hdep => exact Nat.le_of_ble_eq_true rfl); (case hun => exact Nat.le_of_ble_eq_true rfl); (case F => k_asm); (case N => assumption); (case hup => lcg_off); (case hF => assumption); (case hB => assumption); (case hlen => assumption); (case hlB => assumption); (case hz => assumption); (case tF => assumption); (case tB => assumption); (case hb => assumption); k_whole)); intro h' tk' odF' odB' n' F' N' hdF' hdB'; (try dsimp only [List.cons_append, List.nil_append] at N')))
local macro_rules | `(tactic| walk_at "delItem ref int") => `(tactic| (k_here; (with_reducible show wpAny _ _ (delItem (Value.ref _) (Value.int _ _)) _ _ _); k_dflt (first | (refine' delB (tmps := []) ?O ?hp ?X ?T ?B ?CB ?hA ?hf ?hke ?hh ?hdep ?hun ?F ?N ?hup ?hd ?hlen ?hz ?hT ?hv ?_; (case O => assumption); (case hp => assumption); (case X => k_asm); (case T => k_asm); (case B => assumption); (case CB => assumption); (case hA => exact rfl); (case hf => exact rfl); (case hke => exact rfl); (case hh => exact rfl); (case hdep => exact Nat.le_of_ble_eq_true rfl); (case hun => exact Nat.le_of_ble_eq_true rfl); (case F => k_asm); (case N => assumption); (case hup => lcg_off); (case hd => assumption); (case hlen => assumption); (case hz => assumption); (case hT => assumption); (case hv => assumption); k_whole) | (refine' delB (tmps := [_]) ?O ?hp ?X ?T ?B ?CB ?hA ?hf ?hke ?hh ?hdep ?hun ?F ?N ?hup ?hd ?hlen ?hz ?hT ?hv ?_; (case O => assumption); (case hp => assumption); (case X => k_asm); (case T => k_asm); (case B => assumption); (case CB => assumption); (case hA => exact rfl); (case hf => exact rfl); (case hke => exact rfl); (case hh => exact rfl); (case hdep => exact Nat.le_of_ble_eq_true rfl); (case hun => exact Nat.le_of_ble_eq_true rfl); (case F => k_asm); (case N => assumption); (case hup => lcg_off); (case hd => assumption); (case hlen => assumption); (case hz => assumption); (case hT => assumption); (case hv => assumption); k_whole) | (refine' delB (tmps := [_, _]) ?O ?hp ?X ?T ?B ?CB ?hA ?hf ?hke ?hh ?hdep ?hun ?F ?N ?hup ?hd ?hlen ?hz ?hT ?hv ?_; (case O => assumption); (case hp => assumption); (case X => k_asm); (case T => k_asm); (case B => assumption); (case CB => assumption); (case hA => exact rfl); (case hf => exact rfl); (case hke => exact rfl); (case hh => exact rfl); (case hdep => exact Nat.le_of_ble_eq_true rfl); (case hun => exact Nat.le_of_ble_eq_true rfl); (case F => k_asm); (case N => assumption); (case hup => lcg_off); (case hd => assumption); (case hlen => assumption); (case hz => assumption); (case hT => assumption); (case hv => assumption); k_whole) | (refine' delB (tmps := [_, _, _]) ?O ?hp ?X ?T ?B ?CB ?hA ?hf ?hke ?hh ?hdep ?hun ?F ?N ?hup ?hd ?hlen ?hz ?hT ?hv ?_; (case O => assumption); (case hp => assumption); (case X => k_asm); (case T => k_asm); (case B => assumption); (case CB => assumption); (case hA => exact rfl); (case hf => exact rfl); (case hke => exact rfl); (case hh => exact rfl); (case hdep => exact Nat.le_of_ble_eq_true rfl); (case hun => exact Nat.le_of_ble_eq_true rfl); (case F => k_asm); (case N => assumption); (case hup => lcg_off); (case hd => assumption); (case hlen => assumption); (case hz => assumption); (case hT => assumption); (case hv => assumption); k_whole) | (refine' delB (tmps := [_, _, _, _]) ?O ?hp ?X ?T ?B ?CB ?hA ?hf ?hke ?hh ?hdep ?hun ?F ?N ?hup ?hd ?hlen ?hz ?hT ?hv ?_; (case O => assumption); (case hp => assumption); (case X => k_asm); (case T => k_asm); (case B => assumption); (case CB => assumption); (case hA => exact rfl); (case hf => exact rfl); (case hke => exact rfl); (case hh => exact rfl); (case hdep => exact Nat.le_of_ble_eq_true rfl); (case hun => exact Nat.le_of_ble_eq_true rfl); (case F => k_asm); (case N => assumption); (case hup => lcg_off); (case hd => assumption); (case hlen => assumption); (case hz => assumption); (case hT => assumption); (case hv => assumption); k_whole)); intro h' tk' od' n' F' N' hd'; (try dsimp only [List.cons_append, List.nil_append] at N')))
local macro_rules | `(tactic| walk_at "setItem ref int") => `(tactic| (k_here; (with_reducible show wpAny _ _ (setItem (Value.ref _) (Value.int _ _) (Value.ref _)) _ _ _); k_dflt (first | (refine' setO (tmps := []) ?O ?hp ?X ?T ?B ?CB ?hA ?hf ?hke ?hh ?hdep ?hun ?F ?N ?hup ?hd ?hlen ?hz ?hT ?hpv ?_; (case O => assumption); (case hp => assumption); (case X => k_asm); (case T => k_asm); (case B => assumption); (case CB => assumption); (case hA => exact rfl); (case hf => exact rfl); (case hke => exact rfl); (case hh => exact rfl); (case hdep => exact Nat.le_of_ble_eq_true rfl); (case hun => exact Nat.le_of_ble_eq_true rfl); (case F => k_asm); (case N => assumption); (case hup => lcg_off); (case hd => assumption); (case hlen => assumption); (case hz => assumption); (case hT => assumption); (case hpv => k_mem); k_whole) | (refine' setO (tmps := [_]) ?O ?hp ?X ?T ?B ?CB ?hA ?hf ?hke ?hh ?hdep ?hun ?F ?N ?hup ?hd ?hlen ?hz ?hT ?hpv ?_; (case O => assumption); (case hp => assumption); (case X => k_asm); (case T => k_asm); (case B => assumption); (case CB => assumption); (case hA => exact rfl); (case hf => exact rfl); (case hke => exact rfl); (case hh => exact rfl); (case hdep => exact Nat.le_of_ble_eq_true rfl); (case hun => exact Nat.le_of_ble_eq_true rfl); (case F => k_asm); (case N => assumption); (case hup => lcg_off); (case hd => assumption); (case hlen => assumption); (case hz => assumption); (case hT => assumption); (case hpv => k_mem); k_whole) | (refine' setO (tmps := [_, _]) ?O ?hp ?X ?T ?B ?CB ?hA ?hf ?hke ?hh ?hdep ?hun ?F ?N ?hup ?hd ?hlen ?hz ?hT ?hpv ?_; (case O => assumption); (case hp => assumption); (case X => k_asm); (case T => k_asm); (case B => assumption); (case CB => assumption); (case hA => exact rfl); (case hf => exact rfl); (case hke => exact rfl); (case hh => exact rfl); (case hdep => exact Nat.le_of_ble_eq_true rfl); (case hun => exact Nat.le_of_ble_eq_true rfl); (case F => k_asm); (case N => assumption); (case hup => lcg_off); (case hd => assumption); (case hlen => assumption); (case hz => assumption); (case hT => assumption); (case hpv => k_mem); k_whole) | (refine' setO (tmps := [_, _, _]) ?O ?hp ?X ?T ?B ?CB ?hA ?hf ?hke ?hh ?hdep ?hun ?F ?N ?hup ?hd ?hlen ?hz ?hT ?hpv ?_; (case O => assumption); (case hp => assumption); (case X => k_asm); (case T => k_asm); (case B => assumption); (case CB => assumption); (case hA => exact rfl); (case hf => exact rfl); (case hke => exact rfl); (case hh => exact rfl); (case hdep => exact Nat.le_of_ble_eq_true rfl); (case hun => exact Nat.le_of_ble_eq_true rfl); (case F => k_asm); (case N => assumption); (case hup => lcg_off); (case hd => assumption); (case hlen => assumption); (case hz => assumption); (case hT => assumption); (case hpv => k_mem); k_whole) | (refine' setO (tmps := [_, _, _, _]) ?O ?hp ?X ?T ?B ?CB ?hA ?hf ?hke ?hh ?hdep ?hun ?F ?N ?hup ?hd ?hlen ?hz ?hT ?hpv ?_; (case O => assumption); (case hp => assumption); (case X => k_asm); (case T => k_asm); (case B => assumption); (case CB => assumption); (case hA => exact rfl); (case hf => exact rfl); (case hke => exact rfl); (case hh => exact rfl); (case hdep => exact Nat.le_of_ble_eq_true rfl); (case hun => exact Nat.le_of_ble_eq_true rfl); (case F => k_asm); (case N => assumption); (case hup => lcg_off); (case hd => assumption); (case hlen => assumption); (case hz => assumption); (case hT => assumption); (case hpv => k_mem); k_whole)); intro h' tk' od' n' F' N' hd'; (try dsimp only [List.cons_append, List.nil_append] at N')))
local macro_rules | `(tactic| walk_at "setItem ref int") => `(tactic| (k_here; (with_reducible show wpAny _ _ (setItem (Value.ref _) (Value.int _ _) (Value.ref _)) _ _ _); k_dflt (first | (refine' setF (tmps := []) ?O ?hp ?X ?T ?B ?CB ?hA ?hf ?hke ?hh ?hdep ?hun ?F ?N ?hup ?hF ?hB ?hlen ?hlB ?hz ?tF ?tB ?hpv ?_; (case O => assumption); (case hp => assumption); (case X => k_asm); (case T => k_asm); (case B => assumption); (case CB => assumption); (case hA => exact rfl); (case hf => exact rfl); (case hke => exact rfl); (case hh => exact rfl); (case hdep => exact Nat.le_of_ble_eq_true rfl); (case hun => exact Nat.le_of_ble_eq_true rfl); (case F => k_asm); (case N => assumption); (case hup => lcg_off); (case hF => assumption); (case hB => assumption); (case hlen => assumption); (case hlB => assumption); (case hz => assumption); (case tF => assumption); (case tB => assumption); (case hpv => k_mem); k_whole) | (refine' setF (tmps := [_]) ?O ?hp ?X ?T ?B ?CB ?hA ?hf ?hke ?hh ?hdep ?hun ?F ?N ?hup ?hF ?hB ?hlen ?hlB ?hz ?tF ?tB ?hpv ?_; (case O => assumption); (case hp => assumption); (case X => k_asm); (case T => k_asm); (case B => assumption); (case CB => assumption); (case hA => exact rfl); (case hf => exact rfl); (case hke => exact rfl); (case hh => exact rfl); (case hdep => exact Nat.le_of_ble_eq_true rfl); (case hun => exact Nat.le_of_ble_eq_true rfl); (case F => k_asm); (case N => assumption); (case hup => lcg_off); (case hF => assumption); (case hB => assumption); (case hlen => assumption); (case hlB => assumption); (case hz => assumption); (case tF => assumption); (case tB => assumption); (case hpv => k_mem); k_whole) | (refine' setF (tmps := [_, _]) ?O ?hp ?X ?T ?B ?CB ?hA ?hf ?hke ?hh ?hdep ?hun ?F ?N ?hup ?hF ?hB ?hlen ?hlB ?hz ?tF ?tB ?hpv ?_; (case O => assumption); (case hp => assumption); (case X => k_asm); (case T => k_asm); (case B => assumption); (case CB => assumption); (case hA => exact rfl); (case hf => exact rfl); (case hke => exact rfl); (case hh => exact rfl); (case hdep => exact Nat.le_of_ble_eq_true rfl); (case hun => exact Nat.le_of_ble_eq_true rfl); (case F => k_asm); (case N => assumption); (case hup => lcg_off); (case hF => assumption); (case hB => assumption); (case hlen => assumption); (case hlB => assumption); (case hz => assumption); (case tF => assumption); (case tB => assumption); (case hpv => k_mem); k_whole) | (refine' setF (tmps := [_, _, _]) ?O ?hp ?X ?T ?B ?CB ?hA ?hf ?hke ?hh ?hdep ?hun ?F ?N ?hup ?hF ?hB ?hlen ?hlB ?hz ?tF ?tB ?hpv ?_; (case O => assumption); (case hp => assumption); (case X => k_asm); (case T => k_asm); (case B => assumption); (case CB => assumption); (case hA => exact rfl); (case hf => exact rfl); (case hke => exact rfl); (case hh => exact rfl); (case hdep => exact Nat.le_of_ble_eq_true rfl); (case hun => exact Nat.le_of_ble_eq_true rfl); (case F => k_asm); (case N => assumption); (case hup => lcg_off); (case hF => assumption); (case hB => assumption); (case hlen => assumption); (case hlB => assumption); (case hz => assumption); (case tF => assumption); (case tB => assumption); (case hpv => k_mem); k_whole) | (refine' setF (tmps := [_, _, _, _]) ?O ?hp ?X ?T ?B ?CB ?hA ?hf ?hke ?hh ?hdep ?hun ?F ?N ?hup ?hF ?hB ?hlen ?hlB ?hz ?tF ?tB ?hpv ?_; (case O => assumption); (case hp => assumption); (case X => k_asm); (case T => k_asm); (case B => assumption); (case CB => assumption); (case hA => exact rfl); (case hf => exact rfl); (case hke => exact rfl); (case hh => exact rfl); (case hdep => exact Nat.le_of_ble_eq_true rfl); (case hun => exact Nat.le_of_ble_eq_true rfl); (case F => k_asm); (case N => assumption); (case hup => lcg_off); (case hF => assumption); (case hB => assumption); (case hlen => assumption); (case hlB => assumption); (case hz => assumption); (case tF => assumption); (case tB => assumption); (case hpv => k_mem); k_whole)); intro h' tk' odF' odB' n' F' N' hdF' hdB'; (try dsimp only [List.cons_append, List.nil_append] at N')))
local macro_rules | `(tactic| walk_at "setItem ref int") => `(tactic| (k_here; (with_reducible show wpAny _ _ (setItem (Value.ref _) (Value.int 0 _) _) _ _ _); k_dflt (refine' touch ?O ?hp ?F ?N ?_; (case O => assumption); (case hp => assumption); (case F => k_asm); (case N => assumption); k_whole); intro h' F' N'))
local macro_rules | `(tactic| walk_at "compareOp In int ref") => `(tactic| (k_here; k_dflt (refine' R_inB ?N ?a ?s ?b ?_; (case N => k_asm); (case a => k_mem); (case s => assumption); (case b => assumption); k_whole)))
local macro_rules | `(tactic| walk_at "ite") => `(tactic| (k_here; first | refine ite_pos rfl ?_ | refine ite_neg Bool.false_ne_true ?_ | refine ite_pos (by assumption) ?_ | refine ite_neg (ne_true_of (by assumption)) ?_))
local macro_rules | `(tactic| walk_at "call ref") => `(tactic| (k_here; dsimp only [List.cons_append, List.nil_append]))
local macro_rules | `(tactic| walk_at "call builtin:len") => `(tactic| (k_here; dsimp only [List.cons_append, List.nil_append]))
local macro_rules | `(tactic| walk_at "call builtin:list.append") => `(tactic| (k_here; dsimp only [List.cons_append, List.nil_append]))
local macro_rules | `(tactic| walk_at "call builtin:sorted") => `(tactic| (k_here; dsimp only [List.cons_append, List.nil_append]))
local macro_rules | `(tactic| walk_at "compareOp NotEq ref ref") => `(tactic| (k_here; (with_reducible show wpAny _ _ (compareOp CmpOp.NotEq (Value.ref _) (Value.ref _)) _ _ _); k_dflt (first | (refine' R_ne_same ?u ?N ?a ?b ?_; (case u => exact Nat.le_of_ble_eq_true rfl); (case N => k_asm); (case a => k_mem); (case b => k_mem); k_whole) | (refine' R_ne_len ?u ?N ?a ?b ?e ?_; (case u => exact Nat.le_of_ble_eq_true rfl); (case N => k_asm); (case a => k_mem); (case b => k_mem); (case e => exact Nat.succ_ne_zero _); k_whole))))
local macro_rules | `(tactic| walk_at "binaryOp BitAnd ref ref") => `(tactic| (k_here; k_dflt (refine' R_and ?F ?N ?a ?b ?ab ?x ?y ?s1 ?s2 ?n1 ?n2 ?l1 ?l2 ?dj ?_; (case F => k_asm); (case N => k_asm); (case a => k_mem); (case b => k_mem); (case ab => k_ne); (case x => assumption); (case y => assumption); (case s1 => assumption); (case s2 => assumption); (case n1 => assumption); (case n2 => assumption); (case l1 => assumption); (case l2 => assumption); (case dj => assumption); k_whole); intro D' h' so' F' N' l1 hs'; (try k_lt l1)))
local macro_rules | `(tactic| walk_at "binaryOp BitOr ref ref") => `(tactic| (k_here; k_dflt (refine' R_or ?F ?N ?a ?b ?ab ?x ?y ?s1 ?s2 ?n1 ?n2 ?l1 ?l2 ?dj ?_; (case F => k_asm); (case N => k_asm); (case a => k_mem); (case b => k_mem); (case ab => k_ne); (case x => assumption); (case y => assumption); (case s1 => assumption); (case s2 => assumption); (case n1 => assumption); (case n2 => assumption); (case l1 => assumption); (case l2 => assumption); (case dj => assumption); k_whole); intro D' h' so' F' N' l1 hu'; (try k_lt l1)))
local macro_rules | `(tactic| walk_at "call builtin:len") => `(tactic| (k_here; (with_reducible show wpAny _ _ (call (Value.builtin "len") [Value.ref _]) _ _ _); k_dflt (refine' R_setlen0 ?N ?a ?x ?_; (case N => k_asm); (case a => k_mem); (case x => assumption); k_whole); intro u' tk'))
local macro_rules | `(tactic| walk_at "compareOp NotEq ref ref") => `(tactic| (k_here; (with_reducible show wpAny _ _ (compareOp CmpOp.NotEq (Value.ref _) (Value.ref _)) _ _ _); k_dflt (refine' R_un_ne ?u ?N ?a ?b ?x ?y ?q ?_; (case u => exact Nat.le_of_ble_eq_true rfl); (case N => k_asm); (case a => k_mem); (case b => k_mem); (case x => assumption); (case y => assumption); (case q => assumption); k_whole)))
local macro_rules | `(tactic| walk_at "subscriptTail") => `(tactic| (k_here; (with_reducible show wpAny _ _ (subscriptTail _ _ (Value.ref (St.lS _)) (Value.int _ _)) _ _ _); k_dflt (first | (refine' R_item0 ?N ?m ?_ ?s; (case N => k_asm); (case m => exact Led.m_lS); (case s => with_unfolding_all rfl); k_whole) | (refine' R_item1 ?N ?m ?_ ?s; (case N => k_asm); (case m => exact Led.m_lS); (case s => with_unfolding_all rfl); k_whole))))

local macro_rules | `(tactic| walk_at "pyIter ref") => `(tactic| ((with_reducible show wpAny _ _ (pyIter (Value.ref _)) (fun it s₂ => LoopAtV _ _ _ _ _ _ _ _ _ it s₂) _ _); refine halt ?_))
local macro_rules | `(tactic| walk_at "exec For Name Name cons nil") => `(tactic| (k_here; k_dflt (refine' For_F ?F ?x ?p ?_ ?s ?E; (case F => k_asm); (case x => rfl); (case p => rfl); (case s => intro _; rfl); (case E => exact PassesOwn.never); k_whole)))
section
variable {w : World} {S : St} {odF odB odO : Obj} {vF : List Value} {nF nW nT n lH : Nat} {tv : Value} {prs : List (Addr × Obj)} {mg mb : Str → Option Value} {mean : ExcName → Option Value} {h₀ : Heap} {m : Str → Option Value} {s : Shared} {Q : Flow → Shared → Prop}
  {l : List Int} {vs : List Value} {kF kB kO : List (Int × Value)}
set_option maxHeartbeats 8000000 in
theorem end4 (O : Ok S) (hp : PrsUp S prs) (X : (hd.heap_39 w.params).In h₀) (T : Top topProg loose mean mg mb h₀) (B : Below callerA h₀ [] h₀) (CB : CodeB h₀) (F : Fr h₀ S.L s.heap m) (nm : Nm S m) (nh : m (Str.ofString "held") = some (.ref lH)) (N : News h₀ S.L s.heap ((lH, listOf vs.toArray n) :: Led w S odF odB odO vF nF vF nW tv nT prs)) (hdF : odF.IsDictOf (PySem.intKind PySem.Challenge.rw_aj5039_01.row.prog w) kF) (hdB : odB.IsDictOf (PySem.intKind PySem.Challenge.rw_aj5039_01.row.prog w) kB) (hdO : odO.IsDictOf (PySem.intKind PySem.Challenge.rw_aj5039_01.row.prog w) kO)
  (hlt : S.dO < lH) (hnl : ∀ p ∈ Led w S odF odB odO vF nF vF nW tv nT prs, p.1 ≠ lH) (hi : IntsAre vs l) (ag : ∀ k, valueAt kO k = (valueAt kF k).or (valueAt kB k)) (ex : ∀ k, valueAt kF k = none ∨ valueAt kB k = none) (lF : kF.length ≤ 10) (lB : kB.length ≤ 10) (lO : kO.length ≤ 10)
  (q : ∀ h' tk m', Fr h₀ S.L h' m' → News h₀ S.L h' prs → Q .next { s with heap := h', toks := tk }) :
  wpAny (model PySem.Challenge.rw_aj5039_01.row.prog w) (callerA.deeper (lenv S.L S.fa 110)) (exec (lawBody.getD 11 (Stmt.Pass default)) (lenv S.L S.fa 110)) Q (fun _ _ => False) s := by
  have X0 := X
  revert X
  k_fill
  intro X
  have F1 := fr_eq F nm.open
  have e2 := ((nm.open (Str.ofString "held")).trans nh)
  have F2 := fr_put (m := names01 S m) (x := Str.ofString "held") (v := .ref lH) (by exact e2) F1
  clear F F1
  conv => arg 3; arg 1; whnf
  k_steps
  unfold Halt
  refine list_loop (body := forBody (lawBody.getD 11 (Stmt.Pass default))) (news := Led w S odF odB odO vF nF vF nW tv nT prs) rfl (by assumption) (by assumption) hi hnl fun I hI hnI => ?_
  refine ⟨fun m news => ∃ (odF odB odO : Obj) (kF kB kO : KV), news = Led w S odF odB odO vF nF vF nW tv nT prs ∧ Nm S m ∧ odF.IsDictOf (PySem.intKind PySem.Challenge.rw_aj5039_01.row.prog w) kF ∧ odB.IsDictOf (PySem.intKind PySem.Challenge.rw_aj5039_01.row.prog w) kB ∧ odO.IsDictOf (PySem.intKind PySem.Challenge.rw_aj5039_01.row.prog w) kO ∧ (∀ k, valueAt kO k = (valueAt kF k).or (valueAt kB k)) ∧ (∀ k, valueAt kF k = none ∨ valueAt kB k = none) ∧ kF.length ≤ 10 ∧ kB.length ≤ 10 ∧ kO.length ≤ 10, ⟨odF, odB, odO, kF, kB, kO, rfl, ⟨rfl, rfl, rfl, rfl⟩, hdF, hdB, hdO, ag, ex, lF, lB, lO⟩, ?_, ?_⟩
  · rintro k t m₁ news₁ own h tk ⟨odF, odB, odO, kF, kB, kO, rfl, nm, hdF, hdB, hdO, ag, ex, lF, lB, lO⟩ hown F N
    have hp' : PrsUp S (own ++ prs) := fun q hq => (List.mem_append.mp hq).elim (fun h => .inl (Nat.lt_of_lt_of_le hlt (hown q h))) (hp q)
    have nm' : Nm S (fun y => if y = Str.ofString "key" then some (.int k t) else m₁ y) := ⟨(if_neg (by decide)).trans nm.numbers, (if_neg (by decide)).trans nm.sizes, (if_neg (by decide)).trans nm.front, (if_neg (by decide)).trans nm.one⟩
    have hpl : (if Str.ofString "key" = Str.ofString "key" then some (Value.int k t) else m₁ (Str.ofString "key")) = some (.int k t) := if_pos rfl
    have N' : News h₀ S.L h (Led w S odF odB odO vF nF vF nW tv nT (own ++ prs)) := News.sub N fun p hp => by
      rcases Led.split p hp with h | h
      · exact List.mem_append_right _ (Led.prs_mono (fun _ h => absurd h List.not_mem_nil) p h)
      · rcases List.mem_append.mp h with h | h
        · exact List.mem_append_left _ h
        · exact List.mem_append_right _ (Led.m_prs h)
    have back : ∀ (h' : Heap) (odF odB odO : Obj), News h₀ S.L h' (Led w S odF odB odO vF nF vF nW tv nT (own ++ prs)) → News h₀ S.L h' (own ++ Led w S odF odB odO vF nF vF nW tv nT prs) := fun h' odF odB odO N => News.sub N fun p hp => by
      rcases List.mem_append.mp hp with h | h
      · exact Led.m_prs (List.mem_append_left _ h)
      · exact Led.prs_mono (fun _ h => List.mem_append_right _ h) p h
    have apart : ∀ (odF odB odO : Obj), ∀ p ∈ Led w S odF odB odO vF nF vF nW tv nT prs, p.1 ≠ I := fun odF odB odO p hp => by
      rcases Led.le O p hp with h | h
      · exact Nat.ne_of_lt (Nat.lt_of_le_of_lt h (Nat.lt_trans hlt hI))
      · exact Nat.ne_of_lt (hnI p (Led.m_prs h))
    have ndF := keysNodup_of_isDictOf hdF
    have ndB := keysNodup_of_isDictOf hdB
    have ndO := keysNodup_of_isDictOf hdO
    cases eF : valueAt kF k with
    | some v0 =>
      have eB : valueAt kB k = none := (ex k).resolve_left (by rw [eF]; exact fun e => nomatch e)
      have eO : valueAt kO k = some v0 := by rw [ag, eF]; rfl
      refine end3F O hp' X0 T B CB F nm' hpl N' hdF hdB hdO eF eB eO lF lB lO fun h' tk odF' odB' odO' F N hdF hdB hdO => ?_
      exact ⟨rfl, h', tk, _, _, rfl, F, back _ _ _ _ N, apart _ _ _, odF', odB', odO', _, _, _, rfl, nm', hdF, hdB, hdO, fun j => by rw [valueAt_touch eO, valueAt_touch eF]; exact ag j, fun j => by rw [valueAt_touch eF]; exact ex j, by rw [len_touch ndF eF]; exact lF, lB, by rw [len_touch ndO eO]; exact lO⟩
    | none =>
      cases eB : valueAt kB k with
      | some v0 =>
        have eO : valueAt kO k = some v0 := by rw [ag, eF, eB]; rfl
        refine end3B O hp' X0 T B CB F nm' hpl N' hdF hdB hdO eF eB eO lF lB lO fun h' tk odF' odB' odO' F N hdF hdB hdO => ?_
        exact ⟨rfl, h', tk, _, _, rfl, F, back _ _ _ _ N, apart _ _ _, odF', odB', odO', _, _, _, rfl, nm', hdF, hdB, hdO, fun j => by rw [valueAt_touch eO, valueAt_touch eB]; exact ag j, fun j => by rw [valueAt_touch eB]; exact ex j, lF, by rw [len_touch ndB eB]; exact lB, by rw [len_touch ndO eO]; exact lO⟩
      | none =>
        have eO : valueAt kO k = none := by rw [ag, eF, eB]; rfl
        refine end3N O hp' X0 T B CB F nm' hpl N' hdF hdB hdO eF eB eO lF lB lO fun h' tk odF' odB' odO' F N hdF hdB hdO => ?_
        exact ⟨rfl, h', tk, _, _, rfl, F, back _ _ _ _ N, apart _ _ _, odF', odB', odO', _, _, _, rfl, nm', hdF, hdB, hdO, ag, ex, lF, lB, lO⟩
  · rintro m₁ news₁ h tk ⟨odF, odB, odO, kF, kB, kO, rfl, nm, hdF, hdB, hdO, ag, ex, lF, lB, lO⟩ F N
    exact q h tk m₁ F (News.sub N fun p hp => Led.m_prs hp)
set_option maxHeartbeats 4000000 in
theorem end2 (O : Ok S) (hp : PrsUp S prs) (X : (hd.heap_39 w.params).In h₀) (T : Top topProg loose mean mg mb h₀) (B : Below callerA h₀ [] h₀) (CB : CodeB h₀) (F : Fr h₀ S.L s.heap m) (nm : Nm S m) (nh : m (Str.ofString "held") = some (.ref lH)) (N : News h₀ S.L s.heap ((lH, listOf vs.toArray n) :: Led w S odF odB odO vF nF vF nW tv nT prs)) (hdF : odF.IsDictOf (PySem.intKind PySem.Challenge.rw_aj5039_01.row.prog w) kF) (hdB : odB.IsDictOf (PySem.intKind PySem.Challenge.rw_aj5039_01.row.prog w) kB) (hdO : odO.IsDictOf (PySem.intKind PySem.Challenge.rw_aj5039_01.row.prog w) kO) (hlt : S.dO < lH) (hnl : ∀ p ∈ prs, p.1 ≠ lH)
  (q : ∀ h' tk, Fr h₀ S.L h' m → News h₀ S.L h' ((lH, listOf vs.toArray n) :: Led w S odF odB odO vF nF vF nW .none nT prs) → Q .next { s with heap := h', toks := tk }) :
  wpAny (model PySem.Challenge.rw_aj5039_01.row.prog w) (callerA.deeper (lenv S.L S.fa 110)) (exec (lawBody.getD 10 (Stmt.Pass default)) (lenv S.L S.fa 110)) Q (fun _ _ => False) s := by
  have hp' : PrsUp S ((lH, listOf vs.toArray n) :: prs) := List.forall_mem_cons.mpr ⟨.inl hlt, hp⟩
  have N' : News h₀ S.L s.heap (Led w S odF odB odO vF nF vF nW tv nT ((lH, listOf vs.toArray n) :: prs)) := News.sub N Led.sub_pair
  clear N
  revert X
  k_fill
  intro X
  have F1 := fr_eq F nm.open
  have hcT := O.hcT
  clear F hp
  conv => arg 3; arg 1; whnf
  k_steps
  all_goals first | exact q _ _ (fr_eq (by assumption) fun y => (nm.open y).symm) (News.sub (by assumption) fun p hp => by
      rcases List.mem_cons.mp hp with rfl | hp
      · exact Led.m_prs (.head _)
      · exact Led.prs_mono (fun _ h => .tail _ h) p hp)
end
end Mine
end
section
open PySem PySem.W PyProof.Rows PySem.Calls PyProof.V PySem.Spec
set_option maxRecDepth 100000
namespace Mine
section
variable {w : World} {h₀ h : Heap} {m : Str → Option Value} {tD : Addr × Obj} {ps : Array Value}
  {L fa lN lS lT lF lW cB fB dxB xB dB cM fM dxF xF dF cO fO dxO xO dO : Nat} {oB oF oT oW ocB ocM ocO odF odB odO : Obj} {vsN : List Value} {nN : Nat} {s1 s2 : Int} {ts1 ts2 tB1 tB2 tB3 tB4 tF1 tF2 tF3 tF4 tO1 tO2 tO3 tO4 tqB tqM tqO : Tok} {pm dc ctB ctM ctO : Value} {vcB vcM vcO : Array Value} {G : Prop}
theorem init_fin (N : News h₀ L h ((dO, odO) :: (xO, instObj 88 dxO) :: (dxO, cont w tO1 tO2 tO3 tO4 (s1 + s2) (.ref fO) dO) :: (fO, lamObjO L fa (L + 3) (L + 4) pm cO ctO) :: (cO, ocO) :: (dF, odF) :: (xF, instObj 88 dxF) :: (dxF, cont w tF1 tF2 tF3 tF4 s1 (.ref fM) dF) :: (fM, movObj L fa (L + 3) (L + 1) dc pm cM ctM) :: (cM, ocM) :: (dB, odB) :: (xB, instObj 88 dxB) :: (dxB, cont w tB1 tB2 tB3 tB4 s2 (.ref fB) dB) :: (fB, lamObjB L fa (L + 3) (L + 2) pm cB ctB) :: (cB, ocB) :: tD :: (lW, listOf #[] 0) :: (lF, listOf #[] 0) :: (lT, listOf #[.none] 0) :: (lS, listOf #[.int s1 ts1, .int s2 ts2] 0) :: (L + 1, oB) :: (L + 2, oF) :: (L + 3, oT) :: (L + 4, oW) :: (lN, listOf vsN.toArray nN) :: (108, tabObj ps) :: [])) (F : Fr h₀ L h m)
  (hcB : oB.data = .cell (some (.ref xB))) (hcF : oF.data = .cell (some (.ref lF))) (hcT : oT.data = .cell (some (.ref lT))) (hcW : oW.data = .cell (some (.ref lW)))
  (hoB : ocB.data = .fields vcB) (hqB : vcB[1]? = some (.str (lamQual L fa) tqB)) (hoM : ocM.data = .fields vcM) (hqM : vcM[1]? = some (.str (movQual L fa) tqM)) (hoO : ocO.data = .fields vcO) (hqO : vcO[1]? = some (.str (lamQual L fa) tqO))
  (loB : (dB == sysModules) = false) (loF : (dF == sysModules) = false) (loO : (dO == sysModules) = false) (s1a : 1 ≤ s1) (s1b : s1 ≤ 3) (s2a : 0 ≤ s2) (s2b : s2 ≤ 3)
  (o_lN : L + 4 < lN) (o_lS : lN < lS) (o_lT : lS < lT) (o_lF : lT < lF) (o_lW : lF < lW) (o_cB : lW < cB) (o_fB : cB < fB) (o_dxB : fB < dxB) (o_xB : dxB < xB) (o_dB : xB < dB) (o_cM : dB < cM) (o_fM : cM < fM) (o_dxF : fM < dxF) (o_xF : dxF < xF) (o_dF : xF < dF) (o_cO : dF < cO) (o_fO : cO < fO) (o_dxO : fO < dxO) (o_xO : dxO < xO) (o_dO : xO < dO)
  (n1 : m (Str.ofString "numbers") = some (.ref lN)) (n2 : m (Str.ofString "sizes") = some (.ref lS)) (n3 : m (Str.ofString "front") = some (.ref xF)) (n4 : m (Str.ofString "one") = some (.ref xO))
  (q : ∀ (S : St), S.L = L → S.fa = fa → S.vsN = vsN → Ok S → Fr h₀ L h m → Nm S m → News h₀ L h (Led w S odF odB odO [] 0 [] 0 .none 0 [(108, tabObj ps)]) → G) : G := by
  refine q { L := L, fa := fa, lN := lN, lS := lS, lT := lT, lF := lF, lW := lW, cB := cB, fB := fB, dxB := dxB, xB := xB, dB := dB, cM := cM, fM := fM, dxF := dxF, xF := xF, dF := dF, cO := cO, fO := fO, dxO := dxO, xO := xO, dO := dO, oB := oB, oF := oF, oT := oT, oW := oW, ocB := ocB, ocM := ocM, ocO := ocO, vsN := vsN, nN := nN, nS := 0, s1 := s1, s2 := s2, ts1 := ts1, ts2 := ts2, tB1 := tB1, tB2 := tB2, tB3 := tB3, tB4 := tB4, tF1 := tF1, tF2 := tF2, tF3 := tF3, tF4 := tF4, tO1 := tO1, tO2 := tO2, tO3 := tO3, tO4 := tO4, tqB := tqB, tqM := tqM, tqO := tqO, pm := pm, dc := dc, ctB := ctB, ctM := ctM, ctO := ctO, vcB := vcB, vcM := vcM, vcO := vcO } rfl rfl rfl { o_lN := o_lN, o_lS := o_lS, o_lT := o_lT, o_lF := o_lF, o_lW := o_lW, o_cB := o_cB, o_fB := o_fB, o_dxB := o_dxB, o_xB := o_xB, o_dB := o_dB, o_cM := o_cM, o_fM := o_fM, o_dxF := o_dxF, o_xF := o_xF, o_dF := o_dF, o_cO := o_cO, o_fO := o_fO, o_dxO := o_dxO, o_xO := o_xO, o_dO := o_dO, hcB := hcB, hcF := hcF, hcT := hcT, hcW := hcW, hoB := hoB, hqB := hqB, hoM := hoM, hqM := hqM, hoO := hoO, hqO := hqO, loB := loB, loF := loF, loO := loO, s1a := s1a, s1b := s1b, s2a := s2a, s2b := s2b } F ⟨n1, n2, n3, n4⟩ (News.sub N fun p hp => ?_)
  simp only [Led, List.mem_cons, List.not_mem_nil, or_false] at hp
  rcases hp with rfl | rfl | rfl | rfl | rfl | rfl | rfl | rfl | rfl | rfl | rfl | rfl | rfl | rfl | rfl | rfl | rfl | rfl | rfl | rfl | rfl | rfl | rfl | rfl | rfl
  · exact .tail _ (.tail _ (.tail _ (.tail _ (.tail _ (.tail _ (.tail _ (.tail _ (.tail _ (.tail _ (.tail _ (.tail _ (.tail _ (.tail _ (.tail _ (.tail _ (.tail _ (.tail _ (.tail _ (.tail _ (.head _))))))))))))))))))))
  · exact .tail _ (.tail _ (.tail _ (.tail _ (.tail _ (.tail _ (.tail _ (.tail _ (.tail _ (.tail _ (.tail _ (.tail _ (.tail _ (.tail _ (.tail _ (.tail _ (.tail _ (.tail _ (.tail _ (.tail _ (.tail _ (.head _)))))))))))))))))))))
  · exact .tail _ (.tail _ (.tail _ (.tail _ (.tail _ (.tail _ (.tail _ (.tail _ (.tail _ (.tail _ (.tail _ (.tail _ (.tail _ (.tail _ (.tail _ (.tail _ (.tail _ (.tail _ (.tail _ (.tail _ (.tail _ (.tail _ (.head _))))))))))))))))))))))
  · exact .tail _ (.tail _ (.tail _ (.tail _ (.tail _ (.tail _ (.tail _ (.tail _ (.tail _ (.tail _ (.tail _ (.tail _ (.tail _ (.tail _ (.tail _ (.tail _ (.tail _ (.tail _ (.tail _ (.tail _ (.tail _ (.tail _ (.tail _ (.head _)))))))))))))))))))))))
  · exact .tail _ (.tail _ (.tail _ (.tail _ (.tail _ (.tail _ (.tail _ (.tail _ (.tail _ (.tail _ (.tail _ (.tail _ (.tail _ (.tail _ (.tail _ (.tail _ (.tail _ (.tail _ (.tail _ (.tail _ (.tail _ (.tail _ (.tail _ (.tail _ (.head _))))))))))))))))))))))))
  · exact .tail _ (.tail _ (.tail _ (.tail _ (.tail _ (.tail _ (.tail _ (.tail _ (.tail _ (.tail _ (.tail _ (.tail _ (.tail _ (.tail _ (.tail _ (.tail _ (.tail _ (.tail _ (.tail _ (.head _)))))))))))))))))))
  · exact .tail _ (.tail _ (.tail _ (.tail _ (.tail _ (.tail _ (.tail _ (.tail _ (.tail _ (.tail _ (.tail _ (.tail _ (.tail _ (.tail _ (.tail _ (.tail _ (.tail _ (.tail _ (.head _))))))))))))))))))
  · exact .tail _ (.tail _ (.tail _ (.tail _ (.tail _ (.tail _ (.tail _ (.tail _ (.tail _ (.tail _ (.tail _ (.tail _ (.tail _ (.tail _ (.tail _ (.tail _ (.tail _ (.head _)))))))))))))))))
  · exact .tail _ (.tail _ (.tail _ (.tail _ (.tail _ (.tail _ (.tail _ (.tail _ (.tail _ (.tail _ (.tail _ (.tail _ (.tail _ (.tail _ (.tail _ (.tail _ (.head _))))))))))))))))
  · exact .tail _ (.tail _ (.tail _ (.tail _ (.tail _ (.tail _ (.tail _ (.tail _ (.tail _ (.tail _ (.tail _ (.tail _ (.tail _ (.head _)))))))))))))
  · exact .tail _ (.tail _ (.tail _ (.tail _ (.tail _ (.tail _ (.tail _ (.tail _ (.tail _ (.tail _ (.tail _ (.tail _ (.tail _ (.tail _ (.head _))))))))))))))
  · exact .tail _ (.tail _ (.tail _ (.tail _ (.tail _ (.tail _ (.tail _ (.tail _ (.tail _ (.tail _ (.tail _ (.head _)))))))))))
  · exact .tail _ (.tail _ (.tail _ (.tail _ (.tail _ (.tail _ (.tail _ (.tail _ (.tail _ (.tail _ (.tail _ (.tail _ (.head _))))))))))))
  · exact .tail _ (.tail _ (.tail _ (.tail _ (.tail _ (.tail _ (.tail _ (.tail _ (.tail _ (.tail _ (.head _))))))))))
  · exact .tail _ (.tail _ (.tail _ (.tail _ (.tail _ (.tail _ (.tail _ (.tail _ (.head _))))))))
  · exact .tail _ (.tail _ (.tail _ (.tail _ (.tail _ (.tail _ (.tail _ (.tail _ (.tail _ (.head _)))))))))
  · exact .tail _ (.tail _ (.tail _ (.tail _ (.tail _ (.tail _ (.head _))))))
  · exact .tail _ (.tail _ (.tail _ (.tail _ (.tail _ (.tail _ (.tail _ (.head _)))))))
  · exact .tail _ (.tail _ (.tail _ (.tail _ (.tail _ (.head _)))))
  · exact .tail _ (.tail _ (.tail _ (.head _)))
  · exact .tail _ (.tail _ (.tail _ (.tail _ (.head _))))
  · exact .tail _ (.head _)
  · exact .tail _ (.tail _ (.head _))
  · exact .head _
  · exact .tail _ (.tail _ (.tail _ (.tail _ (.tail _ (.tail _ (.tail _ (.tail _ (.tail _ (.tail _ (.tail _ (.tail _ (.tail _ (.tail _ (.tail _ (.tail _ (.tail _ (.tail _ (.tail _ (.tail _ (.tail _ (.tail _ (.tail _ (.tail _ (.tail _ (.head _)))))))))))))))))))))))))
end
local macro_rules | `(tactic| walk_at "exec Assign cons Tuple") => `(tactic| ((with_reducible show wpAny _ _ (exec (Stmt.Assign [Expr.Tuple _ _ _] _ _) _) _ _ _); with_unfolding_all refine Assign_Tuple ?_))
local macro_rules | `(tactic| walk_at "eval Dict nil nil") => `(tactic| (k_here; k_dflt (refine' newDict_K ?k1 ?k2 (TopRead.nolimit (by k_asm)) ?_; (case k1 => k_asm); (case k2 => k_asm); k_whole); intro d' h' o' F' N' l1 lo' hs' fs' hi' fi'; (try k_lt l1)))
section
variable {w : World} {mg mb : Str → Option Value} {mean : ExcName → Option Value} {h₀ : Heap} {L fa : Nat} {m : Str → Option Value} {s : Shared} {Q : Flow → Shared → Prop}
  {lN : Nat} {oB oF oT oW : Obj} {vsN : List Value} {ns : List Int} {nN : Nat}
set_option maxHeartbeats 16000000 in
theorem init01 (codeHd : CodeHd h₀ 110 108) (X : (hd.heap_39 w.params).In h₀) (T : Top topProg loose mean mg mb h₀) (B : Below callerA h₀ [] h₀)
  (F : Fr h₀ L s.heap m) (nn : m (Str.ofString "numbers") = some (.ref lN))
  (N : News h₀ L s.heap [(L + 1, oB), (L + 2, oF), (L + 3, oT), (L + 4, oW), (lN, listOf vsN.toArray nN), (108, tabObj #[])])
  (hcB : oB.data = .cell none) (hcF : oF.data = .cell none) (hcT : oT.data = .cell none) (hcW : oW.data = .cell none)
  (o0 : 108 < L) (o1 : L + 4 < lN) (hN : IntsAre vsN ns) (hl1 : 2 ≤ ns.length) (hl2 : ns.length ≤ 34)
  (q : ∀ (S : St) (h' : Heap) (tk : Nat) (m' : Str → Option Value) (odF odB odO : Obj) (ps : Array Value), S.L = L → S.fa = fa → S.vsN = vsN → Ok S → Fr h₀ L h' m' → Nm S m' → News h₀ L h' (Led w S odF odB odO [] 0 [] 0 .none 0 [(108, tabObj ps)]) → odF.IsDictOf (PySem.intKind PySem.Challenge.rw_aj5039_01.row.prog w) [] → odB.IsDictOf (PySem.intKind PySem.Challenge.rw_aj5039_01.row.prog w) [] → odO.IsDictOf (PySem.intKind PySem.Challenge.rw_aj5039_01.row.prog w) [] → Q .next { s with heap := h', toks := tk }) :
  wpAny (model PySem.Challenge.rw_aj5039_01.row.prog w) (callerA.deeper (lenv L fa 110)) (execs ((lawBody.drop 1).take 7) (lenv L fa 110)) Q (fun _ _ => False) s := by
  have b1 : 0 ≤ (ns.getD (Int.toNat 0) 0).fmod 3 := Int.fmod_nonneg_of_pos _ (by decide)
  have b2 : (ns.getD (Int.toNat 0) 0).fmod 3 < 3 := Int.fmod_lt_of_pos _ (by decide)
  have b3 : 0 ≤ (ns.getD (Int.toNat 1) 0).fmod 4 := Int.fmod_nonneg_of_pos _ (by decide)
  have b4 : (ns.getD (Int.toNat 1) 0).fmod 4 < 4 := Int.fmod_lt_of_pos _ (by decide)
  revert X
  k_fill
  intro X
  have F1 := fr_put nn F
  clear F
  conv => arg 3; arg 1; whnf
  k_steps
  all_goals first | (refine wpAny_execs_nil ?_; refine init_fin (by assumption) (by assumption) (by assumption) (by assumption) (by assumption) (by assumption) (by assumption) (by assumption) (by assumption) (by assumption) (by assumption) (by assumption) (by assumption) (by assumption) (by assumption) ?s1 ?s2 ?s3 ?s4 ?o0 ?o1 ?o2 ?o3 ?o4 ?o5 ?o6 ?o7 ?o8 ?o9 ?o10 ?o11 ?o12 ?o13 ?o14 ?o15 ?o16 ?o17 ?o18 ?o19 (by exact rfl) (by exact rfl) (by exact rfl) (by exact rfl) ?_; (case s1 => show 1 ≤ 1 + (ns.getD (Int.toNat 0) 0).fmod 3; omega); (case s2 => show 1 + (ns.getD (Int.toNat 0) 0).fmod 3 ≤ 3; omega); (case s3 => show 0 ≤ (ns.getD (Int.toNat 1) 0).fmod 4; omega); (case s4 => show (ns.getD (Int.toNat 1) 0).fmod 4 ≤ 3; omega); (case o0 => omega); (case o1 => omega); (case o2 => omega); (case o3 => omega); (case o4 => omega); (case o5 => omega); (case o6 => omega); (case o7 => omega); (case o8 => omega); (case o9 => omega); (case o10 => omega); (case o11 => omega); (case o12 => omega); (case o13 => omega); (case o14 => omega); (case o15 => omega); (case o16 => omega); (case o17 => omega); (case o18 => omega); (case o19 => omega); (intro S a b c d e f g; exact q S _ _ _ _ _ _ _ a b c d e f g (by assumption) (by assumption) (by assumption)))
end
end Mine
end
section
open PySem PySem.W PyProof.Rows PySem.Calls PyProof.V PySem.Spec
set_option maxRecDepth 100000
namespace Mine
def RestThm : Prop := ∀ (w : World) (mg mb : Str → Option Value) (mean : ExcName → Option Value) (h₀ : Heap) (L fa : Nat) (m : Str → Option Value) (s : Shared) (Q : Flow → Shared → Prop) (E : Value → Shared → Prop) (lN : Nat) (oB oF oT oW : Obj) (vsN : List Value) (ns : List Int) (nN : Nat),
  (hd.heap_39 w.params).In h₀ → Top topProg loose mean mg mb h₀ → Below callerA h₀ [] h₀ → CodeHd h₀ 110 108 → Fr h₀ L s.heap m → m (Str.ofString "numbers") = some (.ref lN) → News h₀ L s.heap [(L + 1, oB), (L + 2, oF), (L + 3, oT), (L + 4, oW), (lN, listOf vsN.toArray nN), (108, tabObj #[])] → 108 < L → L + 4 < lN → oB.data = .cell none → oF.data = .cell none → oT.data = .cell none → oW.data = .cell none → IntsAre vsN ns → 2 ≤ ns.length → ns.length ≤ 34 →
  (∀ h' tk m' ps, Fr h₀ L h' m' → News h₀ L h' [(108, tabObj ps)] → Q (.ret (.bool true)) { s with heap := h', toks := tk }) → wpAny (model PySem.Challenge.rw_aj5039_01.row.prog w) (callerA.deeper (lenv L fa 110)) (execs (lawBody.drop 1) (lenv L fa 110)) Q E s
section
variable {w : World} {S : St} {prs : List (Addr × Obj)} {mg mb : Str → Option Value} {mean : ExcName → Option Value} {h₀ : Heap} {m : Str → Option Value} {s : Shared} {Q : Flow → Shared → Prop}
theorem end5 (O : Ok S) (hp : PrsUp S prs) (X : (hd.heap_39 w.params).In h₀) (T : Top topProg loose mean mg mb h₀) (B : Below callerA h₀ [] h₀) (CB : CodeB h₀) (F : Fr h₀ S.L s.heap m) (N : News h₀ S.L s.heap prs) (q : ∀ h' tk, Fr h₀ S.L h' m → News h₀ S.L h' prs → Q (.ret (.bool true)) { s with heap := h', toks := tk }) :
  wpAny (model PySem.Challenge.rw_aj5039_01.row.prog w) (callerA.deeper (lenv S.L S.fa 110)) (execs (lawBody.drop 12) (lenv S.L S.fa 110)) Q (fun _ _ => False) s := by
  revert X
  k_fill
  intro X
  conv => arg 3; arg 1; whnf
  k_steps
  all_goals first | exact q _ _ (by assumption) (by assumption)
end
set_option maxHeartbeats 8000000 in
theorem rest01 : RestThm := by
  intro w mg mb mean h₀ L fa m s Q E lN oB oF oT oW vsN ns nN X T B cd F nn N o0 o1 hcB hcF hcT hcW hN hl1 hl2 q
  refine wpAny_mono (Q := Q) (E := fun _ _ => False) ?_ (fun _ _ h => h) (fun _ _ h => h.elim)
  refine execs_app (a := (lawBody.drop 1).take 7) (b := lawBody.drop 8) (init01 cd X T B F nn N hcB hcF hcT hcW o0 o1 hN hl1 hl2 fun S h' tk m' odF odB odO ps eL ea ev O F1 nm N1 hdF hdB hdO => ?_)
  clear F N
  subst eL
  subst ea
  subst ev
  have CB : CodeB h₀ := cd
  have hp : PrsUp S [(108, tabObj ps)] := fun q hq => by
    rcases List.mem_cons.mp hq with rfl | h
    · exact .inr o0
    · exact absurd h List.not_mem_nil
  have a1 := O.s1a
  have a2 := O.s2a
  refine wpAny_execs_cons (loop01 (kF := []) (kB := []) (kO := []) O hp X T B CB F1 nm N1 hdF hdB hdO hN hl1 hl2 { one := rfl, nd := List.nodup_nil, bd := fun k h => absurd h List.not_mem_nil, lf := by show (0 : Int) ≤ _; omega, lb := by show (0 : Int) ≤ _; omega, vs := rfl, tup := fun k v h => absurd h List.not_mem_nil, len := Nat.le_refl _ } (tb := (108, tabObj ps)) (.head _) fun h' tk m' odF odB odO kF kB kO vF nF nW tv prs F nm N hp hdF hdB hdO x htb => ?_)
  obtain ⟨h7F, h7B, l3F, l3B, lO, hl⟩ := x.facts O
  obtain ⟨ndB, ndF, dj⟩ := x.keys
  have lF1 : (kF.map (·.1)).length = kF.length := List.length_map ..
  have lB1 : (kB.map (·.1)).length = kB.length := List.length_map ..
  have ex : ∀ k, valueAt kF k = none ∨ valueAt kB k = none := fun k => by
    cases eF : valueAt kF k with
    | none => exact .inl rfl
    | some v => exact .inr (valueAt_none.mpr fun h => dj _ h _ (mem_isSome.mp (by rw [eF]; rfl)) rfl)
  have ag : ∀ k, valueAt kO k = (valueAt kF k).or (valueAt kB k) := fun k => by
    rw [x.one, valueAt_app]
    rcases ex k with e | e
    · rw [e, Option.or_none, Option.none_or]
    · rw [e, Option.or_none, Option.none_or]
  refine wpAny_execs_cons (end1 O hp X T B CB F nm N hdF hdB hdO h7F h7B l3F l3B (by omega) (by omega) (by omega) ndF ndB (fun k hk hb => dj k hb k hk rfl) trivial fun h' tk m' lH n vs l F nm nh N lt hi => ?_)
  have lO9 : S.dO < lH := lt _ Led.m_dO
  refine wpAny_execs_cons (end2 O hp X T B CB F nm nh N hdF hdB hdO lO9 (fun p hp => Nat.ne_of_lt (lt p (Led.m_prs hp))) fun h' tk F N => ?_)
  refine wpAny_execs_cons (end4 O hp X T B CB F nm nh N hdF hdB hdO lO9 (fun p hp => ?_) hi ag ex (by omega) (by omega) (by omega) fun h' tk m' F N => ?_)
  · rcases Led.le O p hp with h | h
    · exact Nat.ne_of_lt (Nat.lt_of_le_of_lt h lO9)
    · exact Nat.ne_of_lt (lt p (Led.m_prs h))
  exact end5 (prs := [(108, tabObj ps)]) O (List.forall_mem_cons.mpr ⟨.inr o0, fun _ h => absurd h List.not_mem_nil⟩) X T B CB F (News.sub N fun p hp => by
    rcases List.mem_cons.mp hp with rfl | h
    · exact htb
    · exact absurd h List.not_mem_nil) fun h' tk F N => q _ _ _ ps F N
end Mine
end
section
open PySem PySem.W PyProof.Rows PySem.Calls PyProof.V PySem.Spec
set_option maxRecDepth 100000
namespace Mine
local macro_rules | `(tactic| walk_at "execs cons Assign cons") => `(tactic| (refine (‹RestThm› : RestThm) _ _ _ _ _ _ _ _ _ _ _ _ _ _ _ _ _ _ _ (by assumption) (by assumption) (by assumption) (by assumption) (by assumption) (by exact rfl) (News.sub (by assumption) (by lcg_sub)) (by assumption) (by omega) (by first | assumption | exact Eq.trans (by assumption) (by with_unfolding_all rfl)) (by first | assumption | exact Eq.trans (by assumption) (by with_unfolding_all rfl)) (by first | assumption | exact Eq.trans (by assumption) (by with_unfolding_all rfl)) (by first | assumption | exact Eq.trans (by assumption) (by with_unfolding_all rfl)) (by assumption) (by rw [List.length_take, List.length_append]; simp only [List.length_take, List.length_cons, List.length_nil]; split <;> omega) (by rw [List.length_take, List.length_append]; simp only [List.length_take, List.length_cons, List.length_nil]; split <;> omega) ?_; intro h' tk' m' ps' F' N'))
set_option maxHeartbeats 16000000 in
theorem head (hR : RestThm) : PySem.Challenge.rw_aj5039_01.Holds := hd (by
  k_go0
  all_goals try k_fold
  k_steps)
end Mine
end
section
open PySem PySem.W PyProof.Rows
namespace Mine
theorem holds01 : PySem.Challenge.rw_aj5039_01.Holds := head rest01
end Mine
end
open PySem PySem.W PyProof.Rows
theorem PySem.Challenge.cw_aj5039_01_holds : PySem.Challenge.rw_aj5039_01.Holds :=
  Mine.holds01
