import PyProof.Rows.All
import Wide.All
import OpenK.AllK
import Wide.FinOn
import PySem.Challenge.RW_aa6021_01
open PySem PySem.W PyProof.Rows PySem.Calls PySem.Spec
set_option Elab.async false
set_option maxRecDepth 100000
set_option maxHeartbeats 16000000
namespace Mine
open_top hd for PySem.Challenge.rw_aa6021_01
end Mine

namespace Mine
section
theorem enter {prog : Program} {w : World} {A₀ A : Around} {s : Shared} {h₀ : Heap} {env : Env} {L : Addr} {m : Str → Option Value} {news : List (Addr × Obj)} {K : Frag} {p : Program} {loose : List Str} {mean : ExcName → Option Value} {mg mb : Str → Option Value}
    {R : Result → Shared → Prop} {name qual : Str} {params : Arguments} {body : List Stmt} {scope : Scope} {dV kV doc pm cdv ct oc : Value} {an od : Option Addr} {osl : Array (Option Value)} {f : Addr} {args : Args} {binds : List (Str × Value)}
    (hB0 : Below A₀ h₀ [] h₀) (F : Fr h₀ L s.heap m) (X₀ : K.In h₀) (N : News h₀ L s.heap news) (T : Top p loose mean mg mb h₀) (hA : A.frames = some [env]) (hf : env.frame = some L) (hke : env.scope.kind = .function)
    (ho : K.lookup f = some ⟨oc, od, .func (fnOf name qual params body scope dV kV doc pm an cdv ct), osl⟩) (hcd : codeIn K cdv qual = true) (hroom : A.depth < recursionLimit)
    (hbind : BindsTo s (fnOf name qual params body scope dV kV doc pm an cdv ct) args binds) (hloc : ∀ y ∈ binds, scope.names.lookup y.1 = some .local)
    (h : ∀ g L' h₁, s.heap = g → K.In h₀ → Top p loose mean mg mb h₀ → Fr g L' h₁ (fun y => binds.reverse.lookup y) → News g L' h₁ [] → Below A h₀ [env] g → K.In g → Top p loose mean mg mb g → KtsDicts ([env].filterMap (·.frame)) g →
      wpAny (model prog w) (A.deeper (envOf qual scope L' f cdv)) (execs body (envOf qual scope L' f cdv))
        (fun fl s' => LeaveS0 ([env].filterMap (·.frame)) h₀ L m g (fun r s'' => News h₀ L s''.heap news → R r s'') (match fl with | .ret v => v | _ => .none) s')
        (fun e s' => wpAny (model prog w) (A.deeper (envOf qual scope L' f cdv)) (leaving (envOf qual scope L' f cdv) e) (fun _ s'' => R (.error e) s'') (fun e' s'' => R (.error e') s'') s')
        { s with heap := h₁, toks := s.toks + binds.length })
    (hco : scope.isCoroutine = false) (hgen : scope.isGenerator = false) (hk : scope.kind = .function)
    (hcell : ∀ x ∈ scope.names, x.2 ≠ .cell) : codeAny (model prog w) A (.call (.ref f) args) R s := by
  have X := X₀.keeps F.keep
  have nL₀ : h₀.get? L = none := kts_self F
  have fs : [env].filterMap (·.frame) = [L] := by simp [hf]
  obtain ⟨oL, es, ep, hL, hLd, hLk, hLf⟩ := F.ns
  refine codeAny_call_def (fd := fnOf name qual params body scope dV kV doc pm an cdv ct) (body := body) (binds := binds) hroom (X _ _ ho) rfl (T.nolimit.keeps F.keep) (codeRec_of X hcd) rfl hbind hcell hloc (fun h₁ hns hk₁ => ?_) hco hgen hk
  have B₂ : Below A h₀ [env] s.heap := ⟨hA, F.keep, .cons (by rw [hke]; decide) hf F.ns nL₀ trivial⟩
  refine wpAny_mono (h s.heap s.heap.objs.size h₁ rfl X₀ T ⟨hns, hk₁, Nat.le_refl _⟩ (fun _ hp => nomatch hp) B₂ X (T.keeps F.keep) (fun b hb => by
    rw [fs, List.mem_singleton] at hb
    subst hb
    exact ⟨oL, es, ep, hL, hLd⟩)) (fun fl s' hl => ?_) fun _ _ y => y
  obtain ⟨g', L', m', news', T', F', N', k⟩ := hl
  rw [fs] at T'
  obtain ⟨sl, hs⟩ := T'.up hL
  have up : ∀ b o, s.heap.get? b = some o → b ≠ L → s'.heap.get? b = some o := fun b o e n => F'.keep _ _ (T'.other b o e (fun q => n (List.mem_singleton.mp q)))
  have keep : ∀ b o, h₀.get? b = some o → s'.heap.get? b = some o := fun b o e => up b o (F.keep _ _ e) (fun q => by rw [q, nL₀] at e; cases e)
  refine k ⟨⟨_, es, ep, F'.keep _ _ hs, hLd, hLk, hLf⟩, keep, F.above⟩ (fun q hq => ⟨(N' q hq).1, fun z => ?_, ?_⟩) fun q hq => ⟨up _ _ (N q hq).1 (N q hq).2.1, (N q hq).2.1, (N q hq).2.2⟩
  · have := (N' q hq).2.2
    rw [z, hs] at this
    cases this
  · cases z : h₀.get? q.1 with
    | none => rfl
    | some o =>
      obtain ⟨sl', hs'⟩ := T'.up (F.keep _ _ z)
      have := (N' q hq).2.2
      rw [hs'] at this
      cases this

end
end Mine

namespace Mine
section
section
variable {prog : Program} {w : World} {A₀ A : Around} {s : Shared} {base h₀ : Heap} {env : Env} {outer : List Env} {L : Addr} {m : Str → Option Value} {news : List (Addr × Obj)} {K : Frag} {p : Program} {loose : List Str} {mean : ExcName → Option Value} {mg mb : Str → Option Value}
    {R : Result → Shared → Prop} {name qual : Str} {params : Arguments} {body : List Stmt} {scope : Scope} {dV kV doc pm cdv ct oc : Value} {an od : Option Addr} {osl : Array (Option Value)} {f : Addr} {args : Args} {binds : List (Str × Value)}

theorem below2 (B : Below A₀ base outer h₀) (F : Fr h₀ L s.heap m) (hA : A.frames = some (env :: outer)) (hf : env.frame = some L) (hke : env.scope.kind = .function) : Below A base (env :: outer) s.heap := by
  have nL : base.get? L = none := by
    cases q : base.get? L with
    | none => rfl
    | some o =>
      have := B.stays _ _ q
      rw [kts_self F] at this
      cases this
  exact ⟨hA, fun b o e => F.keep b o (B.stays b o e), .cons (by rw [hke]; decide) hf F.ns nL (B.frames.of_keeps fun b o e _ => ⟨o, F.keep b o e, rfl⟩)⟩

/-- a def that catches nothing, entered with an empty ledger: what the caller made stands in the callee's ground -/
theorem enterK (B : Below A₀ base outer h₀) (F : Fr h₀ L s.heap m) (X₀ : K.In h₀) (N : News h₀ L s.heap news) (T : Top p loose mean mg mb h₀) (hA : A.frames = some (env :: outer)) (hf : env.frame = some L) (hke : env.scope.kind = .function)
    (ho : K.lookup f = some ⟨oc, od, .func (fnOf name qual params body scope dV kV doc pm an cdv ct), osl⟩) (hcd : codeIn K cdv qual = true) (hroom : A.depth < recursionLimit)
    (hbind : BindsTo s (fnOf name qual params body scope dV kV doc pm an cdv ct) args binds) (hloc : ∀ y ∈ binds, scope.names.lookup y.1 = some .local)
    (h : ∀ g L' h₁, s.heap = g → Fr g L' h₁ (fun y => binds.reverse.lookup y) → News g L' h₁ [] → Below A base (env :: outer) g → K.In g → Top p loose mean mg mb g →
      wpAny (model prog w) (A.deeper (envOf qual scope L' f cdv)) (execs body (envOf qual scope L' f cdv))
        (fun fl s' => LeaveK h₀ L m g (fun r s'' => News h₀ L s''.heap news → R r s'') (match fl with | .ret v => v | _ => .none) s')
        (fun e s' => wpAny (model prog w) (A.deeper (envOf qual scope L' f cdv)) (leaving (envOf qual scope L' f cdv) e) (fun _ s'' => R (.error e) s'') (fun e' s'' => R (.error e') s'') s')
        { s with heap := h₁, toks := s.toks + binds.length })
    (hco : scope.isCoroutine = false) (hgen : scope.isGenerator = false) (hk : scope.kind = .function)
    (hcell : ∀ x ∈ scope.names, x.2 ≠ .cell) : codeAny (model prog w) A (.call (.ref f) args) R s := by
  have X := X₀.keeps F.keep
  obtain ⟨oL, es, ep, hL, hLd, hLk, hLf⟩ := F.ns
  refine codeAny_call_def (fd := fnOf name qual params body scope dV kV doc pm an cdv ct) (body := body) (binds := binds) hroom (X _ _ ho) rfl (T.nolimit.keeps F.keep) (codeRec_of X hcd) rfl hbind hcell hloc (fun h₁ hns hk₁ => ?_) hco hgen hk
  refine wpAny_mono (h s.heap s.heap.objs.size h₁ rfl ⟨hns, hk₁, Nat.le_refl _⟩ (fun _ hp => nomatch hp) (below2 B F hA hf hke) X (T.keeps F.keep)) (fun fl s' hl => ?_) fun _ _ y => y
  obtain ⟨L', m', news', F', N', k⟩ := hl
  refine k ⟨⟨oL, es, ep, F'.keep _ _ hL, hLd, hLk, hLf⟩, fun b o e => F'.keep _ _ (F.keep _ _ e), F.above⟩ (fun q hq => ⟨(N' q hq).1, fun z => ?_, ?_⟩) fun q hq => ⟨F'.keep _ _ (N q hq).1, (N q hq).2.1, (N q hq).2.2⟩
  · have := (N' q hq).2.2
    rw [z, hL] at this
    cases this
  · cases z : h₀.get? q.1 with
    | none => rfl
    | some o =>
      have := (N' q hq).2.2
      rw [F.keep _ _ z] at this
      cases this

/-- a def that catches what a def of its own raised: the frames below are turned, the ground is a new one -/
theorem enterS (B : Below A₀ base outer h₀) (F : Fr h₀ L s.heap m) (X₀ : K.In h₀) (N : News h₀ L s.heap news) (T : Top p loose mean mg mb h₀) (XB : K.In base) (TB : Top p loose mean mg mb base) (D : KtsDicts (outer.filterMap (·.frame)) h₀)
    (hA : A.frames = some (env :: outer)) (hf : env.frame = some L) (hke : env.scope.kind = .function)
    (ho : K.lookup f = some ⟨oc, od, .func (fnOf name qual params body scope dV kV doc pm an cdv ct), osl⟩) (hcd : codeIn K cdv qual = true) (hroom : A.depth < recursionLimit)
    (hbind : BindsTo s (fnOf name qual params body scope dV kV doc pm an cdv ct) args binds) (hloc : ∀ y ∈ binds, scope.names.lookup y.1 = some .local)
    (h : ∀ g L' h₁, s.heap = g → K.In base → Top p loose mean mg mb base → Fr g L' h₁ (fun y => binds.reverse.lookup y) → News g L' h₁ [] → Below A base (env :: outer) g → K.In g → Top p loose mean mg mb g → KtsDicts ((env :: outer).filterMap (·.frame)) g →
      wpAny (model prog w) (A.deeper (envOf qual scope L' f cdv)) (execs body (envOf qual scope L' f cdv))
        (fun fl s' => LeaveS ((env :: outer).filterMap (·.frame)) A₀ base outer K p loose mean mg mb h₀ h₀ L m g
          (fun r s'' => (∀ h₀', KtsTurn (outer.filterMap (·.frame)) h₀ h₀' → Fr h₀' L s''.heap m → News h₀' L s''.heap news → Below A₀ base outer h₀' → K.In h₀' → Top p loose mean mg mb h₀' → KtsDicts (outer.filterMap (·.frame)) h₀' → R r s'')) (match fl with | .ret v => v | _ => .none) s')
        (fun e s' => wpAny (model prog w) (A.deeper (envOf qual scope L' f cdv)) (leaving (envOf qual scope L' f cdv) e) (fun _ s'' => R (.error e) s'') (fun e' s'' => R (.error e') s'') s')
        { s with heap := h₁, toks := s.toks + binds.length })
    (hco : scope.isCoroutine = false) (hgen : scope.isGenerator = false) (hk : scope.kind = .function)
    (hcell : ∀ x ∈ scope.names, x.2 ≠ .cell) : codeAny (model prog w) A (.call (.ref f) args) R s := by
  have X := X₀.keeps F.keep
  have nL₀ : h₀.get? L = none := kts_self F
  have fs : (env :: outer).filterMap (·.frame) = L :: outer.filterMap (·.frame) := by simp [hf]
  obtain ⟨oL, es, ep, hL, hLd, hLk, hLf⟩ := F.ns
  refine codeAny_call_def (fd := fnOf name qual params body scope dV kV doc pm an cdv ct) (body := body) (binds := binds) hroom (X _ _ ho) rfl (T.nolimit.keeps F.keep) (codeRec_of X hcd) rfl hbind hcell hloc (fun h₁ hns hk₁ => ?_) hco hgen hk
  refine wpAny_mono (h s.heap s.heap.objs.size h₁ rfl XB TB ⟨hns, hk₁, Nat.le_refl _⟩ (fun _ hp => nomatch hp) (below2 B F hA hf hke) X (T.keeps F.keep) (fun b hb => by
    rw [fs] at hb
    rcases List.mem_cons.mp hb with rfl | hb
    · exact ⟨oL, es, ep, hL, hLd⟩
    · obtain ⟨o, es', n', ho', hd'⟩ := D b hb
      exact ⟨o, es', n', F.keep b o ho', hd'⟩)) (fun fl s' hl => ?_) fun _ _ y => y
  rcases hl with ⟨L', m', news', F', N', k⟩ | ⟨g', L', m', news', T', F', N', k⟩
  · have F₁ : Fr h₀ L s'.heap m := ⟨⟨oL, es, ep, F'.keep _ _ hL, hLd, hLk, hLf⟩, fun b o e => F'.keep _ _ (F.keep _ _ e), F.above⟩
    refine k F₁ (fun q hq => ⟨(N' q hq).1, fun z => ?_, ?_⟩) h₀ .refl F₁ (fun q hq => ⟨F'.keep _ _ (N q hq).1, (N q hq).2.1, (N q hq).2.2⟩) B X₀ T D
    · have := (N' q hq).2.2
      rw [z, hL] at this
      cases this
    · cases z : h₀.get? q.1 with
      | none => rfl
      | some o =>
        have := (N' q hq).2.2
        rw [F.keep _ _ z] at this
        cases this
  rw [fs] at T'
  have nfs : ∀ b ∈ outer.filterMap (·.frame), ∃ o, h₀.get? b = some o := fun b hb => by
    obtain ⟨_, o, ho', _⟩ := B.frames.mem hb
    exact ⟨o, ho'⟩
  obtain ⟨sl, hs⟩ := T'.up hL
  have up : ∀ b o, s.heap.get? b = some o → b ≠ L → b ∉ outer.filterMap (·.frame) → s'.heap.get? b = some o := fun b o e n₁ n₂ => F'.keep _ _ (T'.other b o e fun q => (List.mem_cons.mp q).elim n₁ n₂)
  obtain ⟨T₁, S₁⟩ := kts_turn_at (h := s'.heap) (fs := outer.filterMap (·.frame)) (g := h₀) nfs
    (fun b o e nm => up b o (F.keep _ _ e) (fun q => by rw [q, nL₀] at e; cases e) nm)
    (fun b o e _ => by
      obtain ⟨sl', hs'⟩ := T'.up (F.keep _ _ e)
      exact ⟨sl', F'.keep _ _ hs'⟩)
  have F₁ : Fr (ktsHeap s'.heap (outer.filterMap (·.frame)) h₀) L s'.heap m := ⟨⟨_, es, ep, F'.keep _ _ hs, hLd, hLk, hLf⟩, S₁, by rw [T₁.size]; exact F.above⟩
  have B₁ : Below A₀ base outer (ktsHeap s'.heap (outer.filterMap (·.frame)) h₀) := ⟨B.stack, fun b o e => T₁.other b o (B.stays b o e) (fun hm => by
    rw [(B.frames.mem hm).1] at e
    cases e), B.frames.of_keeps fun b o e _ => by
    obtain ⟨sl', hs'⟩ := T₁.up e
    exact ⟨_, hs', rfl⟩⟩
  have X₁ := XB.keeps B₁.stays
  have P₁ := TB.keeps B₁.stays
  have D₁ := D.turn T₁
  refine k _ T₁ F₁ (fun q hq => ⟨(N' q hq).1, fun z => ?_, ?_⟩) B₁ X₁ P₁ D₁ _ T₁ F₁ (fun q hq => ⟨up _ _ (N q hq).1 (N q hq).2.1 (fun z => ?_), (N q hq).2.1, T₁.none_ _ (N q hq).2.2⟩) B₁ X₁ P₁ D₁
  · have := (N' q hq).2.2
    rw [z, hs] at this
    cases this
  · refine T₁.none_ _ ?_
    cases z : h₀.get? q.1 with
    | none => rfl
    | some o =>
      obtain ⟨sl', hs'⟩ := T'.up (F.keep _ _ z)
      have := (N' q hq).2.2
      rw [hs'] at this
      cases this
  · obtain ⟨o, ho'⟩ := nfs _ z
    rw [(N q hq).2.2] at ho'
    cases ho'
end

end
end Mine

namespace Mine
section
abbrev TopM (mean : ExcName → Option Value) (mg mb : Str → Option Value) (h : Heap) : Prop := Top hd.view_39 (looseW hd.view_39 []) mean mg mb h
/-- a def that catches nothing of its callees' -/
def TellK (w : World) (mean : ExcName → Option Value) (mg mb : Str → Option Value) (f : Addr) (vs : List Value) (Out : Value → Prop) : Prop :=
  ∀ (dp un : Nat) (gd : Option (List Code)) (cn : Str) (cs : Scope) (a : Addr) (ccd : Value) (cl : List (Str × Addr)) (outer : List Env) (A₀ : Around) (base h₀ : Heap) (L : Addr) (m : Str → Option Value) (news : List (Addr × Obj)) (s : Shared) (Q E : Value → Shared → Prop),
    Below A₀ base outer h₀ → Fr h₀ L s.heap m → (hd.heap_39 w.params).In h₀ → News h₀ L s.heap news → Top hd.view_39 (looseW hd.view_39 []) mean mg mb h₀ → cs.kind = .function →
    dp + 4 < recursionLimit → un + 32 < cLine →
    (∀ (r : Value) (h' : Heap) (tk' : Nat), Fr h₀ L h' m → News h₀ L h' news → Out r → Q r { s with heap := h', toks := tk' }) →
      wpAny (model PySem.Challenge.rw_aa6021_01.row.prog w) (ktrTop dp un gd cn cs L a ccd cl outer) (call (.ref f) vs) Q E s
/-- a def with a try over calls of its own -/
def TellS (w : World) (mean : ExcName → Option Value) (mg mb : Str → Option Value) (f : Addr) (vs : List Value) (Out : Value → Prop) : Prop :=
  ∀ (dp un : Nat) (gd : Option (List Code)) (cn : Str) (cs : Scope) (a : Addr) (ccd : Value) (cl : List (Str × Addr)) (outer : List Env) (A₀ : Around) (base h₀ : Heap) (L : Addr) (m : Str → Option Value) (news : List (Addr × Obj)) (s : Shared) (Q E : Value → Shared → Prop),
    Below A₀ base outer h₀ → Fr h₀ L s.heap m → (hd.heap_39 w.params).In h₀ → News h₀ L s.heap news → Top hd.view_39 (looseW hd.view_39 []) mean mg mb h₀ →
    (hd.heap_39 w.params).In base → Top hd.view_39 (looseW hd.view_39 []) mean mg mb base → KtsDicts (outer.filterMap (·.frame)) h₀ → cs.kind = .function →
    dp + 4 < recursionLimit → un + 32 < cLine →
    (∀ (r : Value) (h₀' h' : Heap) (tk' : Nat), KtsTurn (outer.filterMap (·.frame)) h₀ h₀' → Fr h₀' L h' m → News h₀' L h' news → Below A₀ base outer h₀' → (hd.heap_39 w.params).In h₀' → Top hd.view_39 (looseW hd.view_39 []) mean mg mb h₀' → KtsDicts (outer.filterMap (·.frame)) h₀' →
      Out r → Q r { s with heap := h', toks := tk' }) →
      wpAny (model PySem.Challenge.rw_aa6021_01.row.prog w) (ktrTop dp un gd cn cs L a ccd cl outer) (call (.ref f) vs) Q E s
/-- a def that the law itself calls -/
def TellL (w : World) (mean : ExcName → Option Value) (mg mb : Str → Option Value) (f : Addr) (vs : Heap → List Value → Prop) (Out : Value → Prop) : Prop :=
  ∀ (dp un : Nat) (gd : Option (List Code)) (cn : Str) (cs : Scope) (a : Addr) (ccd : Value) (cl : List (Str × Addr)) (A₀ : Around) (h₀ : Heap) (L : Addr) (m : Str → Option Value) (news : List (Addr × Obj)) (s : Shared) (Q E : Value → Shared → Prop) (xs : List Value),
    Below A₀ h₀ [] h₀ → Fr h₀ L s.heap m → (hd.heap_39 w.params).In h₀ → News h₀ L s.heap news → Top hd.view_39 (looseW hd.view_39 []) mean mg mb h₀ → cs.kind = .function →
    dp + 8 < recursionLimit → un + 200 < cLine → vs s.heap xs →
    (∀ (r : Value) (h' : Heap) (tk' : Nat), Fr h₀ L h' m → News h₀ L h' news → Out r → Q r { s with heap := h', toks := tk' }) →
      wpAny (model PySem.Challenge.rw_aa6021_01.row.prog w) (ktrTop dp un gd cn cs L a ccd cl []) (call (.ref f) xs) Q E s
section
variable {w : World} {mean : ExcName → Option Value} {mg mb : Str → Option Value} {f : Addr} {vs : List Value} {Out : Value → Prop} {dp un : Nat} {gd : Option (List Code)} {cn : Str} {cs : Scope} {a : Addr} {ccd : Value} {cl : List (Str × Addr)} {outer : List Env} {A₀ : Around} {base h₀ : Heap} {L : Addr} {m : Str → Option Value} {news : List (Addr × Obj)} {s : Shared} {Q E : Value → Shared → Prop}
theorem TellK.use (C : TellK w mean mg mb f vs Out) (B : Below A₀ base outer h₀) (F : Fr h₀ L s.heap m) (X : (hd.heap_39 w.params).In h₀) (N : News h₀ L s.heap news) (T : Top hd.view_39 (looseW hd.view_39 []) mean mg mb h₀) (hk : cs.kind = .function)
    (hd : dp + 4 < recursionLimit) (hu : un + 32 < cLine) (ret : ∀ (r : Value) (h' : Heap) (tk' : Nat), Fr h₀ L h' m → News h₀ L h' news → Out r → Q r { s with heap := h', toks := tk' }) :
    wpAny (model PySem.Challenge.rw_aa6021_01.row.prog w) (ktrTop dp un gd cn cs L a ccd cl outer) (call (.ref f) vs) Q E s := C _ _ _ _ _ _ _ _ _ _ _ _ _ _ _ _ _ _ B F X N T hk hd hu ret
theorem TellS.use (C : TellS w mean mg mb f vs Out) (B : Below A₀ base outer h₀) (F : Fr h₀ L s.heap m) (X : (hd.heap_39 w.params).In h₀) (N : News h₀ L s.heap news) (T : Top hd.view_39 (looseW hd.view_39 []) mean mg mb h₀)
    (XB : (hd.heap_39 w.params).In base) (TB : Top hd.view_39 (looseW hd.view_39 []) mean mg mb base) (D : KtsDicts (outer.filterMap (·.frame)) h₀) (hk : cs.kind = .function)
    (hd : dp + 4 < recursionLimit) (hu : un + 32 < cLine) (ret : ∀ (r : Value) (h₀' h' : Heap) (tk' : Nat), KtsTurn (outer.filterMap (·.frame)) h₀ h₀' → Fr h₀' L h' m → News h₀' L h' news → Below A₀ base outer h₀' → (Mine.hd.heap_39 w.params).In h₀' → Top Mine.hd.view_39 (looseW Mine.hd.view_39 []) mean mg mb h₀' → KtsDicts (outer.filterMap (·.frame)) h₀' →
      Out r → Q r { s with heap := h', toks := tk' }) :
    wpAny (model PySem.Challenge.rw_aa6021_01.row.prog w) (ktrTop dp un gd cn cs L a ccd cl outer) (call (.ref f) vs) Q E s := C _ _ _ _ _ _ _ _ _ _ _ _ _ _ _ _ _ _ B F X N T XB TB D hk hd hu ret
end
def OutS (H n : Int) (r : Value) : Prop := (∃ t, 0 ≤ n ∧ n < H ∧ r = .int n t) ∨ (∃ t, H ≤ n ∧ n < 2 * H ∧ r = .int (n - 2 * H) t) ∨ ((n < 0 ∨ 2 * H ≤ n) ∧ r = .none)
def OutU (H n : Int) (r : Value) : Prop := (∃ t, 0 ≤ n ∧ n < H ∧ r = .int n t) ∨ (∃ t, -H ≤ n ∧ n < 0 ∧ r = .int (n + 2 * H) t) ∨ ((n < -H ∨ H ≤ n) ∧ r = .none)
theorem outS1 {H n x : Int} {t : Tok} (h0 : 0 ≤ n) (h1 : n < H) (e : x = n) : OutS H n (.int x t) := .inl ⟨t, h0, h1, by rw [e]⟩
theorem outS2 {H n x : Int} {t : Tok} (h0 : H ≤ n) (h1 : n < 2 * H) (e : x = n - 2 * H) : OutS H n (.int x t) := .inr (.inl ⟨t, h0, h1, by rw [e]⟩)
theorem outS3 {H n : Int} (h : n < 0 ∨ 2 * H ≤ n) : OutS H n .none := .inr (.inr ⟨h, rfl⟩)
theorem outU1 {H n x : Int} {t : Tok} (h0 : 0 ≤ n) (h1 : n < H) (e : x = n) : OutU H n (.int x t) := .inl ⟨t, h0, h1, by rw [e]⟩
theorem outU2 {H n x : Int} {t : Tok} (h0 : -H ≤ n) (h1 : n < 0) (e : x = n + 2 * H) : OutU H n (.int x t) := .inr (.inl ⟨t, h0, h1, by rw [e]⟩)
theorem outU3 {H n : Int} (h : n < -H ∨ H ≤ n) : OutU H n .none := .inr (.inr ⟨h, rfl⟩)

end
end Mine

namespace Mine
section
def UpS (o o' : Obj) : Prop := ∃ sl, o' = { o with slots := sl }
theorem UpS.refl {o : Obj} : UpS o o := ⟨o.slots, rfl⟩
/-- the frame of the law, apart from the ground -/
structure LF (A : Around) (base : Heap) (env : Env) (L : Addr) (oL : Obj) (g small : Heap) : Prop where
  below : Below A base [env] g
  fr : env.frame = some L
  at_ : g.get? L = some oL
  dict : ∃ es n, oL.data = .dict es n
  sm : small = hideAll g [L]
section
variable {A : Around} {base : Heap} {env : Env} {L L' : Addr} {oL o' : Obj} {g g' small h : Heap} {m : Str → Option Value}
theorem LF.fs (H : LF A base env L oL g small) : [env].filterMap (·.frame) = [L] := by simp [H.fr]
theorem LF.get (H : LF A base env L oL g small) {b : Addr} {o : Obj} (e : small.get? b = some o) : g.get? b = some o ∧ b ≠ L := by
  rw [H.sm] at e
  refine ⟨of_hideAll _ e, fun q => ?_⟩
  rw [q, hideAll_none _ (List.mem_singleton.mpr rfl)] at e
  cases e
theorem LF.none_ (H : LF A base env L oL g small) : small.get? L = none := by rw [H.sm]; exact hideAll_none _ (List.mem_singleton.mpr rfl)
theorem LF.put (H : LF A base env L oL g small) {b : Addr} {o : Obj} (e : g.get? b = some o) (n : b ≠ L) : small.get? b = some o := by
  rw [H.sm]; exact hideAll_get _ e fun q => n (List.mem_singleton.mp q)
theorem LF.size (H : LF A base env L oL g small) : small.objs.size = g.objs.size := by rw [H.sm]; exact hideAll_size _ _
theorem LF.base_none (H : LF A base env L oL g small) : base.get? L = none := by
  have : L ∈ [env].filterMap (·.frame) := by rw [H.fs]; exact .head _
  exact (H.below.frames.mem this).1
theorem LF.stays (H : LF A base env L oL g small) : base.StaysIn small := fun b o e => H.put (H.below.stays b o e) fun q => by
  rw [q, H.base_none] at e; cases e
theorem LF.big (H : LF A base env L oL g small) (F : Fr small L' h m) (hL : h.get? L = some o') (hu : UpS oL o') :
    ∃ g₁, KtsTurn [L] g g₁ ∧ Fr g₁ L' h m ∧ Below A base [env] g₁ ∧ KtsDicts ([env].filterMap (·.frame)) g₁ ∧ (∀ b, small.get? b = none → b ≠ L → g₁.get? b = none) ∧ g₁.get? L = some o' := by
  obtain ⟨sl, rfl⟩ := hu
  obtain ⟨T₁, S₁⟩ := kts_turn_at (h := h) (fs := [L]) (g := g) (fun b hb => by rw [List.mem_singleton.mp hb]; exact ⟨_, H.at_⟩)
    (fun b o e nm => F.keep _ _ (H.put e fun q => nm (List.mem_singleton.mpr q)))
    (fun b o e hb => by
      have q := List.mem_singleton.mp hb
      subst q
      rw [H.at_] at e
      cases e
      exact ⟨sl, hL⟩)
  have D : KtsDicts [L] g := fun b hb => by
    rw [List.mem_singleton.mp hb]
    obtain ⟨es, n, e⟩ := H.dict
    exact ⟨_, es, n, H.at_, e⟩
  refine ⟨_, T₁, ⟨F.ns, S₁, by rw [T₁.size, ← H.size]; exact F.above⟩, ⟨H.below.stack, fun b o e => T₁.other b o (H.below.stays b o e) (fun hm => by
    rw [List.mem_singleton.mp hm, H.base_none] at e
    cases e), H.below.frames.of_keeps fun b o e _ => by
    obtain ⟨sl', hs'⟩ := T₁.up e
    exact ⟨_, hs', rfl⟩⟩, ?_, fun b e n => T₁.none_ _ ?_, ?_⟩
  · rw [H.fs]; exact D.turn T₁
  · cases q : g.get? b with
    | none => rfl
    | some o => rw [H.put q n] at e; cases e
  · obtain ⟨sl', hs'⟩ := T₁.up H.at_
    have := S₁ _ _ hs'
    rw [hL] at this
    rw [hs']; exact this.symm
theorem LF.back (H : LF A base env L oL g small) (T : KtsTurn [L] g g') (F : Fr g' L' h m) :
    Fr small L' h m ∧ (∃ o', UpS oL o' ∧ g'.get? L = some o' ∧ h.get? L = some o') ∧ L ≠ L' ∧ ∀ b, g'.get? b = none → small.get? b = none := by
  obtain ⟨sl, hs⟩ := T.up H.at_
  refine ⟨⟨F.ns, fun b o e => F.keep _ _ (T.other _ _ (H.get e).1 fun q => (H.get e).2 (List.mem_singleton.mp q)), by rw [H.size, ← T.size]; exact F.above⟩, ⟨_, ⟨sl, rfl⟩, hs, F.keep _ _ hs⟩, Nat.ne_of_lt (Nat.lt_of_lt_of_le (Heap.lt_size hs) F.above), fun b e => ?_⟩
  cases q : small.get? b with
  | none => rfl
  | some o =>
    obtain ⟨sl', hs'⟩ := T.up (H.get q).1
    rw [hs'] at e
    cases e
end
section
variable {w : World} {mean : ExcName → Option Value} {mg mb : Str → Option Value} {f : Addr} {vs : List Value} {Out : Value → Prop} {dp un : Nat} {gd : Option (List Code)} {cn : Str} {cs : Scope} {a : Addr} {ccd : Value} {cl : List (Str × Addr)} {A₀ : Around} {base g small : Heap} {env : Env} {oL o' : Obj} {L₀ L : Addr} {m : Str → Option Value} {all : List (Addr × Obj)} {fn : Obj → List (Addr × Obj)} {s : Shared} {Q E : Value → Shared → Prop}
theorem TellS.useF (C : TellS w mean mg mb f vs Out) (H : LF A₀ base env L₀ oL g small) (F : Fr small L s.heap m) (N : News small L s.heap all)
    (XB : (hd.heap_39 w.params).In base) (TB : Top hd.view_39 (looseW hd.view_39 []) mean mg mb base) (U : UpdF L₀ o' all fn) (hu : UpS oL o') (hk : cs.kind = .function)
    (hd : dp + 4 < recursionLimit) (hun : un + 32 < cLine) (ret : ∀ (r : Value) (h' : Heap) (tk' : Nat) (o'' : Obj), UpS oL o'' → Fr small L h' m → News small L h' (fn o'') → Out r → Q r { s with heap := h', toks := tk' }) :
    wpAny (model PySem.Challenge.rw_aa6021_01.row.prog w) (ktrTop dp un gd cn cs L a ccd cl [env]) (call (.ref f) vs) Q E s := by
  obtain ⟨pre, post, rfl, hfn, npre, npost⟩ := U.split
  have hL := (N _ (List.mem_append_right _ (.head _))).1
  obtain ⟨g₁, T₁, F₁, B₁, D₁, nn, at₁⟩ := H.big F hL hu
  have nr : ∀ p ∈ pre ++ post, p ∈ pre ++ (L₀, o') :: post ∧ p.1 ≠ L₀ := fun p hp => (List.mem_append.mp hp).elim (fun h => ⟨List.mem_append_left _ h, npre p h⟩) fun h => ⟨List.mem_append_right _ (.tail _ h), npost p h⟩
  refine C.use (news := pre ++ post) B₁ F₁ (XB.keeps B₁.stays) (fun p hp => ⟨(N p (nr p hp).1).1, (N p (nr p hp).1).2.1, nn _ (N p (nr p hp).1).2.2 (nr p hp).2⟩) (TB.keeps B₁.stays) XB TB D₁ hk hd hun fun r h₀' h' tk' T9 F9 N9 _ _ _ _ O9 => ?_
  rw [H.fs] at T9
  obtain ⟨Fs, ⟨o'', hu'', _, at9⟩, nL, ns⟩ := H.back (T₁.trans T9) F9
  refine ret r h' tk' o'' hu'' Fs ?_ O9
  rw [hfn]
  intro p hp
  rcases List.mem_append.mp hp with hp | hp
  · have q := N9 p (List.mem_append_left _ hp)
    exact ⟨q.1, q.2.1, ns _ q.2.2⟩
  rcases List.mem_cons.mp hp with rfl | hp
  · exact ⟨at9, nL, H.none_⟩
  · have q := N9 p (List.mem_append_right _ hp)
    exact ⟨q.1, q.2.1, ns _ q.2.2⟩
theorem TellK.useF (C : TellK w mean mg mb f vs Out) (H : LF A₀ base env L₀ oL g small) (F : Fr small L s.heap m) (N : News small L s.heap all)
    (XB : (hd.heap_39 w.params).In base) (TB : Top hd.view_39 (looseW hd.view_39 []) mean mg mb base) (U : UpdF L₀ o' all fn) (hu : UpS oL o') (hk : cs.kind = .function)
    (hd : dp + 4 < recursionLimit) (hun : un + 32 < cLine) (ret : ∀ (r : Value) (h' : Heap) (tk' : Nat), Fr small L h' m → News small L h' all → Out r → Q r { s with heap := h', toks := tk' }) :
    wpAny (model PySem.Challenge.rw_aa6021_01.row.prog w) (ktrTop dp un gd cn cs L a ccd cl [env]) (call (.ref f) vs) Q E s := by
  obtain ⟨pre, post, rfl, hfn, npre, npost⟩ := U.split
  have hL := (N _ (List.mem_append_right _ (.head _))).1
  obtain ⟨g₁, T₁, F₁, B₁, D₁, nn, at₁⟩ := H.big F hL hu
  have nr : ∀ p ∈ pre ++ post, p ∈ pre ++ (L₀, o') :: post ∧ p.1 ≠ L₀ := fun p hp => (List.mem_append.mp hp).elim (fun h => ⟨List.mem_append_left _ h, npre p h⟩) fun h => ⟨List.mem_append_right _ (.tail _ h), npost p h⟩
  refine C.use (news := pre ++ post) B₁ F₁ (XB.keeps B₁.stays) (fun p hp => ⟨(N p (nr p hp).1).1, (N p (nr p hp).1).2.1, nn _ (N p (nr p hp).1).2.2 (nr p hp).2⟩) (TB.keeps B₁.stays) hk hd hun fun r h' tk' F9 N9 O9 => ?_
  obtain ⟨Fs, _, nL, ns⟩ := H.back T₁ F9
  refine ret r h' tk' Fs ?_ O9
  intro p hp
  rcases List.mem_append.mp hp with hp | hp
  · have q := N9 p (List.mem_append_left _ hp)
    exact ⟨q.1, q.2.1, ns _ q.2.2⟩
  rcases List.mem_cons.mp hp with rfl | hp
  · exact ⟨F9.keep _ _ at₁, nL, H.none_⟩
  · have q := N9 p (List.mem_append_right _ hp)
    exact ⟨q.1, q.2.1, ns _ q.2.2⟩
end
def LeaveF (h₀ : Heap) (L : Addr) (m : Str → Option Value) (news : List (Addr × Obj)) (small : Heap) (oL : Obj) (R : Result → Shared → Prop) (v : Value) (s' : Shared) : Prop :=
  ∃ L' m' o' all, Fr small L' s'.heap m' ∧ News small L' s'.heap all ∧ (L, o') ∈ all ∧ UpS oL o' ∧ (Fr h₀ L s'.heap m → News h₀ L s'.heap news → R (.ok (.ret v)) s')
section
variable {prog : Program} {w : World} {A₀ A : Around} {s : Shared} {h₀ : Heap} {env : Env} {L : Addr} {m : Str → Option Value} {news : List (Addr × Obj)} {K : Frag} {p : Program} {loose : List Str} {mean : ExcName → Option Value} {mg mb : Str → Option Value}
    {R : Result → Shared → Prop} {name qual : Str} {params : Arguments} {body : List Stmt} {scope : Scope} {dV kV doc pm cdv ct oc : Value} {an od : Option Addr} {osl : Array (Option Value)} {f : Addr} {args : Args} {binds : List (Str × Value)}
theorem enterF (hB0 : Below A₀ h₀ [] h₀) (F : Fr h₀ L s.heap m) (X₀ : K.In h₀) (N : News h₀ L s.heap news) (T : Top p loose mean mg mb h₀) (hA : A.frames = some [env]) (hf : env.frame = some L) (hke : env.scope.kind = .function)
    (ho : K.lookup f = some ⟨oc, od, .func (fnOf name qual params body scope dV kV doc pm an cdv ct), osl⟩) (hcd : codeIn K cdv qual = true) (hroom : A.depth < recursionLimit)
    (hbind : BindsTo s (fnOf name qual params body scope dV kV doc pm an cdv ct) args binds) (hloc : ∀ y ∈ binds, scope.names.lookup y.1 = some .local)
    (h : ∀ g small oL L' h₁, K.In h₀ → Top p loose mean mg mb h₀ → LF A h₀ env L oL g small → Fr small L' h₁ (fun y => binds.reverse.lookup y) → News small L' h₁ [(L, oL)] → K.In small → Top p loose mean mg mb small → L < L' →
      wpAny (model prog w) (A.deeper (envOf qual scope L' f cdv)) (execs body (envOf qual scope L' f cdv))
        (fun fl s' => LeaveF h₀ L m news small oL R (match fl with | .ret v => v | _ => .none) s')
        (fun e s' => wpAny (model prog w) (A.deeper (envOf qual scope L' f cdv)) (leaving (envOf qual scope L' f cdv) e) (fun _ s'' => R (.error e) s'') (fun e' s'' => R (.error e') s'') s')
        { s with heap := h₁, toks := s.toks + binds.length })
    (hco : scope.isCoroutine = false) (hgen : scope.isGenerator = false) (hk : scope.kind = .function)
    (hcell : ∀ x ∈ scope.names, x.2 ≠ .cell) : codeAny (model prog w) A (.call (.ref f) args) R s := by
  have X := X₀.keeps F.keep
  have nL₀ : h₀.get? L = none := kts_self F
  obtain ⟨oL, es, ep, hL, hLd, hLk, hLf⟩ := F.ns
  refine codeAny_call_def (fd := fnOf name qual params body scope dV kV doc pm an cdv ct) (body := body) (binds := binds) hroom (X _ _ ho) rfl (T.nolimit.keeps F.keep) (codeRec_of X hcd) rfl hbind hcell hloc (fun h₁ hns hk₁ => ?_) hco hgen hk
  have H : LF A h₀ env L oL s.heap (hideAll s.heap [L]) := ⟨⟨hA, F.keep, .cons (by rw [hke]; decide) hf F.ns nL₀ trivial⟩, hf, hL, ⟨es, ep, hLd⟩, rfl⟩
  refine wpAny_mono (h s.heap _ oL s.heap.objs.size h₁ X₀ T H ⟨hns, fun b o e => hk₁ b o (H.get e).1, Nat.le_of_eq H.size⟩ (fun q hq => by
    rw [List.mem_singleton.mp hq]
    exact ⟨hk₁ _ _ hL, Nat.ne_of_lt (Heap.lt_size hL), H.none_⟩) (X₀.keeps H.stays) (T.keeps H.stays) (Heap.lt_size hL)) (fun fl s' hl => ?_) fun _ _ y => y
  obtain ⟨L', m', o', all, F', N', hm, ⟨sl, rfl⟩, k⟩ := hl
  have up : ∀ b o, s.heap.get? b = some o → b ≠ L → s'.heap.get? b = some o := fun b o e n => F'.keep _ _ (H.put e n)
  exact k ⟨⟨_, es, ep, (N' _ hm).1, hLd, hLk, hLf⟩, fun b o e => up b o (F.keep _ _ e) (fun q => by rw [q, nL₀] at e; cases e), F.above⟩ fun q hq => ⟨up _ _ (N q hq).1 (N q hq).2.1, (N q hq).2.1, (N q hq).2.2⟩
end

end
end Mine

namespace Mine
section
local macro_rules | `(tactic| k_room) => `(tactic| ktr_room)
theorem outUm {H n x : Int} {t : Tok} (h0 : -H ≤ n) (h1 : n < H) (e : x = n.fmod (2 * H)) : OutU H n (.int x t) := by
  rw [Int.fmod_eq_emod_of_nonneg _ (by omega)] at e
  by_cases h : 0 ≤ n
  · exact outU1 h h1 (by rw [e]; exact Int.emod_eq_of_lt h (by omega))
  · refine outU2 h0 (by omega) ?_
    rw [e, ← Int.add_emod_right]
    exact Int.emod_eq_of_lt (by omega) (by omega)

theorem p7 : (2:Int) ^ ((8:Int) - 1).toNat = 128 := by decide
theorem p15 : (2:Int) ^ ((16:Int) - 1).toNat = 32768 := by decide
theorem c_twos (w : World) (mean : ExcName → Option Value) (mg mb : Str → Option Value) (W H n : Int) (t1 t : Tok) (hW : (W = 8 ∧ H = 128) ∨ (W = 16 ∧ H = 32768)) :
   TellK w mean mg mb 73 [.int W t1, .int n t] (OutS H n) := by
  have hk0 : PySem.Challenge.rw_aa6021_01 = PySem.Challenge.rw_aa6021_01 ∧ hd.heap_39 = hd.heap_39 := by
    k_fill
    exact ⟨rfl, rfl⟩
  clear hk0
  intro dp un gd cn cs a ccd cl outer A₀ base h₀ L m news s Q E B F X N T hk hdp hun hret
  rcases hW with ⟨rfl, rfl⟩ | ⟨rfl, rfl⟩
  all_goals (
    refine wpAny_call ?_
    k_dflt ((refine' enterK ?k1 ?k2 ?k3 ?k4 ?k5 ?kA ?kF ?kK ?k6 ?k7 ?k8 ?k9 ?kB ?_ ?c2 ?c3 ?c4 ?c5; (case kA => exact rfl); (case kF => exact rfl); (case kK => assumption); (case k1 => k_asm); (case k2 => k_asm); (case k3 => k_asm); (case k4 => k_asm); (case k5 => k_asm); (case k6 => k_is); (case k7 => k_is); (case k8 => ktr_room); (case k9 => exact BindsTo.of_eq rfl); (case c5 => decide); (case kB => exact locs rfl); (case c2 => exact rfl); (case c3 => exact rfl); (case c4 => exact rfl); k_whole; intro g' L' h' hG F' N' B' X' T'; (try dsimp only); (try k_lift B'); (try k_fold)))
    k_steps
    all_goals ((refine' hret _ _ _ ?e1 ?e2 ?e3; (case e1 => k_asm); (case e2 => k_asm); (case e3 => (try simp only [p7, p15, ge_iff_le, gt_iff_lt, decide_eq_true_eq, decide_eq_false_iff_not, Bool.not_eq_true, Bool.not_eq_false] at *); (first | exact outS1 (by omega) (by omega) (by omega) | exact outS2 (by omega) (by omega) (by omega) | exact outS3 (by omega) | exact outUm (by omega) (by omega) (by rfl) | exact outU1 (by omega) (by omega) (by omega) | exact outU2 (by omega) (by omega) (by omega) | exact outU3 (by omega))))))
theorem c_back (w : World) (mean : ExcName → Option Value) (mg mb : Str → Option Value) (W H n : Int) (t1 t : Tok) (hW : (W = 8 ∧ H = 128) ∨ (W = 16 ∧ H = 32768)) :
   TellK w mean mg mb 80 [.int W t1, .int n t] (OutU H n) := by
  have hk0 : PySem.Challenge.rw_aa6021_01 = PySem.Challenge.rw_aa6021_01 ∧ hd.heap_39 = hd.heap_39 := by
    k_fill
    exact ⟨rfl, rfl⟩
  clear hk0
  intro dp un gd cn cs a ccd cl outer A₀ base h₀ L m news s Q E B F X N T hk hdp hun hret
  rcases hW with ⟨rfl, rfl⟩ | ⟨rfl, rfl⟩
  all_goals (
    refine wpAny_call ?_
    k_dflt ((refine' enterK ?k1 ?k2 ?k3 ?k4 ?k5 ?kA ?kF ?kK ?k6 ?k7 ?k8 ?k9 ?kB ?_ ?c2 ?c3 ?c4 ?c5; (case kA => exact rfl); (case kF => exact rfl); (case kK => assumption); (case k1 => k_asm); (case k2 => k_asm); (case k3 => k_asm); (case k4 => k_asm); (case k5 => k_asm); (case k6 => k_is); (case k7 => k_is); (case k8 => ktr_room); (case k9 => exact BindsTo.of_eq rfl); (case c5 => decide); (case kB => exact locs rfl); (case c2 => exact rfl); (case c3 => exact rfl); (case c4 => exact rfl); k_whole; intro g' L' h' hG F' N' B' X' T'; (try dsimp only); (try k_lift B'); (try k_fold)))
    k_steps
    all_goals ((refine' hret _ _ _ ?e1 ?e2 ?e3; (case e1 => k_asm); (case e2 => k_asm); (case e3 => (try simp only [p7, p15, ge_iff_le, gt_iff_lt, decide_eq_true_eq, decide_eq_false_iff_not, Bool.not_eq_true, Bool.not_eq_false] at *); (first | exact outS1 (by omega) (by omega) (by omega) | exact outS2 (by omega) (by omega) (by omega) | exact outS3 (by omega) | exact outUm (by omega) (by omega) (by rfl) | exact outU1 (by omega) (by omega) (by omega) | exact outU2 (by omega) (by omega) (by omega) | exact outU3 (by omega))))))

end
end Mine

namespace Mine
section
local macro_rules | `(tactic| k_room) => `(tactic| ktr_room)


theorem pL7 : (1:Int) * 2 ^ ((8:Int) - 1).toNat = 128 := by decide
theorem pL15 : (1:Int) * 2 ^ ((16:Int) - 1).toNat = 32768 := by decide
local macro_rules | `(tactic| walk_at "ite") => `(tactic| ((with_reducible show @ite Prop ((PySem.Spec.lookup _ _).isSome = true) _ _ _); first | refine ite_pos (by with_unfolding_all rfl) ?_ | refine ite_neg (by with_unfolding_all exact Bool.false_ne_true) ?_))
local macro_rules | `(tactic| walk_at "storeName int") => `(tactic| first | rw [pL7] | rw [pL15] | rw [p7] | rw [p15])
theorem c_word (w : World) (mean : ExcName → Option Value) (mg mb : Str → Option Value) (x : Str) (H n : Int) (t1 t : Tok) (hx : (x = "byte" ∧ H = 128) ∨ (x = "short" ∧ H = 32768)) :
   TellS w mean mg mb 87 [.str x t1, .int n t] (OutS H n) := by
  have hk0 : PySem.Challenge.rw_aa6021_01 = PySem.Challenge.rw_aa6021_01 ∧ hd.heap_39 = hd.heap_39 := by
    k_fill
    exact ⟨rfl, rfl⟩
  clear hk0
  intro dp un gd cn cs a ccd cl outer A₀ base h₀ L m news s Q E B F X N T XB TB D hk hdp hun hret
  rcases hx with ⟨rfl, rfl⟩ | ⟨rfl, rfl⟩
  all_goals (
    refine wpAny_call ?_
    k_dflt ((refine' enterS ?k1 ?k2 ?k3 ?k4 ?k5 ?XB ?TB ?D ?kA ?kF ?kK ?k6 ?k7 ?k8 ?k9 ?kB ?_ ?c2 ?c3 ?c4 ?c5; (case kA => exact rfl); (case kF => exact rfl); (case kK => assumption); (case k1 => k_asm); (case k2 => k_asm); (case XB => assumption); (case TB => assumption); (case D => assumption); (case k3 => k_asm); (case k4 => k_asm); (case k5 => k_asm); (case k6 => k_is); (case k7 => k_is); (case k8 => ktr_room); (case k9 => exact BindsTo.of_eq rfl); (case c5 => decide); (case kB => exact locs rfl); (case c2 => exact rfl); (case c3 => exact rfl); (case c4 => exact rfl); k_whole; intro g' L' h' hG XB' TB' F' N' B' X' T' D'; (try dsimp only); (try k_lift B'); (try k_fold)))
    k_steps
    all_goals ((rename_i h9 T9 F9 N9 B9 X9 P9 D9; refine' hret _ _ _ _ T9 F9 N9 B9 X9 P9 D9 ?_; (((have e7 := p7); (have e15 := p15); first | (first | exact outS1 (by omega) (by omega) (by omega) | exact outS2 (by omega) (by omega) (by omega) | exact outS3 (by omega) | exact outUm (by omega) (by omega) (by rfl) | exact outU1 (by omega) (by omega) (by omega) | exact outU2 (by omega) (by omega) (by omega) | exact outU3 (by omega)) | ((simp only [p7, p15, ge_iff_le, gt_iff_lt, decide_eq_true_eq, decide_eq_false_iff_not, Bool.not_eq_true, Bool.not_eq_false] at *); (first | exact outS1 (by omega) (by omega) (by omega) | exact outS2 (by omega) (by omega) (by omega) | exact outS3 (by omega) | exact outUm (by omega) (by omega) (by rfl) | exact outU1 (by omega) (by omega) (by omega) | exact outU2 (by omega) (by omega) (by omega) | exact outU3 (by omega))))))))
theorem c_wordU (w : World) (mean : ExcName → Option Value) (mg mb : Str → Option Value) (x : Str) (H n : Int) (t1 t : Tok) (hx : (x = "ubyte" ∧ H = 128) ∨ (x = "ushort" ∧ H = 32768)) :
   TellS w mean mg mb 87 [.str x t1, .int n t] (OutU H n) := by
  have hk0 : PySem.Challenge.rw_aa6021_01 = PySem.Challenge.rw_aa6021_01 ∧ hd.heap_39 = hd.heap_39 := by
    k_fill
    exact ⟨rfl, rfl⟩
  clear hk0
  intro dp un gd cn cs a ccd cl outer A₀ base h₀ L m news s Q E B F X N T XB TB D hk hdp hun hret
  rcases hx with ⟨rfl, rfl⟩ | ⟨rfl, rfl⟩
  all_goals (
    refine wpAny_call ?_
    k_dflt ((refine' enterS ?k1 ?k2 ?k3 ?k4 ?k5 ?XB ?TB ?D ?kA ?kF ?kK ?k6 ?k7 ?k8 ?k9 ?kB ?_ ?c2 ?c3 ?c4 ?c5; (case kA => exact rfl); (case kF => exact rfl); (case kK => assumption); (case k1 => k_asm); (case k2 => k_asm); (case XB => assumption); (case TB => assumption); (case D => assumption); (case k3 => k_asm); (case k4 => k_asm); (case k5 => k_asm); (case k6 => k_is); (case k7 => k_is); (case k8 => ktr_room); (case k9 => exact BindsTo.of_eq rfl); (case c5 => decide); (case kB => exact locs rfl); (case c2 => exact rfl); (case c3 => exact rfl); (case c4 => exact rfl); k_whole; intro g' L' h' hG XB' TB' F' N' B' X' T' D'; (try dsimp only); (try k_lift B'); (try k_fold)))
    k_steps
    all_goals ((rename_i h9 T9 F9 N9 B9 X9 P9 D9; refine' hret _ _ _ _ T9 F9 N9 B9 X9 P9 D9 ?_; (((have e7 := p7); (have e15 := p15); first | (first | exact outS1 (by omega) (by omega) (by omega) | exact outS2 (by omega) (by omega) (by omega) | exact outS3 (by omega) | exact outUm (by omega) (by omega) (by rfl) | exact outU1 (by omega) (by omega) (by omega) | exact outU2 (by omega) (by omega) (by omega) | exact outU3 (by omega)) | ((simp only [p7, p15, ge_iff_le, gt_iff_lt, decide_eq_true_eq, decide_eq_false_iff_not, Bool.not_eq_true, Bool.not_eq_false] at *); (first | exact outS1 (by omega) (by omega) (by omega) | exact outS2 (by omega) (by omega) (by omega) | exact outS3 (by omega) | exact outUm (by omega) (by omega) (by rfl) | exact outU1 (by omega) (by omega) (by omega) | exact outU2 (by omega) (by omega) (by omega) | exact outU3 (by omega))))))))
theorem c_wordL (w : World) (mean : ExcName → Option Value) (mg mb : Str → Option Value) (n : Int) (t1 t : Tok) :
   TellS w mean mg mb 87 [.str "long" t1, .int n t] (fun r => r = .none) := by
  have hk0 : PySem.Challenge.rw_aa6021_01 = PySem.Challenge.rw_aa6021_01 ∧ hd.heap_39 = hd.heap_39 := by
    k_fill
    exact ⟨rfl, rfl⟩
  clear hk0
  intro dp un gd cn cs a ccd cl outer A₀ base h₀ L m news s Q E B F X N T XB TB D hk hdp hun hret
  refine wpAny_call ?_
  k_dflt ((refine' enterS ?k1 ?k2 ?k3 ?k4 ?k5 ?XB ?TB ?D ?kA ?kF ?kK ?k6 ?k7 ?k8 ?k9 ?kB ?_ ?c2 ?c3 ?c4 ?c5; (case kA => exact rfl); (case kF => exact rfl); (case kK => assumption); (case k1 => k_asm); (case k2 => k_asm); (case XB => assumption); (case TB => assumption); (case D => assumption); (case k3 => k_asm); (case k4 => k_asm); (case k5 => k_asm); (case k6 => k_is); (case k7 => k_is); (case k8 => ktr_room); (case k9 => exact BindsTo.of_eq rfl); (case c5 => decide); (case kB => exact locs rfl); (case c2 => exact rfl); (case c3 => exact rfl); (case c4 => exact rfl); k_whole; intro g' L' h' hG XB' TB' F' N' B' X' T' D'; (try dsimp only); (try k_lift B'); (try k_fold)))
  k_steps
  all_goals (rename_i h9 T9 F9 N9 B9 X9 P9 D9; exact hret _ _ _ _ T9 F9 N9 B9 X9 P9 D9 rfl)
theorem c_other (w : World) (mean : ExcName → Option Value) (mg mb : Str → Option Value) (x : Str) (H n : Int) (t1 t : Tok) (hx : (x = "byte" ∧ H = 128) ∨ (x = "short" ∧ H = 32768)) :
   TellS w mean mg mb 94 [.str x t1, .int n t] (OutU H n) := by
  have hk0 : PySem.Challenge.rw_aa6021_01 = PySem.Challenge.rw_aa6021_01 ∧ hd.heap_39 = hd.heap_39 := by
    k_fill
    exact ⟨rfl, rfl⟩
  clear hk0
  intro dp un gd cn cs a ccd cl outer A₀ base h₀ L m news s Q E B F X N T XB TB D hk hdp hun hret
  rcases hx with ⟨rfl, rfl⟩ | ⟨rfl, rfl⟩
  all_goals (
    refine wpAny_call ?_
    k_dflt ((refine' enterS ?k1 ?k2 ?k3 ?k4 ?k5 ?XB ?TB ?D ?kA ?kF ?kK ?k6 ?k7 ?k8 ?k9 ?kB ?_ ?c2 ?c3 ?c4 ?c5; (case kA => exact rfl); (case kF => exact rfl); (case kK => assumption); (case k1 => k_asm); (case k2 => k_asm); (case XB => assumption); (case TB => assumption); (case D => assumption); (case k3 => k_asm); (case k4 => k_asm); (case k5 => k_asm); (case k6 => k_is); (case k7 => k_is); (case k8 => ktr_room); (case k9 => exact BindsTo.of_eq rfl); (case c5 => decide); (case kB => exact locs rfl); (case c2 => exact rfl); (case c3 => exact rfl); (case c4 => exact rfl); k_whole; intro g' L' h' hG XB' TB' F' N' B' X' T' D'; (try dsimp only); (try k_lift B'); (try k_fold)))
    k_steps
    all_goals ((rename_i h9 T9 F9 N9 B9 X9 P9 D9; refine' hret _ _ _ _ T9 F9 N9 B9 X9 P9 D9 ?_; (((have e7 := p7); (have e15 := p15); first | (first | exact outS1 (by omega) (by omega) (by omega) | exact outS2 (by omega) (by omega) (by omega) | exact outS3 (by omega) | exact outUm (by omega) (by omega) (by rfl) | exact outU1 (by omega) (by omega) (by omega) | exact outU2 (by omega) (by omega) (by omega) | exact outU3 (by omega)) | ((simp only [p7, p15, ge_iff_le, gt_iff_lt, decide_eq_true_eq, decide_eq_false_iff_not, Bool.not_eq_true, Bool.not_eq_false] at *); (first | exact outS1 (by omega) (by omega) (by omega) | exact outS2 (by omega) (by omega) (by omega) | exact outS3 (by omega) | exact outUm (by omega) (by omega) (by rfl) | exact outU1 (by omega) (by omega) (by omega) | exact outU2 (by omega) (by omega) (by omega) | exact outU3 (by omega))))))))
theorem c_otherN (w : World) (mean : ExcName → Option Value) (mg mb : Str → Option Value) (n : Int) (t1 t : Tok) :
   TellS w mean mg mb 94 [.str "ubyte" t1, .int n t] (fun r => r = .none) := by
  have hk0 : PySem.Challenge.rw_aa6021_01 = PySem.Challenge.rw_aa6021_01 ∧ hd.heap_39 = hd.heap_39 := by
    k_fill
    exact ⟨rfl, rfl⟩
  clear hk0
  intro dp un gd cn cs a ccd cl outer A₀ base h₀ L m news s Q E B F X N T XB TB D hk hdp hun hret
  refine wpAny_call ?_
  k_dflt ((refine' enterS ?k1 ?k2 ?k3 ?k4 ?k5 ?XB ?TB ?D ?kA ?kF ?kK ?k6 ?k7 ?k8 ?k9 ?kB ?_ ?c2 ?c3 ?c4 ?c5; (case kA => exact rfl); (case kF => exact rfl); (case kK => assumption); (case k1 => k_asm); (case k2 => k_asm); (case XB => assumption); (case TB => assumption); (case D => assumption); (case k3 => k_asm); (case k4 => k_asm); (case k5 => k_asm); (case k6 => k_is); (case k7 => k_is); (case k8 => ktr_room); (case k9 => exact BindsTo.of_eq rfl); (case c5 => decide); (case kB => exact locs rfl); (case c2 => exact rfl); (case c3 => exact rfl); (case c4 => exact rfl); k_whole; intro g' L' h' hG XB' TB' F' N' B' X' T' D'; (try dsimp only); (try k_lift B'); (try k_fold)))
  k_steps
  all_goals (rename_i h9 T9 F9 N9 B9 X9 P9 D9; exact hret _ _ _ _ T9 F9 N9 B9 X9 P9 D9 rfl)
theorem c_signed (w : World) (mean : ExcName → Option Value) (mg mb : Str → Option Value) (x : Str) (H n : Int) (t1 t : Tok) (hx : (x = "byte" ∧ H = 128) ∨ (x = "short" ∧ H = 32768)) (h0 : 0 ≤ n) (h1 : n < 2 * H) :
   TellK w mean mg mb 21 [.str x t1, .int n t] (OutS H n) := by
  have hk0 : PySem.Challenge.rw_aa6021_01 = PySem.Challenge.rw_aa6021_01 ∧ hd.heap_39 = hd.heap_39 := by
    k_fill
    exact ⟨rfl, rfl⟩
  clear hk0
  intro dp un gd cn cs a ccd cl outer A₀ base h₀ L m news s Q E B F X N T hk hdp hun hret
  rcases hx with ⟨rfl, rfl⟩ | ⟨rfl, rfl⟩
  all_goals (
    refine wpAny_call ?_
    k_dflt ((refine' enterK ?k1 ?k2 ?k3 ?k4 ?k5 ?kA ?kF ?kK ?k6 ?k7 ?k8 ?k9 ?kB ?_ ?c2 ?c3 ?c4 ?c5; (case kA => exact rfl); (case kF => exact rfl); (case kK => assumption); (case k1 => k_asm); (case k2 => k_asm); (case k3 => k_asm); (case k4 => k_asm); (case k5 => k_asm); (case k6 => k_is); (case k7 => k_is); (case k8 => ktr_room); (case k9 => exact BindsTo.of_eq rfl); (case c5 => decide); (case kB => exact locs rfl); (case c2 => exact rfl); (case c3 => exact rfl); (case c4 => exact rfl); k_whole; intro g' L' h' hG F' N' B' X' T'; (try dsimp only); (try k_lift B'); (try k_fold)))
    k_steps
    all_goals (refine' hret _ _ _ ?e1 ?e2 ?e3; (case e1 => k_asm); (case e2 => k_asm); (case e3 => (((have e7 := p7); (have e15 := p15); first | (first | exact outS1 (by omega) (by omega) (by omega) | exact outS2 (by omega) (by omega) (by omega) | exact outS3 (by omega) | exact outUm (by omega) (by omega) (by rfl) | exact outU1 (by omega) (by omega) (by omega) | exact outU2 (by omega) (by omega) (by omega) | exact outU3 (by omega)) | ((simp only [p7, p15, ge_iff_le, gt_iff_lt, decide_eq_true_eq, decide_eq_false_iff_not, Bool.not_eq_true, Bool.not_eq_false] at *); (first | exact outS1 (by omega) (by omega) (by omega) | exact outS2 (by omega) (by omega) (by omega) | exact outS3 (by omega) | exact outUm (by omega) (by omega) (by rfl) | exact outU1 (by omega) (by omega) (by omega) | exact outU2 (by omega) (by omega) (by omega) | exact outU3 (by omega))))))))
theorem c_unsigned (w : World) (mean : ExcName → Option Value) (mg mb : Str → Option Value) (x : Str) (H n : Int) (t1 t : Tok) (hx : (x = "byte" ∧ H = 128) ∨ (x = "short" ∧ H = 32768)) (h0 : -H ≤ n) (h1 : n < H) :
   TellK w mean mg mb 28 [.str x t1, .int n t] (OutU H n) := by
  have hk0 : PySem.Challenge.rw_aa6021_01 = PySem.Challenge.rw_aa6021_01 ∧ hd.heap_39 = hd.heap_39 := by
    k_fill
    exact ⟨rfl, rfl⟩
  clear hk0
  intro dp un gd cn cs a ccd cl outer A₀ base h₀ L m news s Q E B F X N T hk hdp hun hret
  rcases hx with ⟨rfl, rfl⟩ | ⟨rfl, rfl⟩
  all_goals (
    refine wpAny_call ?_
    k_dflt ((refine' enterK ?k1 ?k2 ?k3 ?k4 ?k5 ?kA ?kF ?kK ?k6 ?k7 ?k8 ?k9 ?kB ?_ ?c2 ?c3 ?c4 ?c5; (case kA => exact rfl); (case kF => exact rfl); (case kK => assumption); (case k1 => k_asm); (case k2 => k_asm); (case k3 => k_asm); (case k4 => k_asm); (case k5 => k_asm); (case k6 => k_is); (case k7 => k_is); (case k8 => ktr_room); (case k9 => exact BindsTo.of_eq rfl); (case c5 => decide); (case kB => exact locs rfl); (case c2 => exact rfl); (case c3 => exact rfl); (case c4 => exact rfl); k_whole; intro g' L' h' hG F' N' B' X' T'; (try dsimp only); (try k_lift B'); (try k_fold)))
    k_steps
    all_goals (refine' hret _ _ _ ?e1 ?e2 ?e3; (case e1 => k_asm); (case e2 => k_asm); (case e3 => (((have e7 := p7); (have e15 := p15); first | (first | exact outS1 (by omega) (by omega) (by omega) | exact outS2 (by omega) (by omega) (by omega) | exact outS3 (by omega) | exact outUm (by omega) (by omega) (by rfl) | exact outU1 (by omega) (by omega) (by omega) | exact outU2 (by omega) (by omega) (by omega) | exact outU3 (by omega)) | ((simp only [p7, p15, ge_iff_le, gt_iff_lt, decide_eq_true_eq, decide_eq_false_iff_not, Bool.not_eq_true, Bool.not_eq_false] at *); (first | exact outS1 (by omega) (by omega) (by omega) | exact outS2 (by omega) (by omega) (by omega) | exact outS3 (by omega) | exact outUm (by omega) (by omega) (by rfl) | exact outU1 (by omega) (by omega) (by omega) | exact outU2 (by omega) (by omega) (by omega) | exact outU3 (by omega))))))))

end
end Mine

namespace Mine
section
local macro_rules | `(tactic| k_room) => `(tactic| ktr_room)
local macro_rules | `(tactic| walk_at "ite") => `(tactic| ((with_reducible show @ite Prop ((PySem.Spec.lookup _ _).isSome = true) _ _ _); first | refine ite_pos (by with_unfolding_all rfl) ?_ | refine ite_neg (by with_unfolding_all exact Bool.false_ne_true) ?_))
local macro_rules | `(tactic| walk_at "storeName int") => `(tactic| first | rw [pL7] | rw [pL15] | rw [p7] | rw [p15])
local macro_rules | `(tactic| walk_at "call ref") => `(tactic| (k_here; (with_reducible show wpAny _ _ (call (Value.ref 73) _) _ _ _); k_dflt ((first | ((refine' TellK.useF (c_twos _ _ _ _ 8 128 _ _ _ (by (first | exact .inl ⟨rfl, rfl⟩ | exact .inr ⟨rfl, rfl⟩))) ?kH ?k2 ?k4 ?XB ?TB ?U ?hu ?kK ?kd ?ku ?_; (case kH => assumption); (case k2 => k_asm); (case k4 => k_asm); (case XB => assumption); (case TB => assumption); (case U => k_updF); (case hu => first | assumption | exact UpS.refl); (case kK => first | exact rfl | assumption); (case kd => ktr_room); (case ku => ktr_units); intro r9 h9 tk9 F9 N9 O9)) | ((refine' TellK.useF (c_twos _ _ _ _ 16 32768 _ _ _ (by (first | exact .inl ⟨rfl, rfl⟩ | exact .inr ⟨rfl, rfl⟩))) ?kH ?k2 ?k4 ?XB ?TB ?U ?hu ?kK ?kd ?ku ?_; (case kH => assumption); (case k2 => k_asm); (case k4 => k_asm); (case XB => assumption); (case TB => assumption); (case U => k_updF); (case hu => first | assumption | exact UpS.refl); (case kK => first | exact rfl | assumption); (case kd => ktr_room); (case ku => ktr_units); intro r9 h9 tk9 F9 N9 O9))); (((rename_i O9; rcases O9 with ⟨t9, a9, b9, e9⟩ | ⟨t9, a9, b9, e9⟩ | ⟨a9, e9⟩); all_goals first | (exfalso; omega) | ((rename_i e9; subst e9); (try dsimp only); (try k_fold)))))))
local macro_rules | `(tactic| walk_at "call ref") => `(tactic| (k_here; (with_reducible show wpAny _ _ (call (Value.ref 80) _) _ _ _); k_dflt ((first | ((refine' TellK.useF (c_back _ _ _ _ 8 128 _ _ _ (by (first | exact .inl ⟨rfl, rfl⟩ | exact .inr ⟨rfl, rfl⟩))) ?kH ?k2 ?k4 ?XB ?TB ?U ?hu ?kK ?kd ?ku ?_; (case kH => assumption); (case k2 => k_asm); (case k4 => k_asm); (case XB => assumption); (case TB => assumption); (case U => k_updF); (case hu => first | assumption | exact UpS.refl); (case kK => first | exact rfl | assumption); (case kd => ktr_room); (case ku => ktr_units); intro r9 h9 tk9 F9 N9 O9)) | ((refine' TellK.useF (c_back _ _ _ _ 16 32768 _ _ _ (by (first | exact .inl ⟨rfl, rfl⟩ | exact .inr ⟨rfl, rfl⟩))) ?kH ?k2 ?k4 ?XB ?TB ?U ?hu ?kK ?kd ?ku ?_; (case kH => assumption); (case k2 => k_asm); (case k4 => k_asm); (case XB => assumption); (case TB => assumption); (case U => k_updF); (case hu => first | assumption | exact UpS.refl); (case kK => first | exact rfl | assumption); (case kd => ktr_room); (case ku => ktr_units); intro r9 h9 tk9 F9 N9 O9))); (((rename_i O9; rcases O9 with ⟨t9, a9, b9, e9⟩ | ⟨t9, a9, b9, e9⟩ | ⟨a9, e9⟩); all_goals first | (exfalso; omega) | ((rename_i e9; subst e9); (try dsimp only); (try k_fold)))))))
local macro_rules | `(tactic| walk_at "call ref") => `(tactic| (k_here; (with_reducible show wpAny _ _ (call (Value.ref 87) _) _ _ _); k_dflt ((first | ((refine' TellS.useF (c_word _ _ _ _ "byte" 128 _ _ _ (by (first | exact .inl ⟨rfl, rfl⟩ | exact .inr ⟨rfl, rfl⟩))) ?kH ?k2 ?k4 ?XB ?TB ?U ?hu ?kK ?kd ?ku ?_; (case kH => assumption); (case k2 => k_asm); (case k4 => k_asm); (case XB => assumption); (case TB => assumption); (case U => k_updF); (case hu => first | assumption | exact UpS.refl); (case kK => first | exact rfl | assumption); (case kd => ktr_room); (case ku => ktr_units); intro r9 h9 tk9 o9 U9 F9 N9; (try dsimp only at N9); intro O9)) | ((refine' TellS.useF (c_word _ _ _ _ "short" 32768 _ _ _ (by (first | exact .inl ⟨rfl, rfl⟩ | exact .inr ⟨rfl, rfl⟩))) ?kH ?k2 ?k4 ?XB ?TB ?U ?hu ?kK ?kd ?ku ?_; (case kH => assumption); (case k2 => k_asm); (case k4 => k_asm); (case XB => assumption); (case TB => assumption); (case U => k_updF); (case hu => first | assumption | exact UpS.refl); (case kK => first | exact rfl | assumption); (case kd => ktr_room); (case ku => ktr_units); intro r9 h9 tk9 o9 U9 F9 N9; (try dsimp only at N9); intro O9)) | ((refine' TellS.useF (c_wordU _ _ _ _ "ubyte" 128 _ _ _ (by (first | exact .inl ⟨rfl, rfl⟩ | exact .inr ⟨rfl, rfl⟩))) ?kH ?k2 ?k4 ?XB ?TB ?U ?hu ?kK ?kd ?ku ?_; (case kH => assumption); (case k2 => k_asm); (case k4 => k_asm); (case XB => assumption); (case TB => assumption); (case U => k_updF); (case hu => first | assumption | exact UpS.refl); (case kK => first | exact rfl | assumption); (case kd => ktr_room); (case ku => ktr_units); intro r9 h9 tk9 o9 U9 F9 N9; (try dsimp only at N9); intro O9)) | ((refine' TellS.useF (c_wordU _ _ _ _ "ushort" 32768 _ _ _ (by (first | exact .inl ⟨rfl, rfl⟩ | exact .inr ⟨rfl, rfl⟩))) ?kH ?k2 ?k4 ?XB ?TB ?U ?hu ?kK ?kd ?ku ?_; (case kH => assumption); (case k2 => k_asm); (case k4 => k_asm); (case XB => assumption); (case TB => assumption); (case U => k_updF); (case hu => first | assumption | exact UpS.refl); (case kK => first | exact rfl | assumption); (case kd => ktr_room); (case ku => ktr_units); intro r9 h9 tk9 o9 U9 F9 N9; (try dsimp only at N9); intro O9))); (((rename_i O9; rcases O9 with ⟨t9, a9, b9, e9⟩ | ⟨t9, a9, b9, e9⟩ | ⟨a9, e9⟩); all_goals first | (exfalso; omega) | ((rename_i e9; subst e9); (try dsimp only); (try k_fold)))))))
local macro_rules | `(tactic| walk_at "call ref") => `(tactic| (k_here; (with_reducible show wpAny _ _ (call (Value.ref 94) _) _ _ _); k_dflt ((first | ((refine' TellS.useF (c_other _ _ _ _ "byte" 128 _ _ _ (by (first | exact .inl ⟨rfl, rfl⟩ | exact .inr ⟨rfl, rfl⟩))) ?kH ?k2 ?k4 ?XB ?TB ?U ?hu ?kK ?kd ?ku ?_; (case kH => assumption); (case k2 => k_asm); (case k4 => k_asm); (case XB => assumption); (case TB => assumption); (case U => k_updF); (case hu => first | assumption | exact UpS.refl); (case kK => first | exact rfl | assumption); (case kd => ktr_room); (case ku => ktr_units); intro r9 h9 tk9 o9 U9 F9 N9; (try dsimp only at N9); intro O9)) | ((refine' TellS.useF (c_other _ _ _ _ "short" 32768 _ _ _ (by (first | exact .inl ⟨rfl, rfl⟩ | exact .inr ⟨rfl, rfl⟩))) ?kH ?k2 ?k4 ?XB ?TB ?U ?hu ?kK ?kd ?ku ?_; (case kH => assumption); (case k2 => k_asm); (case k4 => k_asm); (case XB => assumption); (case TB => assumption); (case U => k_updF); (case hu => first | assumption | exact UpS.refl); (case kK => first | exact rfl | assumption); (case kd => ktr_room); (case ku => ktr_units); intro r9 h9 tk9 o9 U9 F9 N9; (try dsimp only at N9); intro O9))); (((rename_i O9; rcases O9 with ⟨t9, a9, b9, e9⟩ | ⟨t9, a9, b9, e9⟩ | ⟨a9, e9⟩); all_goals first | (exfalso; omega) | ((rename_i e9; subst e9); (try dsimp only); (try k_fold)))))))
local macro_rules | `(tactic| walk_at "call ref") => `(tactic| (k_here; (with_reducible show wpAny _ _ (call (Value.ref 87) _) _ _ _); k_dflt ((((refine' TellS.useF (c_wordL _ _ _ _ _ _ _) ?kH ?k2 ?k4 ?XB ?TB ?U ?hu ?kK ?kd ?ku ?_; (case kH => assumption); (case k2 => k_asm); (case k4 => k_asm); (case XB => assumption); (case TB => assumption); (case U => k_updF); (case hu => first | assumption | exact UpS.refl); (case kK => first | exact rfl | assumption); (case kd => ktr_room); (case ku => ktr_units); intro r9 h9 tk9 o9 U9 F9 N9; (try dsimp only at N9); intro O9))); (((rename_i O9; subst O9); (try dsimp only); (try k_fold))))))
local macro_rules | `(tactic| walk_at "call ref") => `(tactic| (k_here; (with_reducible show wpAny _ _ (call (Value.ref 94) _) _ _ _); k_dflt ((((refine' TellS.useF (c_otherN _ _ _ _ _ _ _) ?kH ?k2 ?k4 ?XB ?TB ?U ?hu ?kK ?kd ?ku ?_; (case kH => assumption); (case k2 => k_asm); (case k4 => k_asm); (case XB => assumption); (case TB => assumption); (case U => k_updF); (case hu => first | assumption | exact UpS.refl); (case kK => first | exact rfl | assumption); (case kd => ktr_room); (case ku => ktr_units); intro r9 h9 tk9 o9 U9 F9 N9; (try dsimp only at N9); intro O9))); (((rename_i O9; subst O9); (try dsimp only); (try k_fold))))))
local macro_rules | `(tactic| walk_at "call ref") => `(tactic| (k_here; (with_reducible show wpAny _ _ (call (Value.ref 21) _) _ _ _); k_dflt ((first | ((refine' TellK.useF (c_signed _ _ _ _ "byte" 128 _ _ _ (by (first | exact .inl ⟨rfl, rfl⟩ | exact .inr ⟨rfl, rfl⟩)) (by omega) (by omega)) ?kH ?k2 ?k4 ?XB ?TB ?U ?hu ?kK ?kd ?ku ?_; (case kH => assumption); (case k2 => k_asm); (case k4 => k_asm); (case XB => assumption); (case TB => assumption); (case U => k_updF); (case hu => first | assumption | exact UpS.refl); (case kK => first | exact rfl | assumption); (case kd => ktr_room); (case ku => ktr_units); intro r9 h9 tk9 F9 N9 O9)) | ((refine' TellK.useF (c_signed _ _ _ _ "short" 32768 _ _ _ (by (first | exact .inl ⟨rfl, rfl⟩ | exact .inr ⟨rfl, rfl⟩)) (by omega) (by omega)) ?kH ?k2 ?k4 ?XB ?TB ?U ?hu ?kK ?kd ?ku ?_; (case kH => assumption); (case k2 => k_asm); (case k4 => k_asm); (case XB => assumption); (case TB => assumption); (case U => k_updF); (case hu => first | assumption | exact UpS.refl); (case kK => first | exact rfl | assumption); (case kd => ktr_room); (case ku => ktr_units); intro r9 h9 tk9 F9 N9 O9))); (((rename_i O9; rcases O9 with ⟨t9, a9, b9, e9⟩ | ⟨t9, a9, b9, e9⟩ | ⟨a9, e9⟩); all_goals first | (exfalso; omega) | ((rename_i e9; subst e9); (try dsimp only); (try k_fold)))))))
local macro_rules | `(tactic| walk_at "call ref") => `(tactic| (k_here; (with_reducible show wpAny _ _ (call (Value.ref 28) _) _ _ _); k_dflt ((first | ((refine' TellK.useF (c_unsigned _ _ _ _ "byte" 128 _ _ _ (by (first | exact .inl ⟨rfl, rfl⟩ | exact .inr ⟨rfl, rfl⟩)) (by omega) (by omega)) ?kH ?k2 ?k4 ?XB ?TB ?U ?hu ?kK ?kd ?ku ?_; (case kH => assumption); (case k2 => k_asm); (case k4 => k_asm); (case XB => assumption); (case TB => assumption); (case U => k_updF); (case hu => first | assumption | exact UpS.refl); (case kK => first | exact rfl | assumption); (case kd => ktr_room); (case ku => ktr_units); intro r9 h9 tk9 F9 N9 O9)) | ((refine' TellK.useF (c_unsigned _ _ _ _ "short" 32768 _ _ _ (by (first | exact .inl ⟨rfl, rfl⟩ | exact .inr ⟨rfl, rfl⟩)) (by omega) (by omega)) ?kH ?k2 ?k4 ?XB ?TB ?U ?hu ?kK ?kd ?ku ?_; (case kH => assumption); (case k2 => k_asm); (case k4 => k_asm); (case XB => assumption); (case TB => assumption); (case U => k_updF); (case hu => first | assumption | exact UpS.refl); (case kK => first | exact rfl | assumption); (case kd => ktr_room); (case ku => ktr_units); intro r9 h9 tk9 F9 N9 O9))); (((rename_i O9; rcases O9 with ⟨t9, a9, b9, e9⟩ | ⟨t9, a9, b9, e9⟩ | ⟨a9, e9⟩); all_goals first | (exfalso; omega) | ((rename_i e9; subst e9); (try dsimp only); (try k_fold)))))))
theorem c_number (w : World) (mean : ExcName → Option Value) (mg mb : Str → Option Value) (n : Int) (t : Tok) :
   TellL w mean mg mb 101 (fun _ xs => xs = [.int n t]) (fun r => r = .bool true) := by
  have hk0 : PySem.Challenge.rw_aa6021_01 = PySem.Challenge.rw_aa6021_01 ∧ hd.heap_39 = hd.heap_39 := by
    k_fill
    exact ⟨rfl, rfl⟩
  clear hk0
  intro dp un gd cn cs a ccd cl A₀ h₀ L m news s Q E xs B F X N T hk hdp hun hxs hret
  subst hxs
  refine wpAny_call ?_
  k_dflt ((refine' enterF ?k1 ?k2 ?k3 ?k4 ?k5 ?kA ?kF ?kK ?k6 ?k7 ?k8 ?k9 ?kB ?_ ?c2 ?c3 ?c4 ?c5; (case kA => exact rfl); (case kF => exact rfl); (case kK => assumption); (case k1 => k_asm); (case k2 => k_asm); (case k3 => k_asm); (case k4 => k_asm); (case k5 => k_asm); (case k6 => k_is); (case k7 => k_is); (case k8 => ktr_room); (case k9 => exact BindsTo.of_eq rfl); (case c5 => decide); (case kB => exact locs rfl); (case c2 => exact rfl); (case c3 => exact rfl); (case c4 => exact rfl); k_whole; intro g' sm' oL' L' h' XB' TB' H' F' N' X' T' l1'; (try dsimp only); (try k_fold)))
  k_steps
  all_goals first
    | (exfalso; omega)
    | (refine' ⟨_, _, _, _, ?eF, ?eN, ?eM, ?eU, fun F9 N9 => hret _ _ _ F9 N9 rfl⟩; (case eF => k_asm); (case eN => k_asm); (case eM => k_mem); (case eU => first | assumption | exact UpS.refl))
    | fail "end"

end
end Mine

namespace Mine
section
open PySem.W.KStt (codes)
def Bnd (B : Int) (ns : List Int) : Prop := ∀ n ∈ ns, 0 ≤ n ∧ n ≤ B
theorem codes_app (a b : Str) : codes (a ++ b) = codes a ++ codes b := by
  simp [codes, PySem.Str.cps_append]
theorem join_codes (ns : List Int) (h : ∀ n ∈ ns, 0 ≤ n) : codes (Str.join ⟨#[]⟩ (ns.map fun k => (⟨#[k.toNat]⟩ : Str))) = ns := by
  induction ns with
  | nil => rfl
  | cons n r ih =>
    rw [List.map_cons, join_nil_cons, codes_app, ih fun k hk => h k (.tail _ hk)]
    have : ((n.toNat : Nat) : Int) = n := Int.toNat_of_nonneg (h n (.head _))
    simp [codes, this]
theorem codes_inj {x y : Str} (h : codes x = codes y) : x = y := by rw [← KStt.txt_codes x, ← KStt.txt_codes y, h]
section
variable {prog : Program} {w : World} {A : Around} {E : Value → Shared → Prop} {s : Shared}
theorem join_tx {t : Tok} {Q : Value → Shared → Prop} {D : Addr} {ys : List Value} {ns : List Int} {B : Int} (hl : s.heap.IsList D ys.toArray) (hc : CarriedAll ys (ns.map fun k => PyData.str ⟨#[k.toNat]⟩)) (hb : Bnd B ns) (hn : ns.length ≤ 1048576)
    (h : ∀ x t' k, codes x = ns → x.length = ns.length → Q (.str x t') { s with toks := k }) : wpAny (model prog w) A (call (.builtin "str.join") [.str (PySem.Str.ofString "") t, .ref D]) Q E s := by
  refine KT.join_1 hl hc (fun a _ => rfl) hn fun t' k e => h _ t' k ?_ e
  show codes (Builtin.Str.glued (PySem.Str.ofString "") _) = ns
  rw [StrLaws.glued_eq_join]
  exact join_codes ns fun n hn => (hb n hn).1
end
section
variable {prog : Program} {w : World} {A : Around} {E : Value → Shared → Prop} {s : Shared} {h₀ : Heap} {L : Addr} {m : Str → Option Value} {env : Env}
def SrcT (prog : Program) (w : World) (A : Around) (h₀ : Heap) (L : Addr) (m : Str → Option Value) (env : Env) (elt : Expr) (x : Str) (scope : Scope) (cl : List (Str × Addr)) (Fin : Shared → List Value → List (Addr × Obj) → Prop) (xv : Value) (s₁ : Shared) : Prop :=
  ∃ xt tx news, xv = .str xt tx ∧ A.handled = none ∧ Fr h₀ L s₁.heap m ∧ News h₀ L s₁.heap news ∧ xt.cps.size ≤ sizeLine ∧
    ∀ s₂ : Shared, (∃ h, s₂ = { s₁ with heap := h }) → LCg.CompRest prog w A h₀ L m env elt x scope cl s₂ (fun _ => True) (SignAt xt) (Fin s₂) xt.cps.size 0 [] news
theorem ListComp_T {elt iter : Expr} {x : Str} {px : Pos} {scope : Scope} {cl : List (Str × Addr)} {pos : Pos} {Q : Value → Shared → Prop} (hF0 : Fr h₀ L s.heap m)
    (hclos : closureFor scope env = pure cl) (hcell : ∀ y ∈ scope.names, y.2 ≠ .cell) (hkind : scope.kind = .function)
    (hnames : ∀ y ∈ scope.names, y.2 = .local → scope.names.lookup y.1 = some .local) (hx : scope.names.lookup x = some .local)
    (h : wpAny (model prog w) A (eval iter env) (SrcT prog w A h₀ L m env elt x scope cl (fun s₂ => LCg.FinE h₀ L m s₂ Q)) E s)
    (hs : ∀ x, foldedSetIterable iter env x = pure x := by intro _; rfl) :
    wpAny (model prog w) A (eval (.ListComp elt [⟨.Name x px, iter, [], 0⟩] scope pos) env) Q E s := by
  rw [eval_ListComp]
  refine wpAny_comprehension_free (use := none) rfl hs hclos hkind hnames (wpAny_mono h (fun xv s₁ h₁ => ?_) fun _ _ e => e)
  obtain ⟨xt, tx, news, rfl, hh, F, N, hsz, R⟩ := h₁
  refine wpAny_pyIter_strU ?_
  suffices hg : ∃ St : Nat → Heap → Prop, Walks prog w A s₁.heap.objs.size [s₁.heap.objs.size] [s₁.heap.objs.size] xt.cps.size (SignAt xt) St ∧ (∀ i h, St i h → ∃ o, h.get? s₁.heap.objs.size = some o) ∧
      St 0 (s₁.heap.push { cls := .type (strIterType xt), data := .fields #[.str xt tx, .int 0 0] }) by
    obtain ⟨St, W, hIo, hst⟩ := hg
    refine LCg.block_U W hsz hIo
      (fun i h h' o nw st e e' _ _ _ => W.frame i h h' st fun b hb o' q => by
        rw [List.mem_singleton.mp hb] at q ⊢
        rw [e] at q
        cases q
        exact e') hcell hkind hx hst (fun b hb => by rw [List.mem_singleton.mp hb]; show s₁.heap.objs.size < (s₁.heap.push _).objs.size; rw [Heap.size_push]; exact Nat.lt_succ_self _)
      (F.push _) (fun p hp => ⟨Heap.get?_push_of_some _ (N p hp).1, (N p hp).2⟩) (Nat.ne_of_lt F.ns.lt) (next_is_new F) (fun p hp => Nat.ne_of_lt (Heap.lt_size (N p hp).1)) trivial (R _ ⟨_, rfl⟩) ?_
    intro D C h tk m' ys news' F' N' o1 hn hC₀ hD₀ hCL hDL hCD offC fin
    refine ⟨m', hn, fun h'' hs'' => fin D h'' tk (F'.change hs'' hCL hC₀) (fun p hp => ?_) o1⟩
    refine ⟨hs''.extBut _ _ ?_ (N' p hp).1, (N' p hp).2⟩
    rcases List.mem_cons.mp hp with rfl | hp
    · exact Ne.symm hCD
    · exact offC p hp
  cases ha : xt.cps.all (· < 128)
  · have z : strIterType xt = "str_iterator" := by simp [strIterType, ha]
    refine ⟨fun i h => h.IsStrIter s₁.heap.objs.size "str_iterator" xt tx i, Walks.strWide hh _ xt tx, fun i h st => ?_, ?_⟩
    · obtain ⟨o, e, _⟩ := st
      exact ⟨o, e⟩
    · rw [z]
      exact ⟨_, Heap.get?_push_size _ rfl, rfl, rfl⟩
  · have z : strIterType xt = "str_ascii_iterator" := by simp [strIterType, ha]
    refine ⟨fun i h => h.IsStrIter s₁.heap.objs.size "str_ascii_iterator" xt tx i, Walks.strAscii hh _ xt tx, fun i h st => ?_, ?_⟩
    · obtain ⟨o, e, _⟩ := st
      exact ⟨o, e⟩
    · rw [z]
      exact ⟨_, Heap.get?_push_size _ rfl, rfl, rfl⟩
theorem ints_snoc {y : Int} {t : Tok} : ∀ {vs : List Value} {ys : List Int}, IntsAre vs ys → IntsAre (vs ++ [.int y t]) (ys ++ [y])
  | _, _, .nil => .cons y t .nil
  | _, _, .cons z u r => .cons z u (ints_snoc r)
theorem ord_rest {elt : Expr} {x : Str} {scope : Scope} {cl : List (Str × Addr)} {S : List (Addr × Obj) → Prop} {Fin : List Value → List (Addr × Obj) → Prop} {news : List (Addr × Obj)} {xt : Str}
    (turn : ∀ (c : Nat) u I oI C oC D m₂ ys h tk (E' : Value → Shared → Prop), LCg.NsObj oC m₂ → m₂ x = some (.str ⟨#[c]⟩ u) → Fr h₀ L h m → News h₀ L h ((I, oI) :: (C, oC) :: (D, LCg.lst ys) :: news) → LCg.Off3 I C D news → ((@Ne Nat I C) ∧ (@Ne Nat I D) ∧ (@Ne Nat C D)) →
      wpAny (model prog w) A (eval elt (compEnvC scope cl C env)) (LCg.CompEnd h₀ L m { s with heap := h, toks := tk } I oI C oC D (LCg.lst ys) S (fun y news' => KCfEl news (c : Int) y news')) E' { s with heap := h, toks := tk })
    (fin : ∀ ys, IntsAre ys (codes xt) → Fin ys news) : LCg.CompRest prog w A h₀ L m env elt x scope cl s S (SignAt xt) Fin xt.cps.size 0 [] news := by
  have hlen : (codes xt).length = xt.cps.size := KStt.codes_length xt
  have key : ∀ (j i : Nat) (ys : List Value), i + j = xt.cps.size → IntsAre ys ((codes xt).take i) → LCg.CompRest prog w A h₀ L m env elt x scope cl s S (SignAt xt) Fin j i ys news := by
    intro j
    induction j with
    | zero =>
      intro i ys hi hy
      have e : i = (codes xt).length := by omega
      subst e
      rw [List.take_length] at hy
      exact LCg.CompRest.zero (fin ys hy)
    | succ j ih =>
      intro i ys hi hy
      refine LCg.CompRest.succ ?_
      intro v I oI C oC D m₂ h tk E' hv hC hx F N off ne
      obtain ⟨c, u, hc, rfl⟩ := hv
      refine wpAny_mono (turn c u I oI C oC D m₂ ys h tk E' hC hx F N off ne) (fun y s₂ hq => ?_) fun _ _ e => e
      obtain ⟨h', tk', nw, e, F', N', off', hS, hn, t', hy'⟩ := hq
      rw [hn] at N' off' hS
      refine ⟨h', tk', news, e, F', N', off', hS, ?_⟩
      rw [hy']
      refine ih (i + 1) _ (by omega) ?_
      rw [List.take_add_one, KStt.code_at hc]
      simpa using ints_snoc hy
  exact key _ 0 [] (by omega) (by simp only [List.take_zero]; exact .nil)
end

theorem chr_bnd {prog : Program} {w : World} {A : Around} {E : Value → Shared → Prop} {s : Shared} {k B : Int} {ns : List Int} {t : Tok} {Q : Value → Shared → Prop} (hm : k ∈ ns) (hb : Bnd B ns) (hB : B ≤ 1114111) (h : Q (.str ⟨#[k.toNat]⟩ s.toks) { s with toks := s.toks + 1 }) :
    wpAny (model prog w) A (call (.builtin "chr") [.int k t]) Q E s := chr_of_range (hb k hm).1 (Int.le_trans (hb k hm).2 hB) h

open PySem.W.KStt (codes)
theorem listAt {g h : Heap} {L l : Addr} {m : Str → Option Value} {its : Array Value} (hl : g.IsList l its) (F : Fr g L h m) : h.IsList l its := hl.at fun o e => F.keep l o e
theorem bnd_nil {B : Int} : Bnd B [] := fun _ h => nomatch h
theorem bnd_snoc {pre : List Int} {n B : Int} (h : Bnd B pre) (h0 : 0 ≤ n) (hn : n ≤ B) : Bnd B (pre ++ [n]) := fun v hv => (List.mem_append.mp hv).elim (h v) fun q => by rw [List.mem_singleton.mp q]; exact ⟨h0, hn⟩
theorem told_bnd {ns : List Int} {x : Str} {B : Int} {n : Int} (hm : n ∈ codes x) (hi : ∀ v ∈ codes x, v ≤ B) : 0 ≤ n ∧ n ≤ B := by
  refine ⟨?_, hi n hm⟩
  obtain ⟨c, _, rfl⟩ := List.mem_map.mp hm
  exact Int.natCast_nonneg c
theorem told_is {ns : List Int} {x : Str} {B : Int} (hi : ∀ v ∈ codes x, v ≤ B) : Bnd B (codes x) := fun _ hm => told_bnd (ns := ns) hm hi

theorem size_of {vs : List Value} {ns : List Int} (h : IntsAre vs ns) (hn : ns.length ≤ 100) : vs.toArray.size ≤ sizeLine := by
  rw [PySem.sizeLine_eq, List.size_toArray, h.length]; omega

open PySem.W.KStt (codes)
theorem text_end1 {x : Str} {pre post ns : List Int} {n M : Int} (hb : ∀ a ∈ ns ++ [0], a ≤ M) (hx : codes x = ns) (eq : codes x = pre ++ n :: post) (hn : 255 < n) : Value.bool (decide (255 < M)) = .bool true := by
  have : n ≤ M := hb n (by rw [← hx, eq]; simp)
  rw [decide_eq_true (by omega)]
theorem text_end2 {x : Str} {ns : List Int} {M : Int} (hm : M ∈ ns ++ [0]) (hx : codes x = ns) (hi : ∀ v ∈ codes x, v ≤ 255) : Value.bool (!decide (255 < M)) = .bool true := by
  have : M ≤ 255 := by
    rcases List.mem_append.mp hm with h | h
    · exact hi M (by rw [hx]; exact h)
    · rw [List.mem_singleton.mp h]; omega
  rw [decide_eq_false (by omega)]; rfl
theorem text_end3 {x y : Str} (h : codes x = codes y) : Value.bool (x == y) = .bool true := by rw [codes_inj h, beq_self_eq_true]

open PySem.W.KStt (codes)
theorem row1 {M : Int} (h : 255 < M) : Value.bool (decide (255 < M)) = .bool true := by rw [decide_eq_true h]
theorem row3 {ns : List Int} {M : Int} (hb : Bnd 255 ns) (hm : M ∈ ns ++ [0]) (h : 255 < M) : False := by
  rcases List.mem_append.mp hm with q | q
  · have := (hb M q).2; omega
  · rw [List.mem_singleton.mp q] at h; omega
theorem row4 {ns : List Int} {M n : Int} (hm : n ∈ ns) (hb : ∀ a ∈ ns ++ [0], a ≤ M) (h : ¬ 255 < M) (hn : ¬ n ≤ 255) : False := by
  have := hb n (List.mem_append_left _ hm); omega
theorem row5 {ns : List Int} {M n : Int} (hm : n ∈ ns) (hb : ∀ a ∈ ns ++ [0], M ≤ a) (hn : ¬ 0 ≤ n) : Value.bool (decide (M < 0)) = .bool true := by
  have := hb n (List.mem_append_left _ hm)
  rw [decide_eq_true (by omega)]
theorem row6 {ns : List Int} {M : Int} (hb : Bnd 255 ns) (hm : M ∈ ns ++ [0]) (h : M < 0) : False := by
  rcases List.mem_append.mp hm with q | q
  · have := (hb M q).1; omega
  · rw [List.mem_singleton.mp q] at h; omega
theorem row7 {ns pre post : List Int} {x : Str} {n : Int} (hb : Bnd 255 ns) (hx : codes x = ns) (eq : codes x = pre ++ n :: post) (hn : 255 < n) : False := by
  have := (hb n (by rw [← hx, eq]; simp)).2
  omega
theorem row8 {ns : List Int} {x : Str} (h : x.length = ns.length) : Value.bool (((x.length : Nat) : Int) == ((ns.length : Nat) : Int)) = .bool true := by rw [h, beq_self_eq_true]

end
end Mine

namespace Mine
section
open PySem.W.KStt (codes)
local macro_rules | `(tactic| k_room) => `(tactic| ktr_room)
-- the comprehensions of signs
local macro_rules | `(tactic| walk_at "eval ListComp") => `(tactic| (k_here; (with_reducible show wpAny _ _ (eval (Expr.ListComp (Expr.Call (Expr.Name (PySem.Str.ofString "chr") _) _ _ _) _ _ _) _) _ _ _); k_dflt (refine LCg.ListComp_U (F₀ := by k_asm) (by with_unfolding_all rfl) (by decide) (by rfl) (by decide) (by rfl) ?_)))
local macro_rules | `(tactic| walk_at "eval ListComp") => `(tactic| (k_here; (with_reducible show wpAny _ _ (eval (Expr.ListComp (Expr.Call (Expr.Name (PySem.Str.ofString "ord") _) _ _ _) _ _ _) _) _ _ _); k_dflt (refine ListComp_T (by k_asm) (by with_unfolding_all rfl) (by decide) (by rfl) (by decide) (by rfl) ?_)))
local macro_rules | `(tactic| walk_at "CompSrc") => `(tactic| (k_here; (with_reducible show LCg.CompSrc _ _ _ _ _ _ _ (Expr.Call (Expr.Name (PySem.Str.ofString "chr") _) _ _ _) _ _ _ _ _ _); k_dflt ((first | refine LCg.CompSrc.base (by rfl) (by k_asm) (by k_asm) (by first | assumption | exact listAt (by assumption) (by assumption)) (by (exact size_of (by assumption) (by (first | omega | (simp only [PySem.W.KStt.codes_length]; omega))))) ?_ | refine LCg.CompSrc.ledger (by rfl) (by k_asm) (by k_asm) (by k_mem) (by (exact size_of (by assumption) (by (first | omega | (simp only [PySem.W.KStt.codes_length]; omega))))) ?_); intro g'; refine' kct_list (fun k => ⟨#[k.toNat]⟩) (by assumption) (fun k' t' I' oI' C' oC' D' m' ys' h' tk' E' hk' hC' hx' F' N' off' ne' hMark' => ?_) ?_; (all_goals (try (simp only [LCg.Off3, and_true] at off'))); (all_goals (try k_fold)))))
local macro_rules | `(tactic| walk_at "KPfDone") => `(tactic| ((with_reducible show KPfDone (∀ _, CarriedAll _ (List.map (fun k => PyData.str ⟨#[k.toNat]⟩) _) → _)); k_dflt ((unfold KPfDone); intro ys' hC' hlen'; ((intro D' h' tk' F' N' o1'; (try simp only [LCg.Off1, and_true] at o1'); (try k_sweep))))))
local macro_rules | `(tactic| walk_at "SrcT") => `(tactic| (k_here; k_dflt ((refine' ⟨_, _, _, rfl, rfl, ?kF, ?kN, ?kz, ?_⟩; (case kF => k_asm); (case kN => k_asm); (case kz => (show PySem.Str.length _ ≤ _); rw [PySem.sizeLine_eq]; omega)); intro s9 e9; obtain ⟨g', e9⟩ := e9; subst e9; refine' ord_rest (fun c' u' I' oI' C' oC' D' m' ys' h' tk' E' hC' hx' F' N' off' ne' => ?_) (fun ys' hI' => ?_); (all_goals (try (simp only [LCg.Off3, and_true] at off'))); (all_goals (try k_fold)))))
local macro_rules | `(tactic| walk_at "FinE") => `(tactic| (k_dflt (((intro D' h' tk' F' N' o1'; (try simp only [LCg.Off1, and_true] at o1'); (try k_sweep))))))
local macro_rules | `(tactic| walk_at "call builtin:chr") => `(tactic| (k_here; k_dflt (refine chr_bnd (by assumption) (by assumption) (by decide) ?_)))
local macro_rules | `(tactic| walk_at "call builtin:str.join") => `(tactic| (k_here; k_dflt (refine join_tx (News.isList (by k_asm) (by k_mem)) (by assumption) (by assumption) (by (first | omega | (simp only [PySem.W.KStt.codes_length]; omega))) ?_; intro x' t' k' hx' hl')))
-- the loops that refuse
local macro_rules | `(tactic| walk_at "exec For Name Name cons nil") => `(tactic| (k_here; (with_reducible show wpAny _ _ (exec (Stmt.For (Expr.Name (PySem.Str.ofString "sign") _) (Expr.Name (PySem.Str.ofString "string") _) _ _ _) _) _ _ _); (rename Fr _ _ _ _ => lF'); (with_unfolding_all refine' For_invVF lF' ?k1 ?k2 ?_; (case k1 => exact rfl); (case k2 => exact rfl); k_whole)))
local macro_rules | `(tactic| walk_at "pyIter str") => `(tactic| (k_here; (with_reducible show wpAny _ _ (pyIter (Value.str _ _)) (fun it s₂ => LoopAtV _ _ _ _ _ _ _ _ _ it s₂) _ _); (rename Fr _ _ _ _ => lF'); (rename News _ _ _ _ => lN'); (with_unfolding_all refine' KStt.kst_text (σ := Unit) (fun _ => _) (fun _ => []) (fun _ => True) [] (fun pre _ => ∀ v ∈ pre, v ≤ 255) () (by rfl) lF' lN' True.intro (List.forall_mem_nil _) (List.forall_mem_nil _) (fun c' pre' post' n' t' u' h' tk' own' eq' off' fa' inv' F' N' => ?_) (fun c' u' h' tk' fa' inv' F' N' => ?_)); (all_goals (try k_fold))))
theorem le_snoc {pre : List Int} {n B : Int} (h : ∀ v ∈ pre, v ≤ B) (hn : n ≤ B) : ∀ v ∈ pre ++ [n], v ≤ B := fun v hv => (List.mem_append.mp hv).elim (h v) fun q => by rw [List.mem_singleton.mp q]; exact hn
local macro_rules | `(tactic| walk_at "InvEndN") => `(tactic| (k_dflt ((refine kst_end () (by assumption) (by assumption) (fun p hp => List.mem_append_left _ hp) (fun p hp => List.mem_append_right _ hp) rfl True.intro (List.forall_mem_nil _) (fun z h1 _ _ => ?_) (le_snoc (by assumption) (by omega))); exact if_neg h1)))
local macro_rules | `(tactic| walk_at "KCfEl") => `(tactic| (k_dflt (exact ⟨rfl, _, rfl⟩)))
local macro_rules | `(tactic| walk_at "compareOp Eq ref ref") => `(tactic| (k_here; k_dflt (refine' eq_intsK ?k1 ?k2 ?k3 ?k4 ?k5 ?_; (case k1 => (first | exact News.isList (by k_asm) (by k_mem) | exact listAt (by assumption) (by k_asm))); (case k2 => assumption); (case k3 => (first | exact News.isList (by k_asm) (by k_mem) | exact listAt (by assumption) (by k_asm))); (case k4 => assumption); (case k5 => ((have hcL9 := cLine_is; (try simp only [units_in1, units_deeper, Around.mark_units, units_caller]); (try dsimp only [ktrTop]); omega))); k_whole)))
-- decode_string
local macro_rules | `(tactic| walk_at "exec For Name Name cons nil") => `(tactic| (k_here; (with_reducible show wpAny _ _ (exec (Stmt.For (Expr.Name (PySem.Str.ofString "byte") _) (Expr.Name (PySem.Str.ofString "data") _) _ _ _) _) _ _ _); (try (have hL9 := listAt (by assumption) (by assumption))); (rename Fr _ _ _ _ => lF'); (with_unfolding_all refine' For_invVF lF' ?k1 ?k2 ?_; (case k1 => exact rfl); (case k2 => exact rfl); k_whole)))
local macro_rules | `(tactic| walk_at "pyIter ref") => `(tactic| (k_here; (with_reducible show wpAny _ _ (pyIter (Value.ref _)) (fun it s₂ => LoopAtV _ _ _ _ _ _ _ _ _ it s₂) _ _); (rename Fr _ _ _ _ => lF'); (rename News _ _ _ _ => lN'); (with_unfolding_all refine' kst_listL (σ := Unit) (fun _ => _) (fun _ => []) (fun _ => True) [] (fun pre _ => Bnd 255 pre) () (by rfl) (by (intro c9; (try dsimp only); k_memK)) (by assumption) lF' lN' True.intro (List.forall_mem_nil _) bnd_nil (fun c' pre' post' n' t' u' h' tk' own' eq' hm' off' fa' inv' F' N' => ?_) (fun c' u' h' tk' fa' inv' F' N' => ?_)); (all_goals ((try ((have q9 := told_bnd (ns := []) (by assumption) (by assumption)); obtain ⟨q91, q92⟩ := q9)))); (all_goals (try k_fold))))
local macro_rules | `(tactic| walk_at "pyIter ref") => `(tactic| (k_here; (with_reducible show wpAny _ _ (pyIter (Value.ref _)) (fun it s₂ => LoopAtV _ _ _ _ _ _ _ _ _ it s₂) _ _); (rename Fr _ _ _ _ => lF'); (rename News _ _ _ _ => lN'); (with_unfolding_all refine' kst_list (σ := Unit) (fun _ => _) (fun _ => []) (fun _ => True) [] (fun pre _ => Bnd 255 pre) () (by rfl) (by first | assumption | exact listAt (by assumption) (by assumption)) (by assumption) lF' lN' True.intro (List.forall_mem_nil _) bnd_nil (fun c' pre' post' n' t' u' h' tk' own' eq' hm' off' fa' inv' F' N' => ?_) (fun c' u' h' tk' fa' inv' F' N' => ?_)); (all_goals (try k_fold))))
local macro_rules | `(tactic| walk_at "InvEndN") => `(tactic| (k_dflt ((refine kst_end () (by assumption) (by assumption) (fun p hp => List.mem_append_left _ hp) (fun p hp => List.mem_append_right _ hp) rfl True.intro (List.forall_mem_nil _) (fun z h1 _ _ => ?_) (bnd_snoc (by assumption) (by omega) (by omega))); exact if_neg h1)))
def IsInts (h : Heap) (ns : List Int) (xs : List Value) : Prop := ∃ l vs, xs = [.ref l] ∧ h.IsList l vs.toArray ∧ IntsAre vs ns
theorem c_text (w : World) (mean : ExcName → Option Value) (mg mb : Str → Option Value) (ns : List Int) (hlen : ns.length ≤ 6) (hns : Bnd 299 ns) :
   TellL w mean mg mb 106 (fun h xs => IsInts h ns xs) (fun r => r = .bool true) := by
  have hk0 : PySem.Challenge.rw_aa6021_01 = PySem.Challenge.rw_aa6021_01 ∧ hd.heap_39 = hd.heap_39 := by
    k_fill
    exact ⟨rfl, rfl⟩
  clear hk0
  intro dp un gd cn cs a ccd cl A₀ h₀ L m news s Q E xs B F X N T hk hdp hun hxs hret
  obtain ⟨l, vs, rfl, hl, hi⟩ := hxs
  have hvl := hi.length
  refine wpAny_call ?_
  k_dflt ((refine' Mine.enter ?k1 ?k2 ?k3 ?k4 ?k5 ?kA ?kF ?kK ?k6 ?k7 ?k8 ?k9 ?kB ?_ ?c2 ?c3 ?c4 ?c5; (case kA => exact rfl); (case kF => exact rfl); (case kK => assumption); (case k1 => k_asm); (case k2 => k_asm); (case k3 => k_asm); (case k4 => k_asm); (case k5 => k_asm); (case k6 => k_is); (case k7 => k_is); (case k8 => ktr_room); (case k9 => exact BindsTo.of_eq rfl); (case c5 => decide); (case kB => exact locs rfl); (case c2 => exact rfl); (case c3 => exact rfl); (case c4 => exact rfl); k_whole; intro g' L' h' hG XB' TB' F' N' B' X' T' D'; (try dsimp only); (try k_fold)))
  rw [hG] at hl
  k_steps
  all_goals ((refine' hret _ _ _ ?eF ?eN ?eO; (case eF => assumption); (case eN => assumption); (case eO => first | exact text_end1 (by assumption) (by assumption) (by assumption) (by assumption) | exact text_end2 (by assumption) (by assumption) (by assumption) | exact text_end3 (by assumption) | fail "end")))

end
end Mine

namespace Mine
section
open PySem.W.KStt (codes)
local macro_rules | `(tactic| k_room) => `(tactic| ktr_room)
-- the comprehensions of signs
local macro_rules | `(tactic| walk_at "eval ListComp") => `(tactic| (k_here; (with_reducible show wpAny _ _ (eval (Expr.ListComp (Expr.Call (Expr.Name (PySem.Str.ofString "chr") _) _ _ _) _ _ _) _) _ _ _); k_dflt (refine LCg.ListComp_U (F₀ := by k_asm) (by with_unfolding_all rfl) (by decide) (by rfl) (by decide) (by rfl) ?_)))
local macro_rules | `(tactic| walk_at "eval ListComp") => `(tactic| (k_here; (with_reducible show wpAny _ _ (eval (Expr.ListComp (Expr.Call (Expr.Name (PySem.Str.ofString "ord") _) _ _ _) _ _ _) _) _ _ _); k_dflt (refine ListComp_T (by k_asm) (by with_unfolding_all rfl) (by decide) (by rfl) (by decide) (by rfl) ?_)))
local macro_rules | `(tactic| walk_at "CompSrc") => `(tactic| (k_here; (with_reducible show LCg.CompSrc _ _ _ _ _ _ _ (Expr.Call (Expr.Name (PySem.Str.ofString "chr") _) _ _ _) _ _ _ _ _ _); k_dflt ((first | refine LCg.CompSrc.base (by rfl) (by k_asm) (by k_asm) (by first | assumption | exact listAt (by assumption) (by assumption)) (by (exact size_of (by assumption) (by (first | omega | (simp only [PySem.W.KStt.codes_length]; omega))))) ?_ | refine LCg.CompSrc.ledger (by rfl) (by k_asm) (by k_asm) (by k_mem) (by (exact size_of (by assumption) (by (first | omega | (simp only [PySem.W.KStt.codes_length]; omega))))) ?_); intro g'; refine' kct_list (fun k => ⟨#[k.toNat]⟩) (by assumption) (fun k' t' I' oI' C' oC' D' m' ys' h' tk' E' hk' hC' hx' F' N' off' ne' hMark' => ?_) ?_; (all_goals (try (simp only [LCg.Off3, and_true] at off'))); (all_goals (try k_fold)))))
local macro_rules | `(tactic| walk_at "KPfDone") => `(tactic| ((with_reducible show KPfDone (∀ _, CarriedAll _ (List.map (fun k => PyData.str ⟨#[k.toNat]⟩) _) → _)); k_dflt ((unfold KPfDone); intro ys' hC' hlen'; ((intro D' h' tk' F' N' o1'; (try simp only [LCg.Off1, and_true] at o1'); (try k_sweep))))))
local macro_rules | `(tactic| walk_at "SrcT") => `(tactic| (k_here; k_dflt ((refine' ⟨_, _, _, rfl, rfl, ?kF, ?kN, ?kz, ?_⟩; (case kF => k_asm); (case kN => k_asm); (case kz => (show PySem.Str.length _ ≤ _); rw [PySem.sizeLine_eq]; omega)); intro s9 e9; obtain ⟨g', e9⟩ := e9; subst e9; refine' ord_rest (fun c' u' I' oI' C' oC' D' m' ys' h' tk' E' hC' hx' F' N' off' ne' => ?_) (fun ys' hI' => ?_); (all_goals (try (simp only [LCg.Off3, and_true] at off'))); (all_goals (try k_fold)))))
local macro_rules | `(tactic| walk_at "FinE") => `(tactic| (k_dflt (((intro D' h' tk' F' N' o1'; (try simp only [LCg.Off1, and_true] at o1'); (try k_sweep))))))
local macro_rules | `(tactic| walk_at "call builtin:chr") => `(tactic| (k_here; k_dflt (refine chr_bnd (by assumption) (by assumption) (by decide) ?_)))
local macro_rules | `(tactic| walk_at "call builtin:str.join") => `(tactic| (k_here; k_dflt (refine join_tx (News.isList (by k_asm) (by k_mem)) (by assumption) (by assumption) (by (first | omega | (simp only [PySem.W.KStt.codes_length]; omega))) ?_; intro x' t' k' hx' hl')))
-- the loops that refuse
local macro_rules | `(tactic| walk_at "exec For Name Name cons nil") => `(tactic| (k_here; (with_reducible show wpAny _ _ (exec (Stmt.For (Expr.Name (PySem.Str.ofString "sign") _) (Expr.Name (PySem.Str.ofString "string") _) _ _ _) _) _ _ _); (rename Fr _ _ _ _ => lF'); (with_unfolding_all refine' For_invVF lF' ?k1 ?k2 ?_; (case k1 => exact rfl); (case k2 => exact rfl); k_whole)))
local macro_rules | `(tactic| walk_at "pyIter str") => `(tactic| (k_here; (with_reducible show wpAny _ _ (pyIter (Value.str _ _)) (fun it s₂ => LoopAtV _ _ _ _ _ _ _ _ _ it s₂) _ _); (rename Fr _ _ _ _ => lF'); (rename News _ _ _ _ => lN'); (with_unfolding_all refine' KStt.kst_text (σ := Unit) (fun _ => _) (fun _ => []) (fun _ => True) [] (fun pre _ => ∀ v ∈ pre, v ≤ 255) () (by rfl) lF' lN' True.intro (List.forall_mem_nil _) (List.forall_mem_nil _) (fun c' pre' post' n' t' u' h' tk' own' eq' off' fa' inv' F' N' => ?_) (fun c' u' h' tk' fa' inv' F' N' => ?_)); (all_goals (try k_fold))))
local macro_rules | `(tactic| walk_at "InvEndN") => `(tactic| (k_dflt ((refine kst_end () (by assumption) (by assumption) (fun p hp => List.mem_append_left _ hp) (fun p hp => List.mem_append_right _ hp) rfl True.intro (List.forall_mem_nil _) (fun z h1 _ _ => ?_) (le_snoc (by assumption) (by omega))); exact if_neg h1)))
local macro_rules | `(tactic| walk_at "KCfEl") => `(tactic| (k_dflt (exact ⟨rfl, _, rfl⟩)))
local macro_rules | `(tactic| walk_at "compareOp Eq ref ref") => `(tactic| (k_here; k_dflt (refine' eq_intsK ?k1 ?k2 ?k3 ?k4 ?k5 ?_; (case k1 => (first | exact News.isList (by k_asm) (by k_mem) | exact listAt (by assumption) (by k_asm))); (case k2 => assumption); (case k3 => (first | exact News.isList (by k_asm) (by k_mem) | exact listAt (by assumption) (by k_asm))); (case k4 => assumption); (case k5 => ((have hcL9 := cLine_is; (try simp only [units_in1, units_deeper, Around.mark_units, units_caller]); (try dsimp only [ktrTop]); omega))); k_whole)))
-- decode_string
local macro_rules | `(tactic| walk_at "exec For Name Name cons nil") => `(tactic| (k_here; (with_reducible show wpAny _ _ (exec (Stmt.For (Expr.Name (PySem.Str.ofString "byte") _) (Expr.Name (PySem.Str.ofString "data") _) _ _ _) _) _ _ _); (try (have hL9 := listAt (by assumption) (by assumption))); (rename Fr _ _ _ _ => lF'); (with_unfolding_all refine' For_invVF lF' ?k1 ?k2 ?_; (case k1 => exact rfl); (case k2 => exact rfl); k_whole)))
local macro_rules | `(tactic| walk_at "pyIter ref") => `(tactic| (k_here; (with_reducible show wpAny _ _ (pyIter (Value.ref _)) (fun it s₂ => LoopAtV _ _ _ _ _ _ _ _ _ it s₂) _ _); (rename Fr _ _ _ _ => lF'); (rename News _ _ _ _ => lN'); (with_unfolding_all refine' kst_listL (σ := Unit) (fun _ => _) (fun _ => []) (fun _ => True) [] (fun pre _ => Bnd 255 pre) () (by rfl) (by (intro c9; (try dsimp only); k_memK)) (by assumption) lF' lN' True.intro (List.forall_mem_nil _) bnd_nil (fun c' pre' post' n' t' u' h' tk' own' eq' hm' off' fa' inv' F' N' => ?_) (fun c' u' h' tk' fa' inv' F' N' => ?_)); (all_goals ((try ((have q9 := told_bnd (ns := []) (by assumption) (by assumption)); obtain ⟨q91, q92⟩ := q9)))); (all_goals (try k_fold))))
local macro_rules | `(tactic| walk_at "pyIter ref") => `(tactic| (k_here; (with_reducible show wpAny _ _ (pyIter (Value.ref _)) (fun it s₂ => LoopAtV _ _ _ _ _ _ _ _ _ it s₂) _ _); (rename Fr _ _ _ _ => lF'); (rename News _ _ _ _ => lN'); (with_unfolding_all refine' kst_list (σ := Unit) (fun _ => _) (fun _ => []) (fun _ => True) [] (fun pre _ => Bnd 255 pre) () (by rfl) (by first | assumption | exact listAt (by assumption) (by assumption)) (by assumption) lF' lN' True.intro (List.forall_mem_nil _) bnd_nil (fun c' pre' post' n' t' u' h' tk' own' eq' hm' off' fa' inv' F' N' => ?_) (fun c' u' h' tk' fa' inv' F' N' => ?_)); (all_goals (try k_fold))))
local macro_rules | `(tactic| walk_at "InvEndN") => `(tactic| (k_dflt ((refine kst_end () (by assumption) (by assumption) (fun p hp => List.mem_append_left _ hp) (fun p hp => List.mem_append_right _ hp) rfl True.intro (List.forall_mem_nil _) (fun z h1 _ _ => ?_) (bnd_snoc (by assumption) (by omega) (by omega))); exact if_neg h1)))
theorem c_row (w : World) (mean : ExcName → Option Value) (mg mb : Str → Option Value) (ns : List Int) (hlen : ns.length ≤ 6) :
   TellL w mean mg mb 111 (fun h xs => IsInts h ns xs) (fun r => r = .bool true) := by
  have hk0 : PySem.Challenge.rw_aa6021_01 = PySem.Challenge.rw_aa6021_01 ∧ hd.heap_39 = hd.heap_39 := by
    k_fill
    exact ⟨rfl, rfl⟩
  clear hk0
  intro dp un gd cn cs a ccd cl A₀ h₀ L m news s Q E xs B F X N T hk hdp hun hxs hret
  obtain ⟨l, vs, rfl, hl, hi⟩ := hxs
  have hvl := hi.length
  refine wpAny_call ?_
  k_dflt ((refine' Mine.enter ?k1 ?k2 ?k3 ?k4 ?k5 ?kA ?kF ?kK ?k6 ?k7 ?k8 ?k9 ?kB ?_ ?c2 ?c3 ?c4 ?c5; (case kA => exact rfl); (case kF => exact rfl); (case kK => assumption); (case k1 => k_asm); (case k2 => k_asm); (case k3 => k_asm); (case k4 => k_asm); (case k5 => k_asm); (case k6 => k_is); (case k7 => k_is); (case k8 => ktr_room); (case k9 => exact BindsTo.of_eq rfl); (case c5 => decide); (case kB => exact locs rfl); (case c2 => exact rfl); (case c3 => exact rfl); (case c4 => exact rfl); k_whole; intro g' L' h' hG XB' TB' F' N' B' X' T' D'; (try dsimp only); (try k_fold)))
  rw [hG] at hl
  k_steps
  all_goals first
    | (exfalso; first
        | exact row3 (by assumption) (by assumption) (by assumption)
        | exact row4 (by assumption) (by assumption) (by assumption) (by assumption)
        | exact row6 (by assumption) (by assumption) (by assumption)
        | exact row7 (by assumption) (by assumption) (by assumption) (by assumption))
    | ((refine' hret _ _ _ ?eF ?eN ?eO; (case eF => assumption); (case eN => assumption); (case eO => first | exact row1 (by assumption) | exact row5 (by assumption) (by assumption) (by assumption) | exact row8 (by assumption) | fail "end")))

end
end Mine

namespace Mine
section
local macro_rules | `(tactic| k_room) => `(tactic| ktr_room)
theorem bnd1 {p : Prop} [Decidable p] (h : p) : Value.bool (decide p) = .bool true := by rw [decide_eq_true h]
theorem bnd2 {p : Prop} [Decidable p] (h : ¬ p) : Value.bool (!decide p) = .bool true := by rw [decide_eq_false h]; rfl
theorem c_bounded (w : World) (mean : ExcName → Option Value) (mg mb : Str → Option Value) (v lo hi : Int) (t1 t2 t3 : Tok) (hlo : -1000 ≤ lo) (hlo' : lo ≤ 1000) (hhi : -1000 ≤ hi) (hhi' : hi ≤ 1000) :
   TellL w mean mg mb 118 (fun _ xs => xs = [.int v t1, .int lo t2, .int hi t3]) (fun r => r = .bool true) := by
  have hk0 : PySem.Challenge.rw_aa6021_01 = PySem.Challenge.rw_aa6021_01 ∧ hd.heap_39 = hd.heap_39 := by
    k_fill
    exact ⟨rfl, rfl⟩
  clear hk0
  intro dp un gd cn cs a ccd cl A₀ h₀ L m news s Q E xs B F X N T hk hdp hun hxs hret
  subst hxs
  refine wpAny_call ?_
  k_dflt ((refine' Mine.enter ?k1 ?k2 ?k3 ?k4 ?k5 ?kA ?kF ?kK ?k6 ?k7 ?k8 ?k9 ?kB ?_ ?c2 ?c3 ?c4 ?c5; (case kA => exact rfl); (case kF => exact rfl); (case kK => assumption); (case k1 => k_asm); (case k2 => k_asm); (case k3 => k_asm); (case k4 => k_asm); (case k5 => k_asm); (case k6 => k_is); (case k7 => k_is); (case k8 => ktr_room); (case k9 => exact BindsTo.of_eq rfl); (case c5 => decide); (case kB => exact locs rfl); (case c2 => exact rfl); (case c3 => exact rfl); (case c4 => exact rfl); k_whole; intro g' L' h' hG XB' TB' F' N' B' X' T' D'; (try dsimp only); (try k_fold)))
  k_steps
  all_goals ((refine' hret _ _ _ ?eF ?eN ?eO; (case eF => assumption); (case eN => assumption); (case eO => first | rfl | exact bnd1 (by assumption) | exact bnd2 (by assumption))))
theorem c_boundedS (w : World) (mean : ExcName → Option Value) (mg mb : Str → Option Value) (lo hi : Int) (t1 t2 t3 : Tok) :
   TellL w mean mg mb 118 (fun _ xs => xs = [.str "7" t1, .int lo t2, .int hi t3]) (fun r => r = .bool true) := by
  have hk0 : PySem.Challenge.rw_aa6021_01 = PySem.Challenge.rw_aa6021_01 ∧ hd.heap_39 = hd.heap_39 := by
    k_fill
    exact ⟨rfl, rfl⟩
  clear hk0
  intro dp un gd cn cs a ccd cl A₀ h₀ L m news s Q E xs B F X N T hk hdp hun hxs hret
  subst hxs
  refine wpAny_call ?_
  k_dflt ((refine' Mine.enter ?k1 ?k2 ?k3 ?k4 ?k5 ?kA ?kF ?kK ?k6 ?k7 ?k8 ?k9 ?kB ?_ ?c2 ?c3 ?c4 ?c5; (case kA => exact rfl); (case kF => exact rfl); (case kK => assumption); (case k1 => k_asm); (case k2 => k_asm); (case k3 => k_asm); (case k4 => k_asm); (case k5 => k_asm); (case k6 => k_is); (case k7 => k_is); (case k8 => ktr_room); (case k9 => exact BindsTo.of_eq rfl); (case c5 => decide); (case kB => exact locs rfl); (case c2 => exact rfl); (case c3 => exact rfl); (case c4 => exact rfl); k_whole; intro g' L' h' hG XB' TB' F' N' B' X' T' D'; (try dsimp only); (try k_fold)))
  k_steps
  all_goals ((refine' hret _ _ _ ?eF ?eN ?eO; (case eF => assumption); (case eN => assumption); (case eO => first | rfl | exact bnd1 (by assumption) | exact bnd2 (by assumption))))
theorem c_boundedN (w : World) (mean : ExcName → Option Value) (mg mb : Str → Option Value) (lo hi : Int) (t2 t3 : Tok) :
   TellL w mean mg mb 118 (fun _ xs => xs = [.none, .int lo t2, .int hi t3]) (fun r => r = .bool true) := by
  have hk0 : PySem.Challenge.rw_aa6021_01 = PySem.Challenge.rw_aa6021_01 ∧ hd.heap_39 = hd.heap_39 := by
    k_fill
    exact ⟨rfl, rfl⟩
  clear hk0
  intro dp un gd cn cs a ccd cl A₀ h₀ L m news s Q E xs B F X N T hk hdp hun hxs hret
  subst hxs
  refine wpAny_call ?_
  k_dflt ((refine' Mine.enter ?k1 ?k2 ?k3 ?k4 ?k5 ?kA ?kF ?kK ?k6 ?k7 ?k8 ?k9 ?kB ?_ ?c2 ?c3 ?c4 ?c5; (case kA => exact rfl); (case kF => exact rfl); (case kK => assumption); (case k1 => k_asm); (case k2 => k_asm); (case k3 => k_asm); (case k4 => k_asm); (case k5 => k_asm); (case k6 => k_is); (case k7 => k_is); (case k8 => ktr_room); (case k9 => exact BindsTo.of_eq rfl); (case c5 => decide); (case kB => exact locs rfl); (case c2 => exact rfl); (case c3 => exact rfl); (case c4 => exact rfl); k_whole; intro g' L' h' hG XB' TB' F' N' B' X' T' D'; (try dsimp only); (try k_fold)))
  k_steps
  all_goals ((refine' hret _ _ _ ?eF ?eN ?eO; (case eF => assumption); (case eN => assumption); (case eO => first | rfl | exact bnd1 (by assumption) | exact bnd2 (by assumption))))
theorem c_worded (w : World) (mean : ExcName → Option Value) (mg mb : Str → Option Value) (v : Value) (hv : (∃ x t, v = .str x t) ∨ (∃ i t, v = .int i t) ∨ v = .none) :
   TellL w mean mg mb 125 (fun _ xs => xs = [v]) (fun r => r = .bool true) := by
  have hk0 : PySem.Challenge.rw_aa6021_01 = PySem.Challenge.rw_aa6021_01 ∧ hd.heap_39 = hd.heap_39 := by
    k_fill
    exact ⟨rfl, rfl⟩
  clear hk0
  intro dp un gd cn cs a ccd cl A₀ h₀ L m news s Q E xs B F X N T hk hdp hun hxs hret
  subst hxs
  rcases hv with ⟨x, t, rfl⟩ | ⟨i, t, rfl⟩ | rfl
  all_goals (
    refine wpAny_call ?_
    k_dflt ((refine' Mine.enter ?k1 ?k2 ?k3 ?k4 ?k5 ?kA ?kF ?kK ?k6 ?k7 ?k8 ?k9 ?kB ?_ ?c2 ?c3 ?c4 ?c5; (case kA => exact rfl); (case kF => exact rfl); (case kK => assumption); (case k1 => k_asm); (case k2 => k_asm); (case k3 => k_asm); (case k4 => k_asm); (case k5 => k_asm); (case k6 => k_is); (case k7 => k_is); (case k8 => ktr_room); (case k9 => exact BindsTo.of_eq rfl); (case c5 => decide); (case kB => exact locs rfl); (case c2 => exact rfl); (case c3 => exact rfl); (case c4 => exact rfl); k_whole; intro g' L' h' hG XB' TB' F' N' B' X' T' D'; (try dsimp only); (try k_fold)))
    k_steps
    all_goals ((refine' hret _ _ _ ?eF ?eN ?eO; (case eF => assumption); (case eN => assumption); (case eO => first | rfl | exact bnd1 (by assumption) | exact bnd2 (by assumption)))))
theorem c_wordedS (w : World) (mean : ExcName → Option Value) (mg mb : Str → Option Value) (x : Str) (t : Tok) : TellL w mean mg mb 125 (fun _ xs => xs = [.str x t]) (fun r => r = .bool true) := c_worded w mean mg mb (.str x t) (.inl ⟨x, t, rfl⟩)
theorem c_wordedI (w : World) (mean : ExcName → Option Value) (mg mb : Str → Option Value) (i : Int) (t : Tok) : TellL w mean mg mb 125 (fun _ xs => xs = [.int i t]) (fun r => r = .bool true) := c_worded w mean mg mb (.int i t) (.inr (.inl ⟨i, t, rfl⟩))
theorem c_wordedN (w : World) (mean : ExcName → Option Value) (mg mb : Str → Option Value) : TellL w mean mg mb 125 (fun _ xs => xs = [.none]) (fun r => r = .bool true) := c_worded w mean mg mb .none (.inr (.inr rfl))

end
end Mine

namespace Mine
section
local macro_rules | `(tactic| k_room) => `(tactic| ktr_room)
def lawAt (ns : List Int) (k : Int) : Int := if 0 < ns.length then ns.getD (k.fmod (ns.length : Int)).toNat 0 + 13 * k.fdiv (ns.length : Int) else 7 * k + 3
theorem lawAt_pos {ns : List Int} {k : Int} (h : 0 < ns.length) : ns.getD (k.fmod (ns.length : Int)).toNat 0 + 13 * k.fdiv (ns.length : Int) = lawAt ns k := by unfold lawAt; rw [if_pos h]
theorem lawAt_neg {ns : List Int} {k : Int} (h : ¬ 0 < ns.length) : 7 * k + 3 = lawAt ns k := by unfold lawAt; rw [if_neg h]
/-- `_law_at` -/
def TellA (w : World) (mean : ExcName → Option Value) (mg mb : Str → Option Value) : Prop :=
  ∀ (dp un : Nat) (gd : Option (List Code)) (cn : Str) (cs : Scope) (a : Addr) (ccd : Value) (cl : List (Str × Addr)) (outer : List Env) (A₀ : Around) (base h₀ : Heap) (L : Addr) (m : Str → Option Value) (news : List (Addr × Obj)) (s : Shared) (Q E : Value → Shared → Prop)
    (l : Addr) (vs : List Value) (ns : List Int) (k : Int) (tk : Tok),
    Below A₀ base outer h₀ → Fr h₀ L s.heap m → (hd.heap_39 w.params).In h₀ → News h₀ L s.heap news → Top hd.view_39 (looseW hd.view_39 []) mean mg mb h₀ → cs.kind = .function →
    dp + 4 < recursionLimit → un + 32 < cLine → h₀.IsList l vs.toArray → IntsAre vs ns → ns.length ≤ 1000 →
    (∀ (t : Tok) (h' : Heap) (tk' : Nat), Fr h₀ L h' m → News h₀ L h' news → Q (.int (lawAt ns k) t) { s with heap := h', toks := tk' }) →
      wpAny (model PySem.Challenge.rw_aa6021_01.row.prog w) (ktrTop dp un gd cn cs L a ccd cl outer) (call (.ref 66) [.ref l, .int k tk]) Q E s
theorem c_at (w : World) (mean : ExcName → Option Value) (mg mb : Str → Option Value) : TellA w mean mg mb := by
  have hk0 : PySem.Challenge.rw_aa6021_01 = PySem.Challenge.rw_aa6021_01 ∧ hd.heap_39 = hd.heap_39 := by
    k_fill
    exact ⟨rfl, rfl⟩
  clear hk0
  intro dp un gd cn cs a ccd cl outer A₀ base h₀ L m news s Q E l vs ns k tk B F X N T hk hdp hun hl hi hlen hret
  have hvl := hi.length
  refine wpAny_call ?_
  k_dflt ((refine' enterK ?k1 ?k2 ?k3 ?k4 ?k5 ?kA ?kF ?kK ?k6 ?k7 ?k8 ?k9 ?kB ?_ ?c2 ?c3 ?c4 ?c5; (case kA => exact rfl); (case kF => exact rfl); (case kK => assumption); (case k1 => k_asm); (case k2 => k_asm); (case k3 => k_asm); (case k4 => k_asm); (case k5 => k_asm); (case k6 => k_is); (case k7 => k_is); (case k8 => ktr_room); (case k9 => exact BindsTo.of_eq rfl); (case c5 => decide); (case kB => exact locs rfl); (case c2 => exact rfl); (case c3 => exact rfl); (case c4 => exact rfl); k_whole; intro g' L' h' hG F' N' B' X' T'; (try dsimp only); (try k_lift B'); (try k_fold)))
  have hl2 := listAt hl F
  rw [hG] at hl2
  k_steps
  all_goals first
    | (rw [lawAt_pos (by assumption)]; exact hret _ _ _ (by assumption) (by assumption))
    | (rw [lawAt_neg (by assumption)]; exact hret _ _ _ (by assumption) (by assumption))
section
variable {w : World} {mean : ExcName → Option Value} {mg mb : Str → Option Value} {f : Addr} {P : Heap → List Value → Prop} {Out : Value → Prop} {dp un : Nat} {gd : Option (List Code)} {cn : Str} {cs : Scope} {a : Addr} {ccd : Value} {cl : List (Str × Addr)} {outer : List Env} {A₀ : Around} {base h₀ : Heap} {L : Addr} {m : Str → Option Value} {news : List (Addr × Obj)} {s : Shared} {Q E : Value → Shared → Prop}
theorem TellA.use {l : Addr} {vs : List Value} {ns : List Int} {k : Int} {tk : Tok} (C : TellA w mean mg mb) (B : Below A₀ base outer h₀) (F : Fr h₀ L s.heap m) (X : (hd.heap_39 w.params).In h₀) (N : News h₀ L s.heap news) (T : Top hd.view_39 (looseW hd.view_39 []) mean mg mb h₀) (hk : cs.kind = .function)
    (hd : dp + 4 < recursionLimit) (hu : un + 32 < cLine) (hl : h₀.IsList l vs.toArray) (hi : IntsAre vs ns) (hlen : ns.length ≤ 1000)
    (ret : ∀ (t : Tok) (h' : Heap) (tk' : Nat), Fr h₀ L h' m → News h₀ L h' news → Q (.int (lawAt ns k) t) { s with heap := h', toks := tk' }) :
    wpAny (model PySem.Challenge.rw_aa6021_01.row.prog w) (ktrTop dp un gd cn cs L a ccd cl outer) (call (.ref 66) [.ref l, .int k tk]) Q E s :=
  C _ _ _ _ _ _ _ _ _ _ _ _ _ _ _ _ _ _ _ _ _ _ _ B F X N T hk hd hu hl hi hlen ret
theorem TellL.use {xs : List Value} (C : TellL w mean mg mb f P Out) (B : Below A₀ h₀ [] h₀) (F : Fr h₀ L s.heap m) (X : (hd.heap_39 w.params).In h₀) (N : News h₀ L s.heap news) (T : Top hd.view_39 (looseW hd.view_39 []) mean mg mb h₀) (hk : cs.kind = .function)
    (hd : dp + 8 < recursionLimit) (hu : un + 200 < cLine) (hP : P s.heap xs)
    (ret : ∀ (r : Value) (h' : Heap) (tk' : Nat), Fr h₀ L h' m → News h₀ L h' news → Out r → Q r { s with heap := h', toks := tk' }) :
    wpAny (model PySem.Challenge.rw_aa6021_01.row.prog w) (ktrTop dp un gd cn cs L a ccd cl []) (call (.ref f) xs) Q E s :=
  C _ _ _ _ _ _ _ _ _ _ _ _ _ _ _ _ _ B F X N T hk hd hu hP ret
end

end
end Mine

namespace Mine
section
local macro_rules | `(tactic| k_room) => `(tactic| ktr_room)
theorem kin_at {K : Frag} {h₀ h : Heap} {L : Addr} {m : Str → Option Value} (F : Fr h₀ L h m) (X : K.In h₀) : K.In h := X.keeps F.keep
theorem item_ints {prog : Program} {w : World} {A : Around} {E : Value → Shared → Prop} {s : Shared} {value slice : PySem.Expr} {l : Addr} {vs : List Value} {ns : List Int} {k : Int} {u : Tok} {Q : Value → Shared → Prop}
    (hl : s.heap.IsList l vs.toArray) (hi : IntsAre vs ns) (h0 : 0 ≤ k) (hk : k < ns.length) (hs : ns.length ≤ 1000) (h : ∀ n t, Q (.int n t) s)
    (hq : subscripted slice false (.ref l) (.int k u) = operate [.ref l, .int k u] (getItem (.ref l) (.int k u)) := by with_unfolding_all rfl) :
    wpAny (model prog w) A (subscriptTail value slice (.ref l) (.int k u)) Q E s := by
  have hlt : k.toNat < vs.length := by rw [hi.length]; omega
  obtain ⟨n, t, e, _⟩ := IntsAre.at hi k.toNat vs[k.toNat] (by simp [hlt])
  exact tail_any hl.typeIs slot_list_getitem.lookup (wpAny_getItem_list hl h0 (by omega) (by simpa [hlt] using e) (h n t)) hq
theorem news_cons {h₀ h : Heap} {L : Addr} {p : Addr × Obj} {r news : List (Addr × Obj)} (N : News h₀ L h (p :: r)) (M : News h₀ L h news) : News h₀ L h (p :: news) := fun q hq => (List.mem_cons.mp hq).elim (fun e => e ▸ N p (.head _)) (M q)
/-- `_law_edges` -/
def TellE (w : World) (mean : ExcName → Option Value) (mg mb : Str → Option Value) : Prop :=
  ∀ (dp un : Nat) (gd : Option (List Code)) (cn : Str) (cs : Scope) (a : Addr) (ccd : Value) (cl : List (Str × Addr)) (outer : List Env) (A₀ : Around) (base h₀ : Heap) (L : Addr) (m : Str → Option Value) (news : List (Addr × Obj)) (s : Shared) (Q E : Value → Shared → Prop),
    Below A₀ base outer h₀ → Fr h₀ L s.heap m → (hd.heap_39 w.params).In h₀ → News h₀ L s.heap news → Top hd.view_39 (looseW hd.view_39 []) mean mg mb h₀ → cs.kind = .function →
    dp + 4 < recursionLimit → un + 32 < cLine →
    (∀ (l : Addr) (vs : List Value) (ns : List Int) (nn : Nat) (h' : Heap) (tk' : Nat), IntsAre vs ns → ns.length = 18 → Fr h₀ L h' m → News h₀ L h' ((l, listOf vs.toArray nn) :: news) → Q (.ref l) { s with heap := h', toks := tk' }) →
      wpAny (model PySem.Challenge.rw_aa6021_01.row.prog w) (ktrTop dp un gd cn cs L a ccd cl outer) (call (.ref 59) []) Q E s
theorem c_edges (w : World) (mean : ExcName → Option Value) (mg mb : Str → Option Value) : TellE w mean mg mb := by
  have hk0 : PySem.Challenge.rw_aa6021_01 = PySem.Challenge.rw_aa6021_01 ∧ hd.heap_39 = hd.heap_39 := by
    k_fill
    exact ⟨rfl, rfl⟩
  clear hk0
  intro dp un gd cn cs a ccd cl outer A₀ base h₀ L m news s Q E B F X N T hk hdp hun hret
  refine wpAny_call ?_
  k_dflt ((refine' enterK ?k1 ?k2 ?k3 ?k4 ?k5 ?kA ?kF ?kK ?k6 ?k7 ?k8 ?k9 ?kB ?_ ?c2 ?c3 ?c4 ?c5; (case kA => exact rfl); (case kF => exact rfl); (case kK => assumption); (case k1 => k_asm); (case k2 => k_asm); (case k3 => k_asm); (case k4 => k_asm); (case k5 => k_asm); (case k6 => k_is); (case k7 => k_is); (case k8 => ktr_room); (case k9 => exact BindsTo.of_eq rfl); (case c5 => decide); (case kB => exact locs rfl); (case c2 => exact rfl); (case c3 => exact rfl); (case c4 => exact rfl); k_whole; intro g' L' h' hG F' N' B' X' T'; (try dsimp only); (try k_lift B'); (try k_fold)))
  k_steps
  all_goals ((rename News _ _ _ (_ :: _) => hN9); (rename News _ _ _ _ => hM9); have hN8 := news_cons hN9 hM9; exact hret _ _ _ _ _ _ (by l_ints) rfl (by assumption) hN8)
theorem TellE.use {w : World} {mean : ExcName → Option Value} {mg mb : Str → Option Value} {dp un : Nat} {gd : Option (List Code)} {cn : Str} {cs : Scope} {a : Addr} {ccd : Value} {cl : List (Str × Addr)} {outer : List Env} {A₀ : Around} {base h₀ : Heap} {L : Addr} {m : Str → Option Value} {news : List (Addr × Obj)} {s : Shared} {Q E : Value → Shared → Prop}
    (C : TellE w mean mg mb) (B : Below A₀ base outer h₀) (F : Fr h₀ L s.heap m) (X : (hd.heap_39 w.params).In h₀) (N : News h₀ L s.heap news) (T : Top hd.view_39 (looseW hd.view_39 []) mean mg mb h₀) (hk : cs.kind = .function)
    (hd : dp + 4 < recursionLimit) (hu : un + 32 < cLine)
    (ret : ∀ (l : Addr) (vs : List Value) (ns : List Int) (nn : Nat) (h' : Heap) (tk' : Nat), IntsAre vs ns → ns.length = 18 → Fr h₀ L h' m → News h₀ L h' ((l, listOf vs.toArray nn) :: news) → Q (.ref l) { s with heap := h', toks := tk' }) :
    wpAny (model PySem.Challenge.rw_aa6021_01.row.prog w) (ktrTop dp un gd cn cs L a ccd cl outer) (call (.ref 59) []) Q E s :=
  C _ _ _ _ _ _ _ _ _ _ _ _ _ _ _ _ _ _ B F X N T hk hd hu ret

theorem item_mod18 {prog : Program} {w : World} {A : Around} {E : Value → Shared → Prop} {s : Shared} {value slice : PySem.Expr} {l : Addr} {vs : List Value} {ns : List Int} {x : Int} {u : Tok} {Q : Value → Shared → Prop}
    (hl : s.heap.IsList l vs.toArray) (hi : IntsAre vs ns) (hn : ns.length = 18) (h : ∀ n t, Q (.int n t) s)
    (hq : subscripted slice false (.ref l) (.int (x.fmod 18) u) = operate [.ref l, .int (x.fmod 18) u] (getItem (.ref l) (.int (x.fmod 18) u)) := by with_unfolding_all rfl) :
    wpAny (model prog w) A (subscriptTail value slice (.ref l) (.int (x.fmod 18) u)) Q E s := by
  have e : x.fmod 18 = x % 18 := Int.fmod_eq_emod_of_nonneg _ (by decide)
  exact item_ints hl hi (by omega) (by omega) (by omega) h hq

theorem fmod_range (x : Int) {d : Int} (h : 0 < d) : 0 ≤ x.fmod d ∧ x.fmod d ≤ d - 1 := by
  rw [Int.fmod_eq_emod_of_nonneg _ (Int.le_of_lt h)]
  have h1 := Int.emod_nonneg x (Int.ne_of_gt h)
  have h2 := Int.emod_lt_of_pos x h
  omega
theorem lenR (x : Int) : (rangeKs 0 (x.fmod 7 - 0).toNat).length ≤ 6 := by
  rw [rangeKs_length]
  have := fmod_range x (d := 7) (by decide)
  omega
theorem bnd300 (f : Int → Int) (l : List Int) : Bnd 299 (l.map fun k => (f k).fmod 300) := fun n hn => by
  obtain ⟨k, _, rfl⟩ := List.mem_map.mp hn
  have := fmod_range (f k) (d := 300) (by decide)
  omega
theorem bnd256 (l : List Int) : Bnd 299 (l.map fun k => k.fmod 256) := fun n hn => by
  obtain ⟨k, _, rfl⟩ := List.mem_map.mp hn
  have := fmod_range k (d := 256) (by decide)
  omega

theorem bl1 (x : Int) : -1000 ≤ x.fmod 300 - 10 := by have := fmod_range x (d := 300) (by decide); omega
theorem bl2 (x : Int) : x.fmod 300 - 10 ≤ 1000 := by have := fmod_range x (d := 300) (by decide); omega
theorem bh1 (x y : Int) : -1000 ≤ x.fmod 300 - 10 + y.fmod 40 := by have := fmod_range x (d := 300) (by decide); have := fmod_range y (d := 40) (by decide); omega
theorem bh2 (x y : Int) : x.fmod 300 - 10 + y.fmod 40 ≤ 1000 := by have := fmod_range x (d := 300) (by decide); have := fmod_range y (d := 40) (by decide); omega

end
end Mine

open Mine
local macro_rules | `(tactic| walk_at "call ref") => `(tactic| (k_here; (with_reducible show wpAny _ _ (call (Value.ref 66) _) _ _ _); k_dflt ((refine' TellA.use (c_at _ _ _ _) ?k1 ?k2 ?k3 ?k4 ?k5 ?kK ?kd ?ku ?kl ?ki ?kz ?_; (case k1 => k_asm); (case k2 => k_asm); (case k3 => k_asm); (case k4 => k_asm); (case k5 => k_asm); (case kK => first | exact rfl | assumption); (case kd => ktr_room); (case ku => ktr_units); (case kl => assumption); (case ki => assumption); (case kz => assumption); intro t9 h9 tk9 F9 N9; (try k_sweep); (try dsimp only); (try k_fold)))))
local macro_rules | `(tactic| walk_at "call ref") => `(tactic| (k_here; (with_reducible show wpAny _ _ (call (Value.ref 21) _) _ _ _); k_dflt ((first | ((refine' TellK.use (c_signed _ _ _ _ "byte" 128 _ _ _ (by (first | exact .inl ⟨rfl, rfl⟩ | exact .inr ⟨rfl, rfl⟩)) (by omega) (by omega)) ?k1 ?k2 ?k3 ?k4 ?k5 ?kK ?kd ?ku ?_; (case k1 => k_asm); (case k2 => k_asm); (case k3 => k_asm); (case k4 => k_asm); (case k5 => k_asm); (case kK => first | exact rfl | assumption); (case kd => ktr_room); (case ku => ktr_units); intro r9 h9 tk9 F9 N9; (try k_sweep); intro O9)) | ((refine' TellK.use (c_signed _ _ _ _ "short" 32768 _ _ _ (by (first | exact .inl ⟨rfl, rfl⟩ | exact .inr ⟨rfl, rfl⟩)) (by omega) (by omega)) ?k1 ?k2 ?k3 ?k4 ?k5 ?kK ?kd ?ku ?_; (case k1 => k_asm); (case k2 => k_asm); (case k3 => k_asm); (case k4 => k_asm); (case k5 => k_asm); (case kK => first | exact rfl | assumption); (case kd => ktr_room); (case ku => ktr_units); intro r9 h9 tk9 F9 N9; (try k_sweep); intro O9))); (((rename_i O9; rcases O9 with ⟨t9, a9, b9, e9⟩ | ⟨t9, a9, b9, e9⟩ | ⟨a9, e9⟩); all_goals first | (exfalso; omega) | ((rename_i e9; subst e9); (try dsimp only); (try k_fold)))))))
local macro_rules | `(tactic| walk_at "call ref") => `(tactic| (k_here; (with_reducible show wpAny _ _ (call (Value.ref 28) _) _ _ _); k_dflt ((first | ((refine' TellK.use (c_unsigned _ _ _ _ "byte" 128 _ _ _ (by (first | exact .inl ⟨rfl, rfl⟩ | exact .inr ⟨rfl, rfl⟩)) (by omega) (by omega)) ?k1 ?k2 ?k3 ?k4 ?k5 ?kK ?kd ?ku ?_; (case k1 => k_asm); (case k2 => k_asm); (case k3 => k_asm); (case k4 => k_asm); (case k5 => k_asm); (case kK => first | exact rfl | assumption); (case kd => ktr_room); (case ku => ktr_units); intro r9 h9 tk9 F9 N9; (try k_sweep); intro O9)) | ((refine' TellK.use (c_unsigned _ _ _ _ "short" 32768 _ _ _ (by (first | exact .inl ⟨rfl, rfl⟩ | exact .inr ⟨rfl, rfl⟩)) (by omega) (by omega)) ?k1 ?k2 ?k3 ?k4 ?k5 ?kK ?kd ?ku ?_; (case k1 => k_asm); (case k2 => k_asm); (case k3 => k_asm); (case k4 => k_asm); (case k5 => k_asm); (case kK => first | exact rfl | assumption); (case kd => ktr_room); (case ku => ktr_units); intro r9 h9 tk9 F9 N9; (try k_sweep); intro O9))); (((rename_i O9; rcases O9 with ⟨t9, a9, b9, e9⟩ | ⟨t9, a9, b9, e9⟩ | ⟨a9, e9⟩); all_goals first | (exfalso; omega) | ((rename_i e9; subst e9); (try dsimp only); (try k_fold)))))))
local macro_rules | `(tactic| walk_at "call ref") => `(tactic| (k_here; (with_reducible show wpAny _ _ (call (Value.ref 101) _) _ _ _); k_dflt (((refine' TellL.use (c_number _ _ _ _ _ _) ?k1 ?k2 ?k3 ?k4 ?k5 ?kK ?kd ?ku ?kP ?_; (case k1 => k_asm); (case k2 => k_asm); (case k3 => k_asm); (case k4 => k_asm); (case k5 => k_asm); (case kK => first | exact rfl | assumption); (case kd => ktr_room); (case ku => ktr_units); (case kP => first | exact rfl | exact ⟨_, _, rfl, News.isList (by k_asm) (by k_mem), by assumption⟩); intro r9 h9 tk9 F9 N9; (try k_sweep); intro O9)); (((rename_i O9; subst O9); (try dsimp only); (try k_fold))))))
local macro_rules | `(tactic| walk_at "call ref") => `(tactic| (k_here; (with_reducible show wpAny _ _ (call (Value.ref 106) _) _ _ _); k_dflt (refine' TellL.use (c_text _ _ _ _ _ ?hz ?hb) ?k1 ?k2 ?k3 ?k4 ?k5 ?kK ?kd ?ku ?kP ?_; (case k1 => k_asm); (case k2 => k_asm); (case k3 => k_asm); (case k4 => k_asm); (case k5 => k_asm); (case kK => first | exact rfl | assumption); (case kd => ktr_room); (case ku => ktr_units); (case kP => exact ⟨_, _, rfl, News.isList (by k_asm) (by k_mem), by assumption⟩); (case hz => simp only [List.length_map]; exact lenR _); (case hb => first | exact bnd300 _ _ | exact bnd256 _); intro r9 h9 tk9 F9 N9; (try k_sweep); intro O9; (((rename_i O9; subst O9); (try dsimp only); (try k_fold))))))
local macro_rules | `(tactic| walk_at "call ref") => `(tactic| (k_here; (with_reducible show wpAny _ _ (call (Value.ref 111) _) _ _ _); k_dflt (refine' TellL.use (c_row _ _ _ _ _ ?hz) ?k1 ?k2 ?k3 ?k4 ?k5 ?kK ?kd ?ku ?kP ?_; (case k1 => k_asm); (case k2 => k_asm); (case k3 => k_asm); (case k4 => k_asm); (case k5 => k_asm); (case kK => first | exact rfl | assumption); (case kd => ktr_room); (case ku => ktr_units); (case kP => exact ⟨_, _, rfl, News.isList (by k_asm) (by k_mem), by assumption⟩); (case hz => simp only [List.length_map]; exact lenR _); intro r9 h9 tk9 F9 N9; (try k_sweep); intro O9; (((rename_i O9; subst O9); (try dsimp only); (try k_fold))))))
local macro_rules | `(tactic| walk_at "call ref") => `(tactic| (k_here; (with_reducible show wpAny _ _ (call (Value.ref 118) _) _ _ _); k_dflt (first | (refine' TellL.use (c_bounded _ _ _ _ _ _ _ _ _ _ ?z1 ?z2 ?z3 ?z4) ?k1 ?k2 ?k3 ?k4 ?k5 ?kK ?kd ?ku ?kP ?_; (case k1 => k_asm); (case k2 => k_asm); (case k3 => k_asm); (case k4 => k_asm); (case k5 => k_asm); (case kK => first | exact rfl | assumption); (case kd => ktr_room); (case ku => ktr_units); (case kP => exact rfl); (case z1 => exact bl1 _); (case z2 => exact bl2 _); (case z3 => exact bh1 _ _); (case z4 => exact bh2 _ _); intro r9 h9 tk9 F9 N9; (try k_sweep); intro O9; (((rename_i O9; subst O9); (try dsimp only); (try k_fold)))) | (((refine' TellL.use (c_boundedS _ _ _ _ _ _ _ _ _) ?k1 ?k2 ?k3 ?k4 ?k5 ?kK ?kd ?ku ?kP ?_; (case k1 => k_asm); (case k2 => k_asm); (case k3 => k_asm); (case k4 => k_asm); (case k5 => k_asm); (case kK => first | exact rfl | assumption); (case kd => ktr_room); (case ku => ktr_units); (case kP => first | exact rfl | exact ⟨_, _, rfl, News.isList (by k_asm) (by k_mem), by assumption⟩); intro r9 h9 tk9 F9 N9; (try k_sweep); intro O9)); (((rename_i O9; subst O9); (try dsimp only); (try k_fold)))) | (((refine' TellL.use (c_boundedN _ _ _ _ _ _ _ _) ?k1 ?k2 ?k3 ?k4 ?k5 ?kK ?kd ?ku ?kP ?_; (case k1 => k_asm); (case k2 => k_asm); (case k3 => k_asm); (case k4 => k_asm); (case k5 => k_asm); (case kK => first | exact rfl | assumption); (case kd => ktr_room); (case ku => ktr_units); (case kP => first | exact rfl | exact ⟨_, _, rfl, News.isList (by k_asm) (by k_mem), by assumption⟩); intro r9 h9 tk9 F9 N9; (try k_sweep); intro O9)); (((rename_i O9; subst O9); (try dsimp only); (try k_fold)))))))
local macro_rules | `(tactic| walk_at "call ref") => `(tactic| (k_here; (with_reducible show wpAny _ _ (call (Value.ref 125) _) _ _ _); k_dflt (first | (((refine' TellL.use (c_wordedS _ _ _ _ _ _) ?k1 ?k2 ?k3 ?k4 ?k5 ?kK ?kd ?ku ?kP ?_; (case k1 => k_asm); (case k2 => k_asm); (case k3 => k_asm); (case k4 => k_asm); (case k5 => k_asm); (case kK => first | exact rfl | assumption); (case kd => ktr_room); (case ku => ktr_units); (case kP => first | exact rfl | exact ⟨_, _, rfl, News.isList (by k_asm) (by k_mem), by assumption⟩); intro r9 h9 tk9 F9 N9; (try k_sweep); intro O9)); (((rename_i O9; subst O9); (try dsimp only); (try k_fold)))) | (((refine' TellL.use (c_wordedI _ _ _ _ _ _) ?k1 ?k2 ?k3 ?k4 ?k5 ?kK ?kd ?ku ?kP ?_; (case k1 => k_asm); (case k2 => k_asm); (case k3 => k_asm); (case k4 => k_asm); (case k5 => k_asm); (case kK => first | exact rfl | assumption); (case kd => ktr_room); (case ku => ktr_units); (case kP => first | exact rfl | exact ⟨_, _, rfl, News.isList (by k_asm) (by k_mem), by assumption⟩); intro r9 h9 tk9 F9 N9; (try k_sweep); intro O9)); (((rename_i O9; subst O9); (try dsimp only); (try k_fold)))) | (((refine' TellL.use (c_wordedN _ _ _ _) ?k1 ?k2 ?k3 ?k4 ?k5 ?kK ?kd ?ku ?kP ?_; (case k1 => k_asm); (case k2 => k_asm); (case k3 => k_asm); (case k4 => k_asm); (case k5 => k_asm); (case kK => first | exact rfl | assumption); (case kd => ktr_room); (case ku => ktr_units); (case kP => first | exact rfl | exact ⟨_, _, rfl, News.isList (by k_asm) (by k_mem), by assumption⟩); intro r9 h9 tk9 F9 N9; (try k_sweep); intro O9)); (((rename_i O9; subst O9); (try dsimp only); (try k_fold)))))))
local macro_rules | `(tactic| walk_at "callWith ref") => `(tactic| (k_here; (with_reducible show wpAny _ _ (callWith _ (Value.ref 59) _ _ _) _ _ _); k_dflt (refine' callWith_K0 (kin_at (by assumption) (by assumption)) ?k2 ?_; (case k2 => k_is); k_whole)))
local macro_rules | `(tactic| walk_at "call ref") => `(tactic| (k_here; (with_reducible show wpAny _ _ (call (Value.ref 59) _) _ _ _); k_dflt ((refine' TellE.use (c_edges _ _ _ _) ?k1 ?k2 ?k3 ?k4 ?k5 ?kK ?kd ?ku ?_; (case k1 => k_asm); (case k2 => k_asm); (case k3 => k_asm); (case k4 => k_asm); (case k5 => k_asm); (case kK => first | exact rfl | assumption); (case kd => ktr_room); (case ku => ktr_units); intro l9 vs9 ns9 nn9 h9 tk9 I9 L9 F9 N9; (try k_sweep); (try dsimp only); (try k_fold)))))
local macro_rules | `(tactic| walk_at "subscriptTail") => `(tactic| (k_here; (with_reducible show wpAny _ _ (subscriptTail _ _ (Value.ref _) (Value.int _ _)) _ _ _); k_dflt (refine item_mod18 (News.isList (by k_asm) (by k_mem)) (by assumption) (by assumption) ?_; intro n9 t9)))
local macro_rules | `(tactic| walk_at "eval ListComp") => `(tactic| (k_here; (with_reducible show wpAny _ _ (eval (Expr.ListComp (Expr.BinOp (Expr.Name (PySem.Str.ofString "octet") _) _ _ _) _ _ _) _) _ _ _); k_dflt (refine LCg.ListComp_U (F₀ := by k_asm) (by with_unfolding_all rfl) (by decide) (by rfl) (by decide) (by rfl) ?_)))
local macro_rules | `(tactic| walk_at "CompSrc") => `(tactic| (k_here; (with_reducible show LCg.CompSrc _ _ _ _ _ _ _ (Expr.BinOp (Expr.Name (PySem.Str.ofString "octet") _) _ _ _) _ _ _ _ _ _); k_dflt (refine LCg.CompSrc.ledger (by rfl) (by k_asm) (by k_asm) (by k_mem) (by exact size_of (by assumption) (Nat.le_trans (by simp only [List.length_map]; exact lenR _) (by decide))) ?_; intro g'; refine' kcf_list (fun k => k.fmod 256) (by assumption) (fun k' t' I' oI' C' oC' D' m' ys' h' tk' E' hk' hC' hx' F' N' off' ne' hMark' => ?_) ?_; (all_goals (try (simp only [LCg.Off3, and_true] at off'))); (all_goals (try k_fold)))))
theorem Mine.z1000 {vs : List Value} {ns : List Int} (hi0 : IntsAre vs ns) (h : ns.length ≤ 1000) : ns.length ≤ 1000 := h
set_option maxRecDepth 100000 in
set_option maxHeartbeats 64000000 in
theorem PySem.Challenge.cw_aa6021_01_holds : PySem.Challenge.rw_aa6021_01.Holds := by
  refine Mine.hd ?_
  w_strict (k_go0; (have hz9 := Mine.z1000 (by assumption) (by (have h6 := IntsAre.length (by assumption)); omega)); (all_goals try k_fold); k_steps; (all_goals (try k_data)); all_goals w_report)
